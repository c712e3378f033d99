/- Sweeps: the slots of a loop, byte by byte. -/
import Derived.Test.YtpefmbpjanafkaaGreatDoorSnWa
set_option linter.unusedVariables false
set_option linter.unusedSimpArgs false
namespace Go.AM
noncomputable def conc (sv : Nat → List UInt8) : AV → AV
  | .sstr l => .str (den sv l)
  | .lin c ts => .int .i64 (c + tval sv ts)
  | x => x
/-- A slot when the bytes p of the word are gone over. -/
noncomputable def slotW (sv : Nat → List UInt8) (P : Pl) (p : List UInt8) : Kd → AV → AV
  | .same, x => x
  | .text, x => conc sv x
  | .idx, x => match toLin x with
    | some n => .int .i64 (n.1 + tval sv n.2 + (imgL P.m p).length)
    | none => .any
  | .acc m', x => match toSegs x with
    | some l => .str (den sv l ++ imgL m' p)
    | none => .any
  | .num, _ => .num .i64
  | .rlen, x => match x with
    | .rsl id o os c ts => .rsl id o os (c + tval sv ts + (imgL P.m p).length) []
    | _ => .any
  | .rtext, x => match x with
    | .rsl id o os c ts => .rsl id o os (c + tval sv ts) []
    | _ => .any
  | .any, _ => .any
/-- A slice of a row, told anew. -/
theorem rsl_move {g g' : Ghost} {id : Nat} {o c c' : Int} {os ts ts' : List Tm} {v : Value} (h : VR g (.rsl id o os c ts) v) (hO : TsOK g'.sv os) (ho : tval g'.sv os = tval g.sv os) (hT : TsOK g'.sv ts') (he : c + tval g.sv ts = c' + tval g'.sv ts') (hn : g.next ≤ g'.next) (hπ : ∀ x, g'.π id = some x → g.π id = some x) : VR g' (.rsl id o os c' ts') v := by
  cases h with
  | rsl _ _ _ _ _ a off len cp q1 q2 q3 q4 q5 q6 q7 q8 =>
  exact .rsl _ _ _ _ _ a off len cp hO hT (by rw [ho]; exact q3) (by rw [q4, he]) q5 (Nat.lt_of_lt_of_le q6 hn) (fun b n hp => q7 b n (hπ _ hp)) q8
theorem rsl_ts {g : Ghost} {id : Nat} {o c : Int} {os ts : List Tm} {v : Value} (h : VR g (.rsl id o os c ts) v) : TsOK g.sv os ∧ TsOK g.sv ts := by
  cases h with
  | rsl _ _ _ _ _ a off len cp q1 q2 q3 q4 q5 q6 q7 q8 => exact ⟨q1, q2⟩
theorem isI64_ok {x : AV} (h : isI64 x = true) : numKind x = some .i64 := by
  unfold isI64 at h
  split at h
  · rename_i k hk; rw [hk, of_decide_eq_true h]
  · cases h
theorem isI64_num {g : Ghost} {x : AV} {v : Value} (h : isI64 x = true) (hv : VR g x v) {g' : Ghost} : VR g' (.num .i64) v := by
  obtain ⟨n, rfl⟩ := numKind_ok hv (isI64_ok h)
  exact .num _ _
/-- What the plan says is so. -/
structure PlOk (g : Ghost) (P : Pl) : Prop where
  m : P.m < 16
  B : P.B < P.B1
  mod : P.B1 % 16 = P.B % 16
  lo : P.lo ≤ (imgL P.m (g.bv P.B)).length
  hi : (imgL P.m (g.bv P.B)).length ≤ P.hi
section
variable {g : Ghost} {P : Pl}
theorem slot_start {k : Kd} {x : AV} {v : Value} (hk : kdOk P k x = true) (hv : VR g x v) : VR g (slotW g.sv P [] k x) v := by
  cases k with
  | same => exact hv
  | text =>
    simp only [kdOk, Bool.and_eq_true] at hk
    cases x <;> simp only [Bool.false_eq_true, and_false] at hk
    · cases hv; exact .str _
    · cases hv; exact .int _ _
  | idx =>
    simp only [kdOk] at hk
    show VR g (match toLin x with | some n => _ | none => _) v
    split at hk
    · rename_i c ts hl
      obtain ⟨_, rfl⟩ := sym_lin hv hl
      rw [hl]
      simp only [imgL, List.flatMap_nil, List.length_nil, Int.natCast_zero, Int.add_zero, Int.ofNat_zero]
      exact .int _ _
    · cases hk
  | acc m' =>
    simp only [kdOk] at hk
    show VR g (match toSegs x with | some l => _ | none => _) v
    split at hk
    · rename_i l hl
      obtain ⟨_, rfl⟩ := sym_segs hv hl
      rw [hl]
      simp only [imgL, List.flatMap_nil, List.append_nil]
      exact .str _
    · cases hk
  | num => exact isI64_num hk hv
  | rlen =>
    simp only [kdOk] at hk
    split at hk
    case h_2 => cases hk
    rename_i id o os c ts
    obtain ⟨q1, q2⟩ := rsl_ts hv
    show VR g (.rsl id o os (c + tval g.sv ts + ((imgL P.m []).length : Nat)) []) v
    exact rsl_move hv q1 rfl trivial (by simp [imgL, tval]) (Nat.le_refl _) (fun _ h => h)
  | rtext =>
    simp only [kdOk] at hk
    split at hk
    case h_2 => cases hk
    rename_i id o os c ts
    obtain ⟨q1, q2⟩ := rsl_ts hv
    show VR g (.rsl id o os (c + tval g.sv ts) []) v
    exact rsl_move hv q1 rfl trivial (by simp [tval]) (Nat.le_refl _) (fun _ h => h)
  | any => exact .any _
theorem slot_fin {k : Kd} {x : AV} {v v0 : Value} (hP : PlOk g P) (hk : kdOk P k x = true) (hx : VR g x v0) {gi : Ghost} (hb : gi.bv = g.bv) (hv : VR gi (slotW g.sv P (g.bv P.B) k x) v) : VR gi (slotZ P k x) v := by
  have hsv : gi.sv = g.sv := by unfold Ghost.sv; rw [hb]
  have hw : ∀ m, m < 16 → gi.sv (16 * P.B + m) = imgL m (g.bv P.B) := by
    intro m hm
    unfold Ghost.sv
    rw [hb, show (16 * P.B + m) / 16 = P.B by omega, show (16 * P.B + m) % 16 = m by omega]; rfl
  cases k with
  | same => exact hv
  | text =>
    simp only [kdOk, Bool.and_eq_true] at hk
    cases x <;> simp only [Bool.false_eq_true, and_false] at hk
    · rename_i l
      cases hx with
      | sstr _ hok =>
      have hv : VR gi (.str (den g.sv l)) v := hv
      cases hv
      show VR gi (.sstr l) _
      rw [← hsv] at hok ⊢
      exact .sstr _ hok
    · rename_i c ts
      cases hx with
      | lin _ _ hok =>
      have hv : VR gi (.int .i64 (c + tval g.sv ts)) v := hv
      cases hv
      show VR gi (.lin c ts) _
      rw [← hsv] at hok ⊢
      exact .lin _ _ hok
  | idx =>
    simp only [kdOk] at hk
    have hv : VR gi (match toLin x with | some n => .int .i64 (n.1 + tval g.sv n.2 + (imgL P.m (g.bv P.B)).length) | none => .any) v := hv
    split at hk
    · rename_i c ts hl
      obtain ⟨hts, _⟩ := sym_lin hx hl
      rw [hl] at hv
      cases hv
      show VR gi (adv x 0 _) _
      unfold adv
      rw [hl]
      rw [← hsv] at hts ⊢
      have h1 := hw P.m hP.m
      obtain ⟨a1, a2⟩ := addTs_ok (sv := gi.sv) (a := ts) (b := [⟨16 * P.B + P.m, 1, P.lo, P.hi⟩]) hts ⟨⟨by rw [h1]; exact hP.lo, by rw [h1]; exact hP.hi⟩, trivial⟩
      have := VR_mkLin (g := gi) (c := c + 0) a1
      simp only [tval, Int.one_mul, Int.add_zero, h1] at a2 this ⊢
      rw [a2] at this
      rw [show c + tval gi.sv ts + ((imgL P.m (g.bv P.B)).length : Int) = c + (tval gi.sv ts + ((imgL P.m (g.bv P.B)).length : Int)) by omega]
      exact this
    · cases hk
  | acc m' =>
    simp only [kdOk] at hk
    have hv : VR gi (match toSegs x with | some l => .str (den g.sv l ++ imgL m' (g.bv P.B)) | none => .any) v := hv
    split at hk
    · rename_i l hl
      simp only [Bool.and_eq_true, Nat.blt_eq] at hk
      obtain ⟨hok, _⟩ := sym_segs hx hl
      rw [hl] at hv
      cases hv
      show VR gi (grow x _) _
      unfold grow
      rw [hl]
      rw [← hsv] at hok ⊢
      have h1 := hw m' hk.2
      have l1 := imgL_len m' (g.bv P.B)
      have l2 := imgL_len P.m (g.bv P.B)
      have := hP.lo
      have := hP.hi
      have hcl : ∀ c ∈ gi.sv (16 * P.B + m'), c ∈ imgCls m' (clsT (P.B % 16)) := by rw [h1]; exact imgL_mem (g.bok P.B)
      have hlo : cond (Nat.beq P.lo 0) 0 1 ≤ (gi.sv (16 * P.B + m')).length := by
        rw [h1]
        cases hb0 : Nat.beq P.lo 0 with
        | true => exact Nat.zero_le _
        | false =>
          have : P.lo ≠ 0 := fun e => by rw [e] at hb0; cases hb0
          show 1 ≤ _
          omega
      have hw2 : SegsOK gi.sv [.w (16 * P.B + m') (imgCls m' (clsT (P.B % 16))) (cond (Nat.beq P.lo 0) 0 1) (mulHi m' P.hi)] := ⟨⟨hlo, by rw [h1]; exact mulHi_ok (by omega), hcl⟩, trivial⟩
      have := VR.sstr (g := gi) _ (SegsOK_append hok hw2)
      rw [den_append] at this
      simp only [den, List.append_nil, h1] at this
      exact this
    · cases hk
  | num =>
    have hv : VR gi (.num .i64) v := hv
    cases hv
    exact .num _ _
  | rlen =>
    simp only [kdOk] at hk
    split at hk
    case h_2 => cases hk
    rename_i id o os c ts
    obtain ⟨q1, q2⟩ := rsl_ts hx
    have hv : VR gi (.rsl id o os (c + tval g.sv ts + ((imgL P.m (g.bv P.B)).length : Nat)) []) v := hv
    rw [← hsv] at q1 q2 hv
    have h1 := hw P.m hP.m
    obtain ⟨a1, a2⟩ := addTs_ok (sv := gi.sv) (a := ts) (b := [⟨16 * P.B + P.m, 1, P.lo, P.hi⟩]) q2 ⟨⟨by rw [h1]; exact hP.lo, by rw [h1]; exact hP.hi⟩, trivial⟩
    show VR gi (.rsl id o os (c + 0) (addTs ts [⟨16 * P.B + P.m, 1, P.lo, P.hi⟩])) v
    simp only [tval, Int.one_mul, Int.add_zero, h1] at a2
    exact rsl_move hv q1 rfl a1 (by rw [a2]; simp only [tval]; omega) (Nat.le_refl _) (fun _ h => h)
  | rtext =>
    simp only [kdOk] at hk
    split at hk
    case h_2 => cases hk
    rename_i id o os c ts
    obtain ⟨q1, q2⟩ := rsl_ts hx
    have hv : VR gi (.rsl id o os (c + tval g.sv ts) []) v := hv
    rw [← hsv] at q1 q2 hv
    show VR gi (.rsl id o os c ts) v
    exact rsl_move hv q1 rfl q2 (by simp [tval]) (Nat.le_refl _) (fun _ h => h)
  | any => exact .any _
variable {p r : List UInt8} {c : UInt8}
theorem slot_in {k : Kd} {x : AV} {v v0 : Value} (hP : PlOk g P) (hs : g.bv P.B = p ++ [c] ++ r) (hk : kdOk P k x = true) (hx : VR g x v0) {gi : Ghost} (hb : gi.bv = g.bv) (hu) (hr) (hv : VR gi (slotW g.sv P p k x) v) : VR (gi.re P.B1 p r hu hr) (slotG P [c] k x) v := by
  have hsv : gi.sv = g.sv := by unfold Ghost.sv; rw [hb]
  have hag : Agree (16 * P.B1) gi (gi.re P.B1 p r hu hr) := re_agree
  have a0 : ∀ k, k < 16 * P.B1 → (gi.re P.B1 p r hu hr).sv k = g.sv k := fun k h => by rw [hag.sv k h, hsv]
  have a1 : ∀ m, m < 16 → (gi.re P.B1 p r hu hr).sv (16 * P.B1 + m) = imgL m p := fun m h => re_sv1 h
  have a2 : ∀ m, m < 16 → (gi.re P.B1 p r hu hr).sv (16 * (P.B1 + 16) + m) = imgL m r := fun m h => re_sv2 h
  have hBB : ∀ m, m < 16 → g.sv (16 * P.B + m) = imgL m (p ++ [c] ++ r) := by
    intro m hm
    unfold Ghost.sv
    rw [show (16 * P.B + m) / 16 = P.B by omega, show (16 * P.B + m) % 16 = m by omega, hs]; rfl
  have hhi := hP.hi
  rw [hs, imgL_append, imgL_append] at hhi
  simp only [List.length_append] at hhi
  generalize (gi.re P.B1 p r hu hr) = gt at *
  cases k with
  | same => exact hv.agree hag hk
  | text =>
    simp only [kdOk, Bool.and_eq_true] at hk
    cases x <;> simp only [Bool.false_eq_true, and_false] at hk
    · rename_i l
      cases hx with
      | sstr _ hok =>
      have hv : VR gi (.str (den g.sv l)) v := hv
      cases hv
      obtain ⟨s1, s2⟩ := spSeg_ok a0 a1 a2 hBB (l := l) (by simpa [ltW] using hk.1) hok
      rw [← s2]
      exact .sstr _ s1
    · rename_i d ts
      cases hx with
      | lin _ _ hok =>
      have hv : VR gi (.int .i64 (d + tval g.sv ts)) v := hv
      cases hv
      obtain ⟨s1, s2⟩ := spTs_ok a0 a1 a2 hBB (l := ts) (by simpa [ltW] using hk.1) hok
      have := VR_mkLin (g := gt) (c := d + (spTs P.B P.B1 [c] ts).1) s1
      rw [show d + tval g.sv ts = d + (spTs P.B P.B1 [c] ts).1 + tval gt.sv (spTs P.B P.B1 [c] ts).2 by omega]
      exact this
  | idx =>
    simp only [kdOk] at hk
    have hv : VR gi (match toLin x with | some n => .int .i64 (n.1 + tval g.sv n.2 + (imgL P.m p).length) | none => .any) v := hv
    split at hk
    · rename_i d ts hl
      obtain ⟨hts, _⟩ := sym_lin hx hl
      rw [hl] at hv
      cases hv
      show VR gt (adv x 0 _) _
      unfold adv
      rw [hl]
      have hts' := TsOK_agree a0 hk hts
      have hv' := tval_agree a0 hk
      have h1 := a1 P.m hP.m
      obtain ⟨b1, b2⟩ := addTs_ok (sv := gt.sv) (a := ts) (b := [⟨16 * P.B1 + P.m, 1, 0, P.hi - (imgL P.m [c]).length⟩]) hts' ⟨⟨Nat.zero_le _, by rw [h1]; show (imgL P.m p).length ≤ P.hi - (imgL P.m [c]).length; omega⟩, trivial⟩
      have := VR_mkLin (g := gt) (c := d + 0) b1
      simp only [tval, Int.one_mul, Int.add_zero, h1] at b2 this ⊢
      rw [b2, hv'] at this
      rw [show d + tval g.sv ts + ((imgL P.m p).length : Int) = d + (tval g.sv ts + ((imgL P.m p).length : Int)) by omega]
      exact this
    · cases hk
  | acc m' =>
    simp only [kdOk] at hk
    have hv : VR gi (match toSegs x with | some l => .str (den g.sv l ++ imgL m' p) | none => .any) v := hv
    split at hk
    · rename_i l hl
      simp only [Bool.and_eq_true, Nat.blt_eq] at hk
      obtain ⟨hok, _⟩ := sym_segs hx hl
      rw [hl] at hv
      cases hv
      show VR gt (grow x _) _
      unfold grow
      rw [hl]
      have hok' := SegsOK_agree a0 hk.1 hok
      have hd := den_agree a0 hk.1
      have h1 := a1 m' hk.2
      have l1 := imgL_len m' p
      have l2 := imgL_len P.m p
      have hcl : ∀ c ∈ gt.sv (16 * P.B1 + m'), c ∈ imgCls m' (clsT (P.B % 16)) := by
        rw [h1]; exact imgL_mem fun d hd => by rw [← hP.mod]; exact hu d hd
      have hw2 : SegsOK gt.sv [.w (16 * P.B1 + m') (imgCls m' (clsT (P.B % 16))) 0 (mulHi m' P.hi)] := ⟨⟨Nat.zero_le _, by rw [h1]; exact mulHi_ok (by omega), hcl⟩, trivial⟩
      have := VR.sstr (g := gt) _ (SegsOK_append hok' hw2)
      rw [den_append] at this
      simp only [den, List.append_nil, h1, hd] at this
      exact this
    · cases hk
  | num =>
    have hv : VR gi (.num .i64) v := hv
    cases hv
    exact .num _ _
  | rlen =>
    have hnx : gi.next ≤ gt.next := by rw [hag.next]; exact Nat.le_refl _
    have hpi : ∀ id x, gt.π id = some x → gi.π id = some x := fun id x h => by rw [hag.π] at h; exact h
    simp only [kdOk] at hk
    split at hk
    case h_2 => cases hk
    rename_i id o os d ts
    simp only [Bool.and_eq_true] at hk
    obtain ⟨q1, q2⟩ := rsl_ts hx
    have hv : VR gi (.rsl id o os (d + tval g.sv ts + ((imgL P.m p).length : Nat)) []) v := hv
    have h1 := a1 P.m hP.m
    have hts' := TsOK_agree a0 hk.2 q2
    have hv' := tval_agree a0 hk.2
    obtain ⟨b1, b2⟩ := addTs_ok (sv := gt.sv) (a := ts) (b := [⟨16 * P.B1 + P.m, 1, 0, P.hi - (imgL P.m [c]).length⟩]) hts' ⟨⟨Nat.zero_le _, by rw [h1]; show (imgL P.m p).length ≤ P.hi - (imgL P.m [c]).length; omega⟩, trivial⟩
    show VR gt (.rsl id o os (d + 0) (addTs ts [⟨16 * P.B1 + P.m, 1, 0, P.hi - (imgL P.m [c]).length⟩])) v
    simp only [tval, Int.one_mul, Int.add_zero, h1] at b2
    exact rsl_move hv (TsOK_agree a0 hk.1 q1) (by rw [tval_agree a0 hk.1, hsv]) b1 (by rw [b2, hv']; simp only [tval]; omega) hnx (hpi id)
  | rtext =>
    have hnx : gi.next ≤ gt.next := by rw [hag.next]; exact Nat.le_refl _
    have hpi : ∀ id x, gt.π id = some x → gi.π id = some x := fun id x h => by rw [hag.π] at h; exact h
    simp only [kdOk] at hk
    split at hk
    case h_2 => cases hk
    rename_i id o os d ts
    simp only [Bool.and_eq_true] at hk
    obtain ⟨q1, q2⟩ := rsl_ts hx
    have hv : VR gi (.rsl id o os (d + tval g.sv ts) []) v := hv
    obtain ⟨s1, s2⟩ := spTs_ok a0 a1 a2 hBB (l := ts) hk.2 q2
    show VR gt (.rsl id o os (d + (spTs P.B P.B1 [c] ts).1) (spTs P.B P.B1 [c] ts).2) v
    exact rsl_move hv (TsOK_agree a0 hk.1 q1) (by rw [tval_agree a0 hk.1, hsv]) s1 (by simp only [tval]; omega) hnx (hpi id)
  | any => exact .any _
theorem slot_out {k : Kd} {x y : AV} {v v0 : Value} (hP : PlOk g P) (hs : g.bv P.B = p ++ [c] ++ r) (hk : kdOk P k x = true) (hx : VR g x v0) {gi g4 : Ghost} (hb : gi.bv = g.bv) (hu) (hr) (h4 : g4.bv = (gi.re P.B1 p r hu hr).bv) (hy : VR g4 y v) (hkd : kdSame k y (slotE P [c] k x) = true) : VR (g4.back g) (slotW g.sv P (p ++ [c]) k x) v := by
  have hsv : gi.sv = g.sv := by unfold Ghost.sv; rw [hb]
  have h4sv : g4.sv = (gi.re P.B1 p r hu hr).sv := by unfold Ghost.sv; rw [h4]
  have hag : Agree (16 * P.B1) gi (gi.re P.B1 p r hu hr) := re_agree
  have a0 : ∀ k, k < 16 * P.B1 → g4.sv k = g.sv k := fun k h => by rw [h4sv, hag.sv k h, hsv]
  have a1 : ∀ m, m < 16 → g4.sv (16 * P.B1 + m) = imgL m p := fun m h => by rw [h4sv]; exact re_sv1 h
  have a2 : ∀ m, m < 16 → g4.sv (16 * (P.B1 + 16) + m) = imgL m r := fun m h => by rw [h4sv]; exact re_sv2 h
  have hBB : ∀ m, m < 16 → g.sv (16 * P.B + m) = imgL m (p ++ [c] ++ r) := by
    intro m hm
    unfold Ghost.sv
    rw [show (16 * P.B + m) / 16 = P.B by omega, show (16 * P.B + m) % 16 = m by omega, hs]; rfl
  have hhi := hP.hi
  rw [hs, imgL_append, imgL_append] at hhi
  simp only [List.length_append] at hhi
  have hagb : Agree (16 * P.B1) g4 (g4.back g) := by
    refine ⟨fun k hk => ?_, rfl, rfl, rfl, rfl⟩
    rw [a0 k hk]; rfl
  cases k with
  | same =>
    have := beq_eq (show AV.beq y x = true from hkd)
    subst this
    exact hy.agree hagb hk
  | text =>
    replace hkd : uvSame y (spA P.B P.B1 [c] x) = true := hkd
    simp only [kdOk, Bool.and_eq_true] at hk
    cases x <;> simp only [Bool.false_eq_true, and_false] at hk
    · rename_i l
      cases hx with
      | sstr _ hok =>
      obtain ⟨s1, s2⟩ := spSeg_ok a0 a1 a2 hBB (l := l) (by simpa [ltW] using hk.1) hok
      have := uvSame_ok hkd hy (.sstr _ s1)
      rw [this, s2]
      exact .str _
    · rename_i d ts
      cases hx with
      | lin _ _ hok =>
      obtain ⟨s1, s2⟩ := spTs_ok a0 a1 a2 hBB (l := ts) (by simpa [ltW] using hk.1) hok
      have := uvSame_ok (y := mkLin (d + (spTs P.B P.B1 [c] ts).1) (spTs P.B P.B1 [c] ts).2) hkd hy (VR_mkLin s1)
      rw [this, show d + (spTs P.B P.B1 [c] ts).1 + tval g4.sv (spTs P.B P.B1 [c] ts).2 = d + tval g.sv ts by omega]
      exact .int _ _
  | idx =>
    simp only [kdOk] at hk
    replace hkd : uvSame y (adv x (imgL P.m [c]).length ⟨16 * P.B1 + P.m, 1, 0, P.hi - (imgL P.m [c]).length⟩) = true := hkd
    show VR _ (match toLin x with | some n => .int .i64 (n.1 + tval g.sv n.2 + (imgL P.m (p ++ [c])).length) | none => .any) v
    split at hk
    · rename_i d ts hl
      obtain ⟨hts, _⟩ := sym_lin hx hl
      rw [hl]
      unfold adv at hkd
      rw [hl] at hkd
      have hts' := TsOK_agree a0 hk hts
      have hv' := tval_agree a0 hk
      have h1 := a1 P.m hP.m
      obtain ⟨b1, b2⟩ := addTs_ok (sv := g4.sv) (a := ts) (b := [⟨16 * P.B1 + P.m, 1, 0, P.hi - (imgL P.m [c]).length⟩]) hts' ⟨⟨Nat.zero_le _, by rw [h1]; show (imgL P.m p).length ≤ P.hi - (imgL P.m [c]).length; omega⟩, trivial⟩
      have := uvSame_ok hkd hy (VR_mkLin b1)
      simp only [tval, Int.one_mul, Int.add_zero, h1] at b2
      rw [this, b2, hv', imgL_append, List.length_append]
      rw [show d + ((imgL P.m [c]).length : Int) + (tval g.sv ts + ((imgL P.m p).length : Int)) = d + tval g.sv ts + (((imgL P.m p).length + (imgL P.m [c]).length : Nat) : Int) by omega]
      exact .int _ _
    · cases hk
  | acc m' =>
    simp only [kdOk] at hk
    replace hkd : uvSame y (grow x (.w (16 * P.B1 + m') (imgCls m' (clsT (P.B % 16))) 0 (mulHi m' P.hi) :: putB (imgL m' [c]) [])) = true := hkd
    show VR _ (match toSegs x with | some l => .str (den g.sv l ++ imgL m' (p ++ [c])) | none => .any) v
    split at hk
    · rename_i l hl
      simp only [Bool.and_eq_true, Nat.blt_eq] at hk
      obtain ⟨hok, _⟩ := sym_segs hx hl
      rw [hl]
      unfold grow at hkd
      rw [hl] at hkd
      have hok' := SegsOK_agree a0 hk.1 hok
      have hd := den_agree a0 hk.1
      have h1 := a1 m' hk.2
      have l1 := imgL_len m' p
      have l2 := imgL_len P.m p
      have hcl : ∀ c ∈ g4.sv (16 * P.B1 + m'), c ∈ imgCls m' (clsT (P.B % 16)) := by
        rw [h1]; exact imgL_mem fun d hd => by rw [← hP.mod]; exact hu d hd
      obtain ⟨q1, q2⟩ := putB_ok (sv := g4.sv) (r := imgL m' [c]) (l := []) trivial
      have hw2 : SegsOK g4.sv (.w (16 * P.B1 + m') (imgCls m' (clsT (P.B % 16))) 0 (mulHi m' P.hi) :: putB (imgL m' [c]) []) := ⟨⟨Nat.zero_le _, by rw [h1]; exact mulHi_ok (by omega), hcl⟩, q1⟩
      have := uvSame_ok hkd hy (VR.sstr _ (SegsOK_append hok' hw2))
      rw [this, den_append, imgL_append]
      show VR _ _ (.string ⟨(den g4.sv l ++ (g4.sv (16 * P.B1 + m') ++ den g4.sv (putB (imgL m' [c]) []))).toArray⟩)
      rw [q2, h1, hd]
      simp only [den, List.append_nil, List.append_assoc]
      exact .str _
    · cases hk
  | num => exact isI64_num hkd hy
  | rlen =>
    replace hkd : rslSame y (growR x (imgL P.m [c]).length ⟨16 * P.B1 + P.m, 1, 0, P.hi - (imgL P.m [c]).length⟩) = true := hkd
    cases x <;> simp only [kdOk, Bool.false_eq_true] at hk
    rename_i id o os d ts
    simp only [Bool.and_eq_true] at hk
    obtain ⟨q1, q2⟩ := rsl_ts hx
    cases y <;> simp only [rslSame, growR, Bool.false_eq_true] at hkd
    rename_i i o2 os2 d2 ts2
    simp only [Bool.and_eq_true] at hkd
    obtain ⟨⟨⟨k1, k2⟩, k3⟩, k4⟩ := hkd
    have := Nat.eq_of_beq_eq_true k1
    subst this
    have k2 : o2 = o := by rw [eqI_eq] at k2; exact of_decide_eq_true k2
    subst k2
    have k3 := tmsBeq_eq k3
    subst k3
    have h1 := a1 P.m hP.m
    have hts' := TsOK_agree a0 hk.2 q2
    have hv' := tval_agree a0 hk.2
    obtain ⟨b1, b2⟩ := addTs_ok (sv := g4.sv) (a := ts) (b := [⟨16 * P.B1 + P.m, 1, 0, P.hi - (imgL P.m [c]).length⟩]) hts' ⟨⟨Nat.zero_le _, by rw [h1]; show (imgL P.m p).length ≤ P.hi - (imgL P.m [c]).length; omega⟩, trivial⟩
    have e2 := uvSame_ok k4 (VR.lin d2 ts2 (rsl_ts hy).2) (VR.lin _ _ b1)
    injection e2 with _ e2
    simp only [tval, Int.one_mul, Int.add_zero, h1] at b2
    show VR (g4.back g) (.rsl i o2 os2 (d + tval g.sv ts + ((imgL P.m (p ++ [c])).length : Nat)) []) v
    refine rsl_move hy (TsOK_agree hagb.sv hk.1 (rsl_ts hy).1) (tval_agree hagb.sv hk.1) trivial ?_ (Nat.le_refl _) (fun _ h => h)
    rw [e2, b2, hv', imgL_append, List.length_append]
    simp only [tval]
    push_cast
    omega
  | rtext =>
    cases x <;> simp only [kdOk, Bool.false_eq_true] at hk
    rename_i id o os d ts
    replace hkd : rslSame y (.rsl id o os (d + (spTs P.B P.B1 [c] ts).1) (spTs P.B P.B1 [c] ts).2) = true := hkd
    simp only [Bool.and_eq_true] at hk
    obtain ⟨q1, q2⟩ := rsl_ts hx
    cases y <;> simp only [rslSame, Bool.false_eq_true] at hkd
    rename_i i o2 os2 d2 ts2
    simp only [Bool.and_eq_true] at hkd
    obtain ⟨⟨⟨k1, k2⟩, k3⟩, k4⟩ := hkd
    have := Nat.eq_of_beq_eq_true k1
    subst this
    have k2 : o2 = o := by rw [eqI_eq] at k2; exact of_decide_eq_true k2
    subst k2
    have k3 := tmsBeq_eq k3
    subst k3
    obtain ⟨s1, s2⟩ := spTs_ok a0 a1 a2 hBB (l := ts) hk.2 q2
    have e2 := uvSame_ok k4 (VR.lin d2 ts2 (rsl_ts hy).2) (VR.lin _ _ s1)
    injection e2 with _ e2
    show VR (g4.back g) (.rsl i o2 os2 (d + tval g.sv ts) []) v
    refine rsl_move hy (TsOK_agree hagb.sv hk.1 (rsl_ts hy).1) (tval_agree hagb.sv hk.1) trivial ?_ (Nat.le_refl _) (fun _ h => h)
    rw [e2]
    simp only [tval]
    omega
  | any => exact .any _
end
end Go.AM
