/- Sweeps: words that are parted, and what lasts when the words' numbers are given anew. -/
import Derived.Test.YtpefmbpjanafkaaGreatDoorSnW
set_option linter.unusedVariables false
set_option linter.unusedSimpArgs false
namespace Go.AM
theorem pickB_len {c : UInt8} : ∀ {l : List (Nat × List UInt8)}, (∀ p ∈ l, 1 ≤ p.2.length ∧ p.2.length ≤ 6) → 1 ≤ (pickB c l).length ∧ (pickB c l).length ≤ 6
  | [], _ => ⟨Nat.le_refl _, by simp [pickB]⟩
  | p :: r, h => by
    unfold pickB
    cases Nat.beq c.toNat p.1 with
    | true => exact h p (List.mem_cons_self ..)
    | false => exact pickB_len fun q hq => h q (List.mem_cons_of_mem _ hq)
theorem mapB_len (m : Nat) (c : UInt8) : 1 ≤ (mapB m c).length ∧ (mapB m c).length ≤ 6 := by
  unfold mapB
  split
  · exact pickB_len (by decide)
  · exact pickB_len (by decide)
  · exact pickB_len (by decide)
  · exact pickB_len (by decide)
  · generalize (Nat.ble 33 c.toNat && Nat.ble c.toNat 47 || Nat.ble 58 c.toNat && Nat.ble c.toNat 64 || Nat.ble 91 c.toNat && Nat.ble c.toNat 96 || Nat.ble 123 c.toNat && Nat.ble c.toNat 126) = q
    cases q <;> simp
  · cases (Nat.ble 97 c.toNat && Nat.ble c.toNat 122) <;> simp
  · cases (Nat.blt c.toNat 10) <;> cases (Nat.blt c.toNat 100) <;> simp
  · cases (Nat.blt c.toNat 16) <;> simp
  · exact pickB_len (by decide)
  · exact pickB_len (by decide)
  · simp
theorem imgL_append (m : Nat) (u v : List UInt8) : imgL m (u ++ v) = imgL m u ++ imgL m v := List.flatMap_append
theorem imgL_len (m : Nat) : ∀ u : List UInt8, u.length ≤ (imgL m u).length ∧ (imgL m u).length ≤ 6 * u.length
  | [] => by simp [imgL]
  | c :: u => by
    have ih := imgL_len m u
    have hc := mapB_len m c
    have : imgL m (c :: u) = mapB m c ++ imgL m u := rfl
    rw [this, List.length_append, List.length_cons]
    omega
/-- How long the image of a byte is at least. -/
noncomputable def minIm (m : Nat) : Nat := match m with
  | 7 => 4
  | 8 => 5
  | _ => 1
theorem minIm_le (m : Nat) (c : UInt8) : minIm m ≤ (mapB m c).length := by
  unfold minIm
  split
  · show 4 ≤ (mapB 7 c).length
    unfold mapB
    simp only
    cases (Nat.blt c.toNat 10) <;> cases (Nat.blt c.toNat 100) <;> simp
  · show 5 ≤ (mapB 8 c).length
    unfold mapB
    simp only
    cases (Nat.blt c.toNat 16) <;> simp
  · exact (mapB_len m c).1
theorem imgL_min (m : Nat) : ∀ u : List UInt8, u.length * minIm m ≤ (imgL m u).length
  | [] => by simp [imgL]
  | c :: u => by
    have ih := imgL_min m u
    have hc := minIm_le m c
    have : imgL m (c :: u) = mapB m c ++ imgL m u := rfl
    rw [this, List.length_append, List.length_cons, Nat.add_mul]
    omega
theorem minIm_pos (m : Nat) : 0 < minIm m := by unfold minIm; split <;> omega
theorem imgL_mem {m : Nat} {u : List UInt8} {cl : List UInt8} (h : ∀ c ∈ u, c ∈ cl) : ∀ c ∈ imgL m u, c ∈ imgCls m cl := by
  intro c hc
  obtain ⟨d, hd, hcd⟩ := List.mem_flatMap.1 hc
  unfold imgCls
  split
  · have : c = d := by simpa [mapB] using hcd
    rw [this]; exact h d hd
  · exact List.mem_flatMap.2 ⟨d, h d hd, hcd⟩
theorem imgL_zero' : ∀ u : List UInt8, imgL 0 u = u
  | [] => rfl
  | c :: u => by show mapB 0 c ++ imgL 0 u = _; rw [imgL_zero' u]; rfl
theorem mulHi_ok {m hi : Nat} {u : List UInt8} (h : u.length ≤ hi) : (imgL m u).length ≤ mulHi m hi := by
  have := imgL_len m u
  unfold mulHi
  split
  · rw [imgL_zero']; exact h
  · omega
theorem imgL_zero : ∀ u : List UInt8, imgL 0 u = u
  | [] => rfl
  | c :: u => by show mapB 0 c ++ imgL 0 u = _; rw [imgL_zero u]; rfl

section
variable {n m : Nat}
theorem ltSegs_mono (h : n ≤ m) : ∀ {l : List Seg}, ltSegs n l = true → ltSegs m l = true
  | [], _ => rfl
  | .b _ :: l, hl => ltSegs_mono (l := l) h hl
  | .w k _ _ _ :: l, hl => by
    simp only [ltSegs, Bool.and_eq_true, Nat.blt_eq] at hl ⊢
    exact ⟨by omega, ltSegs_mono h hl.2⟩
theorem ltTs_mono (h : n ≤ m) : ∀ {l : List Tm}, ltTs n l = true → ltTs m l = true
  | [], _ => rfl
  | t :: l, hl => by
    simp only [ltTs, Bool.and_eq_true, Nat.blt_eq] at hl ⊢
    exact ⟨by omega, ltTs_mono h hl.2⟩
mutual
theorem ltW_mono (h : n ≤ m) : ∀ {a : AV}, ltW n a = true → ltW m a = true
  | .sstr l, ha => by simp only [ltW] at ha ⊢; exact ltSegs_mono h ha
  | .lin _ ts, ha => by simp only [ltW] at ha ⊢; exact ltTs_mono h ha
  | .bsl _ _ ts, ha => by simp only [ltW] at ha ⊢; exact ltTs_mono h ha
  | .rptr _ _ ts, ha => by simp only [ltW] at ha ⊢; exact ltTs_mono h ha
  | .rsl _ _ os _ ts, ha => by simp only [ltW, Bool.and_eq_true] at ha ⊢; exact ⟨ltTs_mono h ha.1, ltTs_mono h ha.2⟩
  | .ref cs _, ha => by simp only [ltW] at ha ⊢; exact ltWs_mono h ha
  | .rslice cs _ _, ha => by simp only [ltW] at ha ⊢; exact ltWs_mono h ha
  | .agg cs, ha => by simp only [ltW] at ha ⊢; exact ltWs_mono h ha
  | .tup cs, ha => by simp only [ltW] at ha ⊢; exact ltWs_mono h ha
  | .fn _ a b, ha => by simp only [ltW, Bool.and_eq_true] at ha ⊢; exact ⟨ltWs_mono h ha.1, ltWs_mono h ha.2⟩
  | .iface _ v, ha => by simp only [ltW] at ha ⊢; exact ltW_mono h ha
  | .ub, _ | .np _ _, _ | .cls _, _ | .rn _ _, _ | .num _, _ | .any, _ | .bool _, _ | .int _ _, _ | .str _, _ | .nilp, _ | .ptr _ _, _ | .nils, _ | .slice _ _ _ _ _, _ | .eslice, _ | .nilm, _ | .amap _, _ | .nilf, _ | .nili, _ => by simp [ltW]
theorem ltWs_mono (h : n ≤ m) : ∀ {a : List AV}, ltWs n a = true → ltWs m a = true
  | [], _ => by simp [ltWs]
  | a :: l, ha => by simp only [ltWs, Bool.and_eq_true] at ha ⊢; exact ⟨ltW_mono h ha.1, ltWs_mono h ha.2⟩
end
end

/-- Ghosts that differ in words from n on alone. -/
structure Agree (n : Nat) (g g' : Ghost) : Prop where
  sv : ∀ k, k < n → g'.sv k = g.sv k
  next : g'.next = g.next
  π : g'.π = g.π
  I : g'.I = g.I
  rv : g'.rv = g.rv
section
variable {n : Nat} {sv sv' : Nat → List UInt8} (hsv : ∀ k, k < n → sv' k = sv k)
include hsv
theorem den_agree : ∀ {l : List Seg}, ltSegs n l = true → den sv' l = den sv l
  | [], _ => rfl
  | .b c :: l, h => by show c :: den sv' l = c :: den sv l; rw [den_agree (l := l) h]
  | .w k _ _ _ :: l, h => by
    simp only [ltSegs, Bool.and_eq_true, Nat.blt_eq] at h
    show sv' k ++ den sv' l = sv k ++ den sv l
    rw [hsv k h.1, den_agree h.2]
theorem SegsOK_agree : ∀ {l : List Seg}, ltSegs n l = true → SegsOK sv l → SegsOK sv' l
  | [], _, _ => trivial
  | .b c :: l, h, hk => SegsOK_agree (l := l) h hk
  | .w k _ _ _ :: l, h, hk => by
    simp only [ltSegs, Bool.and_eq_true, Nat.blt_eq] at h
    exact ⟨by rw [hsv k h.1]; exact hk.1, SegsOK_agree h.2 hk.2⟩
theorem tval_agree : ∀ {l : List Tm}, ltTs n l = true → tval sv' l = tval sv l
  | [], _ => rfl
  | t :: l, h => by
    simp only [ltTs, Bool.and_eq_true, Nat.blt_eq] at h
    show t.co * (sv' t.k).length + tval sv' l = t.co * (sv t.k).length + tval sv l
    rw [hsv t.k h.1, tval_agree h.2]
theorem TsOK_agree : ∀ {l : List Tm}, ltTs n l = true → TsOK sv l → TsOK sv' l
  | [], _, _ => trivial
  | t :: l, h, hk => by
    simp only [ltTs, Bool.and_eq_true, Nat.blt_eq] at h
    exact ⟨by rw [hsv t.k h.1]; exact hk.1, TsOK_agree h.2 hk.2⟩
end
mutual
theorem VR.agree {n : Nat} {g g' : Ghost} (h : Agree n g g') : ∀ {a : AV} {v : Value}, VR g a v → ltW n a = true → VR g' a v
  | _, _, .sstr l hl, hb => by
    simp only [ltW] at hb
    rw [← den_agree h.sv hb]; exact .sstr l (SegsOK_agree h.sv hb hl)
  | _, _, .lin c ts ht, hb => by
    simp only [ltW] at hb
    rw [← tval_agree h.sv hb]; exact .lin c ts (TsOK_agree h.sv hb ht)
  | _, _, .cls l b hb', _ => .cls l b hb'
  | _, _, .rn k l b hb', _ => .rn k l b hb'
  | _, _, .num k m, _ => .num k m
  | _, _, .bsl id cc ts a len c hT h0 h1 h2 h3, hb => by
    simp only [ltW] at hb
    exact .bsl id cc ts a len c (TsOK_agree h.sv hb hT) (by rw [tval_agree h.sv hb]; exact h0) (by rw [h.next]; exact h1) (by rw [h.π]; exact h2) h3
  | _, _, .ub b, _ => .ub b
  | _, _, .npN id off h1, _ => .npN id off (by rw [h.next]; exact h1)
  | _, _, .npP id off a h1 h2, _ => .npP id off a (by rw [h.next]; exact h1) (by rw [h.π]; exact h2)
  | _, _, .rsl id o os cc ts a off len c hO hT ho h0 hlc h1 h2 h3, hb => by
    simp only [ltW, Bool.and_eq_true] at hb
    exact .rsl id o os cc ts a off len c (TsOK_agree h.sv hb.1 hO) (TsOK_agree h.sv hb.2 hT) (by rw [tval_agree h.sv hb.1]; exact ho) (by rw [tval_agree h.sv hb.2]; exact h0) hlc (by rw [h.next]; exact h1) (by rw [h.π]; exact h2) h3
  | _, _, .rptr id cc ts a off hT h0 h1 h2, hb => by
    simp only [ltW] at hb
    exact .rptr id cc ts a off (TsOK_agree h.sv hb hT) (by rw [tval_agree h.sv hb]; exact h0) (by rw [h.next]; exact h1) (by rw [h.π]; exact h2)
  | _, _, .any v, _ => .any v
  | _, _, .bool b, _ => .bool b
  | _, _, .int k m, _ => .int k m
  | _, _, .str s, _ => .str s
  | _, _, .nilp, _ => .nilp
  | _, _, .ptr id off a h1 h2, _ => .ptr id off a (by rw [h.next]; exact h1) (by rw [h.π]; exact h2)
  | _, _, .ref cs off b hI, _ => .ref cs off b (by rw [h.I]; exact hI)
  | _, _, .nils, _ => .nils
  | _, _, .slice id off len cap z a c h1 h2 h3, _ => .slice id off len cap z a c (by rw [h.next]; exact h1) (by rw [h.π]; exact h2) h3
  | _, _, .eslice a c, _ => .eslice a c
  | _, _, .rslice cs off len b c hI hc, _ => .rslice cs off len b c (by rw [h.I]; exact hI) hc
  | _, _, .nilm, _ => .nilm
  | _, _, .amap id r h1 h2, _ => .amap id r (by rw [h.next]; exact h1) (by rw [h.π]; exact h2)
  | _, _, .nilf, _ => .nilf
  | _, _, .fn f ha hb', hb => by
    simp only [ltW, Bool.and_eq_true] at hb
    exact .fn f (VRs.agree h ha hb.1) (VRs.agree h hb' hb.2)
  | _, _, .nili, _ => .nili
  | _, _, .iface t hv, hb => .iface t (VR.agree h hv (by simpa [ltW] using hb))
  | _, _, .agg hs, hb => .agg (VRs.agree h hs (by simpa [ltW] using hb))
  | _, _, .tup hs, hb => .tup (VRs.agree h hs (by simpa [ltW] using hb))
theorem VRs.agree {n : Nat} {g g' : Ghost} (h : Agree n g g') : ∀ {a : List AV} {v : List Value}, VRs g a v → ltWs n a = true → VRs g' a v
  | _, _, .nil, _ => .nil
  | _, _, .cons hv hs, hb => by
    simp only [ltWs, Bool.and_eq_true] at hb
    exact .cons (VR.agree h hv hb.1) (VRs.agree h hs hb.2)
end
theorem RR.agree {n : Nat} {g g' : Ghost} (h : Agree n g g') : ∀ {l : List RSeg} {vs : List Value}, RR g l vs → ltRow n l = true → RR g' l vs
  | [], _, hr, _ => hr
  | .c v :: l, _, ⟨x, r, h1, h2, h3⟩, hl => by
    simp only [ltRow, Bool.and_eq_true] at hl
    exact ⟨x, r, h1, h2.agree h hl.1, h3.agree h hl.2⟩
  | .r B i T lo hi :: l, _, ⟨m, r, h1, ⟨h2, h4, h5⟩, h7⟩, hl => by
    simp only [ltRow, Bool.and_eq_true, Nat.blt_eq] at hl
    exact ⟨m, r, h1, ⟨by rw [h.sv _ hl.1]; exact h2.mono fun b a hb => by rw [h.I]; exact hb, h4, h5⟩, h7.agree h hl.2⟩
theorem BR.agree {k n : Nat} {g g' : Ghost} (h : Agree n g g') {bl : Blk} {o : Obj} (hb : BR g k bl o) (hl : Blk.ltW n bl = true) : BR g' k bl o := by
  cases bl with
  | cells e cs =>
    obtain ⟨l, r, h1, h2, h3, h4⟩ := hb
    exact ⟨l, r, h1, h2, h3.agree h hl, h4⟩
  | iter s pos => exact hb
  | siter l c ts =>
    obtain ⟨p, h1, h2, h3, h4⟩ := hb
    simp only [Blk.ltW, Bool.and_eq_true] at hl
    exact ⟨p, by rw [den_agree h.sv hl.1]; exact h1, SegsOK_agree h.sv hl.1 h2, TsOK_agree h.sv hl.2 h3, by rw [tval_agree h.sv hl.2]; exact h4⟩
  | bytes e l =>
    obtain ⟨rest, h1, h2, h3⟩ := hb
    simp only [Blk.ltW] at hl
    exact ⟨rest, by rw [den_agree h.sv hl]; exact h1, by rw [den_agree h.sv hl]; exact h2, SegsOK_agree h.sv hl h3⟩
  | row e l =>
    obtain ⟨vs, rest, h1, h2, h3⟩ := hb
    exact ⟨vs, rest, h1, h2, h3.agree h hl⟩
  | mp ks vs =>
    obtain ⟨es, cl, h1, h2, h3⟩ := hb
    simp only [Blk.ltW, Bool.and_eq_true] at hl
    exact ⟨es, cl, h1, h2.agree h hl.1, h3.agree h hl.2⟩
  | sb s => exact hb
theorem BRI.agree {k n : Nat} {g g' : Ghost} (h : Agree n g g') {e : TypeId} {cs : List AV} {o : Obj} (hb : BRI g k e cs o) (hl : ltWs n cs = true) : BRI g' k e cs o := by
  obtain ⟨l, r, h1, h2, h3, h4⟩ := hb
  exact ⟨l, r, h1, h2, h3.agree h hl, h4⟩
theorem ptLt_get {n : Nat} : ∀ {t : PT Blk} {i : Nat} {bl : Blk}, ptLt n t = true → t.get i = some bl → Blk.ltW n bl = true
  | .leaf, _, _, _, h => by rw [PT.get_leaf] at h; cases h
  | .node l v r, i, bl, hp, h => by
    have hl : ptLt n l = true ∧ ptLt n r = true ∧ ∀ x, v = some x → Blk.ltW n x = true := by
      cases v with
      | none => simp only [ptLt, Bool.and_eq_true] at hp; exact ⟨hp.1, hp.2, fun _ h => by cases h⟩
      | some x => simp only [ptLt, Bool.and_eq_true] at hp; exact ⟨hp.1.2, hp.2, fun _ h => by cases h; exact hp.1.1⟩
    simp only [PT.get_leaf, PT.get_node] at h
    cases h0 : Nat.beq i 0 with
    | true => rw [h0, cond_true] at h; exact hl.2.2 _ h
    | false =>
      rw [h0, cond_false] at h
      cases h1 : Nat.beq (i % 2) 1 with
      | true => rw [h1, cond_true] at h; exact ptLt_get hl.1 h
      | false => rw [h1, cond_false] at h; exact ptLt_get hl.2.1 h
theorem Sim.agree {n : Nat} {g g' : Ghost} (h : Agree n g g') {σ : Store} {w : World} (hs : Sim g σ w) (hl : ptLt n σ.t = true) : Sim g' σ w := by
  refine ⟨by rw [h.next]; exact hs.next, ?_, ?_, ?_, ?_, ?_⟩
  · intro id bl hg
    obtain ⟨b, k, o, h1, h2, h3⟩ := hs.blk id bl hg
    exact ⟨b, k, o, by rw [h.π]; exact h1, h2, h3.agree h (ptLt_get hl hg)⟩
  · rw [h.π]; exact hs.inj
  · intro b cs hI
    rw [h.I] at hI
    obtain ⟨e, k, o, h1, h2⟩ := hs.imm b cs hI
    exact ⟨e, k, o, h1, h2.agree h (ltWs_mono (Nat.zero_le n) (g.iok b cs hI))⟩
  · intro b cs id k hI hp
    rw [h.I] at hI; rw [h.π] at hp
    exact hs.apart b cs id k hI hp
  · intro id b k hp
    rw [h.π] at hp; rw [h.next]
    exact hs.lt id b k hp

/-- New words. -/
noncomputable def Ghost.re (g : Ghost) (B1 : Nat) (u v : List UInt8) (hu : ∀ c ∈ u, c ∈ clsT (B1 % 16)) (hv : ∀ c ∈ v, c ∈ clsT (B1 % 16)) : Ghost :=
  { g with
    bv := fun X => if X = B1 then u else if X = B1 + 16 then v else g.bv X
    bok := by
      intro X c hc
      split at hc
      · rename_i h; rw [h]; exact hu c hc
      · split at hc
        · rename_i h; rw [h, Nat.add_mod_right]; exact hv c hc
        · exact g.bok X c hc }
/-- The words are those of another ghost. -/
noncomputable def Ghost.back (g' g : Ghost) : Ghost := { g' with bv := g.bv, bok := g.bok }
section
variable {g : Ghost} {B1 : Nat} {u v : List UInt8} {hu : ∀ c ∈ u, c ∈ clsT (B1 % 16)} {hv : ∀ c ∈ v, c ∈ clsT (B1 % 16)}
theorem re_sv1 {m : Nat} (hm : m < 16) : (g.re B1 u v hu hv).sv (16 * B1 + m) = imgL m u := by
  unfold Ghost.sv
  rw [show (16 * B1 + m) / 16 = B1 by omega, show (16 * B1 + m) % 16 = m by omega]
  show (if B1 = B1 then u else _).flatMap _ = _
  rw [if_pos rfl]; rfl
theorem re_sv2 {m : Nat} (hm : m < 16) : (g.re B1 u v hu hv).sv (16 * (B1 + 16) + m) = imgL m v := by
  unfold Ghost.sv
  rw [show (16 * (B1 + 16) + m) / 16 = B1 + 16 by omega, show (16 * (B1 + 16) + m) % 16 = m by omega]
  show (if B1 + 16 = B1 then u else if B1 + 16 = B1 + 16 then v else _).flatMap _ = _
  rw [if_neg (by omega), if_pos rfl]; rfl
theorem re_agree : Agree (16 * B1) g (g.re B1 u v hu hv) := by
  refine ⟨fun k hk => ?_, rfl, rfl, rfl, rfl⟩
  unfold Ghost.sv
  show (if k / 16 = B1 then u else if k / 16 = B1 + 16 then v else g.bv (k / 16)).flatMap _ = _
  rw [if_neg (by omega), if_neg (by omega)]
end
theorem Agree.symm {n : Nat} {g g' : Ghost} (h : Agree n g g') : Agree n g' g := ⟨fun k hk => (h.sv k hk).symm, h.next.symm, h.π.symm, h.I.symm, h.rv.symm⟩
theorem back_agree {n : Nat} {g g' g1 : Ghost} (h : Agree n g g1) (hb : g'.bv = g1.bv) : Agree n g' (g'.back g) := by
  refine ⟨fun k hk => ?_, rfl, rfl, rfl, rfl⟩
  have := h.sv k hk
  unfold Ghost.sv at this ⊢
  rw [hb]
  exact this.symm

section
variable {sv sv' : Nat → List UInt8} {B B1 : Nat} {u c v : List UInt8}
theorem putB_ok : ∀ {r : List UInt8} {l : List Seg}, SegsOK sv l → SegsOK sv (putB r l) ∧ den sv (putB r l) = r ++ den sv l
  | [], l, h => ⟨h, rfl⟩
  | d :: r, l, h => by
    obtain ⟨h1, h2⟩ := putB_ok (r := r) h
    exact ⟨h1, by show d :: den sv (putB r l) = _; rw [h2]; rfl⟩
variable (h0 : ∀ k, k < 16 * B1 → sv' k = sv k) (h1 : ∀ m, m < 16 → sv' (16 * B1 + m) = imgL m u) (h2 : ∀ m, m < 16 → sv' (16 * (B1 + 16) + m) = imgL m v) (hB : ∀ m, m < 16 → sv (16 * B + m) = imgL m (u ++ c ++ v))
include h0 h1 h2 hB
theorem spSeg_ok : ∀ {l : List Seg}, ltSegs (16 * B1) l = true → SegsOK sv l → SegsOK sv' (spSeg B B1 c l) ∧ den sv' (spSeg B B1 c l) = den sv l
  | [], _, _ => ⟨trivial, rfl⟩
  | .b d :: l, hl, hk => by
    obtain ⟨i1, i2⟩ := spSeg_ok (l := l) hl hk
    exact ⟨i1, by show d :: den sv' (spSeg B B1 c l) = d :: den sv l; rw [i2]⟩
  | .w k cls lo hi :: l, hl, hk => by
    simp only [ltSegs, Bool.and_eq_true, Nat.blt_eq] at hl
    obtain ⟨i1, i2⟩ := spSeg_ok hl.2 hk.2
    rw [spSeg_w]
    cases hb : Nat.beq (k / 16) B with
    | false =>
      rw [cond_false]
      exact ⟨⟨by rw [h0 k hl.1]; exact hk.1, i1⟩, by show sv' k ++ den sv' (spSeg B B1 c l) = sv k ++ den sv l; rw [h0 k hl.1, i2]⟩
    | true =>
      rw [cond_true]
      have hkB := Nat.eq_of_beq_eq_true hb
      have hm : k % 16 < 16 := by omega
      have hsv : sv k = imgL (k % 16) u ++ imgL (k % 16) c ++ imgL (k % 16) v := by
        have := hB (k % 16) hm
        rw [show 16 * B + k % 16 = k by omega] at this
        rw [this, imgL_append, imgL_append]
      have e1 := h1 (k % 16) hm
      have e2 := h2 (k % 16) hm
      obtain ⟨⟨k1, k2, k3⟩, _⟩ := hk
      rw [hsv] at k2 k3
      simp only [List.length_append] at k2
      have w2 : SegsOK sv' (.w (16 * (B1 + 16) + k % 16) cls 0 (hi - (imgL (k % 16) c).length) :: spSeg B B1 c l) :=
        ⟨⟨Nat.zero_le _, by rw [e2]; omega, fun x hx => by rw [e2] at hx; exact k3 x (by simp [hx])⟩, i1⟩
      obtain ⟨p1, p2⟩ := putB_ok (r := imgL (k % 16) c) w2
      refine ⟨⟨⟨Nat.zero_le _, by rw [e1]; omega, fun x hx => by rw [e1] at hx; exact k3 x (by simp [hx])⟩, p1⟩, ?_⟩
      show sv' (16 * B1 + k % 16) ++ den sv' (putB _ _) = sv k ++ den sv l
      rw [p2, e1, hsv]
      show imgL (k % 16) u ++ (imgL (k % 16) c ++ (sv' (16 * (B1 + 16) + k % 16) ++ den sv' (spSeg B B1 c l))) = _
      rw [e2, i2]
      simp [List.append_assoc]
theorem spTs_ok : ∀ {l : List Tm}, ltTs (16 * B1) l = true → TsOK sv l → TsOK sv' (spTs B B1 c l).2 ∧ (spTs B B1 c l).1 + tval sv' (spTs B B1 c l).2 = tval sv l
  | [], _, _ => ⟨trivial, rfl⟩
  | t :: l, hl, hk => by
    simp only [ltTs, Bool.and_eq_true, Nat.blt_eq] at hl
    obtain ⟨i1, i2⟩ := spTs_ok hl.2 hk.2
    unfold spTs
    generalize spTs B B1 c l = q at i1 i2
    obtain ⟨d, us⟩ := q
    simp only at i1 i2 ⊢
    cases hb : Nat.beq (t.k / 16) B with
    | false =>
      rw [cond_false]
      obtain ⟨a1, a2⟩ := addTm_ok (co := t.co) (k := t.k) (lo := t.lo) (hi := t.hi) (sv := sv') (by rw [h0 _ hl.1]; exact hk.1) i1
      refine ⟨a1, ?_⟩
      show d + tval sv' (addTm t.k t.co t.lo t.hi us) = t.co * (sv t.k).length + tval sv l
      rw [a2, h0 _ hl.1, ← i2]; omega
    | true =>
      rw [cond_true]
      have hkB := Nat.eq_of_beq_eq_true hb
      have hm : t.k % 16 < 16 := by omega
      have hsv : sv t.k = imgL (t.k % 16) u ++ imgL (t.k % 16) c ++ imgL (t.k % 16) v := by
        have := hB (t.k % 16) hm
        rw [show 16 * B + t.k % 16 = t.k by omega] at this
        rw [this, imgL_append, imgL_append]
      have e1 := h1 (t.k % 16) hm
      have e2 := h2 (t.k % 16) hm
      have hle := hk.1.2
      have hlen := congrArg List.length hsv
      simp only [List.length_append] at hlen
      obtain ⟨a1, a2⟩ := addTm_ok (co := t.co) (k := 16 * (B1 + 16) + t.k % 16) (lo := 0) (hi := t.hi - (imgL (t.k % 16) c).length) (sv := sv') (by rw [e2]; omega) i1
      obtain ⟨b1, b2⟩ := addTm_ok (co := t.co) (k := 16 * B1 + t.k % 16) (lo := 0) (hi := t.hi - (imgL (t.k % 16) c).length) (sv := sv') (by rw [e1]; omega) a1
      refine ⟨b1, ?_⟩
      show d + t.co * (imgL (t.k % 16) c).length + tval sv' (addTm _ _ _ _ _) = t.co * (sv t.k).length + tval sv l
      rw [b2, a2, e1, e2, hlen, ← i2]
      push_cast
      rw [Int.mul_add, Int.mul_add]
      omega
end
theorem segSame_ok {sv : Nat → List UInt8} : ∀ {a b : List Seg}, segSame a b = true → den sv a = den sv b
  | [], [], _ => rfl
  | .b c :: l, .b d :: m, h => by
    have h : (u8Beq c d && segSame l m) = true := h
    simp only [Bool.and_eq_true] at h
    show c :: den sv l = d :: den sv m
    rw [u8Beq_eq h.1, segSame_ok h.2]
  | .w k _ _ _ :: l, .w k' _ _ _ :: m, h => by
    have h : (Nat.beq k k' && segSame l m) = true := h
    simp only [Bool.and_eq_true] at h
    show sv k ++ den sv l = sv k' ++ den sv m
    rw [Nat.eq_of_beq_eq_true h.1, segSame_ok h.2]
  | .b _ :: _, .w _ _ _ _ :: _, h => by have h : false = true := h; cases h
  | .w _ _ _ _ :: _, .b _ :: _, h => by have h : false = true := h; cases h
  | [], _ :: _, h => by cases h
  | _ :: _, [], h => by cases h
theorem uvSame_ok {g : Ghost} {x y : AV} {v v' : Value} (h : uvSame x y = true) (hx : VR g x v) (hy : VR g y v') : v = v' := by
  unfold uvSame at h
  split at h
  · rename_i a b ha hb
    obtain ⟨t1, rfl⟩ := sym_lin hx ha
    obtain ⟨t2, rfl⟩ := sym_lin hy hb
    split at h
    case h_2 => cases h
    rename_i he
    obtain ⟨n1, n2⟩ := negTs_ok t2
    obtain ⟨q1, q2⟩ := addTs_ok n1 t1
    rw [he] at q2
    simp only [tval] at q2
    rw [eqI_eq] at h
    have h := of_decide_eq_true h
    congr 1; omega
  · split at h
    · rename_i a b ha hb
      obtain ⟨t1, rfl⟩ := sym_segs hx ha
      obtain ⟨t2, rfl⟩ := sym_segs hy hb
      rw [segSame_ok h]
    · cases h
theorem rowBeq_eq : ∀ {a b : List RSeg}, rowBeq a b = true → a = b
  | [], [], _ => rfl
  | .c x :: l, .c y :: m, h => by
    simp only [rowBeq, Bool.and_eq_true] at h
    rw [beq_eq h.1, rowBeq_eq h.2]
  | .r B i T lo hi :: l, .r B' i' T' lo' hi' :: m, h => by
    simp only [rowBeq, Bool.and_eq_true] at h
    obtain ⟨⟨⟨⟨⟨h1, h2⟩, h3⟩, h4⟩, h5⟩, h7⟩ := h
    rw [Nat.eq_of_beq_eq_true h1, Nat.eq_of_beq_eq_true h2, Nat.eq_of_beq_eq_true h3, Nat.eq_of_beq_eq_true h4, Nat.eq_of_beq_eq_true h5, rowBeq_eq h7]
  | .c _ :: _, .r _ _ _ _ _ :: _, h | .r _ _ _ _ _ :: _, .c _ :: _, h | [], .c _ :: _, h | [], .r _ _ _ _ _ :: _, h | .c _ :: _, [], h | .r _ _ _ _ _ :: _, [], h => by simp [rowBeq] at h
theorem Blk.beq_eq : ∀ {a b : Blk}, Blk.beq a b = true → a = b
  | .cells e cs, .cells e' cs', h => by
    simp only [Blk.beq, Bool.and_eq_true] at h
    rw [Nat.eq_of_beq_eq_true h.1, beqs_eq h.2]
  | .iter s p, .iter s' p', h => by
    simp only [Blk.beq, Bool.and_eq_true] at h
    rw [bytesBeq_eq h.1, Nat.eq_of_beq_eq_true h.2]
  | .bytes e l, .bytes e' l', h => by
    simp only [Blk.beq, Bool.and_eq_true] at h
    rw [Nat.eq_of_beq_eq_true h.1, segsBeq_eq h.2]
  | .siter l c ts, .siter l' c' ts', h => by
    simp only [Blk.beq, Bool.and_eq_true] at h
    rw [segsBeq_eq h.1.1, intBeq_eq h.1.2, tmsBeq_eq h.2]
  | .row e l, .row e' l', h => by
    simp only [Blk.beq, Bool.and_eq_true] at h
    rw [Nat.eq_of_beq_eq_true h.1, rowBeq_eq h.2]
  | .mp ks vs, .mp ks' vs', h => by
    simp only [Blk.beq, Bool.and_eq_true] at h
    rw [beqs_eq h.1, beqs_eq h.2]
  | .sb s, .sb s', h => by
    simp only [Blk.beq] at h
    rw [bytesBeq_eq h]
theorem ptBeq_eq : ∀ {a b : PT Blk}, ptBeq a b = true → a = b
  | .leaf, .leaf, _ => rfl
  | .node l none r, .node l' none r', h => by
    simp only [ptBeq, Bool.and_eq_true] at h
    rw [ptBeq_eq h.1, ptBeq_eq h.2]
  | .node l (some v) r, .node l' (some v') r', h => by
    simp only [ptBeq, Bool.and_eq_true] at h
    rw [Blk.beq_eq h.1.1, ptBeq_eq h.1.2, ptBeq_eq h.2]
theorem Store.beq_eq {a b : Store} (h : Store.beq a b = true) : a = b := by
  simp only [Store.beq, Bool.and_eq_true] at h
  cases a; cases b
  simp only at h
  rw [ptBeq_eq h.2, Nat.eq_of_beq_eq_true h.1]
end Go.AM
