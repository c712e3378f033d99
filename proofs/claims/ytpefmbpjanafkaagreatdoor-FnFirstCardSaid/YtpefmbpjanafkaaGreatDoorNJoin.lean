/- The shelf's contract of strings.Join, at this program. -/
import Derived.Test.YtpefmbpjanafkaaGreatDoorSLay
import Derived.Shelf.Strings.OnBuilder
import Derived.Test.YtpefmbpjanafkaaGreatDoorSnLib
import Derived.Test.YtpefmbpjanafkaaGreatDoorSnWc
import Derived.Test.YtpefmbpjanafkaaGreatDoorNS1
set_option linter.unusedVariables false
set_option linter.unusedSimpArgs false
namespace Go.Proofs
open Go.Shelf
noncomputable def Tryz.lays156_ren : Go.Shelf.Ren := ⟨fun | 156 => 234 | 165 => 225 | 166 => 37 | 169 => 39 | 240 => 53 | 241 => 256 | 276 => 76 | 277 => 268 | n => n, fun | 0 => 0 | 3 => 3 | 4 => 4 | 9 => 9 | 20 => 20 | 31 => 22 | 37 => 42 | 70 => 62 | 72 => 64 | 75 => 66 | 76 => 67 | 127 => 89 | 164 => 159 | 5 => 5 | 80 => 70 | n => n, fun | n => n⟩
theorem Tryz.lays156 : Go.Proofs.Lays.n156 Tryz.prog Tryz.lays156_ren := {
  mixed := by kernel_rfl
  f156 := Tryz.func234.trans (congrArg some (by kernel_rfl))
  f165 := Tryz.func225.trans (congrArg some (by kernel_rfl))
  f166 := Tryz.func37.trans (congrArg some (by kernel_rfl))
  f169 := Tryz.func39.trans (congrArg some (by kernel_rfl))
  f240 := Tryz.func53.trans (congrArg some (by kernel_rfl))
  f241 := Tryz.func256.trans (congrArg some (by kernel_rfl))
  f276 := Tryz.func76.trans (congrArg some (by kernel_rfl))
  f277 := Tryz.func268.trans (congrArg some (by kernel_rfl))
  t0 := Tryz.underlying0
  a0 := Tryz.isAgg0
  z0 := Tryz.sizeOf0
  v0 := Tryz.zeroValue0
  t3 := Tryz.underlying3
  a3 := Tryz.isAgg3
  z3 := Tryz.sizeOf3
  v3 := Tryz.zeroValue3
  t4 := Tryz.underlying4
  a4 := Tryz.isAgg4
  z4 := Tryz.sizeOf4
  v4 := Tryz.zeroValue4
  t9 := Tryz.underlying9
  a9 := Tryz.isAgg9
  z9 := Tryz.sizeOf9
  v9 := Tryz.zeroValue9
  t20 := Tryz.underlying20
  a20 := Tryz.isAgg20
  z20 := Tryz.sizeOf20
  v20 := Tryz.zeroValue20
  t31 := Tryz.underlying22
  a31 := Tryz.isAgg22
  z31 := Tryz.sizeOf22
  v31 := Tryz.zeroValue22
  t37 := Tryz.underlying42
  a37 := Tryz.isAgg42
  z37 := Tryz.sizeOf42
  v37 := Tryz.zeroValue42
  t70 := Tryz.underlying62
  a70 := Tryz.isAgg62
  z70 := Tryz.sizeOf62
  v70 := Tryz.zeroValue62
  t72 := Tryz.underlying64
  a72 := Tryz.isAgg64
  z72 := Tryz.sizeOf64
  v72 := Tryz.zeroValue64
  t75 := Tryz.underlying66
  a75 := Tryz.isAgg66
  z75 := Tryz.sizeOf66
  v75 := Tryz.zeroValue66
  t76 := Tryz.underlying67
  a76 := Tryz.isAgg67
  z76 := Tryz.sizeOf67
  v76 := Tryz.zeroValue67
  t127 := Tryz.underlying89
  a127 := Tryz.isAgg89
  z127 := Tryz.sizeOf89
  v127 := Tryz.zeroValue89
  t164 := Tryz.underlying159
  a164 := Tryz.isAgg159
  z164 := Tryz.sizeOf159
  v164 := Tryz.zeroValue159 }
theorem Tryz.Builder_Extra_156 : Builder.Extra Tryz.prog Tryz.lays156_ren := {
  sizeBuilder := by kernel_rfl
  liesBuilder := by kernel_rfl
  t5 := Tryz.underlying5
  a5 := Tryz.isAgg5
  z5 := Tryz.sizeOf5
  v5 := Tryz.zeroValue5
  infoByte := by kernel_rfl
  cellsByte := by kernel_rfl
  sizeByte := by kernel_rfl
  neB5 := by decide }
end Go.Proofs
/- strings.Join. -/
namespace Go.Proofs.YtpefmbpjanafkaaGreatDoor
open Go.AM Go.Shelf Go.RowKit
/-- The texts of some cells. -/
noncomputable def strsOf : List AV → Option (List (List UInt8))
  | [] => some []
  | .str s :: l => match strsOf l with | some m => some (s :: m) | none => none
  | _ => none
noncomputable def joinA (sep : List UInt8) : List (List UInt8) → List UInt8
  | [] => []
  | [s] => s
  | s :: l => s ++ sep ++ joinA sep l
noncomputable def sp234 : List AV → Store → Tr R
  | [.slice id off n cap 1, .str sep], σ => match σ.get id with
    | some (.cells _ cs) => opt (strsOf ((cs.drop off).take n)) fun ss => must (Nat.beq ss.length n && Nat.ble n 1000000 && Nat.ble n cap && Nat.ble (joinA sep ss).length 1000000) (.ret (.str (joinA sep ss), σ))
    | _ => .fail
  | _, _ => .fail
theorem strsOf_ok {g : Ghost} : ∀ {cs : List AV} {ss : List (List UInt8)} {vs : List Value}, strsOf cs = some ss → VRs g cs vs → vs = ss.map fun s => Value.string ⟨s.toArray⟩
  | [], ss, vs, h, hv => by cases h; cases hv; rfl
  | a :: l, ss, vs, h, hv => by
    unfold strsOf at h
    split at h
    · rename_i h1; cases h1
    · rename_i s l' h1
      cases h1
      split at h
      · rename_i m hm
        cases h
        cases hv with
        | cons h2 h3 =>
        cases h2
        rw [strsOf_ok hm h3]; rfl
      · cases h
    · cases h
theorem joinA_eq (sep : List UInt8) : ∀ ss : List (List UInt8), joinA sep ss = Lib.join ss sep
  | [] => rfl
  | [s] => (Lib.join_one s sep).symm
  | s :: t :: l => by
    rw [Lib.join_cons]
    show s ++ sep ++ joinA sep (t :: l) = _
    rw [joinA_eq sep (t :: l), Lib.join_cons]
    simp [Lib.joinTail]
theorem ok234j (id off n cap : Nat) (sep : List UInt8) (σ : Store) : CallOK X0 234 [.slice id off n cap 1, .str sep] σ (sp234 [.slice id off n cap 1, .str sep] σ) := by
  intro K g w args' ht ha hs hG
  unfold sp234 at ht
  simp only at ht
  split at ht
  case h_2 => exact ht.elim
  rename_i e cs hg
  obtain ⟨ss, hss, ht1⟩ := Tr.sat_opt ht
  obtain ⟨hm, hk⟩ := Tr.sat_must ht1
  clear ht ht1
  simp only [Bool.and_eq_true] at hm
  obtain ⟨⟨⟨h1, h2⟩, h3⟩, h4⟩ := hm
  have h1 : ss.length = n := Nat.eq_of_beq_eq_true h1
  have h2 : n ≤ 1000000 := by simpa using h2
  have h3 : n ≤ cap := by simpa using h3
  have h4 : (joinA sep ss).length ≤ 1000000 := by simpa using h4
  cases ha with
  | cons hsl ha =>
  cases ha with
  | cons hstr ha =>
  cases ha
  cases hstr
  cases hsl with
  | slice _ _ _ _ _ a c k1 k2 k3 =>
  obtain ⟨b, m, o, hp, ho, l, rest, rfl, hn, hvr, _⟩ := hs.blk _ _ hg
  obtain ⟨rfl, k4, k5⟩ := k2 _ _ hp
  have hcl := hvr.length
  have hvs : VRs g ((cs.drop off).take n) ((l.drop off).take n) := (hvr.drop off).take n
  have hst := strsOf_ok hss hvs
  subst h1
  have e1 : (ss.map fun s => (⟨s.toArray⟩ : ByteArray)).map (·.data.toList) = ss := by rw [List.map_map]; exact List.map_id ss
  have main : Calls X0.P 234 #[.slice (some ⟨b, off, none⟩) (ss.map fun s => (⟨s.toArray⟩ : ByteArray)).length c, .string ⟨sep.toArray⟩] w fun e w' => e = .returned (.string ⟨(Lib.join ((ss.map fun s => (⟨s.toArray⟩ : ByteArray)).map (·.data.toList)) (⟨sep.toArray⟩ : ByteArray).data.toList).toArray⟩) ∧ Below w.heap.size w w' := by
    refine Any.strings_Join Tryz.lays156 Tryz.Builder_Extra_156 b off c (ss.map fun s => (⟨s.toArray⟩ : ByteArray)) ⟨sep.toArray⟩ w ?_ (hs.lt _ _ _ hp).2 (by simp; omega) (by simp; omega) ?_
    · intro j x hx
      rw [List.getElem?_map] at hx
      obtain ⟨t, ht, rfl⟩ := Option.map_eq_some_iff.1 hx
      have hj : j < ss.length := (List.getElem?_eq_some_iff.1 ht).1
      have h5 := congrArg (·[j]?) hst
      simp only [List.getElem?_map, ht, Option.map_some, List.getElem?_take, hj, if_true, List.getElem?_drop] at h5
      rw [Lib.cell_of_heap ho]
      have h6 : off + j < l.length := (List.getElem?_eq_some_iff.1 h5).1
      rw [List.getElem?_toArray, List.getElem?_append_left h6]
      exact h5
    · rw [e1, ← joinA_eq]; exact Nat.le_trans h4 (by decide)
  rw [List.length_map, e1] at main
  refine main.mono ?_
  rintro e2 w' ⟨he2, hB⟩
  subst he2
  obtain ⟨hS, hE⟩ := below_sim hs hB
  refine ⟨_, _, _, g, rfl, hk, hS, hE, ?_⟩
  rw [joinA_eq]
  exact .str _
/-- The texts of some cells, with words. -/
noncomputable def segsOf : List AV → Option (List (List Seg))
  | [] => some []
  | x :: l => match toSegs x, segsOf l with
    | some s, some m => some (s :: m)
    | _, _ => none
noncomputable def joinS (sep : List UInt8) : List (List Seg) → List Seg
  | [] => []
  | [s] => s
  | s :: l => s ++ (sep.map .b ++ joinS sep l)
noncomputable def sp234s : List AV → Store → Tr R
  | [.slice id off n cap 1, .str sep], σ => match σ.get id with
    | some (.cells _ cs) => opt (segsOf ((cs.drop off).take n)) fun ss => must (Nat.beq ss.length n && Nat.ble n 1000000 && Nat.ble n cap && leI ((segLen (joinS sep ss)).1 + maxTs (segLen (joinS sep ss)).2) 1000000) (.ret (mkStr (joinS sep ss), σ))
    | _ => .fail
  | _, _ => .fail
theorem segsOf_ok {g : Ghost} : ∀ {cs : List AV} {ss : List (List Seg)} {vs : List Value}, segsOf cs = some ss → VRs g cs vs → (∀ s ∈ ss, SegsOK g.sv s) ∧ vs = (ss.map (den g.sv)).map fun s => Value.string ⟨s.toArray⟩
  | [], ss, vs, h, hv => by cases h; cases hv; exact ⟨fun _ h => (by cases h), rfl⟩
  | a :: l, ss, vs, h, hv => by
    unfold segsOf at h
    split at h
    · rename_i s m h1 h2
      cases h
      cases hv with
      | cons h3 h4 =>
      obtain ⟨k1, k2⟩ := segsOf_ok h2 h4
      obtain ⟨k3, k4⟩ := sym_segs h3 h1
      refine ⟨fun x hx => ?_, by rw [k4, k2]; rfl⟩
      rcases List.mem_cons.1 hx with rfl | hx
      · exact k3
      · exact k1 x hx
    · cases h
theorem joinS_ok {sv : Nat → List UInt8} (sep : List UInt8) : ∀ {ss : List (List Seg)}, (∀ s ∈ ss, SegsOK sv s) → SegsOK sv (joinS sep ss) ∧ den sv (joinS sep ss) = joinA sep (ss.map (den sv))
  | [], _ => ⟨trivial, rfl⟩
  | [s], h => ⟨h s (List.mem_cons_self ..), rfl⟩
  | s :: t :: l, h => by
    obtain ⟨h1, h2⟩ := joinS_ok sep (ss := t :: l) fun x hx => h x (List.mem_cons_of_mem _ hx)
    obtain ⟨b1, b2⟩ := SegsOK_bytes (sv := sv) sep
    refine ⟨SegsOK_append (h s (List.mem_cons_self ..)) (SegsOK_append b1 h1), ?_⟩
    show den sv (s ++ (sep.map .b ++ joinS sep (t :: l))) = den sv s ++ sep ++ joinA sep ((t :: l).map (den sv))
    rw [den_append, den_append, b2, h2, List.append_assoc]
theorem ok234s (id off n cap : Nat) (sep : List UInt8) (σ : Store) : CallOK X0 234 [.slice id off n cap 1, .str sep] σ (sp234s [.slice id off n cap 1, .str sep] σ) := by
  intro K g w args' ht ha hs hG
  unfold sp234s at ht
  simp only at ht
  split at ht
  case h_2 => exact ht.elim
  rename_i e cs hg
  obtain ⟨ss0, hss, ht1⟩ := Tr.sat_opt ht
  obtain ⟨hm, hk⟩ := Tr.sat_must ht1
  clear ht ht1
  simp only [Bool.and_eq_true, leI_eq, decide_eq_true_eq] at hm
  obtain ⟨⟨⟨h1, h2⟩, h3⟩, h4⟩ := hm
  have h1 : ss0.length = n := Nat.eq_of_beq_eq_true h1
  have h2 : n ≤ 1000000 := by simpa using h2
  have h3 : n ≤ cap := by simpa using h3
  cases ha with
  | cons hsl ha =>
  cases ha with
  | cons hstr ha =>
  cases ha
  cases hstr
  cases hsl with
  | slice _ _ _ _ _ a c k1 k2 k3 =>
  obtain ⟨b, m, o, hp, ho, l, rest, rfl, hn, hvr, _⟩ := hs.blk _ _ hg
  obtain ⟨rfl, k4, k5⟩ := k2 _ _ hp
  have hcl := hvr.length
  have hvs : VRs g ((cs.drop off).take n) ((l.drop off).take n) := (hvr.drop off).take n
  obtain ⟨hok, hst⟩ := segsOf_ok hss hvs
  obtain ⟨j1, j2⟩ := joinS_ok sep hok
  have hlen : (ss0.map (den g.sv)).length = n := by rw [List.length_map]; exact h1
  have h5 : (joinA sep (ss0.map (den g.sv))).length ≤ 1000000 := by
    obtain ⟨t1, t2⟩ := segLen_ok j1
    have := max_ok t1
    rw [← j2]; omega
  have hfin : VR g (mkStr (joinS sep ss0)) (.string ⟨(joinA sep (ss0.map (den g.sv))).toArray⟩) := by
    rw [← j2]; exact VR_mkStr j1
  generalize ss0.map (den g.sv) = ss at hst hlen h5 hfin
  subst hlen
  have e1 : (ss.map fun s => (⟨s.toArray⟩ : ByteArray)).map (·.data.toList) = ss := by rw [List.map_map]; exact List.map_id ss
  have main : Calls X0.P 234 #[.slice (some ⟨b, off, none⟩) (ss.map fun s => (⟨s.toArray⟩ : ByteArray)).length c, .string ⟨sep.toArray⟩] w fun e w' => e = .returned (.string ⟨(Lib.join ((ss.map fun s => (⟨s.toArray⟩ : ByteArray)).map (·.data.toList)) (⟨sep.toArray⟩ : ByteArray).data.toList).toArray⟩) ∧ Below w.heap.size w w' := by
    refine Any.strings_Join Tryz.lays156 Tryz.Builder_Extra_156 b off c (ss.map fun s => (⟨s.toArray⟩ : ByteArray)) ⟨sep.toArray⟩ w ?_ (hs.lt _ _ _ hp).2 (by simp; omega) (by simp; omega) ?_
    · intro j x hx
      rw [List.getElem?_map] at hx
      obtain ⟨t, ht, rfl⟩ := Option.map_eq_some_iff.1 hx
      have hj : j < ss.length := (List.getElem?_eq_some_iff.1 ht).1
      have h5 := congrArg (·[j]?) hst
      simp only [List.getElem?_map, ht, Option.map_some, List.getElem?_take, hj, if_true, List.getElem?_drop] at h5
      rw [Lib.cell_of_heap ho]
      have h6 : off + j < l.length := (List.getElem?_eq_some_iff.1 h5).1
      rw [List.getElem?_toArray, List.getElem?_append_left h6]
      exact h5
    · rw [e1, ← joinA_eq]; exact Nat.le_trans h5 (by decide)
  rw [List.length_map, e1] at main
  refine main.mono ?_
  rintro e2 w' ⟨he2, hB⟩
  subst he2
  obtain ⟨hS, hE⟩ := below_sim hs hB
  refine ⟨_, _, _, g, rfl, hk, hS, hE, ?_⟩
  rw [← joinA_eq]
  exact hfin
end Go.Proofs.YtpefmbpjanafkaaGreatDoor
/- strings.Join of a row whose cells are not all known, without a sign between. -/
namespace Go.Proofs.YtpefmbpjanafkaaGreatDoor
open Go.AM Go.Shelf Go.RowKit
/-- The text of all cells of a row of texts. -/
noncomputable def rowSegs : List RSeg → Option (List Seg)
  | [] => some []
  | .c x :: l => match toSegs x, rowSegs l with | some s, some m => some (s ++ m) | _, _ => none
  | .r B i T lo hi :: l => cond (Nat.beq T 0 && Nat.blt i 16) (match rowSegs l with | some m => some (.w (16 * B + i) (imgCls i (clsT (B % 16))) lo (mulHi i hi) :: m) | none => none) none
theorem spells_flat {g : Ghost} {i : Nat} : ∀ {us : List Value} {s : List UInt8}, Spells g 0 i us s → ∃ ss : List (List UInt8), us = (ss.map fun s => Value.string ⟨s.toArray⟩) ∧ ss.flatten = imgL i s
  | [], [], _ => ⟨[], rfl, rfl⟩
  | v :: us, c :: s, ⟨h1, h2⟩ => by
    obtain ⟨ss, e1, e2⟩ := spells_flat h2
    rcases h1 with ⟨_, rfl⟩ | ⟨h, _⟩
    · exact ⟨mapB i c :: ss, by rw [e1]; rfl, by rw [List.flatten_cons, e2]; rfl⟩
    · exact absurd rfl h
theorem rowSegs_ok {g : Ghost} : ∀ {l : List RSeg} {m : List Seg} {vs : List Value}, rowSegs l = some m → RR g l vs → ∃ ss : List (List UInt8), vs = (ss.map fun s => Value.string ⟨s.toArray⟩) ∧ ss.flatten = den g.sv m ∧ SegsOK g.sv m
  | [], m, vs, h, hv => by cases h; cases hv; exact ⟨[], rfl, rfl, trivial⟩
  | .c x :: l, m, _, h, ⟨v, r, h1, h2, h3⟩ => by
    unfold rowSegs at h
    split at h
    · rename_i s m' hs hm
      cases h
      obtain ⟨ss, e1, e2, e3⟩ := rowSegs_ok hm h3
      obtain ⟨a1, rfl⟩ := sym_segs h2 hs
      exact ⟨den g.sv s :: ss, by rw [h1, e1]; rfl, by rw [List.flatten_cons, e2, den_append], SegsOK_append a1 e3⟩
    · cases h
  | .r B i T lo hi :: l, m, _, h, ⟨us, r, h1, ⟨h2, h3, h4⟩, h5⟩ => by
    unfold rowSegs at h
    rcases cond_yes h with ⟨hc, h0⟩ | ⟨_, h0⟩
    case inr => cases h0
    clear h
    simp only [Bool.and_eq_true] at hc
    have hT := Nat.eq_of_beq_eq_true hc.1
    subst hT
    have hi16 : i < 16 := by simpa [Nat.blt_eq] using hc.2
    cases hm : rowSegs l with
    | none => rw [hm] at h0; cases h0
    | some m' =>
      rw [hm] at h0
      cases h0
      obtain ⟨ss, e1, e2, e3⟩ := rowSegs_ok hm h5
      obtain ⟨ts, e4, e5⟩ := spells_flat h2
      have hlen := h2.length
      rw [Go.AM.sv_base] at hlen e5
      have hsv : g.sv (16 * B + i) = imgL i (g.bv B) := by
        unfold Ghost.sv
        rw [show (16 * B + i) / 16 = B by omega, show (16 * B + i) % 16 = i by omega]; rfl
      have hl := imgL_len i (g.bv B)
      refine ⟨ts ++ ss, by rw [h1, e4, e1, List.map_append], ?_, ⟨by rw [hsv]; omega, by rw [hsv]; exact mulHi_ok (by omega), by rw [hsv]; exact imgL_mem (g.bok B)⟩, e3⟩
      show _ = g.sv (16 * B + i) ++ den g.sv m'
      rw [List.flatten_append, e2, e5, hsv]
theorem joinA_nil : ∀ ss : List (List UInt8), joinA [] ss = ss.flatten
  | [] => rfl
  | [s] => by simp [joinA]
  | s :: t :: l => by
    show s ++ [] ++ joinA [] (t :: l) = _
    rw [joinA_nil (t :: l), List.append_nil]; rfl
noncomputable def sp234r : List AV → Store → Tr R
  | [.rsl id 0 [] c ts, .str []], σ => match σ.get id with
    | some (.row _ l) => opt (rowSegs l) fun m => must (uvSame (.lin c ts) (.lin (rowLen l).1 (rowLen l).2) && leI ((rowLen l).1 + maxTs (rowLen l).2) 1000000 && leI ((segLen m).1 + maxTs (segLen m).2) 1000000) (.ret (mkStr m, σ))
    | _ => .fail
  | _, _ => .fail
theorem ok234r (id : Nat) (cc : Int) (ts : List Tm) (σ : Store) : CallOK X0 234 [.rsl id 0 [] cc ts, .str []] σ (sp234r [.rsl id 0 [] cc ts, .str []] σ) := by
  intro K g w args' ht ha hs hG
  unfold sp234r at ht
  simp only at ht
  split at ht
  case h_2 => exact ht.elim
  rename_i e l hg
  obtain ⟨m, hm, ht1⟩ := Tr.sat_opt ht
  obtain ⟨hq, hk⟩ := Tr.sat_must ht1
  clear ht ht1
  simp only [Bool.and_eq_true, leI_eq, decide_eq_true_eq] at hq
  obtain ⟨⟨h1, h2⟩, h3⟩ := hq
  cases ha with
  | cons hsl ha =>
  cases ha with
  | cons hstr ha =>
  cases ha
  cases hstr
  obtain ⟨b, n, o, hp, ho, vs, rest, rfl, hn, hrr⟩ := hs.blk _ _ hg
  obtain ⟨ss, e1, e2, e3⟩ := rowSegs_ok hm hrr
  obtain ⟨r1, r2⟩ := rowLen_ok hrr
  have hT := (rsl_ts hsl).2
  have e4 := uvSame_ok h1 (VR.lin cc ts hT) (VR.lin _ _ r1)
  injection e4 with _ e4
  cases hsl with
  | rsl _ _ _ _ _ a off len c q1 q2 q3 q4 q5 q6 q7 q8 =>
  obtain ⟨rfl, q9⟩ := q7 _ _ hp
  have hoff : off = 0 := by simp only [tval] at q3; omega
  subst hoff
  have hlv : len = vs.length := by omega
  have hls : vs.length = ss.length := by rw [e1, List.length_map]
  have hmx := max_ok r1
  obtain ⟨s1, s2⟩ := segLen_ok e3
  have hmx2 := max_ok s1
  have e5 : (ss.map fun s => (⟨s.toArray⟩ : ByteArray)).map (·.data.toList) = ss := by rw [List.map_map]; exact List.map_id ss
  have hj : (joinA [] ss).length ≤ 1000000 := by rw [joinA_nil, e2]; omega
  have main : Calls X0.P 234 #[.slice (some ⟨b, 0, none⟩) (ss.map fun s => (⟨s.toArray⟩ : ByteArray)).length c, .string ⟨([] : List UInt8).toArray⟩] w fun e w' => e = .returned (.string ⟨(Lib.join ((ss.map fun s => (⟨s.toArray⟩ : ByteArray)).map (·.data.toList)) (⟨([] : List UInt8).toArray⟩ : ByteArray).data.toList).toArray⟩) ∧ Below w.heap.size w w' := by
    refine Any.strings_Join Tryz.lays156 Tryz.Builder_Extra_156 b 0 c (ss.map fun s => (⟨s.toArray⟩ : ByteArray)) ⟨([] : List UInt8).toArray⟩ w ?_ (hs.lt _ _ _ hp).2 (by simp; omega) (by simp; omega) ?_
    · intro j x hx
      rw [List.getElem?_map] at hx
      obtain ⟨t, ht, rfl⟩ := Option.map_eq_some_iff.1 hx
      have h5 : vs[j]? = some (Value.string ⟨t.toArray⟩) := by rw [e1, List.getElem?_map, ht]; rfl
      rw [Lib.cell_of_heap ho]
      have h6 : j < vs.length := (List.getElem?_eq_some_iff.1 h5).1
      rw [Nat.zero_add, List.getElem?_toArray, List.getElem?_append_left h6]
      exact h5
    · rw [e5, ← joinA_eq]; exact Nat.le_trans hj (by decide)
  rw [List.length_map, e5, ← hls, ← hlv] at main
  refine main.mono ?_
  rintro e2' w' ⟨he2, hB⟩
  subst he2
  obtain ⟨hS, hE⟩ := below_sim hs hB
  refine ⟨_, _, _, g, rfl, hk, hS, hE, ?_⟩
  rw [← joinA_eq, joinA_nil, e2]
  exact VR_mkStr e3
end Go.Proofs.YtpefmbpjanafkaaGreatDoor
/- Functions told in two ways. -/
namespace Go.Proofs.YtpefmbpjanafkaaGreatDoor
open Go.AM
noncomputable def sw32 (d : List AV → Store → Tr R) : List AV → Store → Tr R
  | [.sstr l, .str set, .int .i64 most], σ => must (sAll set l && leI ((segLen l).1 + maxTs (segLen l).2) most && leI most 1000000) (.ret (.bool true, σ))
  | args, σ => d args σ
theorem sw32_ok {d : List AV → Store → Tr R} (h : ∀ args σ, CallOK X0 32 args σ (d args σ)) (args : List AV) (σ : Store) : CallOK X0 32 args σ (sw32 d args σ) := by
  unfold sw32; split
  · exact ok32s _ _ _ _
  · exact h _ _
noncomputable def sw89 (d : List AV → Store → Tr R) : List AV → Store → Tr R
  | [.sstr l, .str [c]], σ => must (leI ((segLen l).1 + maxTs (segLen l).2) 1000000) (opt (sIndex [c] l) fun r => .ret (r, σ))
  | args, σ => d args σ
theorem sw89_ok {d : List AV → Store → Tr R} (h : ∀ args σ, CallOK X0 89 args σ (d args σ)) (args : List AV) (σ : Store) : CallOK X0 89 args σ (sw89 d args σ) := by
  unfold sw89; split
  · exact ok89f _ _ _
  · exact h _ _
noncomputable def sw234 (d : List AV → Store → Tr R) : List AV → Store → Tr R
  | [.slice id off n cap 1, .str sep], σ => match σ.get id with
    | some (.cells _ cs) => match strsOf ((cs.drop off).take n) with
      | some _ => sp234 [.slice id off n cap 1, .str sep] σ
      | none => match segsOf ((cs.drop off).take n) with
        | some _ => sp234s [.slice id off n cap 1, .str sep] σ
        | none => d [.slice id off n cap 1, .str sep] σ
    | _ => .fail
  | [.rsl id 0 [] c ts, .str []], σ => sp234r [.rsl id 0 [] c ts, .str []] σ
  | args, σ => d args σ
theorem sw234_ok {d : List AV → Store → Tr R} (h : ∀ args σ, CallOK X0 234 args σ (d args σ)) (args : List AV) (σ : Store) : CallOK X0 234 args σ (sw234 d args σ) := by
  unfold sw234; split
  · split
    · split
      · exact ok234j _ _ _ _ _ _
      · split
        · exact ok234s _ _ _ _ _ _
        · exact h _ _
    · exact CallOK.fail _ _ _ _
  · exact ok234r _ _ _ _
  · exact h _ _
noncomputable def sp314 : List AV → Store → Tr R
  | [.slice pid 0 n _ 1, .ptr id 0, x], σ => escWrite σ pid n id x
  | _, _ => .fail
theorem sp314_ok (args : List AV) (σ : Store) : CallOK X0 314 args σ (sp314 args σ) := by
  unfold sp314; split
  · exact ok314s _ _ _ _ _ _
  · exact CallOK.fail _ _ _ _
end Go.Proofs.YtpefmbpjanafkaaGreatDoor
