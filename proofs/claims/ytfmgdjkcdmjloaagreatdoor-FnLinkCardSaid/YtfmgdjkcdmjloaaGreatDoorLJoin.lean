/- The shelf's contract of strings.Join, at this program. -/
import Derived.Test.YtfmgdjkcdmjloaaGreatDoorSLay
import Derived.Shelf.Strings.OnBuilder
import Derived.Test.YtfmgdjkcdmjloaaGreatDoorSzLib
import Derived.Test.YtfmgdjkcdmjloaaGreatDoorLS1
set_option linter.unusedVariables false
set_option linter.unusedSimpArgs false
namespace Go.Proofs
open Go.Shelf
def Tryz.lays156_ren : Go.Shelf.Ren := ⟨fun | 156 => 164 | 165 => 32 | 166 => 29 | 169 => 20 | 240 => 34 | 241 => 42 | 276 => 43 | 277 => 55 | n => n, fun | 0 => 0 | 3 => 3 | 4 => 4 | 9 => 9 | 20 => 20 | 31 => 158 | 37 => 34 | 70 => 33 | 72 => 36 | 75 => 38 | 76 => 53 | 127 => 60 | 164 => 80 | 5 => 5 | 80 => 40 | n => n, fun | n => n⟩
theorem Tryz.lays156 : Go.Proofs.Lays.n156 Tryz.prog Tryz.lays156_ren := {
  mixed := by kernel_rfl
  f156 := Tryz.func164.trans (congrArg some (by kernel_rfl))
  f165 := Tryz.func32.trans (congrArg some (by kernel_rfl))
  f166 := Tryz.func29.trans (congrArg some (by kernel_rfl))
  f169 := Tryz.func20.trans (congrArg some (by kernel_rfl))
  f240 := Tryz.func34.trans (congrArg some (by kernel_rfl))
  f241 := Tryz.func42.trans (congrArg some (by kernel_rfl))
  f276 := Tryz.func43.trans (congrArg some (by kernel_rfl))
  f277 := Tryz.func55.trans (congrArg some (by kernel_rfl))
  t0 := Tryz.underlying0
  a0 := Tryz.isAgg0
  z0 := Tryz.sizeOf0
  v0 := Tryz.zeroValue0
  t3 := Tryz.underlying3
  a3 := Tryz.isAgg3
  z3 := Tryz.sizeOf3
  v3 := Tryz.zeroValue3
  t4 := Tryz.underlying4
  a4 := Tryz.isAgg4
  z4 := Tryz.sizeOf4
  v4 := Tryz.zeroValue4
  t9 := Tryz.underlying9
  a9 := Tryz.isAgg9
  z9 := Tryz.sizeOf9
  v9 := Tryz.zeroValue9
  t20 := Tryz.underlying20
  a20 := Tryz.isAgg20
  z20 := Tryz.sizeOf20
  v20 := Tryz.zeroValue20
  t31 := Tryz.underlying158
  a31 := Tryz.isAgg158
  z31 := Tryz.sizeOf158
  v31 := Tryz.zeroValue158
  t37 := Tryz.underlying34
  a37 := Tryz.isAgg34
  z37 := Tryz.sizeOf34
  v37 := Tryz.zeroValue34
  t70 := Tryz.underlying33
  a70 := Tryz.isAgg33
  z70 := Tryz.sizeOf33
  v70 := Tryz.zeroValue33
  t72 := Tryz.underlying36
  a72 := Tryz.isAgg36
  z72 := Tryz.sizeOf36
  v72 := Tryz.zeroValue36
  t75 := Tryz.underlying38
  a75 := Tryz.isAgg38
  z75 := Tryz.sizeOf38
  v75 := Tryz.zeroValue38
  t76 := Tryz.underlying53
  a76 := Tryz.isAgg53
  z76 := Tryz.sizeOf53
  v76 := Tryz.zeroValue53
  t127 := Tryz.underlying60
  a127 := Tryz.isAgg60
  z127 := Tryz.sizeOf60
  v127 := Tryz.zeroValue60
  t164 := Tryz.underlying80
  a164 := Tryz.isAgg80
  z164 := Tryz.sizeOf80
  v164 := Tryz.zeroValue80 }
theorem Tryz.Builder_Extra_156 : Builder.Extra Tryz.prog Tryz.lays156_ren := {
  sizeBuilder := by kernel_rfl
  liesBuilder := by kernel_rfl
  t5 := Tryz.underlying5
  a5 := Tryz.isAgg5
  z5 := Tryz.sizeOf5
  v5 := Tryz.zeroValue5
  infoByte := by kernel_rfl
  cellsByte := by kernel_rfl
  sizeByte := by kernel_rfl
  neB5 := by decide }
end Go.Proofs
/- strings.Join. -/
namespace Go.Proofs.YtfmgdjkcdmjloaaGreatDoor
open Go.AM Go.Shelf Go.RowKit
/-- The texts of some cells. -/
def strsOf : List AV → Option (List (List UInt8))
  | [] => some []
  | .str s :: l => match strsOf l with | some m => some (s :: m) | none => none
  | _ => none
def joinA (sep : List UInt8) : List (List UInt8) → List UInt8
  | [] => []
  | [s] => s
  | s :: l => s ++ sep ++ joinA sep l
def sp164 : List AV → Store → Tr R
  | [.slice id off n cap 1, .str sep], σ => match σ.get id with
    | some (.cells _ cs) => opt (strsOf ((cs.drop off).take n)) fun ss => must (Nat.beq ss.length n && Nat.ble n 1000000 && Nat.ble n cap && Nat.ble (joinA sep ss).length 1000000) (.ret (.str (joinA sep ss), σ))
    | _ => .fail
  | _, _ => .fail
theorem strsOf_ok {g : Ghost} : ∀ {cs : List AV} {ss : List (List UInt8)} {vs : List Value}, strsOf cs = some ss → VRs g cs vs → vs = ss.map fun s => Value.string ⟨s.toArray⟩
  | [], ss, vs, h, hv => by cases h; cases hv; rfl
  | a :: l, ss, vs, h, hv => by
    unfold strsOf at h
    split at h
    · rename_i h1; cases h1
    · rename_i s l' h1
      cases h1
      split at h
      · rename_i m hm
        cases h
        cases hv with
        | cons h2 h3 =>
        cases h2
        rw [strsOf_ok hm h3]; rfl
      · cases h
    · cases h
theorem joinA_eq (sep : List UInt8) : ∀ ss : List (List UInt8), joinA sep ss = Lib.join ss sep
  | [] => rfl
  | [s] => (Lib.join_one s sep).symm
  | s :: t :: l => by
    rw [Lib.join_cons]
    show s ++ sep ++ joinA sep (t :: l) = _
    rw [joinA_eq sep (t :: l), Lib.join_cons]
    simp [Lib.joinTail]
theorem ok164j (id off n cap : Nat) (sep : List UInt8) (σ : Store) : CallOK X0 164 [.slice id off n cap 1, .str sep] σ (sp164 [.slice id off n cap 1, .str sep] σ) := by
  intro K g w args' ht ha hs hG
  unfold sp164 at ht
  simp only at ht
  split at ht
  case h_2 => exact ht.elim
  rename_i e cs hg
  obtain ⟨ss, hss, ht1⟩ := Tr.sat_opt ht
  obtain ⟨hm, hk⟩ := Tr.sat_must ht1
  clear ht ht1
  simp only [Bool.and_eq_true] at hm
  obtain ⟨⟨⟨h1, h2⟩, h3⟩, h4⟩ := hm
  have h1 : ss.length = n := Nat.eq_of_beq_eq_true h1
  have h2 : n ≤ 1000000 := by simpa using h2
  have h3 : n ≤ cap := by simpa using h3
  have h4 : (joinA sep ss).length ≤ 1000000 := by simpa using h4
  cases ha with
  | cons hsl ha =>
  cases ha with
  | cons hstr ha =>
  cases ha
  cases hstr
  cases hsl with
  | slice _ _ _ _ _ a c k1 k2 k3 =>
  obtain ⟨b, m, o, hp, ho, l, rest, rfl, hn, hvr, _⟩ := hs.blk _ _ hg
  obtain ⟨rfl, k4, k5⟩ := k2 _ _ hp
  have hcl := hvr.length
  have hvs : VRs g ((cs.drop off).take n) ((l.drop off).take n) := (hvr.drop off).take n
  have hst := strsOf_ok hss hvs
  subst h1
  have e1 : (ss.map fun s => (⟨s.toArray⟩ : ByteArray)).map (·.data.toList) = ss := by rw [List.map_map]; exact List.map_id ss
  have main : Calls X0.P 164 #[.slice (some ⟨b, off, none⟩) (ss.map fun s => (⟨s.toArray⟩ : ByteArray)).length c, .string ⟨sep.toArray⟩] w fun e w' => e = .returned (.string ⟨(Lib.join ((ss.map fun s => (⟨s.toArray⟩ : ByteArray)).map (·.data.toList)) (⟨sep.toArray⟩ : ByteArray).data.toList).toArray⟩) ∧ Below w.heap.size w w' := by
    refine Any.strings_Join Tryz.lays156 Tryz.Builder_Extra_156 b off c (ss.map fun s => (⟨s.toArray⟩ : ByteArray)) ⟨sep.toArray⟩ w ?_ (hs.lt _ _ _ hp).2 (by simp; omega) (by simp; omega) ?_
    · intro j x hx
      rw [List.getElem?_map] at hx
      obtain ⟨t, ht, rfl⟩ := Option.map_eq_some_iff.1 hx
      have hj : j < ss.length := (List.getElem?_eq_some_iff.1 ht).1
      have h5 := congrArg (·[j]?) hst
      simp only [List.getElem?_map, ht, Option.map_some, List.getElem?_take, hj, if_true, List.getElem?_drop] at h5
      rw [Lib.cell_of_heap ho]
      have h6 : off + j < l.length := (List.getElem?_eq_some_iff.1 h5).1
      rw [List.getElem?_toArray, List.getElem?_append_left h6]
      exact h5
    · rw [e1, ← joinA_eq]; exact Nat.le_trans h4 (by decide)
  rw [List.length_map, e1] at main
  refine main.mono ?_
  rintro e2 w' ⟨he2, hB⟩
  subst he2
  obtain ⟨hS, hE⟩ := below_sim hs hB
  refine ⟨_, _, _, g, rfl, hk, hS, hE, ?_⟩
  rw [joinA_eq]
  exact .str _
end Go.Proofs.YtfmgdjkcdmjloaaGreatDoor
/- Functions told in two ways. -/
namespace Go.Proofs.YtfmgdjkcdmjloaaGreatDoor
open Go.AM
def sw11 (d : List AV → Store → Tr R) : List AV → Store → Tr R
  | [.sstr l, .str set, .int .i64 most], σ => must (sAll set l && leI ((segLen l).1 + maxTs (segLen l).2) most && leI most 1000000) (.ret (.bool true, σ))
  | args, σ => d args σ
theorem sw11_ok {d : List AV → Store → Tr R} (h : ∀ args σ, CallOK X0 11 args σ (d args σ)) (args : List AV) (σ : Store) : CallOK X0 11 args σ (sw11 d args σ) := by
  unfold sw11; split
  · exact ok11s _ _ _ _
  · exact h _ _
def sw50 (d : List AV → Store → Tr R) : List AV → Store → Tr R
  | [.sstr l, .str [c]], σ => must (sNone [c] l && leI ((segLen l).1 + maxTs (segLen l).2) 1000000) (.ret (.int .i64 (-1), σ))
  | args, σ => d args σ
theorem sw50_ok {d : List AV → Store → Tr R} (h : ∀ args σ, CallOK X0 50 args σ (d args σ)) (args : List AV) (σ : Store) : CallOK X0 50 args σ (sw50 d args σ) := by
  unfold sw50; split
  · exact ok50s _ _ _
  · exact h _ _
def sw164 (d : List AV → Store → Tr R) : List AV → Store → Tr R
  | [.slice id off n cap 1, .str sep], σ => match σ.get id with
    | some (.cells _ cs) => match strsOf ((cs.drop off).take n) with
      | some _ => sp164 [.slice id off n cap 1, .str sep] σ
      | none => d [.slice id off n cap 1, .str sep] σ
    | _ => .fail
  | args, σ => d args σ
theorem sw164_ok {d : List AV → Store → Tr R} (h : ∀ args σ, CallOK X0 164 args σ (d args σ)) (args : List AV) (σ : Store) : CallOK X0 164 args σ (sw164 d args σ) := by
  unfold sw164; split
  · split
    · split
      · exact ok164j _ _ _ _ _ _
      · exact h _ _
    · exact CallOK.fail _ _ _ _
  · exact h _ _
def sp253 : List AV → Store → Tr R
  | [.slice pid 0 n _ 1, .ptr id 0, x], σ => escWrite σ pid n id x
  | _, _ => .fail
theorem sp253_ok (args : List AV) (σ : Store) : CallOK X0 253 args σ (sp253 args σ) := by
  unfold sp253; split
  · exact ok253s _ _ _ _ _ _
  · exact CallOK.fail _ _ _ _
end Go.Proofs.YtfmgdjkcdmjloaaGreatDoor
