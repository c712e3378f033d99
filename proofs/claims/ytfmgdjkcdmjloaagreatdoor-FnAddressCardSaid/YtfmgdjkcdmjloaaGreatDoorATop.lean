/- The beginning of a run: words given. -/
import Derived.Test.YtfmgdjkcdmjloaaGreatDoorSyWc
import Derived.Test.YtfmgdjkcdmjloaaGreatDoorATab
import Derived.WalkKit
import Derived.ProofKit
import Derived.OpenShut
import Derived.Lay
import Derived.LaidOnce
import Derived.SevenTiedAt
import Derived.JoinedOf
import Derived.RowKit
import Derived.LaidLaws
import Derived.Stop.Joined
import Derived.ChangeMaps5
import Derived.Test.YtfmgdjkcdmjloaaGreatDoorAV0
import Derived.Test.YtfmgdjkcdmjloaaGreatDoorAV1
import Derived.Test.YtfmgdjkcdmjloaaGreatDoorAV2
import Derived.Test.YtfmgdjkcdmjloaaGreatDoorAOut
import Derived.Test.YtfmgdjkcdmjloaaGreatDoorASplit
set_option linter.unusedVariables false
set_option linter.unusedSimpArgs false
namespace Go.Proofs.YtfmgdjkcdmjloaaGreatDoor
open Go.ChangeMaps Go.ChangeShapes Go.WideShapes Go.ChangeAt Go.RowKit Go.AM
def bvOf : List (Nat × List UInt8) → Nat → List UInt8
  | [], _ => []
  | p :: r, B => if B = p.1 then p.2 else bvOf r B
def okBv (l : List (Nat × List UInt8)) : Prop := ∀ p ∈ l, ∀ c ∈ p.2, c ∈ clsT (p.1 % 16)
theorem bvOf_ok : ∀ {l : List (Nat × List UInt8)}, okBv l → ∀ B c, c ∈ bvOf l B → c ∈ clsT (B % 16)
  | [], _, _, _, h => by cases h
  | p :: r, hl, B, c, h => by
    unfold bvOf at h
    split at h
    · rename_i e
      rw [e]; exact hl p (List.mem_cons_self ..) c h
    · exact bvOf_ok (fun q hq => hl q (List.mem_cons_of_mem _ hq)) B c h
def ghostT (l : List (Nat × List UInt8)) (h : okBv l) : Ghost := { π := fun _ => none, I := fun _ => none, next := 0, bv := bvOf l, bok := bvOf_ok h, iok := fun _ _ h => by cases h }
section
variable {l : List (Nat × List UInt8)} {hl : okBv l}
theorem simT (w : World) : Sim (ghostT l hl) { t := .leaf, next := 0 } w where
  next := rfl
  blk := fun id bl h => by simp [Store.get, PT.get] at h
  inj := fun _ _ _ _ _ h => by cases h
  imm := fun _ _ h => by cases h
  apart := fun _ _ _ _ h => by cases h
  lt := fun _ _ _ h => by cases h
theorem extT {g : Ghost} {w w' : World} (h : Ext (ghostT l hl) g w w') : Below w.heap.size w w' :=
  ⟨h.os, h.tape, h.output, h.size, fun b hb => h.keep b hb fun _ _ h => by cases h⟩
theorem finT {w : World} {e : Ending} {w' : World} : Post (ghostT l hl) w (fun r => r.1 = .bool true) e w' → e = .returned (.bool true) ∧ Below w.heap.size w w' := by
  rintro ⟨v, a, σ', g', rfl, ha, hs, he, hv⟩
  subst ha
  cases hv
  exact ⟨rfl, extT he⟩
theorem svT (B : Nat) : (ghostT l hl).sv (16 * B) = bvOf l B := by
  unfold Ghost.sv
  rw [show 16 * B / 16 = B by omega, show 16 * B % 16 = 0 by omega]
  exact imgL_zero _
theorem segT {B lo hi : Nat} {rest : List Seg} (h1 : lo ≤ (bvOf l B).length) (h2 : (bvOf l B).length ≤ hi) (h3 : SegsOK (ghostT l hl).sv rest) : SegsOK (ghostT l hl).sv (wrd B lo hi :: rest) :=
  ⟨⟨by rw [svT]; exact h1, by rw [svT]; exact h2, fun c hc => by rw [svT] at hc; exact bvOf_ok hl B c hc⟩, h3⟩
theorem denT (B lo hi : Nat) (rest : List Seg) : den (ghostT l hl).sv (wrd B lo hi :: rest) = bvOf l B ++ den (ghostT l hl).sv rest := by
  show (ghostT l hl).sv (16 * B) ++ _ = _
  rw [svT]
theorem denN : den (ghostT l hl).sv [] = [] := rfl
theorem denB (c : UInt8) (rest : List Seg) : den (ghostT l hl).sv (.b c :: rest) = c :: den (ghostT l hl).sv rest := rfl
theorem strT {m : List Seg} {s : ByteArray} (hm : SegsOK (ghostT l hl).sv m) (hd : den (ghostT l hl).sv m = s.data.toList) : VR (ghostT l hl) (.sstr m) (.string s) := by
  have := VR.sstr (g := ghostT l hl) m hm
  rw [hd] at this
  simpa using this
theorem strP (s : ByteArray) : VR (ghostT l hl) (.str s.data.toList) (.string s) := by
  have := VR.str (g := ghostT l hl) s.data.toList
  simpa using this
end
end Go.Proofs.YtfmgdjkcdmjloaaGreatDoor
/- FnAddress at the names that are run. -/
namespace Go.Proofs.YtfmgdjkcdmjloaaGreatDoor
theorem aB46 (n : Nat) (h : n ≤ 15) : oB 46 n = true :=
  match n, h with
  | 0, _ => b0_46
  | 1, _ => b1_46
  | 2, _ => b2_46
  | 3, _ => b3_46
  | 4, _ => b4_46
  | 5, _ => b5_46
  | 6, _ => b6_46
  | 7, _ => b7_46
  | 8, _ => b8_46
  | 9, _ => b9_46
  | 10, _ => b10_46
  | 11, _ => b11_46
  | 12, _ => b12_46
  | 13, _ => b13_46
  | 14, _ => b14_46
  | 15, _ => b15_46
  | n + 16, h => absurd h (by omega)
theorem aB43 (n : Nat) (h : n ≤ 15) : oB 43 n = true :=
  match n, h with
  | 0, _ => b0_43
  | 1, _ => b1_43
  | 2, _ => b2_43
  | 3, _ => b3_43
  | 4, _ => b4_43
  | 5, _ => b5_43
  | 6, _ => b6_43
  | 7, _ => b7_43
  | 8, _ => b8_43
  | 9, _ => b9_43
  | 10, _ => b10_43
  | 11, _ => b11_43
  | 12, _ => b12_43
  | 13, _ => b13_43
  | 14, _ => b14_43
  | 15, _ => b15_43
  | n + 16, h => absurd h (by omega)
theorem aB45 (n : Nat) (h : n ≤ 15) : oB 45 n = true :=
  match n, h with
  | 0, _ => b0_45
  | 1, _ => b1_45
  | 2, _ => b2_45
  | 3, _ => b3_45
  | 4, _ => b4_45
  | 5, _ => b5_45
  | 6, _ => b6_45
  | 7, _ => b7_45
  | 8, _ => b8_45
  | 9, _ => b9_45
  | 10, _ => b10_45
  | 11, _ => b11_45
  | 12, _ => b12_45
  | 13, _ => b13_45
  | 14, _ => b14_45
  | 15, _ => b15_45
  | n + 16, h => absurd h (by omega)
theorem aB95 (n : Nat) (h : n ≤ 15) : oB 95 n = true :=
  match n, h with
  | 0, _ => b0_95
  | 1, _ => b1_95
  | 2, _ => b2_95
  | 3, _ => b3_95
  | 4, _ => b4_95
  | 5, _ => b5_95
  | 6, _ => b6_95
  | 7, _ => b7_95
  | 8, _ => b8_95
  | 9, _ => b9_95
  | 10, _ => b10_95
  | 11, _ => b11_95
  | 12, _ => b12_95
  | 13, _ => b13_95
  | 14, _ => b14_95
  | 15, _ => b15_95
  | n + 16, h => absurd h (by omega)
theorem addrB {c : UInt8} (hc : c ∈ ([46, 43, 45, 95] : List UInt8)) (n : Nat) (h : n ≤ 15) : okB (goA (segB c n)) = true := by
  simp only [List.mem_cons, List.mem_nil_iff, or_false] at hc
  rcases hc with rfl | rfl | rfl | rfl
  · exact aB46 n h
  · exact aB43 n h
  · exact aB45 n h
  · exact aB95 n h
end Go.Proofs.YtfmgdjkcdmjloaaGreatDoor
/- FnAddress: the call answers true, and leaves all as it was. -/
namespace Go.Proofs.YtfmgdjkcdmjloaaGreatDoor
open Go.ChangeMaps Go.ChangeShapes Go.WideShapes Go.ChangeAt Go.RowKit Go.AM
theorem only_ok {s set : List UInt8} {most : Int} (h : onlyB s set most = true) : (s.length : Int) ≤ most ∧ ∀ c ∈ s, c ∈ set := by
  simp only [onlyB, allB, Bool.and_eq_true, decide_eq_true_eq, List.all_eq_true] at h
  exact ⟨h.1, fun c hc => by simpa using h.2 c hc⟩
theorem ne_len {s : List UInt8} (h : ¬ s = []) : 1 ≤ s.length := by
  rcases Nat.eq_zero_or_pos s.length with h0 | h0
  · exact (h (List.length_eq_zero_iff.1 h0)).elim
  · exact h0
theorem a_run {a b d : ByteArray} {w : World} {L : List (Nat × List UInt8)} (hl : okBv L) {l : List Seg} (hs : SegsOK (ghostT L hl).sv l) (ha : den (ghostT L hl).sv l = a.data.toList)
    (hb : bvOf L 3 = b.data.toList) (hd : bvOf L 19 = d.data.toList)
    (b1 : 1 ≤ b.data.toList.length) (b2 : b.data.toList.length ≤ 40) (d1 : 1 ≤ d.data.toList.length) (d2 : d.data.toList.length ≤ 40) (hok : okB (goA l) = true) :
    Calls Tryz.prog 3 #[.string a, .string b, .string d] w fun e w' => e = .returned (.bool true) ∧ Below w.heap.size w w' := by
  have one : ∀ (B : Nat) (s : ByteArray), bvOf L B = s.data.toList → 1 ≤ s.data.toList.length → s.data.toList.length ≤ 40 → VR (ghostT L hl) (.sstr [wrd B 1 40]) (.string s) := by
    intro B s hB h1 h2
    exact strT (segT (by rw [hB]; exact h1) (by rw [hB]; exact h2) trivial) (by rw [denT, denN, List.append_nil, hB])
  have h := Go.AM.runT_ok (fun run h => tabS_ok fuel run h) deep 3 [.sstr l, .sstr [wrd 3 1 40], .sstr [wrd 19 1 40]] { t := .leaf, next := 0 } (fun r => r.1 = .bool true) (ghostT L hl) w [.string a, .string b, .string d] (sat_of_okB hok) (.cons (strT hs ha) (.cons (one 3 b hb b1 b2) (.cons (one 19 d hd d1 d2) .nil))) (simT w) (fun i cs h => by cases h)
  exact Calls.mono (show Calls Tryz.prog 3 #[.string a, .string b, .string d] w _ from h) fun e w' => finT
theorem okL {r c t b d : List UInt8} (h0 : ∀ x ∈ r, x ∈ cl0) (h10 : ∀ x ∈ c, x ∈ ([46, 43, 45, 95] : List UInt8)) (h2 : ∀ x ∈ t, x ∈ cl2) (hb : ∀ x ∈ b, x ∈ ([97, 98, 122] : List UInt8)) (hd : ∀ x ∈ d, x ∈ ([97, 98, 122] : List UInt8)) : okBv [(0, r), (10, c), (2, t), (3, b), (19, d)] := by
  intro x hx y hy
  simp only [List.mem_cons, List.mem_nil_iff, or_false] at hx
  rcases hx with rfl | rfl | rfl | rfl | rfl
  · rw [show ((0 : Nat), r).1 % 16 = 0 by simp]; exact h0 y hy
  · rw [show ((10 : Nat), c).1 % 16 = 10 by simp]; exact h10 y hy
  · rw [show ((2 : Nat), t).1 % 16 = 2 by simp]; exact h2 y hy
  · rw [show ((3 : Nat), b).1 % 16 = 3 by simp]; exact hb y hy
  · rw [show ((19 : Nat), d).1 % 16 = 3 by simp]; exact hd y hy
theorem a_calls (a b d : ByteArray) (w : World) : Calls Tryz.prog 3 #[.string a, .string b, .string d] w fun e w' => e = .returned (.bool true) ∧ Below w.heap.size w w' := by
  by_cases hc : a.data.toList.length > 2147483647 ∨ b.data.toList.length > 2147483647 ∨ d.data.toList.length > 2147483647 ∨ onlyB a.data.toList [97, 98, 122, 48, 49, 57, 46, 43, 45, 95] 40 = false ∨ a.data.toList = [] ∨ onlyB b.data.toList [97, 98, 122] 40 = false ∨ b.data.toList = [] ∨ onlyB d.data.toList [97, 98, 122] 40 = false ∨ d.data.toList = []
  · have h := ok3 runO_ok 1 (.str a.data.toList) (.str b.data.toList) (.str d.data.toList) { t := .leaf, next := 0 } (fun r => r.1 = .bool true) (ghostT [] (fun _ h => by cases h)) w [.string a, .string b, .string d] (Tr.sat_of_val (addr_out _ _ _ _ hc) rfl) (.cons (strP a) (.cons (strP b) (.cons (strP d) .nil))) (simT w) (fun i cs h => by cases h)
    exact Calls.mono (show Calls Tryz.prog 3 #[.string a, .string b, .string d] w _ from h) fun e w' => finT
  · simp only [not_or, Bool.not_eq_false] at hc
    obtain ⟨_, _, _, wa, na, wb, nb, wd, nd⟩ := hc
    obtain ⟨a2, a3⟩ := only_ok wa
    obtain ⟨b2, b3⟩ := only_ok wb
    obtain ⟨d2, d3⟩ := only_ok wd
    have a1 := ne_len na
    have b1 := ne_len nb
    have d1 := ne_len nd
    rcases a_split _ a1 (by omega) a3 with ⟨e1, e2⟩ | ⟨r, c, t, e, e1, e2, e3, e4, e5⟩ | ⟨r, t, e, e1, e2, e3, e4⟩
    · have hl : okBv [(0, a.data.toList), (10, []), (2, []), (3, b.data.toList), (19, d.data.toList)] := okL e2 (fun _ h => by cases h) (fun _ h => by cases h) b3 d3
      exact a_run hl (l := segA) (segT (by exact a1) (by exact e1) trivial) (by unfold segA; rw [denT, denN, List.append_nil]; rfl) rfl rfl b1 (by omega) d1 (by omega) addrA
    · have hl : okBv [(0, r), (10, [c]), (2, t), (3, b.data.toList), (19, d.data.toList)] := okL e3 (fun x h => by rw [List.mem_singleton.1 h]; exact e4) e5 b3 d3
      refine a_run hl (l := segB c r.length) ?_ ?_ rfl rfl b1 (by omega) d1 (by omega) (addrB e4 r.length e1)
      · cases hn : r.length with
        | zero => exact (show SegsOK _ [wrd 2 0 39] from segT (Nat.zero_le _) (by show t.length ≤ 39; omega) trivial)
        | succ n => exact segT (by show n + 1 ≤ r.length; omega) (by show r.length ≤ n + 1; omega) (show SegsOK _ [wrd 2 0 (38 - n)] from segT (Nat.zero_le _) (by show t.length ≤ 38 - n; omega) trivial)
      · cases hn : r.length with
        | zero =>
          have hr0 := List.length_eq_zero_iff.1 hn
          unfold segB
          rw [denB, denT, denN, List.append_nil, e, hr0]; rfl
        | succ n =>
          unfold segB
          rw [denT, denB, denT, denN, List.append_nil, e]; rfl
    · have hl : okBv [(0, r), (10, []), (2, t), (3, b.data.toList), (19, d.data.toList)] := okL e3 (fun _ h => by cases h) e4 b3 d3
      cases t with
      | nil =>
        refine a_run hl (l := segC) (segT (by show 16 ≤ r.length; omega) (by show r.length ≤ 16; omega) trivial) ?_ rfl rfl b1 (by omega) d1 (by omega) addrC
        unfold segC
        rw [denT, denN, List.append_nil, e, List.append_nil]; rfl
      | cons x t =>
        refine a_run hl (l := segD) (segT (by show 16 ≤ r.length; omega) (by show r.length ≤ 16; omega) (segT (by exact Nat.succ_le_succ (Nat.zero_le _)) (by exact e2) trivial)) ?_ rfl rfl b1 (by omega) d1 (by omega) addrD
        unfold segD
        rw [denT, denT, denN, List.append_nil, e]; rfl
end Go.Proofs.YtfmgdjkcdmjloaaGreatDoor
