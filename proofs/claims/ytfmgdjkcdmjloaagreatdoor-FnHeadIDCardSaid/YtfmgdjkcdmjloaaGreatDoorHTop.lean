/- The beginning of a run: words given. -/
import Derived.Test.YtfmgdjkcdmjloaaGreatDoorSxWc
import Derived.Test.YtfmgdjkcdmjloaaGreatDoorHTab
import Derived.WalkKit
import Derived.ProofKit
import Derived.OpenShut
import Derived.Lay
import Derived.LaidOnce
import Derived.SevenTiedAt
import Derived.JoinedOf
import Derived.RowKit
import Derived.LaidLaws
import Derived.Stop.Joined
import Derived.ChangeMaps5
import Derived.Test.YtfmgdjkcdmjloaaGreatDoorHWord
set_option linter.unusedVariables false
set_option linter.unusedSimpArgs false
namespace Go.Proofs.YtfmgdjkcdmjloaaGreatDoor
open Go.ChangeMaps Go.ChangeShapes Go.WideShapes Go.ChangeAt Go.RowKit Go.AM
def bvOf : List (Nat × List UInt8) → Nat → List UInt8
  | [], _ => []
  | p :: r, B => if B = p.1 then p.2 else bvOf r B
def okBv (l : List (Nat × List UInt8)) : Prop := ∀ p ∈ l, ∀ c ∈ p.2, c ∈ clsT (p.1 % 16)
theorem bvOf_ok : ∀ {l : List (Nat × List UInt8)}, okBv l → ∀ B c, c ∈ bvOf l B → c ∈ clsT (B % 16)
  | [], _, _, _, h => by cases h
  | p :: r, hl, B, c, h => by
    unfold bvOf at h
    split at h
    · rename_i e
      rw [e]; exact hl p (List.mem_cons_self ..) c h
    · exact bvOf_ok (fun q hq => hl q (List.mem_cons_of_mem _ hq)) B c h
/-- A ghost that tells of words alone. -/
def ghostT (l : List (Nat × List UInt8)) (h : okBv l) : Ghost := { π := fun _ => none, I := fun _ => none, next := 0, bv := bvOf l, bok := bvOf_ok h, iok := fun _ _ h => by cases h }
section
variable {l : List (Nat × List UInt8)} {hl : okBv l}
theorem simT (w : World) : Sim (ghostT l hl) { t := .leaf, next := 0 } w where
  next := rfl
  blk := fun id bl h => by simp [Store.get, PT.get] at h
  inj := fun _ _ _ _ _ h => by cases h
  imm := fun _ _ h => by cases h
  apart := fun _ _ _ _ h => by cases h
  lt := fun _ _ _ h => by cases h
theorem extT {g : Ghost} {w w' : World} (h : Ext (ghostT l hl) g w w') : Below w.heap.size w w' :=
  ⟨h.os, h.tape, h.output, h.size, fun b hb => h.keep b hb fun _ _ h => by cases h⟩
theorem finT {w : World} {e : Ending} {w' : World} : Post (ghostT l hl) w (fun r => r.1 = .bool true) e w' → e = .returned (.bool true) ∧ Below w.heap.size w w' := by
  rintro ⟨v, a, σ', g', rfl, ha, hs, he, hv⟩
  subst ha
  cases hv
  exact ⟨rfl, extT he⟩
theorem svT (B : Nat) : (ghostT l hl).sv (16 * B) = bvOf l B := by
  unfold Ghost.sv
  rw [show 16 * B / 16 = B by omega, show 16 * B % 16 = 0 by omega]
  exact imgL_zero _
theorem segT {B lo hi : Nat} {rest : List Seg} (h1 : lo ≤ (bvOf l B).length) (h2 : (bvOf l B).length ≤ hi) (h3 : SegsOK (ghostT l hl).sv rest) : SegsOK (ghostT l hl).sv (wrd B lo hi :: rest) :=
  ⟨⟨by rw [svT]; exact h1, by rw [svT]; exact h2, fun c hc => by rw [svT] at hc; exact bvOf_ok hl B c hc⟩, h3⟩
theorem denT (B lo hi : Nat) (rest : List Seg) : den (ghostT l hl).sv (wrd B lo hi :: rest) = bvOf l B ++ den (ghostT l hl).sv rest := by
  show (ghostT l hl).sv (16 * B) ++ _ = _
  rw [svT]
theorem denN : den (ghostT l hl).sv [] = [] := rfl
theorem denB (c : UInt8) (rest : List Seg) : den (ghostT l hl).sv (.b c :: rest) = c :: den (ghostT l hl).sv rest := rfl
/-- A text as a value. -/
theorem strT {m : List Seg} {s : ByteArray} (hm : SegsOK (ghostT l hl).sv m) (hd : den (ghostT l hl).sv m = s.data.toList) : VR (ghostT l hl) (.sstr m) (.string s) := by
  have := VR.sstr (g := ghostT l hl) m hm
  rw [hd] at this
  simpa using this
theorem strP (s : ByteArray) : VR (ghostT l hl) (.str s.data.toList) (.string s) := by
  have := VR.str (g := ghostT l hl) s.data.toList
  simpa using this
end
end Go.Proofs.YtfmgdjkcdmjloaaGreatDoor
/- FnHeadID where it speaks of nothing. -/
namespace Go.Proofs.YtfmgdjkcdmjloaaGreatDoor
open Go.AM
theorem head_out (n : Int) (s t : List UInt8) (σ : Store) (h : s.length > 2147483647 ∨ t.length > 2147483647 ∨ n < 1 ∨ 6 < n ∨ wordB s = false ∨ wordB t = false) : (c5 runG 1 (.int .i64 n) (.str s) (.str t) σ).val = some (.bool true, σ) := by
  unfold c5
  generalize h1 : decide ((2147483647 : Int) < (s.length : Nat)) = b1
  generalize h2 : decide ((2147483647 : Int) < (t.length : Nat)) = b2
  rw [val_lenS, val_gt, h1]
  cases b1 with
  | true => rw [val_gFT, val_gFT, val_gFT, val_pickT _ _ _ _ rfl, val_ifT _ _ _ rfl, val_ret]
  | false =>
  rw [val_gFF, val_gFF, val_lenS, val_gFF, val_gt, h2, val_pickF _ _ _ _ rfl]
  cases b2 with
  | true => rw [val_ifT _ _ _ rfl, val_ret]
  | false =>
  rw [val_ifF _ _ _ rfl, val_lt]
  have g1 : ¬ s.length > 2147483647 := by simp at h1; omega
  have g2 : ¬ t.length > 2147483647 := by simp at h2; omega
  have fin : ∀ x : Bool, x = true → True := fun _ _ => trivial
  generalize h3 : decide (n < 1) = b3
  cases b3 with
  | true =>
    rw [val_gFT, val_gFT, val_pickT _ _ _ _ rfl, val_gFT, val_gFT, val_gFT, val_pickT _ _ _ _ rfl, val_gFT, val_gFT, val_gFT, val_pickT _ _ _ _ rfl, val_ifT _ _ _ rfl, val_ret]
  | false =>
  rw [val_gFF, val_gFF, val_gt, val_pickF _ _ _ _ rfl]
  generalize h4 : decide ((6 : Int) < n) = b4
  cases b4 with
  | true =>
    rw [val_gFT, val_gFT, val_gFT, val_pickT _ _ _ _ rfl, val_gFT, val_gFT, val_gFT, val_pickT _ _ _ _ rfl, val_ifT _ _ _ rfl, val_ret]
  | false =>
  rw [val_gFF, val_gFF, val_w14, val_gFF, val_notK, val_pickF _ _ _ _ rfl]
  cases hw : wordB s with
  | false =>
    rw [Bool.not_false, val_gFT, val_gFT, val_gFT, val_pickT _ _ _ _ rfl, val_ifT _ _ _ rfl, val_ret]
  | true =>
  rw [Bool.not_true, val_gFF, val_gFF, val_w14, val_gFF, val_notK, val_pickF _ _ _ _ rfl]
  cases hw2 : wordB t with
  | false => rw [Bool.not_false, val_ifT _ _ _ rfl, val_ret]
  | true =>
    exfalso
    simp only [decide_eq_false_iff_not] at h3 h4
    rcases h with h | h | h | h | h | h
    · exact g1 h
    · exact g2 h
    · exact h3 h
    · exact h4 h
    · rw [hw] at h; cases h
    · rw [hw2] at h; cases h
end Go.Proofs.YtfmgdjkcdmjloaaGreatDoor
/- FnHeadID at each level, for unknown words. -/
namespace Go.Proofs.YtfmgdjkcdmjloaaGreatDoor
theorem head1 : okB (goH 1) = true := by kernel_rfl
theorem head2 : okB (goH 2) = true := by kernel_rfl
theorem head3 : okB (goH 3) = true := by kernel_rfl
theorem head4 : okB (goH 4) = true := by kernel_rfl
theorem head5 : okB (goH 5) = true := by kernel_rfl
theorem head6 : okB (goH 6) = true := by kernel_rfl
theorem head_ok (n : Int) (h1 : 1 ≤ n) (h6 : n ≤ 6) : okB (goH n) = true := by
  obtain ⟨k, rfl⟩ := Int.eq_ofNat_of_zero_le (by omega : 0 ≤ n)
  have h1 : 1 ≤ k := by omega
  have h6 : k ≤ 6 := by omega
  match k, h1, h6 with
  | 1, _, _ => exact head1
  | 2, _, _ => exact head2
  | 3, _, _ => exact head3
  | 4, _, _ => exact head4
  | 5, _, _ => exact head5
  | 6, _, _ => exact head6
end Go.Proofs.YtfmgdjkcdmjloaaGreatDoor
/- FnHeadID: the call answers true, and leaves all as it was. -/
namespace Go.Proofs.YtfmgdjkcdmjloaaGreatDoor
open Go.ChangeMaps Go.ChangeShapes Go.WideShapes Go.ChangeAt Go.RowKit Go.AM
theorem h_calls (n : Int) (s t : ByteArray) (w : World) : Calls Tryz.prog 5 #[.int .i64 n, .string s, .string t] w fun e w' => e = .returned (.bool true) ∧ Below w.heap.size w w' := by
  by_cases hc : s.data.toList.length > 2147483647 ∨ t.data.toList.length > 2147483647 ∨ n < 1 ∨ 6 < n ∨ wordB s.data.toList = false ∨ wordB t.data.toList = false
  · have h := ok5 runG_ok 1 (.int .i64 n) (.str s.data.toList) (.str t.data.toList) { t := .leaf, next := 0 } (fun r => r.1 = .bool true) (ghostT [] (fun _ h => by cases h)) w [.int .i64 n, .string s, .string t] (Tr.sat_of_val (head_out n s.data.toList t.data.toList _ hc) rfl) (.cons (.int _ _) (.cons (strP s) (.cons (strP t) .nil))) (simT w) (fun i cs h => by cases h)
    exact Calls.mono (show Calls Tryz.prog 5 #[.int .i64 n, .string s, .string t] w _ from h) fun e w' => finT
  · simp only [not_or, Bool.not_eq_false] at hc
    obtain ⟨_, _, h1, h6, ws, wt⟩ := hc
    obtain ⟨s1, s2, s3⟩ := word_ok ws
    obtain ⟨t1, t2, t3⟩ := word_ok wt
    have hl : okBv [(0, s.data.toList), (16, t.data.toList)] := by
      intro p hp c hcc
      simp only [List.mem_cons, List.mem_nil_iff, or_false] at hp
      rcases hp with rfl | rfl
      · exact s3 c hcc
      · rw [show ((16 : Nat), t.data.toList).1 % 16 = 0 by simp]; exact t3 c hcc
    have h := Go.AM.runT_ok (fun run h => tabS_ok fuel run h) deep 5 [.int .i64 n, .sstr [wrd 0 1 20], .sstr [wrd 16 1 20]] { t := .leaf, next := 0 } (fun r => r.1 = .bool true) (ghostT _ hl) w [.int .i64 n, .string s, .string t] (sat_of_okB (head_ok n (by omega) (by omega))) (.cons (.int _ _) (.cons (strT (segT s1 s2 trivial) (by rw [denT, denN, List.append_nil]; rfl)) (.cons (strT (segT (by exact t1) (by exact t2) trivial) (by rw [denT, denN, List.append_nil]; rfl)) .nil))) (simT w) (fun i cs h => by cases h)
    exact Calls.mono (show Calls Tryz.prog 5 #[.int .i64 n, .string s, .string t] w _ from h) fun e w' => finT
end Go.Proofs.YtfmgdjkcdmjloaaGreatDoor
