/- FnLink: the call answers true, and leaves all as it was. -/
import Derived.Test.YtfmgdjkcdmjloaaGreatDoorLWord
import Derived.Test.YtfmgdjkcdmjloaaGreatDoorLTop
import Derived.Test.YtfmgdjkcdmjloaaGreatDoorLV0
import Derived.Test.YtfmgdjkcdmjloaaGreatDoorLV1
import Derived.Test.YtfmgdjkcdmjloaaGreatDoorLV2
import Derived.Test.YtfmgdjkcdmjloaaGreatDoorLV3
set_option linter.unusedVariables false
set_option linter.unusedSimpArgs false
namespace Go.Proofs.YtfmgdjkcdmjloaaGreatDoor
open Go.ChangeMaps Go.ChangeShapes Go.WideShapes Go.ChangeAt Go.RowKit Go.AM
theorem ne_len {s : List UInt8} (h : ¬ s = []) : 1 ≤ s.length := by
  rcases Nat.eq_zero_or_pos s.length with h0 | h0
  · exact (h (List.length_eq_zero_iff.1 h0)).elim
  · exact h0
theorem pr_mem : ∀ {c : UInt8}, prB c = true → c ∈ clsT 4 := by
  intro c h
  simp only [prB, Bool.and_eq_true, decide_eq_true_eq] at h
  have key : ∀ n : Fin 256, 32 ≤ n.val → n.val ≤ 126 → (clsT 4).any (fun d => Nat.beq d.toNat n.val) = true := by decide +kernel
  have := key ⟨c.toNat, c.toNat_lt⟩ h.1 h.2
  obtain ⟨d, hd, he⟩ := List.any_eq_true.1 this
  have : d = c := UInt8.toNat_inj.1 (Nat.eq_of_beq_eq_true he)
  rw [← this]; exact hd
theorem print_ok {s : List UInt8} (h : printB s 60 = true) : s.length ≤ 60 ∧ ∀ c ∈ s, c ∈ clsT 4 := by
  simp only [printB, Bool.and_eq_true, decide_eq_true_eq, List.all_eq_true] at h
  exact ⟨by omega, fun c hc => pr_mem (h.2 c hc)⟩
theorem okL {a b : List UInt8} (ha : ∀ c ∈ a, c ∈ clsT 4) (hb : ∀ c ∈ b, c ∈ clsT 4) : okBv [(4, a), (20, b)] := by
  intro x hx y hy
  simp only [List.mem_cons, List.mem_nil_iff, or_false] at hx
  rcases hx with rfl | rfl
  · exact ha y hy
  · rw [show ((20 : Nat), b).1 % 16 = 4 by simp]; exact hb y hy
theorem l_run {a b : ByteArray} {i : Bool} {w : World} (hw : HasG1 w) (hl : okBv [(4, a.data.toList), (20, b.data.toList)]) {x : AV} (hx : VR (ghostT _ hl) x (.string a)) (b1 : 1 ≤ b.data.toList.length) (b2 : b.data.toList.length ≤ 60) (hok : okB (goL x i) = true) :
    Calls Tryz.prog 7 #[.string a, .string b, .bool i] w fun e w' => e = .returned (.bool true) ∧ Below w.heap.size w w' := by
  have hb : VR (ghostT _ hl) (.sstr [wrd 20 1 60]) (.string b) := strT (segT (by exact b1) (by exact b2) trivial) (by rw [denT, denN, List.append_nil]; rfl)
  have h := Go.AM.runT_ok (fun run h => tabL_ok fuel run h) deep 7 [x, .sstr [wrd 20 1 60], .bool i] { t := .leaf, next := 0 } (fun r => r.1 = .bool true) (ghostT _ hl) w [.string a, .string b, .bool i] (sat_of_okB hok) (.cons hx (.cons hb (.cons (.bool i) .nil))) (simT hw) grT
  exact Calls.mono (show Calls Tryz.prog 7 #[.string a, .string b, .bool i] w _ from h) fun e w' => finT
theorem l_calls (a b : ByteArray) (i : Bool) (w : World) (hw : HasG1 w) : Calls Tryz.prog 7 #[.string a, .string b, .bool i] w fun e w' => e = .returned (.bool true) ∧ Below w.heap.size w w' := by
  by_cases hc : a.data.toList.length > 2147483647 ∨ b.data.toList.length > 2147483647 ∨ printB a.data.toList 60 = false ∨ printB b.data.toList 60 = false ∨ b.data.toList = []
  · have h := ok7 runO_ok 1 (.str a.data.toList) (.str b.data.toList) (.bool i) { t := .leaf, next := 0 } (fun r => r.1 = .bool true) (ghostT [] (fun _ h => by cases h)) w [.string a, .string b, .bool i] (Tr.sat_of_val (link_out _ _ _ _ hc) rfl) (.cons (strP a) (.cons (strP b) (.cons (.bool i) .nil))) (simT hw) grT
    exact Calls.mono (show Calls Tryz.prog 7 #[.string a, .string b, .bool i] w _ from h) fun e w' => finT
  · simp only [not_or, Bool.not_eq_false] at hc
    obtain ⟨_, _, pa, pb, nb⟩ := hc
    obtain ⟨a2, a3⟩ := print_ok pa
    obtain ⟨b2, b3⟩ := print_ok pb
    have b1 := ne_len nb
    have hl := okL a3 b3
    by_cases ha : a.data.toList = []
    · have hx : VR (ghostT _ hl) (.str []) (.string a) := by
        have h2 : a = ⟨([] : List UInt8).toArray⟩ := by
          rw [show a = ⟨a.data.toList.toArray⟩ by cases a; simp, ha]
        rw [show (Value.string a) = .string ⟨([] : List UInt8).toArray⟩ by rw [← h2]]
        exact .str []
      cases i
      · exact l_run hw hl hx b1 b2 link1
      · exact l_run hw hl hx b1 b2 link3
    · have hx : VR (ghostT _ hl) (.sstr [wrd 4 1 60]) (.string a) := strT (segT (by exact ne_len ha) (by exact a2) trivial) (by rw [denT, denN, List.append_nil]; rfl)
      cases i
      · exact l_run hw hl hx b1 b2 link0
      · exact l_run hw hl hx b1 b2 link2
end Go.Proofs.YtfmgdjkcdmjloaaGreatDoor
