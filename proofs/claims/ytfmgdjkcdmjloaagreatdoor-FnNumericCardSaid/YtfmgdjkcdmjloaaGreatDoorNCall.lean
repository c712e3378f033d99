/- FnNumeric: the call answers true, and leaves all as it was. -/
import Derived.Test.YtfmgdjkcdmjloaaGreatDoorNWord
import Derived.Test.YtfmgdjkcdmjloaaGreatDoorNTop
import Derived.Test.YtfmgdjkcdmjloaaGreatDoorNVa
import Derived.Test.YtfmgdjkcdmjloaaGreatDoorNVb
import Derived.Test.YtfmgdjkcdmjloaaGreatDoorNCa
import Derived.Test.YtfmgdjkcdmjloaaGreatDoorNCb
import Derived.Test.YtfmgdjkcdmjloaaGreatDoorNCc
import Derived.Test.YtfmgdjkcdmjloaaGreatDoorNCd
set_option linter.unusedVariables false
set_option linter.unusedSimpArgs false
namespace Go.Proofs.YtfmgdjkcdmjloaaGreatDoor
open Go.ChangeMaps Go.ChangeShapes Go.WideShapes Go.ChangeAt Go.RowKit Go.AM
theorem ones0 {k : Nat} (h1 : 32 ≤ k) (h2 : k ≤ 126) : okB (goC false k) = true := by
  by_cases c0 : k < 38
  · exact allC_at one0_32 (by omega) (by omega)
  by_cases c1 : k < 44
  · exact allC_at one0_38 (by omega) (by omega)
  by_cases c2 : k < 50
  · exact allC_at one0_44 (by omega) (by omega)
  by_cases c3 : k < 56
  · exact allC_at one0_50 (by omega) (by omega)
  by_cases c4 : k < 62
  · exact allC_at one0_56 (by omega) (by omega)
  by_cases c5 : k < 68
  · exact allC_at one0_62 (by omega) (by omega)
  by_cases c6 : k < 74
  · exact allC_at one0_68 (by omega) (by omega)
  by_cases c7 : k < 80
  · exact allC_at one0_74 (by omega) (by omega)
  by_cases c8 : k < 86
  · exact allC_at one0_80 (by omega) (by omega)
  by_cases c9 : k < 92
  · exact allC_at one0_86 (by omega) (by omega)
  by_cases c10 : k < 98
  · exact allC_at one0_92 (by omega) (by omega)
  by_cases c11 : k < 104
  · exact allC_at one0_98 (by omega) (by omega)
  by_cases c12 : k < 110
  · exact allC_at one0_104 (by omega) (by omega)
  by_cases c13 : k < 116
  · exact allC_at one0_110 (by omega) (by omega)
  by_cases c14 : k < 122
  · exact allC_at one0_116 (by omega) (by omega)
  exact allC_at one0_122 (by omega) (by omega)
theorem ones1 {k : Nat} (h1 : 32 ≤ k) (h2 : k ≤ 126) : okB (goC true k) = true := by
  by_cases c0 : k < 38
  · exact allC_at one1_32 (by omega) (by omega)
  by_cases c1 : k < 44
  · exact allC_at one1_38 (by omega) (by omega)
  by_cases c2 : k < 50
  · exact allC_at one1_44 (by omega) (by omega)
  by_cases c3 : k < 56
  · exact allC_at one1_50 (by omega) (by omega)
  by_cases c4 : k < 62
  · exact allC_at one1_56 (by omega) (by omega)
  by_cases c5 : k < 68
  · exact allC_at one1_62 (by omega) (by omega)
  by_cases c6 : k < 74
  · exact allC_at one1_68 (by omega) (by omega)
  by_cases c7 : k < 80
  · exact allC_at one1_74 (by omega) (by omega)
  by_cases c8 : k < 86
  · exact allC_at one1_80 (by omega) (by omega)
  by_cases c9 : k < 92
  · exact allC_at one1_86 (by omega) (by omega)
  by_cases c10 : k < 98
  · exact allC_at one1_92 (by omega) (by omega)
  by_cases c11 : k < 104
  · exact allC_at one1_98 (by omega) (by omega)
  by_cases c12 : k < 110
  · exact allC_at one1_104 (by omega) (by omega)
  by_cases c13 : k < 116
  · exact allC_at one1_110 (by omega) (by omega)
  by_cases c14 : k < 122
  · exact allC_at one1_116 (by omega) (by omega)
  exact allC_at one1_122 (by omega) (by omega)
theorem ones (h : Bool) {k : Nat} (h1 : 32 ≤ k) (h2 : k ≤ 126) : okB (goC h k) = true := by
  cases h
  · exact ones0 h1 h2
  · exact ones1 h1 h2
theorem pr_mem : ∀ {c : UInt8}, prB c = true → c ∈ clsT 4 := by
  intro c h
  simp only [prB, Bool.and_eq_true, decide_eq_true_eq] at h
  have key : ∀ n : Fin 256, 32 ≤ n.val → n.val ≤ 126 → (clsT 4).any (fun d => Nat.beq d.toNat n.val) = true := by decide +kernel
  have := key ⟨c.toNat, c.toNat_lt⟩ h.1 h.2
  obtain ⟨d, hd, he⟩ := List.any_eq_true.1 this
  have : d = c := UInt8.toNat_inj.1 (Nat.eq_of_beq_eq_true he)
  rw [← this]; exact hd
theorem okL {a b : List UInt8} (ha : ∀ c ∈ a, c ∈ clsT 4) (hb : ∀ c ∈ b, c ∈ clsT 4) : okBv [(4, a), (20, b)] := by
  intro x hx y hy
  simp only [List.mem_cons, List.mem_nil_iff, or_false] at hx
  rcases hx with rfl | rfl
  · exact ha y hy
  · rw [show ((20 : Nat), b).1 % 16 = 4 by simp]; exact hb y hy
theorem runs0 : RunOK X0 (runM [mN0_12] (tabNu fuel) deep) := Go.AM.runM_ok (by intro m hm; rw [List.mem_singleton.1 hm]; exact mN0_12_ok) (fun run h => tabNu_ok fuel run h) deep
theorem runs1 : RunOK X0 (runM [mN1_12] (tabNu fuel) deep) := Go.AM.runM_ok (by intro m hm; rw [List.mem_singleton.1 hm]; exact mN1_12_ok) (fun run h => tabNu_ok fuel run h) deep
theorem call_of {run : FuncId → List AV → Store → Tr R} (hr : RunOK X0 run) {f : Nat} {args : List AV} {σ : Store} (h : okB (run f args σ) = true) {g : Ghost} {w : World} {args' : List Value} (hv : VRs g args args') (hs : Sim g σ w) (hG : GR X0 g) : Calls X0.P f ⟨args'⟩ w (Post g w fun r => r.1 = .bool true) :=
  hr f args σ (fun r => r.1 = .bool true) g w args' (sat_of_okB h) hv hs hG
theorem n_calls (a : ByteArray) (i : Bool) (w : World) (hw : HasG1 w) : Calls Tryz.prog 9 #[.string a, .bool i] w fun e w' => e = .returned (.bool true) ∧ Below w.heap.size w w' := by
  by_cases hc : a.data.toList.length > 2147483647 ∨ printB a.data.toList 200 = false ∨ a.data.toList = []
  · have h := ok9 runO_ok 1 (.str a.data.toList) (.bool i) { t := .leaf, next := 0 } (fun r => r.1 = .bool true) (ghostT [] (fun _ h => by cases h)) w [.string a, .bool i] (Tr.sat_of_val (num_out _ _ _ hc) rfl) (.cons (strP a) (.cons (.bool i) .nil)) (simT hw) grT
    exact Calls.mono (show Calls Tryz.prog 9 #[.string a, .bool i] w _ from h) fun e w' => finT
  · simp only [not_or, Bool.not_eq_false] at hc
    obtain ⟨_, pa, na⟩ := hc
    simp only [printB, Bool.and_eq_true, decide_eq_true_eq, List.all_eq_true] at pa
    obtain ⟨pl, pc⟩ := pa
    rcases hs : a.data.toList with _ | ⟨c, r⟩
    · exact (na hs).elim
    rw [hs] at pl pc
    have c1 := pc c (List.mem_cons_self ..)
    rcases hr : r with _ | ⟨d, r'⟩
    · subst hr
      have hp := c1
      simp only [prB, Bool.and_eq_true, decide_eq_true_eq] at hp
      have hk := ones i hp.1 hp.2
      have hx : VR (ghostT [] (fun _ h => by cases h)) (.str [c.toNat.toUInt8]) (.string a) := by
        rw [show c.toNat.toUInt8 = c by simp, ← hs]; exact strP a
      have h := Go.AM.runT_ok (fun run h => tabNu_ok fuel run h) deep 9 [.str [c.toNat.toUInt8], .bool i] { t := .leaf, next := 0 } (fun r => r.1 = .bool true) (ghostT [] (fun _ h => by cases h)) w [.string a, .bool i] (sat_of_okB hk) (.cons hx (.cons (.bool i) .nil)) (simT hw) grT
      exact Calls.mono (show Calls Tryz.prog 9 #[.string a, .bool i] w _ from h) fun e w' => finT
    · have hl : okBv [(4, [c]), (20, r)] := okL (fun x hx => by rw [List.mem_singleton.1 hx]; exact pr_mem c1) (fun x hx => pr_mem (pc x (List.mem_cons_of_mem _ hx)))
      have e4 : bvOf [(4, [c]), (20, r)] 4 = [c] := rfl
      have e20 : bvOf [(4, [c]), (20, r)] 20 = r := rfl
      have hx : VR (ghostT _ hl) (.sstr [wrd 4 1 1, wrd 20 1 199]) (.string a) :=
        strT (segT (by rw [e4]; simp) (by rw [e4]; simp) (segT (by rw [e20, hr]; simp) (by rw [e20]; simp at pl; omega) trivial)) (by rw [denT, denT, denN, List.append_nil, e4, e20, hs]; rfl)
      cases i
      · have h := call_of runs0 num0 (.cons hx (.cons (.bool false) .nil)) (simT hw) grT
        exact Calls.mono (show Calls Tryz.prog 9 #[.string a, .bool false] w _ from h) fun e w' => finT
      · have h := call_of runs1 num1 (.cons hx (.cons (.bool true) .nil)) (simT hw) grT
        exact Calls.mono (show Calls Tryz.prog 9 #[.string a, .bool true] w _ from h) fun e w' => finT
end Go.Proofs.YtfmgdjkcdmjloaaGreatDoor
