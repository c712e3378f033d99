/- FnDots: all runs. -/
import Derived.Test.YtfmgdjkcdmjloaaGreatDoorDRa
import Derived.Test.YtfmgdjkcdmjloaaGreatDoorDRb
import Derived.Test.YtfmgdjkcdmjloaaGreatDoorDRc
import Derived.Test.YtfmgdjkcdmjloaaGreatDoorDRd
import Derived.Test.YtfmgdjkcdmjloaaGreatDoorDRe
import Derived.Test.YtfmgdjkcdmjloaaGreatDoorDRf
import Derived.Test.YtfmgdjkcdmjloaaGreatDoorDRg
import Derived.Test.YtfmgdjkcdmjloaaGreatDoorDRh
import Derived.Test.YtfmgdjkcdmjloaaGreatDoorDRi
import Derived.Test.YtfmgdjkcdmjloaaGreatDoorDGo
import Derived.Test.YtfmgdjkcdmjloaaGreatDoorDTop
set_option linter.unusedVariables false
set_option linter.unusedSimpArgs false
namespace Go.Proofs.YtfmgdjkcdmjloaaGreatDoor
open Go.AM
theorem rHF0 (k : Nat) (hk : k ≤ 25) : rH k 0 = true ∧ rF k 0 = true := by
  rcases (by omega : k = 0 ∨ k = 1 ∨ k = 2 ∨ k = 3 ∨ k = 4 ∨ k = 5 ∨ k = 6 ∨ k = 7 ∨ k = 8 ∨ k = 9 ∨ k = 10 ∨ k = 11 ∨ k = 12 ∨ k = 13 ∨ k = 14 ∨ k = 15 ∨ k = 16 ∨ k = 17 ∨ k = 18 ∨ k = 19 ∨ k = 20 ∨ k = 21 ∨ k = 22 ∨ k = 23 ∨ k = 24 ∨ k = 25) with rfl | rfl | rfl | rfl | rfl | rfl | rfl | rfl | rfl | rfl | rfl | rfl | rfl | rfl | rfl | rfl | rfl | rfl | rfl | rfl | rfl | rfl | rfl | rfl | rfl | rfl
  · exact ⟨h0_0, f0_0⟩
  · exact ⟨h1_0, f1_0⟩
  · exact ⟨h2_0, f2_0⟩
  · exact ⟨h3_0, f3_0⟩
  · exact ⟨h4_0, f4_0⟩
  · exact ⟨h5_0, f5_0⟩
  · exact ⟨h6_0, f6_0⟩
  · exact ⟨h7_0, f7_0⟩
  · exact ⟨h8_0, f8_0⟩
  · exact ⟨h9_0, f9_0⟩
  · exact ⟨h10_0, f10_0⟩
  · exact ⟨h11_0, f11_0⟩
  · exact ⟨h12_0, f12_0⟩
  · exact ⟨h13_0, f13_0⟩
  · exact ⟨h14_0, f14_0⟩
  · exact ⟨h15_0, f15_0⟩
  · exact ⟨h16_0, f16_0⟩
  · exact ⟨h17_0, f17_0⟩
  · exact ⟨h18_0, f18_0⟩
  · exact ⟨h19_0, f19_0⟩
  · exact ⟨h20_0, f20_0⟩
  · exact ⟨h21_0, f21_0⟩
  · exact ⟨h22_0, f22_0⟩
  · exact ⟨h23_0, f23_0⟩
  · exact ⟨h24_0, f24_0⟩
  · exact ⟨h25_0, f25_0⟩
theorem rHF1 (k : Nat) (hk : k ≤ 25) : rH k 1 = true ∧ rF k 1 = true := by
  rcases (by omega : k = 0 ∨ k = 1 ∨ k = 2 ∨ k = 3 ∨ k = 4 ∨ k = 5 ∨ k = 6 ∨ k = 7 ∨ k = 8 ∨ k = 9 ∨ k = 10 ∨ k = 11 ∨ k = 12 ∨ k = 13 ∨ k = 14 ∨ k = 15 ∨ k = 16 ∨ k = 17 ∨ k = 18 ∨ k = 19 ∨ k = 20 ∨ k = 21 ∨ k = 22 ∨ k = 23 ∨ k = 24 ∨ k = 25) with rfl | rfl | rfl | rfl | rfl | rfl | rfl | rfl | rfl | rfl | rfl | rfl | rfl | rfl | rfl | rfl | rfl | rfl | rfl | rfl | rfl | rfl | rfl | rfl | rfl | rfl
  · exact ⟨h0_1, f0_1⟩
  · exact ⟨h1_1, f1_1⟩
  · exact ⟨h2_1, f2_1⟩
  · exact ⟨h3_1, f3_1⟩
  · exact ⟨h4_1, f4_1⟩
  · exact ⟨h5_1, f5_1⟩
  · exact ⟨h6_1, f6_1⟩
  · exact ⟨h7_1, f7_1⟩
  · exact ⟨h8_1, f8_1⟩
  · exact ⟨h9_1, f9_1⟩
  · exact ⟨h10_1, f10_1⟩
  · exact ⟨h11_1, f11_1⟩
  · exact ⟨h12_1, f12_1⟩
  · exact ⟨h13_1, f13_1⟩
  · exact ⟨h14_1, f14_1⟩
  · exact ⟨h15_1, f15_1⟩
  · exact ⟨h16_1, f16_1⟩
  · exact ⟨h17_1, f17_1⟩
  · exact ⟨h18_1, f18_1⟩
  · exact ⟨h19_1, f19_1⟩
  · exact ⟨h20_1, f20_1⟩
  · exact ⟨h21_1, f21_1⟩
  · exact ⟨h22_1, f22_1⟩
  · exact ⟨h23_1, f23_1⟩
  · exact ⟨h24_1, f24_1⟩
  · exact ⟨h25_1, f25_1⟩
theorem rHF2 (k : Nat) (hk : k ≤ 25) : rH k 2 = true ∧ rF k 2 = true := by
  rcases (by omega : k = 0 ∨ k = 1 ∨ k = 2 ∨ k = 3 ∨ k = 4 ∨ k = 5 ∨ k = 6 ∨ k = 7 ∨ k = 8 ∨ k = 9 ∨ k = 10 ∨ k = 11 ∨ k = 12 ∨ k = 13 ∨ k = 14 ∨ k = 15 ∨ k = 16 ∨ k = 17 ∨ k = 18 ∨ k = 19 ∨ k = 20 ∨ k = 21 ∨ k = 22 ∨ k = 23 ∨ k = 24 ∨ k = 25) with rfl | rfl | rfl | rfl | rfl | rfl | rfl | rfl | rfl | rfl | rfl | rfl | rfl | rfl | rfl | rfl | rfl | rfl | rfl | rfl | rfl | rfl | rfl | rfl | rfl | rfl
  · exact ⟨h0_2, f0_2⟩
  · exact ⟨h1_2, f1_2⟩
  · exact ⟨h2_2, f2_2⟩
  · exact ⟨h3_2, f3_2⟩
  · exact ⟨h4_2, f4_2⟩
  · exact ⟨h5_2, f5_2⟩
  · exact ⟨h6_2, f6_2⟩
  · exact ⟨h7_2, f7_2⟩
  · exact ⟨h8_2, f8_2⟩
  · exact ⟨h9_2, f9_2⟩
  · exact ⟨h10_2, f10_2⟩
  · exact ⟨h11_2, f11_2⟩
  · exact ⟨h12_2, f12_2⟩
  · exact ⟨h13_2, f13_2⟩
  · exact ⟨h14_2, f14_2⟩
  · exact ⟨h15_2, f15_2⟩
  · exact ⟨h16_2, f16_2⟩
  · exact ⟨h17_2, f17_2⟩
  · exact ⟨h18_2, f18_2⟩
  · exact ⟨h19_2, f19_2⟩
  · exact ⟨h20_2, f20_2⟩
  · exact ⟨h21_2, f21_2⟩
  · exact ⟨h22_2, f22_2⟩
  · exact ⟨h23_2, f23_2⟩
  · exact ⟨h24_2, f24_2⟩
  · exact ⟨h25_2, f25_2⟩
theorem rHF (k n : Nat) (hk : k ≤ 25) (hn : n ≤ 2) : rH k n = true ∧ rF k n = true := by
  rcases (by omega : n = 0 ∨ n = 1 ∨ n = 2) with rfl | rfl | rfl
  · exact rHF0 k hk
  · exact rHF1 k hk
  · exact rHF2 k hk
end Go.Proofs.YtfmgdjkcdmjloaaGreatDoor
/- FnDots: the call answers true, and leaves all as it was. -/
namespace Go.Proofs.YtfmgdjkcdmjloaaGreatDoor
open Go.ChangeMaps Go.ChangeShapes Go.WideShapes Go.ChangeAt Go.RowKit Go.AM
theorem d_at (d : Pt) (hd : d.OK) (hlen : d.den.length ≤ 100) : ∃ (E : List UInt8) (a b : Nat), E.length ≤ 100000 ∧ RunOK X0 (runC (120 :: (d.den ++ [120])) (60 :: 112 :: 62 :: (E ++ [60, 47, 112, 62, 10])) E a b) := by
  have hk : d.gs.length ≤ 25 := by
    have h1 := gs_len hd.last
    have h2 := hlen
    simp only [Pt.den, List.length_append] at h2
    omega
  obtain ⟨h1, h2⟩ := rHF d.gs.length d.t hk hd.t
  obtain ⟨E, b, hE, k1, k2⟩ := dots_run hd hlen h1 h2
  exact ⟨E, _, b, hE, runC_ok k1 k2⟩
theorem d_calls (a : ByteArray) (w : World) (hw : HasG1 w) : Calls Tryz.prog 4 #[.string a] w fun e w' => e = .returned (.bool true) ∧ Below w.heap.size w w' := by
  have main : ∀ {run : FuncId → List AV → Store → Tr R} {b : Nat}, RunOK X0 run → (c4 run 1 (.str a.data.toList) (lf 0)).val = some (.bool true, lf b) → Calls Tryz.prog 4 #[.string a] w fun e w' => e = .returned (.bool true) ∧ Below w.heap.size w w' := by
    intro run b hrun hv
    have h := ok4 hrun 1 (.str a.data.toList) (lf 0) (fun r => r.1 = .bool true) (ghostT [] (fun _ h => by cases h)) w [.string a] (Tr.sat_of_val hv rfl) (.cons (strP a) .nil) (simT hw) grT
    exact Calls.mono (show Calls Tryz.prog 4 #[.string a] w _ from h) fun e w' => finT
  by_cases hc : a.data.toList.length > 2147483647 ∨ onlyB a.data.toList [97, 98, 32, 46] 100 = false
  · obtain ⟨E, x, y, _, hr⟩ := d_at ⟨[], [], 0⟩ ⟨fun _ h => (by cases h), fun _ h => (by cases h), trivial, by decide⟩ (by decide)
    exact main hr (dots_out _ hc)
  · simp only [not_or, Bool.not_eq_false] at hc
    obtain ⟨_, ho⟩ := hc
    have ho2 := ho
    simp only [onlyB, allB, Bool.and_eq_true, decide_eq_true_eq, List.all_eq_true, List.contains_iff_mem] at ho2
    obtain ⟨d, hd, he⟩ := parts a.data.toList ho2.2
    obtain ⟨E, x, y, hE, hr⟩ := d_at d hd (by rw [he]; have := ho2.1; omega)
    rw [he] at hr
    exact main hr (dots_at _ ho hE)
end Go.Proofs.YtfmgdjkcdmjloaaGreatDoor
