/- FnAddress at some of the names. -/
import Derived.Test.YtfmgdjkcdmjloaaGreatDoorATab
import Derived.KernelRfl
set_option linter.unusedVariables false
set_option linter.unusedSimpArgs false
namespace Go.Proofs.YtfmgdjkcdmjloaaGreatDoor
theorem addrA : okB (goA segA) = true := by kernel_rfl
theorem b1_46 : oB 46 1 = true := by kernel_rfl
theorem b4_46 : oB 46 4 = true := by kernel_rfl
theorem b7_46 : oB 46 7 = true := by kernel_rfl
theorem b10_46 : oB 46 10 = true := by kernel_rfl
theorem b13_46 : oB 46 13 = true := by kernel_rfl
theorem b0_43 : oB 43 0 = true := by kernel_rfl
theorem b3_43 : oB 43 3 = true := by kernel_rfl
theorem b6_43 : oB 43 6 = true := by kernel_rfl
theorem b9_43 : oB 43 9 = true := by kernel_rfl
theorem b12_43 : oB 43 12 = true := by kernel_rfl
theorem b15_43 : oB 43 15 = true := by kernel_rfl
theorem b2_45 : oB 45 2 = true := by kernel_rfl
theorem b5_45 : oB 45 5 = true := by kernel_rfl
theorem b8_45 : oB 45 8 = true := by kernel_rfl
theorem b11_45 : oB 45 11 = true := by kernel_rfl
theorem b14_45 : oB 45 14 = true := by kernel_rfl
theorem b1_95 : oB 95 1 = true := by kernel_rfl
theorem b4_95 : oB 95 4 = true := by kernel_rfl
theorem b7_95 : oB 95 7 = true := by kernel_rfl
theorem b10_95 : oB 95 10 = true := by kernel_rfl
theorem b13_95 : oB 95 13 = true := by kernel_rfl
end Go.Proofs.YtfmgdjkcdmjloaaGreatDoor
