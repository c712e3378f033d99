/- FnAddress at some of the names. -/
import Derived.Test.YtfmgdjkcdmjloaaGreatDoorATab
import Derived.KernelRfl
set_option linter.unusedVariables false
set_option linter.unusedSimpArgs false
namespace Go.Proofs.YtfmgdjkcdmjloaaGreatDoor
theorem addrC : okB (goA segC) = true := by kernel_rfl
theorem addrD : okB (goA segD) = true := by kernel_rfl
theorem b2_46 : oB 46 2 = true := by kernel_rfl
theorem b5_46 : oB 46 5 = true := by kernel_rfl
theorem b8_46 : oB 46 8 = true := by kernel_rfl
theorem b11_46 : oB 46 11 = true := by kernel_rfl
theorem b14_46 : oB 46 14 = true := by kernel_rfl
theorem b1_43 : oB 43 1 = true := by kernel_rfl
theorem b4_43 : oB 43 4 = true := by kernel_rfl
theorem b7_43 : oB 43 7 = true := by kernel_rfl
theorem b10_43 : oB 43 10 = true := by kernel_rfl
theorem b13_43 : oB 43 13 = true := by kernel_rfl
theorem b0_45 : oB 45 0 = true := by kernel_rfl
theorem b3_45 : oB 45 3 = true := by kernel_rfl
theorem b6_45 : oB 45 6 = true := by kernel_rfl
theorem b9_45 : oB 45 9 = true := by kernel_rfl
theorem b12_45 : oB 45 12 = true := by kernel_rfl
theorem b15_45 : oB 45 15 = true := by kernel_rfl
theorem b2_95 : oB 95 2 = true := by kernel_rfl
theorem b5_95 : oB 95 5 = true := by kernel_rfl
theorem b8_95 : oB 95 8 = true := by kernel_rfl
theorem b11_95 : oB 95 11 = true := by kernel_rfl
theorem b14_95 : oB 95 14 = true := by kernel_rfl
end Go.Proofs.YtfmgdjkcdmjloaaGreatDoor
