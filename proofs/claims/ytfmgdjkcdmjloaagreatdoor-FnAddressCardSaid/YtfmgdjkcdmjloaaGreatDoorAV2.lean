/- FnAddress at some of the names. -/
import Derived.Test.YtfmgdjkcdmjloaaGreatDoorATab
import Derived.KernelRfl
set_option linter.unusedVariables false
set_option linter.unusedSimpArgs false
namespace Go.Proofs.YtfmgdjkcdmjloaaGreatDoor
theorem b0_46 : oB 46 0 = true := by kernel_rfl
theorem b3_46 : oB 46 3 = true := by kernel_rfl
theorem b6_46 : oB 46 6 = true := by kernel_rfl
theorem b9_46 : oB 46 9 = true := by kernel_rfl
theorem b12_46 : oB 46 12 = true := by kernel_rfl
theorem b15_46 : oB 46 15 = true := by kernel_rfl
theorem b2_43 : oB 43 2 = true := by kernel_rfl
theorem b5_43 : oB 43 5 = true := by kernel_rfl
theorem b8_43 : oB 43 8 = true := by kernel_rfl
theorem b11_43 : oB 43 11 = true := by kernel_rfl
theorem b14_43 : oB 43 14 = true := by kernel_rfl
theorem b1_45 : oB 45 1 = true := by kernel_rfl
theorem b4_45 : oB 45 4 = true := by kernel_rfl
theorem b7_45 : oB 45 7 = true := by kernel_rfl
theorem b10_45 : oB 45 10 = true := by kernel_rfl
theorem b13_45 : oB 45 13 = true := by kernel_rfl
theorem b0_95 : oB 95 0 = true := by kernel_rfl
theorem b3_95 : oB 95 3 = true := by kernel_rfl
theorem b6_95 : oB 95 6 = true := by kernel_rfl
theorem b9_95 : oB 95 9 = true := by kernel_rfl
theorem b12_95 : oB 95 12 = true := by kernel_rfl
theorem b15_95 : oB 95 15 = true := by kernel_rfl
end Go.Proofs.YtfmgdjkcdmjloaaGreatDoor
