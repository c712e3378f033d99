/- FnNumeric at texts of one byte. -/
import Derived.Test.YtfmgdjkcdmjloaaGreatDoorNTab
set_option linter.unusedVariables false
set_option linter.unusedSimpArgs false
namespace Go.Proofs.YtfmgdjkcdmjloaaGreatDoor
open Go.AM
theorem one0_80 : allC false 6 80 = true := by kernel_rfl
theorem one0_86 : allC false 6 86 = true := by kernel_rfl
theorem one0_92 : allC false 6 92 = true := by kernel_rfl
theorem one0_98 : allC false 6 98 = true := by kernel_rfl
theorem one0_104 : allC false 6 104 = true := by kernel_rfl
theorem one0_110 : allC false 6 110 = true := by kernel_rfl
theorem one0_116 : allC false 6 116 = true := by kernel_rfl
theorem one0_122 : allC false 5 122 = true := by kernel_rfl
end Go.Proofs.YtfmgdjkcdmjloaaGreatDoor
