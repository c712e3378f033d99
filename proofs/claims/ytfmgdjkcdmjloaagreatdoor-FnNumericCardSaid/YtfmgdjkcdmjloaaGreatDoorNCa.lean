/- FnNumeric at texts of one byte. -/
import Derived.Test.YtfmgdjkcdmjloaaGreatDoorNTab
set_option linter.unusedVariables false
set_option linter.unusedSimpArgs false
namespace Go.Proofs.YtfmgdjkcdmjloaaGreatDoor
open Go.AM
theorem one0_32 : allC false 6 32 = true := by kernel_rfl
theorem one0_38 : allC false 6 38 = true := by kernel_rfl
theorem one0_44 : allC false 6 44 = true := by kernel_rfl
theorem one0_50 : allC false 6 50 = true := by kernel_rfl
theorem one0_56 : allC false 6 56 = true := by kernel_rfl
theorem one0_62 : allC false 6 62 = true := by kernel_rfl
theorem one0_68 : allC false 6 68 = true := by kernel_rfl
theorem one0_74 : allC false 6 74 = true := by kernel_rfl
end Go.Proofs.YtfmgdjkcdmjloaaGreatDoor
