/- FnNumeric at texts of one byte. -/
import Derived.Test.YtfmgdjkcdmjloaaGreatDoorNTab
set_option linter.unusedVariables false
set_option linter.unusedSimpArgs false
namespace Go.Proofs.YtfmgdjkcdmjloaaGreatDoor
open Go.AM
theorem one1_32 : allC true 6 32 = true := by kernel_rfl
theorem one1_38 : allC true 6 38 = true := by kernel_rfl
theorem one1_44 : allC true 6 44 = true := by kernel_rfl
theorem one1_50 : allC true 6 50 = true := by kernel_rfl
theorem one1_56 : allC true 6 56 = true := by kernel_rfl
theorem one1_62 : allC true 6 62 = true := by kernel_rfl
theorem one1_68 : allC true 6 68 = true := by kernel_rfl
theorem one1_74 : allC true 6 74 = true := by kernel_rfl
end Go.Proofs.YtfmgdjkcdmjloaaGreatDoor
