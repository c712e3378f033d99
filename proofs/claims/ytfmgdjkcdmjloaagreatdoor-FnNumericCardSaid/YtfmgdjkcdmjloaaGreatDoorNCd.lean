/- FnNumeric at texts of one byte. -/
import Derived.Test.YtfmgdjkcdmjloaaGreatDoorNTab
set_option linter.unusedVariables false
set_option linter.unusedSimpArgs false
namespace Go.Proofs.YtfmgdjkcdmjloaaGreatDoor
open Go.AM
theorem one1_80 : allC true 6 80 = true := by kernel_rfl
theorem one1_86 : allC true 6 86 = true := by kernel_rfl
theorem one1_92 : allC true 6 92 = true := by kernel_rfl
theorem one1_98 : allC true 6 98 = true := by kernel_rfl
theorem one1_104 : allC true 6 104 = true := by kernel_rfl
theorem one1_110 : allC true 6 110 = true := by kernel_rfl
theorem one1_116 : allC true 6 116 = true := by kernel_rfl
theorem one1_122 : allC true 5 122 = true := by kernel_rfl
end Go.Proofs.YtfmgdjkcdmjloaaGreatDoor
