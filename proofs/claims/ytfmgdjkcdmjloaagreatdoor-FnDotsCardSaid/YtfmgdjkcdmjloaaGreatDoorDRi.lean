/- FnDots at texts of 25 groups. -/
import Derived.Test.YtfmgdjkcdmjloaaGreatDoorDGo
set_option linter.unusedVariables false
set_option linter.unusedSimpArgs false
namespace Go.Proofs.YtfmgdjkcdmjloaaGreatDoor
open Go.AM
theorem h25_0 : rH 25 0 = true := by kernel_rfl
theorem f25_0 : rF 25 0 = true := by kernel_rfl
theorem h25_1 : rH 25 1 = true := by kernel_rfl
theorem f25_1 : rF 25 1 = true := by kernel_rfl
theorem h25_2 : rH 25 2 = true := by kernel_rfl
theorem f25_2 : rF 25 2 = true := by kernel_rfl
end Go.Proofs.YtfmgdjkcdmjloaaGreatDoor
