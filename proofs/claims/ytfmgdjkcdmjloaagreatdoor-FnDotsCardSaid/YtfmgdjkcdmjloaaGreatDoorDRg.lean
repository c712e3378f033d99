/- FnDots at texts of 23 groups. -/
import Derived.Test.YtfmgdjkcdmjloaaGreatDoorDGo
set_option linter.unusedVariables false
set_option linter.unusedSimpArgs false
namespace Go.Proofs.YtfmgdjkcdmjloaaGreatDoor
open Go.AM
theorem h23_0 : rH 23 0 = true := by kernel_rfl
theorem f23_0 : rF 23 0 = true := by kernel_rfl
theorem h23_1 : rH 23 1 = true := by kernel_rfl
theorem f23_1 : rF 23 1 = true := by kernel_rfl
theorem h23_2 : rH 23 2 = true := by kernel_rfl
theorem f23_2 : rF 23 2 = true := by kernel_rfl
end Go.Proofs.YtfmgdjkcdmjloaaGreatDoor
