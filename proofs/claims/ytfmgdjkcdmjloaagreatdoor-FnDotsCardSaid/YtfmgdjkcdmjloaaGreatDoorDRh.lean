/- FnDots at texts of 24 groups. -/
import Derived.Test.YtfmgdjkcdmjloaaGreatDoorDGo
set_option linter.unusedVariables false
set_option linter.unusedSimpArgs false
namespace Go.Proofs.YtfmgdjkcdmjloaaGreatDoor
open Go.AM
theorem h24_0 : rH 24 0 = true := by kernel_rfl
theorem f24_0 : rF 24 0 = true := by kernel_rfl
theorem h24_1 : rH 24 1 = true := by kernel_rfl
theorem f24_1 : rF 24 1 = true := by kernel_rfl
theorem h24_2 : rH 24 2 = true := by kernel_rfl
theorem f24_2 : rF 24 2 = true := by kernel_rfl
end Go.Proofs.YtfmgdjkcdmjloaaGreatDoor
