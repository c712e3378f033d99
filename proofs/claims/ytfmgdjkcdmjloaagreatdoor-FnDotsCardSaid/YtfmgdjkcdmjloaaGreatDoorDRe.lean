/- FnDots at texts of 19 groups. -/
import Derived.Test.YtfmgdjkcdmjloaaGreatDoorDGo
set_option linter.unusedVariables false
set_option linter.unusedSimpArgs false
namespace Go.Proofs.YtfmgdjkcdmjloaaGreatDoor
open Go.AM
theorem h19_0 : rH 19 0 = true := by kernel_rfl
theorem f19_0 : rF 19 0 = true := by kernel_rfl
theorem h19_1 : rH 19 1 = true := by kernel_rfl
theorem f19_1 : rF 19 1 = true := by kernel_rfl
theorem h19_2 : rH 19 2 = true := by kernel_rfl
theorem f19_2 : rF 19 2 = true := by kernel_rfl
end Go.Proofs.YtfmgdjkcdmjloaaGreatDoor
/- FnDots at texts of 20 groups. -/
namespace Go.Proofs.YtfmgdjkcdmjloaaGreatDoor
open Go.AM
theorem h20_0 : rH 20 0 = true := by kernel_rfl
theorem f20_0 : rF 20 0 = true := by kernel_rfl
theorem h20_1 : rH 20 1 = true := by kernel_rfl
theorem f20_1 : rF 20 1 = true := by kernel_rfl
theorem h20_2 : rH 20 2 = true := by kernel_rfl
theorem f20_2 : rF 20 2 = true := by kernel_rfl
end Go.Proofs.YtfmgdjkcdmjloaaGreatDoor
