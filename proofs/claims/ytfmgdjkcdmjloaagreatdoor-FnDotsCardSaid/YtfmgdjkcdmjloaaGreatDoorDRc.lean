/- FnDots at texts of 13 groups. -/
import Derived.Test.YtfmgdjkcdmjloaaGreatDoorDGo
set_option linter.unusedVariables false
set_option linter.unusedSimpArgs false
namespace Go.Proofs.YtfmgdjkcdmjloaaGreatDoor
open Go.AM
theorem h13_0 : rH 13 0 = true := by kernel_rfl
theorem f13_0 : rF 13 0 = true := by kernel_rfl
theorem h13_1 : rH 13 1 = true := by kernel_rfl
theorem f13_1 : rF 13 1 = true := by kernel_rfl
theorem h13_2 : rH 13 2 = true := by kernel_rfl
theorem f13_2 : rF 13 2 = true := by kernel_rfl
end Go.Proofs.YtfmgdjkcdmjloaaGreatDoor
/- FnDots at texts of 14 groups. -/
namespace Go.Proofs.YtfmgdjkcdmjloaaGreatDoor
open Go.AM
theorem h14_0 : rH 14 0 = true := by kernel_rfl
theorem f14_0 : rF 14 0 = true := by kernel_rfl
theorem h14_1 : rH 14 1 = true := by kernel_rfl
theorem f14_1 : rF 14 1 = true := by kernel_rfl
theorem h14_2 : rH 14 2 = true := by kernel_rfl
theorem f14_2 : rF 14 2 = true := by kernel_rfl
end Go.Proofs.YtfmgdjkcdmjloaaGreatDoor
/- FnDots at texts of 15 groups. -/
namespace Go.Proofs.YtfmgdjkcdmjloaaGreatDoor
open Go.AM
theorem h15_0 : rH 15 0 = true := by kernel_rfl
theorem f15_0 : rF 15 0 = true := by kernel_rfl
theorem h15_1 : rH 15 1 = true := by kernel_rfl
theorem f15_1 : rF 15 1 = true := by kernel_rfl
theorem h15_2 : rH 15 2 = true := by kernel_rfl
theorem f15_2 : rF 15 2 = true := by kernel_rfl
end Go.Proofs.YtfmgdjkcdmjloaaGreatDoor
