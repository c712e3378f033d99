/- FnDots at texts of 16 groups. -/
import Derived.Test.YtfmgdjkcdmjloaaGreatDoorDGo
set_option linter.unusedVariables false
set_option linter.unusedSimpArgs false
namespace Go.Proofs.YtfmgdjkcdmjloaaGreatDoor
open Go.AM
theorem h16_0 : rH 16 0 = true := by kernel_rfl
theorem f16_0 : rF 16 0 = true := by kernel_rfl
theorem h16_1 : rH 16 1 = true := by kernel_rfl
theorem f16_1 : rF 16 1 = true := by kernel_rfl
theorem h16_2 : rH 16 2 = true := by kernel_rfl
theorem f16_2 : rF 16 2 = true := by kernel_rfl
end Go.Proofs.YtfmgdjkcdmjloaaGreatDoor
/- FnDots at texts of 17 groups. -/
namespace Go.Proofs.YtfmgdjkcdmjloaaGreatDoor
open Go.AM
theorem h17_0 : rH 17 0 = true := by kernel_rfl
theorem f17_0 : rF 17 0 = true := by kernel_rfl
theorem h17_1 : rH 17 1 = true := by kernel_rfl
theorem f17_1 : rF 17 1 = true := by kernel_rfl
theorem h17_2 : rH 17 2 = true := by kernel_rfl
theorem f17_2 : rF 17 2 = true := by kernel_rfl
end Go.Proofs.YtfmgdjkcdmjloaaGreatDoor
/- FnDots at texts of 18 groups. -/
namespace Go.Proofs.YtfmgdjkcdmjloaaGreatDoor
open Go.AM
theorem h18_0 : rH 18 0 = true := by kernel_rfl
theorem f18_0 : rF 18 0 = true := by kernel_rfl
theorem h18_1 : rH 18 1 = true := by kernel_rfl
theorem f18_1 : rF 18 1 = true := by kernel_rfl
theorem h18_2 : rH 18 2 = true := by kernel_rfl
theorem f18_2 : rF 18 2 = true := by kernel_rfl
end Go.Proofs.YtfmgdjkcdmjloaaGreatDoor
