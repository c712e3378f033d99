/- FnDots at texts of 21 groups. -/
import Derived.Test.YtfmgdjkcdmjloaaGreatDoorDGo
set_option linter.unusedVariables false
set_option linter.unusedSimpArgs false
namespace Go.Proofs.YtfmgdjkcdmjloaaGreatDoor
open Go.AM
theorem h21_0 : rH 21 0 = true := by kernel_rfl
theorem f21_0 : rF 21 0 = true := by kernel_rfl
theorem h21_1 : rH 21 1 = true := by kernel_rfl
theorem f21_1 : rF 21 1 = true := by kernel_rfl
theorem h21_2 : rH 21 2 = true := by kernel_rfl
theorem f21_2 : rF 21 2 = true := by kernel_rfl
end Go.Proofs.YtfmgdjkcdmjloaaGreatDoor
/- FnDots at texts of 22 groups. -/
namespace Go.Proofs.YtfmgdjkcdmjloaaGreatDoor
open Go.AM
theorem h22_0 : rH 22 0 = true := by kernel_rfl
theorem f22_0 : rF 22 0 = true := by kernel_rfl
theorem h22_1 : rH 22 1 = true := by kernel_rfl
theorem f22_1 : rF 22 1 = true := by kernel_rfl
theorem h22_2 : rH 22 2 = true := by kernel_rfl
theorem f22_2 : rF 22 2 = true := by kernel_rfl
end Go.Proofs.YtfmgdjkcdmjloaaGreatDoor
