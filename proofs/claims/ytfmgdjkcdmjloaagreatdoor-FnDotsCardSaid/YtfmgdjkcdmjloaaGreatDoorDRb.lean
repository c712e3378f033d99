/- FnDots at texts of 10 groups. -/
import Derived.Test.YtfmgdjkcdmjloaaGreatDoorDGo
set_option linter.unusedVariables false
set_option linter.unusedSimpArgs false
namespace Go.Proofs.YtfmgdjkcdmjloaaGreatDoor
open Go.AM
theorem h10_0 : rH 10 0 = true := by kernel_rfl
theorem f10_0 : rF 10 0 = true := by kernel_rfl
theorem h10_1 : rH 10 1 = true := by kernel_rfl
theorem f10_1 : rF 10 1 = true := by kernel_rfl
theorem h10_2 : rH 10 2 = true := by kernel_rfl
theorem f10_2 : rF 10 2 = true := by kernel_rfl
end Go.Proofs.YtfmgdjkcdmjloaaGreatDoor
/- FnDots at texts of 11 groups. -/
namespace Go.Proofs.YtfmgdjkcdmjloaaGreatDoor
open Go.AM
theorem h11_0 : rH 11 0 = true := by kernel_rfl
theorem f11_0 : rF 11 0 = true := by kernel_rfl
theorem h11_1 : rH 11 1 = true := by kernel_rfl
theorem f11_1 : rF 11 1 = true := by kernel_rfl
theorem h11_2 : rH 11 2 = true := by kernel_rfl
theorem f11_2 : rF 11 2 = true := by kernel_rfl
end Go.Proofs.YtfmgdjkcdmjloaaGreatDoor
/- FnDots at texts of 12 groups. -/
namespace Go.Proofs.YtfmgdjkcdmjloaaGreatDoor
open Go.AM
theorem h12_0 : rH 12 0 = true := by kernel_rfl
theorem f12_0 : rF 12 0 = true := by kernel_rfl
theorem h12_1 : rH 12 1 = true := by kernel_rfl
theorem f12_1 : rF 12 1 = true := by kernel_rfl
theorem h12_2 : rH 12 2 = true := by kernel_rfl
theorem f12_2 : rF 12 2 = true := by kernel_rfl
end Go.Proofs.YtfmgdjkcdmjloaaGreatDoor
