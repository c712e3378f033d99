/- FnInnermost at the numbers that leave 3 when parted by 6. -/
import Derived.Test.YtfmgdjkcdmjloaaGreatDoorIGo
set_option linter.unusedVariables false
set_option linter.unusedSimpArgs false
namespace Go.Proofs.YtfmgdjkcdmjloaaGreatDoor
theorem inner3 : okB (goI (.ofNat 3)) = true := by kernel_rfl
theorem inner9 : okB (goI (.ofNat 9)) = true := by kernel_rfl
theorem inner15 : okB (goI (.ofNat 15)) = true := by kernel_rfl
theorem inner21 : okB (goI (.ofNat 21)) = true := by kernel_rfl
theorem inner27 : okB (goI (.ofNat 27)) = true := by kernel_rfl
end Go.Proofs.YtfmgdjkcdmjloaaGreatDoor
