/- FnInnermost at the numbers that leave 2 when parted by 6. -/
import Derived.Test.YtfmgdjkcdmjloaaGreatDoorIGo
set_option linter.unusedVariables false
set_option linter.unusedSimpArgs false
namespace Go.Proofs.YtfmgdjkcdmjloaaGreatDoor
theorem inner2 : okB (goI (.ofNat 2)) = true := by kernel_rfl
theorem inner8 : okB (goI (.ofNat 8)) = true := by kernel_rfl
theorem inner14 : okB (goI (.ofNat 14)) = true := by kernel_rfl
theorem inner20 : okB (goI (.ofNat 20)) = true := by kernel_rfl
theorem inner26 : okB (goI (.ofNat 26)) = true := by kernel_rfl
end Go.Proofs.YtfmgdjkcdmjloaaGreatDoor
