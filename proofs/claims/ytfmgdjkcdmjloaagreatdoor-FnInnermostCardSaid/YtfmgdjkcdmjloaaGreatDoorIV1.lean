/- FnInnermost at the numbers that leave 1 when parted by 6. -/
import Derived.Test.YtfmgdjkcdmjloaaGreatDoorIGo
set_option linter.unusedVariables false
set_option linter.unusedSimpArgs false
namespace Go.Proofs.YtfmgdjkcdmjloaaGreatDoor
theorem inner7 : okB (goI (.ofNat 7)) = true := by kernel_rfl
theorem inner13 : okB (goI (.ofNat 13)) = true := by kernel_rfl
theorem inner19 : okB (goI (.ofNat 19)) = true := by kernel_rfl
theorem inner25 : okB (goI (.ofNat 25)) = true := by kernel_rfl
end Go.Proofs.YtfmgdjkcdmjloaaGreatDoor
