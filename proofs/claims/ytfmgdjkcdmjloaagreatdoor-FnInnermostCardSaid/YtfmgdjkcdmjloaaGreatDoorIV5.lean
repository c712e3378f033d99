/- FnInnermost at the numbers that leave 5 when parted by 6. -/
import Derived.Test.YtfmgdjkcdmjloaaGreatDoorIGo
set_option linter.unusedVariables false
set_option linter.unusedSimpArgs false
namespace Go.Proofs.YtfmgdjkcdmjloaaGreatDoor
theorem inner5 : okB (goI (.ofNat 5)) = true := by kernel_rfl
theorem inner11 : okB (goI (.ofNat 11)) = true := by kernel_rfl
theorem inner17 : okB (goI (.ofNat 17)) = true := by kernel_rfl
theorem inner23 : okB (goI (.ofNat 23)) = true := by kernel_rfl
theorem inner29 : okB (goI (.ofNat 29)) = true := by kernel_rfl
end Go.Proofs.YtfmgdjkcdmjloaaGreatDoor
