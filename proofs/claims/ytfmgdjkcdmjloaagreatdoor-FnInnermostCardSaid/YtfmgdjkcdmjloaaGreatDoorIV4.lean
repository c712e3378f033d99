/- FnInnermost at the numbers that leave 4 when parted by 6. -/
import Derived.Test.YtfmgdjkcdmjloaaGreatDoorIGo
set_option linter.unusedVariables false
set_option linter.unusedSimpArgs false
namespace Go.Proofs.YtfmgdjkcdmjloaaGreatDoor
theorem inner4 : okB (goI (.ofNat 4)) = true := by kernel_rfl
theorem inner10 : okB (goI (.ofNat 10)) = true := by kernel_rfl
theorem inner16 : okB (goI (.ofNat 16)) = true := by kernel_rfl
theorem inner22 : okB (goI (.ofNat 22)) = true := by kernel_rfl
theorem inner28 : okB (goI (.ofNat 28)) = true := by kernel_rfl
end Go.Proofs.YtfmgdjkcdmjloaaGreatDoor
