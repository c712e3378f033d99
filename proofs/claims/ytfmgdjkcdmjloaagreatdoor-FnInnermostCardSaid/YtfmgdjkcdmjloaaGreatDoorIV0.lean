/- FnInnermost at the numbers that leave 0 when parted by 6. -/
import Derived.Test.YtfmgdjkcdmjloaaGreatDoorIGo
set_option linter.unusedVariables false
set_option linter.unusedSimpArgs false
namespace Go.Proofs.YtfmgdjkcdmjloaaGreatDoor
theorem inner6 : okB (goI (.ofNat 6)) = true := by kernel_rfl
theorem inner12 : okB (goI (.ofNat 12)) = true := by kernel_rfl
theorem inner18 : okB (goI (.ofNat 18)) = true := by kernel_rfl
theorem inner24 : okB (goI (.ofNat 24)) = true := by kernel_rfl
theorem inner30 : okB (goI (.ofNat 30)) = true := by kernel_rfl
end Go.Proofs.YtfmgdjkcdmjloaaGreatDoor
