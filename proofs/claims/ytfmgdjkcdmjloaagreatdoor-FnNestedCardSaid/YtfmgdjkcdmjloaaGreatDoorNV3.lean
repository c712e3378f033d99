/- FnNested at the numbers that leave 3 when parted by 6. -/
import Derived.Test.YtfmgdjkcdmjloaaGreatDoorNGo
set_option linter.unusedVariables false
set_option linter.unusedSimpArgs false
namespace Go.Proofs.YtfmgdjkcdmjloaaGreatDoor
theorem nested3 : okB (goN (.ofNat 3)) = true := by kernel_rfl
theorem nested9 : okB (goN (.ofNat 9)) = true := by kernel_rfl
theorem nested15 : okB (goN (.ofNat 15)) = true := by kernel_rfl
theorem nested21 : okB (goN (.ofNat 21)) = true := by kernel_rfl
theorem nested27 : okB (goN (.ofNat 27)) = true := by kernel_rfl
theorem nested33 : okB (goN (.ofNat 33)) = true := by kernel_rfl
theorem nested39 : okB (goN (.ofNat 39)) = true := by kernel_rfl
theorem nested45 : okB (goN (.ofNat 45)) = true := by kernel_rfl
theorem nested51 : okB (goN (.ofNat 51)) = true := by kernel_rfl
theorem nested57 : okB (goN (.ofNat 57)) = true := by kernel_rfl
end Go.Proofs.YtfmgdjkcdmjloaaGreatDoor
