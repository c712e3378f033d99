/- FnNested at the numbers that leave 1 when parted by 6. -/
import Derived.Test.YtfmgdjkcdmjloaaGreatDoorNGo
set_option linter.unusedVariables false
set_option linter.unusedSimpArgs false
namespace Go.Proofs.YtfmgdjkcdmjloaaGreatDoor
theorem nested1 : okB (goN (.ofNat 1)) = true := by kernel_rfl
theorem nested7 : okB (goN (.ofNat 7)) = true := by kernel_rfl
theorem nested13 : okB (goN (.ofNat 13)) = true := by kernel_rfl
theorem nested19 : okB (goN (.ofNat 19)) = true := by kernel_rfl
theorem nested25 : okB (goN (.ofNat 25)) = true := by kernel_rfl
theorem nested31 : okB (goN (.ofNat 31)) = true := by kernel_rfl
theorem nested37 : okB (goN (.ofNat 37)) = true := by kernel_rfl
theorem nested43 : okB (goN (.ofNat 43)) = true := by kernel_rfl
theorem nested49 : okB (goN (.ofNat 49)) = true := by kernel_rfl
theorem nested55 : okB (goN (.ofNat 55)) = true := by kernel_rfl
end Go.Proofs.YtfmgdjkcdmjloaaGreatDoor
