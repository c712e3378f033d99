/- FnNested at the numbers that leave 5 when parted by 6. -/
import Derived.Test.YtfmgdjkcdmjloaaGreatDoorNGo
set_option linter.unusedVariables false
set_option linter.unusedSimpArgs false
namespace Go.Proofs.YtfmgdjkcdmjloaaGreatDoor
theorem nested5 : okB (goN (.ofNat 5)) = true := by kernel_rfl
theorem nested11 : okB (goN (.ofNat 11)) = true := by kernel_rfl
theorem nested17 : okB (goN (.ofNat 17)) = true := by kernel_rfl
theorem nested23 : okB (goN (.ofNat 23)) = true := by kernel_rfl
theorem nested29 : okB (goN (.ofNat 29)) = true := by kernel_rfl
theorem nested35 : okB (goN (.ofNat 35)) = true := by kernel_rfl
theorem nested41 : okB (goN (.ofNat 41)) = true := by kernel_rfl
theorem nested47 : okB (goN (.ofNat 47)) = true := by kernel_rfl
theorem nested53 : okB (goN (.ofNat 53)) = true := by kernel_rfl
theorem nested59 : okB (goN (.ofNat 59)) = true := by kernel_rfl
end Go.Proofs.YtfmgdjkcdmjloaaGreatDoor
