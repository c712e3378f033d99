/- FnNested at the numbers that leave 2 when parted by 6. -/
import Derived.Test.YtfmgdjkcdmjloaaGreatDoorNGo
set_option linter.unusedVariables false
set_option linter.unusedSimpArgs false
namespace Go.Proofs.YtfmgdjkcdmjloaaGreatDoor
theorem nested2 : okB (goN (.ofNat 2)) = true := by kernel_rfl
theorem nested8 : okB (goN (.ofNat 8)) = true := by kernel_rfl
theorem nested14 : okB (goN (.ofNat 14)) = true := by kernel_rfl
theorem nested20 : okB (goN (.ofNat 20)) = true := by kernel_rfl
theorem nested26 : okB (goN (.ofNat 26)) = true := by kernel_rfl
theorem nested32 : okB (goN (.ofNat 32)) = true := by kernel_rfl
theorem nested38 : okB (goN (.ofNat 38)) = true := by kernel_rfl
theorem nested44 : okB (goN (.ofNat 44)) = true := by kernel_rfl
theorem nested50 : okB (goN (.ofNat 50)) = true := by kernel_rfl
theorem nested56 : okB (goN (.ofNat 56)) = true := by kernel_rfl
end Go.Proofs.YtfmgdjkcdmjloaaGreatDoor
