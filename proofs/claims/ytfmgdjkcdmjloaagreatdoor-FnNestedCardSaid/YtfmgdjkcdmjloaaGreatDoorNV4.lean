/- FnNested at the numbers that leave 4 when parted by 6. -/
import Derived.Test.YtfmgdjkcdmjloaaGreatDoorNGo
set_option linter.unusedVariables false
set_option linter.unusedSimpArgs false
namespace Go.Proofs.YtfmgdjkcdmjloaaGreatDoor
theorem nested4 : okB (goN (.ofNat 4)) = true := by kernel_rfl
theorem nested10 : okB (goN (.ofNat 10)) = true := by kernel_rfl
theorem nested16 : okB (goN (.ofNat 16)) = true := by kernel_rfl
theorem nested22 : okB (goN (.ofNat 22)) = true := by kernel_rfl
theorem nested28 : okB (goN (.ofNat 28)) = true := by kernel_rfl
theorem nested34 : okB (goN (.ofNat 34)) = true := by kernel_rfl
theorem nested40 : okB (goN (.ofNat 40)) = true := by kernel_rfl
theorem nested46 : okB (goN (.ofNat 46)) = true := by kernel_rfl
theorem nested52 : okB (goN (.ofNat 52)) = true := by kernel_rfl
theorem nested58 : okB (goN (.ofNat 58)) = true := by kernel_rfl
end Go.Proofs.YtfmgdjkcdmjloaaGreatDoor
