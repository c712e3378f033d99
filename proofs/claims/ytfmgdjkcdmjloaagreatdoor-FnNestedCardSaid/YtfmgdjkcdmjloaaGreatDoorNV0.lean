/- FnNested at the numbers that leave 0 when parted by 6. -/
import Derived.Test.YtfmgdjkcdmjloaaGreatDoorNGo
set_option linter.unusedVariables false
set_option linter.unusedSimpArgs false
namespace Go.Proofs.YtfmgdjkcdmjloaaGreatDoor
theorem nested0 : okB (goN (.ofNat 0)) = true := by kernel_rfl
theorem nested6 : okB (goN (.ofNat 6)) = true := by kernel_rfl
theorem nested12 : okB (goN (.ofNat 12)) = true := by kernel_rfl
theorem nested18 : okB (goN (.ofNat 18)) = true := by kernel_rfl
theorem nested24 : okB (goN (.ofNat 24)) = true := by kernel_rfl
theorem nested30 : okB (goN (.ofNat 30)) = true := by kernel_rfl
theorem nested36 : okB (goN (.ofNat 36)) = true := by kernel_rfl
theorem nested42 : okB (goN (.ofNat 42)) = true := by kernel_rfl
theorem nested48 : okB (goN (.ofNat 48)) = true := by kernel_rfl
theorem nested54 : okB (goN (.ofNat 54)) = true := by kernel_rfl
theorem nested60 : okB (goN (.ofNat 60)) = true := by kernel_rfl
end Go.Proofs.YtfmgdjkcdmjloaaGreatDoor
