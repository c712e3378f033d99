/- FnWWW, run at unknown words, part 1. -/
import Derived.Test.YtfmgdjkcdmjloaaGreatDoorWTab
import Derived.KernelRfl
set_option linter.unusedVariables false
set_option linter.unusedSimpArgs false
namespace Go.Proofs.YtfmgdjkcdmjloaaGreatDoor
theorem www0ft : okB (goW ⟨[], 0, 0, true, 0, 19⟩ false true) = true := by kernel_rfl
theorem www2ft : okB (goW ⟨[48], 1, 7, false, 0, 0⟩ false true) = true := by kernel_rfl
theorem www6ft : okB (goW ⟨[48], 1, 7, true, 0, 11⟩ false true) = true := by kernel_rfl
theorem www8ft : okB (goW ⟨[48], 1, 5, true, 13, 13⟩ false true) = true := by kernel_rfl
theorem www10ft : okB (goW ⟨[48], 1, 3, true, 15, 15⟩ false true) = true := by kernel_rfl
theorem www12ft : okB (goW ⟨[48], 1, 1, true, 17, 17⟩ false true) = true := by kernel_rfl
theorem www14ft : okB (goW ⟨[49], 1, 7, false, 0, 0⟩ false true) = true := by kernel_rfl
theorem www18ft : okB (goW ⟨[49], 1, 7, true, 0, 11⟩ false true) = true := by kernel_rfl
theorem www20ft : okB (goW ⟨[49], 1, 5, true, 13, 13⟩ false true) = true := by kernel_rfl
theorem www22ft : okB (goW ⟨[49], 1, 3, true, 15, 15⟩ false true) = true := by kernel_rfl
theorem www24ft : okB (goW ⟨[49], 1, 1, true, 17, 17⟩ false true) = true := by kernel_rfl
theorem www26ft : okB (goW ⟨[57], 1, 7, false, 0, 0⟩ false true) = true := by kernel_rfl
theorem www30ft : okB (goW ⟨[57], 1, 7, true, 0, 11⟩ false true) = true := by kernel_rfl
theorem www32ft : okB (goW ⟨[57], 1, 5, true, 13, 13⟩ false true) = true := by kernel_rfl
theorem www34ft : okB (goW ⟨[57], 1, 3, true, 15, 15⟩ false true) = true := by kernel_rfl
theorem www36ft : okB (goW ⟨[57], 1, 1, true, 17, 17⟩ false true) = true := by kernel_rfl
end Go.Proofs.YtfmgdjkcdmjloaaGreatDoor
