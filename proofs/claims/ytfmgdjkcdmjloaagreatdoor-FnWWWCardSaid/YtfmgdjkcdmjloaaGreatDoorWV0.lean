/- FnWWW, run at unknown words, part 0. -/
import Derived.Test.YtfmgdjkcdmjloaaGreatDoorWTab
import Derived.KernelRfl
set_option linter.unusedVariables false
set_option linter.unusedSimpArgs false
namespace Go.Proofs.YtfmgdjkcdmjloaaGreatDoor
theorem www0ff : okB (goW ⟨[], 0, 0, true, 0, 19⟩ false false) = true := by kernel_rfl
theorem www2ff : okB (goW ⟨[48], 1, 7, false, 0, 0⟩ false false) = true := by kernel_rfl
theorem www6ff : okB (goW ⟨[48], 1, 7, true, 0, 11⟩ false false) = true := by kernel_rfl
theorem www8ff : okB (goW ⟨[48], 1, 5, true, 13, 13⟩ false false) = true := by kernel_rfl
theorem www10ff : okB (goW ⟨[48], 1, 3, true, 15, 15⟩ false false) = true := by kernel_rfl
theorem www12ff : okB (goW ⟨[48], 1, 1, true, 17, 17⟩ false false) = true := by kernel_rfl
theorem www14ff : okB (goW ⟨[49], 1, 7, false, 0, 0⟩ false false) = true := by kernel_rfl
theorem www18ff : okB (goW ⟨[49], 1, 7, true, 0, 11⟩ false false) = true := by kernel_rfl
theorem www20ff : okB (goW ⟨[49], 1, 5, true, 13, 13⟩ false false) = true := by kernel_rfl
theorem www22ff : okB (goW ⟨[49], 1, 3, true, 15, 15⟩ false false) = true := by kernel_rfl
theorem www24ff : okB (goW ⟨[49], 1, 1, true, 17, 17⟩ false false) = true := by kernel_rfl
theorem www26ff : okB (goW ⟨[57], 1, 7, false, 0, 0⟩ false false) = true := by kernel_rfl
theorem www30ff : okB (goW ⟨[57], 1, 7, true, 0, 11⟩ false false) = true := by kernel_rfl
theorem www32ff : okB (goW ⟨[57], 1, 5, true, 13, 13⟩ false false) = true := by kernel_rfl
theorem www34ff : okB (goW ⟨[57], 1, 3, true, 15, 15⟩ false false) = true := by kernel_rfl
theorem www36ff : okB (goW ⟨[57], 1, 1, true, 17, 17⟩ false false) = true := by kernel_rfl
end Go.Proofs.YtfmgdjkcdmjloaaGreatDoor
