/- FnWWW, run at unknown words, part 4. -/
import Derived.Test.YtfmgdjkcdmjloaaGreatDoorWTab
import Derived.KernelRfl
set_option linter.unusedVariables false
set_option linter.unusedSimpArgs false
namespace Go.Proofs.YtfmgdjkcdmjloaaGreatDoor
theorem www1ff : okB (goW ⟨[48], 0, 0, false, 0, 0⟩ false false) = true := by kernel_rfl
theorem www3ff : okB (goW ⟨[48], 8, 8, false, 0, 0⟩ false false) = true := by kernel_rfl
theorem www5ff : okB (goW ⟨[48], 0, 0, true, 0, 18⟩ false false) = true := by kernel_rfl
theorem www7ff : okB (goW ⟨[48], 1, 6, true, 12, 12⟩ false false) = true := by kernel_rfl
theorem www9ff : okB (goW ⟨[48], 1, 4, true, 14, 14⟩ false false) = true := by kernel_rfl
theorem www11ff : okB (goW ⟨[48], 1, 2, true, 16, 16⟩ false false) = true := by kernel_rfl
theorem www13ff : okB (goW ⟨[49], 0, 0, false, 0, 0⟩ false false) = true := by kernel_rfl
theorem www15ff : okB (goW ⟨[49], 8, 8, false, 0, 0⟩ false false) = true := by kernel_rfl
theorem www17ff : okB (goW ⟨[49], 0, 0, true, 0, 18⟩ false false) = true := by kernel_rfl
theorem www19ff : okB (goW ⟨[49], 1, 6, true, 12, 12⟩ false false) = true := by kernel_rfl
theorem www21ff : okB (goW ⟨[49], 1, 4, true, 14, 14⟩ false false) = true := by kernel_rfl
theorem www23ff : okB (goW ⟨[49], 1, 2, true, 16, 16⟩ false false) = true := by kernel_rfl
theorem www25ff : okB (goW ⟨[57], 0, 0, false, 0, 0⟩ false false) = true := by kernel_rfl
theorem www27ff : okB (goW ⟨[57], 8, 8, false, 0, 0⟩ false false) = true := by kernel_rfl
theorem www29ff : okB (goW ⟨[57], 0, 0, true, 0, 18⟩ false false) = true := by kernel_rfl
theorem www31ff : okB (goW ⟨[57], 1, 6, true, 12, 12⟩ false false) = true := by kernel_rfl
theorem www33ff : okB (goW ⟨[57], 1, 4, true, 14, 14⟩ false false) = true := by kernel_rfl
theorem www35ff : okB (goW ⟨[57], 1, 2, true, 16, 16⟩ false false) = true := by kernel_rfl
end Go.Proofs.YtfmgdjkcdmjloaaGreatDoor
