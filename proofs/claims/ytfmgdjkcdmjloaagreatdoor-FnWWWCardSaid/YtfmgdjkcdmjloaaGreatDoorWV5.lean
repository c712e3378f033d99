/- FnWWW, run at unknown words, part 5. -/
import Derived.Test.YtfmgdjkcdmjloaaGreatDoorWTab
import Derived.KernelRfl
set_option linter.unusedVariables false
set_option linter.unusedSimpArgs false
namespace Go.Proofs.YtfmgdjkcdmjloaaGreatDoor
theorem www1ft : okB (goW ⟨[48], 0, 0, false, 0, 0⟩ false true) = true := by kernel_rfl
theorem www3ft : okB (goW ⟨[48], 8, 8, false, 0, 0⟩ false true) = true := by kernel_rfl
theorem www5ft : okB (goW ⟨[48], 0, 0, true, 0, 18⟩ false true) = true := by kernel_rfl
theorem www7ft : okB (goW ⟨[48], 1, 6, true, 12, 12⟩ false true) = true := by kernel_rfl
theorem www9ft : okB (goW ⟨[48], 1, 4, true, 14, 14⟩ false true) = true := by kernel_rfl
theorem www11ft : okB (goW ⟨[48], 1, 2, true, 16, 16⟩ false true) = true := by kernel_rfl
theorem www13ft : okB (goW ⟨[49], 0, 0, false, 0, 0⟩ false true) = true := by kernel_rfl
theorem www15ft : okB (goW ⟨[49], 8, 8, false, 0, 0⟩ false true) = true := by kernel_rfl
theorem www17ft : okB (goW ⟨[49], 0, 0, true, 0, 18⟩ false true) = true := by kernel_rfl
theorem www19ft : okB (goW ⟨[49], 1, 6, true, 12, 12⟩ false true) = true := by kernel_rfl
theorem www21ft : okB (goW ⟨[49], 1, 4, true, 14, 14⟩ false true) = true := by kernel_rfl
theorem www23ft : okB (goW ⟨[49], 1, 2, true, 16, 16⟩ false true) = true := by kernel_rfl
theorem www25ft : okB (goW ⟨[57], 0, 0, false, 0, 0⟩ false true) = true := by kernel_rfl
theorem www27ft : okB (goW ⟨[57], 8, 8, false, 0, 0⟩ false true) = true := by kernel_rfl
theorem www29ft : okB (goW ⟨[57], 0, 0, true, 0, 18⟩ false true) = true := by kernel_rfl
theorem www31ft : okB (goW ⟨[57], 1, 6, true, 12, 12⟩ false true) = true := by kernel_rfl
theorem www33ft : okB (goW ⟨[57], 1, 4, true, 14, 14⟩ false true) = true := by kernel_rfl
theorem www35ft : okB (goW ⟨[57], 1, 2, true, 16, 16⟩ false true) = true := by kernel_rfl
end Go.Proofs.YtfmgdjkcdmjloaaGreatDoor
