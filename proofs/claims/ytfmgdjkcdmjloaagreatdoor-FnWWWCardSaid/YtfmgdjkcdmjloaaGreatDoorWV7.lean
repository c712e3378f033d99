/- FnWWW, run at unknown words, part 7. -/
import Derived.Test.YtfmgdjkcdmjloaaGreatDoorWTab
import Derived.KernelRfl
set_option linter.unusedVariables false
set_option linter.unusedSimpArgs false
namespace Go.Proofs.YtfmgdjkcdmjloaaGreatDoor
theorem www1tt : okB (goW ⟨[48], 0, 0, false, 0, 0⟩ true true) = true := by kernel_rfl
theorem www3tt : okB (goW ⟨[48], 8, 8, false, 0, 0⟩ true true) = true := by kernel_rfl
theorem www5tt : okB (goW ⟨[48], 0, 0, true, 0, 18⟩ true true) = true := by kernel_rfl
theorem www7tt : okB (goW ⟨[48], 1, 6, true, 12, 12⟩ true true) = true := by kernel_rfl
theorem www9tt : okB (goW ⟨[48], 1, 4, true, 14, 14⟩ true true) = true := by kernel_rfl
theorem www11tt : okB (goW ⟨[48], 1, 2, true, 16, 16⟩ true true) = true := by kernel_rfl
theorem www13tt : okB (goW ⟨[49], 0, 0, false, 0, 0⟩ true true) = true := by kernel_rfl
theorem www15tt : okB (goW ⟨[49], 8, 8, false, 0, 0⟩ true true) = true := by kernel_rfl
theorem www17tt : okB (goW ⟨[49], 0, 0, true, 0, 18⟩ true true) = true := by kernel_rfl
theorem www19tt : okB (goW ⟨[49], 1, 6, true, 12, 12⟩ true true) = true := by kernel_rfl
theorem www21tt : okB (goW ⟨[49], 1, 4, true, 14, 14⟩ true true) = true := by kernel_rfl
theorem www23tt : okB (goW ⟨[49], 1, 2, true, 16, 16⟩ true true) = true := by kernel_rfl
theorem www25tt : okB (goW ⟨[57], 0, 0, false, 0, 0⟩ true true) = true := by kernel_rfl
theorem www27tt : okB (goW ⟨[57], 8, 8, false, 0, 0⟩ true true) = true := by kernel_rfl
theorem www29tt : okB (goW ⟨[57], 0, 0, true, 0, 18⟩ true true) = true := by kernel_rfl
theorem www31tt : okB (goW ⟨[57], 1, 6, true, 12, 12⟩ true true) = true := by kernel_rfl
theorem www33tt : okB (goW ⟨[57], 1, 4, true, 14, 14⟩ true true) = true := by kernel_rfl
theorem www35tt : okB (goW ⟨[57], 1, 2, true, 16, 16⟩ true true) = true := by kernel_rfl
end Go.Proofs.YtfmgdjkcdmjloaaGreatDoor
