/- FnWWW, run at unknown words, part 6. -/
import Derived.Test.YtfmgdjkcdmjloaaGreatDoorWTab
import Derived.KernelRfl
set_option linter.unusedVariables false
set_option linter.unusedSimpArgs false
namespace Go.Proofs.YtfmgdjkcdmjloaaGreatDoor
theorem www1tf : okB (goW ⟨[48], 0, 0, false, 0, 0⟩ true false) = true := by kernel_rfl
theorem www3tf : okB (goW ⟨[48], 8, 8, false, 0, 0⟩ true false) = true := by kernel_rfl
theorem www5tf : okB (goW ⟨[48], 0, 0, true, 0, 18⟩ true false) = true := by kernel_rfl
theorem www7tf : okB (goW ⟨[48], 1, 6, true, 12, 12⟩ true false) = true := by kernel_rfl
theorem www9tf : okB (goW ⟨[48], 1, 4, true, 14, 14⟩ true false) = true := by kernel_rfl
theorem www11tf : okB (goW ⟨[48], 1, 2, true, 16, 16⟩ true false) = true := by kernel_rfl
theorem www13tf : okB (goW ⟨[49], 0, 0, false, 0, 0⟩ true false) = true := by kernel_rfl
theorem www15tf : okB (goW ⟨[49], 8, 8, false, 0, 0⟩ true false) = true := by kernel_rfl
theorem www17tf : okB (goW ⟨[49], 0, 0, true, 0, 18⟩ true false) = true := by kernel_rfl
theorem www19tf : okB (goW ⟨[49], 1, 6, true, 12, 12⟩ true false) = true := by kernel_rfl
theorem www21tf : okB (goW ⟨[49], 1, 4, true, 14, 14⟩ true false) = true := by kernel_rfl
theorem www23tf : okB (goW ⟨[49], 1, 2, true, 16, 16⟩ true false) = true := by kernel_rfl
theorem www25tf : okB (goW ⟨[57], 0, 0, false, 0, 0⟩ true false) = true := by kernel_rfl
theorem www27tf : okB (goW ⟨[57], 8, 8, false, 0, 0⟩ true false) = true := by kernel_rfl
theorem www29tf : okB (goW ⟨[57], 0, 0, true, 0, 18⟩ true false) = true := by kernel_rfl
theorem www31tf : okB (goW ⟨[57], 1, 6, true, 12, 12⟩ true false) = true := by kernel_rfl
theorem www33tf : okB (goW ⟨[57], 1, 4, true, 14, 14⟩ true false) = true := by kernel_rfl
theorem www35tf : okB (goW ⟨[57], 1, 2, true, 16, 16⟩ true false) = true := by kernel_rfl
end Go.Proofs.YtfmgdjkcdmjloaaGreatDoor
