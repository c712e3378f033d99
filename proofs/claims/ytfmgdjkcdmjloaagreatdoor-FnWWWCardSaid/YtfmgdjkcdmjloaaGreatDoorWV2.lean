/- FnWWW, run at unknown words, part 2. -/
import Derived.Test.YtfmgdjkcdmjloaaGreatDoorWTab
import Derived.KernelRfl
set_option linter.unusedVariables false
set_option linter.unusedSimpArgs false
namespace Go.Proofs.YtfmgdjkcdmjloaaGreatDoor
theorem www0tf : okB (goW ⟨[], 0, 0, true, 0, 19⟩ true false) = true := by kernel_rfl
theorem www2tf : okB (goW ⟨[48], 1, 7, false, 0, 0⟩ true false) = true := by kernel_rfl
theorem www6tf : okB (goW ⟨[48], 1, 7, true, 0, 11⟩ true false) = true := by kernel_rfl
theorem www8tf : okB (goW ⟨[48], 1, 5, true, 13, 13⟩ true false) = true := by kernel_rfl
theorem www10tf : okB (goW ⟨[48], 1, 3, true, 15, 15⟩ true false) = true := by kernel_rfl
theorem www12tf : okB (goW ⟨[48], 1, 1, true, 17, 17⟩ true false) = true := by kernel_rfl
theorem www14tf : okB (goW ⟨[49], 1, 7, false, 0, 0⟩ true false) = true := by kernel_rfl
theorem www18tf : okB (goW ⟨[49], 1, 7, true, 0, 11⟩ true false) = true := by kernel_rfl
theorem www20tf : okB (goW ⟨[49], 1, 5, true, 13, 13⟩ true false) = true := by kernel_rfl
theorem www22tf : okB (goW ⟨[49], 1, 3, true, 15, 15⟩ true false) = true := by kernel_rfl
theorem www24tf : okB (goW ⟨[49], 1, 1, true, 17, 17⟩ true false) = true := by kernel_rfl
theorem www26tf : okB (goW ⟨[57], 1, 7, false, 0, 0⟩ true false) = true := by kernel_rfl
theorem www30tf : okB (goW ⟨[57], 1, 7, true, 0, 11⟩ true false) = true := by kernel_rfl
theorem www32tf : okB (goW ⟨[57], 1, 5, true, 13, 13⟩ true false) = true := by kernel_rfl
theorem www34tf : okB (goW ⟨[57], 1, 3, true, 15, 15⟩ true false) = true := by kernel_rfl
theorem www36tf : okB (goW ⟨[57], 1, 1, true, 17, 17⟩ true false) = true := by kernel_rfl
end Go.Proofs.YtfmgdjkcdmjloaaGreatDoor
