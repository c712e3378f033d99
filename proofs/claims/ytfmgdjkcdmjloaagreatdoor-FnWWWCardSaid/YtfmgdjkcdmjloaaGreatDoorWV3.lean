/- FnWWW, run at unknown words, part 3. -/
import Derived.Test.YtfmgdjkcdmjloaaGreatDoorWTab
import Derived.KernelRfl
set_option linter.unusedVariables false
set_option linter.unusedSimpArgs false
namespace Go.Proofs.YtfmgdjkcdmjloaaGreatDoor
theorem www0tt : okB (goW ⟨[], 0, 0, true, 0, 19⟩ true true) = true := by kernel_rfl
theorem www2tt : okB (goW ⟨[48], 1, 7, false, 0, 0⟩ true true) = true := by kernel_rfl
theorem www6tt : okB (goW ⟨[48], 1, 7, true, 0, 11⟩ true true) = true := by kernel_rfl
theorem www8tt : okB (goW ⟨[48], 1, 5, true, 13, 13⟩ true true) = true := by kernel_rfl
theorem www10tt : okB (goW ⟨[48], 1, 3, true, 15, 15⟩ true true) = true := by kernel_rfl
theorem www12tt : okB (goW ⟨[48], 1, 1, true, 17, 17⟩ true true) = true := by kernel_rfl
theorem www14tt : okB (goW ⟨[49], 1, 7, false, 0, 0⟩ true true) = true := by kernel_rfl
theorem www18tt : okB (goW ⟨[49], 1, 7, true, 0, 11⟩ true true) = true := by kernel_rfl
theorem www20tt : okB (goW ⟨[49], 1, 5, true, 13, 13⟩ true true) = true := by kernel_rfl
theorem www22tt : okB (goW ⟨[49], 1, 3, true, 15, 15⟩ true true) = true := by kernel_rfl
theorem www24tt : okB (goW ⟨[49], 1, 1, true, 17, 17⟩ true true) = true := by kernel_rfl
theorem www26tt : okB (goW ⟨[57], 1, 7, false, 0, 0⟩ true true) = true := by kernel_rfl
theorem www30tt : okB (goW ⟨[57], 1, 7, true, 0, 11⟩ true true) = true := by kernel_rfl
theorem www32tt : okB (goW ⟨[57], 1, 5, true, 13, 13⟩ true true) = true := by kernel_rfl
theorem www34tt : okB (goW ⟨[57], 1, 3, true, 15, 15⟩ true true) = true := by kernel_rfl
theorem www36tt : okB (goW ⟨[57], 1, 1, true, 17, 17⟩ true true) = true := by kernel_rfl
end Go.Proofs.YtfmgdjkcdmjloaaGreatDoor
