/- FnWWW, run at unknown words, part 8. -/
import Derived.Test.YtfmgdjkcdmjloaaGreatDoorWTab
import Derived.KernelRfl
set_option linter.unusedVariables false
set_option linter.unusedSimpArgs false
namespace Go.Proofs.YtfmgdjkcdmjloaaGreatDoor
theorem w9_48fff : okB (goW9 48 false false false) = true := by kernel_rfl
theorem w9_48fft : okB (goW9 48 false false true) = true := by kernel_rfl
theorem w9_48ftf : okB (goW9 48 false true false) = true := by kernel_rfl
theorem w9_48ftt : okB (goW9 48 false true true) = true := by kernel_rfl
theorem w9_48tff : okB (goW9 48 true false false) = true := by kernel_rfl
theorem w9_48tft : okB (goW9 48 true false true) = true := by kernel_rfl
theorem w9_48ttf : okB (goW9 48 true true false) = true := by kernel_rfl
theorem w9_48ttt : okB (goW9 48 true true true) = true := by kernel_rfl
theorem w9_49fff : okB (goW9 49 false false false) = true := by kernel_rfl
theorem w9_49fft : okB (goW9 49 false false true) = true := by kernel_rfl
theorem w9_49ftf : okB (goW9 49 false true false) = true := by kernel_rfl
theorem w9_49ftt : okB (goW9 49 false true true) = true := by kernel_rfl
theorem w9_49tff : okB (goW9 49 true false false) = true := by kernel_rfl
theorem w9_49tft : okB (goW9 49 true false true) = true := by kernel_rfl
theorem w9_49ttf : okB (goW9 49 true true false) = true := by kernel_rfl
theorem w9_49ttt : okB (goW9 49 true true true) = true := by kernel_rfl
theorem w9_57fff : okB (goW9 57 false false false) = true := by kernel_rfl
theorem w9_57fft : okB (goW9 57 false false true) = true := by kernel_rfl
theorem w9_57ftf : okB (goW9 57 false true false) = true := by kernel_rfl
theorem w9_57ftt : okB (goW9 57 false true true) = true := by kernel_rfl
theorem w9_57tff : okB (goW9 57 true false false) = true := by kernel_rfl
theorem w9_57tft : okB (goW9 57 true false true) = true := by kernel_rfl
theorem w9_57ttf : okB (goW9 57 true true false) = true := by kernel_rfl
theorem w9_57ttt : okB (goW9 57 true true true) = true := by kernel_rfl
end Go.Proofs.YtfmgdjkcdmjloaaGreatDoor
