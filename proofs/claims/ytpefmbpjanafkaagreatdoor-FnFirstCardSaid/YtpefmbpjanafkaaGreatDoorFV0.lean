/- FnFirst: a run of the HTML at words. -/
import Derived.Test.YtpefmbpjanafkaaGreatDoorFGo
set_option linter.unusedVariables false
set_option linter.unusedSimpArgs false
namespace Go.Proofs.YtpefmbpjanafkaaGreatDoor
open Go.AM
theorem r0 : rF 0 2 = true := by kernel_rfl
end Go.Proofs.YtpefmbpjanafkaaGreatDoor
