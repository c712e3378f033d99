/- FnFirst: a run of the HTML at words. -/
import Derived.Test.YtpefmbpjanafkaaGreatDoorFGo
set_option linter.unusedVariables false
set_option linter.unusedSimpArgs false
namespace Go.Proofs.YtpefmbpjanafkaaGreatDoor
open Go.AM
theorem r1 : rF 6 3 = true := by kernel_rfl
end Go.Proofs.YtpefmbpjanafkaaGreatDoor
