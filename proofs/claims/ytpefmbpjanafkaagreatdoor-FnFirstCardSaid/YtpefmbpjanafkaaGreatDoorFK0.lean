/- FnFirst: closed facts of the card. -/
import Derived.Test.YtpefmbpjanafkaaGreatDoorRows
import Derived.Test.YtpefmbpjanafkaaGreatDoorTie
import Derived.Test.YtpefmbpjanafkaaGreatDoorCards
import Derived.KernelRfl
set_option linter.unusedVariables false
set_option linter.unusedSimpArgs false
namespace Go.Proofs.YtpefmbpjanafkaaGreatDoor
open Go
set_option maxRecDepth 100000
theorem fk0 : Rows.fnFirstRow.wfByText (OpenSpec.ofChange Rows.fnFirstSpec) = true := by kernel_rfl
end Go.Proofs.YtpefmbpjanafkaaGreatDoor
