/- FnFirst: closed facts of the card. -/
import Derived.Test.YtpefmbpjanafkaaGreatDoorRows
import Derived.Test.YtpefmbpjanafkaaGreatDoorTie
import Derived.Test.YtpefmbpjanafkaaGreatDoorCards
import Derived.KernelRfl
set_option linter.unusedVariables false
set_option linter.unusedSimpArgs false
namespace Go.Proofs.YtpefmbpjanafkaaGreatDoor
open Go
set_option maxRecDepth 100000
theorem fk3 : true = Tryz.pinned.checked.prog.looks [] := by kernel_rfl
theorem fk4 : false = Rows.fnFirstRow.goesBy Tryz.pinned.checked.prog := by kernel_rfl
theorem fk5 : ([9, 4].all fun u => !Tryz.prog.wantsStandIn u) = true := by kernel_rfl
end Go.Proofs.YtpefmbpjanafkaaGreatDoor
