/- FnFirst: closed facts of the card. -/
import Derived.Test.YtpefmbpjanafkaaGreatDoorRows
import Derived.Test.YtpefmbpjanafkaaGreatDoorTie
import Derived.Test.YtpefmbpjanafkaaGreatDoorCards
import Derived.KernelRfl
set_option linter.unusedVariables false
set_option linter.unusedSimpArgs false
namespace Go.Proofs.YtpefmbpjanafkaaGreatDoor
open Go
set_option maxRecDepth 100000
theorem fk1 : Tryz.pinned.checked.prog.mainIs = some (true, ("74bf2e092f3722babcd1a1121cc14b0239e08c0846e625ba6ed199fb5f9c7304" : String).toList) := by kernel_rfl
theorem fk2 : Tryz.prog.funcNamed "pub-paratext/laws.FnFirst" = some 7 := by kernel_rfl
end Go.Proofs.YtpefmbpjanafkaaGreatDoor
