/- FnFirst: the closed facts of the row. -/
import Derived.Test.YtpefmbpjanafkaaGreatDoorFF0
import Derived.Test.YtpefmbpjanafkaaGreatDoorFF1
import Derived.Test.YtpefmbpjanafkaaGreatDoorFF2
import Derived.Test.YtpefmbpjanafkaaGreatDoorFF3
set_option linter.unusedVariables false
set_option linter.unusedSimpArgs false
namespace Go.Proofs.YtpefmbpjanafkaaGreatDoor
open Go
set_option maxRecDepth 100000
theorem bandF {a b : Bool} (h : a = true) (k : b = true) : (a && b) = true := by rw [h, k]; rfl
theorem fFacts0 : joinedFacts Tryz.prog 7 Tryz.f7 Rows.fnFirstSpec Rows.fnFirstRow = true :=
  (bandF (bandF (bandF (bandF (bandF (bandF (bandF (bandF (bandF (bandF (bandF (bandF (bandF (bandF (bandF (bandF (bandF (bandF (bandF (bandF (bandF (bandF (bandF (bandF (bandF (bandF (bandF (bandF (bandF (bandF (bandF fFact0 fFact1) fFact2) fFact3) fFact4) fFact5) fFact6) fFact7) fFact8) fFact9) fFact10) fFact11) fFact12) fFact13) fFact14) fFact15) fFact16) fFact17) fFact18) fFact19) fFact20) fFact21) fFact22) fFact23) fFact24) fFact25) fFact26) fFact27) fFact28) fFact29) fFact30) fFact31)
theorem fFacts : joinedFacts Tryz.pinned.checked.prog 7 Tryz.f7 Rows.fnFirstSpec Rows.fnFirstRow = true := fFacts0
end Go.Proofs.YtpefmbpjanafkaaGreatDoor
