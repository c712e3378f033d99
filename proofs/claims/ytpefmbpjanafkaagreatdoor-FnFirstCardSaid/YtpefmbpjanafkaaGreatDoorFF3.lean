/- FnFirst: closed facts of the row. -/
import Derived.Test.YtpefmbpjanafkaaGreatDoorRows
import Derived.JoinedOf
import Derived.KernelRfl
set_option linter.unusedVariables false
set_option linter.unusedSimpArgs false
namespace Go.Proofs.YtpefmbpjanafkaaGreatDoor
open Go
set_option maxRecDepth 100000
theorem fFact3 : (Tryz.f7.params.all (Tryz.prog.readableRec ·)) = true := by kernel_rfl
theorem fFact7 : ((Rows.fnFirstRow.knobs == [])) = true := by kernel_rfl
theorem fFact11 : ((Rows.fnFirstRow.recurses == Tryz.prog.recurses 7)) = true := by kernel_rfl
theorem fFact15 : ((Rows.fnFirstRow.mapsOut == Tryz.prog.mapsAmong Tryz.f7.resultTypes.toList)) = true := by kernel_rfl
theorem fFact19 : (Tryz.f7.resultTypes.all (fun t => Tryz.prog.readableRec t && decide (t < Tryz.prog.types.size))) = true := by kernel_rfl
theorem fFact23 : (Rows.fnFirstRow.shortTexts.isNone) = true := by kernel_rfl
theorem fFact27 : ((Tryz.prog.make == some Rows.fnFirstRow.make)) = true := by kernel_rfl
theorem fFact31 : (Rows.fnFirstRow.veiledFits Tryz.prog Tryz.f7.params.toList (Tryz.f7.params.toList ++ Rows.fnFirstSpec.plain.varTypes Tryz.prog ++ Tryz.f7.resultTypes.toList)) = true := by kernel_rfl
end Go.Proofs.YtpefmbpjanafkaaGreatDoor
