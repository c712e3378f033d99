/- FnHeadID: closed facts of the row. -/
import Derived.Test.YtfmgdjkcdmjloaaGreatDoorRows
import Derived.JoinedOf
import Derived.KernelRfl
set_option linter.unusedVariables false
set_option linter.unusedSimpArgs false
namespace Go.Proofs.YtfmgdjkcdmjloaaGreatDoor
open Go
set_option maxRecDepth 100000
theorem hFact3 : (Tryz.f5.params.all (Tryz.prog.readableRec ·)) = true := by kernel_rfl
theorem hFact7 : ((Rows.fnHeadIDRow.knobs == [])) = true := by kernel_rfl
theorem hFact11 : ((Rows.fnHeadIDRow.recurses == Tryz.prog.recurses 5)) = true := by kernel_rfl
theorem hFact15 : ((Rows.fnHeadIDRow.mapsOut == Tryz.prog.mapsAmong Tryz.f5.resultTypes.toList)) = true := by kernel_rfl
theorem hFact19 : (Tryz.f5.resultTypes.all (fun t => Tryz.prog.readableRec t && decide (t < Tryz.prog.types.size))) = true := by kernel_rfl
theorem hFact23 : (Rows.fnHeadIDRow.shortTexts.isNone) = true := by kernel_rfl
theorem hFact27 : ((Tryz.prog.make == some Rows.fnHeadIDRow.make)) = true := by kernel_rfl
theorem hFact31 : (Rows.fnHeadIDRow.veiledFits Tryz.prog Tryz.f5.params.toList (Tryz.f5.params.toList ++ Rows.fnHeadIDSpec.plain.varTypes Tryz.prog ++ Tryz.f5.resultTypes.toList)) = true := by kernel_rfl
end Go.Proofs.YtfmgdjkcdmjloaaGreatDoor
