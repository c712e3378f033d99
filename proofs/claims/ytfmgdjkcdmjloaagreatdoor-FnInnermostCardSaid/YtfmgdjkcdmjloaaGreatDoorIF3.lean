/- FnInnermost: closed facts of the row. -/
import Derived.Test.YtfmgdjkcdmjloaaGreatDoorRows
import Derived.JoinedOf
import Derived.KernelRfl
set_option linter.unusedVariables false
set_option linter.unusedSimpArgs false
namespace Go.Proofs.YtfmgdjkcdmjloaaGreatDoor
open Go
set_option maxRecDepth 100000
theorem innerFact3 : (Tryz.f6.params.all (Tryz.prog.readableRec ·)) = true := by kernel_rfl
theorem innerFact7 : ((Rows.fnInnermostRow.knobs == [])) = true := by kernel_rfl
theorem innerFact11 : ((Rows.fnInnermostRow.recurses == Tryz.prog.recurses 6)) = true := by kernel_rfl
theorem innerFact15 : ((Rows.fnInnermostRow.mapsOut == Tryz.prog.mapsAmong Tryz.f6.resultTypes.toList)) = true := by kernel_rfl
theorem innerFact19 : (Tryz.f6.resultTypes.all (fun t => Tryz.prog.readableRec t && decide (t < Tryz.prog.types.size))) = true := by kernel_rfl
theorem innerFact23 : (Rows.fnInnermostRow.shortTexts.isNone) = true := by kernel_rfl
theorem innerFact27 : ((Tryz.prog.make == some Rows.fnInnermostRow.make)) = true := by kernel_rfl
theorem innerFact31 : (Rows.fnInnermostRow.veiledFits Tryz.prog Tryz.f6.params.toList (Tryz.f6.params.toList ++ Rows.fnInnermostSpec.plain.varTypes Tryz.prog ++ Tryz.f6.resultTypes.toList)) = true := by kernel_rfl
end Go.Proofs.YtfmgdjkcdmjloaaGreatDoor
