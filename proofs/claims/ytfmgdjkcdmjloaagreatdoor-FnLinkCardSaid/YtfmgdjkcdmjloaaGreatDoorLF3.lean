/- FnLink: closed facts of the row. -/
import Derived.Test.YtfmgdjkcdmjloaaGreatDoorRows
import Derived.JoinedOf
import Derived.KernelRfl
set_option linter.unusedVariables false
set_option linter.unusedSimpArgs false
namespace Go.Proofs.YtfmgdjkcdmjloaaGreatDoor
open Go
set_option maxRecDepth 100000
theorem lFact3 : (Tryz.f7.params.all (Tryz.prog.readableRec ·)) = true := by kernel_rfl
theorem lFact7 : ((Rows.fnLinkRow.knobs == [])) = true := by kernel_rfl
theorem lFact11 : ((Rows.fnLinkRow.recurses == Tryz.prog.recurses 7)) = true := by kernel_rfl
theorem lFact15 : ((Rows.fnLinkRow.mapsOut == Tryz.prog.mapsAmong Tryz.f7.resultTypes.toList)) = true := by kernel_rfl
theorem lFact19 : (Tryz.f7.resultTypes.all (fun t => Tryz.prog.readableRec t && decide (t < Tryz.prog.types.size))) = true := by kernel_rfl
theorem lFact23 : (Rows.fnLinkRow.shortTexts.isNone) = true := by kernel_rfl
theorem lFact27 : ((Tryz.prog.make == some Rows.fnLinkRow.make)) = true := by kernel_rfl
theorem lFact31 : (Rows.fnLinkRow.veiledFits Tryz.prog Tryz.f7.params.toList (Tryz.f7.params.toList ++ Rows.fnLinkSpec.plain.varTypes Tryz.prog ++ Tryz.f7.resultTypes.toList)) = true := by kernel_rfl
end Go.Proofs.YtfmgdjkcdmjloaaGreatDoor
