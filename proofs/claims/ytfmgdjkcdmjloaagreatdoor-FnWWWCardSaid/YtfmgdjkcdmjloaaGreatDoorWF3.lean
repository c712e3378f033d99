/- FnWWW: closed facts of the row. -/
import Derived.Test.YtfmgdjkcdmjloaaGreatDoorRows
import Derived.JoinedOf
import Derived.KernelRfl
set_option linter.unusedVariables false
set_option linter.unusedSimpArgs false
namespace Go.Proofs.YtfmgdjkcdmjloaaGreatDoor
open Go
set_option maxRecDepth 100000
theorem wFact3 : (Tryz.f10.params.all (Tryz.prog.readableRec ·)) = true := by kernel_rfl
theorem wFact7 : ((Rows.fnWWWRow.knobs == [])) = true := by kernel_rfl
theorem wFact11 : ((Rows.fnWWWRow.recurses == Tryz.prog.recurses 10)) = true := by kernel_rfl
theorem wFact15 : ((Rows.fnWWWRow.mapsOut == Tryz.prog.mapsAmong Tryz.f10.resultTypes.toList)) = true := by kernel_rfl
theorem wFact19 : (Tryz.f10.resultTypes.all (fun t => Tryz.prog.readableRec t && decide (t < Tryz.prog.types.size))) = true := by kernel_rfl
theorem wFact23 : (Rows.fnWWWRow.shortTexts.isNone) = true := by kernel_rfl
theorem wFact27 : ((Tryz.prog.make == some Rows.fnWWWRow.make)) = true := by kernel_rfl
theorem wFact31 : (Rows.fnWWWRow.veiledFits Tryz.prog Tryz.f10.params.toList (Tryz.f10.params.toList ++ Rows.fnWWWSpec.plain.varTypes Tryz.prog ++ Tryz.f10.resultTypes.toList)) = true := by kernel_rfl
end Go.Proofs.YtfmgdjkcdmjloaaGreatDoor
