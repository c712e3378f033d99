/- FnDots: closed facts of the row. -/
import Derived.Test.YtfmgdjkcdmjloaaGreatDoorRows
import Derived.JoinedOf
import Derived.KernelRfl
set_option linter.unusedVariables false
set_option linter.unusedSimpArgs false
namespace Go.Proofs.YtfmgdjkcdmjloaaGreatDoor
open Go
set_option maxRecDepth 100000
theorem dFact3 : (Tryz.f4.params.all (Tryz.prog.readableRec ·)) = true := by kernel_rfl
theorem dFact7 : ((Rows.fnDotsRow.knobs == [])) = true := by kernel_rfl
theorem dFact11 : ((Rows.fnDotsRow.recurses == Tryz.prog.recurses 4)) = true := by kernel_rfl
theorem dFact15 : ((Rows.fnDotsRow.mapsOut == Tryz.prog.mapsAmong Tryz.f4.resultTypes.toList)) = true := by kernel_rfl
theorem dFact19 : (Tryz.f4.resultTypes.all (fun t => Tryz.prog.readableRec t && decide (t < Tryz.prog.types.size))) = true := by kernel_rfl
theorem dFact23 : (Rows.fnDotsRow.shortTexts.isNone) = true := by kernel_rfl
theorem dFact27 : ((Tryz.prog.make == some Rows.fnDotsRow.make)) = true := by kernel_rfl
theorem dFact31 : (Rows.fnDotsRow.veiledFits Tryz.prog Tryz.f4.params.toList (Tryz.f4.params.toList ++ Rows.fnDotsSpec.plain.varTypes Tryz.prog ++ Tryz.f4.resultTypes.toList)) = true := by kernel_rfl
end Go.Proofs.YtfmgdjkcdmjloaaGreatDoor
