/- FnNumeric: closed facts of the row. -/
import Derived.Test.YtfmgdjkcdmjloaaGreatDoorRows
import Derived.JoinedOf
import Derived.KernelRfl
set_option linter.unusedVariables false
set_option linter.unusedSimpArgs false
namespace Go.Proofs.YtfmgdjkcdmjloaaGreatDoor
open Go
set_option maxRecDepth 100000
theorem nFact3 : (Tryz.f9.params.all (Tryz.prog.readableRec ·)) = true := by kernel_rfl
theorem nFact7 : ((Rows.fnNumericRow.knobs == [])) = true := by kernel_rfl
theorem nFact11 : ((Rows.fnNumericRow.recurses == Tryz.prog.recurses 9)) = true := by kernel_rfl
theorem nFact15 : ((Rows.fnNumericRow.mapsOut == Tryz.prog.mapsAmong Tryz.f9.resultTypes.toList)) = true := by kernel_rfl
theorem nFact19 : (Tryz.f9.resultTypes.all (fun t => Tryz.prog.readableRec t && decide (t < Tryz.prog.types.size))) = true := by kernel_rfl
theorem nFact23 : (Rows.fnNumericRow.shortTexts.isNone) = true := by kernel_rfl
theorem nFact27 : ((Tryz.prog.make == some Rows.fnNumericRow.make)) = true := by kernel_rfl
theorem nFact31 : (Rows.fnNumericRow.veiledFits Tryz.prog Tryz.f9.params.toList (Tryz.f9.params.toList ++ Rows.fnNumericSpec.plain.varTypes Tryz.prog ++ Tryz.f9.resultTypes.toList)) = true := by kernel_rfl
end Go.Proofs.YtfmgdjkcdmjloaaGreatDoor
