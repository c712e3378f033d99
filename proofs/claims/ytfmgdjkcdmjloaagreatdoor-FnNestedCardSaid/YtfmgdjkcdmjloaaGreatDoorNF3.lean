/- FnNested: closed facts of the row. -/
import Derived.Test.YtfmgdjkcdmjloaaGreatDoorRows
import Derived.JoinedOf
import Derived.KernelRfl
set_option linter.unusedVariables false
set_option linter.unusedSimpArgs false
namespace Go.Proofs.YtfmgdjkcdmjloaaGreatDoor
open Go
set_option maxRecDepth 100000
theorem nestedFact3 : (Tryz.f8.params.all (Tryz.prog.readableRec ·)) = true := by kernel_rfl
theorem nestedFact7 : ((Rows.fnNestedRow.knobs == [])) = true := by kernel_rfl
theorem nestedFact11 : ((Rows.fnNestedRow.recurses == Tryz.prog.recurses 8)) = true := by kernel_rfl
theorem nestedFact15 : ((Rows.fnNestedRow.mapsOut == Tryz.prog.mapsAmong Tryz.f8.resultTypes.toList)) = true := by kernel_rfl
theorem nestedFact19 : (Tryz.f8.resultTypes.all (fun t => Tryz.prog.readableRec t && decide (t < Tryz.prog.types.size))) = true := by kernel_rfl
theorem nestedFact23 : (Rows.fnNestedRow.shortTexts.isNone) = true := by kernel_rfl
theorem nestedFact27 : ((Tryz.prog.make == some Rows.fnNestedRow.make)) = true := by kernel_rfl
theorem nestedFact31 : (Rows.fnNestedRow.veiledFits Tryz.prog Tryz.f8.params.toList (Tryz.f8.params.toList ++ Rows.fnNestedSpec.plain.varTypes Tryz.prog ++ Tryz.f8.resultTypes.toList)) = true := by kernel_rfl
end Go.Proofs.YtfmgdjkcdmjloaaGreatDoor
