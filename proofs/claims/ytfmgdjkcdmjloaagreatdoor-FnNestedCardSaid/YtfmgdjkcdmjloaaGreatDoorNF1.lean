/- FnNested: closed facts of the row. -/
import Derived.Test.YtfmgdjkcdmjloaaGreatDoorRows
import Derived.JoinedOf
import Derived.KernelRfl
set_option linter.unusedVariables false
set_option linter.unusedSimpArgs false
namespace Go.Proofs.YtfmgdjkcdmjloaaGreatDoor
open Go
set_option maxRecDepth 100000
theorem nestedFact1 : (laidOutB Tryz.prog) = true := by kernel_rfl
theorem nestedFact5 : ((Rows.fnNestedRow.stops == [])) = true := by kernel_rfl
theorem nestedFact9 : ((Rows.fnNestedRow.inPlace == Tryz.prog.inPlace 8)) = true := by kernel_rfl
theorem nestedFact13 : ((Rows.fnNestedRow.maps == (Tryz.f8.params.toList ++ Rows.fnNestedSpec.plain.varTypes Tryz.prog).any (Tryz.prog.mapsRec ·))) = true := by kernel_rfl
theorem nestedFact17 : ((Rows.fnNestedRow.wideKeys == (Tryz.f8.params.toList ++ Rows.fnNestedSpec.plain.varTypes Tryz.prog ++ Tryz.f8.resultTypes.toList).any (Tryz.prog.wideKeysFrom ·))) = true := by kernel_rfl
theorem nestedFact21 : ((Rows.fnNestedRow.loopsOut == Tryz.f8.resultTypes.toList.any (Tryz.prog.loopsFrom ·))) = true := by kernel_rfl
theorem nestedFact25 : (Tryz.prog.mayEnter) = true := by kernel_rfl
theorem nestedFact29 : ((Rows.fnNestedRow.pinned == Rows.fnNestedRow.pinnedBy)) = true := by kernel_rfl
end Go.Proofs.YtfmgdjkcdmjloaaGreatDoor
