/- FnNumeric: closed facts of the row. -/
import Derived.Test.YtfmgdjkcdmjloaaGreatDoorRows
import Derived.JoinedOf
import Derived.KernelRfl
set_option linter.unusedVariables false
set_option linter.unusedSimpArgs false
namespace Go.Proofs.YtfmgdjkcdmjloaaGreatDoor
open Go
set_option maxRecDepth 100000
theorem nFact1 : (laidOutB Tryz.prog) = true := by kernel_rfl
theorem nFact5 : ((Rows.fnNumericRow.stops == [])) = true := by kernel_rfl
theorem nFact9 : ((Rows.fnNumericRow.inPlace == Tryz.prog.inPlace 9)) = true := by kernel_rfl
theorem nFact13 : ((Rows.fnNumericRow.maps == (Tryz.f9.params.toList ++ Rows.fnNumericSpec.plain.varTypes Tryz.prog).any (Tryz.prog.mapsRec ·))) = true := by kernel_rfl
theorem nFact17 : ((Rows.fnNumericRow.wideKeys == (Tryz.f9.params.toList ++ Rows.fnNumericSpec.plain.varTypes Tryz.prog ++ Tryz.f9.resultTypes.toList).any (Tryz.prog.wideKeysFrom ·))) = true := by kernel_rfl
theorem nFact21 : ((Rows.fnNumericRow.loopsOut == Tryz.f9.resultTypes.toList.any (Tryz.prog.loopsFrom ·))) = true := by kernel_rfl
theorem nFact25 : (Tryz.prog.mayEnter) = true := by kernel_rfl
theorem nFact29 : ((Rows.fnNumericRow.pinned == Rows.fnNumericRow.pinnedBy)) = true := by kernel_rfl
end Go.Proofs.YtfmgdjkcdmjloaaGreatDoor
