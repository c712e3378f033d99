/- FnDots: closed facts of the row. -/
import Derived.Test.YtfmgdjkcdmjloaaGreatDoorRows
import Derived.JoinedOf
import Derived.KernelRfl
set_option linter.unusedVariables false
set_option linter.unusedSimpArgs false
namespace Go.Proofs.YtfmgdjkcdmjloaaGreatDoor
open Go
set_option maxRecDepth 100000
theorem dFact1 : (laidOutB Tryz.prog) = true := by kernel_rfl
theorem dFact5 : ((Rows.fnDotsRow.stops == [])) = true := by kernel_rfl
theorem dFact9 : ((Rows.fnDotsRow.inPlace == Tryz.prog.inPlace 4)) = true := by kernel_rfl
theorem dFact13 : ((Rows.fnDotsRow.maps == (Tryz.f4.params.toList ++ Rows.fnDotsSpec.plain.varTypes Tryz.prog).any (Tryz.prog.mapsRec ·))) = true := by kernel_rfl
theorem dFact17 : ((Rows.fnDotsRow.wideKeys == (Tryz.f4.params.toList ++ Rows.fnDotsSpec.plain.varTypes Tryz.prog ++ Tryz.f4.resultTypes.toList).any (Tryz.prog.wideKeysFrom ·))) = true := by kernel_rfl
theorem dFact21 : ((Rows.fnDotsRow.loopsOut == Tryz.f4.resultTypes.toList.any (Tryz.prog.loopsFrom ·))) = true := by kernel_rfl
theorem dFact25 : (Tryz.prog.mayEnter) = true := by kernel_rfl
theorem dFact29 : ((Rows.fnDotsRow.pinned == Rows.fnDotsRow.pinnedBy)) = true := by kernel_rfl
end Go.Proofs.YtfmgdjkcdmjloaaGreatDoor
