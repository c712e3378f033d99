/- FnHeadID: closed facts of the row. -/
import Derived.Test.YtfmgdjkcdmjloaaGreatDoorRows
import Derived.JoinedOf
import Derived.KernelRfl
set_option linter.unusedVariables false
set_option linter.unusedSimpArgs false
namespace Go.Proofs.YtfmgdjkcdmjloaaGreatDoor
open Go
set_option maxRecDepth 100000
theorem hFact1 : (laidOutB Tryz.prog) = true := by kernel_rfl
theorem hFact5 : ((Rows.fnHeadIDRow.stops == [])) = true := by kernel_rfl
theorem hFact9 : ((Rows.fnHeadIDRow.inPlace == Tryz.prog.inPlace 5)) = true := by kernel_rfl
theorem hFact13 : ((Rows.fnHeadIDRow.maps == (Tryz.f5.params.toList ++ Rows.fnHeadIDSpec.plain.varTypes Tryz.prog).any (Tryz.prog.mapsRec ·))) = true := by kernel_rfl
theorem hFact17 : ((Rows.fnHeadIDRow.wideKeys == (Tryz.f5.params.toList ++ Rows.fnHeadIDSpec.plain.varTypes Tryz.prog ++ Tryz.f5.resultTypes.toList).any (Tryz.prog.wideKeysFrom ·))) = true := by kernel_rfl
theorem hFact21 : ((Rows.fnHeadIDRow.loopsOut == Tryz.f5.resultTypes.toList.any (Tryz.prog.loopsFrom ·))) = true := by kernel_rfl
theorem hFact25 : (Tryz.prog.mayEnter) = true := by kernel_rfl
theorem hFact29 : ((Rows.fnHeadIDRow.pinned == Rows.fnHeadIDRow.pinnedBy)) = true := by kernel_rfl
end Go.Proofs.YtfmgdjkcdmjloaaGreatDoor
