/- FnWWW: closed facts of the row. -/
import Derived.Test.YtfmgdjkcdmjloaaGreatDoorRows
import Derived.JoinedOf
import Derived.KernelRfl
set_option linter.unusedVariables false
set_option linter.unusedSimpArgs false
namespace Go.Proofs.YtfmgdjkcdmjloaaGreatDoor
open Go
set_option maxRecDepth 100000
theorem wFact1 : (laidOutB Tryz.prog) = true := by kernel_rfl
theorem wFact5 : ((Rows.fnWWWRow.stops == [])) = true := by kernel_rfl
theorem wFact9 : ((Rows.fnWWWRow.inPlace == Tryz.prog.inPlace 10)) = true := by kernel_rfl
theorem wFact13 : ((Rows.fnWWWRow.maps == (Tryz.f10.params.toList ++ Rows.fnWWWSpec.plain.varTypes Tryz.prog).any (Tryz.prog.mapsRec ·))) = true := by kernel_rfl
theorem wFact17 : ((Rows.fnWWWRow.wideKeys == (Tryz.f10.params.toList ++ Rows.fnWWWSpec.plain.varTypes Tryz.prog ++ Tryz.f10.resultTypes.toList).any (Tryz.prog.wideKeysFrom ·))) = true := by kernel_rfl
theorem wFact21 : ((Rows.fnWWWRow.loopsOut == Tryz.f10.resultTypes.toList.any (Tryz.prog.loopsFrom ·))) = true := by kernel_rfl
theorem wFact25 : (Tryz.prog.mayEnter) = true := by kernel_rfl
theorem wFact29 : ((Rows.fnWWWRow.pinned == Rows.fnWWWRow.pinnedBy)) = true := by kernel_rfl
end Go.Proofs.YtfmgdjkcdmjloaaGreatDoor
