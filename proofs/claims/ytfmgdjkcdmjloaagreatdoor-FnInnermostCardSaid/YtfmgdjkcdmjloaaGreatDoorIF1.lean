/- FnInnermost: closed facts of the row. -/
import Derived.Test.YtfmgdjkcdmjloaaGreatDoorRows
import Derived.JoinedOf
import Derived.KernelRfl
set_option linter.unusedVariables false
set_option linter.unusedSimpArgs false
namespace Go.Proofs.YtfmgdjkcdmjloaaGreatDoor
open Go
set_option maxRecDepth 100000
theorem innerFact1 : (laidOutB Tryz.prog) = true := by kernel_rfl
theorem innerFact5 : ((Rows.fnInnermostRow.stops == [])) = true := by kernel_rfl
theorem innerFact9 : ((Rows.fnInnermostRow.inPlace == Tryz.prog.inPlace 6)) = true := by kernel_rfl
theorem innerFact13 : ((Rows.fnInnermostRow.maps == (Tryz.f6.params.toList ++ Rows.fnInnermostSpec.plain.varTypes Tryz.prog).any (Tryz.prog.mapsRec ·))) = true := by kernel_rfl
theorem innerFact17 : ((Rows.fnInnermostRow.wideKeys == (Tryz.f6.params.toList ++ Rows.fnInnermostSpec.plain.varTypes Tryz.prog ++ Tryz.f6.resultTypes.toList).any (Tryz.prog.wideKeysFrom ·))) = true := by kernel_rfl
theorem innerFact21 : ((Rows.fnInnermostRow.loopsOut == Tryz.f6.resultTypes.toList.any (Tryz.prog.loopsFrom ·))) = true := by kernel_rfl
theorem innerFact25 : (Tryz.prog.mayEnter) = true := by kernel_rfl
theorem innerFact29 : ((Rows.fnInnermostRow.pinned == Rows.fnInnermostRow.pinnedBy)) = true := by kernel_rfl
end Go.Proofs.YtfmgdjkcdmjloaaGreatDoor
