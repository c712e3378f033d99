/- FnLink: closed facts of the row. -/
import Derived.Test.YtfmgdjkcdmjloaaGreatDoorRows
import Derived.JoinedOf
import Derived.KernelRfl
set_option linter.unusedVariables false
set_option linter.unusedSimpArgs false
namespace Go.Proofs.YtfmgdjkcdmjloaaGreatDoor
open Go
set_option maxRecDepth 100000
theorem lFact1 : (laidOutB Tryz.prog) = true := by kernel_rfl
theorem lFact5 : ((Rows.fnLinkRow.stops == [])) = true := by kernel_rfl
theorem lFact9 : ((Rows.fnLinkRow.inPlace == Tryz.prog.inPlace 7)) = true := by kernel_rfl
theorem lFact13 : ((Rows.fnLinkRow.maps == (Tryz.f7.params.toList ++ Rows.fnLinkSpec.plain.varTypes Tryz.prog).any (Tryz.prog.mapsRec ·))) = true := by kernel_rfl
theorem lFact17 : ((Rows.fnLinkRow.wideKeys == (Tryz.f7.params.toList ++ Rows.fnLinkSpec.plain.varTypes Tryz.prog ++ Tryz.f7.resultTypes.toList).any (Tryz.prog.wideKeysFrom ·))) = true := by kernel_rfl
theorem lFact21 : ((Rows.fnLinkRow.loopsOut == Tryz.f7.resultTypes.toList.any (Tryz.prog.loopsFrom ·))) = true := by kernel_rfl
theorem lFact25 : (Tryz.prog.mayEnter) = true := by kernel_rfl
theorem lFact29 : ((Rows.fnLinkRow.pinned == Rows.fnLinkRow.pinnedBy)) = true := by kernel_rfl
end Go.Proofs.YtfmgdjkcdmjloaaGreatDoor
