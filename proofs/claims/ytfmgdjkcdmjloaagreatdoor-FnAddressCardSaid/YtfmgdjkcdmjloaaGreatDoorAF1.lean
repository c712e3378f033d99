/- FnAddress: closed facts of the row. -/
import Derived.Test.YtfmgdjkcdmjloaaGreatDoorRows
import Derived.JoinedOf
import Derived.KernelRfl
set_option linter.unusedVariables false
set_option linter.unusedSimpArgs false
namespace Go.Proofs.YtfmgdjkcdmjloaaGreatDoor
open Go
set_option maxRecDepth 100000
theorem aFact1 : (laidOutB Tryz.prog) = true := by kernel_rfl
theorem aFact5 : ((Rows.fnAddressRow.stops == [])) = true := by kernel_rfl
theorem aFact9 : ((Rows.fnAddressRow.inPlace == Tryz.prog.inPlace 3)) = true := by kernel_rfl
theorem aFact13 : ((Rows.fnAddressRow.maps == (Tryz.f3.params.toList ++ Rows.fnAddressSpec.plain.varTypes Tryz.prog).any (Tryz.prog.mapsRec ·))) = true := by kernel_rfl
theorem aFact17 : ((Rows.fnAddressRow.wideKeys == (Tryz.f3.params.toList ++ Rows.fnAddressSpec.plain.varTypes Tryz.prog ++ Tryz.f3.resultTypes.toList).any (Tryz.prog.wideKeysFrom ·))) = true := by kernel_rfl
theorem aFact21 : ((Rows.fnAddressRow.loopsOut == Tryz.f3.resultTypes.toList.any (Tryz.prog.loopsFrom ·))) = true := by kernel_rfl
theorem aFact25 : (Tryz.prog.mayEnter) = true := by kernel_rfl
theorem aFact29 : ((Rows.fnAddressRow.pinned == Rows.fnAddressRow.pinnedBy)) = true := by kernel_rfl
end Go.Proofs.YtfmgdjkcdmjloaaGreatDoor
