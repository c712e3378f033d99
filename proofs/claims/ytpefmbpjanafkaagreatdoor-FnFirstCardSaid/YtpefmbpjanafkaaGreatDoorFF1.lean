/- FnFirst: closed facts of the row. -/
import Derived.Test.YtpefmbpjanafkaaGreatDoorRows
import Derived.JoinedOf
import Derived.KernelRfl
set_option linter.unusedVariables false
set_option linter.unusedSimpArgs false
namespace Go.Proofs.YtpefmbpjanafkaaGreatDoor
open Go
set_option maxRecDepth 100000
theorem fFact1 : (laidOutB Tryz.prog) = true := by kernel_rfl
theorem fFact5 : ((Rows.fnFirstRow.stops == [])) = true := by kernel_rfl
theorem fFact9 : ((Rows.fnFirstRow.inPlace == Tryz.prog.inPlace 7)) = true := by kernel_rfl
theorem fFact13 : ((Rows.fnFirstRow.maps == (Tryz.f7.params.toList ++ Rows.fnFirstSpec.plain.varTypes Tryz.prog).any (Tryz.prog.mapsRec ·))) = true := by kernel_rfl
theorem fFact17 : ((Rows.fnFirstRow.wideKeys == (Tryz.f7.params.toList ++ Rows.fnFirstSpec.plain.varTypes Tryz.prog ++ Tryz.f7.resultTypes.toList).any (Tryz.prog.wideKeysFrom ·))) = true := by kernel_rfl
theorem fFact21 : ((Rows.fnFirstRow.loopsOut == Tryz.f7.resultTypes.toList.any (Tryz.prog.loopsFrom ·))) = true := by kernel_rfl
theorem fFact25 : (Tryz.prog.mayEnter) = true := by kernel_rfl
theorem fFact29 : ((Rows.fnFirstRow.pinned == Rows.fnFirstRow.pinnedBy)) = true := by kernel_rfl
end Go.Proofs.YtpefmbpjanafkaaGreatDoor
