/- FnAddress: closed facts of the row. -/
import Derived.Test.YtfmgdjkcdmjloaaGreatDoorRows
import Derived.JoinedOf
import Derived.KernelRfl
set_option linter.unusedVariables false
set_option linter.unusedSimpArgs false
namespace Go.Proofs.YtfmgdjkcdmjloaaGreatDoor
open Go
set_option maxRecDepth 100000
theorem aFact3 : (Tryz.f3.params.all (Tryz.prog.readableRec ·)) = true := by kernel_rfl
theorem aFact7 : ((Rows.fnAddressRow.knobs == [])) = true := by kernel_rfl
theorem aFact11 : ((Rows.fnAddressRow.recurses == Tryz.prog.recurses 3)) = true := by kernel_rfl
theorem aFact15 : ((Rows.fnAddressRow.mapsOut == Tryz.prog.mapsAmong Tryz.f3.resultTypes.toList)) = true := by kernel_rfl
theorem aFact19 : (Tryz.f3.resultTypes.all (fun t => Tryz.prog.readableRec t && decide (t < Tryz.prog.types.size))) = true := by kernel_rfl
theorem aFact23 : (Rows.fnAddressRow.shortTexts.isNone) = true := by kernel_rfl
theorem aFact27 : ((Tryz.prog.make == some Rows.fnAddressRow.make)) = true := by kernel_rfl
theorem aFact31 : (Rows.fnAddressRow.veiledFits Tryz.prog Tryz.f3.params.toList (Tryz.f3.params.toList ++ Rows.fnAddressSpec.plain.varTypes Tryz.prog ++ Tryz.f3.resultTypes.toList)) = true := by kernel_rfl
end Go.Proofs.YtfmgdjkcdmjloaaGreatDoor
