/- FnAddress: closed facts of the row. -/
import Derived.Test.YtfmgdjkcdmjloaaGreatDoorRows
import Derived.JoinedOf
import Derived.KernelRfl
set_option linter.unusedVariables false
set_option linter.unusedSimpArgs false
namespace Go.Proofs.YtfmgdjkcdmjloaaGreatDoor
open Go
set_option maxRecDepth 100000
theorem aFact2 : (mapsRowed Tryz.prog) = true := by kernel_rfl
theorem aFact6 : ((Tryz.prog.stops == [])) = true := by kernel_rfl
theorem aFact10 : ((Rows.fnAddressRow.unfollowed == Tryz.prog.unfollowed 3)) = true := by kernel_rfl
theorem aFact14 : ((Rows.fnAddressRow.ifaces == (Tryz.f3.params.toList ++ Rows.fnAddressSpec.plain.varTypes Tryz.prog).any (Tryz.prog.ifacesRec ·))) = true := by kernel_rfl
theorem aFact18 : (Rows.fnAddressSpec.vars.all (Tryz.prog.varReadable ·)) = true := by kernel_rfl
theorem aFact22 : ((Rows.fnAddressRow.plainKeys == Tryz.prog.plainKeys)) = true := by kernel_rfl
theorem aFact26 : ((Rows.fnAddressRow.lifted == Tryz.prog.liftsFinal)) = true := by kernel_rfl
theorem aFact30 : ((Rows.fnAddressRow.veiled == (Tryz.f3.params.toList ++ Rows.fnAddressSpec.plain.varTypes Tryz.prog ++ Tryz.f3.resultTypes.toList).any (Tryz.prog.veiledRec ·))) = true := by kernel_rfl
end Go.Proofs.YtfmgdjkcdmjloaaGreatDoor
