/- FnNumeric: closed facts of the row. -/
import Derived.Test.YtfmgdjkcdmjloaaGreatDoorRows
import Derived.JoinedOf
import Derived.KernelRfl
set_option linter.unusedVariables false
set_option linter.unusedSimpArgs false
namespace Go.Proofs.YtfmgdjkcdmjloaaGreatDoor
open Go
set_option maxRecDepth 100000
theorem nFact2 : (mapsRowed Tryz.prog) = true := by kernel_rfl
theorem nFact6 : ((Tryz.prog.stops == [])) = true := by kernel_rfl
theorem nFact10 : ((Rows.fnNumericRow.unfollowed == Tryz.prog.unfollowed 9)) = true := by kernel_rfl
theorem nFact14 : ((Rows.fnNumericRow.ifaces == (Tryz.f9.params.toList ++ Rows.fnNumericSpec.plain.varTypes Tryz.prog).any (Tryz.prog.ifacesRec ·))) = true := by kernel_rfl
theorem nFact18 : (Rows.fnNumericSpec.vars.all (Tryz.prog.varReadable ·)) = true := by kernel_rfl
theorem nFact22 : ((Rows.fnNumericRow.plainKeys == Tryz.prog.plainKeys)) = true := by kernel_rfl
theorem nFact26 : ((Rows.fnNumericRow.lifted == Tryz.prog.liftsFinal)) = true := by kernel_rfl
theorem nFact30 : ((Rows.fnNumericRow.veiled == (Tryz.f9.params.toList ++ Rows.fnNumericSpec.plain.varTypes Tryz.prog ++ Tryz.f9.resultTypes.toList).any (Tryz.prog.veiledRec ·))) = true := by kernel_rfl
end Go.Proofs.YtfmgdjkcdmjloaaGreatDoor
