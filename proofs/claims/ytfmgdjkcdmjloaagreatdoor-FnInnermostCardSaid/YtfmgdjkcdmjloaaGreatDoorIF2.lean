/- FnInnermost: closed facts of the row. -/
import Derived.Test.YtfmgdjkcdmjloaaGreatDoorRows
import Derived.JoinedOf
import Derived.KernelRfl
set_option linter.unusedVariables false
set_option linter.unusedSimpArgs false
namespace Go.Proofs.YtfmgdjkcdmjloaaGreatDoor
open Go
set_option maxRecDepth 100000
theorem innerFact2 : (mapsRowed Tryz.prog) = true := by kernel_rfl
theorem innerFact6 : ((Tryz.prog.stops == [])) = true := by kernel_rfl
theorem innerFact10 : ((Rows.fnInnermostRow.unfollowed == Tryz.prog.unfollowed 6)) = true := by kernel_rfl
theorem innerFact14 : ((Rows.fnInnermostRow.ifaces == (Tryz.f6.params.toList ++ Rows.fnInnermostSpec.plain.varTypes Tryz.prog).any (Tryz.prog.ifacesRec ·))) = true := by kernel_rfl
theorem innerFact18 : (Rows.fnInnermostSpec.vars.all (Tryz.prog.varReadable ·)) = true := by kernel_rfl
theorem innerFact22 : ((Rows.fnInnermostRow.plainKeys == Tryz.prog.plainKeys)) = true := by kernel_rfl
theorem innerFact26 : ((Rows.fnInnermostRow.lifted == Tryz.prog.liftsFinal)) = true := by kernel_rfl
theorem innerFact30 : ((Rows.fnInnermostRow.veiled == (Tryz.f6.params.toList ++ Rows.fnInnermostSpec.plain.varTypes Tryz.prog ++ Tryz.f6.resultTypes.toList).any (Tryz.prog.veiledRec ·))) = true := by kernel_rfl
end Go.Proofs.YtfmgdjkcdmjloaaGreatDoor
