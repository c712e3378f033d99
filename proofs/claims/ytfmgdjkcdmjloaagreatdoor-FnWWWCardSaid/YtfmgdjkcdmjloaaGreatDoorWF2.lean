/- FnWWW: closed facts of the row. -/
import Derived.Test.YtfmgdjkcdmjloaaGreatDoorRows
import Derived.JoinedOf
import Derived.KernelRfl
set_option linter.unusedVariables false
set_option linter.unusedSimpArgs false
namespace Go.Proofs.YtfmgdjkcdmjloaaGreatDoor
open Go
set_option maxRecDepth 100000
theorem wFact2 : (mapsRowed Tryz.prog) = true := by kernel_rfl
theorem wFact6 : ((Tryz.prog.stops == [])) = true := by kernel_rfl
theorem wFact10 : ((Rows.fnWWWRow.unfollowed == Tryz.prog.unfollowed 10)) = true := by kernel_rfl
theorem wFact14 : ((Rows.fnWWWRow.ifaces == (Tryz.f10.params.toList ++ Rows.fnWWWSpec.plain.varTypes Tryz.prog).any (Tryz.prog.ifacesRec ·))) = true := by kernel_rfl
theorem wFact18 : (Rows.fnWWWSpec.vars.all (Tryz.prog.varReadable ·)) = true := by kernel_rfl
theorem wFact22 : ((Rows.fnWWWRow.plainKeys == Tryz.prog.plainKeys)) = true := by kernel_rfl
theorem wFact26 : ((Rows.fnWWWRow.lifted == Tryz.prog.liftsFinal)) = true := by kernel_rfl
theorem wFact30 : ((Rows.fnWWWRow.veiled == (Tryz.f10.params.toList ++ Rows.fnWWWSpec.plain.varTypes Tryz.prog ++ Tryz.f10.resultTypes.toList).any (Tryz.prog.veiledRec ·))) = true := by kernel_rfl
end Go.Proofs.YtfmgdjkcdmjloaaGreatDoor
