/- FnHeadID: closed facts of the row. -/
import Derived.Test.YtfmgdjkcdmjloaaGreatDoorRows
import Derived.JoinedOf
import Derived.KernelRfl
set_option linter.unusedVariables false
set_option linter.unusedSimpArgs false
namespace Go.Proofs.YtfmgdjkcdmjloaaGreatDoor
open Go
set_option maxRecDepth 100000
theorem hFact2 : (mapsRowed Tryz.prog) = true := by kernel_rfl
theorem hFact6 : ((Tryz.prog.stops == [])) = true := by kernel_rfl
theorem hFact10 : ((Rows.fnHeadIDRow.unfollowed == Tryz.prog.unfollowed 5)) = true := by kernel_rfl
theorem hFact14 : ((Rows.fnHeadIDRow.ifaces == (Tryz.f5.params.toList ++ Rows.fnHeadIDSpec.plain.varTypes Tryz.prog).any (Tryz.prog.ifacesRec ·))) = true := by kernel_rfl
theorem hFact18 : (Rows.fnHeadIDSpec.vars.all (Tryz.prog.varReadable ·)) = true := by kernel_rfl
theorem hFact22 : ((Rows.fnHeadIDRow.plainKeys == Tryz.prog.plainKeys)) = true := by kernel_rfl
theorem hFact26 : ((Rows.fnHeadIDRow.lifted == Tryz.prog.liftsFinal)) = true := by kernel_rfl
theorem hFact30 : ((Rows.fnHeadIDRow.veiled == (Tryz.f5.params.toList ++ Rows.fnHeadIDSpec.plain.varTypes Tryz.prog ++ Tryz.f5.resultTypes.toList).any (Tryz.prog.veiledRec ·))) = true := by kernel_rfl
end Go.Proofs.YtfmgdjkcdmjloaaGreatDoor
