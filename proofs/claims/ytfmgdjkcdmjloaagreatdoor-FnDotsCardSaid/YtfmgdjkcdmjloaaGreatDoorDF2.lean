/- FnDots: closed facts of the row. -/
import Derived.Test.YtfmgdjkcdmjloaaGreatDoorRows
import Derived.JoinedOf
import Derived.KernelRfl
set_option linter.unusedVariables false
set_option linter.unusedSimpArgs false
namespace Go.Proofs.YtfmgdjkcdmjloaaGreatDoor
open Go
set_option maxRecDepth 100000
theorem dFact2 : (mapsRowed Tryz.prog) = true := by kernel_rfl
theorem dFact6 : ((Tryz.prog.stops == [])) = true := by kernel_rfl
theorem dFact10 : ((Rows.fnDotsRow.unfollowed == Tryz.prog.unfollowed 4)) = true := by kernel_rfl
theorem dFact14 : ((Rows.fnDotsRow.ifaces == (Tryz.f4.params.toList ++ Rows.fnDotsSpec.plain.varTypes Tryz.prog).any (Tryz.prog.ifacesRec ·))) = true := by kernel_rfl
theorem dFact18 : (Rows.fnDotsSpec.vars.all (Tryz.prog.varReadable ·)) = true := by kernel_rfl
theorem dFact22 : ((Rows.fnDotsRow.plainKeys == Tryz.prog.plainKeys)) = true := by kernel_rfl
theorem dFact26 : ((Rows.fnDotsRow.lifted == Tryz.prog.liftsFinal)) = true := by kernel_rfl
theorem dFact30 : ((Rows.fnDotsRow.veiled == (Tryz.f4.params.toList ++ Rows.fnDotsSpec.plain.varTypes Tryz.prog ++ Tryz.f4.resultTypes.toList).any (Tryz.prog.veiledRec ·))) = true := by kernel_rfl
end Go.Proofs.YtfmgdjkcdmjloaaGreatDoor
