/- FnFirst: closed facts of the row. -/
import Derived.Test.YtpefmbpjanafkaaGreatDoorRows
import Derived.JoinedOf
import Derived.KernelRfl
set_option linter.unusedVariables false
set_option linter.unusedSimpArgs false
namespace Go.Proofs.YtpefmbpjanafkaaGreatDoor
open Go
set_option maxRecDepth 100000
theorem fFact2 : (mapsRowed Tryz.prog) = true := by kernel_rfl
theorem fFact6 : ((Tryz.prog.stops == [])) = true := by kernel_rfl
theorem fFact10 : ((Rows.fnFirstRow.unfollowed == Tryz.prog.unfollowed 7)) = true := by kernel_rfl
theorem fFact14 : ((Rows.fnFirstRow.ifaces == (Tryz.f7.params.toList ++ Rows.fnFirstSpec.plain.varTypes Tryz.prog).any (Tryz.prog.ifacesRec ·))) = true := by kernel_rfl
theorem fFact18 : (Rows.fnFirstSpec.vars.all (Tryz.prog.varReadable ·)) = true := by kernel_rfl
theorem fFact22 : ((Rows.fnFirstRow.plainKeys == Tryz.prog.plainKeys)) = true := by kernel_rfl
theorem fFact26 : ((Rows.fnFirstRow.lifted == Tryz.prog.liftsFinal)) = true := by kernel_rfl
theorem fFact30 : ((Rows.fnFirstRow.veiled == (Tryz.f7.params.toList ++ Rows.fnFirstSpec.plain.varTypes Tryz.prog ++ Tryz.f7.resultTypes.toList).any (Tryz.prog.veiledRec ·))) = true := by kernel_rfl
end Go.Proofs.YtpefmbpjanafkaaGreatDoor
