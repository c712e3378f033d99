/- FnLink: closed facts of the row. -/
import Derived.Test.YtfmgdjkcdmjloaaGreatDoorRows
import Derived.JoinedOf
import Derived.KernelRfl
set_option linter.unusedVariables false
set_option linter.unusedSimpArgs false
namespace Go.Proofs.YtfmgdjkcdmjloaaGreatDoor
open Go
set_option maxRecDepth 100000
theorem lFact2 : (mapsRowed Tryz.prog) = true := by kernel_rfl
theorem lFact6 : ((Tryz.prog.stops == [])) = true := by kernel_rfl
theorem lFact10 : ((Rows.fnLinkRow.unfollowed == Tryz.prog.unfollowed 7)) = true := by kernel_rfl
theorem lFact14 : ((Rows.fnLinkRow.ifaces == (Tryz.f7.params.toList ++ Rows.fnLinkSpec.plain.varTypes Tryz.prog).any (Tryz.prog.ifacesRec ·))) = true := by kernel_rfl
theorem lFact18 : (Rows.fnLinkSpec.vars.all (Tryz.prog.varReadable ·)) = true := by kernel_rfl
theorem lFact22 : ((Rows.fnLinkRow.plainKeys == Tryz.prog.plainKeys)) = true := by kernel_rfl
theorem lFact26 : ((Rows.fnLinkRow.lifted == Tryz.prog.liftsFinal)) = true := by kernel_rfl
theorem lFact30 : ((Rows.fnLinkRow.veiled == (Tryz.f7.params.toList ++ Rows.fnLinkSpec.plain.varTypes Tryz.prog ++ Tryz.f7.resultTypes.toList).any (Tryz.prog.veiledRec ·))) = true := by kernel_rfl
end Go.Proofs.YtfmgdjkcdmjloaaGreatDoor
