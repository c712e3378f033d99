/- FnNested: closed facts of the row. -/
import Derived.Test.YtfmgdjkcdmjloaaGreatDoorRows
import Derived.JoinedOf
import Derived.KernelRfl
set_option linter.unusedVariables false
set_option linter.unusedSimpArgs false
namespace Go.Proofs.YtfmgdjkcdmjloaaGreatDoor
open Go
set_option maxRecDepth 100000
theorem nestedFact2 : (mapsRowed Tryz.prog) = true := by kernel_rfl
theorem nestedFact6 : ((Tryz.prog.stops == [])) = true := by kernel_rfl
theorem nestedFact10 : ((Rows.fnNestedRow.unfollowed == Tryz.prog.unfollowed 8)) = true := by kernel_rfl
theorem nestedFact14 : ((Rows.fnNestedRow.ifaces == (Tryz.f8.params.toList ++ Rows.fnNestedSpec.plain.varTypes Tryz.prog).any (Tryz.prog.ifacesRec ·))) = true := by kernel_rfl
theorem nestedFact18 : (Rows.fnNestedSpec.vars.all (Tryz.prog.varReadable ·)) = true := by kernel_rfl
theorem nestedFact22 : ((Rows.fnNestedRow.plainKeys == Tryz.prog.plainKeys)) = true := by kernel_rfl
theorem nestedFact26 : ((Rows.fnNestedRow.lifted == Tryz.prog.liftsFinal)) = true := by kernel_rfl
theorem nestedFact30 : ((Rows.fnNestedRow.veiled == (Tryz.f8.params.toList ++ Rows.fnNestedSpec.plain.varTypes Tryz.prog ++ Tryz.f8.resultTypes.toList).any (Tryz.prog.veiledRec ·))) = true := by kernel_rfl
end Go.Proofs.YtfmgdjkcdmjloaaGreatDoor
