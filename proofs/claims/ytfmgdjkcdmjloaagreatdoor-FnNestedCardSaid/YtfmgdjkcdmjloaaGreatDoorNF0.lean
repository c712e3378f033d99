/- FnNested: closed facts of the row. -/
import Derived.Test.YtfmgdjkcdmjloaaGreatDoorRows
import Derived.JoinedOf
import Derived.KernelRfl
set_option linter.unusedVariables false
set_option linter.unusedSimpArgs false
namespace Go.Proofs.YtfmgdjkcdmjloaaGreatDoor
open Go
set_option maxRecDepth 100000
theorem nestedFact0 : (Rows.fnNestedRow.wf (OpenSpec.ofChange Rows.fnNestedSpec)) = true := by kernel_rfl
theorem nestedFact4 : (namedTie Tryz.prog Rows.fnNestedRow.named Rows.fnNestedSpec.vars) = true := by kernel_rfl
theorem nestedFact8 : ((Tryz.prog.stopKnobs == [])) = true := by kernel_rfl
theorem nestedFact12 : ((Rows.fnNestedRow.named == Tryz.prog.varsNamed 8)) = true := by kernel_rfl
theorem nestedFact16 : ((Rows.fnNestedRow.loops == (Tryz.f8.params.toList ++ Rows.fnNestedSpec.plain.varTypes Tryz.prog).any (Tryz.prog.loopsFrom ·))) = true := by kernel_rfl
theorem nestedFact20 : ((Rows.fnNestedRow.ifacesOut == Tryz.f8.resultTypes.toList.any (Tryz.prog.ifacesRec ·))) = true := by kernel_rfl
theorem nestedFact24 : (Tryz.prog.stopsHeard) = true := by kernel_rfl
theorem nestedFact28 : ((Rows.fnNestedRow.kinds == (if Rows.fnNestedRow.domain.isEmpty then [] else Tryz.f8.params.toList.map fun t => match Tryz.prog.underlying t with | some (.int k) => some k | _ => none))) = true := by kernel_rfl
end Go.Proofs.YtfmgdjkcdmjloaaGreatDoor
