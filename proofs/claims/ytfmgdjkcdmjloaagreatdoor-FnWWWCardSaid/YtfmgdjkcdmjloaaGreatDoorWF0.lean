/- FnWWW: closed facts of the row. -/
import Derived.Test.YtfmgdjkcdmjloaaGreatDoorRows
import Derived.JoinedOf
import Derived.KernelRfl
set_option linter.unusedVariables false
set_option linter.unusedSimpArgs false
namespace Go.Proofs.YtfmgdjkcdmjloaaGreatDoor
open Go
set_option maxRecDepth 100000
theorem wFact0 : (Rows.fnWWWRow.wf (OpenSpec.ofChange Rows.fnWWWSpec)) = true := by kernel_rfl
theorem wFact4 : (namedTie Tryz.prog Rows.fnWWWRow.named Rows.fnWWWSpec.vars) = true := by kernel_rfl
theorem wFact8 : ((Tryz.prog.stopKnobs == [])) = true := by kernel_rfl
theorem wFact12 : ((Rows.fnWWWRow.named == Tryz.prog.varsNamed 10)) = true := by kernel_rfl
theorem wFact16 : ((Rows.fnWWWRow.loops == (Tryz.f10.params.toList ++ Rows.fnWWWSpec.plain.varTypes Tryz.prog).any (Tryz.prog.loopsFrom ·))) = true := by kernel_rfl
theorem wFact20 : ((Rows.fnWWWRow.ifacesOut == Tryz.f10.resultTypes.toList.any (Tryz.prog.ifacesRec ·))) = true := by kernel_rfl
theorem wFact24 : (Tryz.prog.stopsHeard) = true := by kernel_rfl
theorem wFact28 : ((Rows.fnWWWRow.kinds == (if Rows.fnWWWRow.domain.isEmpty then [] else Tryz.f10.params.toList.map fun t => match Tryz.prog.underlying t with | some (.int k) => some k | _ => none))) = true := by kernel_rfl
end Go.Proofs.YtfmgdjkcdmjloaaGreatDoor
