/- FnInnermost: closed facts of the row. -/
import Derived.Test.YtfmgdjkcdmjloaaGreatDoorRows
import Derived.JoinedOf
import Derived.KernelRfl
set_option linter.unusedVariables false
set_option linter.unusedSimpArgs false
namespace Go.Proofs.YtfmgdjkcdmjloaaGreatDoor
open Go
set_option maxRecDepth 100000
theorem innerFact0 : (Rows.fnInnermostRow.wf (OpenSpec.ofChange Rows.fnInnermostSpec)) = true := by kernel_rfl
theorem innerFact4 : (namedTie Tryz.prog Rows.fnInnermostRow.named Rows.fnInnermostSpec.vars) = true := by kernel_rfl
theorem innerFact8 : ((Tryz.prog.stopKnobs == [])) = true := by kernel_rfl
theorem innerFact12 : ((Rows.fnInnermostRow.named == Tryz.prog.varsNamed 6)) = true := by kernel_rfl
theorem innerFact16 : ((Rows.fnInnermostRow.loops == (Tryz.f6.params.toList ++ Rows.fnInnermostSpec.plain.varTypes Tryz.prog).any (Tryz.prog.loopsFrom ·))) = true := by kernel_rfl
theorem innerFact20 : ((Rows.fnInnermostRow.ifacesOut == Tryz.f6.resultTypes.toList.any (Tryz.prog.ifacesRec ·))) = true := by kernel_rfl
theorem innerFact24 : (Tryz.prog.stopsHeard) = true := by kernel_rfl
theorem innerFact28 : ((Rows.fnInnermostRow.kinds == (if Rows.fnInnermostRow.domain.isEmpty then [] else Tryz.f6.params.toList.map fun t => match Tryz.prog.underlying t with | some (.int k) => some k | _ => none))) = true := by kernel_rfl
end Go.Proofs.YtfmgdjkcdmjloaaGreatDoor
