/- FnLink: closed facts of the row. -/
import Derived.Test.YtfmgdjkcdmjloaaGreatDoorRows
import Derived.JoinedOf
import Derived.KernelRfl
set_option linter.unusedVariables false
set_option linter.unusedSimpArgs false
namespace Go.Proofs.YtfmgdjkcdmjloaaGreatDoor
open Go
set_option maxRecDepth 100000
theorem lFact0 : (Rows.fnLinkRow.wf (OpenSpec.ofChange Rows.fnLinkSpec)) = true := by kernel_rfl
theorem lFact4 : (namedTie Tryz.prog Rows.fnLinkRow.named Rows.fnLinkSpec.vars) = true := by kernel_rfl
theorem lFact8 : ((Tryz.prog.stopKnobs == [])) = true := by kernel_rfl
theorem lFact12 : ((Rows.fnLinkRow.named == Tryz.prog.varsNamed 7)) = true := by kernel_rfl
theorem lFact16 : ((Rows.fnLinkRow.loops == (Tryz.f7.params.toList ++ Rows.fnLinkSpec.plain.varTypes Tryz.prog).any (Tryz.prog.loopsFrom ·))) = true := by kernel_rfl
theorem lFact20 : ((Rows.fnLinkRow.ifacesOut == Tryz.f7.resultTypes.toList.any (Tryz.prog.ifacesRec ·))) = true := by kernel_rfl
theorem lFact24 : (Tryz.prog.stopsHeard) = true := by kernel_rfl
theorem lFact28 : ((Rows.fnLinkRow.kinds == (if Rows.fnLinkRow.domain.isEmpty then [] else Tryz.f7.params.toList.map fun t => match Tryz.prog.underlying t with | some (.int k) => some k | _ => none))) = true := by kernel_rfl
end Go.Proofs.YtfmgdjkcdmjloaaGreatDoor
