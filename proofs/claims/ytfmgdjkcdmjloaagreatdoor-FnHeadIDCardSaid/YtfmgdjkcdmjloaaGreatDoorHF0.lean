/- FnHeadID: closed facts of the row. -/
import Derived.Test.YtfmgdjkcdmjloaaGreatDoorRows
import Derived.JoinedOf
import Derived.KernelRfl
set_option linter.unusedVariables false
set_option linter.unusedSimpArgs false
namespace Go.Proofs.YtfmgdjkcdmjloaaGreatDoor
open Go
set_option maxRecDepth 100000
theorem hFact0 : (Rows.fnHeadIDRow.wf (OpenSpec.ofChange Rows.fnHeadIDSpec)) = true := by kernel_rfl
theorem hFact4 : (namedTie Tryz.prog Rows.fnHeadIDRow.named Rows.fnHeadIDSpec.vars) = true := by kernel_rfl
theorem hFact8 : ((Tryz.prog.stopKnobs == [])) = true := by kernel_rfl
theorem hFact12 : ((Rows.fnHeadIDRow.named == Tryz.prog.varsNamed 5)) = true := by kernel_rfl
theorem hFact16 : ((Rows.fnHeadIDRow.loops == (Tryz.f5.params.toList ++ Rows.fnHeadIDSpec.plain.varTypes Tryz.prog).any (Tryz.prog.loopsFrom ·))) = true := by kernel_rfl
theorem hFact20 : ((Rows.fnHeadIDRow.ifacesOut == Tryz.f5.resultTypes.toList.any (Tryz.prog.ifacesRec ·))) = true := by kernel_rfl
theorem hFact24 : (Tryz.prog.stopsHeard) = true := by kernel_rfl
theorem hFact28 : ((Rows.fnHeadIDRow.kinds == (if Rows.fnHeadIDRow.domain.isEmpty then [] else Tryz.f5.params.toList.map fun t => match Tryz.prog.underlying t with | some (.int k) => some k | _ => none))) = true := by kernel_rfl
end Go.Proofs.YtfmgdjkcdmjloaaGreatDoor
