/- FnDots: closed facts of the row. -/
import Derived.Test.YtfmgdjkcdmjloaaGreatDoorRows
import Derived.JoinedOf
import Derived.KernelRfl
set_option linter.unusedVariables false
set_option linter.unusedSimpArgs false
namespace Go.Proofs.YtfmgdjkcdmjloaaGreatDoor
open Go
set_option maxRecDepth 100000
theorem dFact0 : (Rows.fnDotsRow.wf (OpenSpec.ofChange Rows.fnDotsSpec)) = true := by kernel_rfl
theorem dFact4 : (namedTie Tryz.prog Rows.fnDotsRow.named Rows.fnDotsSpec.vars) = true := by kernel_rfl
theorem dFact8 : ((Tryz.prog.stopKnobs == [])) = true := by kernel_rfl
theorem dFact12 : ((Rows.fnDotsRow.named == Tryz.prog.varsNamed 4)) = true := by kernel_rfl
theorem dFact16 : ((Rows.fnDotsRow.loops == (Tryz.f4.params.toList ++ Rows.fnDotsSpec.plain.varTypes Tryz.prog).any (Tryz.prog.loopsFrom ·))) = true := by kernel_rfl
theorem dFact20 : ((Rows.fnDotsRow.ifacesOut == Tryz.f4.resultTypes.toList.any (Tryz.prog.ifacesRec ·))) = true := by kernel_rfl
theorem dFact24 : (Tryz.prog.stopsHeard) = true := by kernel_rfl
theorem dFact28 : ((Rows.fnDotsRow.kinds == (if Rows.fnDotsRow.domain.isEmpty then [] else Tryz.f4.params.toList.map fun t => match Tryz.prog.underlying t with | some (.int k) => some k | _ => none))) = true := by kernel_rfl
end Go.Proofs.YtfmgdjkcdmjloaaGreatDoor
