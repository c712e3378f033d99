/- FnNumeric: closed facts of the row. -/
import Derived.Test.YtfmgdjkcdmjloaaGreatDoorRows
import Derived.JoinedOf
import Derived.KernelRfl
set_option linter.unusedVariables false
set_option linter.unusedSimpArgs false
namespace Go.Proofs.YtfmgdjkcdmjloaaGreatDoor
open Go
set_option maxRecDepth 100000
theorem nFact0 : (Rows.fnNumericRow.wf (OpenSpec.ofChange Rows.fnNumericSpec)) = true := by kernel_rfl
theorem nFact4 : (namedTie Tryz.prog Rows.fnNumericRow.named Rows.fnNumericSpec.vars) = true := by kernel_rfl
theorem nFact8 : ((Tryz.prog.stopKnobs == [])) = true := by kernel_rfl
theorem nFact12 : ((Rows.fnNumericRow.named == Tryz.prog.varsNamed 9)) = true := by kernel_rfl
theorem nFact16 : ((Rows.fnNumericRow.loops == (Tryz.f9.params.toList ++ Rows.fnNumericSpec.plain.varTypes Tryz.prog).any (Tryz.prog.loopsFrom ·))) = true := by kernel_rfl
theorem nFact20 : ((Rows.fnNumericRow.ifacesOut == Tryz.f9.resultTypes.toList.any (Tryz.prog.ifacesRec ·))) = true := by kernel_rfl
theorem nFact24 : (Tryz.prog.stopsHeard) = true := by kernel_rfl
theorem nFact28 : ((Rows.fnNumericRow.kinds == (if Rows.fnNumericRow.domain.isEmpty then [] else Tryz.f9.params.toList.map fun t => match Tryz.prog.underlying t with | some (.int k) => some k | _ => none))) = true := by kernel_rfl
end Go.Proofs.YtfmgdjkcdmjloaaGreatDoor
