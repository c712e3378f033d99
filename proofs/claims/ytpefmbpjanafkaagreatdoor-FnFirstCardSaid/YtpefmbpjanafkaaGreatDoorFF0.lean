/- FnFirst: closed facts of the row. -/
import Derived.Test.YtpefmbpjanafkaaGreatDoorRows
import Derived.JoinedOf
import Derived.KernelRfl
set_option linter.unusedVariables false
set_option linter.unusedSimpArgs false
namespace Go.Proofs.YtpefmbpjanafkaaGreatDoor
open Go
set_option maxRecDepth 100000
theorem fFact0 : (Rows.fnFirstRow.wf (OpenSpec.ofChange Rows.fnFirstSpec)) = true := by kernel_rfl
theorem fFact4 : (namedTie Tryz.prog Rows.fnFirstRow.named Rows.fnFirstSpec.vars) = true := by kernel_rfl
theorem fFact8 : ((Tryz.prog.stopKnobs == [])) = true := by kernel_rfl
theorem fFact12 : ((Rows.fnFirstRow.named == Tryz.prog.varsNamed 7)) = true := by kernel_rfl
theorem fFact16 : ((Rows.fnFirstRow.loops == (Tryz.f7.params.toList ++ Rows.fnFirstSpec.plain.varTypes Tryz.prog).any (Tryz.prog.loopsFrom ·))) = true := by kernel_rfl
theorem fFact20 : ((Rows.fnFirstRow.ifacesOut == Tryz.f7.resultTypes.toList.any (Tryz.prog.ifacesRec ·))) = true := by kernel_rfl
theorem fFact24 : (Tryz.prog.stopsHeard) = true := by kernel_rfl
theorem fFact28 : ((Rows.fnFirstRow.kinds == (if Rows.fnFirstRow.domain.isEmpty then [] else Tryz.f7.params.toList.map fun t => match Tryz.prog.underlying t with | some (.int k) => some k | _ => none))) = true := by kernel_rfl
end Go.Proofs.YtpefmbpjanafkaaGreatDoor
