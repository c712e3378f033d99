/- FnAddress: closed facts of the row. -/
import Derived.Test.YtfmgdjkcdmjloaaGreatDoorRows
import Derived.JoinedOf
import Derived.KernelRfl
set_option linter.unusedVariables false
set_option linter.unusedSimpArgs false
namespace Go.Proofs.YtfmgdjkcdmjloaaGreatDoor
open Go
set_option maxRecDepth 100000
theorem aFact0 : (Rows.fnAddressRow.wf (OpenSpec.ofChange Rows.fnAddressSpec)) = true := by kernel_rfl
theorem aFact4 : (namedTie Tryz.prog Rows.fnAddressRow.named Rows.fnAddressSpec.vars) = true := by kernel_rfl
theorem aFact8 : ((Tryz.prog.stopKnobs == [])) = true := by kernel_rfl
theorem aFact12 : ((Rows.fnAddressRow.named == Tryz.prog.varsNamed 3)) = true := by kernel_rfl
theorem aFact16 : ((Rows.fnAddressRow.loops == (Tryz.f3.params.toList ++ Rows.fnAddressSpec.plain.varTypes Tryz.prog).any (Tryz.prog.loopsFrom ·))) = true := by kernel_rfl
theorem aFact20 : ((Rows.fnAddressRow.ifacesOut == Tryz.f3.resultTypes.toList.any (Tryz.prog.ifacesRec ·))) = true := by kernel_rfl
theorem aFact24 : (Tryz.prog.stopsHeard) = true := by kernel_rfl
theorem aFact28 : ((Rows.fnAddressRow.kinds == (if Rows.fnAddressRow.domain.isEmpty then [] else Tryz.f3.params.toList.map fun t => match Tryz.prog.underlying t with | some (.int k) => some k | _ => none))) = true := by kernel_rfl
end Go.Proofs.YtfmgdjkcdmjloaaGreatDoor
