/- FnLink at a destination and a title. -/
import Derived.Test.YtfmgdjkcdmjloaaGreatDoorLTab
set_option linter.unusedVariables false
set_option linter.unusedSimpArgs false
namespace Go.Proofs.YtfmgdjkcdmjloaaGreatDoor
open Go.AM
theorem link1 : okB (goL (.str []) false) = true := by kernel_rfl
end Go.Proofs.YtfmgdjkcdmjloaaGreatDoor
