/- FnLink at a destination and a title. -/
import Derived.Test.YtfmgdjkcdmjloaaGreatDoorLTab
set_option linter.unusedVariables false
set_option linter.unusedSimpArgs false
namespace Go.Proofs.YtfmgdjkcdmjloaaGreatDoor
open Go.AM
theorem link2 : okB (goL (.sstr [wrd 4 1 60]) true) = true := by kernel_rfl
end Go.Proofs.YtfmgdjkcdmjloaaGreatDoor
