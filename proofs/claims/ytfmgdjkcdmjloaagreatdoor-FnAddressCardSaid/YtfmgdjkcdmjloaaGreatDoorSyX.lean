/- The abstract machine at this seat's program. -/
import Derived.Test.YtfmgdjkcdmjloaaGreatDoorSyT
import Derived.Test.YtfmgdjkcdmjloaaGreatDoorRows
import Derived.KernelRfl
set_option linter.unusedVariables false
set_option linter.unusedSimpArgs false
namespace Go.Proofs.YtfmgdjkcdmjloaaGreatDoor
open Go.AM
noncomputable def X0 : Env := Env.mk Tryz.prog (fun _ _ _ => none) (fun _ => none) (fun _ _ _ => none) (hasBody Tryz.prog)
theorem mixed0 : Tryz.prog.follows .mixedOrders = true := by kernel_rfl
theorem envMk {P : Program} (h : P.follows .mixedOrders = true) (s g l) : EnvOK (Env.mk P s g l (hasBody P)) := ⟨fun _ hf args w => hasBody_enter hf args w, h⟩
theorem env0 : EnvOK X0 := envMk mixed0 _ _ _
end Go.Proofs.YtfmgdjkcdmjloaaGreatDoor
