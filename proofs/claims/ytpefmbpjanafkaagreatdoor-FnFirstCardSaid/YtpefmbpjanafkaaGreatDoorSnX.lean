/- The abstract machine at this seat's program. -/
import Derived.Test.YtpefmbpjanafkaaGreatDoorSnT
import Derived.Test.YtpefmbpjanafkaaGreatDoorRows
import Derived.KernelRfl
set_option linter.unusedVariables false
set_option linter.unusedSimpArgs false
namespace Go.Proofs.YtpefmbpjanafkaaGreatDoor
open Go.AM
/-- The cells of htmlEntities. -/
noncomputable def g1 : List AV := [.str [38, 97, 109, 112, 59], .str [38], .str [38, 97, 112, 111, 115, 59], .str [39], .str [38, 99, 111, 112, 121, 59], .str [194, 169], .str [38, 102, 114, 97, 99, 51, 52, 59], .str [194, 190], .str [38, 103, 116, 59], .str [62], .str [38, 104, 101, 108, 108, 105, 112, 59], .str [226, 128, 166], .str [38, 108, 116, 59], .str [60], .str [38, 109, 100, 97, 115, 104, 59], .str [226, 128, 148], .str [38, 110, 98, 115, 112, 59], .str [194, 160], .str [38, 110, 100, 97, 115, 104, 59], .str [226, 128, 147], .str [38, 113, 117, 111, 116, 59], .str [34], .str [38, 114, 101, 103, 59], .str [194, 174]]
noncomputable def glob0 : Nat → Option (List AV)
  | 1 => some g1
  | _ => none
noncomputable def X0 : Env := Env.mk Tryz.prog (fun _ _ _ => none) glob0 (fun _ _ _ => none) (hasBody Tryz.prog)
theorem mixed0 : Tryz.prog.follows .mixedOrders = true := by kernel_rfl
theorem envMk {P : Program} (h : P.follows .mixedOrders = true) (s g l) : EnvOK (Env.mk P s g l (hasBody P)) := ⟨fun _ hf args w => hasBody_enter hf args w, h⟩
theorem env0 : EnvOK X0 := envMk mixed0 _ _ _
end Go.Proofs.YtpefmbpjanafkaaGreatDoor
