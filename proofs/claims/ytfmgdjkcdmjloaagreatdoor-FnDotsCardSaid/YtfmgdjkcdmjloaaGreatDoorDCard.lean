/- FnDots: the tied card. -/
import Derived.Test.YtfmgdjkcdmjloaaGreatDoorDRow
import Derived.Test.YtfmgdjkcdmjloaaGreatDoorTie
import Derived.Test.YtfmgdjkcdmjloaaGreatDoorCards
set_option linter.unusedVariables false
set_option linter.unusedSimpArgs false
namespace Go.Proofs.YtfmgdjkcdmjloaaGreatDoor
open Go.ChangeMaps Go.ChangeShapes Go.WideShapes Go.ChangeAt Go.RowKit Go.AM
theorem d_card : Rows.FnDotsCardSaid :=
  Claim7.holds_tied_plain_at .later [] [.data, .data, .data, .data, .sentinel, .sentinel, .data, .pinned] true (true, "5d0112a4d31c45c9a6c59f6cf5b513aa99900bb9657a26e038751aa8b31d6dd9") true
    d_row (fun _ h => by cases h) (by kernel_rfl) (fun _ h => by cases h) fnDots_row_tie rfl ⟨rfl, rfl⟩ (by kernel_rfl) rfl
    (fun f fn hf hfn => by
      obtain rfl : f = 4 := Option.some.inj ((show Tryz.prog.funcNamed "pub-paratext/laws.FnDots" = some 4 by kernel_rfl).symm.trans hf) |>.symm
      obtain rfl : fn = Tryz.f4 := (Option.some.inj (Tryz.func4.symm.trans hfn)).symm
      exact ⟨by kernel_rfl, fun j t ht => by
        rw [Tryz.params4] at ht
        have hm : t ∈ [9] := by simpa using Array.mem_of_getElem? ht
        have hall : ([9].all fun u => !Tryz.prog.wantsStandIn u) = true := by kernel_rfl
        exact (show Tryz.prog.wantsStandIn t = false by simpa using List.all_eq_true.1 hall t hm)⟩)
    (by kernel_rfl)
#print axioms d_card
end Go.Proofs.YtfmgdjkcdmjloaaGreatDoor
