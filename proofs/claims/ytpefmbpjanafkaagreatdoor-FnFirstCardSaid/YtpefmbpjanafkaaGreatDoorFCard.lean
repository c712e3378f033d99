/- FnFirst: the tied card. -/
import Derived.Test.YtpefmbpjanafkaaGreatDoorFRow
import Derived.Test.YtpefmbpjanafkaaGreatDoorFK0
import Derived.Test.YtpefmbpjanafkaaGreatDoorFK1
import Derived.Test.YtpefmbpjanafkaaGreatDoorFK2
set_option linter.unusedVariables false
set_option linter.unusedSimpArgs false
namespace Go.Proofs.YtpefmbpjanafkaaGreatDoor
open Go.ChangeMaps Go.ChangeShapes Go.WideShapes Go.ChangeAt Go.RowKit Go.AM
theorem f_card : Rows.FnFirstCardSaid :=
  Claim7.holds_tied_plain_at .later [] [.data, .data, .data, .data, .sentinel, .sentinel, .data, .pinned] true (true, "74bf2e092f3722babcd1a1121cc14b0239e08c0846e625ba6ed199fb5f9c7304") true
    f_row (fun _ h => by cases h) fk0 (fun _ h => by cases h) fnFirst_row_tie rfl ⟨rfl, rfl⟩ fk1 rfl
    (fun f fn hf hfn => by
      obtain rfl : f = 7 := Option.some.inj (fk2.symm.trans hf) |>.symm
      obtain rfl : fn = Tryz.f7 := (Option.some.inj (Tryz.func7.symm.trans hfn)).symm
      exact ⟨fk3, fun j t ht => by
        rw [Tryz.params7] at ht
        have hm : t ∈ [9, 9, 9, 4] := by simpa using Array.mem_of_getElem? ht
        have hm2 : t ∈ [9, 4] := by
          simp only [List.mem_cons, List.mem_nil_iff, or_false] at hm ⊢
          rcases hm with h | h | h | h
          · exact .inl h
          · exact .inl h
          · exact .inl h
          · exact .inr h
        exact (show Tryz.prog.wantsStandIn t = false by simpa using List.all_eq_true.1 fk5 t hm2)⟩)
    fk4
#print axioms f_card
end Go.Proofs.YtpefmbpjanafkaaGreatDoor
