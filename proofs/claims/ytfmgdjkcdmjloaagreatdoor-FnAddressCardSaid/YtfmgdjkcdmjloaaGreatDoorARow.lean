/- FnAddress: the closed facts of the row. -/
import Derived.Test.YtfmgdjkcdmjloaaGreatDoorAF0
import Derived.Test.YtfmgdjkcdmjloaaGreatDoorAF1
import Derived.Test.YtfmgdjkcdmjloaaGreatDoorAF2
import Derived.Test.YtfmgdjkcdmjloaaGreatDoorAF3
import Derived.Test.YtfmgdjkcdmjloaaGreatDoorATop
import Derived.Test.YtfmgdjkcdmjloaaGreatDoorTie
import Derived.Test.YtfmgdjkcdmjloaaGreatDoorCards
set_option linter.unusedVariables false
set_option linter.unusedSimpArgs false
namespace Go.Proofs.YtfmgdjkcdmjloaaGreatDoor
open Go
set_option maxRecDepth 100000
theorem bandF {a b : Bool} (h : a = true) (k : b = true) : (a && b) = true := by rw [h, k]; rfl
theorem aFacts0 : joinedFacts Tryz.prog 3 Tryz.f3 Rows.fnAddressSpec Rows.fnAddressRow = true :=
  (bandF (bandF (bandF (bandF (bandF (bandF (bandF (bandF (bandF (bandF (bandF (bandF (bandF (bandF (bandF (bandF (bandF (bandF (bandF (bandF (bandF (bandF (bandF (bandF (bandF (bandF (bandF (bandF (bandF (bandF (bandF aFact0 aFact1) aFact2) aFact3) aFact4) aFact5) aFact6) aFact7) aFact8) aFact9) aFact10) aFact11) aFact12) aFact13) aFact14) aFact15) aFact16) aFact17) aFact18) aFact19) aFact20) aFact21) aFact22) aFact23) aFact24) aFact25) aFact26) aFact27) aFact28) aFact29) aFact30) aFact31)
theorem aFacts : joinedFacts Tryz.pinned.checked.prog 3 Tryz.f3 Rows.fnAddressSpec Rows.fnAddressRow = true := aFacts0
end Go.Proofs.YtfmgdjkcdmjloaaGreatDoor
/- FnAddress: the row. -/
namespace Go.Proofs.YtfmgdjkcdmjloaaGreatDoor
open Go.ChangeMaps Go.ChangeShapes Go.WideShapes Go.ChangeAt Go.RowKit Go.AM
theorem aOwn : ownKnob Tryz.prog.godebug = none := by kernel_rfl
set_option maxRecDepth 100000 in
theorem a_lifted (os : Os) (started : os.Started) (H : Type) (enc : TypeId × Value → H) :
    ReturnsInHanded {} Tryz.checked os 3 .any (fun w args => (Rows.fnAddressSpec.pre enc Tryz.prog Tryz.f3 [] false w args ∧ laidMetH Tryz.prog Rows.fnAddressRow.laid w) ∧ sizedMet enc Tryz.prog Tryz.f3 (OpenSpec.ofChange Rows.fnAddressSpec) false w args)
      (Rows.fnAddressSpec.post enc Tryz.prog Tryz.f3 false true false false) := by
  refine returnsInHanded_of_change_and (C := Tryz.checked) (X := fun w _ => laidMetH Tryz.prog Rows.fnAddressRow.laid w) (fun _ _ _ hh h => h.of_heap hh) aOwn started (by kernel_rfl) Tryz.func3
    (ChangeSpec.witness_shaped (enc := enc) (C := Tryz.checked) (os := os) (X := fun w _ => laidMetH Tryz.prog Rows.fnAddressRow.laid w) false (World.laidAll Tryz.prog os Rows.fnAddressRow.laid) #[.string ⟨#[]⟩, .string ⟨#[]⟩, .string ⟨#[]⟩] 3 (World.laidAll_os _ _ _)
      (World.shaped_of_ZipB (by kernel_rfl) (by kernel_rfl)) (by kernel_rfl) (by kernel_rfl) (by kernel_rfl)
      (by rw [MakeChecks.laidMetH_plain _ _ _ (by kernel_rfl)]; exact laidMet_laidAll _ (by kernel_rfl) (by kernel_rfl))) ?_
  intro W base args ds gs before hval0 hW _ _ hL _
  have hval : ∀ (j : Nat) t v, Tryz.f3.params[j]? = some t → args[j]? = some v → Value.okWide Tryz.prog W .any base t v := hval0
  have hW' := hW
  obtain ⟨p, q, hA0, hV, rfl, _, _⟩ := hW
  have hA : DataW.TrodAll enc Tryz.prog W 0 (fun _ => true) true Tryz.f3.params.toList args.toList ds p := hA0
  rw [Tryz.params3] at hA hval
  obtain ⟨v0, vs0, d0, ds0, p0, q0, hv0, rfl, rfl, h0, hA⟩ := trodAll_cons hA
  obtain ⟨v1, vs1, d1, ds1, p1, q1, hv1, rfl, rfl, h1, hA⟩ := trodAll_cons hA
  obtain ⟨v2, vs2, d2, ds2, p2, q2, hv2, rfl, rfl, h2, hA⟩ := trodAll_cons hA
  obtain ⟨rfl, rfl, rfl⟩ := trodAll_nil hA
  subst hv2 hv1
  obtain rfl : args = #[v0, v1, v2] := by cases args; simp_all
  obtain ⟨rfl, rfl⟩ := trodVars_none hV
  obtain ⟨a0, rfl, rfl, rfl, w0⟩ := open_string Tryz.underlying9 (hval 0 9 v0 rfl rfl) h0
  obtain ⟨a1, rfl, rfl, rfl, w1⟩ := open_string Tryz.underlying9 (hval 1 9 v1 rfl rfl) h1
  obtain ⟨a2, rfl, rfl, rfl, w2⟩ := open_string Tryz.underlying9 (hval 2 9 v2 rfl rfl) h2
  simp only [List.append_nil] at hW'
  refine (a_calls a0 a1 a2 W).mono fun e W' ⟨he, hb⟩ => ?_
  subst he
  exact ⟨_, rfl, _, _, _, [], [], [], hW', trodAll_mk1 (shut_bool Tryz.underlying4 _), ⟨_, _, (shut_string Tryz.underlying9 w0), ⟨_, _, (shut_string Tryz.underlying9 w1), (trodAll_mk1 (shut_string Tryz.underlying9 w2)), rfl⟩, rfl⟩, rfl, hb.frame _, fun h => by cases h⟩

theorem a_row : Rows.FnAddressSaid :=
  OpenClaim.holds_of_wide 3 Tryz.f3 rfl rfl rfl rfl rfl rfl rfl ⟨rfl, rfl, rfl, rfl, rfl⟩ rfl rfl rfl rfl rfl (by kernel_rfl) Tryz.func3 aFacts
    (of_decide_eq_true (by kernel_rfl)) (by unfold Func.isWrapper; first | (rw [if_pos (by decide +kernel)]; kernel_rfl) | (rw [if_neg (by decide +kernel)]; exact ⟨rfl, rfl⟩))
    (fun os started H enc _ => a_lifted os started H enc)

end Go.Proofs.YtfmgdjkcdmjloaaGreatDoor
