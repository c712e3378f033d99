/- FnLink: the closed facts of the row. -/
import Derived.Test.YtfmgdjkcdmjloaaGreatDoorLF0
import Derived.Test.YtfmgdjkcdmjloaaGreatDoorLF1
import Derived.Test.YtfmgdjkcdmjloaaGreatDoorLF2
import Derived.Test.YtfmgdjkcdmjloaaGreatDoorLF3
import Derived.Test.YtfmgdjkcdmjloaaGreatDoorLCall
import Derived.Test.YtfmgdjkcdmjloaaGreatDoorTie
import Derived.Test.YtfmgdjkcdmjloaaGreatDoorCards
set_option linter.unusedVariables false
set_option linter.unusedSimpArgs false
namespace Go.Proofs.YtfmgdjkcdmjloaaGreatDoor
open Go
set_option maxRecDepth 100000
theorem bandF {a b : Bool} (h : a = true) (k : b = true) : (a && b) = true := by rw [h, k]; rfl
theorem lFacts0 : joinedFacts Tryz.prog 7 Tryz.f7 Rows.fnLinkSpec Rows.fnLinkRow = true :=
  (bandF (bandF (bandF (bandF (bandF (bandF (bandF (bandF (bandF (bandF (bandF (bandF (bandF (bandF (bandF (bandF (bandF (bandF (bandF (bandF (bandF (bandF (bandF (bandF (bandF (bandF (bandF (bandF (bandF (bandF (bandF lFact0 lFact1) lFact2) lFact3) lFact4) lFact5) lFact6) lFact7) lFact8) lFact9) lFact10) lFact11) lFact12) lFact13) lFact14) lFact15) lFact16) lFact17) lFact18) lFact19) lFact20) lFact21) lFact22) lFact23) lFact24) lFact25) lFact26) lFact27) lFact28) lFact29) lFact30) lFact31)
theorem lFacts : joinedFacts Tryz.pinned.checked.prog 7 Tryz.f7 Rows.fnLinkSpec Rows.fnLinkRow = true := lFacts0
end Go.Proofs.YtfmgdjkcdmjloaaGreatDoor
/- FnLink: the row. -/
namespace Go.Proofs.YtfmgdjkcdmjloaaGreatDoor
open Go.ChangeMaps Go.ChangeShapes Go.WideShapes Go.ChangeAt Go.RowKit Go.AM
theorem lOwn : ownKnob Tryz.prog.godebug = none := by kernel_rfl
set_option maxRecDepth 100000 in
theorem l_lifted (os : Os) (started : os.Started) (H : Type) (enc : TypeId × Value → H) :
    ReturnsInHanded {} Tryz.checked os 7 .any (fun w args => (Rows.fnLinkSpec.pre enc Tryz.prog Tryz.f7 [] false w args ∧ laidMetH Tryz.prog Rows.fnLinkRow.laid w) ∧ sizedMet enc Tryz.prog Tryz.f7 (OpenSpec.ofChange Rows.fnLinkSpec) false w args)
      (Rows.fnLinkSpec.post enc Tryz.prog Tryz.f7 false true false false) := by
  refine returnsInHanded_of_change_and (C := Tryz.checked) (X := fun w _ => laidMetH Tryz.prog Rows.fnLinkRow.laid w) (fun _ _ _ hh h => h.of_heap hh) lOwn started (by kernel_rfl) Tryz.func7
    (ChangeSpec.witness_shaped (enc := enc) (C := Tryz.checked) (os := os) (X := fun w _ => laidMetH Tryz.prog Rows.fnLinkRow.laid w) false (World.laidAll Tryz.prog os Rows.fnLinkRow.laid) #[.string ⟨#[]⟩, .string ⟨#[]⟩, .bool false] 7 (World.laidAll_os _ _ _)
      (World.shaped_of_ZipB (by kernel_rfl) (by kernel_rfl)) (by kernel_rfl) (by kernel_rfl) (by kernel_rfl)
      (by rw [MakeChecks.laidMetH_plain _ _ _ (by kernel_rfl)]; exact laidMet_laidAll _ (by kernel_rfl) (by kernel_rfl))) ?_
  intro W base args ds gs before hval0 hW _ _ hL _
  have hval : ∀ (j : Nat) t v, Tryz.f7.params[j]? = some t → args[j]? = some v → Value.okWide Tryz.prog W .any base t v := hval0
  have hW' := hW
  obtain ⟨p, q, hA0, hV, rfl, _, _⟩ := hW
  have hA : DataW.TrodAll enc Tryz.prog W 0 (fun _ => true) true Tryz.f7.params.toList args.toList ds p := hA0
  rw [Tryz.params7] at hA hval
  obtain ⟨v0, vs0, d0, ds0, p0, q0, hv0, rfl, rfl, h0, hA⟩ := trodAll_cons hA
  obtain ⟨v1, vs1, d1, ds1, p1, q1, hv1, rfl, rfl, h1, hA⟩ := trodAll_cons hA
  obtain ⟨v2, vs2, d2, ds2, p2, q2, hv2, rfl, rfl, h2, hA⟩ := trodAll_cons hA
  obtain ⟨rfl, rfl, rfl⟩ := trodAll_nil hA
  subst hv2 hv1
  obtain rfl : args = #[v0, v1, v2] := by cases args; simp_all
  obtain ⟨rfl, rfl⟩ := trodVars_none hV
  obtain ⟨a0, rfl, rfl, rfl, w0⟩ := open_string Tryz.underlying9 (hval 0 9 v0 rfl rfl) h0
  obtain ⟨a1, rfl, rfl, rfl, w1⟩ := open_string Tryz.underlying9 (hval 1 9 v1 rfl rfl) h1
  obtain ⟨a2, rfl, rfl, rfl⟩ := open_bool Tryz.underlying4 (hval 2 4 v2 rfl rfl) h2
  simp only [List.append_nil] at hW'
  refine (l_calls a0 a1 a2 W (hasG1 (by rw [← MakeChecks.laidMetH_plain _ _ _ (by kernel_rfl)]; exact hL) (.tail _ (.tail _ (.tail _ (.tail _ (.tail _ (.tail _ (.head _))))))))).mono fun e W' ⟨he, hb⟩ => ?_
  subst he
  exact ⟨_, rfl, _, _, _, [], [], [], hW', trodAll_mk1 (shut_bool Tryz.underlying4 _), ⟨_, _, (shut_string Tryz.underlying9 w0), ⟨_, _, (shut_string Tryz.underlying9 w1), (trodAll_mk1 (shut_bool Tryz.underlying4 _)), rfl⟩, rfl⟩, rfl, hb.frame _, fun h => by cases h⟩

theorem l_row : Rows.FnLinkSaid :=
  OpenClaim.holds_of_wide 7 Tryz.f7 rfl rfl rfl rfl rfl rfl rfl ⟨rfl, rfl, rfl, rfl, rfl⟩ rfl rfl rfl rfl rfl (by kernel_rfl) Tryz.func7 lFacts
    (of_decide_eq_true (by kernel_rfl)) (by unfold Func.isWrapper; first | (rw [if_pos (by decide +kernel)]; kernel_rfl) | (rw [if_neg (by decide +kernel)]; exact ⟨rfl, rfl⟩))
    (fun os started H enc _ => l_lifted os started H enc)

end Go.Proofs.YtfmgdjkcdmjloaaGreatDoor
