/- FnDots: the closed facts of the row. -/
import Derived.Test.YtfmgdjkcdmjloaaGreatDoorDF0
import Derived.Test.YtfmgdjkcdmjloaaGreatDoorDF1
import Derived.Test.YtfmgdjkcdmjloaaGreatDoorDF2
import Derived.Test.YtfmgdjkcdmjloaaGreatDoorDF3
import Derived.Test.YtfmgdjkcdmjloaaGreatDoorDCall
import Derived.Test.YtfmgdjkcdmjloaaGreatDoorTie
import Derived.Test.YtfmgdjkcdmjloaaGreatDoorCards
import Derived.WalkKit
import Derived.ProofKit
import Derived.OpenShut
import Derived.Lay
import Derived.LaidOnce
import Derived.SevenTiedAt
import Derived.JoinedOf
import Derived.RowKit
import Derived.LaidLaws
import Derived.Stop.Joined
import Derived.ChangeMaps5
set_option linter.unusedVariables false
set_option linter.unusedSimpArgs false
namespace Go.Proofs.YtfmgdjkcdmjloaaGreatDoor
open Go
set_option maxRecDepth 100000
theorem bandF {a b : Bool} (h : a = true) (k : b = true) : (a && b) = true := by rw [h, k]; rfl
theorem dFacts0 : joinedFacts Tryz.prog 4 Tryz.f4 Rows.fnDotsSpec Rows.fnDotsRow = true :=
  (bandF (bandF (bandF (bandF (bandF (bandF (bandF (bandF (bandF (bandF (bandF (bandF (bandF (bandF (bandF (bandF (bandF (bandF (bandF (bandF (bandF (bandF (bandF (bandF (bandF (bandF (bandF (bandF (bandF (bandF (bandF dFact0 dFact1) dFact2) dFact3) dFact4) dFact5) dFact6) dFact7) dFact8) dFact9) dFact10) dFact11) dFact12) dFact13) dFact14) dFact15) dFact16) dFact17) dFact18) dFact19) dFact20) dFact21) dFact22) dFact23) dFact24) dFact25) dFact26) dFact27) dFact28) dFact29) dFact30) dFact31)
theorem dFacts : joinedFacts Tryz.pinned.checked.prog 4 Tryz.f4 Rows.fnDotsSpec Rows.fnDotsRow = true := dFacts0
end Go.Proofs.YtfmgdjkcdmjloaaGreatDoor
/- FnDots: the row and the tied card. -/
namespace Go.Proofs.YtfmgdjkcdmjloaaGreatDoor
open Go.ChangeMaps Go.ChangeShapes Go.WideShapes Go.ChangeAt Go.RowKit Go.AM
theorem dOwn : ownKnob Tryz.prog.godebug = none := by kernel_rfl
set_option maxRecDepth 100000 in
theorem d_lifted (os : Os) (started : os.Started) (H : Type) (enc : TypeId × Value → H) :
    ReturnsInHanded {} Tryz.checked os 4 .any (fun w args => (Rows.fnDotsSpec.pre enc Tryz.prog Tryz.f4 [] false w args ∧ laidMetH Tryz.prog Rows.fnDotsRow.laid w) ∧ sizedMet enc Tryz.prog Tryz.f4 (OpenSpec.ofChange Rows.fnDotsSpec) false w args)
      (Rows.fnDotsSpec.post enc Tryz.prog Tryz.f4 false true false false) := by
  refine returnsInHanded_of_change_and (C := Tryz.checked) (X := fun w _ => laidMetH Tryz.prog Rows.fnDotsRow.laid w) (fun _ _ _ hh h => h.of_heap hh) dOwn started (by kernel_rfl) Tryz.func4
    (ChangeSpec.witness_shaped (enc := enc) (C := Tryz.checked) (os := os) (X := fun w _ => laidMetH Tryz.prog Rows.fnDotsRow.laid w) false (World.laidAll Tryz.prog os Rows.fnDotsRow.laid) #[.string ⟨#[]⟩] 4 (World.laidAll_os _ _ _)
      (World.shaped_of_ZipB (by kernel_rfl) (by kernel_rfl)) (by kernel_rfl) (by kernel_rfl) (by kernel_rfl)
      (by rw [MakeChecks.laidMetH_plain _ _ _ (by kernel_rfl)]; exact laidMet_laidAll _ (by kernel_rfl) (by kernel_rfl))) ?_
  intro W base args ds gs before hval0 hW _ _ hL _
  have hval : ∀ (j : Nat) t v, Tryz.f4.params[j]? = some t → args[j]? = some v → Value.okWide Tryz.prog W .any base t v := hval0
  have hW' := hW
  obtain ⟨p, q, hA0, hV, rfl, _, _⟩ := hW
  have hA : DataW.TrodAll enc Tryz.prog W 0 (fun _ => true) true Tryz.f4.params.toList args.toList ds p := hA0
  rw [Tryz.params4] at hA hval
  obtain ⟨v0, vs0, d0, ds0, p0, q0, hv0, rfl, rfl, h0, hA⟩ := trodAll_cons hA
  obtain ⟨rfl, rfl, rfl⟩ := trodAll_nil hA
  obtain rfl : args = #[v0] := by cases args; simp_all
  obtain ⟨rfl, rfl⟩ := trodVars_none hV
  obtain ⟨a0, rfl, rfl, rfl, w0⟩ := open_string Tryz.underlying9 (hval 0 9 v0 rfl rfl) h0
  simp only [List.append_nil] at hW'
  refine (d_calls a0 W (hasG1 (by rw [← MakeChecks.laidMetH_plain _ _ _ (by kernel_rfl)]; exact hL) (.tail _ (.tail _ (.tail _ (.tail _ (.tail _ (.tail _ (.head _))))))))).mono fun e W' ⟨he, hb⟩ => ?_
  subst he
  exact ⟨_, rfl, _, _, _, [], [], [], hW', trodAll_mk1 (shut_bool Tryz.underlying4 _), (trodAll_mk1 (shut_string Tryz.underlying9 w0)), rfl, hb.frame _, fun h => by cases h⟩

theorem d_row : Rows.FnDotsSaid :=
  OpenClaim.holds_of_wide 4 Tryz.f4 rfl rfl rfl rfl rfl rfl rfl ⟨rfl, rfl, rfl, rfl, rfl⟩ rfl rfl rfl rfl rfl (by kernel_rfl) Tryz.func4 dFacts
    (of_decide_eq_true (by kernel_rfl)) (by unfold Func.isWrapper; first | (rw [if_pos (by decide +kernel)]; kernel_rfl) | (rw [if_neg (by decide +kernel)]; exact ⟨rfl, rfl⟩))
    (fun os started H enc _ => d_lifted os started H enc)
end Go.Proofs.YtfmgdjkcdmjloaaGreatDoor
