/- FnWWW: the closed facts of the row. -/
import Derived.Test.YtfmgdjkcdmjloaaGreatDoorWF0
import Derived.Test.YtfmgdjkcdmjloaaGreatDoorWF1
import Derived.Test.YtfmgdjkcdmjloaaGreatDoorWF2
import Derived.Test.YtfmgdjkcdmjloaaGreatDoorWF3
import Derived.Test.YtfmgdjkcdmjloaaGreatDoorWTop
import Derived.Test.YtfmgdjkcdmjloaaGreatDoorTie
import Derived.Test.YtfmgdjkcdmjloaaGreatDoorCards
import Derived.WalkKit
import Derived.ProofKit
import Derived.OpenShut
import Derived.Lay
import Derived.LaidOnce
import Derived.SevenTiedAt
import Derived.JoinedOf
import Derived.RowKit
import Derived.LaidLaws
import Derived.Stop.Joined
import Derived.ChangeMaps5
set_option linter.unusedVariables false
set_option linter.unusedSimpArgs false
namespace Go.Proofs.YtfmgdjkcdmjloaaGreatDoor
open Go
set_option maxRecDepth 100000
theorem bandF {a b : Bool} (h : a = true) (k : b = true) : (a && b) = true := by rw [h, k]; rfl
theorem wFacts0 : joinedFacts Tryz.prog 10 Tryz.f10 Rows.fnWWWSpec Rows.fnWWWRow = true :=
  (bandF (bandF (bandF (bandF (bandF (bandF (bandF (bandF (bandF (bandF (bandF (bandF (bandF (bandF (bandF (bandF (bandF (bandF (bandF (bandF (bandF (bandF (bandF (bandF (bandF (bandF (bandF (bandF (bandF (bandF (bandF wFact0 wFact1) wFact2) wFact3) wFact4) wFact5) wFact6) wFact7) wFact8) wFact9) wFact10) wFact11) wFact12) wFact13) wFact14) wFact15) wFact16) wFact17) wFact18) wFact19) wFact20) wFact21) wFact22) wFact23) wFact24) wFact25) wFact26) wFact27) wFact28) wFact29) wFact30) wFact31)
theorem wFacts : joinedFacts Tryz.pinned.checked.prog 10 Tryz.f10 Rows.fnWWWSpec Rows.fnWWWRow = true := wFacts0
end Go.Proofs.YtfmgdjkcdmjloaaGreatDoor
/- FnWWW: the row and the tied card. -/
namespace Go.Proofs.YtfmgdjkcdmjloaaGreatDoor
open Go.ChangeMaps Go.ChangeShapes Go.WideShapes Go.ChangeAt Go.RowKit Go.AM
theorem wOwn : ownKnob Tryz.prog.godebug = none := by kernel_rfl
set_option maxRecDepth 100000 in
theorem w_lifted (os : Os) (started : os.Started) (H : Type) (enc : TypeId × Value → H) :
    ReturnsInHanded {} Tryz.checked os 10 .any (fun w args => (Rows.fnWWWSpec.pre enc Tryz.prog Tryz.f10 [] false w args ∧ laidMetH Tryz.prog Rows.fnWWWRow.laid w) ∧ sizedMet enc Tryz.prog Tryz.f10 (OpenSpec.ofChange Rows.fnWWWSpec) false w args)
      (Rows.fnWWWSpec.post enc Tryz.prog Tryz.f10 false true false false) := by
  refine returnsInHanded_of_change_and (C := Tryz.checked) (X := fun w _ => laidMetH Tryz.prog Rows.fnWWWRow.laid w) (fun _ _ _ hh h => h.of_heap hh) wOwn started (by kernel_rfl) Tryz.func10
    (ChangeSpec.witness_shaped (enc := enc) (C := Tryz.checked) (os := os) (X := fun w _ => laidMetH Tryz.prog Rows.fnWWWRow.laid w) false (World.laidAll Tryz.prog os Rows.fnWWWRow.laid) #[.string ⟨#[]⟩, .string ⟨#[]⟩, .string ⟨#[]⟩, .string ⟨#[]⟩, .string ⟨#[]⟩, .bool false] 10 (World.laidAll_os _ _ _)
      (World.shaped_of_ZipB (by kernel_rfl) (by kernel_rfl)) (by kernel_rfl) (by kernel_rfl) (by kernel_rfl)
      (by rw [MakeChecks.laidMetH_plain _ _ _ (by kernel_rfl)]; exact laidMet_laidAll _ (by kernel_rfl) (by kernel_rfl))) ?_
  intro W base args ds gs before hval0 hW _ _ hL _
  have hval : ∀ (j : Nat) t v, Tryz.f10.params[j]? = some t → args[j]? = some v → Value.okWide Tryz.prog W .any base t v := hval0
  have hW' := hW
  obtain ⟨p, q, hA0, hV, rfl, _, _⟩ := hW
  have hA : DataW.TrodAll enc Tryz.prog W 0 (fun _ => true) true Tryz.f10.params.toList args.toList ds p := hA0
  rw [Tryz.params10] at hA hval
  obtain ⟨v0, vs0, d0, ds0, p0, q0, hv0, rfl, rfl, h0, hA⟩ := trodAll_cons hA
  obtain ⟨v1, vs1, d1, ds1, p1, q1, hv1, rfl, rfl, h1, hA⟩ := trodAll_cons hA
  obtain ⟨v2, vs2, d2, ds2, p2, q2, hv2, rfl, rfl, h2, hA⟩ := trodAll_cons hA
  obtain ⟨v3, vs3, d3, ds3, p3, q3, hv3, rfl, rfl, h3, hA⟩ := trodAll_cons hA
  obtain ⟨v4, vs4, d4, ds4, p4, q4, hv4, rfl, rfl, h4, hA⟩ := trodAll_cons hA
  obtain ⟨v5, vs5, d5, ds5, p5, q5, hv5, rfl, rfl, h5, hA⟩ := trodAll_cons hA
  obtain ⟨rfl, rfl, rfl⟩ := trodAll_nil hA
  subst hv5 hv4 hv3 hv2 hv1
  obtain rfl : args = #[v0, v1, v2, v3, v4, v5] := by cases args; simp_all
  obtain ⟨rfl, rfl⟩ := trodVars_none hV
  obtain ⟨a0, rfl, rfl, rfl, w0⟩ := open_string Tryz.underlying9 (hval 0 9 v0 rfl rfl) h0
  obtain ⟨a1, rfl, rfl, rfl, w1⟩ := open_string Tryz.underlying9 (hval 1 9 v1 rfl rfl) h1
  obtain ⟨a2, rfl, rfl, rfl, w2⟩ := open_string Tryz.underlying9 (hval 2 9 v2 rfl rfl) h2
  obtain ⟨a3, rfl, rfl, rfl, w3⟩ := open_string Tryz.underlying9 (hval 3 9 v3 rfl rfl) h3
  obtain ⟨a4, rfl, rfl, rfl, w4⟩ := open_string Tryz.underlying9 (hval 4 9 v4 rfl rfl) h4
  obtain ⟨a5, rfl, rfl, rfl⟩ := open_bool Tryz.underlying4 (hval 5 4 v5 rfl rfl) h5
  simp only [List.append_nil] at hW'
  refine (w_calls a0 a1 a2 a3 a4 a5 W).mono fun e W' ⟨he, hb⟩ => ?_
  subst he
  exact ⟨_, rfl, _, _, _, [], [], [], hW', trodAll_mk1 (shut_bool Tryz.underlying4 _), ⟨_, _, (shut_string Tryz.underlying9 w0), ⟨_, _, (shut_string Tryz.underlying9 w1), ⟨_, _, (shut_string Tryz.underlying9 w2), ⟨_, _, (shut_string Tryz.underlying9 w3), ⟨_, _, (shut_string Tryz.underlying9 w4), (trodAll_mk1 (shut_bool Tryz.underlying4 _)), rfl⟩, rfl⟩, rfl⟩, rfl⟩, rfl⟩, rfl, hb.frame _, fun h => by cases h⟩

theorem w_row : Rows.FnWWWSaid :=
  OpenClaim.holds_of_wide 10 Tryz.f10 rfl rfl rfl rfl rfl rfl rfl ⟨rfl, rfl, rfl, rfl, rfl⟩ rfl rfl rfl rfl rfl (by kernel_rfl) Tryz.func10 wFacts
    (of_decide_eq_true (by kernel_rfl)) (by unfold Func.isWrapper; first | (rw [if_pos (by decide +kernel)]; kernel_rfl) | (rw [if_neg (by decide +kernel)]; exact ⟨rfl, rfl⟩))
    (fun os started H enc _ => w_lifted os started H enc)

theorem w_card : Rows.FnWWWCardSaid :=
  Claim7.holds_tied_plain_at .later [] [.data, .data, .data, .data, .sentinel, .sentinel, .data, .pinned] true (true, "5d0112a4d31c45c9a6c59f6cf5b513aa99900bb9657a26e038751aa8b31d6dd9") true
    w_row (fun _ h => by cases h) (by kernel_rfl) (fun _ h => by cases h) fnWWW_row_tie rfl ⟨rfl, rfl⟩ (by kernel_rfl) rfl
    (fun f fn hf hfn => by
      obtain rfl : f = 10 := Option.some.inj ((show Tryz.prog.funcNamed "pub-paratext/laws.FnWWW" = some 10 by kernel_rfl).symm.trans hf) |>.symm
      obtain rfl : fn = Tryz.f10 := (Option.some.inj (Tryz.func10.symm.trans hfn)).symm
      exact ⟨by kernel_rfl, fun j t ht => by
        rw [Tryz.params10] at ht
        have hm : t ∈ [9, 9, 9, 9, 9, 4] := by simpa using Array.mem_of_getElem? ht
        have hall : ([9, 9, 9, 9, 9, 4].all fun u => !Tryz.prog.wantsStandIn u) = true := by kernel_rfl
        exact (show Tryz.prog.wantsStandIn t = false by simpa using List.all_eq_true.1 hall t hm)⟩)
    (by kernel_rfl)
#print axioms w_card
end Go.Proofs.YtfmgdjkcdmjloaaGreatDoor
