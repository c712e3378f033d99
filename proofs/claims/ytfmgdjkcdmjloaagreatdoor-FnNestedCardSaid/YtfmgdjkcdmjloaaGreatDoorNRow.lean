/- FnNested: the closed facts of the row. -/
import Derived.Test.YtfmgdjkcdmjloaaGreatDoorNF0
import Derived.Test.YtfmgdjkcdmjloaaGreatDoorNF1
import Derived.Test.YtfmgdjkcdmjloaaGreatDoorNF2
import Derived.Test.YtfmgdjkcdmjloaaGreatDoorNF3
import Derived.Test.YtfmgdjkcdmjloaaGreatDoorNEval
import Derived.Test.YtfmgdjkcdmjloaaGreatDoorTie
import Derived.Test.YtfmgdjkcdmjloaaGreatDoorCards
import Derived.WalkKit
import Derived.ProofKit
import Derived.OpenShut
import Derived.Lay
import Derived.LaidOnce
import Derived.SevenTiedAt
import Derived.JoinedOf
import Derived.RowKit
import Derived.LaidLaws
import Derived.Stop.Joined
set_option linter.unusedVariables false
set_option linter.unusedSimpArgs false
namespace Go.Proofs.YtfmgdjkcdmjloaaGreatDoor
open Go
set_option maxRecDepth 100000
theorem band {a b : Bool} (h : a = true) (k : b = true) : (a && b) = true := by rw [h, k]; rfl
theorem nestedFacts0 : joinedFacts Tryz.prog 8 Tryz.f8 Rows.fnNestedSpec Rows.fnNestedRow = true :=
  (band (band (band (band (band (band (band (band (band (band (band (band (band (band (band (band (band (band (band (band (band (band (band (band (band (band (band (band (band (band (band nestedFact0 nestedFact1) nestedFact2) nestedFact3) nestedFact4) nestedFact5) nestedFact6) nestedFact7) nestedFact8) nestedFact9) nestedFact10) nestedFact11) nestedFact12) nestedFact13) nestedFact14) nestedFact15) nestedFact16) nestedFact17) nestedFact18) nestedFact19) nestedFact20) nestedFact21) nestedFact22) nestedFact23) nestedFact24) nestedFact25) nestedFact26) nestedFact27) nestedFact28) nestedFact29) nestedFact30) nestedFact31)
theorem nestedFacts : joinedFacts Tryz.pinned.checked.prog 8 Tryz.f8 Rows.fnNestedSpec Rows.fnNestedRow = true := nestedFacts0
end Go.Proofs.YtfmgdjkcdmjloaaGreatDoor
/- FnNested: the row and the tied card. -/
namespace Go.Proofs.YtfmgdjkcdmjloaaGreatDoor
open Go.ChangeShapes Go.WideShapes Go.ChangeAt Go.RowKit Go.AM

/-- A ghost that tells nothing. -/
def ghost0 : Ghost := { π := fun _ => none, I := fun _ => none, next := 0 }
theorem sim0 (w : World) : Sim ghost0 { t := .leaf, next := 0 } w where
  next := rfl
  blk := fun id bl h => by simp [Store.get, PT.get] at h
  inj := fun _ _ _ _ _ h => by cases h
  imm := fun _ _ h => by cases h
  apart := fun _ _ _ _ h => by cases h
  lt := fun _ _ _ h => by cases h
theorem ext0 {g : Ghost} {w w' : World} (h : Ext ghost0 g w w') : Below w.heap.size w w' :=
  ⟨h.os, h.tape, h.output, h.size, fun b hb => h.keep b hb fun _ _ h => by cases h⟩

/-- The call answers true, and leaves all as it was. -/
theorem nested_calls (n : Int) (w : World) : Calls Tryz.prog 8 #[.int .i64 n] w fun e w' => e = .returned (.bool true) ∧ Below w.heap.size w w' := by
  have h := Go.AM.runT_ok (fun run h => tab_ok fuel run h) deep 8 [.int .i64 n] { t := .leaf, next := 0 } (fun r => r.1 = .bool true) ghost0 w [.int .i64 n] (nested_sat n) (.cons (.int _ _) .nil) (sim0 w) (fun i cs h => by cases h)
  refine Calls.mono (show Calls Tryz.prog 8 #[.int .i64 n] w _ from h) ?_
  rintro e w' ⟨v, a, σ', g', rfl, ha, hs, he, hv⟩
  subst ha
  cases hv
  exact ⟨rfl, ext0 he⟩

theorem ownN : ownKnob Tryz.prog.godebug = none := by kernel_rfl
set_option maxRecDepth 100000 in
theorem nested_lifted (os : Os) (started : os.Started) (H : Type) (enc : TypeId × Value → H) :
    ReturnsInHanded {} Tryz.checked os 8 .any (fun w args => (Rows.fnNestedSpec.pre enc Tryz.prog Tryz.f8 [] false w args ∧ laidMetH Tryz.prog Rows.fnNestedRow.laid w) ∧ sizedMet enc Tryz.prog Tryz.f8 (OpenSpec.ofChange Rows.fnNestedSpec) false w args)
      (Rows.fnNestedSpec.post enc Tryz.prog Tryz.f8 false true false false) := by
  refine returnsInHanded_of_change_and (C := Tryz.checked) (X := fun w _ => laidMetH Tryz.prog Rows.fnNestedRow.laid w) (fun _ _ _ hh h => h.of_heap hh) ownN started (by kernel_rfl) Tryz.func8
    (ChangeSpec.witness_shaped (enc := enc) (C := Tryz.checked) (os := os) (X := fun w _ => laidMetH Tryz.prog Rows.fnNestedRow.laid w) false (World.laidAll Tryz.prog os Rows.fnNestedRow.laid) #[.int .i64 0] 8 (World.laidAll_os _ _ _)
      (World.shaped_of_ZipB (by kernel_rfl) (by kernel_rfl)) (by kernel_rfl) (by kernel_rfl) (by kernel_rfl)
      (by rw [MakeChecks.laidMetH_plain _ _ _ (by kernel_rfl)]; exact laidMet_laidAll _ (by kernel_rfl) (by kernel_rfl))) ?_
  intro W base args ds gs before hval0 hW _ _ hL _
  have hval : ∀ (j : Nat) t v, Tryz.f8.params[j]? = some t → args[j]? = some v → Value.okWide Tryz.prog W .any base t v := hval0
  have hW' := hW
  obtain ⟨p, q, hA0, hV, rfl, _, _⟩ := hW
  have hA : DataW.TrodAll enc Tryz.prog W 0 (fun _ => true) true Tryz.f8.params.toList args.toList ds p := hA0
  rw [Tryz.params8] at hA hval
  obtain ⟨v0, d0, rfl, rfl, h0⟩ := trodAll_one hA
  obtain ⟨rfl, rfl⟩ := trodVars_none hV
  obtain ⟨x, rfl, rfl, rfl, wx⟩ := open_int Tryz.underlying3 (hval 0 3 v0 rfl rfl) h0
  simp only [List.append_nil] at hW'
  refine (nested_calls x W).mono fun e W' ⟨he, hb⟩ => ?_
  subst he
  exact ⟨_, rfl, _, _, _, [], [], [], hW', trodAll_mk1 (shut_bool Tryz.underlying4 _), trodAll_mk1 (shut_int Tryz.underlying3 wx), rfl, hb.frame _, fun h => by cases h⟩

theorem nested_row : Rows.FnNestedSaid :=
  OpenClaim.holds_of_wide 8 Tryz.f8 rfl rfl rfl rfl rfl rfl rfl ⟨rfl, rfl, rfl, rfl, rfl⟩ rfl rfl rfl rfl rfl (by kernel_rfl) Tryz.func8 nestedFacts
    (of_decide_eq_true (by kernel_rfl)) (by unfold Func.isWrapper; first | (rw [if_pos (by decide +kernel)]; kernel_rfl) | (rw [if_neg (by decide +kernel)]; exact ⟨rfl, rfl⟩))
    (fun os started H enc _ => nested_lifted os started H enc)

theorem nested_card : Rows.FnNestedCardSaid :=
  Claim7.holds_tied_plain_at .later [] [.data, .data, .data, .data, .sentinel, .sentinel, .data, .pinned] true (true, "5d0112a4d31c45c9a6c59f6cf5b513aa99900bb9657a26e038751aa8b31d6dd9") true
    nested_row (fun _ h => by cases h) (by kernel_rfl) (fun _ h => by cases h) fnNested_row_tie rfl ⟨rfl, rfl⟩ (by kernel_rfl) rfl
    (fun f fn hf hfn => by
      obtain rfl : f = 8 := Option.some.inj ((show Tryz.prog.funcNamed "pub-paratext/laws.FnNested" = some 8 by kernel_rfl).symm.trans hf) |>.symm
      obtain rfl : fn = Tryz.f8 := (Option.some.inj (Tryz.func8.symm.trans hfn)).symm
      exact ⟨by kernel_rfl, fun j t ht => by
        rw [Tryz.params8] at ht
        have hm : t ∈ [3] := by simpa using Array.mem_of_getElem? ht
        have hall : ([3].all fun u => !Tryz.prog.wantsStandIn u) = true := by kernel_rfl
        exact (show Tryz.prog.wantsStandIn t = false by simpa using List.all_eq_true.1 hall t hm)⟩)
    (by kernel_rfl)
#print axioms nested_card
end Go.Proofs.YtfmgdjkcdmjloaaGreatDoor
