/- FnInnermost: the closed facts of the row. -/
import Derived.Test.YtfmgdjkcdmjloaaGreatDoorIF0
import Derived.Test.YtfmgdjkcdmjloaaGreatDoorIF1
import Derived.Test.YtfmgdjkcdmjloaaGreatDoorIF2
import Derived.Test.YtfmgdjkcdmjloaaGreatDoorIF3
import Derived.Test.YtfmgdjkcdmjloaaGreatDoorSmWord
import Derived.Test.YtfmgdjkcdmjloaaGreatDoorIEval
import Derived.Test.YtfmgdjkcdmjloaaGreatDoorTie
import Derived.Test.YtfmgdjkcdmjloaaGreatDoorCards
import Derived.WalkKit
import Derived.ProofKit
import Derived.OpenShut
import Derived.Lay
import Derived.LaidOnce
import Derived.SevenTiedAt
import Derived.JoinedOf
import Derived.RowKit
import Derived.LaidLaws
import Derived.Stop.Joined
import Derived.ChangeMaps5
set_option linter.unusedVariables false
set_option linter.unusedSimpArgs false
namespace Go.Proofs.YtfmgdjkcdmjloaaGreatDoor
open Go
set_option maxRecDepth 100000
theorem band {a b : Bool} (h : a = true) (k : b = true) : (a && b) = true := by rw [h, k]; rfl
theorem innerFacts0 : joinedFacts Tryz.prog 6 Tryz.f6 Rows.fnInnermostSpec Rows.fnInnermostRow = true :=
  (band (band (band (band (band (band (band (band (band (band (band (band (band (band (band (band (band (band (band (band (band (band (band (band (band (band (band (band (band (band (band innerFact0 innerFact1) innerFact2) innerFact3) innerFact4) innerFact5) innerFact6) innerFact7) innerFact8) innerFact9) innerFact10) innerFact11) innerFact12) innerFact13) innerFact14) innerFact15) innerFact16) innerFact17) innerFact18) innerFact19) innerFact20) innerFact21) innerFact22) innerFact23) innerFact24) innerFact25) innerFact26) innerFact27) innerFact28) innerFact29) innerFact30) innerFact31)
theorem innerFacts : joinedFacts Tryz.pinned.checked.prog 6 Tryz.f6 Rows.fnInnermostSpec Rows.fnInnermostRow = true := innerFacts0
end Go.Proofs.YtfmgdjkcdmjloaaGreatDoor
/- FnInnermost: the row and the tied card. -/
namespace Go.Proofs.YtfmgdjkcdmjloaaGreatDoor
open Go.ChangeMaps Go.ChangeShapes Go.WideShapes Go.ChangeAt Go.RowKit Go.AM

/-- A ghost that tells nothing. -/
def ghost1 (s : List UInt8) : Ghost := { π := fun _ => none, I := fun _ => none, next := 0, sv := fun _ => s }
theorem sim1 (s : List UInt8) (w : World) : Sim (ghost1 s) { t := .leaf, next := 0 } w where
  next := rfl
  blk := fun id bl h => by simp [Store.get, PT.get] at h
  inj := fun _ _ _ _ _ h => by cases h
  imm := fun _ _ h => by cases h
  apart := fun _ _ _ _ h => by cases h
  lt := fun _ _ _ h => by cases h
theorem ext1 {s : List UInt8} {g : Ghost} {w w' : World} (h : Ext (ghost1 s) g w w') : Below w.heap.size w w' :=
  ⟨h.os, h.tape, h.output, h.size, fun b hb => h.keep b hb fun _ _ h => by cases h⟩

/-- The call answers true, and leaves all as it was. -/
theorem inner_calls (s : ByteArray) (n : Int) (w : World) : Calls Tryz.prog 6 #[.string s, .int .i64 n] w fun e w' => e = .returned (.bool true) ∧ Below w.heap.size w w' := by
  have hs : (⟨s.data.toList.toArray⟩ : ByteArray) = s := by simp
  have fin : ∀ e w', Post (ghost1 s.data.toList) w (fun r => r.1 = .bool true) e w' → e = .returned (.bool true) ∧ Below w.heap.size w w' := by
    rintro e w' ⟨v, a, σ', g', rfl, ha, hs, he, hv⟩
    subst ha
    cases hv
    exact ⟨rfl, ext1 he⟩
  by_cases hc : s.data.toList.length > 2147483647 ∨ wordB s.data.toList = false ∨ n < 2 ∨ 30 < n
  · have h := ok6 runG_ok 1 (.str s.data.toList) (.int .i64 n) { t := .leaf, next := 0 } (fun r => r.1 = .bool true) (ghost1 s.data.toList) w [.string s, .int .i64 n] (Tr.sat_of_val (inner_out s.data.toList n _ hc) rfl) (.cons (by have := VR.str (g := ghost1 s.data.toList) s.data.toList; rw [hs] at this; exact this) (.cons (.int _ _) .nil)) (sim1 _ w) (fun i cs h => by cases h)
    exact Calls.mono (show Calls Tryz.prog 6 #[.string s, .int .i64 n] w _ from h) fin
  · have hw : wordB s.data.toList = true := by cases h : wordB s.data.toList; exact (hc (.inr (.inl h))).elim; rfl
    have h2 : 2 ≤ n := Int.not_lt.1 fun h => hc (.inr (.inr (.inl h)))
    have h30 : n ≤ 30 := Int.not_lt.1 fun h => hc (.inr (.inr (.inr h)))
    obtain ⟨w1, w2, w3⟩ := word_ok hw
    have h := Go.AM.runT_ok (fun run h => tabI_ok fuel run h) deep 6 [aWord 0, .int .i64 n] { t := .leaf, next := 0 } (fun r => r.1 = .bool true) (ghost1 s.data.toList) w [.string s, .int .i64 n] (sat_of_okB (inner_ok n h2 h30)) (.cons (by
      have := VR.sstr (g := ghost1 s.data.toList) [.w 0 [97, 98, 122, 48, 49, 57] 1 20] ⟨⟨w1, w2, w3⟩, trivial⟩
      simp only [den, ghost1, List.append_nil, hs] at this
      exact this) (.cons (.int _ _) .nil)) (sim1 _ w) (fun i cs h => by cases h)
    exact Calls.mono (show Calls Tryz.prog 6 #[.string s, .int .i64 n] w _ from h) fin

theorem ownN : ownKnob Tryz.prog.godebug = none := by kernel_rfl
set_option maxRecDepth 100000 in
theorem inner_lifted (os : Os) (started : os.Started) (H : Type) (enc : TypeId × Value → H) :
    ReturnsInHanded {} Tryz.checked os 6 .any (fun w args => (Rows.fnInnermostSpec.pre enc Tryz.prog Tryz.f6 [] false w args ∧ laidMetH Tryz.prog Rows.fnInnermostRow.laid w) ∧ sizedMet enc Tryz.prog Tryz.f6 (OpenSpec.ofChange Rows.fnInnermostSpec) false w args)
      (Rows.fnInnermostSpec.post enc Tryz.prog Tryz.f6 false true false false) := by
  refine returnsInHanded_of_change_and (C := Tryz.checked) (X := fun w _ => laidMetH Tryz.prog Rows.fnInnermostRow.laid w) (fun _ _ _ hh h => h.of_heap hh) ownN started (by kernel_rfl) Tryz.func6
    (ChangeSpec.witness_shaped (enc := enc) (C := Tryz.checked) (os := os) (X := fun w _ => laidMetH Tryz.prog Rows.fnInnermostRow.laid w) false (World.laidAll Tryz.prog os Rows.fnInnermostRow.laid) #[.string ⟨#[]⟩, .int .i64 0] 6 (World.laidAll_os _ _ _)
      (World.shaped_of_ZipB (by kernel_rfl) (by kernel_rfl)) (by kernel_rfl) (by kernel_rfl) (by kernel_rfl)
      (by rw [MakeChecks.laidMetH_plain _ _ _ (by kernel_rfl)]; exact laidMet_laidAll _ (by kernel_rfl) (by kernel_rfl))) ?_
  intro W base args ds gs before hval0 hW _ _ hL _
  have hval : ∀ (j : Nat) t v, Tryz.f6.params[j]? = some t → args[j]? = some v → Value.okWide Tryz.prog W .any base t v := hval0
  have hW' := hW
  obtain ⟨p, q, hA0, hV, rfl, _, _⟩ := hW
  have hA : DataW.TrodAll enc Tryz.prog W 0 (fun _ => true) true Tryz.f6.params.toList args.toList ds p := hA0
  rw [Tryz.params6] at hA hval
  obtain ⟨v0, v1, d0, d1, p0, p1, rfl, rfl, rfl, h0, h1⟩ := trodAll_two hA
  obtain ⟨rfl, rfl⟩ := trodVars_none hV
  obtain ⟨s, rfl, rfl, rfl, ws⟩ := open_string Tryz.underlying9 (hval 0 9 v0 rfl rfl) h0
  obtain ⟨x, rfl, rfl, rfl, wx⟩ := open_int Tryz.underlying3 (hval 1 3 v1 rfl rfl) h1
  simp only [List.append_nil] at hW'
  refine (inner_calls s x W).mono fun e W' ⟨he, hb⟩ => ?_
  subst he
  exact ⟨_, rfl, _, _, _, [], [], [], hW', trodAll_mk1 (shut_bool Tryz.underlying4 _), trodAll_mk2 (shut_string Tryz.underlying9 ws) (shut_int Tryz.underlying3 wx), rfl, hb.frame _, fun h => by cases h⟩

theorem inner_row : Rows.FnInnermostSaid :=
  OpenClaim.holds_of_wide 6 Tryz.f6 rfl rfl rfl rfl rfl rfl rfl ⟨rfl, rfl, rfl, rfl, rfl⟩ rfl rfl rfl rfl rfl (by kernel_rfl) Tryz.func6 innerFacts
    (of_decide_eq_true (by kernel_rfl)) (by unfold Func.isWrapper; first | (rw [if_pos (by decide +kernel)]; kernel_rfl) | (rw [if_neg (by decide +kernel)]; exact ⟨rfl, rfl⟩))
    (fun os started H enc _ => inner_lifted os started H enc)

theorem inner_card : Rows.FnInnermostCardSaid :=
  Claim7.holds_tied_plain_at .later [] [.data, .data, .data, .data, .sentinel, .sentinel, .data, .pinned] true (true, "5d0112a4d31c45c9a6c59f6cf5b513aa99900bb9657a26e038751aa8b31d6dd9") true
    inner_row (fun _ h => by cases h) (by kernel_rfl) (fun _ h => by cases h) fnInnermost_row_tie rfl ⟨rfl, rfl⟩ (by kernel_rfl) rfl
    (fun f fn hf hfn => by
      obtain rfl : f = 6 := Option.some.inj ((show Tryz.prog.funcNamed "pub-paratext/laws.FnInnermost" = some 6 by kernel_rfl).symm.trans hf) |>.symm
      obtain rfl : fn = Tryz.f6 := (Option.some.inj (Tryz.func6.symm.trans hfn)).symm
      exact ⟨by kernel_rfl, fun j t ht => by
        rw [Tryz.params6] at ht
        have hm : t ∈ [9, 3] := by simpa using Array.mem_of_getElem? ht
        have hall : ([9, 3].all fun u => !Tryz.prog.wantsStandIn u) = true := by kernel_rfl
        exact (show Tryz.prog.wantsStandIn t = false by simpa using List.all_eq_true.1 hall t hm)⟩)
    (by kernel_rfl)
#print axioms inner_card
end Go.Proofs.YtfmgdjkcdmjloaaGreatDoor
