/- Loops that go over an unknown word at once. -/
import Derived.Test.YtfmgdjkcdmjloaaGreatDoorSmS1
set_option linter.unusedVariables false
set_option linter.unusedSimpArgs false
namespace Go.AM
section
variable {β : Type} {X : Env}
theorem Tr.sat_iff {t : Tr β} {Q : β → Prop} : t.sat Q ↔ ∃ a, t.val = some a ∧ Q a := by
  induction t with
  | ret a => exact ⟨fun h => ⟨a, rfl, h⟩, fun ⟨b, h, hq⟩ => by cases h; exact hq⟩
  | ask b k ih => exact ih b
  | fail => exact ⟨fun h => h.elim, fun ⟨_, h, _⟩ => by cases h⟩
/-- What a loop owes. -/
def LO (X : Env) (N : Nat) (b : Code) (k : Kont β) (K : β → Prop) (g : Ghost) (a : Act) (w : World) : Prop :=
  Loops X.P b (Meets g w fun r => r.2.1.length = N ∧ (k r.1 r.2.1 r.2.2).sat K) a w
theorem LO.step {N : Nat} {b : Code} {k : Kont β} {K : β → Prop} {v : List AV → Store → Tr β} {fr : List AV} {σ : Store} {t : Tr β} (hb : KOK X N b fr σ t (thenK v k)) {g : Ghost} {a : Act} {w : World} (hN : fr.length = N) (ht : t.sat K) (hf : FR g fr a) (hs : Sim g σ w) (hG : GR X g)
    (ih : ∀ fr' σ' g' a' w', fr'.length = N → (v fr' σ').sat K → FR g' fr' a' → Sim g' σ' w' → GR X g' → g'.sv = g.sv → LO X N b k K g' a' w') : LO X N b k K g a w := by
  refine Loops.round (wp_mono (hb K g a w hN ht hf hs hG) ?_)
  rintro e a' w' ⟨fr', σ', g', ⟨h1, h1'⟩, h2, h3, h4⟩
  cases e with
  | normal => exact fun B k' cs => let ⟨e, a'', w'', q, ar⟩ := ih fr' σ' g' a' w' h1 h1' h2 h3 (Ghost.GR_mono hG h4.le) h4.le.sv B k' cs; ⟨e, a'', w'', q.trans h4, ar⟩
  | _ => exact ⟨fr', σ', g', ⟨h1, h1'⟩, h2, h3, h4⟩
theorem KOK.loopA {N : Nat} {b : Code} {k : Kont β} {u : Nat → List AV → Store → Tr β} (h0 : ∀ fr σ, u 0 fr σ = .fail)
    (hs : ∀ m fr σ K g a w, fr.length = N → (u (m + 1) fr σ).sat K → FR g fr a → Sim g σ w → GR X g → (∀ fr' σ' g' a' w', fr'.length = N → (u m fr' σ').sat K → FR g' fr' a' → Sim g' σ' w' → GR X g' → LO X N b k K g' a' w') → LO X N b k K g a w) :
    ∀ m fr σ, KOK X N (.loop b) fr σ (u m fr σ) k := by
  have main : ∀ m fr σ (K : β → Prop) (g : Ghost) (a : Act) (w : World), fr.length = N → (u m fr σ).sat K → FR g fr a → Sim g σ w → GR X g → LO X N b k K g a w := by
    intro m
    induction m with
    | zero => intro fr σ K g a w _ ht; rw [h0] at ht; exact ht.elim
    | succ m ih => intro fr σ K g a w hN ht hf hs' hG; exact hs m fr σ K g a w hN ht hf hs' hG fun fr' σ' g' a' w' h1 h2 h3 h4 h5 => ih fr' σ' K g' a' w' h1 h2 h3 h4 h5
  exact fun m fr σ K g a w hN ht hf hs' hG => (main m fr σ K g a w hN ht hf hs' hG).loop

/-- A slot is told in another way. -/
theorem VRs.retell {g : Ghost} {l : List AV} {vs : List Value} (h : VRs g l vs) {i : Nat} {x : AV} (hx : ∀ v, VR g (l.getD i .any) v → VR g x v) : VRs g (l.set i x) vs := by
  induction l generalizing vs i with
  | nil => exact h
  | cons a l ih =>
    cases h with
    | cons h1 h2 =>
      cases i with
      | zero => exact .cons (hx _ h1) h2
      | succ i => exact .cons h1 (ih h2 (i := i) hx)
theorem FR.retell {g : Ghost} {fr : List AV} {a : Act} (h : FR g fr a) {i : Nat} {x : AV} (hx : ∀ v, VR g (fr.getD i .any) v → VR g x v) : FR g (fr.set i x) a := ⟨h.vrs.retell hx, h.defers⟩
theorem fr_set_self {l : List AV} {i : Nat} {x y : AV} (h : i < l.length) : (l.set i x).getD i y = x := by simp [List.getD_eq_getElem?_getD, h]
theorem fr_set_ne {l : List AV} {i j : Nat} {x y : AV} (h : i ≠ j) : (l.set i x).getD j y = l.getD j y := by simp [List.getD_eq_getElem?_getD, List.getElem?_set_ne h]

/-- The place behind the word that stands at a place, if its bytes are none of some. -/
def skipA (bad : List UInt8) (x i : AV) : Option AV := match x with
  | .sstr l => match toLin i with
    | some n => match symSplit l n.1 n.2 with
      | some (_, .w k cls lo hi :: _) => cond (noneIn cls bad && leI ((segLen l).1 + maxTs (segLen l).2) 1000000000) (some (mkLin n.1 (addTs n.2 [⟨k, 1, lo, hi⟩]))) none
      | _ => none
    | none => none
  | _ => none
theorem noneIn_ok {bad : List UInt8} : ∀ {cls : List UInt8}, noneIn cls bad = true → ∀ c ∈ cls, c ∉ bad
  | d :: cls, h, c, hc => by
    simp only [noneIn, Bool.and_eq_true, Bool.not_eq_true'] at h
    rcases List.mem_cons.1 hc with rfl | hc
    · exact memB_ok h.1
    · exact noneIn_ok h.2 c hc
theorem skipA_ok {bad : List UInt8} {x i y : AV} (h : skipA bad x i = some y) {g : Ghost} {vx vi : Value} (hx : VR g x vx) (hi : VR g i vi) :
    ∃ (l : List Seg) (j n : Nat), x = .sstr l ∧ SegsOK g.sv l ∧ (∀ v, VR g i v → v = .int .i64 j) ∧ j + n ≤ (den g.sv l).length ∧ (∀ t, j ≤ t → t < j + n → (den g.sv l).getD t 0 ∉ bad) ∧ (∀ g' : Ghost, g'.sv = g.sv → VR g' y (.int .i64 ((j + n : Nat) : Int))) ∧ (den g.sv l).length ≤ 1000000000 := by
  unfold skipA at h
  split at h
  case h_2 => cases h
  rename_i l
  split at h
  case h_2 => cases h
  rename_i m hm
  split at h
  case h_2 => cases h
  rename_i p k cls lo hi' q hsp
  rcases cond_yes h with ⟨hc, h⟩ | ⟨_, h⟩
  case inr => cases h
  cases h
  simp only [Bool.and_eq_true, leI_eq, decide_eq_true_eq] at hc
  cases hx with
  | sstr _ hok =>
  obtain ⟨hts, rfl⟩ := sym_lin hi hm
  obtain ⟨d1, d2, d3, d4⟩ := symSplit_ok hsp hok hts
  have d2 : ((den g.sv p).length : Int) = m.1 + tval g.sv m.2 := d2
  obtain ⟨a1, a2⟩ := segLen_ok hok
  have a3 := max_ok a1
  have hw := d4.1
  obtain ⟨b1, b2⟩ := addTs_ok (a := m.2) (b := [⟨k, 1, lo, hi'⟩]) hts ⟨⟨hw.1, hw.2.1⟩, trivial⟩
  simp only [tval, Int.one_mul, Int.add_zero] at b2
  have hd : den g.sv l = den g.sv p ++ (g.sv k ++ den g.sv q) := d1
  have hlen := congrArg List.length hd
  simp only [List.length_append] at hlen
  refine ⟨l, (den g.sv p).length, (g.sv k).length, rfl, hok, fun v hv => by rw [(sym_lin hv hm).2, d2], by omega, fun t h1 h2 => ?_, ?_, by omega⟩
  · have hm : (den g.sv l).getD t 0 ∈ g.sv k := by
      rw [hd, List.getD_eq_getElem?_getD, List.getElem?_append_right h1, List.getElem?_append_left (by omega), List.getElem?_eq_getElem (by omega)]
      exact List.getElem_mem _
    exact noneIn_ok hc.1 _ (hw.2.2 _ hm)
  · intro g' hg'
    rw [← hg'] at b1 b2 d2
    have := VR_mkLin (g := g') (c := m.1) b1
    rw [b2] at this
    rw [show (((den g.sv p).length + (g.sv k).length : Nat) : Int) = m.1 + (tval g'.sv m.2 + (g'.sv k).length) by rw [hg'] at d2 ⊢; omega]
    exact this
end
end Go.AM
