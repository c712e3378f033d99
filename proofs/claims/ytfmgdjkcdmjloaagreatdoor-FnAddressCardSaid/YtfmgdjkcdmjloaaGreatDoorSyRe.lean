/- A row of known bytes is told as a row whose room is not known, ahead of a sweep. -/
import Derived.Test.YtfmgdjkcdmjloaaGreatDoorSyRd
set_option linter.unusedVariables false
set_option linter.unusedSimpArgs false
namespace Go.AM
theorem self_set {h : Array Obj} {b : Nat} {o : Obj} (hb : h[b]? = some o) : h.setIfInBounds b o = h := by
  obtain ⟨hlt, e⟩ := Array.getElem?_eq_some_iff.1 hb
  rw [Array.setIfInBounds, dif_pos hlt, ← e, Array.set_getElem_self]
theorem weak_sim {g : Ghost} {σ : Store} {w : World} (hs : Sim g σ w) {e : TypeId} {s : AV} {v : Value} {l : List Seg} (hx : VR g s v) (hh : rowHeld σ e s = some l)
    (hnew : ∃ x, ((σ.kill (rowId s)).new (.bytes e l)).get σ.next = some x) :
    ∃ g', Sim g' ((σ.kill (rowId s)).new (.bytes e l)) w ∧ Ext g g' w w ∧ ∀ v, VR g s v → VR g' (bslOf σ.next l) v := by
  obtain ⟨b, m, bl0, rest, hg, hp, ho, hmm, rfl, ook, hmax⟩ := rowHeld_sound hs hx hh
  obtain ⟨g', r1, r2, r3, r4⟩ := renew_sim hs hg hp (bl := .bytes e l) (o := .cells ⟨(den g.sv l).map (fun b => Value.int .u8 b.toNat) ++ rest⟩ e (0, 0)) (n := m) (b := b) ⟨rest, rfl, hmm, ook⟩ hnew (w' := w) (.inl ⟨rfl, (self_set ho).symm⟩) rfl rfl rfl
  refine ⟨g', r1, r2, fun v hv => ?_⟩
  obtain ⟨b2, m2, bl2, rest2, _, hp2, ho2, hmm2, rfl, _, hmax2⟩ := rowHeld_sound hs hv hh
  rw [hp] at hp2
  cases hp2
  obtain ⟨s1, s2⟩ := segLen_ok ook
  refine .bsl _ _ _ _ _ _ ?_ ?_ r3 (fun b' m' hp' => ?_) hmax2
  · rw [r2.le.sv]; exact s1
  · rw [r2.le.sv]; exact s2
  · rw [r4] at hp'; cases hp'
    exact ⟨rfl, rfl⟩
/-- A row of known bytes, its room forgotten. -/
def weakT (e : TypeId) (s : AV) (σ : Store) : Option R :=
  match s with
  | .slice id 0 n cap 1 => match rowHeld σ e (.slice id 0 n cap 1) with
    | some l => match ((σ.kill id).new (.bytes e l)).get σ.next with
      | some _ => some (bslOf σ.next l, (σ.kill id).new (.bytes e l))
      | none => none
    | none => none
  | _ => none
def sweepW (p : Nat) (e : TypeId) (inner : Nat → List AV → Store → Tr R) (m : Nat) (xs : List AV) (σ : Store) : Tr R :=
  match weakT e (xs.getD p .any) σ with
  | some r => inner m (xs.set p r.1) r.2
  | none => inner m xs σ
theorem All2_self {R : AV → AV → Prop} (h : ∀ x, R x x) : ∀ xs : List AV, All2 R xs xs
  | [] => trivial
  | x :: xs => ⟨h x, All2_self h xs⟩
theorem KOK.sweepW {X : Env} {N : Nat} {c : Code} {k : Kont R} {js : List Nat} (hjs : sortedB N js = true) {inner : Nat → List AV → Store → Tr R} (p : Nat) (e : TypeId)
    (h : ∀ m fr σ, KOK X N c fr σ (inner m (js.map fun j => fr.getD j .any) σ) k) : ∀ m fr σ, KOK X N c fr σ (Go.AM.sweepW p e inner m (js.map fun j => fr.getD j .any) σ) k := by
  intro m fr σ K g a w hN ht hf hs hG
  unfold Go.AM.sweepW at ht
  generalize hxs : (js.map fun j => fr.getD j .any) = xs at ht
  split at ht
  · rename_i r hw
    unfold weakT at hw
    split at hw
    case h_2 => cases hw
    rename_i id n cap hx0
    split at hw
    case h_2 => cases hw
    rename_i l hh
    split at hw
    case h_2 => cases hw
    rename_i x hnew
    cases hw
    have hpl : p < xs.length := by
      rcases Nat.lt_or_ge p xs.length with h1 | h1
      · exact h1
      · rw [List.getD_eq_getElem?_getD, List.getElem?_eq_none h1] at hx0; cases hx0
    have hpj : p < js.length := by rw [← hxs, List.length_map] at hpl; exact hpl
    have hx1 : fr.getD (js.getD p 0) .any = .slice id 0 n cap 1 := by
      rw [← hx0, ← hxs]
      simp [List.getD_eq_getElem?_getD, List.getElem?_eq_getElem hpj]
    have hv := hf.get (js.getD p 0)
    rw [hx1] at hv
    obtain ⟨g', q1, q2, q3⟩ := weak_sim hs hv hh ⟨_, hnew⟩
    have hlen : js.length = (xs.set p (bslOf σ.next l)).length := by rw [List.length_set, ← hxs, List.length_map]
    have ht' : (inner m (js.map fun j => (frS 0 N (js.zip (xs.set p (bslOf σ.next l)))).getD j .any) ((σ.kill id).new (.bytes e l))).sat K := by
      rw [frS_map hjs hlen]; exact ht
    refine wp_mono (h m _ _ K g' a w (frS_length _ _ _) ht' ?_ q1 (Ghost.GR_mono hG q2.le)) ?_
    · refine hf.anew hN ?_
      rw [hxs]
      refine (All2_self (R := fun x z => ∀ v, VR g x v → VR g' z v) (fun x v hv => hv.mono q2.le) xs).setR ?_
      intro y hy v hv
      have : y = .slice id 0 n cap 1 := by
        rw [List.getD_eq_getElem?_getD, hy] at hx0; exact hx0
      rw [this] at hv
      exact q3 v hv
    · intro ex a' w' hm
      exact Meets.trans q2 hm
  · rw [← hxs] at ht
    exact h m fr σ K g a w hN ht hf hs hG
end Go.AM
