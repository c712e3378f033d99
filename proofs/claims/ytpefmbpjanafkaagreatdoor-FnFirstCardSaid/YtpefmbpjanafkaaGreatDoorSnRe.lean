/- A row of known bytes is told as a row whose room is not known, ahead of a sweep. -/
import Derived.Test.YtpefmbpjanafkaaGreatDoorSnRd
set_option linter.unusedVariables false
set_option linter.unusedSimpArgs false
namespace Go.AM
noncomputable def sweepW (p : Nat) (e : TypeId) (inner : Nat → List AV → Store → Tr R) (m : Nat) (xs : List AV) (σ : Store) : Tr R :=
  match weakT e (xs.getD p .any) σ with
  | some r => inner m (xs.set p r.1) r.2
  | none => inner m xs σ
theorem KOK.sweepW {X : Env} {N : Nat} {c : Code} {k : Kont R} {js : List Nat} (hjs : sortedB N js = true) {inner : Nat → List AV → Store → Tr R} (p : Nat) (e : TypeId)
    (h : ∀ m fr σ, KOK X N c fr σ (inner m (js.map fun j => fr.getD j .any) σ) k) : ∀ m fr σ, KOK X N c fr σ (Go.AM.sweepW p e inner m (js.map fun j => fr.getD j .any) σ) k := by
  intro m fr σ K g a w hN ht hf hs hG
  unfold Go.AM.sweepW at ht
  generalize hxs : (js.map fun j => fr.getD j .any) = xs at ht
  split at ht
  · rename_i r hw
    unfold weakT at hw
    split at hw
    case h_2 => cases hw
    rename_i id n cap hx0
    split at hw
    case h_2 => cases hw
    rename_i l hh
    split at hw
    case h_2 => cases hw
    rename_i x hnew
    cases hw
    have hpl : p < xs.length := by
      rcases Nat.lt_or_ge p xs.length with h1 | h1
      · exact h1
      · rw [List.getD_eq_getElem?_getD, List.getElem?_eq_none h1] at hx0; cases hx0
    have hpj : p < js.length := by rw [← hxs, List.length_map] at hpl; exact hpl
    have hx1 : fr.getD (js.getD p 0) .any = .slice id 0 n cap 1 := by
      rw [← hx0, ← hxs]
      simp [List.getD_eq_getElem?_getD, List.getElem?_eq_getElem hpj]
    have hv := hf.get (js.getD p 0)
    rw [hx1] at hv
    obtain ⟨g', q1, q2, q3⟩ := weak_sim hs hv hh ⟨_, hnew⟩
    have hlen : js.length = (xs.set p (bslOf σ.next l)).length := by rw [List.length_set, ← hxs, List.length_map]
    have ht' : (inner m (js.map fun j => (frS 0 N (js.zip (xs.set p (bslOf σ.next l)))).getD j .any) ((σ.kill id).new (.bytes e l))).sat K := by
      rw [frS_map hjs hlen]; exact ht
    refine wp_mono (h m _ _ K g' a w (frS_length _ _ _) ht' ?_ q1 (Ghost.GR_mono hG q2.le)) ?_
    · refine hf.anew hN ?_
      rw [hxs]
      refine (All2_self (R := fun x z => ∀ v, VR g x v → VR g' z v) (fun x v hv => hv.mono q2.le) xs).setR ?_
      intro y hy v hv
      have : y = .slice id 0 n cap 1 := by
        rw [List.getD_eq_getElem?_getD, hy] at hx0; exact hx0
      rw [this] at hv
      exact q3 v hv
    · intro ex a' w' hm
      exact Meets.trans q2 hm
  · rw [← hxs] at ht
    exact h m fr σ K g a w hN ht hf hs hG
/-- The like for a row in a cell of the block at which a slot points. -/
noncomputable def weakC (sp p : Nat) (e : TypeId) (xs : List AV) (σ : Store) : Option Store :=
  match xs.getD sp .any with
  | .ptr b 0 => weakB b p e σ
  | _ => none
noncomputable def sweepC (sp p : Nat) (e : TypeId) (inner : Nat → List AV → Store → Tr R) (m : Nat) (xs : List AV) (σ : Store) : Tr R :=
  match weakC sp p e xs σ with
  | some τ => inner m xs τ
  | none => inner m xs σ
theorem KOK.sweepC {X : Env} {N : Nat} {c : Code} {k : Kont R} {js : List Nat} {inner : Nat → List AV → Store → Tr R} (sp p : Nat) (e : TypeId)
    (h : ∀ m fr σ, KOK X N c fr σ (inner m (js.map fun j => fr.getD j .any) σ) k) : ∀ m fr σ, KOK X N c fr σ (Go.AM.sweepC sp p e inner m (js.map fun j => fr.getD j .any) σ) k := by
  intro m fr σ K g a w hN ht hf hs hG
  unfold Go.AM.sweepC at ht
  split at ht
  · rename_i τ hw
    have hw2 : ∃ g', Sim g' τ w ∧ Ext g g' w w := by
      unfold weakC at hw
      split at hw
      · exact weakB_sim hs hw
      · cases hw
    obtain ⟨g', q1, q2⟩ := hw2
    refine wp_mono (h m fr τ K g' a w hN ht (hf.mono q2.le) q1 (Ghost.GR_mono hG q2.le)) ?_
    intro ex a' w' hm
    exact Meets.trans q2 hm
  · exact h m fr σ K g a w hN ht hf hs hG
/-- A nil pointer in the first cell of the block at which a slot points, told as nil or that block. -/
noncomputable def weakN (sp : Nat) (xs : List AV) (σ : Store) : Option Store :=
  match xs.getD sp .any with
  | .ptr b 0 => match σ.get b with
    | some (.cells t (.nilp :: cs)) => some (σ.upd b (.cells t (.np b 0 :: cs)))
    | some (.cells t (.ptr b' 0 :: cs)) => cond (Nat.beq b' b) (some (σ.upd b (.cells t (.np b 0 :: cs)))) none
    | _ => none
  | _ => none
noncomputable def sweepN (sp : Nat) (inner : Nat → List AV → Store → Tr R) (m : Nat) (xs : List AV) (σ : Store) : Tr R :=
  match weakN sp xs σ with
  | some τ => inner m xs τ
  | none => inner m xs σ
theorem weakN_sim {g : Ghost} {σ τ : Store} {w : World} (hs : Sim g σ w) {sp : Nat} {xs : List AV} (h : weakN sp xs σ = some τ) : Sim g τ w := by
  have main : ∀ b t x cs, σ.get b = some (.cells t (x :: cs)) → (∀ v, VR g x v → b < g.next → VR g (.np b 0) v) → Sim g (σ.upd b (.cells t (.np b 0 :: cs))) w := by
    intro b t x cs hg hx
    refine ⟨hs.next, fun id bl hid => ?_, hs.inj, hs.imm, hs.apart, hs.lt⟩
    by_cases he : id = b
    · subst he
      have e1 : (σ.upd id (.cells t (.np id 0 :: cs))).get id = some (.cells t (.np id 0 :: cs)) := PT.get_upd _ _ _ _ hg
      rw [e1] at hid
      cases hid
      obtain ⟨b1, n1, o1, hp1, ho1, l, rest, h1, h2, h3, h4⟩ := hs.blk _ _ hg
      cases h3 with
      | cons hv hvs => exact ⟨b1, n1, o1, hp1, ho1, _, rest, h1, h2, .cons (hx _ hv (hs.lt _ _ _ hp1).1) hvs, h4⟩
    · have e1 : (σ.upd b (.cells t (.np b 0 :: cs))).get id = σ.get id := PT.get_upd_ne _ _ _ _ he
      rw [e1] at hid
      exact hs.blk id bl hid
  unfold weakN at h
  split at h
  case h_2 => cases h
  rename_i b _
  split at h
  · rename_i t cs hg
    cases h
    exact main b t _ cs hg fun v hv hb => by cases hv; exact .npN _ _ hb
  · rename_i t b' cs hg
    rcases cond_yes h with ⟨hb, h⟩ | ⟨_, h⟩
    · cases h
      have := Nat.eq_of_beq_eq_true hb
      subst this
      exact main b' t _ cs hg fun v hv hb => by
        cases hv with
        | ptr _ _ a h1 h2 => exact .npP _ _ a h1 h2
    · cases h
  · cases h
theorem KOK.sweepN {X : Env} {N : Nat} {c : Code} {k : Kont R} {js : List Nat} {inner : Nat → List AV → Store → Tr R} (sp : Nat)
    (h : ∀ m fr σ, KOK X N c fr σ (inner m (js.map fun j => fr.getD j .any) σ) k) : ∀ m fr σ, KOK X N c fr σ (Go.AM.sweepN sp inner m (js.map fun j => fr.getD j .any) σ) k := by
  intro m fr σ K g a w hN ht hf hs hG
  unfold Go.AM.sweepN at ht
  split at ht
  · rename_i τ hw
    exact h m fr τ K g a w hN ht hf (weakN_sim hs hw) hG
  · exact h m fr σ K g a w hN ht hf hs hG
end Go.AM
