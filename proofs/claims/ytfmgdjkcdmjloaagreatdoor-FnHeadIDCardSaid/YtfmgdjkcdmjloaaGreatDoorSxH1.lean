/- IndexByte at a text with unknown words. -/
import Derived.Test.YtfmgdjkcdmjloaaGreatDoorSxS1
set_option linter.unusedVariables false
set_option linter.unusedSimpArgs false
namespace Go.Proofs.YtfmgdjkcdmjloaaGreatDoor
open Go.AM
theorem indexB_app {c : UInt8} : ∀ (a b : List UInt8) (i : Nat), c ∉ a → indexB c (a ++ b) i = indexB c b (i + a.length)
  | [], b, i, _ => by simp
  | d :: a, b, i, h => by
    have h1 : Nat.beq d.toNat c.toNat = false := by
      cases hb : Nat.beq d.toNat c.toNat with
      | false => rfl
      | true => exact (h (by rw [UInt8.toNat_inj.1 (Nat.eq_of_beq_eq_true hb)]; simp)).elim
    show cond (Nat.beq d.toNat c.toNat) (i : Int) (indexB c (a ++ b) (i + 1)) = _
    rw [h1, cond_false, indexB_app a b (i + 1) (fun hc => h (List.mem_cons_of_mem _ hc)), List.length_cons]
    congr 1; omega
theorem sFind_ok {sv : Nat → List UInt8} {c : UInt8} : ∀ {l : List Seg} {n : Int} {ts : List Tm} {r : Option (Int × List Tm)} {i : Nat}, sFind [c] l n ts = some r → SegsOK sv l → TsOK sv ts → (i : Int) = n + tval sv ts →
    match r with
    | none => indexB c (den sv l) i = -1
    | some (m, us) => TsOK sv us ∧ indexB c (den sv l) i = m + tval sv us
  | [], n, ts, r, i, h, _, _, _ => by cases h; rfl
  | .b d :: l, n, ts, r, i, h, hl, ht, hi => by
    unfold sFind at h
    rcases cond_yes h with ⟨hc, h⟩ | ⟨hc, h⟩
    · cases h
      have : d = c := by simpa using (memB_iff _ _).1 hc
      subst this
      refine ⟨ht, ?_⟩
      show cond (Nat.beq d.toNat d.toNat) (i : Int) _ = _
      rw [Nat.beq_refl, cond_true]; exact hi
    · have hne : c ∉ [d] := by
        have := memB_ok hc
        simp only [List.mem_singleton] at this ⊢
        exact fun e => this e.symm
      have := sFind_ok (i := i + 1) h hl ht (by omega)
      have e : indexB c (den sv (.b d :: l)) i = indexB c (den sv l) (i + 1) := indexB_app [d] (den sv l) i hne
      rw [e]; exact this
  | .w k cls lo hi :: l, n, ts, r, i, h, hl, ht, hi' => by
    unfold sFind at h
    rcases cond_yes h with ⟨hc, h⟩ | ⟨_, h⟩
    · have hne : c ∉ sv k := fun hm => noneIn_ok' hc c (hl.1.2.2 c hm) (by simp)
      obtain ⟨b1, b2⟩ := addTs_ok (a := ts) (b := [⟨k, 1, lo, hi⟩]) ht ⟨⟨hl.1.1, hl.1.2.1⟩, trivial⟩
      simp only [tval, Int.one_mul, Int.add_zero] at b2
      have := sFind_ok (i := i + (sv k).length) h hl.2 b1 (by rw [b2]; omega)
      have e : indexB c (den sv (.w k cls lo hi :: l)) i = indexB c (den sv l) (i + (sv k).length) := indexB_app (sv k) (den sv l) i hne
      rw [e]; exact this
    · cases h
/-- strings.IndexByte at a text with unknown words. -/
theorem ok24s (l : List Seg) (k : Nat) (σ : Store) : CallOK X0 24 [.sstr l, .int .u8 (.ofNat k)] σ (opt (sIndex [k.toUInt8] l) fun r => .ret (r, σ)) := by
  intro K g w args' ht ha hs hG
  obtain ⟨r, hr, hk⟩ := Tr.sat_opt ht
  clear ht
  cases ha with
  | cons hx ha =>
  cases hx with
  | sstr _ hok =>
  have main := ok24 (den g.sv l) (.ofNat k) σ (fun r => r = (.int .i64 (indexB k.toUInt8 (den g.sv l) 0), σ)) g w _ rfl (.cons (.str _) ha) hs hG
  refine main.mono ?_
  rintro e w' ⟨v, a, σ1, g', rfl, hK, hS, hE, hvr⟩
  cases hK
  cases hvr
  refine ⟨_, _, _, g', rfl, hk, hS, hE, ?_⟩
  unfold sIndex at hr
  split at hr
  · rename_i hf
    cases hr
    have := sFind_ok (sv := g.sv) (i := 0) hf hok trivial rfl
    simp only at this
    rw [this]; exact .int _ _
  · rename_i n us hf
    cases hr
    obtain ⟨h1, h2⟩ := sFind_ok (sv := g.sv) (i := 0) hf hok trivial rfl
    rw [h2]
    exact (VR_mkLin h1).mono hE.le
  · cases hr
end Go.Proofs.YtfmgdjkcdmjloaaGreatDoor
/- LastIndexByteString at a text with unknown words. -/
namespace Go.Proofs.YtfmgdjkcdmjloaaGreatDoor
open Go.AM
def lastB (c : UInt8) : List UInt8 → Nat → Int → Int
  | [], _, best => best
  | d :: l, i, best => lastB c l (i + 1) (cond (Nat.beq d.toNat c.toNat) (i : Int) best)
theorem lastB_app {c : UInt8} : ∀ (a b : List UInt8) (i : Nat) (z : Int), lastB c (a ++ b) i z = lastB c b (i + a.length) (lastB c a i z)
  | [], b, i, z => by simp [lastB]
  | d :: a, b, i, z => by
    show lastB c (a ++ b) (i + 1) _ = _
    rw [lastB_app a b (i + 1), List.length_cons, show i + 1 + a.length = i + (a.length + 1) by omega]
    rfl
theorem lastB_no {c : UInt8} : ∀ (a : List UInt8) (i : Nat) (z : Int), c ∉ a → lastB c a i z = z
  | [], _, _, _ => rfl
  | d :: a, i, z, h => by
    have h1 : Nat.beq d.toNat c.toNat = false := by
      cases hb : Nat.beq d.toNat c.toNat with
      | false => rfl
      | true => exact (h (by rw [UInt8.toNat_inj.1 (Nat.eq_of_beq_eq_true hb)]; simp)).elim
    show lastB c a (i + 1) (cond (Nat.beq d.toNat c.toNat) (i : Int) z) = z
    rw [h1, cond_false]
    exact lastB_no a (i + 1) z fun hc => h (List.mem_cons_of_mem _ hc)
theorem loop192 (c : UInt8) (s : List UInt8) (σ : Store) (fu : Nat) (hlen : s.length ≤ 1000000000) : ∀ m, m ≤ s.length → (c192_2 runB fu (m + 1) (.str s) (.int .u8 c.toNat) (.int .i64 ((m : Int) - 1)) σ).val = some (.int .i64 (lastB c (s.take m) 0 (-1)), σ)
  | 0, _ => rfl
  | m + 1, h => by
    have ih := loop192 c s σ fu hlen m (by omega)
    have hm : m < s.length := by omega
    have hd : s.take (m + 1) = s.take m ++ [s.getD m 0] := by
      rw [List.take_succ_eq_append_getElem hm, List.getD_eq_getElem?_getD, List.getElem?_eq_getElem hm]; rfl
    have hl : (s.take m).length = m := by rw [List.length_take]; omega
    rw [show ((m + 1 : Nat) : Int) - 1 = (m : Int) by omega]
    unfold c192_2 c192_2b
    rw [val_ge, val_ifK, show decide ((0 : Int) ≤ (m : Int)) = true by simp, cond_true, val_idxS _ _ _ _ (by omega) (by omega), Int.toNat_natCast, val_eq, val_ifK, hd, lastB_app, hl, Nat.zero_add]
    show _ = some (AV.int .i64 (cond (Nat.beq (s.getD m 0).toNat c.toNat) (m : Int) (lastB c (s.take m) 0 (-1))), σ)
    cases hb : Nat.beq (s.getD m 0).toNat c.toNat with
    | true =>
      have := Nat.eq_of_beq_eq_true hb
      rw [show decide (((s.getD m 0).toNat : Int) = (c.toNat : Int)) = true by simp at this ⊢; exact_mod_cast this, cond_true, cond_true, val_ret]
    | false =>
      have hne : ¬ (s.getD m 0).toNat = c.toNat := fun e => by rw [e, Nat.beq_refl] at hb; cases hb
      rw [show decide (((s.getD m 0).toNat : Int) = (c.toNat : Int)) = false by simp at hne ⊢; exact_mod_cast hne, cond_false, cond_false, val_subK _ _ _ (by omega) (by omega)]
      exact ih
theorem sLastGo_ok {g : Ghost} {c : UInt8} : ∀ {l : List Seg} {n : Int} {ts : List Tm} {best r : AV} {i : Nat} {z : Int}, sLastGo [c] l n ts best = some r → SegsOK g.sv l → TsOK g.sv ts → (i : Int) = n + tval g.sv ts → VR g best (.int .i64 z) → VR g r (.int .i64 (lastB c (den g.sv l) i z))
  | [], n, ts, best, r, i, z, h, _, _, _, hb => by cases h; exact hb
  | .b d :: l, n, ts, best, r, i, z, h, hl, ht, hi, hb => by
    unfold sLastGo at h
    rcases cond_yes h with ⟨hc, h⟩ | ⟨hc, h⟩
    · have : d = c := by simpa using (memB_iff _ _).1 hc
      subst this
      have := sLastGo_ok (i := i + 1) (z := i) h hl ht (by omega) (by rw [hi]; exact VR_mkLin ht)
      show VR g r (.int .i64 (lastB d (den g.sv l) (i + 1) (cond (Nat.beq d.toNat d.toNat) (i : Int) z)))
      rw [Nat.beq_refl, cond_true]; exact this
    · have hne : c ∉ [d] := by
        have := memB_ok hc
        simp only [List.mem_singleton] at this ⊢
        exact fun e => this e.symm
      have := sLastGo_ok (i := i + 1) (z := z) h hl ht (by omega) hb
      have e : lastB c (den g.sv (.b d :: l)) i z = lastB c (den g.sv l) (i + 1) z := by
        rw [show den g.sv (.b d :: l) = [d] ++ den g.sv l from rfl, lastB_app, lastB_no [d] i z hne]; rfl
      rw [e]; exact this
  | .w k cls lo hi :: l, n, ts, best, r, i, z, h, hl, ht, hi', hb => by
    unfold sLastGo at h
    rcases cond_yes h with ⟨hc, h⟩ | ⟨_, h⟩
    · have hne : c ∉ g.sv k := fun hm => noneIn_ok' hc c (hl.1.2.2 c hm) (by simp)
      obtain ⟨b1, b2⟩ := addTs_ok (a := ts) (b := [⟨k, 1, lo, hi⟩]) ht ⟨⟨hl.1.1, hl.1.2.1⟩, trivial⟩
      simp only [tval, Int.one_mul, Int.add_zero] at b2
      have := sLastGo_ok (i := i + (g.sv k).length) (z := z) h hl.2 b1 (by rw [b2]; omega) hb
      have e : lastB c (den g.sv (.w k cls lo hi :: l)) i z = lastB c (den g.sv l) (i + (g.sv k).length) z := by
        rw [show den g.sv (.w k cls lo hi :: l) = g.sv k ++ den g.sv l from rfl, lastB_app, lastB_no (g.sv k) i z hne]
      rw [e]; exact this
    · cases h
/-- LastIndexByteString at a text with unknown words. -/
theorem ok192s (l : List Seg) (k : Nat) (σ : Store) : CallOK X0 192 [.sstr l, .int .u8 (.ofNat k)] σ (must (Nat.ble k 255 && leI ((segLen l).1 + maxTs (segLen l).2) 1000000) (opt (sLast [k.toUInt8] l) fun r => .ret (r, σ))) := by
  intro K g w args' ht ha hs hG
  obtain ⟨hm, ht1⟩ := Tr.sat_must ht
  obtain ⟨r, hr, hk⟩ := Tr.sat_opt ht1
  clear ht ht1
  simp only [Bool.and_eq_true, leI_eq, decide_eq_true_eq] at hm
  have hk8 : k ≤ 255 := by simpa using hm.1
  have ek : k.toUInt8.toNat = k := by simp [UInt8.toNat_ofNat']; omega
  cases ha with
  | cons hx ha =>
  cases hx with
  | sstr _ hok =>
  obtain ⟨a1, a2⟩ := segLen_ok hok
  have a3 := max_ok a1
  have hv : (c192 runB ((den g.sv l).length + 1) (.str (den g.sv l)) (.int .u8 (.ofNat k)) σ).val = some (.int .i64 (lastB k.toUInt8 (den g.sv l) 0 (-1)), σ) := by
    have := loop192 k.toUInt8 (den g.sv l) σ ((den g.sv l).length + 1) (by omega) (den g.sv l).length (Nat.le_refl _)
    rw [List.take_length, ek] at this
    unfold c192
    rw [val_lenS, val_subK _ _ _ (by omega) (by omega)]
    exact this
  have main := ok192 runB_ok ((den g.sv l).length + 1) (.str (den g.sv l)) (.int .u8 (.ofNat k)) σ (fun r => r = (.int .i64 (lastB k.toUInt8 (den g.sv l) 0 (-1)), σ)) g w _ (Tr.sat_of_val hv rfl) (.cons (.str _) ha) hs hG
  refine main.mono ?_
  rintro e w' ⟨v, a, σ1, g', rfl, hK, hS, hE, hvr⟩
  cases hK
  cases hvr
  exact ⟨_, _, _, g', rfl, hk, hS, hE, (sLastGo_ok (i := 0) hr hok trivial rfl (.int _ _)).mono hE.le⟩
end Go.Proofs.YtfmgdjkcdmjloaaGreatDoor
