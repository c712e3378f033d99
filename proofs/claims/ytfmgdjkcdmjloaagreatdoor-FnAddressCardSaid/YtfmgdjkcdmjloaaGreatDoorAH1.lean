/- IndexByte at a text with unknown words. -/
import Derived.Test.YtfmgdjkcdmjloaaGreatDoorAS1
set_option linter.unusedVariables false
set_option linter.unusedSimpArgs false
namespace Go.Proofs.YtfmgdjkcdmjloaaGreatDoor
open Go.AM
theorem indexB_app {c : UInt8} : ∀ (a b : List UInt8) (i : Nat), c ∉ a → indexB c (a ++ b) i = indexB c b (i + a.length)
  | [], b, i, _ => by simp
  | d :: a, b, i, h => by
    have h1 : Nat.beq d.toNat c.toNat = false := by
      cases hb : Nat.beq d.toNat c.toNat with
      | false => rfl
      | true => exact (h (by rw [UInt8.toNat_inj.1 (Nat.eq_of_beq_eq_true hb)]; simp)).elim
    show cond (Nat.beq d.toNat c.toNat) (i : Int) (indexB c (a ++ b) (i + 1)) = _
    rw [h1, cond_false, indexB_app a b (i + 1) (fun hc => h (List.mem_cons_of_mem _ hc)), List.length_cons]
    congr 1; omega
theorem sFind_ok {sv : Nat → List UInt8} {c : UInt8} : ∀ {l : List Seg} {n : Int} {ts : List Tm} {r : Option (Int × List Tm)} {i : Nat}, sFind [c] l n ts = some r → SegsOK sv l → TsOK sv ts → (i : Int) = n + tval sv ts →
    match r with
    | none => indexB c (den sv l) i = -1
    | some (m, us) => TsOK sv us ∧ indexB c (den sv l) i = m + tval sv us
  | [], n, ts, r, i, h, _, _, _ => by cases h; rfl
  | .b d :: l, n, ts, r, i, h, hl, ht, hi => by
    unfold sFind at h
    rcases cond_yes h with ⟨hc, h⟩ | ⟨hc, h⟩
    · cases h
      have : d = c := by simpa using (memB_iff _ _).1 hc
      subst this
      refine ⟨ht, ?_⟩
      show cond (Nat.beq d.toNat d.toNat) (i : Int) _ = _
      rw [Nat.beq_refl, cond_true]; exact hi
    · have hne : c ∉ [d] := by
        have := memB_ok hc
        simp only [List.mem_singleton] at this ⊢
        exact fun e => this e.symm
      have := sFind_ok (i := i + 1) h hl ht (by omega)
      have e : indexB c (den sv (.b d :: l)) i = indexB c (den sv l) (i + 1) := indexB_app [d] (den sv l) i hne
      rw [e]; exact this
  | .w k cls lo hi :: l, n, ts, r, i, h, hl, ht, hi' => by
    unfold sFind at h
    rcases cond_yes h with ⟨hc, h⟩ | ⟨_, h⟩
    · have hne : c ∉ sv k := fun hm => noneIn_ok' hc c (hl.1.2.2 c hm) (by simp)
      obtain ⟨b1, b2⟩ := addTs_ok (a := ts) (b := [⟨k, 1, lo, hi⟩]) ht ⟨⟨hl.1.1, hl.1.2.1⟩, trivial⟩
      simp only [tval, Int.one_mul, Int.add_zero] at b2
      have := sFind_ok (i := i + (sv k).length) h hl.2 b1 (by rw [b2]; omega)
      have e : indexB c (den sv (.w k cls lo hi :: l)) i = indexB c (den sv l) (i + (sv k).length) := indexB_app (sv k) (den sv l) i hne
      rw [e]; exact this
    · cases h
theorem ok24s (l : List Seg) (k : Nat) (σ : Store) : CallOK X0 24 [.sstr l, .int .u8 (.ofNat k)] σ (opt (sIndex [k.toUInt8] l) fun r => .ret (r, σ)) := by
  intro K g w args' ht ha hs hG
  obtain ⟨r, hr, hk⟩ := Tr.sat_opt ht
  clear ht
  cases ha with
  | cons hx ha =>
  cases hx with
  | sstr _ hok =>
  have main := ok24 (den g.sv l) (.ofNat k) σ (fun r => r = (.int .i64 (indexB k.toUInt8 (den g.sv l) 0), σ)) g w _ rfl (.cons (.str _) ha) hs hG
  refine main.mono ?_
  rintro e w' ⟨v, a, σ1, g', rfl, hK, hS, hE, hvr⟩
  cases hK
  cases hvr
  refine ⟨_, _, _, g', rfl, hk, hS, hE, ?_⟩
  unfold sIndex at hr
  split at hr
  · rename_i hf
    cases hr
    have := sFind_ok (sv := g.sv) (i := 0) hf hok trivial rfl
    simp only at this
    rw [this]; exact .int _ _
  · rename_i n us hf
    cases hr
    obtain ⟨h1, h2⟩ := sFind_ok (sv := g.sv) (i := 0) hf hok trivial rfl
    rw [h2]
    exact (VR_mkLin h1).mono hE.le
  · cases hr
end Go.Proofs.YtfmgdjkcdmjloaaGreatDoor
