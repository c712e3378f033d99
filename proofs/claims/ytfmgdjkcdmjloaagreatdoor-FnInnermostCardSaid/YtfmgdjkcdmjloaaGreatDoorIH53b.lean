/- Functions of the program, told as Lean functions of abstract values and stores, each with its proof. -/
import Derived.Test.YtfmgdjkcdmjloaaGreatDoorSmAcc
import Derived.Test.YtfmgdjkcdmjloaaGreatDoorIH53
set_option linter.unusedVariables false
set_option linter.unusedSimpArgs false
namespace Go.Proofs.YtfmgdjkcdmjloaaGreatDoor
open Go.AM
def bad53 : List UInt8 := [92, 96, 60, 91, 33, 95, 42, 46, 45, 34, 39, 126, 10, 38, 58, 93]
noncomputable def a53_2 (run : FuncId → List AV → Store → Tr R) (fu : Nat) : Nat → AV → AV → AV → AV → AV → AV → Store → Tr R
  | 0 => fun _ _ _ _ _ _ _ => .fail
  | m + 1 => fun x0 x1 x5 x6 x7 x8 σ => match skipA bad53 x1 x8 with
    | some y => a53_2 run fu m x0 x1 x5 x6 x7 y σ
    | none => c53_2b run fu (a53_2 run fu m) x0 x1 x5 x6 x7 x8 σ
/-- A byte that means nothing is gone over. -/
theorem plain53 (run : FuncId → List AV → Store → Tr R) (fu : Nat) (s2 : AV → AV → AV → AV → AV → AV → Store → Tr R) (x0 x5 x6 x7 : AV) (s : List UInt8) (j : Nat) (σ : Store) (hj : j < s.length) (hs : s.length ≤ 1000000000) (hb : s.getD j 0 ∉ bad53) :
    (c53_2b run fu s2 x0 (.str s) x5 x6 x7 (.int .i64 j) σ).val = (s2 x0 (.str s) x5 x6 x7 (.int .i64 ((j + 1 : Nat) : Int)) σ).val := by
  have hne : ∀ c : UInt8, c ∈ bad53 → decide (((s.getD j 0).toNat : Int) = (c.toNat : Int)) = false := by
    intro c hc
    simp only [decide_eq_false_iff_not]
    intro e
    have e2 : (s.getD j 0).toNat = c.toNat := by exact_mod_cast e
    have : s.getD j 0 = c := UInt8.toNat_inj.1 e2
    exact hb (this ▸ hc)
  have n92 := hne 92 (by decide)
  have n96 := hne 96 (by decide)
  have n60 := hne 60 (by decide)
  have n91 := hne 91 (by decide)
  have n33 := hne 33 (by decide)
  have n95 := hne 95 (by decide)
  have n42 := hne 42 (by decide)
  have n46 := hne 46 (by decide)
  have n45 := hne 45 (by decide)
  have n34 := hne 34 (by decide)
  have n39 := hne 39 (by decide)
  have n126 := hne 126 (by decide)
  have n10 := hne 10 (by decide)
  have n38 := hne 38 (by decide)
  have n58 := hne 58 (by decide)
  have n93 := hne 93 (by decide)
  unfold c53_2b
  rw [val_lenS, val_lt, val_ifK, show decide ((j : Int) < (s.length : Nat)) = true by simp; omega, cond_true, val_idxS _ _ _ _ (by omega) (by omega), Int.toNat_natCast]
  rw [val_eq, val_ifK, show decide (((s.getD j 0).toNat : Int) = 92) = false from n92, cond_false]
  rw [val_eq, val_ifK, show decide (((s.getD j 0).toNat : Int) = 96) = false from n96, cond_false]
  rw [val_eq, val_ifK, show decide (((s.getD j 0).toNat : Int) = 60) = false from n60, cond_false]
  rw [val_eq, val_ifK, show decide (((s.getD j 0).toNat : Int) = 91) = false from n91, cond_false]
  rw [val_eq, val_ifK, show decide (((s.getD j 0).toNat : Int) = 33) = false from n33, cond_false]
  rw [val_eq, val_ifK, show decide (((s.getD j 0).toNat : Int) = 95) = false from n95, cond_false]
  rw [val_eq, show decide (((s.getD j 0).toNat : Int) = 42) = false from n42]
  unfold c53_9
  rw [val_ifK, cond_false]
  rw [val_eq, val_ifK, show decide (((s.getD j 0).toNat : Int) = 46) = false from n46, cond_false]
  rw [val_eq, val_ifK, show decide (((s.getD j 0).toNat : Int) = 45) = false from n45, cond_false]
  rw [val_eq, val_ifK, show decide (((s.getD j 0).toNat : Int) = 34) = false from n34, cond_false]
  rw [val_eq, show decide (((s.getD j 0).toNat : Int) = 39) = false from n39]
  unfold c53_10
  rw [val_ifK, cond_false]
  rw [val_eq, val_ifK, show decide (((s.getD j 0).toNat : Int) = 126) = false from n126, cond_false]
  rw [val_eq, val_ifK, show decide (((s.getD j 0).toNat : Int) = 10) = false from n10, cond_false]
  rw [val_eq, val_ifK, show decide (((s.getD j 0).toNat : Int) = 38) = false from n38, cond_false]
  rw [val_eq, val_ifK, show decide (((s.getD j 0).toNat : Int) = 58) = false from n58, cond_false]
  unfold c53_3
  rw [show ∀ f : AV → Tr R, neOK (nilEq nilF) .nilf .nilf f = f (.bool false) from fun _ => rfl, val_ifK, cond_false]
  unfold c53_4
  rw [val_idxS _ _ _ _ (by omega) (by omega), Int.toNat_natCast, val_eq, show decide (((s.getD j 0).toNat : Int) = 93) = false from n93]
  rw [val_grdT, show (false == true) = false from rfl, cond_false, val_grdT, show (false == true) = false from rfl, cond_false, val_grdT, show (false == true) = false from rfl, cond_false, val_pickK, cond_false, val_ifK, cond_false]
  unfold c53_5
  rw [val_addK _ _ _ (by omega) (by omega)]
  rfl

theorem oka53_2 {run : FuncId → List AV → Store → Tr R} (hrun : RunOK X0 run) (fu : Nat) : ∀ fr σ, KOK X0 335 (subC [true, true, true, true, true, true, true, true, true, false, false] b53) fr σ ((fun fr σ => a53_2 run fu fu (fr.getD 0 .any) (fr.getD 1 .any) (fr.getD 5 .any) (fr.getD 6 .any) (fr.getD 7 .any) (fr.getD 8 .any) σ) fr σ) (blockK 0 (thenK (fun fr σ => c53_1 run fu (fr.getD 0 .any) (fr.getD 1 .any) σ) k53)) := by
  have hb : ∀ (s2 : AV → AV → AV → AV → AV → AV → Store → Tr R) fr σ, KOK X0 335 (subC [true, true, true, true, true, true, true, true, true, false, false, false] b53) fr σ (c53_2b run fu s2 (fr.getD 0 .any) (fr.getD 1 .any) (fr.getD 5 .any) (fr.getD 6 .any) (fr.getD 7 .any) (fr.getD 8 .any) σ) (thenK (fun fr σ => s2 (fr.getD 0 .any) (fr.getD 1 .any) (fr.getD 5 .any) (fr.getD 6 .any) (fr.getD 7 .any) (fr.getD 8 .any) σ) (blockK 0 (thenK (fun fr σ => c53_1 run fu (fr.getD 0 .any) (fr.getD 1 .any) σ) k53))) :=
    fun s2 fr σ => KOK.piece env0 hrun [0, 1, 5, 6, 7, 8] (eq53_2 run fu s2 (fr.getD 0 .any) (fr.getD 1 .any) (fr.getD 5 .any) (fr.getD 6 .any) (fr.getD 7 .any) (fr.getD 8 .any) σ) (owed53_2 hrun fu s2)
  have h := KOK.loopA (X := X0) (N := 335) (b := subC [true, true, true, true, true, true, true, true, true, false, false, false] b53) (k := blockK 0 (thenK (fun fr σ => c53_1 run fu (fr.getD 0 .any) (fr.getD 1 .any) σ) k53))
    (u := fun m fr σ => a53_2 run fu m (fr.getD 0 .any) (fr.getD 1 .any) (fr.getD 5 .any) (fr.getD 6 .any) (fr.getD 7 .any) (fr.getD 8 .any) σ) (fun _ _ => rfl) ?_
  · exact fun fr σ => h fu fr σ
  intro m fr σ K g a w hN ht hf hs hG ih
  unfold a53_2 at ht
  split at ht
  case h_2 =>
    exact LO.step (hb (a53_2 run fu m) fr σ) hN ht hf hs hG fun fr' σ' g' a' w' h1 h2 h3 h4 h5 _ => ih fr' σ' g' a' w' h1 h2 h3 h4 h5
  rename_i y hy
  obtain ⟨r0, hr0, hK0⟩ := Tr.sat_iff.1 ht
  have vr : ∀ i, i < 335 → ∃ v, VR g (fr.getD i .any) v := by
    intro i hi
    have hl := hf.vrs.length
    obtain ⟨v, hv, h⟩ := hf.vrs.get i (fr.getD i .any) (by rw [List.getD_eq_getElem?_getD, List.getElem?_eq_getElem (by omega)]; rfl)
    exact ⟨v, h⟩
  obtain ⟨v1, hv1⟩ := vr 1 (by omega)
  obtain ⟨v8, hv8⟩ := vr 8 (by omega)
  obtain ⟨l, j, n, hx, hok, hv8', hjn, hbad, hny, hsz⟩ := skipA_ok hy hv1 hv8
  -- one letter after the other
  have walk : ∀ t (fr2 : List AV) (g2 : Ghost) (a2 : Act) (w2 : World) (i : Nat), i + t = j + n → j ≤ i → fr2.length = 335 → fr2.getD 0 .any = fr.getD 0 .any → fr2.getD 1 .any = .str (den g.sv l) → fr2.getD 5 .any = fr.getD 5 .any → fr2.getD 6 .any = fr.getD 6 .any → fr2.getD 7 .any = fr.getD 7 .any → fr2.getD 8 .any = .int .i64 i →
      g2.sv = g.sv → FR g2 fr2 a2 → Sim g2 σ w2 → GR X0 g2 →
      LO X0 335 (subC [true, true, true, true, true, true, true, true, true, false, false, false] b53) (blockK 0 (thenK (fun fr σ => c53_1 run fu (fr.getD 0 .any) (fr.getD 1 .any) σ) k53)) K g2 a2 w2 := by
    intro t
    induction t with
    | zero =>
      intro fr2 g2 a2 w2 i hi _ hN2 e0 e1 e5 e6 e7 e8 hsv hf2 hs2 hG2
      refine ih ((fr2.set 1 (.sstr l)).set 8 y) σ g2 a2 w2 (by simpa using hN2) ?_ ?_ hs2 hG2
      · have l2 : 8 < (fr2.set 1 (.sstr l)).length := by rw [List.length_set]; omega
        show (a53_2 run fu m (((fr2.set 1 (.sstr l)).set 8 y).getD 0 .any) (((fr2.set 1 (.sstr l)).set 8 y).getD 1 .any) (((fr2.set 1 (.sstr l)).set 8 y).getD 5 .any) (((fr2.set 1 (.sstr l)).set 8 y).getD 6 .any) (((fr2.set 1 (.sstr l)).set 8 y).getD 7 .any) (((fr2.set 1 (.sstr l)).set 8 y).getD 8 .any) σ).sat K
        rw [fr_set_self l2, fr_set_ne (by decide), fr_set_ne (by decide), fr_set_ne (by decide), fr_set_self (by omega), fr_set_ne (by decide), fr_set_ne (by decide), fr_set_ne (by decide), fr_set_ne (by decide), fr_set_ne (by decide), fr_set_ne (by decide), e0, e5, e6, e7, ← hx]
        exact ht
      · refine (hf2.retell (i := 1) ?_).retell (i := 8) ?_
        · intro v hv
          rw [e1] at hv
          cases hv
          rw [← hsv]
          exact .sstr l (by rw [hsv]; exact hok)
        · intro v hv
          rw [fr_set_ne (by decide), e8] at hv
          cases hv
          have hi : i = j + n := by omega
          subst hi
          exact hny g2 hsv
    | succ t iht =>
      intro fr2 g2 a2 w2 i hi hji hN2 e0 e1 e5 e6 e7 e8 hsv hf2 hs2 hG2
      classical
      let s2 : AV → AV → AV → AV → AV → AV → Store → Tr R := fun y0 y1 y5 y6 y7 y8 τ => if y0 = fr.getD 0 .any ∧ y1 = .str (den g.sv l) ∧ y5 = fr.getD 5 .any ∧ y6 = fr.getD 6 .any ∧ y7 = fr.getD 7 .any ∧ y8 = .int .i64 ((i + 1 : Nat) : Int) ∧ τ = σ then .ret r0 else .fail
      have hval := plain53 run fu s2 (fr.getD 0 .any) (fr.getD 5 .any) (fr.getD 6 .any) (fr.getD 7 .any) (den g.sv l) i σ (by omega) hsz (hbad i hji (by omega))
      have hs2v : (s2 (fr.getD 0 .any) (.str (den g.sv l)) (fr.getD 5 .any) (fr.getD 6 .any) (fr.getD 7 .any) (.int .i64 ((i + 1 : Nat) : Int)) σ) = .ret r0 := if_pos ⟨rfl, rfl, rfl, rfl, rfl, rfl, rfl⟩
      rw [hs2v] at hval
      refine LO.step (hb s2 fr2 σ) hN2 ?_ hf2 hs2 hG2 ?_
      · rw [e0, e1, e5, e6, e7, e8]
        exact Tr.sat_iff.2 ⟨r0, hval, hK0⟩
      · intro fr' σ' g' a' w' q1 q2 q3 q4 q5 q6
        have q2 : (s2 (fr'.getD 0 .any) (fr'.getD 1 .any) (fr'.getD 5 .any) (fr'.getD 6 .any) (fr'.getD 7 .any) (fr'.getD 8 .any) σ').sat K := q2
        by_cases hc : fr'.getD 0 .any = fr.getD 0 .any ∧ fr'.getD 1 .any = .str (den g.sv l) ∧ fr'.getD 5 .any = fr.getD 5 .any ∧ fr'.getD 6 .any = fr.getD 6 .any ∧ fr'.getD 7 .any = fr.getD 7 .any ∧ fr'.getD 8 .any = .int .i64 ((i + 1 : Nat) : Int) ∧ σ' = σ
        · obtain ⟨f0, f1, f5, f6, f7, f8, rfl⟩ := hc
          exact iht fr' g' a' w' (i + 1) (by omega) (by omega) q1 f0 f1 f5 f6 f7 f8 (q6.trans hsv) q3 q4 q5
        · have : (s2 (fr'.getD 0 .any) (fr'.getD 1 .any) (fr'.getD 5 .any) (fr'.getD 6 .any) (fr'.getD 7 .any) (fr'.getD 8 .any) σ') = .fail := if_neg hc
          rw [this] at q2
          exact q2.elim
  refine walk n ((fr.set 1 (.str (den g.sv l))).set 8 (.int .i64 j)) g a w j rfl (Nat.le_refl _) (by simpa using hN) ?_ ?_ ?_ ?_ ?_ ?_ rfl ?_ hs hG
  · rw [fr_set_ne (by decide), fr_set_ne (by decide)]
  · rw [fr_set_ne (by decide), fr_set_self (by omega)]
  · rw [fr_set_ne (by decide), fr_set_ne (by decide)]
  · rw [fr_set_ne (by decide), fr_set_ne (by decide)]
  · rw [fr_set_ne (by decide), fr_set_ne (by decide)]
  · rw [fr_set_self (by rw [List.length_set]; omega)]
  · refine (hf.retell (i := 1) ?_).retell (i := 8) ?_
    · intro v hv
      rw [hx] at hv
      cases hv
      exact .str _
    · intro v hv
      rw [fr_set_ne (by decide)] at hv
      rw [hv8' v hv]
      exact .int _ _
end Go.Proofs.YtfmgdjkcdmjloaaGreatDoor
namespace Go.Proofs.YtfmgdjkcdmjloaaGreatDoor
open Go.AM

noncomputable def c53 (run : FuncId → List AV → Store → Tr R) (fu : Nat) (x0 x1 : AV) (σ : Store) : Tr R :=
  calK run 60 [x1] σ fun x22 σ1 =>
  nchkK x0 fun x25 =>
  addrK x25 7 fun x26 =>
  st1K σ1 x26 x22 fun _ σ2 =>
  nchkK x0 fun x28 =>
  addrK x28 9 fun x29 =>
  st1K σ2 x29 .nils fun _ σ3 =>
  nchkK x0 fun x31 =>
  addrK x31 8 fun x32 =>
  st1K σ3 x32 (.int .i64 0) fun _ σ4 =>
  a53_2 run fu fu x0 x22 .nils (.int .i64 0) (.bool false) (.int .i64 0) σ4

theorem eq53 (run : FuncId → List AV → Store → Tr R) (fu : Nat) (x0 x1 : AV) (σ : Store) : codeK X0 run (.seq .leaf (.seq .leaf (.seq .leaf (.seq .leaf (.seq .leaf (.seq .leaf (.seq .leaf (.seq .leaf (.seq .leaf (.seq (.block (.sub (fun fr σ => a53_2 run fu fu (fr.getD 0 .any) (fr.getD 1 .any) (fr.getD 5 .any) (fr.getD 6 .any) (fr.getD 7 .any) (fr.getD 8 .any) σ))) (.sub (fun fr σ => c53_1 run fu (fr.getD 0 .any) (fr.getD 1 .any) σ)))))))))))) (subC [] b53) ([x0, x1] ++ padA (335 - 2)) σ k53 = c53 run fu x0 x1 σ := by kernel_rfl

theorem ok53 {run : FuncId → List AV → Store → Tr R} (hrun : RunOK X0 run) (fu : Nat) (x0 x1 : AV) (σ : Store) : CallOK X0 53 [x0, x1] σ (c53 run fu x0 x1 σ) :=
  KOK.body (fn := Tryz.f53) (c := subC [] b53) (by kernel_rfl) (by kernel_rfl) (by show 2 ≤ 335; decide) (KOK.whole env0 hrun (eq53 run fu x0 x1 σ) ⟨trivial, ⟨trivial, ⟨trivial, ⟨trivial, ⟨trivial, ⟨trivial, ⟨trivial, ⟨trivial, ⟨trivial, ⟨(oka53_2 hrun fu), (ok53_1 hrun fu)⟩⟩⟩⟩⟩⟩⟩⟩⟩⟩)

end Go.Proofs.YtfmgdjkcdmjloaaGreatDoor
