/- headed at a text with unknown words. -/
import Derived.Test.YtfmgdjkcdmjloaaGreatDoorNLk
import Derived.Test.YtfmgdjkcdmjloaaGreatDoorSnZ
import Derived.Test.YtfmgdjkcdmjloaaGreatDoorDQA
import Derived.Test.YtfmgdjkcdmjloaaGreatDoorDQB
import Derived.Test.YtfmgdjkcdmjloaaGreatDoorSnRa
import Derived.KernelRfl
set_option linter.unusedVariables false
set_option linter.unusedSimpArgs false
namespace Go.Proofs.YtfmgdjkcdmjloaaGreatDoor
open Go.AM
noncomputable def runQ (_ : FuncId) (_ : List AV) (_ : Store) : Tr R := .fail
theorem runQ_ok : RunOK X0 runQ := fun _ _ _ _ _ _ _ h => h.elim
theorem v28 (s p : List UInt8) (σ : Store) (hs : s.length ≤ 1000000000) (hp : p.length ≤ 1000000000) : (c28 runQ 1 (.str s) (.str p) σ).val = some (.bool (decide (s.take p.length = p)), σ) := by
  unfold c28
  rw [val_lenS, val_lenS, val_ge]
  by_cases h : (p.length : Int) ≤ (s.length : Int)
  · rw [show decide ((p.length : Int) ≤ (s.length : Int)) = true by simpa using h]
    rw [val_grdT, show (true == true) = true from rfl, cond_true, val_grdT, show (true == true) = true from rfl, cond_true, val_grdT, show (true == true) = true from rfl, cond_true, val_lenS, val_grdT, show (true == true) = true from rfl, cond_true, val_sliceH _ _ _ _ (by omega) (by omega), val_grdT, show (true == true) = true from rfl, cond_true, val_grdT, show (true == true) = true from rfl, cond_true, val_eqS, val_pickK, cond_true, val_ret, Int.toNat_natCast]
  · rw [show decide ((p.length : Int) ≤ (s.length : Int)) = false by simpa using h]
    rw [val_grdT, show (false == true) = false from rfl, cond_false, val_grdT, show (false == true) = false from rfl, cond_false, val_grdT, show (false == true) = false from rfl, cond_false, val_grdT, show (false == true) = false from rfl, cond_false, val_grdT, show (false == true) = false from rfl, cond_false, val_grdT, show (false == true) = false from rfl, cond_false, val_pickK, cond_false, val_ret]
    have hne : ¬ s.take p.length = p := by
      intro e
      have := congrArg List.length e
      rw [List.length_take] at this
      omega
    rw [decide_eq_false hne]
theorem ok28s (l : List Seg) (p : List UInt8) (σ : Store) : CallOK X0 28 [.sstr l, .str p] σ (must (leI ((segLen l).1 + maxTs (segLen l).2) 1000000 && Nat.ble p.length 1000000) (opt (sPre l p) fun r => .ret (.bool r, σ))) := by
  intro K g w args' ht ha hs hG
  obtain ⟨hm, ht1⟩ := Tr.sat_must ht
  obtain ⟨r, hr, hk⟩ := Tr.sat_opt ht1
  clear ht ht1
  simp only [Bool.and_eq_true, leI_eq, decide_eq_true_eq, Nat.ble_eq] at hm
  cases ha with
  | cons hx ha =>
  cases hx with
  | sstr _ hok =>
  obtain ⟨a1, a2⟩ := segLen_ok hok
  have a3 := max_ok a1
  have e := sPre_ok hr hok
  subst e
  exact ok28 runQ_ok 1 (.str (den g.sv l)) (.str p) σ K g w _ (Tr.sat_of_val (v28 _ _ σ (by omega) (by omega)) hk) (.cons (.str _) ha) hs hG
noncomputable def sw28 (d : List AV → Store → Tr R) : List AV → Store → Tr R
  | [.sstr l, .str p], σ => must (leI ((segLen l).1 + maxTs (segLen l).2) 1000000 && Nat.ble p.length 1000000) (opt (sPre l p) fun r => .ret (.bool r, σ))
  | args, σ => d args σ
theorem sw28_ok {d : List AV → Store → Tr R} (h : ∀ args σ, CallOK X0 28 args σ (d args σ)) (args : List AV) (σ : Store) : CallOK X0 28 args σ (sw28 d args σ) := by
  unfold sw28; split
  · exact ok28s _ _ _
  · exact h _ _
end Go.Proofs.YtfmgdjkcdmjloaaGreatDoor
/- only, at texts that are known; FnDots where the text's HTML is known. -/
namespace Go.Proofs.YtfmgdjkcdmjloaaGreatDoor
open Go.AM
noncomputable def allB (s set : List UInt8) : Bool := s.all fun c => set.contains c
noncomputable def onlyB (s set : List UInt8) (most : Int) : Bool := decide ((s.length : Int) ≤ most) && allB s set
theorem indexB_notmem {c : UInt8} : ∀ {l : List UInt8} {i : Nat}, c ∉ l → indexB c l i = -1
  | [], _, _ => rfl
  | d :: l, i, h => by
    unfold indexB
    have h1 : Nat.beq d.toNat c.toNat = false := by
      cases hb : Nat.beq d.toNat c.toNat with
      | false => rfl
      | true => exact (h (by rw [UInt8.toNat_inj.1 (Nat.eq_of_beq_eq_true hb)]; simp)).elim
    rw [h1, cond_false]
    exact indexB_notmem fun hc => h (List.mem_cons_of_mem _ hc)
theorem loop11' (set s : List UInt8) (σ : Store) (fu : Nat) (hlen : s.length ≤ 1000000) : ∀ m i, i + m = s.length → (c11_2 runB fu (m + 1) (.str s) (.str set) (.int .i64 s.length) (.int .i64 i) σ).val = some (.bool (allB (s.drop i) set), σ)
  | 0, i, h => by
    unfold c11_2 c11_2b c11_1
    rw [val_lt, val_ifK, show decide ((i : Int) < (s.length : Nat)) = false by simp; omega, cond_false, val_ret, List.drop_eq_nil_of_le (by omega)]
    rfl
  | m + 1, i, h => by
    have ih := loop11' set s σ fu hlen m (i + 1) (by omega)
    have hi : i < s.length := by omega
    have hd : s.drop i = s.getD i 0 :: s.drop (i + 1) := by
      rw [List.drop_eq_getElem_cons hi, List.getD_eq_getElem?_getD, List.getElem?_eq_getElem hi]; rfl
    have hrun : (runB 24 [.str set, .int .u8 (s.getD i 0).toNat] σ).val = some (.int .i64 (indexB (s.getD i 0) set 0), σ) := by
      simp [runB, sp24, Tr.val]
    unfold c11_2 c11_2b
    rw [val_lt, val_ifK, show decide ((i : Int) < (s.length : Nat)) = true by simp; omega, cond_true, val_idxS _ _ _ _ (by omega) (by omega), Int.toNat_natCast, val_cal hrun, val_lt, val_ifK]
    by_cases hm : s.getD i 0 ∈ set
    · rw [show decide (indexB (s.getD i 0) set 0 < 0) = false by simpa using indexB_mem hm, cond_false, val_addK _ _ _ (by omega) (by omega)]
      rw [show ((i : Int) + 1) = ((i + 1 : Nat) : Int) by omega, ih, hd]
      simp only [allB, List.all_cons]
      rw [show set.contains (s.getD i 0) = true by simpa using hm, Bool.true_and]
    · rw [indexB_notmem hm, show decide ((-1 : Int) < 0) = true by decide, cond_true, val_ret, hd]
      simp only [allB, List.all_cons]
      rw [show set.contains (s.getD i 0) = false by simpa using hm, Bool.false_and]
theorem ok11c (s set : List UInt8) (most : Int) (hmost : most ≤ 1000000) (σ : Store) : CallOK X0 11 [.str s, .str set, .int .i64 most] σ (.ret (.bool (onlyB s set most), σ)) := by
  have hv : (c11 runB (s.length + 1) (.str s) (.str set) (.int .i64 most) σ).val = some (.bool (onlyB s set most), σ) := by
    unfold c11 onlyB
    rw [val_lenS, val_gt, val_ifK]
    by_cases h : (s.length : Int) ≤ most
    · rw [show decide (most < (s.length : Int)) = false by simpa using h, cond_false, val_lenS]
      have := loop11' set s σ (s.length + 1) (by omega) s.length 0 (by omega)
      rw [List.drop_zero] at this
      rw [decide_eq_true h, Bool.true_and]
      exact this
    · rw [show decide (most < (s.length : Int)) = true by simp; omega, cond_true, val_ret, decide_eq_false h, Bool.false_and]
  intro K g w args' ht
  exact ok11 runB_ok (s.length + 1) (.str s) (.str set) (.int .i64 most) σ K g w args' (Tr.sat_of_val hv ht)
noncomputable def optD : AV := .agg [.bool false, .bool false, .bool false, .bool false, .bool false, .bool true, .bool false, .bool false, .bool false, .bool false]
noncomputable def lf (n : Nat) : Store := { t := .leaf, next := n }
open Classical in
/-- The calls that FnDots makes: the HTML and the ellipses of one text are given. -/
noncomputable def runC (t H E : List UInt8) (a b : Nat) (f : FuncId) (args : List AV) (σ : Store) : Tr R :=
  if f = 11 then match args with
    | [.str s, .str set, .int .i64 most] => must (leI most 1000000) (.ret (.bool (onlyB s set most), σ))
    | _ => .fail
  else if f = 12 ∧ args = [optD, .str t] ∧ σ = lf 0 then .ret (.str H, lf a)
  else if f = 13 ∧ args = [.str t] ∧ σ = lf a then .ret (.str E, lf b)
  else .fail
theorem runC_ok {t H E : List UInt8} {a b : Nat} (h12 : CallOK X0 12 [optD, .str t] (lf 0) (.ret (.str H, lf a))) (h13 : CallOK X0 13 [.str t] (lf a) (.ret (.str E, lf b))) : RunOK X0 (runC t H E a b) := by
  intro f args σ K g w args' hs ha hsim hG
  unfold runC at hs
  split at hs
  · subst f
    split at hs
    · rename_i s set most
      obtain ⟨hm, hk⟩ := Tr.sat_must hs
      simp only [leI_eq, decide_eq_true_eq] at hm
      exact ok11c s set most hm σ K g w args' hk ha hsim hG
    · exact hs.elim
  · split at hs
    · rename_i h
      obtain ⟨rfl, rfl, rfl⟩ := h
      exact h12 K g w args' hs ha hsim hG
    · split at hs
      · rename_i h
        obtain ⟨rfl, rfl, rfl⟩ := h
        exact h13 K g w args' hs ha hsim hG
      · exact hs.elim
theorem r11 {β : Type} {t H E : List UInt8} {a b : Nat} (s set : List UInt8) (σ : Store) (f : AV → Store → Tr β) : (calK (runC t H E a b) 11 [.str s, .str set, .int .i64 100] σ f).val = (f (.bool (onlyB s set 100)) σ).val := val_cal rfl
theorem r12 {β : Type} {t H E : List UInt8} {a b : Nat} (f : AV → Store → Tr β) : (calK (runC t H E a b) 12 [optD, .str t] (lf 0) f).val = (f (.str H) (lf a)).val :=
  val_cal (by unfold runC; rw [if_neg (by decide), if_pos ⟨rfl, rfl, rfl⟩]; rfl)
theorem r13 {β : Type} {t H E : List UInt8} {a b : Nat} (f : AV → Store → Tr β) : (calK (runC t H E a b) 13 [.str t] (lf a) f).val = (f (.str E) (lf b)).val :=
  val_cal (by unfold runC; rw [if_neg (by decide), if_neg (fun h => absurd h.1 (by decide)), if_pos ⟨rfl, rfl, rfl⟩]; rfl)
theorem val_cat {β : Type} (a b : List UInt8) (h : a.length + b.length ≤ 4611686018427387904) (f : AV → Tr β) : (catK (.str a) (.str b) f).val = (f (.str (a ++ b))).val := by
  simp only [catK, symK, symStr, catK0, asStrK]
  exact val_mustT _ (by simpa [Nat.ble_eq] using h)
theorem bld5 {β : Type} (f : AV → Tr β) : (bldK [(.bool false), (.bool false), (.bool false), (.bool false), (.bool false), (.bool false), (.bool false), (.bool false), (.bool false), (.bool false)] [(5, 1, (.bool true))] f).val = (f optD).val := by
  unfold bldK
  rw [show fillK [(.bool false), (.bool false), (.bool false), (.bool false), (.bool false), (.bool false), (.bool false), (.bool false), (.bool false), (.bool false)] [(5, 1, (.bool true))] = some [.bool false, .bool false, .bool false, .bool false, .bool false, .bool true, .bool false, .bool false, .bool false, .bool false] by kernel_rfl]
  rfl
/-- FnDots where it speaks of nothing. -/
theorem dots_out {t H E : List UInt8} {a b : Nat} (s : List UInt8) (h : s.length > 2147483647 ∨ onlyB s [97, 98, 32, 46] 100 = false) : (c4 (runC t H E a b) 1 (.str s) (lf 0)).val = some (.bool true, lf 0) := by
  unfold c4
  simp only [val_lenS, val_gt]
  by_cases h1 : (2147483647 : Int) < (s.length : Int)
  · rw [decide_eq_true h1]; rfl
  rw [decide_eq_false h1]
  simp only [liF, r11, lnot]
  rcases h with h | h
  · omega
  · rw [h]; rfl
/-- FnDots at a text whose HTML is known. -/
theorem dots_at {E : List UInt8} {a b : Nat} (s : List UInt8) (h : onlyB s [97, 98, 32, 46] 100 = true) (hE : E.length ≤ 100000) :
    (c4 (runC (120 :: (s ++ [120])) (60 :: 112 :: 62 :: (E ++ [60, 47, 112, 62, 10])) E a b) 1 (.str s) (lf 0)).val = some (.bool true, lf b) := by
  have hl : s.length ≤ 100 := by
    simp only [onlyB, Bool.and_eq_true, decide_eq_true_eq] at h
    omega
  have e1 : [120] ++ s ++ [120] = 120 :: (s ++ [120]) := by simp
  have e2 : [60, 112, 62] ++ E ++ [60, 47, 112, 62, 10] = 60 :: 112 :: 62 :: (E ++ [60, 47, 112, 62, 10]) := by simp
  unfold c4
  simp only [val_lenS, val_gt]
  rw [decide_eq_false (by omega)]
  simp only [liF, r11, lnot, h, Bool.not_true]
  rw [val_cat _ _ (by simp; omega)]
  rw [val_cat _ _ (by simp; omega), e1]
  rw [bld5, r12, r13, val_cat _ _ (by simp; omega), val_cat _ _ (by simp; omega), e2, val_eqS, decide_eq_true rfl]
  rfl
end Go.Proofs.YtfmgdjkcdmjloaaGreatDoor
