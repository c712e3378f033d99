/- linkCorner: it answers, and changes nothing; zzContains where a byte stands for sure. -/
import Derived.Test.YtpefmbpjanafkaaGreatDoorNS1
import Derived.Test.YtpefmbpjanafkaaGreatDoorNPK
set_option linter.unusedVariables false
set_option linter.unusedSimpArgs false
namespace Go.Proofs.YtpefmbpjanafkaaGreatDoor
open Go.AM
section
variable {β : Type}
theorem lgTT (σ : Store) (t : (AV → Store → Tr β) → Tr β) (f : AV → Store → Tr β) : (grdK (.bool true) true σ t f).val = (t f).val := rfl
theorem lgFT (σ : Store) (t : (AV → Store → Tr β) → Tr β) (f : AV → Store → Tr β) : (grdK (.bool false) true σ t f).val = (f (.tup []) σ).val := rfl
theorem lgTF (σ : Store) (t : (AV → Store → Tr β) → Tr β) (f : AV → Store → Tr β) : (grdK (.bool true) false σ t f).val = (f (.tup []) σ).val := rfl
theorem lgFF (σ : Store) (t : (AV → Store → Tr β) → Tr β) (f : AV → Store → Tr β) : (grdK (.bool false) false σ t f).val = (t f).val := rfl
theorem lpT (a b : AV) (f : AV → Tr β) : (pickK (.bool true) a b f).val = (f a).val := rfl
theorem lpF (a b : AV) (f : AV → Tr β) : (pickK (.bool false) a b f).val = (f b).val := rfl
theorem liT (s t : Tr β) : (ifK (.bool true) s t).val = s.val := rfl
theorem liF (s t : Tr β) : (ifK (.bool false) s t).val = t.val := rfl
theorem lnot (b : Bool) (f : AV → Tr β) : (notK (.bool b) f).val = (f (.bool (!b))).val := rfl
end
noncomputable def bHex (n : Int) : Bool := (decide (65 ≤ n) && decide (n ≤ 70)) || ((decide (97 ≤ n) && decide (n ≤ 102)) || (decide (48 ≤ n) && decide (n ≤ 57)))
theorem v168 (run : FuncId → List AV → Store → Tr R) (fu : Nat) (n : Int) (σ : Store) : (c168 run fu (.int .u8 n) σ).val = some (.bool (bHex n), σ) := by
  unfold c168 bHex
  rw [val_le]
  by_cases h1 : (65 : Int) ≤ n <;> by_cases h2 : n ≤ (70 : Int) <;> by_cases h3 : (97 : Int) ≤ n <;> by_cases h4 : n ≤ (102 : Int) <;> by_cases h5 : (48 : Int) ≤ n <;> by_cases h6 : n ≤ (57 : Int) <;>
    simp [h1, h2, h3, h4, h5, h6, val_le, val_grdT, val_grdN, val_pickK, val_ret]
noncomputable def spHex : List AV → Store → Tr R
  | [.int .u8 n], σ => .ret (.bool (bHex n), σ)
  | _, _ => .fail
noncomputable def runK (f : FuncId) (args : List AV) (σ : Store) : Tr R := if f = 168 then spHex args σ else .fail
theorem runK_ok : RunOK X0 runK := by
  intro f args σ
  unfold runK
  split
  · subst f
    unfold spHex
    split
    · exact fun K g w args' ht ha hs hG => ok168 runB_ok 0 _ σ K g w args' (Tr.sat_of_val (v168 _ _ _ _) ht) ha hs hG
    · intro K g w args' h; exact h.elim
  · intro K g w args' h; exact h.elim
theorem r168 (n : Int) (σ : Store) (f : AV → Store → Tr R) : (calK runK 168 [.int .u8 n] σ f).val = (f (.bool (bHex n)) σ).val := val_cal rfl
theorem loop132 (s : List UInt8) (σ : Store) (fu : Nat) (hlen : s.length ≤ 1000000) : ∀ m i : Nat, i + m = s.length → ∃ b, (c132_2 runK fu (m + 1) (.str s) (.int .i64 i) σ).val = some (.bool b, σ)
  | m, i, h => by
    unfold c132_2 c132_2b
    simp (disch := omega) only [val_lenS, val_lt]
    by_cases hlt : ((i : Int) < s.length)
    · rw [decide_eq_true hlt]
      simp (disch := omega) only [liT, val_idxS, val_eq]
      have next : ∃ b, (c132_3 runK fu (c132_2 runK fu m) (.str s) (.int .i64 i) σ).val = some (.bool b, σ) := by
        unfold c132_3
        simp (disch := omega) only [val_addK]
        cases m with
        | zero => omega
        | succ m => exact loop132 s σ fu hlen m (i + 1) (by omega)
      cases hc : decide ((((s.getD (i : Int).toNat 0).toNat : Int)) = 37)
      · simp only [liF]; exact next
      · simp (disch := omega) only [liT, val_addK, val_lenS, val_ge]
        by_cases h2 : ((s.length : Int) ≤ (i : Int) + 2)
        · rw [decide_eq_true h2]
          simp only [lgTF, lpT, liT, val_ret]
          exact ⟨true, rfl⟩
        · rw [decide_eq_false h2]
          simp (disch := omega) only [lgFF, val_addK, val_idxS, r168, lnot, lpF]
          cases bHex (((s.getD ((i : Int) + 1).toNat 0).toNat : Int))
          · simp only [Bool.not_false, lgTF, lpT, liT, val_ret]
            exact ⟨true, rfl⟩
          · simp (disch := omega) only [Bool.not_true, lgFF, val_addK, val_idxS, r168, lnot, lpF]
            cases bHex (((s.getD ((i : Int) + 2).toNat 0).toNat : Int))
            · simp only [Bool.not_false, liT, val_ret]
              exact ⟨true, rfl⟩
            · simp only [Bool.not_true, liF]
              exact next
    · rw [decide_eq_false hlt]
      simp only [liF]
      exact ⟨false, rfl⟩
/-- linkCorner -/
theorem ok132s (l : List Seg) (σ : Store) : CallOK X0 132 [.sstr l] σ (must (leI ((segLen l).1 + maxTs (segLen l).2) 1000000) (.ret (.ub, σ))) := by
  intro K g w args' ht ha hs hG
  obtain ⟨hm, hk⟩ := Tr.sat_must ht
  simp only [leI_eq, decide_eq_true_eq] at hm
  cases ha with
  | cons hx ha =>
  cases hx with
  | sstr _ hok =>
  obtain ⟨a1, a2⟩ := segLen_ok hok
  have a3 := max_ok a1
  obtain ⟨b, hv⟩ := loop132 (den g.sv l) σ ((den g.sv l).length + 1) (by omega) (den g.sv l).length 0 (by omega)
  refine (ok132 runK_ok ((den g.sv l).length + 1) (.str (den g.sv l)) σ (fun r => r = (.bool b, σ)) g w _ (Tr.sat_of_val hv rfl) (.cons (.str _) ha) hs hG).mono ?_
  rintro e w' ⟨v, a, σ1, g', rfl, hK, hS, hE, hvr⟩
  cases hK
  cases hvr
  exact ⟨_, _, _, g', rfl, hk, hS, hE, .ub _⟩
/-- Does a byte stand there for sure? -/
noncomputable def hasB1 (c : UInt8) : List Seg → Bool
  | [] => false
  | .b d :: l => cond (Nat.beq c.toNat d.toNat) true (hasB1 c l)
  | .w _ _ _ _ :: l => hasB1 c l
theorem hasB1_ok {sv : Nat → List UInt8} {c : UInt8} : ∀ {l : List Seg}, hasB1 c l = true → c ∈ den sv l
  | .b d :: l, h => by
    unfold hasB1 at h
    cases hb : Nat.beq c.toNat d.toNat with
    | true =>
      have : c = d := UInt8.toNat_inj.1 (Nat.eq_of_beq_eq_true hb)
      rw [this]; exact List.mem_cons_self ..
    | false => rw [hb, cond_false] at h; exact List.mem_cons_of_mem _ (hasB1_ok h)
  | .w k _ _ _ :: l, h => List.mem_append_right _ (hasB1_ok (l := l) h)
theorem find89 (c : UInt8) (s : List UInt8) (σ : Store) (fu : Nat) (hlen : s.length ≤ 1000000000) : ∀ m i, i + m = s.length → c ∈ s.drop i → ∃ n : Nat, (c89_2 runB fu (m + 1) (.str s) (.str [c]) (.int .i64 i) σ).val = some (.int .i64 n, σ)
  | 0, i, h, hc => by rw [List.drop_eq_nil_of_le (by omega)] at hc; cases hc
  | m + 1, i, h, hc => by
    have hi : i < s.length := by omega
    unfold c89_2 c89_2b
    rw [val_lenS, val_addK _ _ _ (by simp; omega) (by simp; omega), val_lenS, val_le, val_ifK]
    rw [show decide ((i : Int) + (([c] : List UInt8).length : Nat) ≤ (s.length : Nat)) = true by simp; omega, cond_true, val_lenS, val_addK _ _ _ (by simp; omega) (by simp; omega), val_slice _ _ _ _ _ _ (by omega) (by simp; omega) (by simp; omega), val_eqS, val_ifK]
    by_cases he : (s.take (((i : Int) + ((([c] : List UInt8).length : Nat) : Int)).toNat)).drop (i : Int).toNat = [c]
    · rw [decide_eq_true he, cond_true]
      exact ⟨i, rfl⟩
    · rw [decide_eq_false he, cond_false, val_addK _ _ _ (by omega) (by omega)]
      refine find89 c s σ fu hlen m (i + 1) (by omega) ?_
      rw [List.drop_eq_getElem_cons hi] at hc
      rcases List.mem_cons.1 hc with h1 | h1
      · exfalso; apply he
        have e1 : ((i : Int) + ((([c] : List UInt8).length : Nat) : Int)).toNat = i + 1 := by simp
        rw [e1, Int.toNat_natCast, List.take_succ_eq_append_getElem hi, List.drop_append_of_le_length (by simp; omega), List.drop_eq_nil_of_le (by simp; omega), ← h1, List.nil_append]
      · exact h1
noncomputable def run89 (f : FuncId) (args : List AV) (σ : Store) : Tr R := if f = 89 then (match args with
  | [.str s, .str [c]] => c89 runB (s.length + 1) (.str s) (.str [c]) σ
  | _ => .fail) else .fail
theorem run89_ok : RunOK X0 run89 := by
  intro f args σ
  unfold run89
  split
  · subst f
    split
    · exact ok89 runB_ok _ _ _ σ
    · intro K g w args' h; exact h.elim
  · intro K g w args' h; exact h.elim
theorem v86 (c : UInt8) (s : List UInt8) (σ : Store) (hlen : s.length ≤ 1000000000) (hc : c ∈ s) : (c86 run89 1 (.str s) (.str [c]) σ).val = some (.bool true, σ) := by
  obtain ⟨n, hn⟩ := find89 c s σ (s.length + 1) hlen s.length 0 (by omega) (by simpa using hc)
  have h5 : (run89 89 [.str s, .str [c]] σ).val = some (.int .i64 n, σ) := by
    show (c89 runB (s.length + 1) (.str s) (.str [c]) σ).val = _
    unfold c89
    exact hn
  unfold c86
  rw [val_cal h5, val_ge, decide_eq_true (Int.natCast_nonneg n)]
  rfl
noncomputable def sw86 (d : List AV → Store → Tr R) : List AV → Store → Tr R
  | [.sstr l, .str [c]], σ => cond (hasB1 c l && leI ((segLen l).1 + maxTs (segLen l).2) 1000000) (.ret (.bool true, σ)) (d [.sstr l, .str [c]] σ)
  | args, σ => d args σ
theorem sw86_ok {d : List AV → Store → Tr R} (h : ∀ args σ, CallOK X0 86 args σ (d args σ)) (args : List AV) (σ : Store) : CallOK X0 86 args σ (sw86 d args σ) := by
  unfold sw86
  split
  case h_2 => exact h _ _
  rename_i l c
  cases hc : (hasB1 c l && leI ((segLen l).1 + maxTs (segLen l).2) 1000000) with
  | false => exact h _ _
  | true =>
  rw [cond_true]
  simp only [Bool.and_eq_true, leI_eq, decide_eq_true_eq] at hc
  intro K g w args' ht ha hs hG
  cases ha with
  | cons hx ha =>
  cases hx with
  | sstr _ hok =>
  obtain ⟨a1, a2⟩ := segLen_ok hok
  have a3 := max_ok a1
  exact ok86 run89_ok 1 (.str (den g.sv l)) (.str [c]) σ K g w _ (Tr.sat_of_val (v86 c _ σ (by omega) (hasB1_ok hc.1)) ht) (.cons (.str _) ha) hs hG
noncomputable def sw132 (d : List AV → Store → Tr R) : List AV → Store → Tr R
  | [.sstr l], σ => must (leI ((segLen l).1 + maxTs (segLen l).2) 1000000) (.ret (.ub, σ))
  | args, σ => d args σ
theorem sw132_ok {d : List AV → Store → Tr R} (h : ∀ args σ, CallOK X0 132 args σ (d args σ)) (args : List AV) (σ : Store) : CallOK X0 132 args σ (sw132 d args σ) := by
  unfold sw132
  split
  · exact ok132s _ _
  · exact h _ _
end Go.Proofs.YtpefmbpjanafkaaGreatDoor
