/- Functions that walk over texts: what they do at texts with unknown words. -/
import Derived.Test.YtpefmbpjanafkaaGreatDoorSnW
import Derived.Test.YtpefmbpjanafkaaGreatDoorSnT
import Derived.Test.YtpefmbpjanafkaaGreatDoorSnZ
import Derived.Test.YtpefmbpjanafkaaGreatDoorSnLib
import Derived.Test.YtpefmbpjanafkaaGreatDoorNP1
set_option linter.unusedVariables false
set_option linter.unusedSimpArgs false
namespace Go.Proofs.YtpefmbpjanafkaaGreatDoor
open Go.AM

noncomputable def runB (f : FuncId) (args : List AV) (σ : Store) : Tr R :=
  if f = 51 then sp51 args σ else if f = 318 then sp318 args σ else if f = 308 then sp308 args σ else .fail
theorem runB_ok : RunOK X0 runB := by
  intro f args σ K g w args' hs ha hsim hG
  unfold runB at hs
  split at hs
  · subst f; exact sp51_ok args σ K g w args' hs ha hsim hG
  · split at hs
    · subst f; exact sp318_ok args σ K g w args' hs ha hsim hG
    · split at hs
      · subst f; exact sp308_ok args σ K g w args' hs ha hsim hG
      · exact hs.elim

theorem memB_iff (c : UInt8) : ∀ l : List UInt8, memB c l = true ↔ c ∈ l
  | [] => by simp [memB]
  | d :: l => by
    unfold memB
    by_cases h : c = d
    · subst h; simp [Nat.beq_refl]
    · have h1 : Nat.beq c.toNat d.toNat = false := by
        cases hb : Nat.beq c.toNat d.toNat with
        | false => rfl
        | true => exact (h (UInt8.toNat_inj.1 (Nat.eq_of_beq_eq_true hb))).elim
      rw [h1, cond_false, memB_iff c l]; simp [h]
theorem allIn_ok {set : List UInt8} : ∀ {cls : List UInt8}, allIn cls set = true → ∀ c ∈ cls, c ∈ set
  | d :: cls, h, c, hc => by
    simp only [allIn, Bool.and_eq_true] at h
    rcases List.mem_cons.1 hc with rfl | hc
    · exact (memB_iff _ _).1 h.1
    · exact allIn_ok h.2 c hc
theorem noneIn_ok' {bad : List UInt8} : ∀ {cls : List UInt8}, noneIn cls bad = true → ∀ c ∈ cls, c ∉ bad
  | d :: cls, h, c, hc => by
    simp only [noneIn, Bool.and_eq_true, Bool.not_eq_true'] at h
    rcases List.mem_cons.1 hc with rfl | hc
    · exact memB_ok h.1
    · exact noneIn_ok' h.2 c hc
theorem sAll_ok {sv : Nat → List UInt8} {set : List UInt8} : ∀ {l : List Seg}, sAll set l = true → SegsOK sv l → ∀ c ∈ den sv l, c ∈ set
  | [], _, _, c, hc => by cases hc
  | .b d :: l, h, hl, c, hc => by
    simp only [sAll, Bool.and_eq_true] at h
    rcases List.mem_cons.1 hc with rfl | hc
    · exact (memB_iff _ _).1 h.1
    · exact sAll_ok h.2 hl c hc
  | .w k cls lo hi :: l, h, hl, c, hc => by
    simp only [sAll, Bool.and_eq_true] at h
    rcases List.mem_append.1 hc with hc | hc
    · exact allIn_ok h.1 c (hl.1.2.2 c hc)
    · exact sAll_ok h.2 hl.2 c hc
theorem sNone_ok {sv : Nat → List UInt8} {x : UInt8} : ∀ {l : List Seg}, sNone [x] l = true → SegsOK sv l → x ∉ den sv l
  | [], _, _ => by simp [den]
  | .b d :: l, h, hl => by
    simp only [sNone, Bool.and_eq_true, Bool.not_eq_true'] at h
    intro hc
    rcases List.mem_cons.1 hc with rfl | hc
    · exact memB_ok h.1 (by simp)
    · exact sNone_ok h.2 hl hc
  | .w k cls lo hi :: l, h, hl => by
    simp only [sNone, Bool.and_eq_true] at h
    intro hc
    rcases List.mem_append.1 hc with hc | hc
    · exact noneIn_ok' h.1 x (hl.1.2.2 x hc) (by simp)
    · exact sNone_ok h.2 hl.2 hc
theorem indexB_mem {c : UInt8} : ∀ {l : List UInt8} {i : Nat}, c ∈ l → 0 ≤ indexB c l i
  | d :: l, i, h => by
    unfold indexB
    cases hb : Nat.beq d.toNat c.toNat with
    | true => simp
    | false =>
      rw [cond_false]
      rcases List.mem_cons.1 h with rfl | h
      · rw [Nat.beq_refl] at hb; cases hb
      · exact indexB_mem h

theorem loop32 (set s : List UInt8) (σ : Store) (fu : Nat) (hall : ∀ c ∈ s, c ∈ set) (hlen : s.length ≤ 1000000) : ∀ m i, i + m = s.length → (c32_2 runB fu (m + 1) (.str s) (.str set) (.int .i64 s.length) (.int .i64 i) σ).val = some (.bool true, σ)
  | 0, i, h => by
    simp only [c32_2, c32_2b, val_lt, val_ifK, show ¬ ((i : Int) < s.length) by omega, decide_false, cond_false, c32_1, val_ret]
  | m + 1, i, h => by
    have ih := loop32 set s σ fu hall hlen m (i + 1) (by omega)
    have hi : i < s.length := by omega
    have hm : s.getD i 0 ∈ set := hall _ (by rw [List.getD_eq_getElem?_getD, List.getElem?_eq_getElem hi]; exact List.getElem_mem hi)
    have hrun : (runB 51 [.str set, .int .u8 (s.getD i 0).toNat] σ).val = some (.int .i64 (indexB (s.getD i 0) set 0), σ) := by
      simp [runB, sp51, Tr.val]
    unfold c32_2 c32_2b
    rw [val_lt, val_ifK, show decide ((i : Int) < s.length) = true by simp; omega, cond_true, val_idxS _ _ _ _ (by omega) (by omega), Int.toNat_natCast, val_cal hrun, val_lt, val_ifK]
    rw [show decide (indexB (s.getD i 0) set 0 < 0) = false by simpa using indexB_mem hm, cond_false, val_addK _ _ _ (by omega) (by omega)]
    exact ih
theorem c32_val (set s : List UInt8) (σ : Store) (most : Int) (hall : ∀ c ∈ s, c ∈ set) (hlen : s.length ≤ 1000000) (hm : s.length ≤ most) : (c32 runB (s.length + 1) (.str s) (.str set) (.int .i64 most) σ).val = some (.bool true, σ) := by
  unfold c32
  rw [val_lenS, val_gt, val_ifK, show decide (most < (s.length : Int)) = false by simpa using hm, cond_false, val_lenS]
  exact loop32 set s σ _ hall hlen s.length 0 (by omega)

/-- only, at a text with unknown words. -/
theorem ok32s (l : List Seg) (set : List UInt8) (most : Int) (σ : Store) : CallOK X0 32 [.sstr l, .str set, .int .i64 most] σ (must (sAll set l && leI ((segLen l).1 + maxTs (segLen l).2) most && leI most 1000000) (.ret (.bool true, σ))) := by
  intro K g w args' ht ha hs hG
  obtain ⟨hm, hk⟩ := Tr.sat_must ht
  clear ht
  simp only [Bool.and_eq_true, leI_eq, decide_eq_true_eq] at hm
  cases ha with
  | cons hx ha =>
  cases hx with
  | sstr _ hok =>
  obtain ⟨a1, a2⟩ := segLen_ok hok
  have a3 := max_ok a1
  have hv := c32_val set (den g.sv l) σ most (sAll_ok hm.1.1 hok) (by omega) (by omega)
  have main := ok32 runB_ok ((den g.sv l).length + 1) (.str (den g.sv l)) (.str set) (.int .i64 most) σ (fun r => r = (.bool true, σ)) g w _ (Tr.sat_of_val hv rfl) (.cons (.str _) ha) hs hG
  refine main.mono ?_
  rintro e w' ⟨v, a, σ1, g', rfl, hK, hS, hE, hvr⟩
  cases hK
  exact ⟨v, _, _, g', rfl, hk, hS, hE, hvr⟩

theorem loop89 (c : UInt8) (s : List UInt8) (σ : Store) (fu : Nat) (hno : c ∉ s) (hlen : s.length ≤ 1000000000) : ∀ m i, i + m = s.length → (c89_2 runB fu (m + 1) (.str s) (.str [c]) (.int .i64 i) σ).val = some (.int .i64 (-1), σ)
  | 0, i, h => by
    unfold c89_2 c89_2b c89_1
    rw [val_lenS, val_addK _ _ _ (by simp; omega) (by simp; omega), val_lenS, val_le, val_ifK]
    rw [show decide ((i : Int) + (([c] : List UInt8).length : Nat) ≤ (s.length : Nat)) = false by simp; omega, cond_false, val_ret]
  | m + 1, i, h => by
    have ih := loop89 c s σ fu hno hlen m (i + 1) (by omega)
    have hi : i < s.length := by omega
    have hne : ¬ (s.take (((i : Int) + ((([c] : List UInt8).length : Nat) : Int)).toNat)).drop (i : Int).toNat = [c] := by
      intro e
      apply hno
      have : c ∈ (s.take (((i : Int) + ((([c] : List UInt8).length : Nat) : Int)).toNat)).drop (i : Int).toNat := by rw [e]; simp
      exact List.mem_of_mem_take (List.mem_of_mem_drop this)
    unfold c89_2 c89_2b
    rw [val_lenS, val_addK _ _ _ (by simp; omega) (by simp; omega), val_lenS, val_le, val_ifK]
    rw [show decide ((i : Int) + (([c] : List UInt8).length : Nat) ≤ (s.length : Nat)) = true by simp; omega, cond_true, val_lenS, val_addK _ _ _ (by simp; omega) (by simp; omega), val_slice _ _ _ _ _ _ (by omega) (by simp; omega) (by simp; omega), val_eqS, val_ifK]
    rw [decide_eq_false hne, cond_false, val_addK _ _ _ (by omega) (by omega)]
    exact ih
/-- zzIndex of a byte that does not occur. -/
theorem ok89s (l : List Seg) (c : UInt8) (σ : Store) : CallOK X0 89 [.sstr l, .str [c]] σ (must (sNone [c] l && leI ((segLen l).1 + maxTs (segLen l).2) 1000000) (.ret (.int .i64 (-1), σ))) := by
  intro K g w args' ht ha hs hG
  obtain ⟨hm, hk⟩ := Tr.sat_must ht
  clear ht
  simp only [Bool.and_eq_true, leI_eq, decide_eq_true_eq] at hm
  cases ha with
  | cons hx ha =>
  cases hx with
  | sstr _ hok =>
  obtain ⟨a1, a2⟩ := segLen_ok hok
  have a3 := max_ok a1
  have hv := loop89 c (den g.sv l) σ ((den g.sv l).length + 1) (sNone_ok hm.1 hok) (by omega) (den g.sv l).length 0 (by omega)
  have main := ok89 runB_ok ((den g.sv l).length + 1) (.str (den g.sv l)) (.str [c]) σ (fun r => r = (.int .i64 (-1), σ)) g w _ (Tr.sat_of_val hv rfl) (.cons (.str _) ha) hs hG
  refine main.mono ?_
  rintro e w' ⟨v, a, σ1, g', rfl, hK, hS, hE, hvr⟩
  cases hK
  exact ⟨v, _, _, g', rfl, hk, hS, hE, hvr⟩
end Go.Proofs.YtpefmbpjanafkaaGreatDoor
/- IndexByte at a text with unknown words. -/
namespace Go.Proofs.YtpefmbpjanafkaaGreatDoor
open Go.AM
theorem indexB_app {c : UInt8} : ∀ (a b : List UInt8) (i : Nat), c ∉ a → indexB c (a ++ b) i = indexB c b (i + a.length)
  | [], b, i, _ => by simp
  | d :: a, b, i, h => by
    have h1 : Nat.beq d.toNat c.toNat = false := by
      cases hb : Nat.beq d.toNat c.toNat with
      | false => rfl
      | true => exact (h (by rw [UInt8.toNat_inj.1 (Nat.eq_of_beq_eq_true hb)]; simp)).elim
    show cond (Nat.beq d.toNat c.toNat) (i : Int) (indexB c (a ++ b) (i + 1)) = _
    rw [h1, cond_false, indexB_app a b (i + 1) (fun hc => h (List.mem_cons_of_mem _ hc)), List.length_cons]
    congr 1; omega
theorem sFind_ok {sv : Nat → List UInt8} {c : UInt8} : ∀ {l : List Seg} {n : Int} {ts : List Tm} {r : Option (Int × List Tm)} {i : Nat}, sFind [c] l n ts = some r → SegsOK sv l → TsOK sv ts → (i : Int) = n + tval sv ts →
    match r with
    | none => indexB c (den sv l) i = -1
    | some (m, us) => TsOK sv us ∧ indexB c (den sv l) i = m + tval sv us
  | [], n, ts, r, i, h, _, _, _ => by cases h; rfl
  | .b d :: l, n, ts, r, i, h, hl, ht, hi => by
    unfold sFind at h
    rcases cond_yes h with ⟨hc, h⟩ | ⟨hc, h⟩
    · cases h
      have : d = c := by simpa using (memB_iff _ _).1 hc
      subst this
      refine ⟨ht, ?_⟩
      show cond (Nat.beq d.toNat d.toNat) (i : Int) _ = _
      rw [Nat.beq_refl, cond_true]; exact hi
    · have hne : c ∉ [d] := by
        have := memB_ok hc
        simp only [List.mem_singleton] at this ⊢
        exact fun e => this e.symm
      have := sFind_ok (i := i + 1) h hl ht (by omega)
      have e : indexB c (den sv (.b d :: l)) i = indexB c (den sv l) (i + 1) := indexB_app [d] (den sv l) i hne
      rw [e]; exact this
  | .w k cls lo hi :: l, n, ts, r, i, h, hl, ht, hi' => by
    unfold sFind at h
    rcases cond_yes h with ⟨hc, h⟩ | ⟨_, h⟩
    · have hne : c ∉ sv k := fun hm => noneIn_ok' hc c (hl.1.2.2 c hm) (by simp)
      obtain ⟨b1, b2⟩ := addTs_ok (a := ts) (b := [⟨k, 1, lo, hi⟩]) ht ⟨⟨hl.1.1, hl.1.2.1⟩, trivial⟩
      simp only [tval, Int.one_mul, Int.add_zero] at b2
      have := sFind_ok (i := i + (sv k).length) h hl.2 b1 (by rw [b2]; omega)
      have e : indexB c (den sv (.w k cls lo hi :: l)) i = indexB c (den sv l) (i + (sv k).length) := indexB_app (sv k) (den sv l) i hne
      rw [e]; exact this
    · cases h
/-- strings.IndexByte at a text with unknown words. -/
theorem ok51s (l : List Seg) (k : Nat) (σ : Store) : CallOK X0 51 [.sstr l, .int .u8 (.ofNat k)] σ (opt (sIndex [k.toUInt8] l) fun r => .ret (r, σ)) := by
  intro K g w args' ht ha hs hG
  obtain ⟨r, hr, hk⟩ := Tr.sat_opt ht
  clear ht
  cases ha with
  | cons hx ha =>
  cases hx with
  | sstr _ hok =>
  have main := ok51 (den g.sv l) (.ofNat k) σ (fun r => r = (.int .i64 (indexB k.toUInt8 (den g.sv l) 0), σ)) g w _ rfl (.cons (.str _) ha) hs hG
  refine main.mono ?_
  rintro e w' ⟨v, a, σ1, g', rfl, hK, hS, hE, hvr⟩
  cases hK
  cases hvr
  refine ⟨_, _, _, g', rfl, hk, hS, hE, ?_⟩
  unfold sIndex at hr
  split at hr
  · rename_i hf
    cases hr
    have := sFind_ok (sv := g.sv) (i := 0) hf hok trivial rfl
    simp only at this
    rw [this]; exact .int _ _
  · rename_i n us hf
    cases hr
    obtain ⟨h1, h2⟩ := sFind_ok (sv := g.sv) (i := 0) hf hok trivial rfl
    rw [h2]
    exact (VR_mkLin h1).mono hE.le
  · cases hr
end Go.Proofs.YtpefmbpjanafkaaGreatDoor
/- zzIndex of a byte in a text with unknown words: the place where it stands first. -/
namespace Go.Proofs.YtpefmbpjanafkaaGreatDoor
open Go.AM
theorem loopF (c : UInt8) (s : List UInt8) (σ : Store) (fu : Nat) (hlen : s.length ≤ 1000000000) : ∀ m i, i + m = s.length → (c89_2 runB fu (m + 1) (.str s) (.str [c]) (.int .i64 i) σ).val = some (.int .i64 (indexB c (s.drop i) i), σ)
  | 0, i, h => by
    unfold c89_2 c89_2b c89_1
    rw [val_lenS, val_addK _ _ _ (by simp; omega) (by simp; omega), val_lenS, val_le, val_ifK]
    rw [show decide ((i : Int) + (([c] : List UInt8).length : Nat) ≤ (s.length : Nat)) = false by simp; omega, cond_false, val_ret, List.drop_eq_nil_of_le (by omega)]
    rfl
  | m + 1, i, h => by
    have ih := loopF c s σ fu hlen m (i + 1) (by omega)
    have hi : i < s.length := by omega
    have hd := List.drop_eq_getElem_cons hi
    have e1 : ((i : Int) + ((([c] : List UInt8).length : Nat) : Int)).toNat = i + 1 := by simp
    have e2 : (s.take (i + 1)).drop i = [s[i]] := by
      rw [List.take_succ_eq_append_getElem hi, List.drop_append_of_le_length (by simp; omega), List.drop_eq_nil_of_le (by simp; omega), List.nil_append]
    unfold c89_2 c89_2b
    rw [val_lenS, val_addK _ _ _ (by simp; omega) (by simp; omega), val_lenS, val_le, val_ifK]
    rw [show decide ((i : Int) + (([c] : List UInt8).length : Nat) ≤ (s.length : Nat)) = true by simp; omega, cond_true, val_lenS, val_addK _ _ _ (by simp; omega) (by simp; omega), val_slice _ _ _ _ _ _ (by omega) (by simp; omega) (by simp; omega), val_eqS, val_ifK]
    rw [e1, Int.toNat_natCast, e2, hd]
    by_cases he : s[i] = c
    · rw [he, decide_eq_true rfl, cond_true]
      show some _ = some _
      show some (AV.int .i64 (i : Int), σ) = some (AV.int .i64 (cond (Nat.beq c.toNat c.toNat) (i : Int) _), σ)
      rw [Nat.beq_refl, cond_true]
    · rw [decide_eq_false (by simpa using he), cond_false, val_addK _ _ _ (by omega) (by omega)]
      rw [show ((i : Int) + 1) = ((i + 1 : Nat) : Int) by omega, ih]
      have h1 : Nat.beq s[i].toNat c.toNat = false := by
        cases hb : Nat.beq s[i].toNat c.toNat with
        | false => rfl
        | true => exact (he (UInt8.toNat_inj.1 (Nat.eq_of_beq_eq_true hb))).elim
      show _ = some (AV.int .i64 (cond (Nat.beq s[i].toNat c.toNat) (i : Int) (indexB c (s.drop (i + 1)) (i + 1))), σ)
      rw [h1, cond_false]
theorem ok89f (l : List Seg) (c : UInt8) (σ : Store) : CallOK X0 89 [.sstr l, .str [c]] σ (must (leI ((segLen l).1 + maxTs (segLen l).2) 1000000) (opt (sIndex [c] l) fun r => .ret (r, σ))) := by
  intro K g w args' ht ha hs hG
  obtain ⟨hm, ht⟩ := Tr.sat_must ht
  obtain ⟨r, hr, hk⟩ := Tr.sat_opt ht
  clear ht
  simp only [leI_eq, decide_eq_true_eq] at hm
  cases ha with
  | cons hx ha =>
  cases hx with
  | sstr _ hok =>
  obtain ⟨a1, a2⟩ := segLen_ok hok
  have a3 := max_ok a1
  have hv := loopF c (den g.sv l) σ ((den g.sv l).length + 1) (by omega) (den g.sv l).length 0 (by omega)
  rw [List.drop_zero] at hv
  have main := ok89 runB_ok ((den g.sv l).length + 1) (.str (den g.sv l)) (.str [c]) σ (fun r => r = (.int .i64 (indexB c (den g.sv l) 0), σ)) g w _ (Tr.sat_of_val hv rfl) (.cons (.str _) ha) hs hG
  refine main.mono ?_
  rintro e w' ⟨v, a, σ1, g', rfl, hK, hS, hE, hvr⟩
  cases hK
  cases hvr
  refine ⟨_, _, _, g', rfl, hk, hS, hE, ?_⟩
  unfold sIndex at hr
  split at hr
  · rename_i hf
    cases hr
    have := sFind_ok (sv := g.sv) (i := 0) hf hok trivial rfl
    simp only at this
    rw [this]; exact .int _ _
  · rename_i n us hf
    cases hr
    obtain ⟨h1, h2⟩ := sFind_ok (sv := g.sv) (i := 0) hf hok trivial rfl
    rw [h2]
    exact (VR_mkLin h1).mono hE.le
  · cases hr
end Go.Proofs.YtpefmbpjanafkaaGreatDoor
/- Writes into a buffer, in the machine. -/
namespace Go.AM
namespace PT
variable {α : Type}
theorem ins_get : ∀ (f : Nat) (t : PT α) (n : Nat) (x : α), n + 1 < 2 ^ f → (ins f t n x).get n = some x := by
  intro f
  induction f with
  | zero => intro t n x h; simp at h
  | succ f ih =>
    intro t n x h
    rw [Nat.pow_succ] at h
    cases t with
    | leaf =>
      simp only [ins_leaf, ins_node, cond_eq_ite, Nat.beq_eq]
      by_cases hn : n = 0
      · subst hn; simp [get_leaf, get_node]
      · by_cases hn2 : n % 2 = 1
        · simp only [hn, hn2, if_true, if_false, get_leaf, get_node, cond_eq_ite, Nat.beq_eq]; exact ih _ _ _ (by omega)
        · simp only [hn, hn2, if_false, get_leaf, get_node, cond_eq_ite, Nat.beq_eq]; exact ih _ _ _ (by omega)
    | node l v r =>
      simp only [ins_leaf, ins_node, cond_eq_ite, Nat.beq_eq]
      by_cases hn : n = 0
      · subst hn; simp [get_leaf, get_node]
      · by_cases hn2 : n % 2 = 1
        · simp only [hn, hn2, if_true, if_false, get_leaf, get_node, cond_eq_ite, Nat.beq_eq]; exact ih _ _ _ (by omega)
        · simp only [hn, hn2, if_false, get_leaf, get_node, cond_eq_ite, Nat.beq_eq]; exact ih _ _ _ (by omega)
end PT
namespace Store
theorem get_new_self {σ : Store} {b : Blk} (h : σ.next ≤ 2000000000) : (σ.new b).get σ.next = some b := PT.ins_get 64 σ.t σ.next b (by omega)
theorem get_new_ne {σ : Store} {b : Blk} {i : Nat} (h : i ≠ σ.next) : (σ.new b).get i = σ.get i := PT.get_ins_ne 64 σ.t σ.next i b h
theorem get_upd_self {σ : Store} {i : Nat} {b c : Blk} (h : σ.get i = some c) : (σ.upd i b).get i = some b := PT.get_upd σ.t i (some b) c h
theorem get_upd_ne {σ : Store} {i j : Nat} {b : Blk} (h : j ≠ i) : (σ.upd i b).get j = σ.get j := PT.get_upd_ne σ.t i j (some b) h
theorem get_kill_self {σ : Store} {i : Nat} : (σ.kill i).get i = none := PT.get_upd_none σ.t i
theorem get_kill_ne {σ : Store} {i j : Nat} (h : j ≠ i) : (σ.kill i).get j = σ.get j := PT.get_upd_ne σ.t i j none h
end Store
theorem dropB_next (σ : Store) (buf : AV) : (dropB σ buf).next = σ.next := by unfold dropB; split <;> rfl

/-- A buffer that can be written into: its text. -/
structure Buf (σ : Store) (id : Nat) (buf : AV) (old : List Seg) : Prop where
  blk : ∃ lr, σ.get id = some (.cells 313 [buf, .int .i64 0, .int .i8 lr])
  held : bufHeld 5 σ buf = some old
  row : ∀ r c ts, buf = .bsl r c ts → r < σ.next
  idn : id < σ.next
theorem Buf.ne {σ : Store} {id : Nat} {buf : AV} {old : List Seg} (h : Buf σ id buf old) {r : Nat} {c : Int} {ts : List Tm} (hb : buf = .bsl r c ts) : r ≠ id := by
  subst hb
  intro e
  subst e
  obtain ⟨lr, hg⟩ := h.blk
  have := h.held
  simp only [bufHeld, hg] at this
  cases this
/-- What a write leaves. -/
structure Wrt (σ σ' : Store) (id : Nat) (buf : AV) (new : List Seg) : Prop where
  next : σ'.next = σ.next + 1
  self : σ'.get id = some (.cells 313 [.bsl σ.next (segLen new).1 (segLen new).2, .int .i64 0, .int .i8 0])
  row : σ'.get σ.next = some (.bytes 5 new)
  other : ∀ i, i ≠ id → i ≠ σ.next → σ'.get i = (dropB σ buf).get i
theorem bufWrite_val {σ : Store} {id : Nat} {buf : AV} {old add : List Seg} {r : AV} (h : Buf σ id buf old) (h1 : 1 ≤ (segLen add).1 + minTs (segLen add).2) (h2 : (segLen (old ++ add)).1 + maxTs (segLen (old ++ add)).2 ≤ 70368744177664) (hn : σ.next ≤ 2000000000) :
    ∃ σ', (bufWrite 156 5 σ id add r).val = some (r, σ') ∧ Wrt σ σ' id buf (old ++ add) := by
  obtain ⟨lr, hg⟩ := h.blk
  have hne : ∀ i, i = id → (dropB σ buf).get i = σ.get i := by
    intro i hi
    subst hi
    unfold dropB
    split
    · rename_i r c ts
      exact Store.get_kill_ne (Ne.symm (h.ne rfl))
    · rfl
  have hidn : id ≠ σ.next := Nat.ne_of_lt h.idn
  have hx : ((dropB σ buf).new (.bytes 5 (old ++ add))).get σ.next = some (.bytes 5 (old ++ add)) := by
    have := Store.get_new_self (σ := dropB σ buf) (b := .bytes 5 (old ++ add)) (by rw [dropB_next]; exact hn)
    rw [dropB_next] at this; exact this
  have hxi : ((dropB σ buf).new (.bytes 5 (old ++ add))).get id = σ.get id := by
    rw [Store.get_new_ne (by rw [dropB_next]; exact hidn)]; exact hne id rfl
  refine ⟨((dropB σ buf).new (.bytes 5 (old ++ add))).upd id (.cells 313 [.bsl σ.next (segLen (old ++ add)).1 (segLen (old ++ add)).2, .int .i64 0, .int .i8 0]), ?_, ?_, ?_, ?_, ?_⟩
  · simp only [bufWrite, hg, h.held, opt]
    rw [val_mustT _ (by decide), val_mustT _ (by simp only [Bool.and_eq_true, leI_eq, decide_eq_true_eq]; exact ⟨h1, h2⟩)]
    simp only [hx]
    first | done | rfl
  · show (dropB σ buf).next + 1 = _
    rw [dropB_next]
  · exact Store.get_upd_self (hxi.trans hg)
  · rw [Store.get_upd_ne (Ne.symm hidn)]; exact hx
  · intro i h3 h4
    rw [Store.get_upd_ne h3, Store.get_new_ne (by rw [dropB_next]; exact h4)]
end Go.AM
/- zzPairs.WriteString: texts of single bytes are put in their places. -/
namespace Go.Proofs.YtpefmbpjanafkaaGreatDoor
open Go.AM

noncomputable def sb (m : List UInt8) : List Seg := m.map Seg.b
theorem segLen_sb (m : List UInt8) : segLen (sb m) = ((m.length : Int), []) := by
  induction m with
  | nil => rfl
  | cons c m ih => show ((segLen (sb m)).1 + 1, (segLen (sb m)).2) = _; rw [ih]; simp
theorem segLen_app (l : List Seg) (m : List UInt8) : segLen (l ++ sb m) = ((segLen l).1 + m.length, (segLen l).2) := by
  induction l with
  | nil => rw [List.nil_append, segLen_sb]; simp [segLen]
  | cons x l ih =>
    cases x with
    | b c => show ((segLen (l ++ sb m)).1 + 1, (segLen (l ++ sb m)).2) = ((segLen l).1 + 1 + _, (segLen l).2); rw [ih]; simp; omega
    | w k cls lo hi => show ((segLen (l ++ sb m)).1, addTm k 1 lo hi (segLen (l ++ sb m)).2) = ((segLen l).1 + _, addTm k 1 lo hi (segLen l).2); rw [ih]
theorem sb_append (a b : List UInt8) : sb (a ++ b) = sb a ++ sb b := List.map_append

/-- The state of a row of writes. -/
structure Chn (σ0 σ : Store) (id pid : Nat) (buf0 buf : AV) (old c : List Seg) (e0 : TypeId) (cs : List AV) (k : Nat) : Prop where
  bf : Buf σ id buf c
  other : ∀ i, i < σ0.next → i ≠ id → (dropB σ buf).get i = (dropB σ0 buf0).get i
  pairs : σ.get pid = some (.cells e0 cs)
  next : σ0.next ≤ σ.next ∧ σ.next ≤ σ0.next + k
  last : (buf = buf0 ∧ σ = σ0 ∧ c = old) ∨ ∃ r, σ0.next ≤ r ∧ buf = .bsl r (segLen c).1 (segLen c).2 ∧ σ.get r = some (.bytes 5 c) ∧ σ.get id = some (.cells 313 [buf, .int .i64 0, .int .i8 0])

theorem minTs_nil : minTs [] = 0 := rfl
theorem maxTs_nil : maxTs [] = 0 := rfl
theorem Buf.min0 {σ : Store} {id : Nat} {buf : AV} {old : List Seg} (h : Buf σ id buf old) : 0 ≤ (segLen old).1 + minTs (segLen old).2 := by
  have := h.held
  unfold bufHeld at this
  split at this
  · cases this; simp [segLen, minTs_nil]
  · split at this
    · rcases cond_yes this with ⟨hc, h⟩ | ⟨_, h⟩
      · cases h
        simp only [Bool.and_eq_true, leI_eq, decide_eq_true_eq] at hc
        omega
      · cases h
    · cases this
  · cases this

theorem Chn.write {σ0 σ : Store} {id pid : Nat} {buf0 buf : AV} {old c : List Seg} {e0 : TypeId} {cs : List AV} {k : Nat} (h : Chn σ0 σ id pid buf0 buf old c e0 cs k) (hk : σ0.next + k ≤ 2000000000) (hpid : pid < σ0.next) (hpi : pid ≠ id) (hrow : ∀ r c ts, buf0 = .bsl r c ts → r ≠ pid) (hp0 : σ0.get pid = some (.cells e0 cs)) {m : List UInt8} (hm : m ≠ []) (hmx : (segLen c).1 + maxTs (segLen c).2 + m.length ≤ 70368744177664) (r : AV) :
    ∃ σ' buf', (bufWrite 156 5 σ id (sb m) r).val = some (r, σ') ∧ Chn σ0 σ' id pid buf0 buf' old (c ++ sb m) e0 cs (k + 1) := by
  have hml : 1 ≤ m.length := by cases m with | nil => exact (hm rfl).elim | cons => simp
  have hmin := Buf.min0 h.bf
  obtain ⟨σ', hv, hw⟩ := bufWrite_val (r := r) h.bf (add := sb m) (by rw [segLen_sb]; simp [minTs_nil]; omega) (by rw [segLen_app]; simp only; omega) (by have := h.next; omega)
  refine ⟨σ', .bsl σ.next (segLen (c ++ sb m)).1 (segLen (c ++ sb m)).2, hv, ⟨⟨⟨_, hw.self⟩, ?_, ?_, ?_⟩, ?_, ?_, ?_, ?_⟩⟩
  · simp only [bufHeld, hw.row]
    rw [show (Nat.beq 5 5 && linSame (segLen (c ++ sb m)) ((segLen (c ++ sb m)).1, (segLen (c ++ sb m)).2) && leI 1 ((segLen (c ++ sb m)).1 + minTs (segLen (c ++ sb m)).2)) = true from by
      simp only [Bool.and_eq_true, leI_eq, decide_eq_true_eq]
      exact ⟨⟨rfl, linSame_self _⟩, by rw [segLen_app]; simp only; omega⟩]
    rfl
  · intro r c' ts' hb
    cases hb
    rw [hw.next]; omega
  · have := h.bf.idn
    rw [hw.next]; omega
  · intro i hi hne
    have h1 := h.next.1
    show (σ'.kill σ.next).get i = _
    rw [Store.get_kill_ne (by omega), hw.other i hne (by omega)]
    exact h.other i hi hne
  · have h1 := h.next.1
    rw [hw.other pid hpi (by omega), h.other pid hpid hpi]
    unfold dropB
    split
    · rw [Store.get_kill_ne (Ne.symm (hrow _ _ _ rfl))]; exact hp0
    · exact hp0
  · have := h.next
    rw [hw.next]; omega
  · exact .inr ⟨σ.next, h.next.1, rfl, hw.row, hw.self⟩
end Go.Proofs.YtpefmbpjanafkaaGreatDoor
/- zzPairs.WriteString: the walk. -/
namespace Go.Proofs.YtpefmbpjanafkaaGreatDoor
open Go.AM

theorem pairs_get : ∀ {cs : List AV} {ps : List (UInt8 × List UInt8)}, pairsOf cs = some ps → cs.length = 2 * ps.length ∧ ∀ j p, ps[j]? = some p → cs[2 * j]? = some (.str [p.1]) ∧ cs[2 * j + 1]? = some (.str p.2) ∧ p.2 ≠ [] := by
  intro cs
  induction cs using pairsOf.induct with
  | case1 => intro ps h; cases h; exact ⟨rfl, fun j p h => by simp at h⟩
  | case2 c d v l m hm ih =>
    intro ps h
    simp only [pairsOf, hm, Option.some.injEq] at h
    subst h
    obtain ⟨h1, h2⟩ := ih hm
    refine ⟨by simp [h1]; omega, fun j p hp => ?_⟩
    cases j with
    | zero => simp at hp; subst hp; exact ⟨rfl, rfl, by simp⟩
    | succ j =>
      simp only [List.getElem?_cons_succ] at hp
      have := h2 j p hp
      rw [show 2 * (j + 1) = 2 * j + 2 by omega]
      simpa using this
  | case3 c d v l hm ih =>
    intro ps h
    simp only [pairsOf, hm] at h
    cases h
  | case4 l h1 h2 =>
    intro ps h
    unfold pairsOf at h
    split at h
    · exact (h1 rfl).elim
    · exact (h2 _ _ _ _ rfl).elim
    · cases h

theorem sp308_val {id : Nat} {s : List UInt8} {σ : Store} {v : AV} {σ' : Store} (h : (bufWrite 156 5 σ id (sb s) (.tup [mkLin (segLen (sb s)).1 (segLen (sb s)).2, .nili])).val = some (v, σ')) : (runB 308 [.ptr id 0, .str s] σ).val = some (v, σ') := h
theorem sp318_val {id : Nat} {c : UInt8} {σ : Store} {v : AV} {σ' : Store} (h : (bufWrite 156 5 σ id (sb [c]) .nili).val = some (v, σ')) : (runB 318 [.ptr id 0, .int .u8 c.toNat] σ).val = some (v, σ') := by
  have hc : c.toNat ≤ 255 := by have := c.toNat_lt; omega
  have e : c.toNat.toUInt8 = c := by simp
  show (must (Nat.ble c.toNat 255) (bufWrite 156 5 σ id [.b c.toNat.toUInt8] .nili)).val = _
  rw [val_mustT _ (by simpa using hc), e]
  exact h

section
variable {σ0 : Store} {id pid cap : Nat} {buf0 : AV} {old : List Seg} {e0 : TypeId} {cs : List AV} {ps : List (UInt8 × List UInt8)} {s : List UInt8}
theorem inner314 (hps : pairsOf cs = some ps) (hpid : pid < σ0.next) (hpi : pid ≠ id) (hrow : ∀ r c ts, buf0 = .bsl r c ts → r ≠ pid) (hp0 : σ0.get pid = some (.cells e0 cs)) (hpl : ps.length ≤ 1000000)
    (fu : Nat) (s1 : AV → AV → AV → AV → Store → Tr R) {σ : Store} {buf : AV} {c : List Seg} {k i : Nat} (h : Chn σ0 σ id pid buf0 buf old c e0 cs k) (hk : σ0.next + k ≤ 2000000000) (hi : i < s.length) (hsl : s.length ≤ 1000000000) (hmx : (segLen c).1 + maxTs (segLen c).2 + (escB ps (s.getD i 0)).length ≤ 70368744177664) :
    ∀ n j f, j + n = ps.length → n < f → lookB (s.getD i 0) (ps.drop j) = lookB (s.getD i 0) ps →
      ∃ σ' buf', Chn σ0 σ' id pid buf0 buf' old (c ++ sb (escB ps (s.getD i 0))) e0 cs (k + 1) ∧
        (c314_4 runB fu s1 f (.slice pid 0 cs.length cap 1) (.ptr id 0) (.str s) (.int .i64 i) (.int .i64 ((2 * j : Nat) : Int)) σ).val = (s1 (.slice pid 0 cs.length cap 1) (.ptr id 0) (.str s) (.int .i64 ((i + 1 : Nat) : Int)) σ').val := by
  obtain ⟨hcl, hget⟩ := pairs_get hps
  intro n
  induction n with
  | zero =>
    intro j f hj hf hl
    obtain ⟨f, rfl⟩ : ∃ f', f = f' + 1 := ⟨f - 1, by omega⟩
    rw [List.drop_eq_nil_of_le (by omega)] at hl
    have he : escB ps (s.getD i 0) = [s.getD i 0] := by unfold escB; rw [← hl]; rfl
    rw [he] at hmx ⊢
    obtain ⟨σ', buf', hv, hc'⟩ := h.write hk hpid hpi hrow hp0 (m := [s.getD i 0]) (by simp) hmx .nili
    refine ⟨σ', buf', hc', ?_⟩
    unfold c314_4 c314_4b c314_3 c314_2
    rw [val_lenL, val_lt, val_ifK, show decide (((2 * j : Nat) : Int) < (cs.length : Nat)) = false by simp; omega, cond_false, val_idxS _ _ _ _ (by omega) (by omega), Int.toNat_natCast, val_cal (sp318_val hv), val_addK _ _ _ (by omega) (by omega)]
    rfl
  | succ n ih =>
    intro j f hj hf hl
    obtain ⟨f, rfl⟩ : ∃ f', f = f' + 1 := ⟨f - 1, by omega⟩
    have hjl : j < ps.length := by omega
    obtain ⟨g1, g2, g3⟩ := hget j _ (List.getElem?_eq_getElem hjl)
    have hd : ps.drop j = ps[j] :: ps.drop (j + 1) := List.drop_eq_getElem_cons hjl
    unfold c314_4 c314_4b
    rw [val_lenL, val_lt, val_ifK, show decide (((2 * j : Nat) : Int) < (cs.length : Nat)) = true by simp; omega, cond_true, val_idxS _ _ _ _ (by omega) (by omega), Int.toNat_natCast, val_elem h.pairs (by omega) g1, val_idxS _ _ _ _ (by omega) (by simp), val_eq, val_ifK]
    cases hb : Nat.beq (s.getD i 0).toNat (ps[j]).1.toNat with
    | true =>
      have hbe := Nat.eq_of_beq_eq_true hb
      have he : escB ps (s.getD i 0) = (ps[j]).2 := by
        unfold escB; rw [← hl, hd]; simp only [lookB, hb, cond_true]
      rw [he] at hmx ⊢
      obtain ⟨σ', buf', hv, hc'⟩ := h.write hk hpid hpi hrow hp0 (m := (ps[j]).2) g3 hmx (.tup [mkLin (segLen (sb (ps[j]).2)).1 (segLen (sb (ps[j]).2)).2, .nili])
      refine ⟨σ', buf', hc', ?_⟩
      rw [show decide (((s.getD i 0).toNat : Int) = ((([(ps[j]).1] : List UInt8).getD (Int.toNat 0) 0).toNat : Int)) = true by simp at hbe ⊢; exact_mod_cast hbe, cond_true, val_addK _ _ _ (by omega) (by omega)]
      rw [show ((2 * j : Nat) : Int) + 1 = ((2 * j + 1 : Nat) : Int) by omega, val_elem h.pairs (by omega) g2, val_cal (sp308_val hv)]
      unfold c314_2
      rw [val_addK _ _ _ (by omega) (by omega)]
      rfl
    | false =>
      have hbe : ¬ (s.getD i 0).toNat = (ps[j]).1.toNat := fun e => by rw [e, Nat.beq_refl] at hb; cases hb
      obtain ⟨σ', buf', hc', hv⟩ := ih (j + 1) f (by omega) (by omega) (by rw [← hl, hd]; simp only [lookB, hb, cond_false])
      refine ⟨σ', buf', hc', ?_⟩
      rw [show decide (((s.getD i 0).toNat : Int) = ((([(ps[j]).1] : List UInt8).getD (Int.toNat 0) 0).toNat : Int)) = false by simp at hbe ⊢; exact_mod_cast hbe, cond_false, val_addK _ _ _ (by omega) (by omega)]
      rw [show ((2 * j : Nat) : Int) + 2 = ((2 * (j + 1) : Nat) : Int) by omega]
      exact hv
end
end Go.Proofs.YtpefmbpjanafkaaGreatDoor
/- zzPairs.WriteString at texts with unknown words. -/
namespace Go.Proofs.YtpefmbpjanafkaaGreatDoor
open Go.AM Go.RowKit

section
variable {σ0 : Store} {id pid cap : Nat} {buf0 : AV} {old : List Seg} {e0 : TypeId} {cs : List AV} {ps : List (UInt8 × List UInt8)} {s : List UInt8}
theorem drop_getD (s : List UInt8) {i : Nat} (h : i < s.length) : s.drop i = s.getD i 0 :: s.drop (i + 1) := by
  rw [List.drop_eq_getElem_cons h, List.getD_eq_getElem?_getD, List.getElem?_eq_getElem h]; rfl
theorem outer314 (hps : pairsOf cs = some ps) (hpid : pid < σ0.next) (hpi : pid ≠ id) (hrow : ∀ r c ts, buf0 = .bsl r c ts → r ≠ pid) (hp0 : σ0.get pid = some (.cells e0 cs)) (hpl : ps.length ≤ 1000000)
    (fu : Nat) (hfu : ps.length < fu) (hsl : s.length ≤ 1000000000) : ∀ n i (σ : Store) (buf : AV) (c : List Seg) (k f : Nat), i + n = s.length → n < f → Chn σ0 σ id pid buf0 buf old c e0 cs k → σ0.next + k + n ≤ 2000000000 →
      (segLen c).1 + maxTs (segLen c).2 + ((s.drop i).flatMap (escB ps)).length ≤ 70368744177664 →
      ∃ σ' buf', Chn σ0 σ' id pid buf0 buf' old (c ++ sb ((s.drop i).flatMap (escB ps))) e0 cs (k + n) ∧
        (c314_1 runB fu f (.slice pid 0 cs.length cap 1) (.ptr id 0) (.str s) (.int .i64 i) σ).val = some (.tup [], σ') := by
  intro n
  induction n with
  | zero =>
    intro i σ buf c k f hi hf h hk hmx
    obtain ⟨f, rfl⟩ : ∃ f', f = f' + 1 := ⟨f - 1, by omega⟩
    refine ⟨σ, buf, ?_, ?_⟩
    · rw [List.drop_eq_nil_of_le (by omega)]
      simpa [sb] using h
    · unfold c314_1 c314_1b
      rw [val_lenS, val_lt, val_ifK, show decide ((i : Int) < (s.length : Nat)) = false by simp; omega, cond_false, val_ret]
  | succ n ih =>
    intro i σ buf c k f hi hf h hk hmx
    obtain ⟨f, rfl⟩ : ∃ f', f = f' + 1 := ⟨f - 1, by omega⟩
    have hil : i < s.length := by omega
    rw [drop_getD s hil, List.flatMap_cons, List.length_append] at hmx
    obtain ⟨σ1, buf1, h1, hv1⟩ := inner314 (cap := cap) hps hpid hpi hrow hp0 hpl fu (c314_1 runB fu f) h (by omega) hil hsl (by omega) ps.length 0 fu (by omega) hfu rfl
    obtain ⟨σ2, buf2, h2, hv2⟩ := ih (i + 1) σ1 buf1 _ (k + 1) f (by omega) (by omega) h1 (by omega) (by rw [segLen_app]; simp only; omega)
    refine ⟨σ2, buf2, ?_, ?_⟩
    · rw [drop_getD s hil, List.flatMap_cons, sb_append, ← List.append_assoc, show k + (n + 1) = k + 1 + n by omega]
      exact h2
    · unfold c314_1 c314_1b
      rw [val_lenS, val_lt, val_ifK, show decide ((i : Int) < (s.length : Nat)) = true by simp; omega, cond_true]
      exact hv1.trans hv2
end

theorem den_sb (sv : Nat → List UInt8) (m : List UInt8) : den sv (sb m) = m := by
  induction m with
  | nil => rfl
  | cons c m ih => show c :: den sv (sb m) = _; rw [ih]
theorem SegsOK_sb (sv : Nat → List UInt8) (m : List UInt8) : SegsOK sv (sb m) := by
  induction m with
  | nil => trivial
  | cons c m ih => exact ih
theorem noKey_ok {ps : List (UInt8 × List UInt8)} : ∀ {cls : List UInt8}, noKey ps cls = true → ∀ c ∈ cls, escB ps c = [c]
  | d :: cls, h, c, hc => by
    simp only [noKey, Bool.and_eq_true] at h
    rcases List.mem_cons.1 hc with rfl | hc
    · unfold escB
      split
      · rename_i v hv; rw [hv] at h; cases h.1
      · rfl
    · exact noKey_ok h.2 c hc
theorem escImg_ok {ps : List (UInt8 × List UInt8)} {mm : Nat} : ∀ {cls : List UInt8}, escImg ps mm cls = true → ∀ c ∈ cls, escB ps c = mapB mm c
  | d :: cls, h, c, hc => by
    simp only [escImg, Bool.and_eq_true] at h
    rcases List.mem_cons.1 hc with rfl | hc
    · exact bytesBeq_eq h.1
    · exact escImg_ok h.2 c hc
theorem imgOf_ok {ps : List (UInt8 × List UInt8)} {cls : List UInt8} : ∀ {l : List Nat} {m : Nat}, imgOf ps cls l = some m → m ∈ l ∧ ∀ c ∈ cls, escB ps c = mapB m c
  | d :: l, m, h => by
    unfold imgOf at h
    rcases cond_yes h with ⟨hc, h⟩ | ⟨_, h⟩
    · cases h; exact ⟨List.mem_cons_self .., escImg_ok hc⟩
    · obtain ⟨h1, h2⟩ := imgOf_ok h
      exact ⟨List.mem_cons_of_mem _ h1, h2⟩
theorem flatMap_img {ps : List (UInt8 × List UInt8)} {m : Nat} {cls : List UInt8} (h : ∀ c ∈ cls, escB ps c = mapB m c) : ∀ {t : List UInt8}, (∀ c ∈ t, c ∈ cls) → t.flatMap (escB ps) = imgL m t
  | [], _ => rfl
  | c :: t, ht => by
    show _ = mapB m c ++ imgL m t
    rw [List.flatMap_cons, h c (ht c (List.mem_cons_self ..)), flatMap_img h fun c hc => ht c (List.mem_cons_of_mem _ hc)]
theorem sv_base (g : Ghost) {k mm : Nat} (hk : Nat.beq (k % 16) 0 = true) (hm : mm < 16) : g.sv k = g.bv (k / 16) ∧ g.sv (k + mm) = imgL mm (g.bv (k / 16)) := by
  have hk := Nat.eq_of_beq_eq_true hk
  refine ⟨?_, ?_⟩
  · unfold Ghost.sv
    rw [hk]; exact imgL_zero _
  · unfold Ghost.sv
    rw [show (k + mm) / 16 = k / 16 by omega, show (k + mm) % 16 = mm by omega]; rfl
theorem escL_ok {g : Ghost} {ps : List (UInt8 × List UInt8)} : ∀ {l m : List Seg}, escL ps l = some m → SegsOK g.sv l → SegsOK g.sv m ∧ den g.sv m = (den g.sv l).flatMap (escB ps)
  | [], m, h, _ => by cases h; exact ⟨trivial, rfl⟩
  | .b c :: l, m, h, hl => by
    unfold escL at h
    split at h
    · rename_i m' hm
      cases h
      obtain ⟨h1, h2⟩ := escL_ok hm hl
      refine ⟨SegsOK_append (SegsOK_sb g.sv (escB ps c)) h1, ?_⟩
      have := den_sb g.sv (escB ps c)
      unfold sb at this
      rw [den_append, h2, this]; simp [den]
    · cases h
  | .w k cls lo hi :: l, m, h, hl => by
    unfold escL at h
    split at h
    case h_2 => cases h
    rename_i m' hm
    obtain ⟨h1, h2⟩ := escL_ok hm hl.2
    rcases cond_yes h with ⟨hc, h⟩ | ⟨_, h⟩
    · · cases h
        refine ⟨⟨hl.1, h1⟩, ?_⟩
        show g.sv k ++ den g.sv m' = (g.sv k ++ den g.sv l).flatMap _
        rw [h2, List.flatMap_append]
        congr 1
        have : ∀ t : List UInt8, (∀ c ∈ t, c ∈ cls) → t = t.flatMap (escB ps) := by
          intro t
          induction t with
          | nil => intro _; rfl
          | cons c t ih => intro ht; rw [List.flatMap_cons, noKey_ok hc c (ht c (List.mem_cons_self ..)), ← ih (fun c hc => ht c (List.mem_cons_of_mem _ hc))]; rfl
        exact this _ hl.1.2.2
    · rcases cond_yes h with ⟨hk, h⟩ | ⟨_, h⟩
      case inr => cases h
      split at h
      case h_2 => cases h
      rename_i mm hmm
      cases h
      obtain ⟨i1, i2⟩ := imgOf_ok hmm
      have hm16 : mm < 16 := by
        simp only [List.mem_cons, List.mem_nil_iff, or_false] at i1
        omega
      obtain ⟨s1, s2⟩ := sv_base g hk hm16
      have hcl := g.bok (k / 16)
      have e1 : (g.sv k).flatMap (escB ps) = g.sv (k + mm) := by rw [s1, s2]; exact flatMap_img i2 hcl
      have l1 := imgL_len mm (g.bv (k / 16))
      refine ⟨⟨⟨by rw [s2]; have := hl.1.1; rw [s1] at this; omega, by rw [s2]; exact mulHi_ok (by rw [← s1]; exact hl.1.2.1), by rw [s2]; exact imgL_mem hcl⟩, h1⟩, ?_⟩
      show g.sv (k + mm) ++ den g.sv m' = (g.sv k ++ den g.sv l).flatMap _
      rw [h2, List.flatMap_append, e1]

theorem dropB_some {σ : Store} {buf : AV} {i : Nat} {b : Blk} (h : (dropB σ buf).get i = some b) : σ.get i = some b := by
  unfold dropB at h
  split at h
  · rename_i r c ts
    by_cases hi : i = r
    · subst hi; rw [Store.get_kill_self] at h; cases h
    · rwa [Store.get_kill_ne hi] at h
  · exact h

/-- zzPairs.WriteString -/
theorem ok314s (pid n cap id : Nat) (x : AV) (σ : Store) : CallOK X0 314 [.slice pid 0 n cap 1, .ptr id 0, x] σ (escWrite σ pid n id x) := by
  intro K g w args' ht ha hs hG
  unfold escWrite at ht
  split at ht
  case h_2 => exact ht.elim
  rename_i e0 cs e buf lr hpid0 hid0
  obtain ⟨hm, ht⟩ := Tr.sat_must ht
  obtain ⟨ps, hps, ht⟩ := Tr.sat_opt ht
  obtain ⟨old, hold, ht⟩ := Tr.sat_opt ht
  obtain ⟨l, hl, ht⟩ := Tr.sat_opt ht
  obtain ⟨m, hem, ht⟩ := Tr.sat_opt ht
  obtain ⟨hm2, hk⟩ := Tr.sat_must ht
  simp only [Bool.and_eq_true, Bool.not_eq_true', smallL, leI_eq, decide_eq_true_eq] at hm hm2
  obtain ⟨⟨⟨⟨he, hn⟩, hn1⟩, hnx⟩, hpi⟩ := hm
  obtain ⟨⟨⟨k1, k2⟩, k3⟩, hnr⟩ := hm2
  have he : e = 2 * 156 + 1 := Nat.eq_of_beq_eq_true he
  subst he
  have hn : n = cs.length := Nat.eq_of_beq_eq_true hn
  subst hn
  have hn1 : cs.length ≤ 1000000 := by simpa using hn1
  have hnx : σ.next ≤ 1000000000 := by simpa using hnx
  have hpi : pid ≠ id := fun h => by subst h; rw [Nat.beq_refl] at hpi; cases hpi
  have hrow : ∀ r c ts, buf = .bsl r c ts → r ≠ pid := by
    intro r c ts hb h
    subst hb; subst h
    simp only [notRow, Nat.beq_refl] at hnr
    cases hnr
  obtain ⟨hcl, _⟩ := pairs_get hps
  cases ha with
  | cons hsl ha =>
  cases ha with
  | cons hptr ha =>
  cases ha with
  | cons hx ha =>
  cases ha
  obtain ⟨lok, rfl⟩ := sym_segs hx hl
  obtain ⟨b, vb, rfl, hp, ho, hbuf⟩ := buf_block hs hid0 hptr
  obtain ⟨_, ook⟩ := held_row hs (T := 156) (u8 := 5) hbuf hold hid0 hp
  obtain ⟨mok, hden⟩ := escL_ok hem lok
  obtain ⟨a1, a2⟩ := segLen_ok lok
  obtain ⟨b1, b2⟩ := segLen_ok mok
  obtain ⟨c1, c2⟩ := segLen_ok ook
  have x1 := max_ok a1
  have x2 := max_ok b1
  have x3 := max_ok c1
  have hidn : id < σ.next := by rw [← hs.next]; exact (hs.lt _ _ _ hp).1
  have hpidn : pid < σ.next := by
    obtain ⟨_, _, _, hpp, _⟩ := hs.blk _ _ hpid0
    rw [← hs.next]; exact (hs.lt _ _ _ hpp).1
  have hb0 : Buf σ id buf old := by
    refine ⟨⟨lr, hid0⟩, hold, fun r c ts hb => ?_, hidn⟩
    subst hb
    cases hbuf with
    | bsl _ _ _ _ _ _ _ _ h1 _ _ => rw [← hs.next]; exact h1
  have hc0 : Chn σ σ id pid buf buf old old e0 cs 0 := ⟨hb0, fun _ _ _ => rfl, hpid0, ⟨Nat.le_refl _, Nat.le_refl _⟩, .inl ⟨rfl, rfl, rfl⟩⟩
  have hlen : (((den g.sv l).drop 0).flatMap (escB ps)).length = (den g.sv m).length := by rw [List.drop_zero, hden]
  obtain ⟨σ', buf', hc', hv⟩ := outer314 (cap := cap) (s := den g.sv l) hps hpidn hpi hrow hpid0 (by omega) ((den g.sv l).length + ps.length + 1) (by omega) (by omega) (den g.sv l).length 0 σ buf old 0 ((den g.sv l).length + ps.length + 1) (by omega) (by omega) hc0 (by omega) (by rw [hlen]; omega)
  rw [List.drop_zero, ← hden] at hc'
  have main := ok314 runB_ok ((den g.sv l).length + ps.length + 1) (.slice pid 0 cs.length cap 1) (.ptr id 0) (.str (den g.sv l)) σ (fun r => r = (.tup [], σ')) g w _ (Tr.sat_of_val hv rfl) (.cons hsl (.cons hptr (.cons (.str _) .nil))) hs hG
  refine main.mono ?_
  rintro e1 w' ⟨v, a, σ1, g', rfl, hK, hS, hE, hvr⟩
  cases hK
  cases hvr with
  | tup hvr =>
  cases hvr
  split at hk
  · -- nothing to write
    cases hem
    rcases hc'.last with ⟨_, rfl, _⟩ | ⟨r, hr1, hb, hr2, hr3⟩
    · exact ⟨_, _, _, g', rfl, hk, hS, hE, .tup .nil⟩
    · have : σ' = σ := by
        have e : some ((AV.tup [], σ) : R) = some (AV.tup [], σ') := hv
        cases e; rfl
      subst this
      exact ⟨_, _, _, g', rfl, hk, hS, hE, .tup .nil⟩
  · -- one write
    unfold bufWrite at hk
    rw [hid0] at hk
    obtain ⟨_, hk1⟩ := Tr.sat_must hk
    obtain ⟨old', hold', hk2⟩ := Tr.sat_opt hk1
    rw [hold] at hold'
    cases hold'
    obtain ⟨hm3, hk3⟩ := Tr.sat_must hk2
    split at hk3
    case h_2 => exact hk3.elim
    rename_i y hy
    simp only [Bool.and_eq_true, leI_eq, decide_eq_true_eq] at hm3
    have m1 := min_ok b1
    rcases hc'.last with ⟨_, _, hco⟩ | ⟨r, hr1, hb, hr2, hr3⟩
    · have := congrArg List.length hco
      simp [sb] at this
      have h0 : (den g.sv m).length = 0 := by rw [this]; rfl
      omega
    · subst hb
      have hyn : ((dropB σ buf).new (.bytes 5 (old ++ m))).get σ.next = some (.bytes 5 (old ++ m)) := by
        have := Store.get_new_self (σ := dropB σ buf) (b := .bytes 5 (old ++ m)) (by rw [dropB_next]; omega)
        rw [dropB_next] at this; exact this
      obtain ⟨g'', hS2, hE2⟩ := compress hs hS hE (T := 156) (u8 := 5) (new := old ++ m) hr3 hr2 hr1 hidn (by rw [den_append, den_append, den_sb]) (SegsOK_append ook mok)
        (τ := ((dropB σ buf).new (.bytes 5 (old ++ m))).upd id (.cells (2 * 156 + 1) [.bsl σ.next (segLen (old ++ m)).1 (segLen (old ++ m)).2, .int .i64 0, .int .i8 0]))
        (by show (dropB σ buf).next + 1 = _; rw [dropB_next]) (by
          intro i bl hi
          by_cases h1 : i = id
          · subst h1
            have hg1 : ((dropB σ buf).new (.bytes 5 (old ++ m))).get i = σ.get i := by
              rw [Store.get_new_ne (by rw [dropB_next]; omega)]
              unfold dropB
              split
              · rename_i r c ts; exact Store.get_kill_ne (Ne.symm (hb0.ne rfl))
              · rfl
            rw [Store.get_upd_self (hg1.trans hid0)] at hi
            cases hi
            exact .inr (.inl ⟨rfl, rfl⟩)
          · rw [Store.get_upd_ne h1] at hi
            by_cases h2 : i = σ.next
            · subst h2
              rw [hyn] at hi
              cases hi
              exact .inr (.inr ⟨rfl, rfl⟩)
            · rw [Store.get_new_ne (by rw [dropB_next]; exact h2)] at hi
              have h3 := dropB_some hi
              have h4 : i < σ.next := by
                obtain ⟨_, _, _, hpp, _⟩ := hs.blk _ _ h3
                rw [← hs.next]; exact (hs.lt _ _ _ hpp).1
              exact .inl ⟨h4, h1, h3, dropB_some ((hc'.other i h4 h1).trans hi)⟩)
      exact ⟨_, _, _, g'', rfl, hk3, hS2, hE2, .tup .nil⟩
end Go.Proofs.YtpefmbpjanafkaaGreatDoor
