/- parseHTMLOpenTag and skipDomainElem at an address. -/
import Derived.Test.YtfmgdjkcdmjloaaGreatDoorAE2
set_option linter.unusedVariables false
set_option linter.unusedSimpArgs false
namespace Go.Proofs.YtfmgdjkcdmjloaaGreatDoor
open Go.AM
section
variable {β : Type}
theorem e_x0 (a b c : AV) (f : AV → Tr β) : (extK (.tup [a, b, c]) 0 f).val = (f a).val := rfl
theorem e_x1 (a b c : AV) (f : AV → Tr β) : (extK (.tup [a, b, c]) 1 f).val = (f b).val := rfl
theorem e_x2 (a b c : AV) (f : AV → Tr β) : (extK (.tup [a, b, c]) 2 f).val = (f c).val := rfl
end
def badT : List UInt8 := [32, 9, 10, 47, 62, 112, 115, 116]
structure AtAt (s : List UInt8) (q : Nat) : Prop where
  len : s.length ≤ 1000000
  pos : 1 ≤ q
  lt : q < s.length
  first : s.getD 0 0 = 60
  at_ : s.getD q 0 = 64
  bad : ∀ k, 1 ≤ k → k ≤ q → s.getD k 0 ∉ badT
theorem bLDH64 : bLDH 64 = false := by decide
theorem loop181 {s : List UInt8} {q : Nat} (h : AtAt s q) (σ : Store) (fu : Nat) : ∀ m i : Nat, s.length ≤ i + m → 2 ≤ i → i ≤ q → ∃ j : Nat, i ≤ j ∧ j ≤ q ∧ (c181_3 runE2 fu (m + 1) (.str s) (.int .i64 1) (.int .i64 i) σ).val = some (.tup [.str ((s.take j).drop 1), .int .i64 j, .bool true], σ)
  | m, i, h0, h2, hi => by
    have h3 := h.lt
    have h4 := h.len
    have hstop : ∀ j : Nat, 2 ≤ j → j ≤ q → (c181_2 runE2 fu (.str s) (.int .i64 1) (.int .i64 j) σ).val = some (.tup [.str ((s.take j).drop 1), .int .i64 j, .bool true], σ) := by
      intro j _ _
      unfold c181_2
      rw [val_slice _ _ _ _ _ _ (by omega) (by omega) (by omega)]
      rfl
    unfold c181_3 c181_3b
    simp (disch:=omega) only [ea,eb,ec,ed,eE,ef,eg,eh,ei,ej,ek,el,em,val_addK,val_subK,val_idxS,val_lenS,val_lt,val_le,val_gt,val_ge,val_eq,val_ne,val_ret,Bool.not_true,Bool.not_false,Int.toNat_natCast]
    have hlt : ((i : Int) < s.length) := by omega
    rw [decide_eq_true hlt]; simp (disch:=omega) only [ea,eb,ec,ed,eE,ef,eg,eh,ei,ej,ek,el,em,val_addK,val_subK,val_idxS,val_lenS,val_lt,val_le,val_gt,val_ge,val_eq,val_ne,val_ret,Bool.not_true,Bool.not_false,Int.toNat_natCast]
    cases hb : bLDH ((s.getD i 0).toNat)
    · simp (disch:=omega) only [ea,eb,ec,ed,eE,ef,eg,eh,ei,ej,ek,el,em,val_addK,val_subK,val_idxS,val_lenS,val_lt,val_le,val_gt,val_ge,val_eq,val_ne,val_ret,Bool.not_true,Bool.not_false,Int.toNat_natCast]
      exact ⟨i, Nat.le_refl _, hi, hstop i h2 hi⟩
    · simp (disch:=omega) only [ea,eb,ec,ed,eE,ef,eg,eh,ei,ej,ek,el,em,val_addK,val_subK,val_idxS,val_lenS,val_lt,val_le,val_gt,val_ge,val_eq,val_ne,val_ret,Bool.not_true,Bool.not_false,Int.toNat_natCast]
      have hq : i ≠ q := by
        intro e; subst e
        rw [h.at_] at hb
        have : bLDH 64 = true := hb
        rw [bLDH64] at this; cases this
      cases m with
      | zero => omega
      | succ m =>
        obtain ⟨j, j1, j2, j3⟩ := loop181 h σ fu m (i + 1) (by omega) (by omega) (by omega)
        exact ⟨j, by omega, j2, j3⟩
theorem v181 {s : List UInt8} {q : Nat} (h : AtAt s q) (σ : Store) : (c181 runE2 (s.length + 1) (.str s) (.int .i64 1) σ).val = some (.tup [.str [], .int .i64 0, .bool false], σ) ∨ ∃ j : Nat, 2 ≤ j ∧ j ≤ q ∧ (c181 runE2 (s.length + 1) (.str s) (.int .i64 1) σ).val = some (.tup [.str ((s.take j).drop 1), .int .i64 j, .bool true], σ) := by
  have h3 := h.lt
  have h1 := h.pos
  have h4 := h.len
  unfold c181
  simp (disch:=omega) only [ea,eb,ec,ed,eE,ef,eg,eh,ei,ej,ek,el,em,val_addK,val_subK,val_idxS,val_lenS,val_lt,val_le,val_gt,val_ge,val_eq,val_ne,val_ret,Bool.not_true,Bool.not_false,Int.toNat_natCast]
  have hlt : ((1 : Int) < s.length) := by omega
  rw [decide_eq_true hlt]; simp (disch:=omega) only [ea,eb,ec,ed,eE,ef,eg,eh,ei,ej,ek,el,em,val_addK,val_subK,val_idxS,val_lenS,val_lt,val_le,val_gt,val_ge,val_eq,val_ne,val_ret,Bool.not_true,Bool.not_false,Int.toNat_natCast]
  cases hb : bLet ((s.getD (1 : Int).toNat 0).toNat)
  · simp (disch:=omega) only [ea,eb,ec,ed,eE,ef,eg,eh,ei,ej,ek,el,em,val_addK,val_subK,val_idxS,val_lenS,val_lt,val_le,val_gt,val_ge,val_eq,val_ne,val_ret,Bool.not_true,Bool.not_false,Int.toNat_natCast]
    exact .inl rfl
  · simp (disch:=omega) only [ea,eb,ec,ed,eE,ef,eg,eh,ei,ej,ek,el,em,val_addK,val_subK,val_idxS,val_lenS,val_lt,val_le,val_gt,val_ge,val_eq,val_ne,val_ret,Bool.not_true,Bool.not_false,Int.toNat_natCast]
    right
    have hq : q ≠ 1 := by
      intro e; subst e
      have hb' : bLet ((s.getD 1 0).toNat) = true := hb
      rw [h.at_] at hb'
      revert hb'; decide
    exact loop181 h σ (s.length + 1) s.length 2 (by omega) (by omega) (by omega)
noncomputable def runE3 (f : FuncId) (args : List AV) (σ : Store) : Tr R :=
  if f = 181 then (match args with | [.str s, x] => c181 runE2 (s.length + 1) (.str s) x σ | _ => .fail) else .fail
theorem runE3_ok : RunOK X0 runE3 := by
  intro f args σ
  unfold runE3
  split
  · subst f
    split
    · rename_i s x; exact ok181 runE2_ok (s.length + 1) (.str s) x σ
    · intro K g w args' h; exact h.elim
  · intro K g w args' h; exact h.elim
theorem c148_7_val {s : List UInt8} {q : Nat} (h : AtAt s q) (x : AV) (fu : Nat) (σ : Store) (j : Nat) (h2 : 2 ≤ j) (hj : j ≤ q) : (c148_7 runE3 (fu + 1) x (.str s) (.int .i64 0) (.int .i64 j) (.bool false) σ).val = some (rNone σ) := by
  have h3 := h.lt
  have h4 := h.len
  have hb := h.bad j (by omega) hj
  have hne : ∀ c : UInt8, c ∈ badT → ¬ (((s.getD j 0).toNat : Int) = c.toNat) := by
    intro c hc e
    apply hb
    rw [UInt8.toNat_inj.1 (by omega : (s.getD j 0).toNat = c.toNat)]; exact hc
  have n1 : ¬ (((s.getD j 0).toNat : Int) = 32) := hne 32 (by decide)
  have n2 : ¬ (((s.getD j 0).toNat : Int) = 9) := hne 9 (by decide)
  have n3 : ¬ (((s.getD j 0).toNat : Int) = 10) := hne 10 (by decide)
  have n4 : ¬ (((s.getD j 0).toNat : Int) = 47) := hne 47 (by decide)
  have n5 : ¬ (((s.getD j 0).toNat : Int) = 62) := hne 62 (by decide)
  unfold c148_7
  simp (disch:=omega) only [ea,eb,ec,ed,eE,ef,eg,eh,ei,ej,ek,el,em,val_addK,val_subK,val_idxS,val_lenS,val_lt,val_le,val_gt,val_ge,val_eq,val_ne,val_ret,Bool.not_true,Bool.not_false,Int.toNat_natCast]
  unfold c148_2 c148_6 c148_6b
  simp (disch:=omega) only [ea,eb,ec,ed,eE,ef,eg,eh,ei,ej,ek,el,em,val_addK,val_subK,val_idxS,val_lenS,val_lt,val_le,val_gt,val_ge,val_eq,val_ne,val_ret,Bool.not_true,Bool.not_false,Int.toNat_natCast]
  have hlt : ¬ ((s.length : Int) ≤ (j : Int)) := by omega
  rw [decide_eq_false hlt]; simp (disch:=omega) only [ea,eb,ec,ed,eE,ef,eg,eh,ei,ej,ek,el,em,val_addK,val_subK,val_idxS,val_lenS,val_lt,val_le,val_gt,val_ge,val_eq,val_ne,val_ret,Bool.not_true,Bool.not_false,Int.toNat_natCast]
  rw [decide_eq_false n1]; simp (disch:=omega) only [ea,eb,ec,ed,eE,ef,eg,eh,ei,ej,ek,el,em,val_addK,val_subK,val_idxS,val_lenS,val_lt,val_le,val_gt,val_ge,val_eq,val_ne,val_ret,Bool.not_true,Bool.not_false,Int.toNat_natCast]
  rw [decide_eq_false n2]; simp (disch:=omega) only [ea,eb,ec,ed,eE,ef,eg,eh,ei,ej,ek,el,em,val_addK,val_subK,val_idxS,val_lenS,val_lt,val_le,val_gt,val_ge,val_eq,val_ne,val_ret,Bool.not_true,Bool.not_false,Int.toNat_natCast]
  rw [decide_eq_false n3]; simp (disch:=omega) only [ea,eb,ec,ed,eE,ef,eg,eh,ei,ej,ek,el,em,val_addK,val_subK,val_idxS,val_lenS,val_lt,val_le,val_gt,val_ge,val_eq,val_ne,val_ret,Bool.not_true,Bool.not_false,Int.toNat_natCast]
  rw [decide_eq_false n4]; simp (disch:=omega) only [ea,eb,ec,ed,eE,ef,eg,eh,ei,ej,ek,el,em,val_addK,val_subK,val_idxS,val_lenS,val_lt,val_le,val_gt,val_ge,val_eq,val_ne,val_ret,Bool.not_true,Bool.not_false,Int.toNat_natCast]
  rw [decide_eq_false n5]; simp (disch:=omega) only [ea,eb,ec,ed,eE,ef,eg,eh,ei,ej,ek,el,em,val_addK,val_subK,val_idxS,val_lenS,val_lt,val_le,val_gt,val_ge,val_eq,val_ne,val_ret,Bool.not_true,Bool.not_false,Int.toNat_natCast]
  rfl
theorem head_ne {s : List UInt8} {q : Nat} (h : AtAt s q) {j : Nat} (_h2 : 2 ≤ j) {c : UInt8} {t : List UInt8} (hc : c ∈ badT) : ¬ ((s.take j).drop 1 = c :: t) := by
  intro e
  apply h.bad 1 (Nat.le_refl _) h.pos
  have h3 := h.lt
  have h1 := h.pos
  have e1 : ((s.take j).drop 1)[0]? = some c := by rw [e]; rfl
  rw [List.getElem?_drop, List.getElem?_take] at e1
  split at e1
  · rw [List.getD_eq_getElem?_getD]
    simp only [Nat.add_zero] at e1
    rw [e1]; exact hc
  · cases e1
theorem c148_val {s : List UInt8} {q : Nat} (h : AtAt s q) (x : AV) (σ : Store) : (c148 runE3 (s.length + 1) x (.str s) (.int .i64 0) σ).val = some (rNone σ) := by
  have h3 := h.lt
  have h4 := h.len
  unfold c148
  simp (disch:=omega) only [ea,eb,ec,ed,eE,ef,eg,eh,ei,ej,ek,el,em,val_addK,val_subK,val_idxS,val_lenS,val_lt,val_le,val_gt,val_ge,val_eq,val_ne,val_ret,Bool.not_true,Bool.not_false,Int.toNat_natCast]
  have hlt : ¬ ((s.length : Int) ≤ 0) := by omega
  rw [decide_eq_false hlt]; simp (disch:=omega) only [ea,eb,ec,ed,eE,ef,eg,eh,ei,ej,ek,el,em,val_addK,val_subK,val_idxS,val_lenS,val_lt,val_le,val_gt,val_ge,val_eq,val_ne,val_ret,Bool.not_true,Bool.not_false,Int.toNat_natCast]
  have hf : ((s.getD (0 : Int).toNat 0).toNat : Int) = 60 := by
    show ((s.getD 0 0).toNat : Int) = 60
    rw [h.first]; rfl
  rw [decide_eq_true hf]; simp (disch:=omega) only [ea,eb,ec,ed,eE,ef,eg,eh,ei,ej,ek,el,em,val_addK,val_subK,val_idxS,val_lenS,val_lt,val_le,val_gt,val_ge,val_eq,val_ne,val_ret,Bool.not_true,Bool.not_false,Int.toNat_natCast]
  rcases v181 h σ with hv | ⟨j, j1, j2, hv⟩
  · rw [val_cal (run := runE3) (g := 181) (args := [.str s, .int .i64 (0 + 1)]) (show (runE3 181 [.str s, .int .i64 (0 + 1)] σ).val = _ from hv)]
    simp only [e_x0, e_x1, e_x2]
    simp (disch:=omega) only [ea,eb,ec,ed,eE,ef,eg,eh,ei,ej,ek,el,em,val_addK,val_subK,val_idxS,val_lenS,val_lt,val_le,val_gt,val_ge,val_eq,val_ne,val_ret,Bool.not_true,Bool.not_false,Int.toNat_natCast]
    rfl
  · rw [val_cal (run := runE3) (g := 181) (args := [.str s, .int .i64 (0 + 1)]) (show (runE3 181 [.str s, .int .i64 (0 + 1)] σ).val = _ from hv)]
    simp only [e_x0, e_x1, e_x2]
    simp (disch:=omega) only [ea,eb,ec,ed,eE,ef,eg,eh,ei,ej,ek,el,em,val_addK,val_subK,val_idxS,val_lenS,val_lt,val_le,val_gt,val_ge,val_eq,val_ne,val_ret,Bool.not_true,Bool.not_false,Int.toNat_natCast]
    rw [val_eqS, decide_eq_false (head_ne h j1 (by decide))]
    simp (disch:=omega) only [ea,eb,ec,ed,eE,ef,eg,eh,ei,ej,ek,el,em,val_addK,val_subK,val_idxS,val_lenS,val_lt,val_le,val_gt,val_ge,val_eq,val_ne,val_ret,Bool.not_true,Bool.not_false,Int.toNat_natCast]
    rw [val_eqS, decide_eq_false (head_ne h j1 (by decide))]
    simp (disch:=omega) only [ea,eb,ec,ed,eE,ef,eg,eh,ei,ej,ek,el,em,val_addK,val_subK,val_idxS,val_lenS,val_lt,val_le,val_gt,val_ge,val_eq,val_ne,val_ret,Bool.not_true,Bool.not_false,Int.toNat_natCast]
    rw [val_eqS, decide_eq_false (head_ne h j1 (by decide))]
    simp (disch:=omega) only [ea,eb,ec,ed,eE,ef,eg,eh,ei,ej,ek,el,em,val_addK,val_subK,val_idxS,val_lenS,val_lt,val_le,val_gt,val_ge,val_eq,val_ne,val_ret,Bool.not_true,Bool.not_false,Int.toNat_natCast]
    rw [val_eqS, decide_eq_false (head_ne h j1 (by decide))]
    exact c148_7_val h x s.length σ j j1 j2
def sAt64 : List Seg → Bool
  | [] => false
  | .b c :: l => cond (Nat.beq c.toNat 64) true (!(memB c badT) && sAt64 l)
  | .w _ cls _ _ :: l => noneIn cls badT && sAt64 l
theorem sAt64_ok {sv : Nat → List UInt8} : ∀ {l : List Seg}, sAt64 l = true → SegsOK sv l → ∃ u r, den sv l = u ++ 64 :: r ∧ ∀ c ∈ u, c ∉ badT
  | .b d :: l, h, hl => by
    unfold sAt64 at h
    cases hd : Nat.beq d.toNat 64 with
    | true =>
      have : d = 64 := UInt8.toNat_inj.1 (Nat.eq_of_beq_eq_true hd)
      subst this
      exact ⟨[], den sv l, rfl, fun c hc => by cases hc⟩
    | false =>
      rw [hd, cond_false, Bool.and_eq_true, Bool.not_eq_true'] at h
      obtain ⟨u, r, e, hu⟩ := sAt64_ok h.2 hl
      refine ⟨d :: u, r, by show d :: den sv l = _; rw [e]; rfl, ?_⟩
      intro c hc
      rcases List.mem_cons.1 hc with rfl | hc
      · exact memB_ok h.1
      · exact hu c hc
  | .w k cls lo hi :: l, h, hl => by
    simp only [sAt64, Bool.and_eq_true] at h
    obtain ⟨u, r, e, hu⟩ := sAt64_ok h.2 hl.2
    refine ⟨sv k ++ u, r, by show sv k ++ den sv l = _; rw [e, List.append_assoc], ?_⟩
    intro c hc
    rcases List.mem_append.1 hc with hc | hc
    · exact noneIn_ok' h.1 c (hl.1.2.2 c hc)
    · exact hu c hc
def sOpen : List Seg → Bool
  | .b c :: l => Nat.beq c.toNat 60 && sAt64 l
  | _ => false
theorem sOpen_ok {sv : Nat → List UInt8} {l : List Seg} (h : sOpen l = true) (hl : SegsOK sv l) (hlen : (den sv l).length ≤ 1000000) : ∃ q, AtAt (den sv l) q := by
  match l, h, hl with
  | .b d :: l, h, hl =>
    simp only [sOpen, Bool.and_eq_true] at h
    have : d = 60 := UInt8.toNat_inj.1 (Nat.eq_of_beq_eq_true h.1)
    subst this
    obtain ⟨u, r, e, hu⟩ := sAt64_ok h.2 hl
    have e' : den sv (.b 60 :: l) = 60 :: (u ++ 64 :: r) := by show 60 :: den sv l = _; rw [e]
    rw [e'] at hlen ⊢
    refine ⟨u.length + 1, hlen, by omega, by simp, rfl, ?_, ?_⟩
    · simp [List.getD_eq_getElem?_getD]
    · intro k h1 h2
      obtain ⟨k, rfl⟩ : ∃ m, k = m + 1 := ⟨k - 1, by omega⟩
      rw [List.getD_eq_getElem?_getD, List.getElem?_cons_succ]
      by_cases hk : k < u.length
      · rw [List.getElem?_append_left hk, List.getElem?_eq_getElem hk]
        exact hu _ (List.getElem_mem hk)
      · have : k = u.length := by omega
        subst this
        simp [badT]
theorem ok148s (x : AV) (l : List Seg) (σ : Store) : CallOK X0 148 [x, .sstr l, .int .i64 0] σ (must (sOpen l && leI ((segLen l).1 + maxTs (segLen l).2) 1000000) (.ret (rNone σ))) := by
  intro K g w args' ht ha hs hG
  obtain ⟨hm, hk⟩ := Tr.sat_must ht
  clear ht
  simp only [Bool.and_eq_true, leI_eq, decide_eq_true_eq] at hm
  cases ha with
  | cons hx0 ha =>
  cases ha with
  | cons hx ha =>
  cases hx with
  | sstr _ hok =>
  obtain ⟨a1, a2⟩ := segLen_ok hok
  have a3 := max_ok a1
  obtain ⟨q, hq⟩ := sOpen_ok hm.1 hok (by omega)
  have hv := c148_val hq x σ
  have main := ok148 runE3_ok ((den g.sv l).length + 1) x (.str (den g.sv l)) (.int .i64 0) σ (fun r => r = rNone σ) g w _ (Tr.sat_of_val hv rfl) (.cons hx0 (.cons (.str _) ha)) hs hG
  refine main.mono ?_
  rintro e w' ⟨v, a, σ1, g', rfl, hK, hS, hE, hvr⟩
  cases hK
  exact ⟨v, _, _, g', rfl, hk, hS, hE, hvr⟩
end Go.Proofs.YtfmgdjkcdmjloaaGreatDoor
