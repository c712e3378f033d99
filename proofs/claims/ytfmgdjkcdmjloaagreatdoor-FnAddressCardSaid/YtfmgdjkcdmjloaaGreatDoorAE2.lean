/- parseAutoLinkURI where no colon stands. -/
import Derived.Test.YtfmgdjkcdmjloaaGreatDoorAE1
set_option linter.unusedVariables false
set_option linter.unusedSimpArgs false
namespace Go.Proofs.YtfmgdjkcdmjloaaGreatDoor
open Go.AM
section
variable {β : Type}
theorem ea (σ : Store) (t : (AV → Store → Tr β) → Tr β) (f : AV → Store → Tr β) : (grdK (.bool true) true σ t f).val = (t f).val := rfl
theorem eb (σ : Store) (t : (AV → Store → Tr β) → Tr β) (f : AV → Store → Tr β) : (grdK (.bool false) true σ t f).val = (f (.tup []) σ).val := rfl
theorem ec (σ : Store) (t : (AV → Store → Tr β) → Tr β) (f : AV → Store → Tr β) : (grdK (.bool true) false σ t f).val = (f (.tup []) σ).val := rfl
theorem ed (σ : Store) (t : (AV → Store → Tr β) → Tr β) (f : AV → Store → Tr β) : (grdK (.bool false) false σ t f).val = (t f).val := rfl
theorem eE (a b : AV) (f : AV → Tr β) : (pickK (.bool true) a b f).val = (f a).val := rfl
theorem ef (a b : AV) (f : AV → Tr β) : (pickK (.bool false) a b f).val = (f b).val := rfl
theorem eg (s t : Tr β) : (ifK (.bool true) s t).val = s.val := rfl
theorem eh (s t : Tr β) : (ifK (.bool false) s t).val = t.val := rfl
theorem ei (b : Bool) (f : AV → Tr β) : (notK (.bool b) f).val = (f (.bool (!b))).val := rfl
theorem ej (n : Int) (σ : Store) (f : AV → Store → Tr β) : (calK runE2 126 [.int .u8 n] σ f).val = (f (.bool (bLD n)) σ).val := val_cal (s126 n σ)
theorem ek (n : Int) (σ : Store) (f : AV → Store → Tr β) : (calK runE2 138 [.int .u8 n] σ f).val = (f (.bool (bLet n)) σ).val := val_cal (s138 n σ)
theorem el (n : Int) (σ : Store) (f : AV → Store → Tr β) : (calK runE2 180 [.int .u8 n] σ f).val = (f (.bool (bLDH n)) σ).val := val_cal (s180 n σ)
theorem em (n : Int) (σ : Store) (f : AV → Store → Tr β) : (calK runE2 144 [.int .u8 n] σ f).val = (f (.bool (bSch n)) σ).val := val_cal (s144 n σ)
end
def rNone (σ : Store) : R := (.tup [.nili, .int .i64 0, .bool false], σ)
theorem getD_mem {s : List UInt8} {j : Nat} (h : j < s.length) : s.getD j 0 ∈ s := by
  rw [List.getD_eq_getElem?_getD, List.getElem?_eq_getElem h]; exact List.getElem_mem _
theorem getD_ne {s : List UInt8} {c : UInt8} {j : Nat} (hno : c ∉ s) (h : j < s.length) : ¬ (((s.getD j 0).toNat : Int) = c.toNat) := by
  intro e
  apply hno
  have : s.getD j 0 = c := UInt8.toNat_inj.1 (by omega)
  rw [← this]; exact getD_mem h
theorem c97_1_val (run : FuncId → List AV → Store → Tr R) (fu : Nat) (s : List UInt8) (σ : Store) (hno : (58 : UInt8) ∉ s) (hlen : s.length ≤ 1000000) (j : Nat) (hj : j ≤ s.length) : (c97_1 run fu (.str s) (.int .i64 0) (.int .i64 j) σ).val = some (rNone σ) := by
  unfold c97_1
  simp (disch:=omega) only [ea,eb,ec,ed,eE,ef,eg,eh,ei,ej,ek,el,em,val_addK,val_subK,val_idxS,val_lenS,val_lt,val_le,val_gt,val_ge,val_eq,val_ne,val_ret,Bool.not_true,Bool.not_false,Int.toNat_natCast]
  by_cases h1 : ((j : Int) - (0 + 1) < 2)
  · rw [decide_eq_true h1]; simp (disch:=omega) only [ea,eb,ec,ed,eE,ef,eg,eh,ei,ej,ek,el,em,val_addK,val_subK,val_idxS,val_lenS,val_lt,val_le,val_gt,val_ge,val_eq,val_ne,val_ret,Bool.not_true,Bool.not_false,Int.toNat_natCast]; rfl
  · rw [decide_eq_false h1]; simp (disch:=omega) only [ea,eb,ec,ed,eE,ef,eg,eh,ei,ej,ek,el,em,val_addK,val_subK,val_idxS,val_lenS,val_lt,val_le,val_gt,val_ge,val_eq,val_ne,val_ret,Bool.not_true,Bool.not_false,Int.toNat_natCast]
    by_cases h2 : (32 < (j : Int) - (0 + 1))
    · rw [decide_eq_true h2]; simp (disch:=omega) only [ea,eb,ec,ed,eE,ef,eg,eh,ei,ej,ek,el,em,val_addK,val_subK,val_idxS,val_lenS,val_lt,val_le,val_gt,val_ge,val_eq,val_ne,val_ret,Bool.not_true,Bool.not_false,Int.toNat_natCast]; rfl
    · rw [decide_eq_false h2]; simp (disch:=omega) only [ea,eb,ec,ed,eE,ef,eg,eh,ei,ej,ek,el,em,val_addK,val_subK,val_idxS,val_lenS,val_lt,val_le,val_gt,val_ge,val_eq,val_ne,val_ret,Bool.not_true,Bool.not_false,Int.toNat_natCast]
      by_cases h3 : ((s.length : Int) ≤ (j : Int))
      · rw [decide_eq_true h3]; simp (disch:=omega) only [ea,eb,ec,ed,eE,ef,eg,eh,ei,ej,ek,el,em,val_addK,val_subK,val_idxS,val_lenS,val_lt,val_le,val_gt,val_ge,val_eq,val_ne,val_ret,Bool.not_true,Bool.not_false,Int.toNat_natCast]; rfl
      · rw [decide_eq_false h3]; simp (disch:=omega) only [ea,eb,ec,ed,eE,ef,eg,eh,ei,ej,ek,el,em,val_addK,val_subK,val_idxS,val_lenS,val_lt,val_le,val_gt,val_ge,val_eq,val_ne,val_ret,Bool.not_true,Bool.not_false,Int.toNat_natCast]
        have hne : ¬ (((s.getD j 0).toNat : Int) = 58) := getD_ne hno (by omega)
        rw [decide_eq_false hne]; simp (disch:=omega) only [ea,eb,ec,ed,eE,ef,eg,eh,ei,ej,ek,el,em,val_addK,val_subK,val_idxS,val_lenS,val_lt,val_le,val_gt,val_ge,val_eq,val_ne,val_ret,Bool.not_true,Bool.not_false,Int.toNat_natCast]; rfl
theorem loop97 (s : List UInt8) (σ : Store) (fu : Nat) (hno : (58 : UInt8) ∉ s) (hlen : s.length ≤ 1000000) : ∀ m i : Nat, s.length ≤ i + m → i ≤ s.length → (c97_4 runE2 fu (m + 1) (.str s) (.int .i64 0) (.int .i64 i) σ).val = some (rNone σ)
  | m, i, h, hi => by
    unfold c97_4 c97_4b
    simp (disch:=omega) only [ea,eb,ec,ed,eE,ef,eg,eh,ei,ej,ek,el,em,val_addK,val_subK,val_idxS,val_lenS,val_lt,val_le,val_gt,val_ge,val_eq,val_ne,val_ret,Bool.not_true,Bool.not_false,Int.toNat_natCast]
    by_cases hlt : ((i : Int) < s.length)
    · rw [decide_eq_true hlt]; simp (disch:=omega) only [ea,eb,ec,ed,eE,ef,eg,eh,ei,ej,ek,el,em,val_addK,val_subK,val_idxS,val_lenS,val_lt,val_le,val_gt,val_ge,val_eq,val_ne,val_ret,Bool.not_true,Bool.not_false,Int.toNat_natCast]
      cases hb : bSch ((s.getD i 0).toNat)
      · simp (disch:=omega) only [ea,eb,ec,ed,eE,ef,eg,eh,ei,ej,ek,el,em,val_addK,val_subK,val_idxS,val_lenS,val_lt,val_le,val_gt,val_ge,val_eq,val_ne,val_ret,Bool.not_true,Bool.not_false,Int.toNat_natCast]
        exact c97_1_val _ _ _ _ hno hlen i hi
      · simp (disch:=omega) only [ea,eb,ec,ed,eE,ef,eg,eh,ei,ej,ek,el,em,val_addK,val_subK,val_idxS,val_lenS,val_lt,val_le,val_gt,val_ge,val_eq,val_ne,val_ret,Bool.not_true,Bool.not_false,Int.toNat_natCast]
        by_cases hc : ((i : Int) - (0 + 1) ≤ 32)
        · rw [decide_eq_true hc]; simp (disch:=omega) only [ea,eb,ec,ed,eE,ef,eg,eh,ei,ej,ek,el,em,val_addK,val_subK,val_idxS,val_lenS,val_lt,val_le,val_gt,val_ge,val_eq,val_ne,val_ret,Bool.not_true,Bool.not_false,Int.toNat_natCast]
          cases m with
          | zero => omega
          | succ m => exact loop97 s σ fu hno hlen m (i + 1) (by omega) (by omega)
        · rw [decide_eq_false hc]; simp (disch:=omega) only [ea,eb,ec,ed,eE,ef,eg,eh,ei,ej,ek,el,em,val_addK,val_subK,val_idxS,val_lenS,val_lt,val_le,val_gt,val_ge,val_eq,val_ne,val_ret,Bool.not_true,Bool.not_false,Int.toNat_natCast]
          exact c97_1_val _ _ _ _ hno hlen i hi
    · rw [decide_eq_false hlt]; simp (disch:=omega) only [ea,eb,ec,ed,eE,ef,eg,eh,ei,ej,ek,el,em,val_addK,val_subK,val_idxS,val_lenS,val_lt,val_le,val_gt,val_ge,val_eq,val_ne,val_ret,Bool.not_true,Bool.not_false,Int.toNat_natCast]
      exact c97_1_val _ _ _ _ hno hlen i hi
theorem c97_val (s : List UInt8) (σ : Store) (hno : (58 : UInt8) ∉ s) (hlen : s.length ≤ 1000000) : (c97 runE2 (s.length + 1) (.str s) (.int .i64 0) σ).val = some (rNone σ) := by
  unfold c97
  simp (disch:=omega) only [ea,eb,ec,ed,eE,ef,eg,eh,ei,ej,ek,el,em,val_addK,val_subK,val_idxS,val_lenS,val_lt,val_le,val_gt,val_ge,val_eq,val_ne,val_ret,Bool.not_true,Bool.not_false,Int.toNat_natCast]
  by_cases h1 : ((s.length : Int) ≤ 0 + 1)
  · rw [decide_eq_true h1]; simp (disch:=omega) only [ea,eb,ec,ed,eE,ef,eg,eh,ei,ej,ek,el,em,val_addK,val_subK,val_idxS,val_lenS,val_lt,val_le,val_gt,val_ge,val_eq,val_ne,val_ret,Bool.not_true,Bool.not_false,Int.toNat_natCast]; rfl
  · rw [decide_eq_false h1]; simp (disch:=omega) only [ea,eb,ec,ed,eE,ef,eg,eh,ei,ej,ek,el,em,val_addK,val_subK,val_idxS,val_lenS,val_lt,val_le,val_gt,val_ge,val_eq,val_ne,val_ret,Bool.not_true,Bool.not_false,Int.toNat_natCast]
    cases hb : decide ((((s.getD (0 : Int).toNat 0).toNat : Int)) = 60)
    · simp (disch:=omega) only [ea,eb,ec,ed,eE,ef,eg,eh,ei,ej,ek,el,em,val_addK,val_subK,val_idxS,val_lenS,val_lt,val_le,val_gt,val_ge,val_eq,val_ne,val_ret,Bool.not_true,Bool.not_false,Int.toNat_natCast]; rfl
    · simp (disch:=omega) only [ea,eb,ec,ed,eE,ef,eg,eh,ei,ej,ek,el,em,val_addK,val_subK,val_idxS,val_lenS,val_lt,val_le,val_gt,val_ge,val_eq,val_ne,val_ret,Bool.not_true,Bool.not_false,Int.toNat_natCast]
      cases hc : bLet ((s.getD (0 + 1 : Int).toNat 0).toNat)
      · simp (disch:=omega) only [ea,eb,ec,ed,eE,ef,eg,eh,ei,ej,ek,el,em,val_addK,val_subK,val_idxS,val_lenS,val_lt,val_le,val_gt,val_ge,val_eq,val_ne,val_ret,Bool.not_true,Bool.not_false,Int.toNat_natCast]; rfl
      · simp (disch:=omega) only [ea,eb,ec,ed,eE,ef,eg,eh,ei,ej,ek,el,em,val_addK,val_subK,val_idxS,val_lenS,val_lt,val_le,val_gt,val_ge,val_eq,val_ne,val_ret,Bool.not_true,Bool.not_false,Int.toNat_natCast]
        exact loop97 s σ (s.length + 1) hno hlen s.length 1 (by omega) (by omega)
theorem ok97s (l : List Seg) (σ : Store) : CallOK X0 97 [.sstr l, .int .i64 0] σ (must (sNone [58] l && leI ((segLen l).1 + maxTs (segLen l).2) 1000000) (.ret (rNone σ))) := by
  intro K g w args' ht ha hs hG
  obtain ⟨hm, hk⟩ := Tr.sat_must ht
  clear ht
  simp only [Bool.and_eq_true, leI_eq, decide_eq_true_eq] at hm
  cases ha with
  | cons hx ha =>
  cases hx with
  | sstr _ hok =>
  obtain ⟨a1, a2⟩ := segLen_ok hok
  have a3 := max_ok a1
  have hv := c97_val (den g.sv l) σ (sNone_ok hm.1 hok) (by omega)
  have main := ok97 runE2_ok ((den g.sv l).length + 1) (.str (den g.sv l)) (.int .i64 0) σ (fun r => r = rNone σ) g w _ (Tr.sat_of_val hv rfl) (.cons (.str _) ha) hs hG
  refine main.mono ?_
  rintro e w' ⟨v, a, σ1, g', rfl, hK, hS, hE, hvr⟩
  cases hK
  exact ⟨v, _, _, g', rfl, hk, hS, hE, hvr⟩
end Go.Proofs.YtfmgdjkcdmjloaaGreatDoor
