/- skipDomainElem at a word of letters and digits. -/
import Derived.Test.YtfmgdjkcdmjloaaGreatDoorAE2
set_option linter.unusedVariables false
set_option linter.unusedSimpArgs false
namespace Go.Proofs.YtfmgdjkcdmjloaaGreatDoor
open Go.AM
structure Elem (s : List UInt8) (n : Nat) : Prop where
  len : s.length ≤ 1000000
  pos : 1 ≤ n
  le : n ≤ 63
  lt : n < s.length
  ld : ∀ k, k < n → bLD ((s.getD k 0).toNat) = true
  end_ : bLDH ((s.getD n 0).toNat) = false
theorem c147_1_val {s : List UInt8} {n : Nat} (h : Elem s n) (σ : Store) (fu : Nat) : (c147_1 runE2 fu (.str s) (.int .i64 n) σ).val = some (.tup [.int .i64 n, .bool true], σ) := by
  have h1 := h.pos
  have h2 := h.le
  have h3 := h.lt
  have hd := h.ld (n - 1) (by omega)
  unfold c147_1
  simp (disch:=omega) only [ea,eb,ec,ed,eE,ef,eg,eh,ei,ej,ek,el,em,val_addK,val_subK,val_idxS,val_lenS,val_lt,val_le,val_gt,val_ge,val_eq,val_ne,val_ret,Bool.not_true,Bool.not_false,Int.toNat_natCast]
  have hn : ¬ ((63 : Int) < (n : Int)) := by omega
  rw [decide_eq_false hn]; simp (disch:=omega) only [ea,eb,ec,ed,eE,ef,eg,eh,ei,ej,ek,el,em,val_addK,val_subK,val_idxS,val_lenS,val_lt,val_le,val_gt,val_ge,val_eq,val_ne,val_ret,Bool.not_true,Bool.not_false,Int.toNat_natCast]
  rw [show ((n : Int) - 1).toNat = n - 1 by omega, hd]
  simp (disch:=omega) only [ea,eb,ec,ed,eE,ef,eg,eh,ei,ej,ek,el,em,val_addK,val_subK,val_idxS,val_lenS,val_lt,val_le,val_gt,val_ge,val_eq,val_ne,val_ret,Bool.not_true,Bool.not_false,Int.toNat_natCast]
theorem loop147 {s : List UInt8} {n : Nat} (h : Elem s n) (σ : Store) (fu : Nat) : ∀ m i : Nat, s.length ≤ i + m → i ≤ n → (c147_2 runE2 fu (m + 1) (.str s) (.int .i64 i) σ).val = some (.tup [.int .i64 n, .bool true], σ)
  | m, i, h0, hi => by
    have h3 := h.lt
    have h4 := h.len
    have h5 := h.le
    unfold c147_2 c147_2b
    simp (disch:=omega) only [ea,eb,ec,ed,eE,ef,eg,eh,ei,ej,ek,el,em,val_addK,val_subK,val_idxS,val_lenS,val_lt,val_le,val_gt,val_ge,val_eq,val_ne,val_ret,Bool.not_true,Bool.not_false,Int.toNat_natCast]
    have hlt : ((i : Int) < s.length) := by omega
    rw [decide_eq_true hlt]; simp (disch:=omega) only [ea,eb,ec,ed,eE,ef,eg,eh,ei,ej,ek,el,em,val_addK,val_subK,val_idxS,val_lenS,val_lt,val_le,val_gt,val_ge,val_eq,val_ne,val_ret,Bool.not_true,Bool.not_false,Int.toNat_natCast]
    by_cases hin : i = n
    · subst hin
      rw [h.end_]
      simp (disch:=omega) only [ea,eb,ec,ed,eE,ef,eg,eh,ei,ej,ek,el,em,val_addK,val_subK,val_idxS,val_lenS,val_lt,val_le,val_gt,val_ge,val_eq,val_ne,val_ret,Bool.not_true,Bool.not_false,Int.toNat_natCast]
      exact c147_1_val h σ fu
    · have hb : bLDH ((s.getD i 0).toNat) = true := by
        unfold bLDH; rw [h.ld i (by omega)]; rfl
      rw [hb]
      simp (disch:=omega) only [ea,eb,ec,ed,eE,ef,eg,eh,ei,ej,ek,el,em,val_addK,val_subK,val_idxS,val_lenS,val_lt,val_le,val_gt,val_ge,val_eq,val_ne,val_ret,Bool.not_true,Bool.not_false,Int.toNat_natCast]
      have hle : ((i : Int) ≤ 63) := by omega
      rw [decide_eq_true hle]; simp (disch:=omega) only [ea,eb,ec,ed,eE,ef,eg,eh,ei,ej,ek,el,em,val_addK,val_subK,val_idxS,val_lenS,val_lt,val_le,val_gt,val_ge,val_eq,val_ne,val_ret,Bool.not_true,Bool.not_false,Int.toNat_natCast]
      cases m with
      | zero => omega
      | succ m => exact loop147 h σ fu m (i + 1) (by omega) (by omega)
theorem c147_val {s : List UInt8} {n : Nat} (h : Elem s n) (σ : Store) : (c147 runE2 (s.length + 1) (.str s) σ).val = some (.tup [.int .i64 n, .bool true], σ) := by
  have h1 := h.pos
  have h3 := h.lt
  have h0 := h.ld 0 (by omega)
  unfold c147
  simp (disch:=omega) only [ea,eb,ec,ed,eE,ef,eg,eh,ei,ej,ek,el,em,val_addK,val_subK,val_idxS,val_lenS,val_lt,val_le,val_gt,val_ge,val_eq,val_ne,val_ret,Bool.not_true,Bool.not_false,Int.toNat_natCast]
  have hlt : ¬ ((s.length : Int) < 1) := by omega
  rw [decide_eq_false hlt]; simp (disch:=omega) only [ea,eb,ec,ed,eE,ef,eg,eh,ei,ej,ek,el,em,val_addK,val_subK,val_idxS,val_lenS,val_lt,val_le,val_gt,val_ge,val_eq,val_ne,val_ret,Bool.not_true,Bool.not_false,Int.toNat_natCast]
  have h0' : bLD ((s.getD (0 : Int).toNat 0).toNat) = true := h0
  rw [h0']
  simp (disch:=omega) only [ea,eb,ec,ed,eE,ef,eg,eh,ei,ej,ek,el,em,val_addK,val_subK,val_idxS,val_lenS,val_lt,val_le,val_gt,val_ge,val_eq,val_ne,val_ret,Bool.not_true,Bool.not_false,Int.toNat_natCast]
  exact loop147 h σ (s.length + 1) s.length 1 (by omega) (by omega)
def ldSet : List UInt8 := [97, 98, 99, 100, 101, 102, 103, 104, 105, 106, 107, 108, 109, 110, 111, 112, 113, 114, 115, 116, 117, 118, 119, 120, 121, 122, 48, 49, 50, 51, 52, 53, 54, 55, 56, 57]
theorem ldSet_ok : ∀ c ∈ ldSet, bLD c.toNat = true := by decide
theorem endSet_ok : ∀ c ∈ ([46, 62] : List UInt8), bLDH c.toNat = false := by decide
def elemA (σ : Store) : List Seg → Tr R
  | .w k cls lo hi :: .b d :: l => must (allIn cls ldSet && memB d [46, 62] && Nat.ble 1 lo && Nat.ble hi 63 && leI ((segLen l).1 + maxTs (segLen l).2) 900000) (.ret (.tup [mkLin 0 [⟨k, 1, lo, hi⟩], .bool true], σ))
  | _ => .fail
theorem ok147s (l : List Seg) (σ : Store) : CallOK X0 147 [.sstr l] σ (elemA σ l) := by
  intro K g w args' ht ha hs hG
  unfold elemA at ht
  split at ht
  · rename_i k cls lo hi d l
    obtain ⟨hm, hk⟩ := Tr.sat_must ht
    clear ht
    simp only [Bool.and_eq_true, leI_eq, decide_eq_true_eq, Nat.ble_eq] at hm
    cases ha with
    | cons hx ha =>
    cases hx with
    | sstr _ hok =>
    have hok2 : SegsOK g.sv l := hok.2
    obtain ⟨a1, a2⟩ := segLen_ok hok2
    have a3 := max_ok a1
    have hden : den g.sv (.w k cls lo hi :: .b d :: l) = g.sv k ++ d :: den g.sv l := rfl
    obtain ⟨b1, b2, b3⟩ := hok.1
    have hel : Elem (den g.sv (.w k cls lo hi :: .b d :: l)) (g.sv k).length := by
      rw [hden]
      refine ⟨by rw [List.length_append, List.length_cons]; omega, by omega, by omega, by simp, ?_, ?_⟩
      · intro j hj
        rw [List.getD_eq_getElem?_getD, List.getElem?_append_left hj, List.getElem?_eq_getElem hj]
        exact ldSet_ok _ (allIn_ok hm.1.1.1.1 _ (b3 _ (List.getElem_mem hj)))
      · rw [List.getD_eq_getElem?_getD, List.getElem?_append_right (Nat.le_refl _), Nat.sub_self]
        show bLDH d.toNat = false
        exact endSet_ok _ ((memB_iff _ _).1 hm.1.1.1.2)
    have hv := c147_val hel σ
    have main := ok147 runE2_ok ((den g.sv (.w k cls lo hi :: .b d :: l)).length + 1) (.str (den g.sv (.w k cls lo hi :: .b d :: l))) σ (fun r => r = (.tup [.int .i64 (g.sv k).length, .bool true], σ)) g w _ (Tr.sat_of_val hv rfl) (.cons (.str _) ha) hs hG
    refine main.mono ?_
    rintro e w' ⟨v, a, σ1, g', rfl, hK, hS, hE, hvr⟩
    cases hK
    refine ⟨v, _, _, g', rfl, hk, hS, hE, ?_⟩
    cases hvr with
    | tup hvr =>
    cases hvr with
    | cons hv1 hvr =>
    have ht : TsOK g.sv [⟨k, 1, lo, hi⟩] := ⟨⟨b1, b2⟩, trivial⟩
    have hL := (VR_mkLin (c := 0) ht).mono hE.le
    simp only [tval, Int.one_mul, Int.add_zero, Int.zero_add] at hL
    cases hv1
    exact .tup (.cons hL hvr)
  · exact ht.elim
end Go.Proofs.YtfmgdjkcdmjloaaGreatDoor
