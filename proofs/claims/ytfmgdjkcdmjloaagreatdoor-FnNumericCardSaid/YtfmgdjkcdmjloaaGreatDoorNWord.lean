/- printable, at texts that are known. -/
import Derived.Test.YtfmgdjkcdmjloaaGreatDoorNLk
import Derived.Test.YtfmgdjkcdmjloaaGreatDoorNQA
import Derived.Test.YtfmgdjkcdmjloaaGreatDoorNQB
set_option linter.unusedVariables false
set_option linter.unusedSimpArgs false
namespace Go.Proofs.YtfmgdjkcdmjloaaGreatDoor
open Go.AM
def prB (c : UInt8) : Bool := decide (32 ≤ c.toNat) && decide (c.toNat ≤ 126)
def printB (s : List UInt8) (most : Int) : Bool := decide ((s.length : Int) ≤ most) && s.all prB
theorem loop17 (run : FuncId → List AV → Store → Tr R) (s : List UInt8) (σ : Store) (fu : Nat) (hlen : s.length ≤ 1000000) : ∀ m i : Nat, i + m = s.length → (c17_2s run fu (m + 1) [.str s, .int .i64 s.length, .int .i64 i] σ).val = some (.bool ((s.drop i).all prB), σ)
  | m, i, h => by
    show (c17_2b run fu (fun y0 y11 y12 σ => c17_2s run fu m [y0, y11, y12] σ) (.str s) (.int .i64 s.length) (.int .i64 i) σ).val = _
    unfold c17_2b
    simp (disch := omega) only [val_lt]
    by_cases hlt : ((i : Int) < s.length)
    · rw [decide_eq_true hlt]
      have hi : i < s.length := by omega
      have hd : s.drop i = s.getD i 0 :: s.drop (i + 1) := by
        rw [List.drop_eq_getElem_cons hi, List.getD_eq_getElem?_getD, List.getElem?_eq_getElem hi]; rfl
      simp (disch := omega) only [liT, val_idxS, val_lt, Int.toNat_natCast]
      rw [hd, List.all_cons]
      by_cases h1 : (((s.getD i 0).toNat : Int) < 32)
      · rw [decide_eq_true h1]
        simp only [lgTF, lpT, liT, val_ret]
        rw [show prB (s.getD i 0) = false by simp only [prB, Bool.and_eq_false_iff, decide_eq_false_iff_not]; omega, Bool.false_and]
      · rw [decide_eq_false h1]
        simp (disch := omega) only [lgFF, val_idxS, val_gt, lpF, Int.toNat_natCast]
        by_cases h2 : (126 < ((s.getD i 0).toNat : Int))
        · rw [decide_eq_true h2]
          simp only [liT, val_ret]
          rw [show prB (s.getD i 0) = false by simp only [prB, Bool.and_eq_false_iff, decide_eq_false_iff_not]; omega, Bool.false_and]
        · rw [decide_eq_false h2]
          simp (disch := omega) only [liF, val_addK]
          rw [show prB (s.getD i 0) = true by simp only [prB, Bool.and_eq_true, decide_eq_true_eq]; omega, Bool.true_and]
          cases m with
          | zero => omega
          | succ m => exact loop17 run s σ fu hlen m (i + 1) (by omega)
    · rw [decide_eq_false hlt]
      simp only [liF]
      rw [List.drop_eq_nil_of_le (by omega)]
      rfl
theorem v17 (run : FuncId → List AV → Store → Tr R) (s : List UInt8) (most : Int) (hm : most ≤ 1000000) (σ : Store) : (c17 run (s.length + 1) (.str s) (.int .i64 most) σ).val = some (.bool (printB s most), σ) := by
  unfold c17 printB
  simp only [val_lenS, val_gt]
  by_cases h : (s.length : Int) ≤ most
  · rw [decide_eq_false (by omega), decide_eq_true h, Bool.true_and]
    simp only [liF, val_lenS]
    have := loop17 run s σ (s.length + 1) (by omega) s.length 0 (by omega)
    rw [List.drop_zero] at this
    exact this
  · rw [decide_eq_true (by omega), decide_eq_false h, Bool.false_and]
    rfl
def runO (f : FuncId) (args : List AV) (σ : Store) : Tr R :=
  if f = 17 then match args with
    | [.str s, .int .i64 most] => must (leI most 1000000) (.ret (.bool (printB s most), σ))
    | _ => .fail
  else .fail
theorem runO_ok : RunOK X0 runO := by
  intro f args σ K g w args' hs ha hsim hG
  unfold runO at hs
  split at hs
  · subst f
    split at hs
    · rename_i s most
      obtain ⟨hm, hk⟩ := Tr.sat_must hs
      simp only [leI_eq, decide_eq_true_eq] at hm
      exact ok17 runB_ok (s.length + 1) _ _ σ K g w args' (Tr.sat_of_val (v17 _ s most hm σ) hk) ha hsim hG
    · exact hs.elim
  · exact hs.elim
theorem r17 {β : Type} (s : List UInt8) (σ : Store) (f : AV → Store → Tr β) : (calK runO 17 [.str s, .int .i64 200] σ f).val = (f (.bool (printB s 200)) σ).val := val_cal rfl
/-- FnNumeric where it speaks of nothing. -/
theorem num_out (a : List UInt8) (x : AV) (σ : Store) (h : a.length > 2147483647 ∨ printB a 200 = false ∨ a = []) : (c9 runO 1 (.str a) x σ).val = some (.bool true, σ) := by
  unfold c9
  simp only [val_lenS, val_gt]
  by_cases h1 : (2147483647 : Int) < (a.length : Int)
  · rw [decide_eq_true h1]; rfl
  rw [decide_eq_false h1]
  simp only [liF, r17, lnot]
  cases h3 : printB a 200
  · rfl
  simp only [Bool.not_true, lgFF, val_eqS, lpF]
  by_cases h5 : a = []
  · rw [decide_eq_true h5]; rfl
  exfalso
  rcases h with h | h | h
  · omega
  · rw [h3] at h; cases h
  · exact h5 h
end Go.Proofs.YtfmgdjkcdmjloaaGreatDoor
