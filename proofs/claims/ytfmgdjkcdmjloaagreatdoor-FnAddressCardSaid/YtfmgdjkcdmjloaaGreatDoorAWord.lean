/- only, at texts that are known; rules for guards. -/
import Derived.Test.YtfmgdjkcdmjloaaGreatDoorAS1
import Derived.Test.YtfmgdjkcdmjloaaGreatDoorAE2
set_option linter.unusedVariables false
set_option linter.unusedSimpArgs false
namespace Go.Proofs.YtfmgdjkcdmjloaaGreatDoor
open Go.AM
def allB (s set : List UInt8) : Bool := s.all fun c => set.contains c
def onlyB (s set : List UInt8) (most : Int) : Bool := decide ((s.length : Int) ≤ most) && allB s set
theorem indexB_notmem {c : UInt8} : ∀ {l : List UInt8} {i : Nat}, c ∉ l → indexB c l i = -1
  | [], _, _ => rfl
  | d :: l, i, h => by
    unfold indexB
    have h1 : Nat.beq d.toNat c.toNat = false := by
      cases hb : Nat.beq d.toNat c.toNat with
      | false => rfl
      | true => exact (h (by rw [UInt8.toNat_inj.1 (Nat.eq_of_beq_eq_true hb)]; simp)).elim
    rw [h1, cond_false]
    exact indexB_notmem fun hc => h (List.mem_cons_of_mem _ hc)
theorem loop11' (set s : List UInt8) (σ : Store) (fu : Nat) (hlen : s.length ≤ 1000000) : ∀ m i, i + m = s.length → (c11_2 runB fu (m + 1) (.str s) (.str set) (.int .i64 s.length) (.int .i64 i) σ).val = some (.bool (allB (s.drop i) set), σ)
  | 0, i, h => by
    unfold c11_2 c11_2b c11_1
    rw [val_lt, val_ifK, show decide ((i : Int) < (s.length : Nat)) = false by simp; omega, cond_false, val_ret, List.drop_eq_nil_of_le (by omega)]
    rfl
  | m + 1, i, h => by
    have ih := loop11' set s σ fu hlen m (i + 1) (by omega)
    have hi : i < s.length := by omega
    have hd : s.drop i = s.getD i 0 :: s.drop (i + 1) := by
      rw [List.drop_eq_getElem_cons hi, List.getD_eq_getElem?_getD, List.getElem?_eq_getElem hi]; rfl
    have hrun : (runB 24 [.str set, .int .u8 (s.getD i 0).toNat] σ).val = some (.int .i64 (indexB (s.getD i 0) set 0), σ) := by
      simp [runB, sp24, Tr.val]
    unfold c11_2 c11_2b
    rw [val_lt, val_ifK, show decide ((i : Int) < (s.length : Nat)) = true by simp; omega, cond_true, val_idxS _ _ _ _ (by omega) (by omega), Int.toNat_natCast, val_cal hrun, val_lt, val_ifK]
    by_cases hm : s.getD i 0 ∈ set
    · rw [show decide (indexB (s.getD i 0) set 0 < 0) = false by simpa using indexB_mem hm, cond_false, val_addK _ _ _ (by omega) (by omega)]
      rw [show ((i : Int) + 1) = ((i + 1 : Nat) : Int) by omega, ih, hd]
      simp only [allB, List.all_cons]
      rw [show set.contains (s.getD i 0) = true by simpa using hm, Bool.true_and]
    · rw [indexB_notmem hm, show decide ((-1 : Int) < 0) = true by decide, cond_true, val_ret, hd]
      simp only [allB, List.all_cons]
      rw [show set.contains (s.getD i 0) = false by simpa using hm, Bool.false_and]
theorem ok11c (s set : List UInt8) (most : Int) (hmost : most ≤ 1000000) (σ : Store) : CallOK X0 11 [.str s, .str set, .int .i64 most] σ (.ret (.bool (onlyB s set most), σ)) := by
  have hv : (c11 runB (s.length + 1) (.str s) (.str set) (.int .i64 most) σ).val = some (.bool (onlyB s set most), σ) := by
    unfold c11 onlyB
    rw [val_lenS, val_gt, val_ifK]
    by_cases h : (s.length : Int) ≤ most
    · rw [show decide (most < (s.length : Int)) = false by simpa using h, cond_false, val_lenS]
      have := loop11' set s σ (s.length + 1) (by omega) s.length 0 (by omega)
      rw [List.drop_zero] at this
      rw [decide_eq_true h, Bool.true_and]
      exact this
    · rw [show decide (most < (s.length : Int)) = true by simp; omega, cond_true, val_ret, decide_eq_false h, Bool.false_and]
  intro K g w args' ht
  exact ok11 runB_ok (s.length + 1) (.str s) (.str set) (.int .i64 most) σ K g w args' (Tr.sat_of_val hv ht)
theorem val_notK {β : Type} (b : Bool) (f : AV → Tr β) : (notK (.bool b) f).val = (f (.bool (!b))).val := rfl
theorem val_gFT {β : Type} (σ : Store) (t : (AV → Store → Tr β) → Tr β) (f : AV → Store → Tr β) : (grdK (.bool true) false σ t f).val = (f (.tup []) σ).val := rfl
theorem val_gFF {β : Type} (σ : Store) (t : (AV → Store → Tr β) → Tr β) (f : AV → Store → Tr β) : (grdK (.bool false) false σ t f).val = (t f).val := rfl
theorem val_gTF {β : Type} (σ : Store) (t : (AV → Store → Tr β) → Tr β) (f : AV → Store → Tr β) : (grdK (.bool false) true σ t f).val = (f (.tup []) σ).val := rfl
theorem val_gTT {β : Type} (σ : Store) (t : (AV → Store → Tr β) → Tr β) (f : AV → Store → Tr β) : (grdK (.bool true) true σ t f).val = (t f).val := rfl
theorem val_grdB {β : Type} (σ : Store) (t : (AV → Store → Tr β) → Tr β) (f : AV → Store → Tr β) (want b : Bool) (h : b = want) : (grdK (.bool b) want σ t f).val = (t f).val := by subst h; cases b <;> rfl
theorem val_grdS {β : Type} (σ : Store) (t : (AV → Store → Tr β) → Tr β) (f : AV → Store → Tr β) (want b : Bool) (h : b = !want) : (grdK (.bool b) want σ t f).val = (f (.tup []) σ).val := by subst h; cases want <;> rfl
theorem val_pickT {β : Type} (b : Bool) (y z : AV) (f : AV → Tr β) (h : b = true) : (pickK (.bool b) y z f).val = (f y).val := by subst h; rfl
theorem val_pickF {β : Type} (b : Bool) (y z : AV) (f : AV → Tr β) (h : b = false) : (pickK (.bool b) y z f).val = (f z).val := by subst h; rfl
theorem val_ifT {β : Type} (b : Bool) (s t : Tr β) (h : b = true) : (ifK (.bool b) s t).val = s.val := by subst h; rfl
theorem val_ifF {β : Type} (b : Bool) (s t : Tr β) (h : b = false) : (ifK (.bool b) s t).val = t.val := by subst h; rfl
def runO (f : FuncId) (args : List AV) (σ : Store) : Tr R :=
  if f = 11 then match args with
    | [.str s, .str set, .int .i64 most] => must (leI most 1000000) (.ret (.bool (onlyB s set most), σ))
    | _ => .fail
  else .fail
theorem runO_ok : RunOK X0 runO := by
  intro f args σ K g w args' hs ha hsim hG
  unfold runO at hs
  split at hs
  · subst f
    split at hs
    · obtain ⟨hm, hk⟩ := Tr.sat_must hs
      exact ok11c _ _ _ (by simpa [leI_eq] using hm) σ K g w args' hk ha hsim hG
    · exact hs.elim
  · exact hs.elim
theorem val_o11 {β : Type} (s set : List UInt8) (most : Int) (h : most ≤ 1000000) (σ : Store) (f : AV → Store → Tr β) : (calK runO 11 [.str s, .str set, .int .i64 most] σ f).val = (f (.bool (onlyB s set most)) σ).val := by
  have : (runO 11 [.str s, .str set, .int .i64 most] σ).val = some (.bool (onlyB s set most), σ) := by
    show (must (leI most 1000000) (Tr.ret (AV.bool (onlyB s set most), σ))).val = _
    rw [val_mustT _ (by simpa [leI_eq] using h)]; rfl
  exact val_cal this
end Go.Proofs.YtfmgdjkcdmjloaaGreatDoor
