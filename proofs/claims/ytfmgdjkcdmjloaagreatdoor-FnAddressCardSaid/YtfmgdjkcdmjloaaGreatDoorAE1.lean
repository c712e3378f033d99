/- Functions of letters and digits, told as Lean functions of bytes; a run with them. -/
import Derived.Test.YtfmgdjkcdmjloaaGreatDoorAS1
import Derived.Test.YtfmgdjkcdmjloaaGreatDoorAPE
set_option linter.unusedVariables false
set_option linter.unusedSimpArgs false
namespace Go.Proofs.YtfmgdjkcdmjloaaGreatDoor
open Go.AM
def bLet (n : Int) : Bool := (decide (65 ≤ n) && decide (n ≤ 90)) || (decide (97 ≤ n) && decide (n ≤ 122))
def bLD (n : Int) : Bool := bLet n || (decide (48 ≤ n) && decide (n ≤ 57))
def bLDH (n : Int) : Bool := bLD n || decide (n = 45)
def bSch (n : Int) : Bool := bLD n || decide (n = 43) || decide (n = 46) || decide (n = 45)
theorem v126 (run : FuncId → List AV → Store → Tr R) (fu : Nat) (n : Int) (σ : Store) : (c126 run fu (.int .u8 n) σ).val = some (.bool (bLD n), σ) := by
  unfold c126 bLD bLet
  rw [val_le]
  by_cases h1 : (65 : Int) ≤ n <;> by_cases h2 : n ≤ (90 : Int) <;> by_cases h3 : (97 : Int) ≤ n <;> by_cases h4 : n ≤ (122 : Int) <;> by_cases h5 : (48 : Int) ≤ n <;> by_cases h6 : n ≤ (57 : Int) <;>
    simp [h1, h2, h3, h4, h5, h6, val_le, val_grdT, val_grdN, val_pickK, val_ret]
theorem v138 (run : FuncId → List AV → Store → Tr R) (fu : Nat) (n : Int) (σ : Store) : (c138 run fu (.int .u8 n) σ).val = some (.bool (bLet n), σ) := by
  unfold c138 bLet
  rw [val_le]
  by_cases h1 : (65 : Int) ≤ n <;> by_cases h2 : n ≤ (90 : Int) <;> by_cases h3 : (97 : Int) ≤ n <;> by_cases h4 : n ≤ (122 : Int) <;>
    simp [h1, h2, h3, h4, val_le, val_grdT, val_grdN, val_pickK, val_ret]
def spB (f : Int → Bool) : List AV → Store → Tr R
  | [.int .u8 n], σ => .ret (.bool (f n), σ)
  | _, _ => .fail
theorem spB_ok {X : Env} {g : FuncId} {f : Int → Bool} {t : AV → Store → Tr R} (hk : ∀ x σ, CallOK X g [x] σ (t x σ)) (hv : ∀ n σ, (t (.int .u8 n) σ).val = some (.bool (f n), σ)) : ∀ args σ, CallOK X g args σ (spB f args σ) := by
  intro args σ
  unfold spB
  split
  · exact fun K g w args' ht ha hs hG => hk _ _ K g w args' (Tr.sat_of_val (hv _ _) ht) ha hs hG
  · intro K g w args' h; exact h.elim
def runE1 (f : FuncId) (args : List AV) (σ : Store) : Tr R :=
  if f = 126 then spB bLD args σ else if f = 138 then spB bLet args σ else .fail
theorem runE1_ok : RunOK X0 runE1 := by
  intro f args σ
  unfold runE1
  split
  · subst f; exact spB_ok (fun x σ => ok126 runB_ok 0 x σ) (fun n σ => v126 _ _ n σ) args σ
  · split
    · subst f; exact spB_ok (fun x σ => ok138 runB_ok 0 x σ) (fun n σ => v138 _ _ n σ) args σ
    · intro K g w args' h; exact h.elim
theorem r126 (n : Int) (σ : Store) : (runE1 126 [.int .u8 n] σ).val = some (.bool (bLD n), σ) := by simp [runE1, spB, Tr.val]
theorem v180 (fu : Nat) (n : Int) (σ : Store) : (c180 runE1 fu (.int .u8 n) σ).val = some (.bool (bLDH n), σ) := by
  unfold c180 bLDH
  rw [val_cal (r126 n σ)]
  cases bLD n <;> simp [val_eq, val_grdT, val_grdN, val_pickK, val_ret]
theorem v144 (fu : Nat) (n : Int) (σ : Store) : (c144 runE1 fu (.int .u8 n) σ).val = some (.bool (bSch n), σ) := by
  unfold c144 bSch
  rw [val_cal (r126 n σ)]
  cases bLD n <;> by_cases h1 : n = (43 : Int) <;> by_cases h2 : n = (46 : Int) <;> by_cases h3 : n = (45 : Int) <;> simp [h1, h2, h3, val_eq, val_grdT, val_grdN, val_pickK, val_ret]
def runE2 (f : FuncId) (args : List AV) (σ : Store) : Tr R :=
  if f = 126 then spB bLD args σ else if f = 138 then spB bLet args σ else if f = 180 then spB bLDH args σ else if f = 144 then spB bSch args σ else .fail
theorem runE2_ok : RunOK X0 runE2 := by
  intro f args σ
  unfold runE2
  split
  · subst f; exact spB_ok (fun x σ => ok126 runB_ok 0 x σ) (fun n σ => v126 _ _ n σ) args σ
  · split
    · subst f; exact spB_ok (fun x σ => ok138 runB_ok 0 x σ) (fun n σ => v138 _ _ n σ) args σ
    · split
      · subst f; exact spB_ok (fun x σ => ok180 runE1_ok 0 x σ) (fun n σ => v180 _ n σ) args σ
      · split
        · subst f; exact spB_ok (fun x σ => ok144 runE1_ok 0 x σ) (fun n σ => v144 _ n σ) args σ
        · intro K g w args' h; exact h.elim
theorem s126 (n : Int) (σ : Store) : (runE2 126 [.int .u8 n] σ).val = some (.bool (bLD n), σ) := by simp [runE2, spB, Tr.val]
theorem s138 (n : Int) (σ : Store) : (runE2 138 [.int .u8 n] σ).val = some (.bool (bLet n), σ) := by simp [runE2, spB, Tr.val]
theorem s180 (n : Int) (σ : Store) : (runE2 180 [.int .u8 n] σ).val = some (.bool (bLDH n), σ) := by simp [runE2, spB, Tr.val]
theorem s144 (n : Int) (σ : Store) : (runE2 144 [.int .u8 n] σ).val = some (.bool (bSch n), σ) := by simp [runE2, spB, Tr.val]
end Go.Proofs.YtfmgdjkcdmjloaaGreatDoor
