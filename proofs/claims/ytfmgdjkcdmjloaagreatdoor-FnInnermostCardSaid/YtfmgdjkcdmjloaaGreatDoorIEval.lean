/- FnInnermost at every number. -/
import Derived.Test.YtfmgdjkcdmjloaaGreatDoorIV0
import Derived.Test.YtfmgdjkcdmjloaaGreatDoorIV1
import Derived.Test.YtfmgdjkcdmjloaaGreatDoorIV2
import Derived.Test.YtfmgdjkcdmjloaaGreatDoorIV3
import Derived.Test.YtfmgdjkcdmjloaaGreatDoorIV4
import Derived.Test.YtfmgdjkcdmjloaaGreatDoorIV5
set_option linter.unusedVariables false
set_option linter.unusedSimpArgs false
namespace Go.Proofs.YtfmgdjkcdmjloaaGreatDoor
theorem inner_at : ∀ k : Nat, 2 ≤ k → k ≤ 30 → okB (goI (.ofNat k)) = true
  | 0, h, _ => absurd h (by decide)
  | 1, h, _ => absurd h (by decide)
  | 2, _, _ => inner2
  | 3, _, _ => inner3
  | 4, _, _ => inner4
  | 5, _, _ => inner5
  | 6, _, _ => inner6
  | 7, _, _ => inner7
  | 8, _, _ => inner8
  | 9, _, _ => inner9
  | 10, _, _ => inner10
  | 11, _, _ => inner11
  | 12, _, _ => inner12
  | 13, _, _ => inner13
  | 14, _, _ => inner14
  | 15, _, _ => inner15
  | 16, _, _ => inner16
  | 17, _, _ => inner17
  | 18, _, _ => inner18
  | 19, _, _ => inner19
  | 20, _, _ => inner20
  | 21, _, _ => inner21
  | 22, _, _ => inner22
  | 23, _, _ => inner23
  | 24, _, _ => inner24
  | 25, _, _ => inner25
  | 26, _, _ => inner26
  | 27, _, _ => inner27
  | 28, _, _ => inner28
  | 29, _, _ => inner29
  | 30, _, _ => inner30
  | k + 31, _, h => absurd h (by omega)
theorem inner_ok (n : Int) (h2 : 2 ≤ n) (h30 : n ≤ 30) : okB (goI n) = true := by
  obtain ⟨k, rfl⟩ := Int.eq_ofNat_of_zero_le (by omega : 0 ≤ n)
  exact inner_at k (by omega) (by omega)
end Go.Proofs.YtfmgdjkcdmjloaaGreatDoor
