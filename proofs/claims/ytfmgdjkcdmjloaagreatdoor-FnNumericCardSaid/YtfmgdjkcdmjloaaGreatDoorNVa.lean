/- A call, and its answer. -/
import Derived.Test.YtfmgdjkcdmjloaaGreatDoorNTab
import Derived.Test.YtfmgdjkcdmjloaaGreatDoorSnRb
import Derived.Test.YtfmgdjkcdmjloaaGreatDoorNMb
set_option linter.unusedVariables false
set_option linter.unusedSimpArgs false
namespace Go.Proofs.YtfmgdjkcdmjloaaGreatDoor
open Go.AM
def mN0_12 : Memo := ⟨12, [(.agg [(.bool false), (.bool false), (.bool false), (.bool false), (.bool false), (.bool false), (.bool false), (.bool false), (.bool false), (.bool false)]), (.sstr [.w 71 (imgCls 7 (clsT 4)) 1 6, .w 327 (imgCls 7 (clsT 4)) 1 1194])], mkSt 3 [], (.sstr [.b 60, .b 112, .b 62, .w 67 (imgCls 3 (clsT 4)) 1 6, .w 323 (imgCls 3 (clsT 4)) 1 1788, .b 60, .b 47, .b 112, .b 62, .b 10]), mkSt 99 []⟩
theorem mN0_12_run : okM (runM [mN0_53] (tabNu fuel) deep mN0_12.f mN0_12.a mN0_12.σ) mN0_12.v mN0_12.τ = true := by kernel_rfl
theorem mN0_12_ok : mN0_12.OK X0 := by
  have := mN0_53_ok
  exact memo_ok (runM_ok (ms := [mN0_53]) (by intro m hm; simp only [List.mem_cons, List.mem_nil_iff, or_false] at hm; rcases hm with rfl <;> assumption) (fun run h => tabNu_ok fuel run h) deep) mN0_12_run
end Go.Proofs.YtfmgdjkcdmjloaaGreatDoor
/- FnNumeric at a text of two bytes or more. -/
namespace Go.Proofs.YtfmgdjkcdmjloaaGreatDoor
open Go.AM
theorem num0 : okB (runM [mN0_12] (tabNu fuel) deep 9 [.sstr [wrd 4 1 1, wrd 20 1 199], .bool false] { t := .leaf, next := 0 }) = true := by kernel_rfl
end Go.Proofs.YtfmgdjkcdmjloaaGreatDoor
