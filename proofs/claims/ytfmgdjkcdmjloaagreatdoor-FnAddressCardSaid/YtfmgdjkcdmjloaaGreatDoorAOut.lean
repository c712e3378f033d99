/- FnAddress where it speaks of nothing. -/
import Derived.Test.YtfmgdjkcdmjloaaGreatDoorAWord
import Derived.Test.YtfmgdjkcdmjloaaGreatDoorAQA
import Derived.Test.YtfmgdjkcdmjloaaGreatDoorAQB
import Derived.Test.YtfmgdjkcdmjloaaGreatDoorAQC
set_option linter.unusedVariables false
set_option linter.unusedSimpArgs false
namespace Go.Proofs.YtfmgdjkcdmjloaaGreatDoor
open Go.AM
theorem addr_out (a b d : List UInt8) (σ : Store) (h : a.length > 2147483647 ∨ b.length > 2147483647 ∨ d.length > 2147483647 ∨ onlyB a [97, 98, 122, 48, 49, 57, 46, 43, 45, 95] 40 = false ∨ a = [] ∨ onlyB b [97, 98, 122] 40 = false ∨ b = [] ∨ onlyB d [97, 98, 122] 40 = false ∨ d = []) : (c3 runO 1 (.str a) (.str b) (.str d) σ).val = some (.bool true, σ) := by
  unfold c3
  rw [val_lenS, val_gt]
  cases h1 : decide ((2147483647 : Int) < ((a.length : Nat) : Int))
  case true => rw [val_gFT, val_gFT, val_gFT, val_pickT _ _ _ _ rfl, val_gFT, val_gFT, val_gFT, val_pickT _ _ _ _ rfl, val_ifT _ _ _ rfl, val_ret]
  rw [val_gFF, val_gFF, val_lenS, val_gFF, val_gt]
  rw [val_pickF _ _ _ _ rfl]
  cases h2 : decide ((2147483647 : Int) < ((b.length : Nat) : Int))
  case true => rw [val_gFT, val_gFT, val_gFT, val_pickT _ _ _ _ rfl, val_ifT _ _ _ rfl, val_ret]
  rw [val_gFF, val_gFF, val_lenS, val_gFF, val_gt]
  rw [val_pickF _ _ _ _ rfl]
  cases h3 : decide ((2147483647 : Int) < ((d.length : Nat) : Int))
  case true => rw [val_ifT _ _ _ rfl, val_ret]
  rw [val_ifF _ _ _ rfl]
  rw [val_o11 _ _ _ (by decide), val_notK]
  cases h4 : onlyB a [97, 98, 122, 48, 49, 57, 46, 43, 45, 95] 40
  case false => rw [Bool.not_false, val_gFT, val_gFT, val_pickT _ _ _ _ rfl, val_gFT, val_gFT, val_gFT, val_pickT _ _ _ _ rfl, val_gFT, val_gFT, val_pickT _ _ _ _ rfl, val_gFT, val_gFT, val_gFT, val_pickT _ _ _ _ rfl, val_gFT, val_gFT, val_pickT _ _ _ _ rfl, val_ifT _ _ _ rfl, val_ret]
  rw [Bool.not_true]
  rw [val_gFF, val_gFF, val_eqS]
  rw [val_pickF _ _ _ _ rfl]
  cases h5 : decide (a = ([] : List UInt8))
  case true => rw [val_gFT, val_gFT, val_gFT, val_pickT _ _ _ _ rfl, val_gFT, val_gFT, val_pickT _ _ _ _ rfl, val_gFT, val_gFT, val_gFT, val_pickT _ _ _ _ rfl, val_gFT, val_gFT, val_pickT _ _ _ _ rfl, val_ifT _ _ _ rfl, val_ret]
  rw [val_gFF, val_gFF, val_o11 _ _ _ (by decide), val_gFF, val_notK]
  rw [val_pickF _ _ _ _ rfl]
  cases h6 : onlyB b [97, 98, 122] 40
  case false => rw [Bool.not_false, val_gFT, val_gFT, val_pickT _ _ _ _ rfl, val_gFT, val_gFT, val_gFT, val_pickT _ _ _ _ rfl, val_gFT, val_gFT, val_pickT _ _ _ _ rfl, val_ifT _ _ _ rfl, val_ret]
  rw [Bool.not_true]
  rw [val_gFF, val_gFF, val_eqS]
  rw [val_pickF _ _ _ _ rfl]
  cases h7 : decide (b = ([] : List UInt8))
  case true => rw [val_gFT, val_gFT, val_gFT, val_pickT _ _ _ _ rfl, val_gFT, val_gFT, val_pickT _ _ _ _ rfl, val_ifT _ _ _ rfl, val_ret]
  rw [val_gFF, val_gFF, val_o11 _ _ _ (by decide), val_gFF, val_notK]
  rw [val_pickF _ _ _ _ rfl]
  cases h8 : onlyB d [97, 98, 122] 40
  case false => rw [Bool.not_false, val_gFT, val_gFT, val_pickT _ _ _ _ rfl, val_ifT _ _ _ rfl, val_ret]
  rw [Bool.not_true]
  rw [val_gFF, val_gFF, val_eqS]
  rw [val_pickF _ _ _ _ rfl]
  cases h9 : decide (d = ([] : List UInt8))
  case true => rw [val_ifT _ _ _ rfl, val_ret]
  exfalso
  simp only [decide_eq_false_iff_not] at h1 h2 h3 h5 h7 h9
  rcases h with h | h | h | h | h | h | h | h | h
  · omega
  · omega
  · omega
  · rw [h4] at h; cases h
  · exact h5 h
  · rw [h6] at h; cases h
  · exact h7 h
  · rw [h8] at h; cases h
  · exact h9 h
end Go.Proofs.YtfmgdjkcdmjloaaGreatDoor
