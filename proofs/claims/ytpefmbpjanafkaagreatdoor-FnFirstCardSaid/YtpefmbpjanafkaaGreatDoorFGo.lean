/- FnFirst: the HTML at words, run by the abstract machine. -/
import Derived.Test.YtpefmbpjanafkaaGreatDoorFTab
import Derived.Test.YtpefmbpjanafkaaGreatDoorFLaw
import Derived.KernelRfl
set_option linter.unusedVariables false
set_option linter.unusedSimpArgs false
namespace Go.Proofs.YtpefmbpjanafkaaGreatDoor
open Go.AM
noncomputable def fuel : Nat := 1000
noncomputable def deep : Nat := 60
noncomputable def runF : FuncId → List AV → Store → Tr R := Go.AM.runT (tabF fuel) deep
/-- The label (m = 0), or its capitals (m = 6); the two destinations. -/
noncomputable def wL (m : Nat) : Seg := .w (16 * 22 + m) (imgCls m (clsT 6)) 1 60
noncomputable def wA : Seg := .w (16 * 38) (clsT 6) 1 60
noncomputable def wB : Seg := .w (16 * 54) (clsT 6) 1 60
noncomputable def tX (m : Nat) : List Seg := .b 91 :: wL m :: .b 93 :: .b 10 :: .b 10 :: .b 91 :: wL 0 :: .b 93 :: .b 58 :: .b 32 :: .b 47 :: wA :: .b 10 :: .b 91 :: wL m :: .b 93 :: .b 58 :: .b 32 :: .b 47 :: wB :: .b 10 :: []
noncomputable def tH (m : Nat) : List Seg := .b 60 :: .b 112 :: .b 62 :: .b 60 :: .b 97 :: .b 32 :: .b 104 :: .b 114 :: .b 101 :: .b 102 :: .b 61 :: .b 34 :: .b 47 :: wA :: .b 34 :: .b 62 :: wL m :: .b 60 :: .b 47 :: .b 97 :: .b 62 :: .b 60 :: .b 47 :: .b 112 :: .b 62 :: .b 10 :: []
noncomputable def rF (m n0 : Nat) : Bool := okE (runF 25 ([optP] ++ [.sstr (tX m)]) { t := .leaf, next := n0 }) (tH m)
end Go.Proofs.YtpefmbpjanafkaaGreatDoor
