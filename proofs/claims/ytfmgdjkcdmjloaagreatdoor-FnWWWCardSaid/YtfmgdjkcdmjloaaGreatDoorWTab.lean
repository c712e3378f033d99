/- The table of the functions that this statement reaches. -/
import Derived.Test.YtfmgdjkcdmjloaaGreatDoorWJoin
import Derived.Test.YtfmgdjkcdmjloaaGreatDoorWQA
import Derived.Test.YtfmgdjkcdmjloaaGreatDoorWQB
import Derived.Test.YtfmgdjkcdmjloaaGreatDoorWQC
import Derived.KernelRfl
set_option linter.unusedVariables false
set_option linter.unusedSimpArgs false
namespace Go.Proofs.YtfmgdjkcdmjloaaGreatDoor
open Go.AM
noncomputable def tabS (fu : Nat) (run : FuncId → List AV → Store → Tr R) : Tab :=
  (.node (.node (.node (.node (.node (.node (.node .leaf 10 (ap6 (c10 run fu)) .leaf) 11 (sw11 (ap3 (c11 run fu))) .leaf) 12 (ap2 (c12 run fu)) (.node (.node .leaf 14 (ap1 (c14 run fu)) .leaf) 15 sp15 .leaf)) 16 (ap2 (c16 run fu)) (.node (.node (.node .leaf 20 sp20 .leaf) 24 sp24s .leaf) 25 (ap1 (c25 run fu)) (.node .leaf 26 (ap1 (c26 run fu)) .leaf))) 27 (ap2 (c27 run fu)) (.node (.node (.node (.node .leaf 31 (ap2 (c31 run fu)) .leaf) 34 sp34 .leaf) 37 sp37 (.node (.node .leaf 38 (ap2 (c38 run fu)) .leaf) 41 (sw41 (ap2 (c41 run fu))) .leaf)) 47 (ap2 (c47 run fu)) (.node (.node (.node .leaf 49 (ap2 (c49 run fu)) .leaf) 50 (sw50 (ap2 (c50 run fu))) .leaf) 51 (ap2 (c51 run fu)) (.node .leaf 52 (ap2 (c52 run fu)) .leaf)))) 53 (ap2 (c53 run fu)) (.node (.node (.node (.node (.node .leaf 56 (ap1 (c56 run fu)) .leaf) 57 (ap0 (c57 run fu)) .leaf) 58 (ap2 (c58 run fu)) (.node (.node .leaf 59 (ap1 (c59 run fu)) .leaf) 60 (ap1 (c60 run fu)) .leaf)) 73 (ap2 (c73 run fu)) (.node (.node (.node .leaf 77 (ap3 (c77 run fu)) .leaf) 78 (ap2 (c78 run fu)) .leaf) 79 (ap2 (c79 run fu)) (.node .leaf 80 (ap1 (c80 run fu)) .leaf))) 81 (ap2 (c81 run fu)) (.node (.node (.node (.node .leaf 82 (ap2 (c82 run fu)) .leaf) 83 (ap2 (c83 run fu)) .leaf) 84 (ap2 (c84 run fu)) (.node (.node .leaf 85 (ap2 (c85 run fu)) .leaf) 86 (ap2 (c86 run fu)) .leaf)) 87 (ap2 (c87 run fu)) (.node (.node (.node .leaf 88 (ap2 (c88 run fu)) .leaf) 89 (ap1 (c89 run fu)) .leaf) 90 (ap1 (c90 run fu)) (.node .leaf 101 (ap1 (c101 run fu)) .leaf))))) 102 (ap1 (c102 run fu)) (.node (.node (.node (.node (.node (.node .leaf 110 (ap2 (c110 run fu)) .leaf) 113 (ap3 (c113 run fu)) .leaf) 117 (ap1 (c117 run fu)) (.node (.node .leaf 118 (ap1 (c118 run fu)) .leaf) 119 (ap2 (c119 run fu)) .leaf)) 120 (ap1 (c120 run fu)) (.node (.node (.node .leaf 121 (ap2 (c121 run fu)) .leaf) 123 (ap1 (c123 run fu)) .leaf) 126 (swC (ap1 (c126 run fu))) (.node .leaf 128 (ap3 (c128 run fu)) .leaf))) 129 (ap1 (c129 run fu)) (.node (.node (.node (.node .leaf 133 (ap1 (c133 run fu)) .leaf) 134 (ap1 (c134 run fu)) .leaf) 135 (ap2 (c135 run fu)) (.node (.node .leaf 136 (ap2 (c136 run fu)) .leaf) 137 (ap4 (c137 run fu)) .leaf)) 138 (ap1 (c138 run fu)) (.node (.node (.node .leaf 139 (ap4 (c139 run fu)) .leaf) 164 (sw164 (ap2 (c164 run fu))) .leaf) 166 (ap2 (c166 run fu)) (.node .leaf 167 (ap4 (c167 run fu)) .leaf)))) 168 (ap2 (c168 run fu)) (.node (.node (.node (.node (.node .leaf 170 (ap1 (c170 run fu)) .leaf) 180 (swC (ap1 (c180 run fu))) .leaf) 189 (ap7 (c189 run fu)) (.node (.node .leaf 200 (ap2 (c200 run fu)) .leaf) 232 (ap2 (c232 run fu)) .leaf)) 234 (ap2 (c234 run fu)) (.node (.node (.node .leaf 236 (ap2 (c236 run fu)) .leaf) 240 sp240 .leaf) 243 sp243 (.node .leaf 246 (ap1 (c246 run fu)) .leaf))) 247 (ap1 (c247 run fu)) (.node (.node (.node (.node .leaf 249 (ap2 (c249 run fu)) .leaf) 252 (ap0 (c252 run fu)) .leaf) 253 sp253 (.node (.node .leaf 254 sp254 .leaf) 256 (ap2 (c256 run fu)) .leaf)) 259 (ap0 (c259 run fu)) (.node (.node (.node .leaf 260 (ap2 (c260 run fu)) .leaf) 269 (ap2 (c269 run fu)) .leaf) 275 (ap2 (c275 run fu)) (.node .leaf 278 (ap2 (c278 run fu)) .leaf))))))
theorem tabS_ok (fu : Nat) (run : FuncId → List AV → Store → Tr R) (hrun : RunOK X0 run) : (tabS fu run).OK X0 :=
  ⟨⟨⟨⟨⟨⟨⟨trivial, (ap6_ok fun x0 x1 x2 x3 x4 x5 σ => ok10 hrun fu x0 x1 x2 x3 x4 x5 σ), trivial⟩, (sw11_ok (ap3_ok fun x0 x1 x2 σ => ok11 hrun fu x0 x1 x2 σ)), trivial⟩, (ap2_ok fun x0 x1 σ => ok12 hrun fu x0 x1 σ), ⟨⟨trivial, (ap1_ok fun x0 σ => ok14 hrun fu x0 σ), trivial⟩, sp15_ok, trivial⟩⟩, (ap2_ok fun x0 x1 σ => ok16 hrun fu x0 x1 σ), ⟨⟨⟨trivial, sp20_ok, trivial⟩, sp24s_ok, trivial⟩, (ap1_ok fun x0 σ => ok25 hrun fu x0 σ), ⟨trivial, (ap1_ok fun x0 σ => ok26 hrun fu x0 σ), trivial⟩⟩⟩, (ap2_ok fun x0 x1 σ => ok27 hrun fu x0 x1 σ), ⟨⟨⟨⟨trivial, (ap2_ok fun x0 x1 σ => ok31 hrun fu x0 x1 σ), trivial⟩, sp34_ok, trivial⟩, sp37_ok, ⟨⟨trivial, (ap2_ok fun x0 x1 σ => ok38 hrun fu x0 x1 σ), trivial⟩, (sw41_ok (ap2_ok fun x0 x1 σ => ok41 hrun fu x0 x1 σ)), trivial⟩⟩, (ap2_ok fun x0 x1 σ => ok47 hrun fu x0 x1 σ), ⟨⟨⟨trivial, (ap2_ok fun x0 x1 σ => ok49 hrun fu x0 x1 σ), trivial⟩, (sw50_ok (ap2_ok fun x0 x1 σ => ok50 hrun fu x0 x1 σ)), trivial⟩, (ap2_ok fun x0 x1 σ => ok51 hrun fu x0 x1 σ), ⟨trivial, (ap2_ok fun x0 x1 σ => ok52 hrun fu x0 x1 σ), trivial⟩⟩⟩⟩, (ap2_ok fun x0 x1 σ => ok53 hrun fu x0 x1 σ), ⟨⟨⟨⟨⟨trivial, (ap1_ok fun x0 σ => ok56 hrun fu x0 σ), trivial⟩, (ap0_ok fun σ => ok57 hrun fu σ), trivial⟩, (ap2_ok fun x0 x1 σ => ok58 hrun fu x0 x1 σ), ⟨⟨trivial, (ap1_ok fun x0 σ => ok59 hrun fu x0 σ), trivial⟩, (ap1_ok fun x0 σ => ok60 hrun fu x0 σ), trivial⟩⟩, (ap2_ok fun x0 x1 σ => ok73 hrun fu x0 x1 σ), ⟨⟨⟨trivial, (ap3_ok fun x0 x1 x2 σ => ok77 hrun fu x0 x1 x2 σ), trivial⟩, (ap2_ok fun x0 x1 σ => ok78 hrun fu x0 x1 σ), trivial⟩, (ap2_ok fun x0 x1 σ => ok79 hrun fu x0 x1 σ), ⟨trivial, (ap1_ok fun x0 σ => ok80 hrun fu x0 σ), trivial⟩⟩⟩, (ap2_ok fun x0 x1 σ => ok81 hrun fu x0 x1 σ), ⟨⟨⟨⟨trivial, (ap2_ok fun x0 x1 σ => ok82 hrun fu x0 x1 σ), trivial⟩, (ap2_ok fun x0 x1 σ => ok83 hrun fu x0 x1 σ), trivial⟩, (ap2_ok fun x0 x1 σ => ok84 hrun fu x0 x1 σ), ⟨⟨trivial, (ap2_ok fun x0 x1 σ => ok85 hrun fu x0 x1 σ), trivial⟩, (ap2_ok fun x0 x1 σ => ok86 hrun fu x0 x1 σ), trivial⟩⟩, (ap2_ok fun x0 x1 σ => ok87 hrun fu x0 x1 σ), ⟨⟨⟨trivial, (ap2_ok fun x0 x1 σ => ok88 hrun fu x0 x1 σ), trivial⟩, (ap1_ok fun x0 σ => ok89 hrun fu x0 σ), trivial⟩, (ap1_ok fun x0 σ => ok90 hrun fu x0 σ), ⟨trivial, (ap1_ok fun x0 σ => ok101 hrun fu x0 σ), trivial⟩⟩⟩⟩⟩, (ap1_ok fun x0 σ => ok102 hrun fu x0 σ), ⟨⟨⟨⟨⟨⟨trivial, (ap2_ok fun x0 x1 σ => ok110 hrun fu x0 x1 σ), trivial⟩, (ap3_ok fun x0 x1 x2 σ => ok113 hrun fu x0 x1 x2 σ), trivial⟩, (ap1_ok fun x0 σ => ok117 hrun fu x0 σ), ⟨⟨trivial, (ap1_ok fun x0 σ => ok118 hrun fu x0 σ), trivial⟩, (ap2_ok fun x0 x1 σ => ok119 hrun fu x0 x1 σ), trivial⟩⟩, (ap1_ok fun x0 σ => ok120 hrun fu x0 σ), ⟨⟨⟨trivial, (ap2_ok fun x0 x1 σ => ok121 hrun fu x0 x1 σ), trivial⟩, (ap1_ok fun x0 σ => ok123 hrun fu x0 σ), trivial⟩, (swC_ok (ap1_ok fun x0 σ => ok126 hrun fu x0 σ)), ⟨trivial, (ap3_ok fun x0 x1 x2 σ => ok128 hrun fu x0 x1 x2 σ), trivial⟩⟩⟩, (ap1_ok fun x0 σ => ok129 hrun fu x0 σ), ⟨⟨⟨⟨trivial, (ap1_ok fun x0 σ => ok133 hrun fu x0 σ), trivial⟩, (ap1_ok fun x0 σ => ok134 hrun fu x0 σ), trivial⟩, (ap2_ok fun x0 x1 σ => ok135 hrun fu x0 x1 σ), ⟨⟨trivial, (ap2_ok fun x0 x1 σ => ok136 hrun fu x0 x1 σ), trivial⟩, (ap4_ok fun x0 x1 x2 x3 σ => ok137 hrun fu x0 x1 x2 x3 σ), trivial⟩⟩, (ap1_ok fun x0 σ => ok138 hrun fu x0 σ), ⟨⟨⟨trivial, (ap4_ok fun x0 x1 x2 x3 σ => ok139 hrun fu x0 x1 x2 x3 σ), trivial⟩, (sw164_ok (ap2_ok fun x0 x1 σ => ok164 hrun fu x0 x1 σ)), trivial⟩, (ap2_ok fun x0 x1 σ => ok166 hrun fu x0 x1 σ), ⟨trivial, (ap4_ok fun x0 x1 x2 x3 σ => ok167 hrun fu x0 x1 x2 x3 σ), trivial⟩⟩⟩⟩, (ap2_ok fun x0 x1 σ => ok168 hrun fu x0 x1 σ), ⟨⟨⟨⟨⟨trivial, (ap1_ok fun x0 σ => ok170 hrun fu x0 σ), trivial⟩, (swC_ok (ap1_ok fun x0 σ => ok180 hrun fu x0 σ)), trivial⟩, (ap7_ok fun x0 x1 x2 x3 x4 x5 x6 σ => ok189 hrun fu x0 x1 x2 x3 x4 x5 x6 σ), ⟨⟨trivial, (ap2_ok fun x0 x1 σ => ok200 hrun fu x0 x1 σ), trivial⟩, (ap2_ok fun x0 x1 σ => ok232 hrun fu x0 x1 σ), trivial⟩⟩, (ap2_ok fun x0 x1 σ => ok234 hrun fu x0 x1 σ), ⟨⟨⟨trivial, (ap2_ok fun x0 x1 σ => ok236 hrun fu x0 x1 σ), trivial⟩, sp240_ok, trivial⟩, sp243_ok, ⟨trivial, (ap1_ok fun x0 σ => ok246 hrun fu x0 σ), trivial⟩⟩⟩, (ap1_ok fun x0 σ => ok247 hrun fu x0 σ), ⟨⟨⟨⟨trivial, (ap2_ok fun x0 x1 σ => ok249 hrun fu x0 x1 σ), trivial⟩, (ap0_ok fun σ => ok252 hrun fu σ), trivial⟩, sp253_ok, ⟨⟨trivial, sp254_ok, trivial⟩, (ap2_ok fun x0 x1 σ => ok256 hrun fu x0 x1 σ), trivial⟩⟩, (ap0_ok fun σ => ok259 hrun fu σ), ⟨⟨⟨trivial, (ap2_ok fun x0 x1 σ => ok260 hrun fu x0 x1 σ), trivial⟩, (ap2_ok fun x0 x1 σ => ok269 hrun fu x0 x1 σ), trivial⟩, (ap2_ok fun x0 x1 σ => ok275 hrun fu x0 x1 σ), ⟨trivial, (ap2_ok fun x0 x1 σ => ok278 hrun fu x0 x1 σ), trivial⟩⟩⟩⟩⟩⟩
end Go.Proofs.YtfmgdjkcdmjloaaGreatDoor
/- Laws, run by the abstract machine at unknown words. -/
namespace Go.Proofs.YtfmgdjkcdmjloaaGreatDoor
open Go.AM
def fuel : Nat := 1000
def deep : Nat := 60
/-- An unknown word of a base: from lo to hi bytes. -/
def wrd (B lo hi : Nat) : Seg := .w (16 * B) (clsT (B % 16)) lo hi
noncomputable def goS (f : Nat) (args : List AV) : Tr R := Go.AM.runT (tabS fuel) deep f args { t := .leaf, next := 0 }
def okB (t : Tr R) : Bool := match t.val with | some (.bool true, _) => true | _ => false
theorem sat_of_okB {t : Tr R} (h : okB t = true) : t.sat fun r => r.1 = .bool true := by
  unfold okB at h
  split at h
  · rename_i σ hv; exact Tr.sat_of_val hv rfl
  · cases h

end Go.Proofs.YtfmgdjkcdmjloaaGreatDoor
/- FnWWW at unknown words: how the first word may begin. -/
namespace Go.Proofs.YtfmgdjkcdmjloaaGreatDoor
open Go.AM
/-- A first word: bytes that are known; digits, from so many to so many; a letter or none; whatever stands behind, from so many to so many. -/
structure WCase where
  pre : List UInt8
  rlo : Nat
  rhi : Nat
  let1 : Bool
  qlo : Nat
  qhi : Nat
def WCase.segs (c : WCase) : List Seg :=
  c.pre.map .b ++ ((match c.rhi with | 0 => [] | _ + 1 => [wrd 7 c.rlo c.rhi]) ++ ((match c.let1 with | false => [] | true => [wrd 3 1 1]) ++ (match c.qhi with | 0 => [] | _ + 1 => [wrd 0 c.qlo c.qhi])))
def pathW : Bool → AV
  | false => .str []
  | true => .sstr [wrd 1 1 20]
noncomputable def goW (c : WCase) (path plain : Bool) : Tr R := goS 10 [mkStr c.segs, .sstr [wrd 16 1 20], .sstr [wrd 32 1 20], pathW path, .sstr [wrd 48 1 20], .bool plain]
end Go.Proofs.YtfmgdjkcdmjloaaGreatDoor
/- FnWWW at first words that begin with nine digits and more. -/
namespace Go.Proofs.YtfmgdjkcdmjloaaGreatDoor
open Go.AM
def segs9 (d : UInt8) (lt : Bool) : List Seg := [.b d, wrd 7 8 8, (match lt with | true => wrd 3 1 1 | false => wrd 23 1 1), wrd 0 0 10]
noncomputable def goW9 (d : UInt8) (lt path plain : Bool) : Tr R := goS 10 [.sstr (segs9 d lt), .sstr [wrd 16 1 20], .sstr [wrd 32 1 20], pathW path, .sstr [wrd 48 1 20], .bool plain]
end Go.Proofs.YtfmgdjkcdmjloaaGreatDoor
/- The first words. -/
namespace Go.Proofs.YtfmgdjkcdmjloaaGreatDoor
def casesW : List WCase := [⟨[], 0, 0, true, 0, 19⟩, ⟨[48], 0, 0, false, 0, 0⟩, ⟨[48], 1, 7, false, 0, 0⟩, ⟨[48], 8, 8, false, 0, 0⟩, ⟨[48], 0, 0, true, 0, 18⟩, ⟨[48], 1, 7, true, 0, 11⟩, ⟨[48], 1, 6, true, 12, 12⟩, ⟨[48], 1, 5, true, 13, 13⟩, ⟨[48], 1, 4, true, 14, 14⟩, ⟨[48], 1, 3, true, 15, 15⟩, ⟨[48], 1, 2, true, 16, 16⟩, ⟨[48], 1, 1, true, 17, 17⟩, ⟨[49], 0, 0, false, 0, 0⟩, ⟨[49], 1, 7, false, 0, 0⟩, ⟨[49], 8, 8, false, 0, 0⟩, ⟨[49], 0, 0, true, 0, 18⟩, ⟨[49], 1, 7, true, 0, 11⟩, ⟨[49], 1, 6, true, 12, 12⟩, ⟨[49], 1, 5, true, 13, 13⟩, ⟨[49], 1, 4, true, 14, 14⟩, ⟨[49], 1, 3, true, 15, 15⟩, ⟨[49], 1, 2, true, 16, 16⟩, ⟨[49], 1, 1, true, 17, 17⟩, ⟨[57], 0, 0, false, 0, 0⟩, ⟨[57], 1, 7, false, 0, 0⟩, ⟨[57], 8, 8, false, 0, 0⟩, ⟨[57], 0, 0, true, 0, 18⟩, ⟨[57], 1, 7, true, 0, 11⟩, ⟨[57], 1, 6, true, 12, 12⟩, ⟨[57], 1, 5, true, 13, 13⟩, ⟨[57], 1, 4, true, 14, 14⟩, ⟨[57], 1, 3, true, 15, 15⟩, ⟨[57], 1, 2, true, 16, 16⟩, ⟨[57], 1, 1, true, 17, 17⟩]
end Go.Proofs.YtfmgdjkcdmjloaaGreatDoor
