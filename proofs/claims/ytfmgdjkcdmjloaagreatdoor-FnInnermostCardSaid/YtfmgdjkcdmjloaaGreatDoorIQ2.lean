/- Functions of the program, told as Lean functions of abstract values and stores, each with its proof. -/
import Derived.Test.YtfmgdjkcdmjloaaGreatDoorSmX
set_option linter.unusedVariables false
set_option linter.unusedSimpArgs false
namespace Go.Proofs.YtfmgdjkcdmjloaaGreatDoor
open Go.AM
-- (*pub-paratext/pub/rscmarkdown.parseState).emit

noncomputable def b73 : Code := match Tryz.f73.body with | some c => c | none => .skip

noncomputable def k73 : Kont R := retK Tryz.prog []

noncomputable def c73 (run : FuncId → List AV → Store → Tr R) (fu : Nat) (x0 x1 : AV) (σ : Store) : Tr R :=
  nchkK x0 fun x5 =>
  addrK x5 8 fun x6 =>
  ld1K σ x6 fun x7 =>
  cmpK .lss x7 x1 fun x9 =>
  ifK x9 (
  nchkK x0 fun x12 =>
  addrK x12 9 fun x13 =>
  ld1K σ x13 fun x14 =>
  nchkK x0 fun x16 =>
  addrK x16 7 fun x17 =>
  ld1K σ x17 fun x18 =>
  nchkK x0 fun x20 =>
  addrK x20 8 fun x21 =>
  ld1K σ x21 fun x22 =>
  sliceSK x18 (some x22) (some x1) fun x24 =>
  bldK [(.str [])] [(0, 1, x24)] fun x25 =>
  boxK σ 263 x25 fun x26 σ1 =>
  opt (fillK [.nili] [(0, 1, (.iface 150 x26))]) fun cs => newSK σ1 253 cs 1 1 fun x28 σ2 =>
  appK 126 1 16 σ2 x14 x28 fun x29 σ3 =>
  nchkK x0 fun x30 =>
  addrK x30 9 fun x31 =>
  st1K σ3 x31 x29 fun _ σ4 =>
  ld1K σ1 x13 fun v5 =>
  must (AV.beq v5 x14) (
  ld1K σ2 x13 fun v6 =>
  must (AV.beq v6 x14) (
  nchkK x0 fun x34 =>
  addrK x34 8 fun x35 =>
  st1K σ4 x35 x1 fun _ σ7 =>
  .ret (.tup [], σ7)))) (
  .ret (.tup [], σ))

theorem eq73 (run : FuncId → List AV → Store → Tr R) (fu : Nat) (x0 x1 : AV) (σ : Store) : codeK X0 run (.seq .leaf (.cond (.seq .leaf .leaf) .leaf)) (subC [] b73) ([x0, x1] ++ padA (36 - 2)) σ k73 = c73 run fu x0 x1 σ := by kernel_rfl

theorem ok73 {run : FuncId → List AV → Store → Tr R} (hrun : RunOK X0 run) (fu : Nat) (x0 x1 : AV) (σ : Store) : CallOK X0 73 [x0, x1] σ (c73 run fu x0 x1 σ) :=
  KOK.body (fn := Tryz.f73) (c := subC [] b73) (by kernel_rfl) (by kernel_rfl) (by show 2 ≤ 36; decide) (KOK.whole env0 hrun (eq73 run fu x0 x1 σ) ⟨trivial, ⟨⟨trivial, trivial⟩, trivial⟩⟩)

-- (*pub-paratext/pub/rscmarkdown.parseState).skip

noncomputable def b74 : Code := match Tryz.f74.body with | some c => c | none => .skip

noncomputable def k74 : Kont R := retK Tryz.prog []

noncomputable def c74 (run : FuncId → List AV → Store → Tr R) (fu : Nat) (x0 x1 : AV) (σ : Store) : Tr R :=
  nchkK x0 fun x6 =>
  addrK x6 8 fun x7 =>
  st1K σ x7 x1 fun _ σ1 =>
  .ret (.tup [], σ1)

theorem eq74 (run : FuncId → List AV → Store → Tr R) (fu : Nat) (x0 x1 : AV) (σ : Store) : codeK X0 run .leaf (subC [] b74) ([x0, x1] ++ padA (8 - 2)) σ k74 = c74 run fu x0 x1 σ := by kernel_rfl

theorem ok74 {run : FuncId → List AV → Store → Tr R} (hrun : RunOK X0 run) (fu : Nat) (x0 x1 : AV) (σ : Store) : CallOK X0 74 [x0, x1] σ (c74 run fu x0 x1 σ) :=
  KOK.body (fn := Tryz.f74) (c := subC [] b74) (by kernel_rfl) (by kernel_rfl) (by show 2 ≤ 8; decide) (KOK.whole env0 hrun (eq74 run fu x0 x1 σ) trivial)

-- (*pub-paratext/pub/rscmarkdown.parseState).parseLinkClose

noncomputable def b75 : Code := match Tryz.f75.body with | some c => c | none => .skip

noncomputable def k75 : Kont R := retK Tryz.prog [.tmp 8, .tmp 9, .tmp 10]

noncomputable def c75_2 (run : FuncId → List AV → Store → Tr R) (fu : Nat) (x0 x1 x2 x3 x22 : AV) (σ : Store) : Tr R :=
  nchkK x0 fun x154 =>
  addrK x154 2 fun x155 =>
  ld1K σ x155 fun x156 =>
  nchkK x3 fun x159 =>
  addrK x159 1 fun x160 =>
  ld1K σ x160 fun x161 =>
  sliceSK x1 (some x161) (some x2) fun x163 =>
  calK run 114 [x163] σ fun x164 σ1 =>
  genK (lookA Tryz.prog σ1 82 x156 true) fun x165 σ2 =>
  extK x165 0 fun x166 =>
  extK x165 1 fun x167 =>
  ld1K σ1 x155 fun v3 =>
  must (AV.beq v3 x156) (
  ifK x167 (
  nchkK x166 fun x170 =>
  addrK x170 1 fun x171 =>
  ld1K σ2 x171 fun x172 =>
  nchkK x166 fun x174 =>
  addrK x174 2 fun x175 =>
  ld1K σ2 x175 fun x176 =>
  nchkK x166 fun x178 =>
  addrK x178 4 fun x179 =>
  ld1K σ2 x179 fun x180 =>
  bldK [.nils, (.str []), (.str []), (.int .u8 0), (.bool false)] [(1, 1, x172), (2, 1, x176), (4, 1, x180)] fun x181 =>
  boxK σ2 277 x181 fun x182 σ4 =>
  .ret (.tup [x182, x22, (.bool true)], σ4)) (
  .ret (.tup [.nilp, (.int .i64 0), (.bool false)], σ2)))

theorem eq75_2 (run : FuncId → List AV → Store → Tr R) (fu : Nat) (x0 x1 x2 x3 x22 : AV) (σ : Store) : codeK X0 run (.seq (.seq .leaf (.seq .leaf (.cond (.seq .leaf .leaf) .leaf))) (.seq .leaf .leaf)) (subC [true, true, true, true] b75) (frS 0 184 [(0, x0), (1, x1), (2, x2), (3, x3), (22, x22)]) σ k75 = c75_2 run fu x0 x1 x2 x3 x22 σ := by kernel_rfl

theorem ok75_2 {run : FuncId → List AV → Store → Tr R} (hrun : RunOK X0 run) (fu : Nat) : ∀ fr σ, KOK X0 184 (subC [true, true, true, true] b75) fr σ ((fun fr σ => c75_2 run fu (fr.getD 0 .any) (fr.getD 1 .any) (fr.getD 2 .any) (fr.getD 3 .any) (fr.getD 22 .any) σ) fr σ) k75 := fun fr σ =>
  KOK.piece env0 hrun [0, 1, 2, 3, 22] (eq75_2 run fu (fr.getD 0 .any) (fr.getD 1 .any) (fr.getD 2 .any) (fr.getD 3 .any) (fr.getD 22 .any) σ) ⟨⟨trivial, ⟨trivial, ⟨⟨trivial, trivial⟩, trivial⟩⟩⟩, ⟨trivial, trivial⟩⟩

noncomputable def c75_1 (run : FuncId → List AV → Store → Tr R) (fu : Nat) (x0 x1 x2 x3 : AV) (σ : Store) : Tr R :=
  addK x2 (.int .i64 1) fun x145 =>
  sliceSK x1 (some x145) none fun x148 =>
  calK run 31 [x148, (.str [91, 93])] σ fun x149 σ1 =>
  ifK x149 (
  addK x145 (.int .i64 2) fun x151 =>
  c75_2 run fu x0 x1 x2 x3 x151 σ1) (
  c75_2 run fu x0 x1 x2 x3 x145 σ1)

theorem eq75_1 (run : FuncId → List AV → Store → Tr R) (fu : Nat) (x0 x1 x2 x3 : AV) (σ : Store) : codeK X0 run (.seq .leaf (.seq (.seq .leaf (.cond .leaf .leaf)) (.sub (fun fr σ => c75_2 run fu (fr.getD 0 .any) (fr.getD 1 .any) (fr.getD 2 .any) (fr.getD 3 .any) (fr.getD 22 .any) σ)))) (subC [true, true] b75) (frS 0 184 [(0, x0), (1, x1), (2, x2), (3, x3)]) σ k75 = c75_1 run fu x0 x1 x2 x3 σ := by kernel_rfl

theorem ok75_1 {run : FuncId → List AV → Store → Tr R} (hrun : RunOK X0 run) (fu : Nat) : ∀ fr σ, KOK X0 184 (subC [true, true] b75) fr σ ((fun fr σ => c75_1 run fu (fr.getD 0 .any) (fr.getD 1 .any) (fr.getD 2 .any) (fr.getD 3 .any) σ) fr σ) k75 := fun fr σ =>
  KOK.piece env0 hrun [0, 1, 2, 3] (eq75_1 run fu (fr.getD 0 .any) (fr.getD 1 .any) (fr.getD 2 .any) (fr.getD 3 .any) σ) ⟨trivial, ⟨⟨trivial, ⟨trivial, trivial⟩⟩, (ok75_2 hrun fu)⟩⟩

noncomputable def c75_3 (run : FuncId → List AV → Store → Tr R) (fu : Nat) (x0 x1 x2 x3 x11 x12 x13 x14 x15 : AV) (σ : Store) : Tr R :=
  lenSK x1 fun x89 =>
  cmpK .lss x11 x89 fun x90 =>
  grdK x90 true σ (fun f => f x1 σ) fun x92 σ1 =>
  grdK x90 true σ1 (fun f => f x11 σ1) fun x93 σ2 =>
  grdK x90 true σ2 (fun f => idxSK x92 x93 fun v => f v σ2) fun x94 σ3 =>
  grdK x90 true σ3 (fun f => cmpK .eql x94 (.int .u8 41) fun v => f v σ3) fun x95 σ4 =>
  pickK x90 x95 (.bool false) fun x96 =>
  ifK x96 (
  bldK [.nils, (.str []), (.str []), (.int .u8 0), (.bool false)] [(1, 1, x12), (2, 1, x13), (3, 1, x14), (4, 1, x15)] fun x101 =>
  boxK σ4 277 x101 fun x102 σ5 =>
  addK x11 (.int .i64 1) fun x104 =>
  .ret (.tup [x102, x104, (.bool true)], σ5)) (
  c75_1 run fu x0 x1 x2 x3 σ4)

theorem eq75_3 (run : FuncId → List AV → Store → Tr R) (fu : Nat) (x0 x1 x2 x3 x11 x12 x13 x14 x15 : AV) (σ : Store) : codeK X0 run (.seq .leaf (.cond (.seq .leaf .leaf) .leaf)) (subC [true, false, true, false, true, false, true, false, true, true, true, true, true] b75) (frS 0 184 [(0, x0), (1, x1), (2, x2), (3, x3), (11, x11), (12, x12), (13, x13), (14, x14), (15, x15)]) σ (blockK 0 (thenK (fun fr σ => c75_1 run fu (fr.getD 0 .any) (fr.getD 1 .any) (fr.getD 2 .any) (fr.getD 3 .any) σ) k75)) = c75_3 run fu x0 x1 x2 x3 x11 x12 x13 x14 x15 σ := by kernel_rfl

theorem ok75_3 {run : FuncId → List AV → Store → Tr R} (hrun : RunOK X0 run) (fu : Nat) : ∀ fr σ, KOK X0 184 (subC [true, false, true, false, true, false, true, false, true, true, true, true, true] b75) fr σ ((fun fr σ => c75_3 run fu (fr.getD 0 .any) (fr.getD 1 .any) (fr.getD 2 .any) (fr.getD 3 .any) (fr.getD 11 .any) (fr.getD 12 .any) (fr.getD 13 .any) (fr.getD 14 .any) (fr.getD 15 .any) σ) fr σ) (blockK 0 (thenK (fun fr σ => c75_1 run fu (fr.getD 0 .any) (fr.getD 1 .any) (fr.getD 2 .any) (fr.getD 3 .any) σ) k75)) := fun fr σ =>
  KOK.piece env0 hrun [0, 1, 2, 3, 11, 12, 13, 14, 15] (eq75_3 run fu (fr.getD 0 .any) (fr.getD 1 .any) (fr.getD 2 .any) (fr.getD 3 .any) (fr.getD 11 .any) (fr.getD 12 .any) (fr.getD 13 .any) (fr.getD 14 .any) (fr.getD 15 .any) σ) ⟨trivial, ⟨⟨trivial, trivial⟩, trivial⟩⟩

noncomputable def c75_4 (run : FuncId → List AV → Store → Tr R) (fu : Nat) (x0 x1 x2 x3 x11 x12 x13 x14 x15 x16 : AV) (σ : Store) : Tr R :=
  notK x16 fun x83 =>
  ifK x83 (
  c75_1 run fu x0 x1 x2 x3 σ) (
  calK run 110 [x1, x11] σ fun x86 σ1 =>
  c75_3 run fu x0 x1 x2 x3 x86 x12 x13 x14 x15 σ1)

theorem eq75_4 (run : FuncId → List AV → Store → Tr R) (fu : Nat) (x0 x1 x2 x3 x11 x12 x13 x14 x15 x16 : AV) (σ : Store) : codeK X0 run (.seq (.seq .leaf (.cond .leaf .leaf)) .leaf) (subC [true, false, true, false, true, false, true, false, true, true, true, true, false, true, false, true, true, true, true, true, false, true, true] b75) (frS 0 184 [(0, x0), (1, x1), (2, x2), (3, x3), (11, x11), (12, x12), (13, x13), (14, x14), (15, x15), (16, x16)]) σ (thenK (fun fr σ => c75_3 run fu (fr.getD 0 .any) (fr.getD 1 .any) (fr.getD 2 .any) (fr.getD 3 .any) (fr.getD 11 .any) (fr.getD 12 .any) (fr.getD 13 .any) (fr.getD 14 .any) (fr.getD 15 .any) σ) (blockK 0 (thenK (fun fr σ => c75_1 run fu (fr.getD 0 .any) (fr.getD 1 .any) (fr.getD 2 .any) (fr.getD 3 .any) σ) k75))) = c75_4 run fu x0 x1 x2 x3 x11 x12 x13 x14 x15 x16 σ := by kernel_rfl

theorem ok75_4 {run : FuncId → List AV → Store → Tr R} (hrun : RunOK X0 run) (fu : Nat) : ∀ fr σ, KOK X0 184 (subC [true, false, true, false, true, false, true, false, true, true, true, true, false, true, false, true, true, true, true, true, false, true, true] b75) fr σ ((fun fr σ => c75_4 run fu (fr.getD 0 .any) (fr.getD 1 .any) (fr.getD 2 .any) (fr.getD 3 .any) (fr.getD 11 .any) (fr.getD 12 .any) (fr.getD 13 .any) (fr.getD 14 .any) (fr.getD 15 .any) (fr.getD 16 .any) σ) fr σ) (thenK (fun fr σ => c75_3 run fu (fr.getD 0 .any) (fr.getD 1 .any) (fr.getD 2 .any) (fr.getD 3 .any) (fr.getD 11 .any) (fr.getD 12 .any) (fr.getD 13 .any) (fr.getD 14 .any) (fr.getD 15 .any) σ) (blockK 0 (thenK (fun fr σ => c75_1 run fu (fr.getD 0 .any) (fr.getD 1 .any) (fr.getD 2 .any) (fr.getD 3 .any) σ) k75))) := fun fr σ =>
  KOK.piece env0 hrun [0, 1, 2, 3, 11, 12, 13, 14, 15, 16] (eq75_4 run fu (fr.getD 0 .any) (fr.getD 1 .any) (fr.getD 2 .any) (fr.getD 3 .any) (fr.getD 11 .any) (fr.getD 12 .any) (fr.getD 13 .any) (fr.getD 14 .any) (fr.getD 15 .any) (fr.getD 16 .any) σ) ⟨⟨trivial, ⟨trivial, trivial⟩⟩, trivial⟩

noncomputable def c75 (run : FuncId → List AV → Store → Tr R) (fu : Nat) (x0 x1 x2 x3 : AV) (σ : Store) : Tr R :=
  addK x2 (.int .i64 1) fun x26 =>
  lenSK x1 fun x28 =>
  cmpK .lss x26 x28 fun x29 =>
  ifK x29 (
  addK x2 (.int .i64 1) fun x32 =>
  idxSK x1 x32 fun x33 =>
  cmpK .eql x33 (.int .u8 40) fun x35 =>
  ifK x35 (
  addK x2 (.int .i64 2) fun x38 =>
  calK run 110 [x1, x38] σ fun x39 σ1 =>
  lenSK x1 fun x42 =>
  cmpK .lss x39 x42 fun x43 =>
  grdK x43 true σ1 (fun f => f x1 σ1) fun x45 σ2 =>
  grdK x43 true σ2 (fun f => f x39 σ2) fun x46 σ3 =>
  grdK x43 true σ3 (fun f => idxSK x45 x46 fun v => f v σ3) fun x47 σ4 =>
  grdK x43 true σ4 (fun f => cmpK .neq x47 (.int .u8 41) fun v => f v σ4) fun x48 σ5 =>
  pickK x43 x48 (.bool false) fun x49 =>
  ifK x49 (
  calK run 111 [x1, x39] σ5 fun x53 σ6 =>
  extK x53 0 fun x54 =>
  extK x53 1 fun x55 =>
  extK x53 2 fun x56 =>
  notK x56 fun x58 =>
  ifK x58 (
  c75_1 run fu x0 x1 x2 x3 σ6) (
  calK run 110 [x1, x55] σ6 fun x61 σ7 =>
  lenSK x1 fun x64 =>
  cmpK .lss x61 x64 fun x65 =>
  grdK x65 true σ7 (fun f => f x1 σ7) fun x67 σ8 =>
  grdK x65 true σ8 (fun f => f x61 σ8) fun x68 σ9 =>
  grdK x65 true σ9 (fun f => idxSK x67 x68 fun v => f v σ9) fun x69 σ10 =>
  grdK x65 true σ10 (fun f => cmpK .neq x69 (.int .u8 41) fun v => f v σ10) fun x70 σ11 =>
  pickK x65 x70 (.bool false) fun x71 =>
  ifK x71 (
  calK run 112 [x1, x61] σ11 fun x75 σ12 =>
  extK x75 0 fun x76 =>
  extK x75 1 fun x77 =>
  extK x75 2 fun x78 =>
  extK x75 3 fun x79 =>
  eqSK x76 (.str []) fun x81 =>
  ifK x81 (
  c75_4 run fu x0 x1 x2 x3 x78 x54 x76 x77 (.bool true) x79 σ12) (
  c75_4 run fu x0 x1 x2 x3 x78 x54 x76 x77 (.bool false) x79 σ12)) (
  c75_3 run fu x0 x1 x2 x3 x61 x54 (.str []) (.int .u8 0) (.bool false) σ11))) (
  c75_3 run fu x0 x1 x2 x3 x39 (.str []) (.str []) (.int .u8 0) (.bool false) σ5)) (
  cmpK .eql x33 (.int .u8 91) fun x106 =>
  ifK x106 (
  addK x2 (.int .i64 1) fun x111 =>
  calK run 113 [x0, x1, x111] σ fun x112 σ13 =>
  extK x112 0 fun x113 =>
  extK x112 1 fun x114 =>
  extK x112 2 fun x115 =>
  notK x115 fun x117 =>
  ifK x117 (
  c75_1 run fu x0 x1 x2 x3 σ13) (
  nchkK x0 fun x120 =>
  addrK x120 2 fun x121 =>
  ld1K σ13 x121 fun x122 =>
  calK run 114 [x113] σ13 fun x124 σ14 =>
  genK (lookA Tryz.prog σ14 82 x122 true) fun x125 σ15 =>
  extK x125 0 fun x126 =>
  extK x125 1 fun x127 =>
  ld1K σ14 x121 fun v16 =>
  must (AV.beq v16 x122) (
  ifK x127 (
  nchkK x126 fun x130 =>
  addrK x130 1 fun x131 =>
  ld1K σ15 x131 fun x132 =>
  nchkK x126 fun x134 =>
  addrK x134 2 fun x135 =>
  ld1K σ15 x135 fun x136 =>
  nchkK x126 fun x138 =>
  addrK x138 4 fun x139 =>
  ld1K σ15 x139 fun x140 =>
  bldK [.nils, (.str []), (.str []), (.int .u8 0), (.bool false)] [(1, 1, x132), (2, 1, x136), (4, 1, x140)] fun x141 =>
  boxK σ15 277 x141 fun x142 σ17 =>
  .ret (.tup [x142, x114, (.bool true)], σ17)) (
  .ret (.tup [.nilp, (.int .i64 0), (.bool false)], σ15))))) (
  c75_1 run fu x0 x1 x2 x3 σ))) (
  c75_1 run fu x0 x1 x2 x3 σ)

theorem eq75 (run : FuncId → List AV → Store → Tr R) (fu : Nat) (x0 x1 x2 x3 : AV) (σ : Store) : codeK X0 run (.seq .leaf (.seq (.seq .leaf (.cond (.seq .leaf (.block (.seq .leaf (.cond (.seq .leaf (.seq .leaf (.seq .leaf (.seq .leaf (.seq (.seq .leaf (.cond (.seq .leaf (.seq .leaf (.seq (.seq .leaf (.cond .leaf .leaf)) (.seq .leaf (.seq .leaf (.cond (.seq .leaf (.seq (.seq .leaf (.cond .leaf .leaf)) (.sub (fun fr σ => c75_4 run fu (fr.getD 0 .any) (fr.getD 1 .any) (fr.getD 2 .any) (fr.getD 3 .any) (fr.getD 11 .any) (fr.getD 12 .any) (fr.getD 13 .any) (fr.getD 14 .any) (fr.getD 15 .any) (fr.getD 16 .any) σ)))) .leaf)))))) .leaf)) (.sub (fun fr σ => c75_3 run fu (fr.getD 0 .any) (fr.getD 1 .any) (fr.getD 2 .any) (fr.getD 3 .any) (fr.getD 11 .any) (fr.getD 12 .any) (fr.getD 13 .any) (fr.getD 14 .any) (fr.getD 15 .any) σ))))))) (.seq .leaf (.cond (.seq .leaf (.seq (.seq .leaf (.cond .leaf .leaf)) (.seq (.seq .leaf (.seq .leaf (.cond (.seq .leaf .leaf) .leaf))) (.seq .leaf .leaf)))) .leaf)))))) .leaf)) (.sub (fun fr σ => c75_1 run fu (fr.getD 0 .any) (fr.getD 1 .any) (fr.getD 2 .any) (fr.getD 3 .any) σ)))) (subC [] b75) ([x0, x1, x2, x3] ++ padA (184 - 4)) σ k75 = c75 run fu x0 x1 x2 x3 σ := by kernel_rfl

theorem ok75 {run : FuncId → List AV → Store → Tr R} (hrun : RunOK X0 run) (fu : Nat) (x0 x1 x2 x3 : AV) (σ : Store) : CallOK X0 75 [x0, x1, x2, x3] σ (c75 run fu x0 x1 x2 x3 σ) :=
  KOK.body (fn := Tryz.f75) (c := subC [] b75) (by kernel_rfl) (by kernel_rfl) (by show 4 ≤ 184; decide) (KOK.whole env0 hrun (eq75 run fu x0 x1 x2 x3 σ) ⟨trivial, ⟨⟨trivial, ⟨⟨trivial, ⟨trivial, ⟨⟨trivial, ⟨trivial, ⟨trivial, ⟨trivial, ⟨⟨trivial, ⟨⟨trivial, ⟨trivial, ⟨⟨trivial, ⟨trivial, trivial⟩⟩, ⟨trivial, ⟨trivial, ⟨⟨trivial, ⟨⟨trivial, ⟨trivial, trivial⟩⟩, (ok75_4 hrun fu)⟩⟩, trivial⟩⟩⟩⟩⟩⟩, trivial⟩⟩, (ok75_3 hrun fu)⟩⟩⟩⟩⟩, ⟨trivial, ⟨⟨trivial, ⟨⟨trivial, ⟨trivial, trivial⟩⟩, ⟨⟨trivial, ⟨trivial, ⟨⟨trivial, trivial⟩, trivial⟩⟩⟩, ⟨trivial, trivial⟩⟩⟩⟩, trivial⟩⟩⟩⟩⟩, trivial⟩⟩, (ok75_1 hrun fu)⟩⟩)

-- pub-paratext/pub/rscmarkdown.linkCorner

noncomputable def b76 : Code := match Tryz.f76.body with | some c => c | none => .skip

noncomputable def k76 : Kont R := retK Tryz.prog [.tmp 2]

noncomputable def c76_1 (run : FuncId → List AV → Store → Tr R) (fu : Nat) (σ : Store) : Tr R :=
  .ret ((.bool false), σ)

theorem eq76_1 (run : FuncId → List AV → Store → Tr R) (fu : Nat) (σ : Store) : codeK X0 run (.seq .leaf .leaf) (subC [true, true] b76) (frS 0 35 []) σ k76 = c76_1 run fu σ := by kernel_rfl

theorem ok76_1 {run : FuncId → List AV → Store → Tr R} (hrun : RunOK X0 run) (fu : Nat) : ∀ fr σ, KOK X0 35 (subC [true, true] b76) fr σ ((fun fr σ => c76_1 run fu σ) fr σ) k76 := fun fr σ =>
  KOK.piece env0 hrun [] (eq76_1 run fu σ) ⟨trivial, trivial⟩

noncomputable def c76_3 (run : FuncId → List AV → Store → Tr R) (fu : Nat) (s2 : AV → AV → Store → Tr R) (x0 x3 : AV) (σ : Store) : Tr R :=
  addK x3 (.int .i64 1) fun x9 =>
  s2 x0 x9 σ

theorem eq76_3 (run : FuncId → List AV → Store → Tr R) (fu : Nat) (s2 : AV → AV → Store → Tr R) (x0 x3 : AV) (σ : Store) : codeK X0 run .leaf (subC [true, false, true, false, false, true, true] b76) (frS 0 35 [(0, x0), (3, x3)]) σ (thenK (fun fr σ => s2 (fr.getD 0 .any) (fr.getD 3 .any) σ) (blockK 0 (thenK (fun fr σ => c76_1 run fu σ) k76))) = c76_3 run fu s2 x0 x3 σ := by kernel_rfl

theorem ok76_3 {run : FuncId → List AV → Store → Tr R} (hrun : RunOK X0 run) (fu : Nat) (s2 : AV → AV → Store → Tr R) : ∀ fr σ, KOK X0 35 (subC [true, false, true, false, false, true, true] b76) fr σ ((fun fr σ => c76_3 run fu s2 (fr.getD 0 .any) (fr.getD 3 .any) σ) fr σ) (thenK (fun fr σ => s2 (fr.getD 0 .any) (fr.getD 3 .any) σ) (blockK 0 (thenK (fun fr σ => c76_1 run fu σ) k76))) := fun fr σ =>
  KOK.piece env0 hrun [0, 3] (eq76_3 run fu s2 (fr.getD 0 .any) (fr.getD 3 .any) σ) trivial

noncomputable def c76_2b (run : FuncId → List AV → Store → Tr R) (fu : Nat) (s2 : AV → AV → Store → Tr R) (x0 x3 : AV) (σ : Store) : Tr R :=
  lenSK x0 fun x6 =>
  cmpK .lss x3 x6 fun x7 =>
  ifK x7 (
  idxSK x0 x3 fun x12 =>
  cmpK .eql x12 (.int .u8 37) fun x13 =>
  ifK x13 (
  addK x3 (.int .i64 2) fun x15 =>
  lenSK x0 fun x17 =>
  cmpK .geq x15 x17 fun x18 =>
  grdK x18 false σ (fun f => f x0 σ) fun x20 σ1 =>
  grdK x18 false σ1 (fun f => f x3 σ1) fun x21 σ2 =>
  grdK x18 false σ2 (fun f => addK x21 (.int .i64 1) fun v => f v σ2) fun x22 σ3 =>
  grdK x18 false σ3 (fun f => idxSK x20 x22 fun v => f v σ3) fun x23 σ4 =>
  grdK x18 false σ4 (fun f => calK run 104 [x23] σ4 f) fun x24 σ5 =>
  grdK x18 false σ5 (fun f => notK x24 fun v => f v σ5) fun x25 σ6 =>
  pickK x18 (.bool true) x25 fun x26 =>
  grdK x26 false σ6 (fun f => f x0 σ6) fun x28 σ7 =>
  grdK x26 false σ7 (fun f => f x3 σ7) fun x29 σ8 =>
  grdK x26 false σ8 (fun f => addK x29 (.int .i64 2) fun v => f v σ8) fun x30 σ9 =>
  grdK x26 false σ9 (fun f => idxSK x28 x30 fun v => f v σ9) fun x31 σ10 =>
  grdK x26 false σ10 (fun f => calK run 104 [x31] σ10 f) fun x32 σ11 =>
  grdK x26 false σ11 (fun f => notK x32 fun v => f v σ11) fun x33 σ12 =>
  pickK x26 (.bool true) x33 fun x34 =>
  ifK x34 (
  .ret ((.bool true), σ12)) (
  c76_3 run fu s2 x0 x3 σ12)) (
  c76_3 run fu s2 x0 x3 σ)) (
  c76_1 run fu σ)

noncomputable def c76_2 (run : FuncId → List AV → Store → Tr R) (fu : Nat) : Nat → AV → AV → Store → Tr R
  | 0 => fun _ _ _ => .fail
  | m + 1 => c76_2b run fu (c76_2 run fu m)

theorem eq76_2 (run : FuncId → List AV → Store → Tr R) (fu : Nat) (s2 : AV → AV → Store → Tr R) (x0 x3 : AV) (σ : Store) : codeK X0 run (.seq (.seq .leaf (.cond .leaf .leaf)) (.seq (.block (.seq .leaf (.cond (.seq .leaf (.cond (.seq .leaf .leaf) .leaf)) .leaf))) (.sub (fun fr σ => c76_3 run fu s2 (fr.getD 0 .any) (fr.getD 3 .any) σ)))) (subC [true, false, true, false, false] b76) (frS 0 35 [(0, x0), (3, x3)]) σ (thenK (fun fr σ => s2 (fr.getD 0 .any) (fr.getD 3 .any) σ) (blockK 0 (thenK (fun fr σ => c76_1 run fu σ) k76))) = c76_2b run fu s2 x0 x3 σ := by kernel_rfl

theorem owed76_2 {run : FuncId → List AV → Store → Tr R} (hrun : RunOK X0 run) (fu : Nat) (s2 : AV → AV → Store → Tr R) : Owes X0 run 35 (.seq (.seq .leaf (.cond .leaf .leaf)) (.seq (.block (.seq .leaf (.cond (.seq .leaf (.cond (.seq .leaf .leaf) .leaf)) .leaf))) (.sub (fun fr σ => c76_3 run fu s2 (fr.getD 0 .any) (fr.getD 3 .any) σ)))) (subC [true, false, true, false, false] b76) (thenK (fun fr σ => s2 (fr.getD 0 .any) (fr.getD 3 .any) σ) (blockK 0 (thenK (fun fr σ => c76_1 run fu σ) k76))) :=
  ⟨⟨trivial, ⟨trivial, trivial⟩⟩, ⟨⟨trivial, ⟨⟨trivial, ⟨⟨trivial, trivial⟩, trivial⟩⟩, trivial⟩⟩, (ok76_3 hrun fu s2)⟩⟩

theorem ok76_2 {run : FuncId → List AV → Store → Tr R} (hrun : RunOK X0 run) (fu : Nat) : ∀ fr σ, KOK X0 35 (subC [true, false, true, false] b76) fr σ ((fun fr σ => c76_2 run fu fu (fr.getD 0 .any) (fr.getD 3 .any) σ) fr σ) (blockK 0 (thenK (fun fr σ => c76_1 run fu σ) k76)) := by
  have h := KOK.loop (X := X0) (N := 35) (b := (subC [true, false, true, false, false] b76)) (k := (blockK 0 (thenK (fun fr σ => c76_1 run fu σ) k76))) (u := fun m fr σ => c76_2 run fu m (fr.getD 0 .any) (fr.getD 3 .any) σ) (fun _ _ => rfl) (fun m fr σ => KOK.piece env0 hrun [0, 3] (eq76_2 run fu (c76_2 run fu m) (fr.getD 0 .any) (fr.getD 3 .any) σ) (owed76_2 hrun fu (c76_2 run fu m)))
  exact fun fr σ => h fu fr σ

noncomputable def c76 (run : FuncId → List AV → Store → Tr R) (fu : Nat) (x0 : AV) (σ : Store) : Tr R :=
  c76_2 run fu fu x0 (.int .i64 0) σ

theorem eq76 (run : FuncId → List AV → Store → Tr R) (fu : Nat) (x0 : AV) (σ : Store) : codeK X0 run (.seq .leaf (.seq (.seq .leaf (.block (.sub (fun fr σ => c76_2 run fu fu (fr.getD 0 .any) (fr.getD 3 .any) σ)))) (.sub (fun fr σ => c76_1 run fu σ)))) (subC [] b76) ([x0] ++ padA (35 - 1)) σ k76 = c76 run fu x0 σ := by kernel_rfl

theorem ok76 {run : FuncId → List AV → Store → Tr R} (hrun : RunOK X0 run) (fu : Nat) (x0 : AV) (σ : Store) : CallOK X0 76 [x0] σ (c76 run fu x0 σ) :=
  KOK.body (fn := Tryz.f76) (c := subC [] b76) (by kernel_rfl) (by kernel_rfl) (by show 1 ≤ 35; decide) (KOK.whole env0 hrun (eq76 run fu x0 σ) ⟨trivial, ⟨⟨trivial, (ok76_2 hrun fu)⟩, (ok76_1 hrun fu)⟩⟩)

-- (*pub-paratext/pub/rscmarkdown.parseState).emph

noncomputable def b77 : Code := match Tryz.f77.body with | some c => c | none => .skip

noncomputable def k77 : Kont R := retK Tryz.prog [.tmp 6]

noncomputable def c77_1 (run : FuncId → List AV → Store → Tr R) (fu : Nat) (x4 : AV) (σ : Store) : Tr R :=
  ld1K σ x4 fun x435 =>
  .ret (x435, σ)

theorem eq77_1 (run : FuncId → List AV → Store → Tr R) (fu : Nat) (x4 : AV) (σ : Store) : codeK X0 run (.seq .leaf .leaf) (subC [true, false, true, true, true, true, true] b77) (frS 0 436 [(4, x4)]) σ (noGotoK k77) = c77_1 run fu x4 σ := by kernel_rfl

theorem ok77_1 {run : FuncId → List AV → Store → Tr R} (hrun : RunOK X0 run) (fu : Nat) : ∀ fr σ, KOK X0 436 (subC [true, false, true, true, true, true, true] b77) fr σ ((fun fr σ => c77_1 run fu (fr.getD 4 .any) σ) fr σ) (noGotoK k77) := fun fr σ =>
  KOK.piece env0 hrun [4] (eq77_1 run fu (fr.getD 4 .any) σ) ⟨trivial, trivial⟩

noncomputable def c77_3 (run : FuncId → List AV → Store → Tr R) (fu : Nat) (s2 : AV → AV → AV → AV → AV → AV → Store → Tr R) (x2 x4 x7 x8 x9 x10 : AV) (σ : Store) : Tr R :=
  addK x10 (.int .i64 1) fun x28 =>
  s2 x2 x4 x7 x8 x9 x28 σ

theorem eq77_3 (run : FuncId → List AV → Store → Tr R) (fu : Nat) (s2 : AV → AV → AV → AV → AV → AV → Store → Tr R) (x2 x4 x7 x8 x9 x10 : AV) (σ : Store) : codeK X0 run .leaf (subC [true, false, true, true, true, true, false, true, false, false, true, true] b77) (frS 0 436 [(2, x2), (4, x4), (7, x7), (8, x8), (9, x9), (10, x10)]) σ (thenK (fun fr σ => s2 (fr.getD 2 .any) (fr.getD 4 .any) (fr.getD 7 .any) (fr.getD 8 .any) (fr.getD 9 .any) (fr.getD 10 .any) σ) (blockK 0 (thenK (fun fr σ => c77_1 run fu (fr.getD 4 .any) σ) (noGotoK k77)))) = c77_3 run fu s2 x2 x4 x7 x8 x9 x10 σ := by kernel_rfl

theorem ok77_3 {run : FuncId → List AV → Store → Tr R} (hrun : RunOK X0 run) (fu : Nat) (s2 : AV → AV → AV → AV → AV → AV → Store → Tr R) : ∀ fr σ, KOK X0 436 (subC [true, false, true, true, true, true, false, true, false, false, true, true] b77) fr σ ((fun fr σ => c77_3 run fu s2 (fr.getD 2 .any) (fr.getD 4 .any) (fr.getD 7 .any) (fr.getD 8 .any) (fr.getD 9 .any) (fr.getD 10 .any) σ) fr σ) (thenK (fun fr σ => s2 (fr.getD 2 .any) (fr.getD 4 .any) (fr.getD 7 .any) (fr.getD 8 .any) (fr.getD 9 .any) (fr.getD 10 .any) σ) (blockK 0 (thenK (fun fr σ => c77_1 run fu (fr.getD 4 .any) σ) (noGotoK k77)))) := fun fr σ =>
  KOK.piece env0 hrun [2, 4, 7, 8, 9, 10] (eq77_3 run fu s2 (fr.getD 2 .any) (fr.getD 4 .any) (fr.getD 7 .any) (fr.getD 8 .any) (fr.getD 9 .any) (fr.getD 10 .any) σ) trivial

noncomputable def c77_6 (run : FuncId → List AV → Store → Tr R) (fu : Nat) (s2 : AV → AV → AV → AV → AV → AV → Store → Tr R) (x2 x4 x7 x8 x9 x10 x13 x21 : AV) (σ : Store) : Tr R :=
  nchkK x13 fun x407 =>
  addrK x407 1 fun x408 =>
  ld1K σ x408 fun x409 =>
  ifK x409 (
  ld1K σ x4 fun x411 =>
  lenLK x411 fun x412 =>
  nchkK x13 fun x413 =>
  addrK x413 3 fun x414 =>
  st1K σ x414 x412 fun _ σ1 =>
  ld1K σ1 x4 fun x415 =>
  opt (fillK [.nili] [(0, 1, (.iface 185 x13))]) fun cs => newSK σ1 253 cs 1 1 fun x418 σ2 =>
  appK 126 1 16 σ2 x415 x418 fun x419 σ3 =>
  st1K σ3 x4 x419 fun _ σ4 =>
  nchkK x21 fun x422 =>
  ld1K σ4 x422 fun x423 =>
  opt (fillK [.nilp] [(0, 1, x13)]) fun cs => newSK σ4 371 cs 1 1 fun x425 σ5 =>
  appK 185 1 8 σ5 x423 x425 fun x426 σ6 =>
  nchkK x21 fun x427 =>
  st1K σ6 x427 x426 fun _ σ7 =>
  c77_3 run fu s2 x2 x4 x7 x8 x9 x10 σ7) (
  ld1K σ x4 fun x428 =>
  nchkK x13 fun x430 =>
  addrK x430 0 fun x431 =>
  opt (fillK [.nili] [(0, 1, (.iface 150 x431))]) fun cs => newSK σ 253 cs 1 1 fun x433 σ8 =>
  appK 126 1 16 σ8 x428 x433 fun x434 σ9 =>
  st1K σ9 x4 x434 fun _ σ10 =>
  ld1K σ8 x4 fun v11 =>
  must (AV.beq v11 x428) (
  c77_3 run fu s2 x2 x4 x7 x8 x9 x10 σ10))

theorem eq77_6 (run : FuncId → List AV → Store → Tr R) (fu : Nat) (s2 : AV → AV → AV → AV → AV → AV → Store → Tr R) (x2 x4 x7 x8 x9 x10 x13 x21 : AV) (σ : Store) : codeK X0 run (.seq .leaf (.cond (.seq .leaf (.seq .leaf .leaf)) .leaf)) (subC [true, false, true, true, true, true, false, true, false, false, true, false, false, true, true, true, true, true, false, true, true, true] b77) (frS 0 436 [(2, x2), (4, x4), (7, x7), (8, x8), (9, x9), (10, x10), (13, x13), (21, x21)]) σ (blockK 1 (thenK (fun fr σ => c77_3 run fu s2 (fr.getD 2 .any) (fr.getD 4 .any) (fr.getD 7 .any) (fr.getD 8 .any) (fr.getD 9 .any) (fr.getD 10 .any) σ) (thenK (fun fr σ => s2 (fr.getD 2 .any) (fr.getD 4 .any) (fr.getD 7 .any) (fr.getD 8 .any) (fr.getD 9 .any) (fr.getD 10 .any) σ) (blockK 0 (thenK (fun fr σ => c77_1 run fu (fr.getD 4 .any) σ) (noGotoK k77)))))) = c77_6 run fu s2 x2 x4 x7 x8 x9 x10 x13 x21 σ := by kernel_rfl

theorem ok77_6 {run : FuncId → List AV → Store → Tr R} (hrun : RunOK X0 run) (fu : Nat) (s2 : AV → AV → AV → AV → AV → AV → Store → Tr R) : ∀ fr σ, KOK X0 436 (subC [true, false, true, true, true, true, false, true, false, false, true, false, false, true, true, true, true, true, false, true, true, true] b77) fr σ ((fun fr σ => c77_6 run fu s2 (fr.getD 2 .any) (fr.getD 4 .any) (fr.getD 7 .any) (fr.getD 8 .any) (fr.getD 9 .any) (fr.getD 10 .any) (fr.getD 13 .any) (fr.getD 21 .any) σ) fr σ) (blockK 1 (thenK (fun fr σ => c77_3 run fu s2 (fr.getD 2 .any) (fr.getD 4 .any) (fr.getD 7 .any) (fr.getD 8 .any) (fr.getD 9 .any) (fr.getD 10 .any) σ) (thenK (fun fr σ => s2 (fr.getD 2 .any) (fr.getD 4 .any) (fr.getD 7 .any) (fr.getD 8 .any) (fr.getD 9 .any) (fr.getD 10 .any) σ) (blockK 0 (thenK (fun fr σ => c77_1 run fu (fr.getD 4 .any) σ) (noGotoK k77)))))) := fun fr σ =>
  KOK.piece env0 hrun [2, 4, 7, 8, 9, 10, 13, 21] (eq77_6 run fu s2 (fr.getD 2 .any) (fr.getD 4 .any) (fr.getD 7 .any) (fr.getD 8 .any) (fr.getD 9 .any) (fr.getD 10 .any) (fr.getD 13 .any) (fr.getD 21 .any) σ) ⟨trivial, ⟨⟨trivial, ⟨trivial, trivial⟩⟩, trivial⟩⟩

noncomputable def c77_5 (run : FuncId → List AV → Store → Tr R) (fu : Nat) (s2 : AV → AV → AV → AV → AV → AV → Store → Tr R) (x2 x4 x7 x8 x9 x10 x13 x21 : AV) (σ : Store) : Tr R :=
  nchkK x13 fun x389 =>
  addrK x389 0 fun x390 =>
  addrK x390 0 fun x391 =>
  ld1K σ x391 fun x392 =>
  eqSK x392 (.str [34]) fun x393 =>
  ifK x393 (
  nchkK x13 fun x395 =>
  addrK x395 2 fun x396 =>
  ld1K σ x396 fun x397 =>
  ifK x397 (
  nchkK x13 fun x399 =>
  addrK x399 0 fun x400 =>
  addrK x400 0 fun x401 =>
  st1K σ x401 (.str [226, 128, 157]) fun _ σ1 =>
  c77_6 run fu s2 x2 x4 x7 x8 x9 x10 x13 x21 σ1) (
  nchkK x13 fun x403 =>
  addrK x403 0 fun x404 =>
  addrK x404 0 fun x405 =>
  st1K σ x405 (.str [226, 128, 156]) fun _ σ2 =>
  c77_6 run fu s2 x2 x4 x7 x8 x9 x10 x13 x21 σ2)) (
  c77_6 run fu s2 x2 x4 x7 x8 x9 x10 x13 x21 σ)

theorem eq77_5 (run : FuncId → List AV → Store → Tr R) (fu : Nat) (s2 : AV → AV → AV → AV → AV → AV → Store → Tr R) (x2 x4 x7 x8 x9 x10 x13 x21 : AV) (σ : Store) : codeK X0 run (.seq (.seq .leaf (.cond (.seq .leaf (.cond .leaf .leaf)) .leaf)) (.sub (fun fr σ => c77_6 run fu s2 (fr.getD 2 .any) (fr.getD 4 .any) (fr.getD 7 .any) (fr.getD 8 .any) (fr.getD 9 .any) (fr.getD 10 .any) (fr.getD 13 .any) (fr.getD 21 .any) σ))) (subC [true, false, true, true, true, true, false, true, false, false, true, false, false, true, true, true, true, true, false, true, true] b77) (frS 0 436 [(2, x2), (4, x4), (7, x7), (8, x8), (9, x9), (10, x10), (13, x13), (21, x21)]) σ (blockK 1 (thenK (fun fr σ => c77_3 run fu s2 (fr.getD 2 .any) (fr.getD 4 .any) (fr.getD 7 .any) (fr.getD 8 .any) (fr.getD 9 .any) (fr.getD 10 .any) σ) (thenK (fun fr σ => s2 (fr.getD 2 .any) (fr.getD 4 .any) (fr.getD 7 .any) (fr.getD 8 .any) (fr.getD 9 .any) (fr.getD 10 .any) σ) (blockK 0 (thenK (fun fr σ => c77_1 run fu (fr.getD 4 .any) σ) (noGotoK k77)))))) = c77_5 run fu s2 x2 x4 x7 x8 x9 x10 x13 x21 σ := by kernel_rfl

theorem ok77_5 {run : FuncId → List AV → Store → Tr R} (hrun : RunOK X0 run) (fu : Nat) (s2 : AV → AV → AV → AV → AV → AV → Store → Tr R) : ∀ fr σ, KOK X0 436 (subC [true, false, true, true, true, true, false, true, false, false, true, false, false, true, true, true, true, true, false, true, true] b77) fr σ ((fun fr σ => c77_5 run fu s2 (fr.getD 2 .any) (fr.getD 4 .any) (fr.getD 7 .any) (fr.getD 8 .any) (fr.getD 9 .any) (fr.getD 10 .any) (fr.getD 13 .any) (fr.getD 21 .any) σ) fr σ) (blockK 1 (thenK (fun fr σ => c77_3 run fu s2 (fr.getD 2 .any) (fr.getD 4 .any) (fr.getD 7 .any) (fr.getD 8 .any) (fr.getD 9 .any) (fr.getD 10 .any) σ) (thenK (fun fr σ => s2 (fr.getD 2 .any) (fr.getD 4 .any) (fr.getD 7 .any) (fr.getD 8 .any) (fr.getD 9 .any) (fr.getD 10 .any) σ) (blockK 0 (thenK (fun fr σ => c77_1 run fu (fr.getD 4 .any) σ) (noGotoK k77)))))) := fun fr σ =>
  KOK.piece env0 hrun [2, 4, 7, 8, 9, 10, 13, 21] (eq77_5 run fu s2 (fr.getD 2 .any) (fr.getD 4 .any) (fr.getD 7 .any) (fr.getD 8 .any) (fr.getD 9 .any) (fr.getD 10 .any) (fr.getD 13 .any) (fr.getD 21 .any) σ) ⟨⟨trivial, ⟨⟨trivial, ⟨trivial, trivial⟩⟩, trivial⟩⟩, (ok77_6 hrun fu s2)⟩

noncomputable def c77_4 (run : FuncId → List AV → Store → Tr R) (fu : Nat) (s2 : AV → AV → AV → AV → AV → AV → Store → Tr R) (x2 x4 x7 x8 x9 x10 x13 : AV) (σ : Store) : Tr R :=
  nchkK x13 fun x364 =>
  addrK x364 0 fun x365 =>
  addrK x365 0 fun x366 =>
  ld1K σ x366 fun x367 =>
  neSK x367 (.str []) fun x368 =>
  ifK x368 (
  nchkK x13 fun x371 =>
  addrK x371 0 fun x372 =>
  addrK x372 0 fun x373 =>
  ld1K σ x373 fun x374 =>
  idxSK x374 (.int .i64 0) fun x375 =>
  dynK X0 run x8 [x375] σ fun x376 σ1 =>
  idxArrK 5 1 x7 x376 fun x377 =>
  nchkK x13 fun x379 =>
  addrK x379 0 fun x380 =>
  addrK x380 0 fun x381 =>
  ld1K σ1 x381 fun x382 =>
  eqSK x382 (.str [39]) fun x383 =>
  ifK x383 (
  nchkK x13 fun x385 =>
  addrK x385 0 fun x386 =>
  addrK x386 0 fun x387 =>
  st1K σ1 x387 (.str [226, 128, 153]) fun _ σ2 =>
  c77_5 run fu s2 x2 x4 x7 x8 x9 x10 x13 x377 σ2) (
  c77_5 run fu s2 x2 x4 x7 x8 x9 x10 x13 x377 σ1)) (
  c77_3 run fu s2 x2 x4 x7 x8 x9 x10 σ)

theorem eq77_4 (run : FuncId → List AV → Store → Tr R) (fu : Nat) (s2 : AV → AV → AV → AV → AV → AV → Store → Tr R) (x2 x4 x7 x8 x9 x10 x13 : AV) (σ : Store) : codeK X0 run (.seq .leaf (.cond (.seq .leaf (.seq (.seq .leaf (.cond .leaf .leaf)) (.sub (fun fr σ => c77_5 run fu s2 (fr.getD 2 .any) (fr.getD 4 .any) (fr.getD 7 .any) (fr.getD 8 .any) (fr.getD 9 .any) (fr.getD 10 .any) (fr.getD 13 .any) (fr.getD 21 .any) σ)))) .leaf)) (subC [true, false, true, true, true, true, false, true, false, false, true, false, false, true, true, true, true] b77) (frS 0 436 [(2, x2), (4, x4), (7, x7), (8, x8), (9, x9), (10, x10), (13, x13)]) σ (blockK 1 (thenK (fun fr σ => c77_3 run fu s2 (fr.getD 2 .any) (fr.getD 4 .any) (fr.getD 7 .any) (fr.getD 8 .any) (fr.getD 9 .any) (fr.getD 10 .any) σ) (thenK (fun fr σ => s2 (fr.getD 2 .any) (fr.getD 4 .any) (fr.getD 7 .any) (fr.getD 8 .any) (fr.getD 9 .any) (fr.getD 10 .any) σ) (blockK 0 (thenK (fun fr σ => c77_1 run fu (fr.getD 4 .any) σ) (noGotoK k77)))))) = c77_4 run fu s2 x2 x4 x7 x8 x9 x10 x13 σ := by kernel_rfl

theorem ok77_4 {run : FuncId → List AV → Store → Tr R} (hrun : RunOK X0 run) (fu : Nat) (s2 : AV → AV → AV → AV → AV → AV → Store → Tr R) : ∀ fr σ, KOK X0 436 (subC [true, false, true, true, true, true, false, true, false, false, true, false, false, true, true, true, true] b77) fr σ ((fun fr σ => c77_4 run fu s2 (fr.getD 2 .any) (fr.getD 4 .any) (fr.getD 7 .any) (fr.getD 8 .any) (fr.getD 9 .any) (fr.getD 10 .any) (fr.getD 13 .any) σ) fr σ) (blockK 1 (thenK (fun fr σ => c77_3 run fu s2 (fr.getD 2 .any) (fr.getD 4 .any) (fr.getD 7 .any) (fr.getD 8 .any) (fr.getD 9 .any) (fr.getD 10 .any) σ) (thenK (fun fr σ => s2 (fr.getD 2 .any) (fr.getD 4 .any) (fr.getD 7 .any) (fr.getD 8 .any) (fr.getD 9 .any) (fr.getD 10 .any) σ) (blockK 0 (thenK (fun fr σ => c77_1 run fu (fr.getD 4 .any) σ) (noGotoK k77)))))) := fun fr σ =>
  KOK.piece env0 hrun [2, 4, 7, 8, 9, 10, 13] (eq77_4 run fu s2 (fr.getD 2 .any) (fr.getD 4 .any) (fr.getD 7 .any) (fr.getD 8 .any) (fr.getD 9 .any) (fr.getD 10 .any) (fr.getD 13 .any) σ) ⟨trivial, ⟨⟨trivial, ⟨⟨trivial, ⟨trivial, trivial⟩⟩, (ok77_5 hrun fu s2)⟩⟩, trivial⟩⟩

noncomputable def c77_9 (run : FuncId → List AV → Store → Tr R) (fu : Nat) (s2 : AV → AV → AV → AV → AV → AV → Store → Tr R) (s7 : AV → AV → AV → AV → AV → AV → AV → AV → Store → Tr R) (s8 : AV → AV → AV → AV → AV → AV → AV → AV → AV → Store → Tr R) (x2 x4 x7 x8 x9 x10 x13 x15 x16 : AV) (σ : Store) : Tr R :=
  subK x16 (.int .i64 1) fun x89 =>
  s8 x2 x4 x7 x8 x9 x10 x13 x15 x89 σ

theorem eq77_9 (run : FuncId → List AV → Store → Tr R) (fu : Nat) (s2 : AV → AV → AV → AV → AV → AV → Store → Tr R) (s7 : AV → AV → AV → AV → AV → AV → AV → AV → Store → Tr R) (s8 : AV → AV → AV → AV → AV → AV → AV → AV → AV → Store → Tr R) (x2 x4 x7 x8 x9 x10 x13 x15 x16 : AV) (σ : Store) : codeK X0 run .leaf (subC [true, false, true, true, true, true, false, true, false, false, true, false, false, true, true, true, false, true, false, false, true, true, false, false, true, false, false, true, false, false, true, true] b77) (frS 0 436 [(2, x2), (4, x4), (7, x7), (8, x8), (9, x9), (10, x10), (13, x13), (15, x15), (16, x16)]) σ (thenK (fun fr σ => s8 (fr.getD 2 .any) (fr.getD 4 .any) (fr.getD 7 .any) (fr.getD 8 .any) (fr.getD 9 .any) (fr.getD 10 .any) (fr.getD 13 .any) (fr.getD 15 .any) (fr.getD 16 .any) σ) (blockK 4 (thenK (fun fr σ => codeK X0 run .leaf (subC [true, false, true, true, true, true, false, true, false, false, true, false, false, true, true, true, false, true, false, false, true, true, false, false, true, false, true] b77) fr σ (blockK 3 (thenK (fun fr σ => s7 (fr.getD 2 .any) (fr.getD 4 .any) (fr.getD 7 .any) (fr.getD 8 .any) (fr.getD 9 .any) (fr.getD 10 .any) (fr.getD 13 .any) (fr.getD 15 .any) σ) (blockK 2 (noGotoK (thenK (fun fr σ => c77_4 run fu s2 (fr.getD 2 .any) (fr.getD 4 .any) (fr.getD 7 .any) (fr.getD 8 .any) (fr.getD 9 .any) (fr.getD 10 .any) (fr.getD 13 .any) σ) (blockK 1 (thenK (fun fr σ => c77_3 run fu s2 (fr.getD 2 .any) (fr.getD 4 .any) (fr.getD 7 .any) (fr.getD 8 .any) (fr.getD 9 .any) (fr.getD 10 .any) σ) (thenK (fun fr σ => s2 (fr.getD 2 .any) (fr.getD 4 .any) (fr.getD 7 .any) (fr.getD 8 .any) (fr.getD 9 .any) (fr.getD 10 .any) σ) (blockK 0 (thenK (fun fr σ => c77_1 run fu (fr.getD 4 .any) σ) (noGotoK k77)))))))))))) (blockK 3 (thenK (fun fr σ => s7 (fr.getD 2 .any) (fr.getD 4 .any) (fr.getD 7 .any) (fr.getD 8 .any) (fr.getD 9 .any) (fr.getD 10 .any) (fr.getD 13 .any) (fr.getD 15 .any) σ) (blockK 2 (noGotoK (thenK (fun fr σ => c77_4 run fu s2 (fr.getD 2 .any) (fr.getD 4 .any) (fr.getD 7 .any) (fr.getD 8 .any) (fr.getD 9 .any) (fr.getD 10 .any) (fr.getD 13 .any) σ) (blockK 1 (thenK (fun fr σ => c77_3 run fu s2 (fr.getD 2 .any) (fr.getD 4 .any) (fr.getD 7 .any) (fr.getD 8 .any) (fr.getD 9 .any) (fr.getD 10 .any) σ) (thenK (fun fr σ => s2 (fr.getD 2 .any) (fr.getD 4 .any) (fr.getD 7 .any) (fr.getD 8 .any) (fr.getD 9 .any) (fr.getD 10 .any) σ) (blockK 0 (thenK (fun fr σ => c77_1 run fu (fr.getD 4 .any) σ) (noGotoK k77)))))))))))))) = c77_9 run fu s2 s7 s8 x2 x4 x7 x8 x9 x10 x13 x15 x16 σ := by kernel_rfl

theorem ok77_9 {run : FuncId → List AV → Store → Tr R} (hrun : RunOK X0 run) (fu : Nat) (s2 : AV → AV → AV → AV → AV → AV → Store → Tr R) (s7 : AV → AV → AV → AV → AV → AV → AV → AV → Store → Tr R) (s8 : AV → AV → AV → AV → AV → AV → AV → AV → AV → Store → Tr R) : ∀ fr σ, KOK X0 436 (subC [true, false, true, true, true, true, false, true, false, false, true, false, false, true, true, true, false, true, false, false, true, true, false, false, true, false, false, true, false, false, true, true] b77) fr σ ((fun fr σ => c77_9 run fu s2 s7 s8 (fr.getD 2 .any) (fr.getD 4 .any) (fr.getD 7 .any) (fr.getD 8 .any) (fr.getD 9 .any) (fr.getD 10 .any) (fr.getD 13 .any) (fr.getD 15 .any) (fr.getD 16 .any) σ) fr σ) (thenK (fun fr σ => s8 (fr.getD 2 .any) (fr.getD 4 .any) (fr.getD 7 .any) (fr.getD 8 .any) (fr.getD 9 .any) (fr.getD 10 .any) (fr.getD 13 .any) (fr.getD 15 .any) (fr.getD 16 .any) σ) (blockK 4 (thenK (fun fr σ => codeK X0 run .leaf (subC [true, false, true, true, true, true, false, true, false, false, true, false, false, true, true, true, false, true, false, false, true, true, false, false, true, false, true] b77) fr σ (blockK 3 (thenK (fun fr σ => s7 (fr.getD 2 .any) (fr.getD 4 .any) (fr.getD 7 .any) (fr.getD 8 .any) (fr.getD 9 .any) (fr.getD 10 .any) (fr.getD 13 .any) (fr.getD 15 .any) σ) (blockK 2 (noGotoK (thenK (fun fr σ => c77_4 run fu s2 (fr.getD 2 .any) (fr.getD 4 .any) (fr.getD 7 .any) (fr.getD 8 .any) (fr.getD 9 .any) (fr.getD 10 .any) (fr.getD 13 .any) σ) (blockK 1 (thenK (fun fr σ => c77_3 run fu s2 (fr.getD 2 .any) (fr.getD 4 .any) (fr.getD 7 .any) (fr.getD 8 .any) (fr.getD 9 .any) (fr.getD 10 .any) σ) (thenK (fun fr σ => s2 (fr.getD 2 .any) (fr.getD 4 .any) (fr.getD 7 .any) (fr.getD 8 .any) (fr.getD 9 .any) (fr.getD 10 .any) σ) (blockK 0 (thenK (fun fr σ => c77_1 run fu (fr.getD 4 .any) σ) (noGotoK k77)))))))))))) (blockK 3 (thenK (fun fr σ => s7 (fr.getD 2 .any) (fr.getD 4 .any) (fr.getD 7 .any) (fr.getD 8 .any) (fr.getD 9 .any) (fr.getD 10 .any) (fr.getD 13 .any) (fr.getD 15 .any) σ) (blockK 2 (noGotoK (thenK (fun fr σ => c77_4 run fu s2 (fr.getD 2 .any) (fr.getD 4 .any) (fr.getD 7 .any) (fr.getD 8 .any) (fr.getD 9 .any) (fr.getD 10 .any) (fr.getD 13 .any) σ) (blockK 1 (thenK (fun fr σ => c77_3 run fu s2 (fr.getD 2 .any) (fr.getD 4 .any) (fr.getD 7 .any) (fr.getD 8 .any) (fr.getD 9 .any) (fr.getD 10 .any) σ) (thenK (fun fr σ => s2 (fr.getD 2 .any) (fr.getD 4 .any) (fr.getD 7 .any) (fr.getD 8 .any) (fr.getD 9 .any) (fr.getD 10 .any) σ) (blockK 0 (thenK (fun fr σ => c77_1 run fu (fr.getD 4 .any) σ) (noGotoK k77)))))))))))))) := fun fr σ =>
  KOK.piece env0 hrun [2, 4, 7, 8, 9, 10, 13, 15, 16] (eq77_9 run fu s2 s7 s8 (fr.getD 2 .any) (fr.getD 4 .any) (fr.getD 7 .any) (fr.getD 8 .any) (fr.getD 9 .any) (fr.getD 10 .any) (fr.getD 13 .any) (fr.getD 15 .any) (fr.getD 16 .any) σ) trivial

noncomputable def c77_11 (run : FuncId → List AV → Store → Tr R) (fu : Nat) (s2 : AV → AV → AV → AV → AV → AV → Store → Tr R) (s7 : AV → AV → AV → AV → AV → AV → AV → AV → Store → Tr R) (s8 : AV → AV → AV → AV → AV → AV → AV → AV → AV → Store → Tr R) (x2 x4 x7 x8 x9 x10 x13 x15 x18 x19 x20 : AV) (σ : Store) : Tr R :=
  dynK X0 run x9 [] σ fun x344 σ1 =>
  ifK x19 (
  ld1K σ1 x4 fun x346 =>
  opt (fillK [.nili] [(0, 1, (.iface 212 x20))]) fun cs => newSK σ1 253 cs 1 1 fun x349 σ2 =>
  appK 126 1 16 σ2 x346 x349 fun x350 σ3 =>
  st1K σ3 x4 x350 fun _ σ4 =>
  s7 x2 x4 x7 x8 x9 x10 x13 x15 σ4) (
  cmpK .eql x18 (.int .i64 2) fun x352 =>
  ifK x352 (
  ld1K σ1 x4 fun x353 =>
  opt (fillK [.nili] [(0, 1, (.iface 213 x20))]) fun cs => newSK σ1 253 cs 1 1 fun x356 σ5 =>
  appK 126 1 16 σ5 x353 x356 fun x357 σ6 =>
  st1K σ6 x4 x357 fun _ σ7 =>
  s7 x2 x4 x7 x8 x9 x10 x13 x15 σ7) (
  ld1K σ1 x4 fun x358 =>
  opt (fillK [.nili] [(0, 1, (.iface 209 x20))]) fun cs => newSK σ1 253 cs 1 1 fun x361 σ8 =>
  appK 126 1 16 σ8 x358 x361 fun x362 σ9 =>
  st1K σ9 x4 x362 fun _ σ10 =>
  s7 x2 x4 x7 x8 x9 x10 x13 x15 σ10))

theorem eq77_11 (run : FuncId → List AV → Store → Tr R) (fu : Nat) (s2 : AV → AV → AV → AV → AV → AV → Store → Tr R) (s7 : AV → AV → AV → AV → AV → AV → AV → AV → Store → Tr R) (s8 : AV → AV → AV → AV → AV → AV → AV → AV → AV → Store → Tr R) (x2 x4 x7 x8 x9 x10 x13 x15 x18 x19 x20 : AV) (σ : Store) : codeK X0 run (.seq .leaf (.seq (.seq .leaf (.cond .leaf (.seq .leaf (.cond .leaf .leaf)))) .leaf)) (subC [true, false, true, true, true, true, false, true, false, false, true, false, false, true, true, true, false, true, false, false, true, true, false, false, true, false, false, true, false, false, true, false, false, true, true, true, true, true, true, true, true, true, true, true, true] b77) (frS 0 436 [(2, x2), (4, x4), (7, x7), (8, x8), (9, x9), (10, x10), (13, x13), (15, x15), (18, x18), (19, x19), (20, x20)]) σ (blockK 5 (thenK (fun fr σ => c77_9 run fu s2 s7 s8 (fr.getD 2 .any) (fr.getD 4 .any) (fr.getD 7 .any) (fr.getD 8 .any) (fr.getD 9 .any) (fr.getD 10 .any) (fr.getD 13 .any) (fr.getD 15 .any) (fr.getD 16 .any) σ) (thenK (fun fr σ => s8 (fr.getD 2 .any) (fr.getD 4 .any) (fr.getD 7 .any) (fr.getD 8 .any) (fr.getD 9 .any) (fr.getD 10 .any) (fr.getD 13 .any) (fr.getD 15 .any) (fr.getD 16 .any) σ) (blockK 4 (thenK (fun fr σ => codeK X0 run .leaf (subC [true, false, true, true, true, true, false, true, false, false, true, false, false, true, true, true, false, true, false, false, true, true, false, false, true, false, true] b77) fr σ (blockK 3 (thenK (fun fr σ => s7 (fr.getD 2 .any) (fr.getD 4 .any) (fr.getD 7 .any) (fr.getD 8 .any) (fr.getD 9 .any) (fr.getD 10 .any) (fr.getD 13 .any) (fr.getD 15 .any) σ) (blockK 2 (noGotoK (thenK (fun fr σ => c77_4 run fu s2 (fr.getD 2 .any) (fr.getD 4 .any) (fr.getD 7 .any) (fr.getD 8 .any) (fr.getD 9 .any) (fr.getD 10 .any) (fr.getD 13 .any) σ) (blockK 1 (thenK (fun fr σ => c77_3 run fu s2 (fr.getD 2 .any) (fr.getD 4 .any) (fr.getD 7 .any) (fr.getD 8 .any) (fr.getD 9 .any) (fr.getD 10 .any) σ) (thenK (fun fr σ => s2 (fr.getD 2 .any) (fr.getD 4 .any) (fr.getD 7 .any) (fr.getD 8 .any) (fr.getD 9 .any) (fr.getD 10 .any) σ) (blockK 0 (thenK (fun fr σ => c77_1 run fu (fr.getD 4 .any) σ) (noGotoK k77)))))))))))) (blockK 3 (thenK (fun fr σ => s7 (fr.getD 2 .any) (fr.getD 4 .any) (fr.getD 7 .any) (fr.getD 8 .any) (fr.getD 9 .any) (fr.getD 10 .any) (fr.getD 13 .any) (fr.getD 15 .any) σ) (blockK 2 (noGotoK (thenK (fun fr σ => c77_4 run fu s2 (fr.getD 2 .any) (fr.getD 4 .any) (fr.getD 7 .any) (fr.getD 8 .any) (fr.getD 9 .any) (fr.getD 10 .any) (fr.getD 13 .any) σ) (blockK 1 (thenK (fun fr σ => c77_3 run fu s2 (fr.getD 2 .any) (fr.getD 4 .any) (fr.getD 7 .any) (fr.getD 8 .any) (fr.getD 9 .any) (fr.getD 10 .any) σ) (thenK (fun fr σ => s2 (fr.getD 2 .any) (fr.getD 4 .any) (fr.getD 7 .any) (fr.getD 8 .any) (fr.getD 9 .any) (fr.getD 10 .any) σ) (blockK 0 (thenK (fun fr σ => c77_1 run fu (fr.getD 4 .any) σ) (noGotoK k77)))))))))))))))) = c77_11 run fu s2 s7 s8 x2 x4 x7 x8 x9 x10 x13 x15 x18 x19 x20 σ := by kernel_rfl

theorem ok77_11 {run : FuncId → List AV → Store → Tr R} (hrun : RunOK X0 run) (fu : Nat) (s2 : AV → AV → AV → AV → AV → AV → Store → Tr R) (s7 : AV → AV → AV → AV → AV → AV → AV → AV → Store → Tr R) (s8 : AV → AV → AV → AV → AV → AV → AV → AV → AV → Store → Tr R) : ∀ fr σ, KOK X0 436 (subC [true, false, true, true, true, true, false, true, false, false, true, false, false, true, true, true, false, true, false, false, true, true, false, false, true, false, false, true, false, false, true, false, false, true, true, true, true, true, true, true, true, true, true, true, true] b77) fr σ ((fun fr σ => c77_11 run fu s2 s7 s8 (fr.getD 2 .any) (fr.getD 4 .any) (fr.getD 7 .any) (fr.getD 8 .any) (fr.getD 9 .any) (fr.getD 10 .any) (fr.getD 13 .any) (fr.getD 15 .any) (fr.getD 18 .any) (fr.getD 19 .any) (fr.getD 20 .any) σ) fr σ) (blockK 5 (thenK (fun fr σ => c77_9 run fu s2 s7 s8 (fr.getD 2 .any) (fr.getD 4 .any) (fr.getD 7 .any) (fr.getD 8 .any) (fr.getD 9 .any) (fr.getD 10 .any) (fr.getD 13 .any) (fr.getD 15 .any) (fr.getD 16 .any) σ) (thenK (fun fr σ => s8 (fr.getD 2 .any) (fr.getD 4 .any) (fr.getD 7 .any) (fr.getD 8 .any) (fr.getD 9 .any) (fr.getD 10 .any) (fr.getD 13 .any) (fr.getD 15 .any) (fr.getD 16 .any) σ) (blockK 4 (thenK (fun fr σ => codeK X0 run .leaf (subC [true, false, true, true, true, true, false, true, false, false, true, false, false, true, true, true, false, true, false, false, true, true, false, false, true, false, true] b77) fr σ (blockK 3 (thenK (fun fr σ => s7 (fr.getD 2 .any) (fr.getD 4 .any) (fr.getD 7 .any) (fr.getD 8 .any) (fr.getD 9 .any) (fr.getD 10 .any) (fr.getD 13 .any) (fr.getD 15 .any) σ) (blockK 2 (noGotoK (thenK (fun fr σ => c77_4 run fu s2 (fr.getD 2 .any) (fr.getD 4 .any) (fr.getD 7 .any) (fr.getD 8 .any) (fr.getD 9 .any) (fr.getD 10 .any) (fr.getD 13 .any) σ) (blockK 1 (thenK (fun fr σ => c77_3 run fu s2 (fr.getD 2 .any) (fr.getD 4 .any) (fr.getD 7 .any) (fr.getD 8 .any) (fr.getD 9 .any) (fr.getD 10 .any) σ) (thenK (fun fr σ => s2 (fr.getD 2 .any) (fr.getD 4 .any) (fr.getD 7 .any) (fr.getD 8 .any) (fr.getD 9 .any) (fr.getD 10 .any) σ) (blockK 0 (thenK (fun fr σ => c77_1 run fu (fr.getD 4 .any) σ) (noGotoK k77)))))))))))) (blockK 3 (thenK (fun fr σ => s7 (fr.getD 2 .any) (fr.getD 4 .any) (fr.getD 7 .any) (fr.getD 8 .any) (fr.getD 9 .any) (fr.getD 10 .any) (fr.getD 13 .any) (fr.getD 15 .any) σ) (blockK 2 (noGotoK (thenK (fun fr σ => c77_4 run fu s2 (fr.getD 2 .any) (fr.getD 4 .any) (fr.getD 7 .any) (fr.getD 8 .any) (fr.getD 9 .any) (fr.getD 10 .any) (fr.getD 13 .any) σ) (blockK 1 (thenK (fun fr σ => c77_3 run fu s2 (fr.getD 2 .any) (fr.getD 4 .any) (fr.getD 7 .any) (fr.getD 8 .any) (fr.getD 9 .any) (fr.getD 10 .any) σ) (thenK (fun fr σ => s2 (fr.getD 2 .any) (fr.getD 4 .any) (fr.getD 7 .any) (fr.getD 8 .any) (fr.getD 9 .any) (fr.getD 10 .any) σ) (blockK 0 (thenK (fun fr σ => c77_1 run fu (fr.getD 4 .any) σ) (noGotoK k77)))))))))))))))) := fun fr σ =>
  KOK.piece env0 hrun [2, 4, 7, 8, 9, 10, 13, 15, 18, 19, 20] (eq77_11 run fu s2 s7 s8 (fr.getD 2 .any) (fr.getD 4 .any) (fr.getD 7 .any) (fr.getD 8 .any) (fr.getD 9 .any) (fr.getD 10 .any) (fr.getD 13 .any) (fr.getD 15 .any) (fr.getD 18 .any) (fr.getD 19 .any) (fr.getD 20 .any) σ) ⟨trivial, ⟨⟨trivial, ⟨trivial, ⟨trivial, ⟨trivial, trivial⟩⟩⟩⟩, trivial⟩⟩

noncomputable def c77_10 (run : FuncId → List AV → Store → Tr R) (fu : Nat) (s2 : AV → AV → AV → AV → AV → AV → Store → Tr R) (s7 : AV → AV → AV → AV → AV → AV → AV → AV → Store → Tr R) (s8 : AV → AV → AV → AV → AV → AV → AV → AV → AV → Store → Tr R) (x2 x4 x7 x8 x9 x10 x13 x15 x17 x18 : AV) (σ : Store) : Tr R :=
  nchkK x13 fun x272 =>
  addrK x272 0 fun x273 =>
  addrK x273 0 fun x274 =>
  ld1K σ x274 fun x275 =>
  idxSK x275 (.int .i64 0) fun x276 =>
  cmpK .eql x276 (.int .u8 126) fun x277 =>
  nchkK x13 fun x279 =>
  addrK x279 0 fun x280 =>
  addrK x280 0 fun x281 =>
  ld1K σ x281 fun x282 =>
  sliceSK x282 none (some x18) fun x284 =>
  ld1K σ x4 fun x285 =>
  nchkK x17 fun x287 =>
  addrK x287 3 fun x288 =>
  ld1K σ x288 fun x289 =>
  addK x289 (.int .i64 1) fun x290 =>
  sliceLK Tryz.prog σ 84 x285 (some x290) none fun x291 =>
  appK 126 1 16 σ .nils x291 fun x292 σ1 =>
  bldK [(.str []), .nils] [(0, 1, x284), (1, 1, x292)] fun x293 =>
  boxK σ1 423 x293 fun x294 σ2 =>
  ld1K σ1 x281 fun v3 =>
  must (AV.beq v3 x282) (
  sliceSK x282 none (some x18) fun v4 =>
  must (AV.beq v4 x284) (
  nchkK x17 fun x297 =>
  addrK x297 0 fun x298 =>
  addrK x298 0 fun x299 =>
  ld1K σ2 x299 fun x300 =>
  nchkK x17 fun x302 =>
  addrK x302 0 fun x303 =>
  addrK x303 0 fun x304 =>
  ld1K σ2 x304 fun x305 =>
  lenSK x305 fun x306 =>
  subK x306 x18 fun x308 =>
  sliceSK x300 none (some x308) fun x309 =>
  nchkK x17 fun x310 =>
  addrK x310 0 fun x311 =>
  addrK x311 0 fun x312 =>
  st1K σ2 x312 x309 fun _ σ5 =>
  nchkK x13 fun x315 =>
  addrK x315 0 fun x316 =>
  addrK x316 0 fun x317 =>
  ld1K σ5 x317 fun x318 =>
  sliceSK x318 (some x18) none fun x320 =>
  nchkK x13 fun x321 =>
  addrK x321 0 fun x322 =>
  addrK x322 0 fun x323 =>
  st1K σ5 x323 x320 fun _ σ6 =>
  nchkK x17 fun x325 =>
  addrK x325 0 fun x326 =>
  addrK x326 0 fun x327 =>
  ld1K σ6 x327 fun x328 =>
  eqSK x328 (.str []) fun x329 =>
  ifK x329 (
  ld1K σ6 x4 fun x330 =>
  nchkK x17 fun x332 =>
  addrK x332 3 fun x333 =>
  ld1K σ6 x333 fun x334 =>
  sliceLK Tryz.prog σ6 84 x330 none (some x334) fun x335 =>
  st1K σ6 x4 x335 fun _ σ7 =>
  c77_11 run fu s2 s7 s8 x2 x4 x7 x8 x9 x10 x13 x15 x18 x277 x294 σ7) (
  ld1K σ6 x4 fun x336 =>
  nchkK x17 fun x338 =>
  addrK x338 3 fun x339 =>
  ld1K σ6 x339 fun x340 =>
  addK x340 (.int .i64 1) fun x341 =>
  sliceLK Tryz.prog σ6 84 x336 none (some x341) fun x342 =>
  st1K σ6 x4 x342 fun _ σ8 =>
  c77_11 run fu s2 s7 s8 x2 x4 x7 x8 x9 x10 x13 x15 x18 x277 x294 σ8)))

theorem eq77_10 (run : FuncId → List AV → Store → Tr R) (fu : Nat) (s2 : AV → AV → AV → AV → AV → AV → Store → Tr R) (s7 : AV → AV → AV → AV → AV → AV → AV → AV → Store → Tr R) (s8 : AV → AV → AV → AV → AV → AV → AV → AV → AV → Store → Tr R) (x2 x4 x7 x8 x9 x10 x13 x15 x17 x18 : AV) (σ : Store) : codeK X0 run (.seq .leaf (.seq .leaf (.seq .leaf (.seq .leaf (.seq (.seq .leaf (.cond .leaf .leaf)) (.sub (fun fr σ => c77_11 run fu s2 s7 s8 (fr.getD 2 .any) (fr.getD 4 .any) (fr.getD 7 .any) (fr.getD 8 .any) (fr.getD 9 .any) (fr.getD 10 .any) (fr.getD 13 .any) (fr.getD 15 .any) (fr.getD 18 .any) (fr.getD 19 .any) (fr.getD 20 .any) σ))))))) (subC [true, false, true, true, true, true, false, true, false, false, true, false, false, true, true, true, false, true, false, false, true, true, false, false, true, false, false, true, false, false, true, false, false, true, true, true, true, true, true, true] b77) (frS 0 436 [(2, x2), (4, x4), (7, x7), (8, x8), (9, x9), (10, x10), (13, x13), (15, x15), (17, x17), (18, x18)]) σ (blockK 5 (thenK (fun fr σ => c77_9 run fu s2 s7 s8 (fr.getD 2 .any) (fr.getD 4 .any) (fr.getD 7 .any) (fr.getD 8 .any) (fr.getD 9 .any) (fr.getD 10 .any) (fr.getD 13 .any) (fr.getD 15 .any) (fr.getD 16 .any) σ) (thenK (fun fr σ => s8 (fr.getD 2 .any) (fr.getD 4 .any) (fr.getD 7 .any) (fr.getD 8 .any) (fr.getD 9 .any) (fr.getD 10 .any) (fr.getD 13 .any) (fr.getD 15 .any) (fr.getD 16 .any) σ) (blockK 4 (thenK (fun fr σ => codeK X0 run .leaf (subC [true, false, true, true, true, true, false, true, false, false, true, false, false, true, true, true, false, true, false, false, true, true, false, false, true, false, true] b77) fr σ (blockK 3 (thenK (fun fr σ => s7 (fr.getD 2 .any) (fr.getD 4 .any) (fr.getD 7 .any) (fr.getD 8 .any) (fr.getD 9 .any) (fr.getD 10 .any) (fr.getD 13 .any) (fr.getD 15 .any) σ) (blockK 2 (noGotoK (thenK (fun fr σ => c77_4 run fu s2 (fr.getD 2 .any) (fr.getD 4 .any) (fr.getD 7 .any) (fr.getD 8 .any) (fr.getD 9 .any) (fr.getD 10 .any) (fr.getD 13 .any) σ) (blockK 1 (thenK (fun fr σ => c77_3 run fu s2 (fr.getD 2 .any) (fr.getD 4 .any) (fr.getD 7 .any) (fr.getD 8 .any) (fr.getD 9 .any) (fr.getD 10 .any) σ) (thenK (fun fr σ => s2 (fr.getD 2 .any) (fr.getD 4 .any) (fr.getD 7 .any) (fr.getD 8 .any) (fr.getD 9 .any) (fr.getD 10 .any) σ) (blockK 0 (thenK (fun fr σ => c77_1 run fu (fr.getD 4 .any) σ) (noGotoK k77)))))))))))) (blockK 3 (thenK (fun fr σ => s7 (fr.getD 2 .any) (fr.getD 4 .any) (fr.getD 7 .any) (fr.getD 8 .any) (fr.getD 9 .any) (fr.getD 10 .any) (fr.getD 13 .any) (fr.getD 15 .any) σ) (blockK 2 (noGotoK (thenK (fun fr σ => c77_4 run fu s2 (fr.getD 2 .any) (fr.getD 4 .any) (fr.getD 7 .any) (fr.getD 8 .any) (fr.getD 9 .any) (fr.getD 10 .any) (fr.getD 13 .any) σ) (blockK 1 (thenK (fun fr σ => c77_3 run fu s2 (fr.getD 2 .any) (fr.getD 4 .any) (fr.getD 7 .any) (fr.getD 8 .any) (fr.getD 9 .any) (fr.getD 10 .any) σ) (thenK (fun fr σ => s2 (fr.getD 2 .any) (fr.getD 4 .any) (fr.getD 7 .any) (fr.getD 8 .any) (fr.getD 9 .any) (fr.getD 10 .any) σ) (blockK 0 (thenK (fun fr σ => c77_1 run fu (fr.getD 4 .any) σ) (noGotoK k77)))))))))))))))) = c77_10 run fu s2 s7 s8 x2 x4 x7 x8 x9 x10 x13 x15 x17 x18 σ := by kernel_rfl

theorem ok77_10 {run : FuncId → List AV → Store → Tr R} (hrun : RunOK X0 run) (fu : Nat) (s2 : AV → AV → AV → AV → AV → AV → Store → Tr R) (s7 : AV → AV → AV → AV → AV → AV → AV → AV → Store → Tr R) (s8 : AV → AV → AV → AV → AV → AV → AV → AV → AV → Store → Tr R) : ∀ fr σ, KOK X0 436 (subC [true, false, true, true, true, true, false, true, false, false, true, false, false, true, true, true, false, true, false, false, true, true, false, false, true, false, false, true, false, false, true, false, false, true, true, true, true, true, true, true] b77) fr σ ((fun fr σ => c77_10 run fu s2 s7 s8 (fr.getD 2 .any) (fr.getD 4 .any) (fr.getD 7 .any) (fr.getD 8 .any) (fr.getD 9 .any) (fr.getD 10 .any) (fr.getD 13 .any) (fr.getD 15 .any) (fr.getD 17 .any) (fr.getD 18 .any) σ) fr σ) (blockK 5 (thenK (fun fr σ => c77_9 run fu s2 s7 s8 (fr.getD 2 .any) (fr.getD 4 .any) (fr.getD 7 .any) (fr.getD 8 .any) (fr.getD 9 .any) (fr.getD 10 .any) (fr.getD 13 .any) (fr.getD 15 .any) (fr.getD 16 .any) σ) (thenK (fun fr σ => s8 (fr.getD 2 .any) (fr.getD 4 .any) (fr.getD 7 .any) (fr.getD 8 .any) (fr.getD 9 .any) (fr.getD 10 .any) (fr.getD 13 .any) (fr.getD 15 .any) (fr.getD 16 .any) σ) (blockK 4 (thenK (fun fr σ => codeK X0 run .leaf (subC [true, false, true, true, true, true, false, true, false, false, true, false, false, true, true, true, false, true, false, false, true, true, false, false, true, false, true] b77) fr σ (blockK 3 (thenK (fun fr σ => s7 (fr.getD 2 .any) (fr.getD 4 .any) (fr.getD 7 .any) (fr.getD 8 .any) (fr.getD 9 .any) (fr.getD 10 .any) (fr.getD 13 .any) (fr.getD 15 .any) σ) (blockK 2 (noGotoK (thenK (fun fr σ => c77_4 run fu s2 (fr.getD 2 .any) (fr.getD 4 .any) (fr.getD 7 .any) (fr.getD 8 .any) (fr.getD 9 .any) (fr.getD 10 .any) (fr.getD 13 .any) σ) (blockK 1 (thenK (fun fr σ => c77_3 run fu s2 (fr.getD 2 .any) (fr.getD 4 .any) (fr.getD 7 .any) (fr.getD 8 .any) (fr.getD 9 .any) (fr.getD 10 .any) σ) (thenK (fun fr σ => s2 (fr.getD 2 .any) (fr.getD 4 .any) (fr.getD 7 .any) (fr.getD 8 .any) (fr.getD 9 .any) (fr.getD 10 .any) σ) (blockK 0 (thenK (fun fr σ => c77_1 run fu (fr.getD 4 .any) σ) (noGotoK k77)))))))))))) (blockK 3 (thenK (fun fr σ => s7 (fr.getD 2 .any) (fr.getD 4 .any) (fr.getD 7 .any) (fr.getD 8 .any) (fr.getD 9 .any) (fr.getD 10 .any) (fr.getD 13 .any) (fr.getD 15 .any) σ) (blockK 2 (noGotoK (thenK (fun fr σ => c77_4 run fu s2 (fr.getD 2 .any) (fr.getD 4 .any) (fr.getD 7 .any) (fr.getD 8 .any) (fr.getD 9 .any) (fr.getD 10 .any) (fr.getD 13 .any) σ) (blockK 1 (thenK (fun fr σ => c77_3 run fu s2 (fr.getD 2 .any) (fr.getD 4 .any) (fr.getD 7 .any) (fr.getD 8 .any) (fr.getD 9 .any) (fr.getD 10 .any) σ) (thenK (fun fr σ => s2 (fr.getD 2 .any) (fr.getD 4 .any) (fr.getD 7 .any) (fr.getD 8 .any) (fr.getD 9 .any) (fr.getD 10 .any) σ) (blockK 0 (thenK (fun fr σ => c77_1 run fu (fr.getD 4 .any) σ) (noGotoK k77)))))))))))))))) := fun fr σ =>
  KOK.piece env0 hrun [2, 4, 7, 8, 9, 10, 13, 15, 17, 18] (eq77_10 run fu s2 s7 s8 (fr.getD 2 .any) (fr.getD 4 .any) (fr.getD 7 .any) (fr.getD 8 .any) (fr.getD 9 .any) (fr.getD 10 .any) (fr.getD 13 .any) (fr.getD 15 .any) (fr.getD 17 .any) (fr.getD 18 .any) σ) ⟨trivial, ⟨trivial, ⟨trivial, ⟨trivial, ⟨⟨trivial, ⟨trivial, trivial⟩⟩, (ok77_11 hrun fu s2 s7 s8)⟩⟩⟩⟩⟩

noncomputable def c77_8b (run : FuncId → List AV → Store → Tr R) (fu : Nat) (s2 : AV → AV → AV → AV → AV → AV → Store → Tr R) (s7 : AV → AV → AV → AV → AV → AV → AV → AV → Store → Tr R) (s8 : AV → AV → AV → AV → AV → AV → AV → AV → AV → Store → Tr R) (x2 x4 x7 x8 x9 x10 x13 x15 x16 : AV) (σ : Store) : Tr R :=
  cmpK .geq x16 (.int .i64 0) fun x87 =>
  ifK x87 (
  nchkK x15 fun x91 =>
  ld1K σ x91 fun x92 =>
  idxK 1 x92 x16 fun x94 =>
  ld1K σ x94 fun x95 =>
  nchkK x13 fun x97 =>
  addrK x97 0 fun x98 =>
  addrK x98 0 fun x99 =>
  ld1K σ x99 fun x100 =>
  idxSK x100 (.int .i64 0) fun x101 =>
  cmpK .eql x101 (.int .u8 42) fun x102 =>
  grdK x102 false σ (fun f => f x13 σ) fun x104 σ1 =>
  grdK x102 false σ1 (fun f => nchkK x104 fun v => f v σ1) fun x105 σ2 =>
  grdK x102 false σ2 (fun f => addrK x105 0 fun v => f v σ2) fun x106 σ3 =>
  grdK x102 false σ3 (fun f => addrK x106 0 fun v => f v σ3) fun x107 σ4 =>
  grdK x102 false σ4 (fun f => ld1K σ4 x107 fun v => f v σ4) fun x108 σ5 =>
  grdK x102 false σ5 (fun f => idxSK x108 (.int .i64 0) fun v => f v σ5) fun x109 σ6 =>
  grdK x102 false σ6 (fun f => cmpK .eql x109 (.int .u8 95) fun v => f v σ6) fun x110 σ7 =>
  pickK x102 (.bool true) x110 fun x111 =>
  grdK x111 true σ7 (fun f => f x13 σ7) fun x113 σ8 =>
  grdK x111 true σ8 (fun f => nchkK x113 fun v => f v σ8) fun x114 σ9 =>
  grdK x111 true σ9 (fun f => addrK x114 1 fun v => f v σ9) fun x115 σ10 =>
  grdK x111 true σ10 (fun f => ld1K σ10 x115 fun v => f v σ10) fun x116 σ11 =>
  grdK x111 true σ11 (fun f => f x116 σ11) fun x117 σ12 =>
  grdK x117 true σ12 (fun f => f x13 σ12) fun x118 σ13 =>
  grdK x117 true σ13 (fun f => nchkK x118 fun v => f v σ13) fun x119 σ14 =>
  grdK x117 true σ14 (fun f => addrK x119 2 fun v => f v σ14) fun x120 σ15 =>
  grdK x117 true σ15 (fun f => ld1K σ15 x120 fun v => f v σ15) fun x121 σ16 =>
  grdK x111 true σ16 (fun f => pickK x117 x121 (.bool false) fun v => f v σ16) fun x122 σ17 =>
  grdK x111 true σ17 (fun f => f x122 σ17) fun x123 σ18 =>
  grdK x123 false σ18 (fun f => f x95 σ18) fun x124 σ19 =>
  grdK x123 false σ19 (fun f => nchkK x124 fun v => f v σ19) fun x125 σ20 =>
  grdK x123 false σ20 (fun f => addrK x125 1 fun v => f v σ20) fun x126 σ21 =>
  grdK x123 false σ21 (fun f => ld1K σ21 x126 fun v => f v σ21) fun x127 σ22 =>
  grdK x123 false σ22 (fun f => f x127 σ22) fun x128 σ23 =>
  grdK x128 true σ23 (fun f => f x95 σ23) fun x129 σ24 =>
  grdK x128 true σ24 (fun f => nchkK x129 fun v => f v σ24) fun x130 σ25 =>
  grdK x128 true σ25 (fun f => addrK x130 2 fun v => f v σ25) fun x131 σ26 =>
  grdK x128 true σ26 (fun f => ld1K σ26 x131 fun v => f v σ26) fun x132 σ27 =>
  grdK x123 false σ27 (fun f => pickK x128 x132 (.bool false) fun v => f v σ27) fun x133 σ28 =>
  grdK x111 true σ28 (fun f => pickK x123 (.bool true) x133 fun v => f v σ28) fun x134 σ29 =>
  pickK x111 x134 (.bool false) fun x135 =>
  grdK x135 true σ29 (fun f => f x13 σ29) fun x137 σ30 =>
  grdK x135 true σ30 (fun f => nchkK x137 fun v => f v σ30) fun x138 σ31 =>
  grdK x135 true σ31 (fun f => addrK x138 4 fun v => f v σ31) fun x139 σ32 =>
  grdK x135 true σ32 (fun f => ld1K σ32 x139 fun v => f v σ32) fun x140 σ33 =>
  grdK x135 true σ33 (fun f => f x95 σ33) fun x141 σ34 =>
  grdK x135 true σ34 (fun f => nchkK x141 fun v => f v σ34) fun x142 σ35 =>
  grdK x135 true σ35 (fun f => addrK x142 4 fun v => f v σ35) fun x143 σ36 =>
  grdK x135 true σ36 (fun f => ld1K σ36 x143 fun v => f v σ36) fun x144 σ37 =>
  grdK x135 true σ37 (fun f => addK x140 x144 fun v => f v σ37) fun x145 σ38 =>
  grdK x135 true σ38 (fun f => remK x145 (.int .i64 3) fun v => f v σ38) fun x146 σ39 =>
  grdK x135 true σ39 (fun f => cmpK .eql x146 (.int .i64 0) fun v => f v σ39) fun x147 σ40 =>
  pickK x135 x147 (.bool false) fun x148 =>
  grdK x148 true σ40 (fun f => f x13 σ40) fun x150 σ41 =>
  grdK x148 true σ41 (fun f => nchkK x150 fun v => f v σ41) fun x151 σ42 =>
  grdK x148 true σ42 (fun f => addrK x151 4 fun v => f v σ42) fun x152 σ43 =>
  grdK x148 true σ43 (fun f => ld1K σ43 x152 fun v => f v σ43) fun x153 σ44 =>
  grdK x148 true σ44 (fun f => remK x153 (.int .i64 3) fun v => f v σ44) fun x154 σ45 =>
  grdK x148 true σ45 (fun f => cmpK .neq x154 (.int .i64 0) fun v => f v σ45) fun x155 σ46 =>
  grdK x148 true σ46 (fun f => f x155 σ46) fun x156 σ47 =>
  grdK x156 false σ47 (fun f => f x95 σ47) fun x157 σ48 =>
  grdK x156 false σ48 (fun f => nchkK x157 fun v => f v σ48) fun x158 σ49 =>
  grdK x156 false σ49 (fun f => addrK x158 4 fun v => f v σ49) fun x159 σ50 =>
  grdK x156 false σ50 (fun f => ld1K σ50 x159 fun v => f v σ50) fun x160 σ51 =>
  grdK x156 false σ51 (fun f => remK x160 (.int .i64 3) fun v => f v σ51) fun x161 σ52 =>
  grdK x156 false σ52 (fun f => cmpK .neq x161 (.int .i64 0) fun v => f v σ52) fun x162 σ53 =>
  grdK x148 true σ53 (fun f => pickK x156 (.bool true) x162 fun v => f v σ53) fun x163 σ54 =>
  pickK x148 x163 (.bool false) fun x164 =>
  ifK x164 (
  c77_9 run fu s2 s7 s8 x2 x4 x7 x8 x9 x10 x13 x15 x16 σ54) (
  nchkK x13 fun x166 =>
  addrK x166 0 fun x167 =>
  addrK x167 0 fun x168 =>
  ld1K σ54 x168 fun x169 =>
  idxSK x169 (.int .i64 0) fun x170 =>
  cmpK .eql x170 (.int .u8 126) fun x171 =>
  grdK x171 true σ54 (fun f => f x13 σ54) fun x173 σ55 =>
  grdK x171 true σ55 (fun f => nchkK x173 fun v => f v σ55) fun x174 σ56 =>
  grdK x171 true σ56 (fun f => addrK x174 0 fun v => f v σ56) fun x175 σ57 =>
  grdK x171 true σ57 (fun f => addrK x175 0 fun v => f v σ57) fun x176 σ58 =>
  grdK x171 true σ58 (fun f => ld1K σ58 x176 fun v => f v σ58) fun x177 σ59 =>
  grdK x171 true σ59 (fun f => lenSK x177 fun v => f v σ59) fun x178 σ60 =>
  grdK x171 true σ60 (fun f => f x95 σ60) fun x179 σ61 =>
  grdK x171 true σ61 (fun f => nchkK x179 fun v => f v σ61) fun x180 σ62 =>
  grdK x171 true σ62 (fun f => addrK x180 0 fun v => f v σ62) fun x181 σ63 =>
  grdK x171 true σ63 (fun f => addrK x181 0 fun v => f v σ63) fun x182 σ64 =>
  grdK x171 true σ64 (fun f => ld1K σ64 x182 fun v => f v σ64) fun x183 σ65 =>
  grdK x171 true σ65 (fun f => lenSK x183 fun v => f v σ65) fun x184 σ66 =>
  grdK x171 true σ66 (fun f => cmpK .neq x178 x184 fun v => f v σ66) fun x185 σ67 =>
  pickK x171 x185 (.bool false) fun x186 =>
  ifK x186 (
  c77_9 run fu s2 s7 s8 x2 x4 x7 x8 x9 x10 x13 x15 x16 σ67) (
  nchkK x13 fun x188 =>
  addrK x188 0 fun x189 =>
  addrK x189 0 fun x190 =>
  ld1K σ67 x190 fun x191 =>
  idxSK x191 (.int .i64 0) fun x192 =>
  cmpK .eql x192 (.int .u8 34) fun x193 =>
  ifK x193 (
  ld1K σ67 x4 fun x194 =>
  nchkK x95 fun x196 =>
  addrK x196 3 fun x197 =>
  ld1K σ67 x197 fun x198 =>
  idxK 1 x194 x198 fun x199 =>
  ld1K σ67 x199 fun x200 =>
  tasK (some .nilp) 185 false x200 fun x201 =>
  nchkK x201 fun x202 =>
  addrK x202 0 fun x203 =>
  addrK x203 0 fun x204 =>
  st1K σ67 x204 (.str [226, 128, 156]) fun _ σ68 =>
  nchkK x13 fun x206 =>
  addrK x206 0 fun x207 =>
  addrK x207 0 fun x208 =>
  st1K σ68 x208 (.str [226, 128, 157]) fun _ σ69 =>
  ld1K σ69 x4 fun x209 =>
  opt (fillK [.nili] [(0, 1, (.iface 185 x13))]) fun cs => newSK σ69 253 cs 1 1 fun x212 σ70 =>
  appK 126 1 16 σ70 x209 x212 fun x213 σ71 =>
  st1K σ71 x4 x213 fun _ σ72 =>
  nchkK x15 fun x216 =>
  ld1K σ72 x216 fun x217 =>
  sliceLK Tryz.prog σ72 204 x217 none (some x16) fun x219 =>
  nchkK x15 fun x220 =>
  st1K σ72 x220 x219 fun _ σ73 =>
  c77_3 run fu s2 x2 x4 x7 x8 x9 x10 σ73) (
  nchkK x13 fun x222 =>
  addrK x222 0 fun x223 =>
  addrK x223 0 fun x224 =>
  ld1K σ67 x224 fun x225 =>
  idxSK x225 (.int .i64 0) fun x226 =>
  cmpK .eql x226 (.int .u8 39) fun x227 =>
  ifK x227 (
  ld1K σ67 x4 fun x228 =>
  nchkK x95 fun x230 =>
  addrK x230 3 fun x231 =>
  ld1K σ67 x231 fun x232 =>
  idxK 1 x228 x232 fun x233 =>
  ld1K σ67 x233 fun x234 =>
  tasK (some .nilp) 185 false x234 fun x235 =>
  nchkK x235 fun x236 =>
  addrK x236 0 fun x237 =>
  addrK x237 0 fun x238 =>
  st1K σ67 x238 (.str [226, 128, 152]) fun _ σ74 =>
  nchkK x13 fun x240 =>
  addrK x240 0 fun x241 =>
  addrK x241 0 fun x242 =>
  st1K σ74 x242 (.str [226, 128, 153]) fun _ σ75 =>
  ld1K σ75 x4 fun x243 =>
  opt (fillK [.nili] [(0, 1, (.iface 185 x13))]) fun cs => newSK σ75 253 cs 1 1 fun x246 σ76 =>
  appK 126 1 16 σ76 x243 x246 fun x247 σ77 =>
  st1K σ77 x4 x247 fun _ σ78 =>
  nchkK x15 fun x250 =>
  ld1K σ78 x250 fun x251 =>
  sliceLK Tryz.prog σ78 204 x251 none (some x16) fun x253 =>
  nchkK x15 fun x254 =>
  st1K σ78 x254 x253 fun _ σ79 =>
  c77_3 run fu s2 x2 x4 x7 x8 x9 x10 σ79) (
  nchkK x13 fun x256 =>
  addrK x256 0 fun x257 =>
  addrK x257 0 fun x258 =>
  ld1K σ67 x258 fun x259 =>
  lenSK x259 fun x260 =>
  cmpK .geq x260 (.int .i64 2) fun x261 =>
  grdK x261 true σ67 (fun f => f x95 σ67) fun x263 σ80 =>
  grdK x261 true σ80 (fun f => nchkK x263 fun v => f v σ80) fun x264 σ81 =>
  grdK x261 true σ81 (fun f => addrK x264 0 fun v => f v σ81) fun x265 σ82 =>
  grdK x261 true σ82 (fun f => addrK x265 0 fun v => f v σ82) fun x266 σ83 =>
  grdK x261 true σ83 (fun f => ld1K σ83 x266 fun v => f v σ83) fun x267 σ84 =>
  grdK x261 true σ84 (fun f => lenSK x267 fun v => f v σ84) fun x268 σ85 =>
  grdK x261 true σ85 (fun f => cmpK .geq x268 (.int .i64 2) fun v => f v σ85) fun x269 σ86 =>
  pickK x261 x269 (.bool false) fun x270 =>
  ifK x270 (
  c77_10 run fu s2 s7 s8 x2 x4 x7 x8 x9 x10 x13 x15 x95 (.int .i64 2) σ86) (
  c77_10 run fu s2 s7 s8 x2 x4 x7 x8 x9 x10 x13 x15 x95 (.int .i64 1) σ86)))))) (
  c77_4 run fu s2 x2 x4 x7 x8 x9 x10 x13 σ)

noncomputable def c77_8 (run : FuncId → List AV → Store → Tr R) (fu : Nat) (s2 : AV → AV → AV → AV → AV → AV → Store → Tr R) (s7 : AV → AV → AV → AV → AV → AV → AV → AV → Store → Tr R) : Nat → AV → AV → AV → AV → AV → AV → AV → AV → AV → Store → Tr R
  | 0 => fun _ _ _ _ _ _ _ _ _ _ => .fail
  | m + 1 => c77_8b run fu s2 s7 (c77_8 run fu s2 s7 m)

theorem eq77_8 (run : FuncId → List AV → Store → Tr R) (fu : Nat) (s2 : AV → AV → AV → AV → AV → AV → Store → Tr R) (s7 : AV → AV → AV → AV → AV → AV → AV → AV → Store → Tr R) (s8 : AV → AV → AV → AV → AV → AV → AV → AV → AV → Store → Tr R) (x2 x4 x7 x8 x9 x10 x13 x15 x16 : AV) (σ : Store) : codeK X0 run (.seq (.seq .leaf (.cond .leaf .leaf)) (.seq (.block (.seq .leaf (.seq (.seq .leaf (.cond .leaf .leaf)) (.seq (.seq .leaf (.cond .leaf .leaf)) (.seq (.seq .leaf (.cond (.seq .leaf (.seq .leaf (.seq .leaf (.seq .leaf .leaf)))) .leaf)) (.seq (.seq .leaf (.cond (.seq .leaf (.seq .leaf (.seq .leaf (.seq .leaf .leaf)))) .leaf)) (.seq .leaf (.seq (.seq .leaf (.cond .leaf .leaf)) (.sub (fun fr σ => c77_10 run fu s2 s7 s8 (fr.getD 2 .any) (fr.getD 4 .any) (fr.getD 7 .any) (fr.getD 8 .any) (fr.getD 9 .any) (fr.getD 10 .any) (fr.getD 13 .any) (fr.getD 15 .any) (fr.getD 17 .any) (fr.getD 18 .any) σ)))))))))) (.sub (fun fr σ => c77_9 run fu s2 s7 s8 (fr.getD 2 .any) (fr.getD 4 .any) (fr.getD 7 .any) (fr.getD 8 .any) (fr.getD 9 .any) (fr.getD 10 .any) (fr.getD 13 .any) (fr.getD 15 .any) (fr.getD 16 .any) σ)))) (subC [true, false, true, true, true, true, false, true, false, false, true, false, false, true, true, true, false, true, false, false, true, true, false, false, true, false, false, true, false, false] b77) (frS 0 436 [(2, x2), (4, x4), (7, x7), (8, x8), (9, x9), (10, x10), (13, x13), (15, x15), (16, x16)]) σ (thenK (fun fr σ => s8 (fr.getD 2 .any) (fr.getD 4 .any) (fr.getD 7 .any) (fr.getD 8 .any) (fr.getD 9 .any) (fr.getD 10 .any) (fr.getD 13 .any) (fr.getD 15 .any) (fr.getD 16 .any) σ) (blockK 4 (thenK (fun fr σ => codeK X0 run .leaf (subC [true, false, true, true, true, true, false, true, false, false, true, false, false, true, true, true, false, true, false, false, true, true, false, false, true, false, true] b77) fr σ (blockK 3 (thenK (fun fr σ => s7 (fr.getD 2 .any) (fr.getD 4 .any) (fr.getD 7 .any) (fr.getD 8 .any) (fr.getD 9 .any) (fr.getD 10 .any) (fr.getD 13 .any) (fr.getD 15 .any) σ) (blockK 2 (noGotoK (thenK (fun fr σ => c77_4 run fu s2 (fr.getD 2 .any) (fr.getD 4 .any) (fr.getD 7 .any) (fr.getD 8 .any) (fr.getD 9 .any) (fr.getD 10 .any) (fr.getD 13 .any) σ) (blockK 1 (thenK (fun fr σ => c77_3 run fu s2 (fr.getD 2 .any) (fr.getD 4 .any) (fr.getD 7 .any) (fr.getD 8 .any) (fr.getD 9 .any) (fr.getD 10 .any) σ) (thenK (fun fr σ => s2 (fr.getD 2 .any) (fr.getD 4 .any) (fr.getD 7 .any) (fr.getD 8 .any) (fr.getD 9 .any) (fr.getD 10 .any) σ) (blockK 0 (thenK (fun fr σ => c77_1 run fu (fr.getD 4 .any) σ) (noGotoK k77)))))))))))) (blockK 3 (thenK (fun fr σ => s7 (fr.getD 2 .any) (fr.getD 4 .any) (fr.getD 7 .any) (fr.getD 8 .any) (fr.getD 9 .any) (fr.getD 10 .any) (fr.getD 13 .any) (fr.getD 15 .any) σ) (blockK 2 (noGotoK (thenK (fun fr σ => c77_4 run fu s2 (fr.getD 2 .any) (fr.getD 4 .any) (fr.getD 7 .any) (fr.getD 8 .any) (fr.getD 9 .any) (fr.getD 10 .any) (fr.getD 13 .any) σ) (blockK 1 (thenK (fun fr σ => c77_3 run fu s2 (fr.getD 2 .any) (fr.getD 4 .any) (fr.getD 7 .any) (fr.getD 8 .any) (fr.getD 9 .any) (fr.getD 10 .any) σ) (thenK (fun fr σ => s2 (fr.getD 2 .any) (fr.getD 4 .any) (fr.getD 7 .any) (fr.getD 8 .any) (fr.getD 9 .any) (fr.getD 10 .any) σ) (blockK 0 (thenK (fun fr σ => c77_1 run fu (fr.getD 4 .any) σ) (noGotoK k77)))))))))))))) = c77_8b run fu s2 s7 s8 x2 x4 x7 x8 x9 x10 x13 x15 x16 σ := by kernel_rfl

theorem owed77_8 {run : FuncId → List AV → Store → Tr R} (hrun : RunOK X0 run) (fu : Nat) (s2 : AV → AV → AV → AV → AV → AV → Store → Tr R) (s7 : AV → AV → AV → AV → AV → AV → AV → AV → Store → Tr R) (s8 : AV → AV → AV → AV → AV → AV → AV → AV → AV → Store → Tr R) : Owes X0 run 436 (.seq (.seq .leaf (.cond .leaf .leaf)) (.seq (.block (.seq .leaf (.seq (.seq .leaf (.cond .leaf .leaf)) (.seq (.seq .leaf (.cond .leaf .leaf)) (.seq (.seq .leaf (.cond (.seq .leaf (.seq .leaf (.seq .leaf (.seq .leaf .leaf)))) .leaf)) (.seq (.seq .leaf (.cond (.seq .leaf (.seq .leaf (.seq .leaf (.seq .leaf .leaf)))) .leaf)) (.seq .leaf (.seq (.seq .leaf (.cond .leaf .leaf)) (.sub (fun fr σ => c77_10 run fu s2 s7 s8 (fr.getD 2 .any) (fr.getD 4 .any) (fr.getD 7 .any) (fr.getD 8 .any) (fr.getD 9 .any) (fr.getD 10 .any) (fr.getD 13 .any) (fr.getD 15 .any) (fr.getD 17 .any) (fr.getD 18 .any) σ)))))))))) (.sub (fun fr σ => c77_9 run fu s2 s7 s8 (fr.getD 2 .any) (fr.getD 4 .any) (fr.getD 7 .any) (fr.getD 8 .any) (fr.getD 9 .any) (fr.getD 10 .any) (fr.getD 13 .any) (fr.getD 15 .any) (fr.getD 16 .any) σ)))) (subC [true, false, true, true, true, true, false, true, false, false, true, false, false, true, true, true, false, true, false, false, true, true, false, false, true, false, false, true, false, false] b77) (thenK (fun fr σ => s8 (fr.getD 2 .any) (fr.getD 4 .any) (fr.getD 7 .any) (fr.getD 8 .any) (fr.getD 9 .any) (fr.getD 10 .any) (fr.getD 13 .any) (fr.getD 15 .any) (fr.getD 16 .any) σ) (blockK 4 (thenK (fun fr σ => codeK X0 run .leaf (subC [true, false, true, true, true, true, false, true, false, false, true, false, false, true, true, true, false, true, false, false, true, true, false, false, true, false, true] b77) fr σ (blockK 3 (thenK (fun fr σ => s7 (fr.getD 2 .any) (fr.getD 4 .any) (fr.getD 7 .any) (fr.getD 8 .any) (fr.getD 9 .any) (fr.getD 10 .any) (fr.getD 13 .any) (fr.getD 15 .any) σ) (blockK 2 (noGotoK (thenK (fun fr σ => c77_4 run fu s2 (fr.getD 2 .any) (fr.getD 4 .any) (fr.getD 7 .any) (fr.getD 8 .any) (fr.getD 9 .any) (fr.getD 10 .any) (fr.getD 13 .any) σ) (blockK 1 (thenK (fun fr σ => c77_3 run fu s2 (fr.getD 2 .any) (fr.getD 4 .any) (fr.getD 7 .any) (fr.getD 8 .any) (fr.getD 9 .any) (fr.getD 10 .any) σ) (thenK (fun fr σ => s2 (fr.getD 2 .any) (fr.getD 4 .any) (fr.getD 7 .any) (fr.getD 8 .any) (fr.getD 9 .any) (fr.getD 10 .any) σ) (blockK 0 (thenK (fun fr σ => c77_1 run fu (fr.getD 4 .any) σ) (noGotoK k77)))))))))))) (blockK 3 (thenK (fun fr σ => s7 (fr.getD 2 .any) (fr.getD 4 .any) (fr.getD 7 .any) (fr.getD 8 .any) (fr.getD 9 .any) (fr.getD 10 .any) (fr.getD 13 .any) (fr.getD 15 .any) σ) (blockK 2 (noGotoK (thenK (fun fr σ => c77_4 run fu s2 (fr.getD 2 .any) (fr.getD 4 .any) (fr.getD 7 .any) (fr.getD 8 .any) (fr.getD 9 .any) (fr.getD 10 .any) (fr.getD 13 .any) σ) (blockK 1 (thenK (fun fr σ => c77_3 run fu s2 (fr.getD 2 .any) (fr.getD 4 .any) (fr.getD 7 .any) (fr.getD 8 .any) (fr.getD 9 .any) (fr.getD 10 .any) σ) (thenK (fun fr σ => s2 (fr.getD 2 .any) (fr.getD 4 .any) (fr.getD 7 .any) (fr.getD 8 .any) (fr.getD 9 .any) (fr.getD 10 .any) σ) (blockK 0 (thenK (fun fr σ => c77_1 run fu (fr.getD 4 .any) σ) (noGotoK k77)))))))))))))) :=
  ⟨⟨trivial, ⟨trivial, trivial⟩⟩, ⟨⟨trivial, ⟨⟨trivial, ⟨trivial, trivial⟩⟩, ⟨⟨trivial, ⟨trivial, trivial⟩⟩, ⟨⟨trivial, ⟨⟨trivial, ⟨trivial, ⟨trivial, ⟨trivial, trivial⟩⟩⟩⟩, trivial⟩⟩, ⟨⟨trivial, ⟨⟨trivial, ⟨trivial, ⟨trivial, ⟨trivial, trivial⟩⟩⟩⟩, trivial⟩⟩, ⟨trivial, ⟨⟨trivial, ⟨trivial, trivial⟩⟩, (ok77_10 hrun fu s2 s7 s8)⟩⟩⟩⟩⟩⟩⟩, (ok77_9 hrun fu s2 s7 s8)⟩⟩

theorem ok77_8 {run : FuncId → List AV → Store → Tr R} (hrun : RunOK X0 run) (fu : Nat) (s2 : AV → AV → AV → AV → AV → AV → Store → Tr R) (s7 : AV → AV → AV → AV → AV → AV → AV → AV → Store → Tr R) : ∀ fr σ, KOK X0 436 (subC [true, false, true, true, true, true, false, true, false, false, true, false, false, true, true, true, false, true, false, false, true, true, false, false, true, false, false, true, false] b77) fr σ ((fun fr σ => c77_8 run fu s2 s7 fu (fr.getD 2 .any) (fr.getD 4 .any) (fr.getD 7 .any) (fr.getD 8 .any) (fr.getD 9 .any) (fr.getD 10 .any) (fr.getD 13 .any) (fr.getD 15 .any) (fr.getD 16 .any) σ) fr σ) (blockK 4 (thenK (fun fr σ => codeK X0 run .leaf (subC [true, false, true, true, true, true, false, true, false, false, true, false, false, true, true, true, false, true, false, false, true, true, false, false, true, false, true] b77) fr σ (blockK 3 (thenK (fun fr σ => s7 (fr.getD 2 .any) (fr.getD 4 .any) (fr.getD 7 .any) (fr.getD 8 .any) (fr.getD 9 .any) (fr.getD 10 .any) (fr.getD 13 .any) (fr.getD 15 .any) σ) (blockK 2 (noGotoK (thenK (fun fr σ => c77_4 run fu s2 (fr.getD 2 .any) (fr.getD 4 .any) (fr.getD 7 .any) (fr.getD 8 .any) (fr.getD 9 .any) (fr.getD 10 .any) (fr.getD 13 .any) σ) (blockK 1 (thenK (fun fr σ => c77_3 run fu s2 (fr.getD 2 .any) (fr.getD 4 .any) (fr.getD 7 .any) (fr.getD 8 .any) (fr.getD 9 .any) (fr.getD 10 .any) σ) (thenK (fun fr σ => s2 (fr.getD 2 .any) (fr.getD 4 .any) (fr.getD 7 .any) (fr.getD 8 .any) (fr.getD 9 .any) (fr.getD 10 .any) σ) (blockK 0 (thenK (fun fr σ => c77_1 run fu (fr.getD 4 .any) σ) (noGotoK k77)))))))))))) (blockK 3 (thenK (fun fr σ => s7 (fr.getD 2 .any) (fr.getD 4 .any) (fr.getD 7 .any) (fr.getD 8 .any) (fr.getD 9 .any) (fr.getD 10 .any) (fr.getD 13 .any) (fr.getD 15 .any) σ) (blockK 2 (noGotoK (thenK (fun fr σ => c77_4 run fu s2 (fr.getD 2 .any) (fr.getD 4 .any) (fr.getD 7 .any) (fr.getD 8 .any) (fr.getD 9 .any) (fr.getD 10 .any) (fr.getD 13 .any) σ) (blockK 1 (thenK (fun fr σ => c77_3 run fu s2 (fr.getD 2 .any) (fr.getD 4 .any) (fr.getD 7 .any) (fr.getD 8 .any) (fr.getD 9 .any) (fr.getD 10 .any) σ) (thenK (fun fr σ => s2 (fr.getD 2 .any) (fr.getD 4 .any) (fr.getD 7 .any) (fr.getD 8 .any) (fr.getD 9 .any) (fr.getD 10 .any) σ) (blockK 0 (thenK (fun fr σ => c77_1 run fu (fr.getD 4 .any) σ) (noGotoK k77))))))))))))) := by
  have h := KOK.loop (X := X0) (N := 436) (b := (subC [true, false, true, true, true, true, false, true, false, false, true, false, false, true, true, true, false, true, false, false, true, true, false, false, true, false, false, true, false, false] b77)) (k := (blockK 4 (thenK (fun fr σ => codeK X0 run .leaf (subC [true, false, true, true, true, true, false, true, false, false, true, false, false, true, true, true, false, true, false, false, true, true, false, false, true, false, true] b77) fr σ (blockK 3 (thenK (fun fr σ => s7 (fr.getD 2 .any) (fr.getD 4 .any) (fr.getD 7 .any) (fr.getD 8 .any) (fr.getD 9 .any) (fr.getD 10 .any) (fr.getD 13 .any) (fr.getD 15 .any) σ) (blockK 2 (noGotoK (thenK (fun fr σ => c77_4 run fu s2 (fr.getD 2 .any) (fr.getD 4 .any) (fr.getD 7 .any) (fr.getD 8 .any) (fr.getD 9 .any) (fr.getD 10 .any) (fr.getD 13 .any) σ) (blockK 1 (thenK (fun fr σ => c77_3 run fu s2 (fr.getD 2 .any) (fr.getD 4 .any) (fr.getD 7 .any) (fr.getD 8 .any) (fr.getD 9 .any) (fr.getD 10 .any) σ) (thenK (fun fr σ => s2 (fr.getD 2 .any) (fr.getD 4 .any) (fr.getD 7 .any) (fr.getD 8 .any) (fr.getD 9 .any) (fr.getD 10 .any) σ) (blockK 0 (thenK (fun fr σ => c77_1 run fu (fr.getD 4 .any) σ) (noGotoK k77)))))))))))) (blockK 3 (thenK (fun fr σ => s7 (fr.getD 2 .any) (fr.getD 4 .any) (fr.getD 7 .any) (fr.getD 8 .any) (fr.getD 9 .any) (fr.getD 10 .any) (fr.getD 13 .any) (fr.getD 15 .any) σ) (blockK 2 (noGotoK (thenK (fun fr σ => c77_4 run fu s2 (fr.getD 2 .any) (fr.getD 4 .any) (fr.getD 7 .any) (fr.getD 8 .any) (fr.getD 9 .any) (fr.getD 10 .any) (fr.getD 13 .any) σ) (blockK 1 (thenK (fun fr σ => c77_3 run fu s2 (fr.getD 2 .any) (fr.getD 4 .any) (fr.getD 7 .any) (fr.getD 8 .any) (fr.getD 9 .any) (fr.getD 10 .any) σ) (thenK (fun fr σ => s2 (fr.getD 2 .any) (fr.getD 4 .any) (fr.getD 7 .any) (fr.getD 8 .any) (fr.getD 9 .any) (fr.getD 10 .any) σ) (blockK 0 (thenK (fun fr σ => c77_1 run fu (fr.getD 4 .any) σ) (noGotoK k77)))))))))))))) (u := fun m fr σ => c77_8 run fu s2 s7 m (fr.getD 2 .any) (fr.getD 4 .any) (fr.getD 7 .any) (fr.getD 8 .any) (fr.getD 9 .any) (fr.getD 10 .any) (fr.getD 13 .any) (fr.getD 15 .any) (fr.getD 16 .any) σ) (fun _ _ => rfl) (fun m fr σ => KOK.piece env0 hrun [2, 4, 7, 8, 9, 10, 13, 15, 16] (eq77_8 run fu s2 s7 (c77_8 run fu s2 s7 m) (fr.getD 2 .any) (fr.getD 4 .any) (fr.getD 7 .any) (fr.getD 8 .any) (fr.getD 9 .any) (fr.getD 10 .any) (fr.getD 13 .any) (fr.getD 15 .any) (fr.getD 16 .any) σ) (owed77_8 hrun fu s2 s7 (c77_8 run fu s2 s7 m)))
  exact fun fr σ => h fu fr σ

noncomputable def c77_7b (run : FuncId → List AV → Store → Tr R) (fu : Nat) (s2 : AV → AV → AV → AV → AV → AV → Store → Tr R) (s7 : AV → AV → AV → AV → AV → AV → AV → AV → Store → Tr R) (x2 x4 x7 x8 x9 x10 x13 x15 : AV) (σ : Store) : Tr R :=
  nchkK x13 fun x76 =>
  addrK x76 0 fun x77 =>
  addrK x77 0 fun x78 =>
  ld1K σ x78 fun x79 =>
  neSK x79 (.str []) fun x80 =>
  ifK x80 (
  nchkK x15 fun x82 =>
  ld1K σ x82 fun x83 =>
  lenLK x83 fun x84 =>
  subK x84 (.int .i64 1) fun x85 =>
  c77_8 run fu s2 s7 fu x2 x4 x7 x8 x9 x10 x13 x15 x85 σ) (
  c77_4 run fu s2 x2 x4 x7 x8 x9 x10 x13 σ)

noncomputable def c77_7 (run : FuncId → List AV → Store → Tr R) (fu : Nat) (s2 : AV → AV → AV → AV → AV → AV → Store → Tr R) : Nat → AV → AV → AV → AV → AV → AV → AV → AV → Store → Tr R
  | 0 => fun _ _ _ _ _ _ _ _ _ => .fail
  | m + 1 => c77_7b run fu s2 (c77_7 run fu s2 m)

theorem eq77_7 (run : FuncId → List AV → Store → Tr R) (fu : Nat) (s2 : AV → AV → AV → AV → AV → AV → Store → Tr R) (s7 : AV → AV → AV → AV → AV → AV → AV → AV → Store → Tr R) (x2 x4 x7 x8 x9 x10 x13 x15 : AV) (σ : Store) : codeK X0 run (.seq (.seq .leaf (.cond .leaf .leaf)) (.block (.seq (.seq .leaf (.block (.sub (fun fr σ => c77_8 run fu s2 s7 fu (fr.getD 2 .any) (fr.getD 4 .any) (fr.getD 7 .any) (fr.getD 8 .any) (fr.getD 9 .any) (fr.getD 10 .any) (fr.getD 13 .any) (fr.getD 15 .any) (fr.getD 16 .any) σ)))) .leaf))) (subC [true, false, true, true, true, true, false, true, false, false, true, false, false, true, true, true, false, true, false, false, true, true, false, false] b77) (frS 0 436 [(2, x2), (4, x4), (7, x7), (8, x8), (9, x9), (10, x10), (13, x13), (15, x15)]) σ (thenK (fun fr σ => s7 (fr.getD 2 .any) (fr.getD 4 .any) (fr.getD 7 .any) (fr.getD 8 .any) (fr.getD 9 .any) (fr.getD 10 .any) (fr.getD 13 .any) (fr.getD 15 .any) σ) (blockK 2 (noGotoK (thenK (fun fr σ => c77_4 run fu s2 (fr.getD 2 .any) (fr.getD 4 .any) (fr.getD 7 .any) (fr.getD 8 .any) (fr.getD 9 .any) (fr.getD 10 .any) (fr.getD 13 .any) σ) (blockK 1 (thenK (fun fr σ => c77_3 run fu s2 (fr.getD 2 .any) (fr.getD 4 .any) (fr.getD 7 .any) (fr.getD 8 .any) (fr.getD 9 .any) (fr.getD 10 .any) σ) (thenK (fun fr σ => s2 (fr.getD 2 .any) (fr.getD 4 .any) (fr.getD 7 .any) (fr.getD 8 .any) (fr.getD 9 .any) (fr.getD 10 .any) σ) (blockK 0 (thenK (fun fr σ => c77_1 run fu (fr.getD 4 .any) σ) (noGotoK k77)))))))))) = c77_7b run fu s2 s7 x2 x4 x7 x8 x9 x10 x13 x15 σ := by kernel_rfl

theorem owed77_7 {run : FuncId → List AV → Store → Tr R} (hrun : RunOK X0 run) (fu : Nat) (s2 : AV → AV → AV → AV → AV → AV → Store → Tr R) (s7 : AV → AV → AV → AV → AV → AV → AV → AV → Store → Tr R) : Owes X0 run 436 (.seq (.seq .leaf (.cond .leaf .leaf)) (.block (.seq (.seq .leaf (.block (.sub (fun fr σ => c77_8 run fu s2 s7 fu (fr.getD 2 .any) (fr.getD 4 .any) (fr.getD 7 .any) (fr.getD 8 .any) (fr.getD 9 .any) (fr.getD 10 .any) (fr.getD 13 .any) (fr.getD 15 .any) (fr.getD 16 .any) σ)))) .leaf))) (subC [true, false, true, true, true, true, false, true, false, false, true, false, false, true, true, true, false, true, false, false, true, true, false, false] b77) (thenK (fun fr σ => s7 (fr.getD 2 .any) (fr.getD 4 .any) (fr.getD 7 .any) (fr.getD 8 .any) (fr.getD 9 .any) (fr.getD 10 .any) (fr.getD 13 .any) (fr.getD 15 .any) σ) (blockK 2 (noGotoK (thenK (fun fr σ => c77_4 run fu s2 (fr.getD 2 .any) (fr.getD 4 .any) (fr.getD 7 .any) (fr.getD 8 .any) (fr.getD 9 .any) (fr.getD 10 .any) (fr.getD 13 .any) σ) (blockK 1 (thenK (fun fr σ => c77_3 run fu s2 (fr.getD 2 .any) (fr.getD 4 .any) (fr.getD 7 .any) (fr.getD 8 .any) (fr.getD 9 .any) (fr.getD 10 .any) σ) (thenK (fun fr σ => s2 (fr.getD 2 .any) (fr.getD 4 .any) (fr.getD 7 .any) (fr.getD 8 .any) (fr.getD 9 .any) (fr.getD 10 .any) σ) (blockK 0 (thenK (fun fr σ => c77_1 run fu (fr.getD 4 .any) σ) (noGotoK k77)))))))))) :=
  ⟨⟨trivial, ⟨trivial, trivial⟩⟩, ⟨⟨trivial, (ok77_8 hrun fu s2 s7)⟩, trivial⟩⟩

theorem ok77_7 {run : FuncId → List AV → Store → Tr R} (hrun : RunOK X0 run) (fu : Nat) (s2 : AV → AV → AV → AV → AV → AV → Store → Tr R) : ∀ fr σ, KOK X0 436 (subC [true, false, true, true, true, true, false, true, false, false, true, false, false, true, true, true, false, true, false, false, true, true, false] b77) fr σ ((fun fr σ => c77_7 run fu s2 fu (fr.getD 2 .any) (fr.getD 4 .any) (fr.getD 7 .any) (fr.getD 8 .any) (fr.getD 9 .any) (fr.getD 10 .any) (fr.getD 13 .any) (fr.getD 15 .any) σ) fr σ) (blockK 2 (noGotoK (thenK (fun fr σ => c77_4 run fu s2 (fr.getD 2 .any) (fr.getD 4 .any) (fr.getD 7 .any) (fr.getD 8 .any) (fr.getD 9 .any) (fr.getD 10 .any) (fr.getD 13 .any) σ) (blockK 1 (thenK (fun fr σ => c77_3 run fu s2 (fr.getD 2 .any) (fr.getD 4 .any) (fr.getD 7 .any) (fr.getD 8 .any) (fr.getD 9 .any) (fr.getD 10 .any) σ) (thenK (fun fr σ => s2 (fr.getD 2 .any) (fr.getD 4 .any) (fr.getD 7 .any) (fr.getD 8 .any) (fr.getD 9 .any) (fr.getD 10 .any) σ) (blockK 0 (thenK (fun fr σ => c77_1 run fu (fr.getD 4 .any) σ) (noGotoK k77))))))))) := by
  have h := KOK.loop (X := X0) (N := 436) (b := (subC [true, false, true, true, true, true, false, true, false, false, true, false, false, true, true, true, false, true, false, false, true, true, false, false] b77)) (k := (blockK 2 (noGotoK (thenK (fun fr σ => c77_4 run fu s2 (fr.getD 2 .any) (fr.getD 4 .any) (fr.getD 7 .any) (fr.getD 8 .any) (fr.getD 9 .any) (fr.getD 10 .any) (fr.getD 13 .any) σ) (blockK 1 (thenK (fun fr σ => c77_3 run fu s2 (fr.getD 2 .any) (fr.getD 4 .any) (fr.getD 7 .any) (fr.getD 8 .any) (fr.getD 9 .any) (fr.getD 10 .any) σ) (thenK (fun fr σ => s2 (fr.getD 2 .any) (fr.getD 4 .any) (fr.getD 7 .any) (fr.getD 8 .any) (fr.getD 9 .any) (fr.getD 10 .any) σ) (blockK 0 (thenK (fun fr σ => c77_1 run fu (fr.getD 4 .any) σ) (noGotoK k77)))))))))) (u := fun m fr σ => c77_7 run fu s2 m (fr.getD 2 .any) (fr.getD 4 .any) (fr.getD 7 .any) (fr.getD 8 .any) (fr.getD 9 .any) (fr.getD 10 .any) (fr.getD 13 .any) (fr.getD 15 .any) σ) (fun _ _ => rfl) (fun m fr σ => KOK.piece env0 hrun [2, 4, 7, 8, 9, 10, 13, 15] (eq77_7 run fu s2 (c77_7 run fu s2 m) (fr.getD 2 .any) (fr.getD 4 .any) (fr.getD 7 .any) (fr.getD 8 .any) (fr.getD 9 .any) (fr.getD 10 .any) (fr.getD 13 .any) (fr.getD 15 .any) σ) (owed77_7 hrun fu s2 (c77_7 run fu s2 m)))
  exact fun fr σ => h fu fr σ

noncomputable def c77_2b (run : FuncId → List AV → Store → Tr R) (fu : Nat) (s2 : AV → AV → AV → AV → AV → AV → Store → Tr R) (x2 x4 x7 x8 x9 x10 : AV) (σ : Store) : Tr R :=
  lenLK x2 fun x25 =>
  cmpK .lss x10 x25 fun x26 =>
  ifK x26 (
  idxK 1 x2 x10 fun x32 =>
  ld1K σ x32 fun x33 =>
  tasK (some .nilp) 128 true x33 fun x34 =>
  extK x34 0 fun x35 =>
  extK x34 1 fun x36 =>
  ifK x36 (
  ld1K σ x4 fun x38 =>
  nchkK x35 fun x40 =>
  addrK x40 0 fun x41 =>
  opt (fillK [.nili] [(0, 1, (.iface 150 x41))]) fun cs => newSK σ 253 cs 1 1 fun x43 σ1 =>
  appK 126 1 16 σ1 x38 x43 fun x44 σ2 =>
  st1K σ2 x4 x44 fun _ σ3 =>
  ld1K σ1 x4 fun v4 =>
  must (AV.beq v4 x38) (
  c77_3 run fu s2 x2 x4 x7 x8 x9 x10 σ3)) (
  idxK 1 x2 x10 fun x48 =>
  ld1K σ x48 fun x49 =>
  tasK (some .nilp) 185 true x49 fun x50 =>
  extK x50 0 fun x51 =>
  extK x50 1 fun x52 =>
  notK x52 fun x54 =>
  ifK x54 (
  ld1K σ x4 fun x55 =>
  idxK 1 x2 x10 fun x58 =>
  ld1K σ x58 fun x59 =>
  opt (fillK [.nili] [(0, 1, x59)]) fun cs => newSK σ 253 cs 1 1 fun x60 σ5 =>
  appK 126 1 16 σ5 x55 x60 fun x61 σ6 =>
  st1K σ6 x4 x61 fun _ σ7 =>
  ld1K σ5 x4 fun v8 =>
  must (AV.beq v8 x55) (
  c77_3 run fu s2 x2 x4 x7 x8 x9 x10 σ7)) (
  nchkK x51 fun x63 =>
  addrK x63 2 fun x64 =>
  ld1K σ x64 fun x65 =>
  ifK x65 (
  nchkK x51 fun x68 =>
  addrK x68 0 fun x69 =>
  addrK x69 0 fun x70 =>
  ld1K σ x70 fun x71 =>
  idxSK x71 (.int .i64 0) fun x72 =>
  dynK X0 run x8 [x72] σ fun x73 σ9 =>
  idxArrK 5 1 x7 x73 fun x74 =>
  c77_7 run fu s2 fu x2 x4 x7 x8 x9 x10 x51 x74 σ9) (
  c77_4 run fu s2 x2 x4 x7 x8 x9 x10 x51 σ)))) (
  c77_1 run fu x4 σ)

noncomputable def c77_2 (run : FuncId → List AV → Store → Tr R) (fu : Nat) : Nat → AV → AV → AV → AV → AV → AV → Store → Tr R
  | 0 => fun _ _ _ _ _ _ _ => .fail
  | m + 1 => c77_2b run fu (c77_2 run fu m)

theorem eq77_2 (run : FuncId → List AV → Store → Tr R) (fu : Nat) (s2 : AV → AV → AV → AV → AV → AV → Store → Tr R) (x2 x4 x7 x8 x9 x10 : AV) (σ : Store) : codeK X0 run (.seq (.seq .leaf (.cond .leaf .leaf)) (.seq (.block (.seq (.seq .leaf (.seq .leaf (.cond (.seq .leaf .leaf) .leaf))) (.seq .leaf (.seq (.seq .leaf (.cond (.seq .leaf .leaf) .leaf)) (.seq (.seq .leaf (.cond (.scope (.seq .leaf (.seq .leaf (.block (.sub (fun fr σ => c77_7 run fu s2 fu (fr.getD 2 .any) (fr.getD 4 .any) (fr.getD 7 .any) (fr.getD 8 .any) (fr.getD 9 .any) (fr.getD 10 .any) (fr.getD 13 .any) (fr.getD 15 .any) σ)))))) .leaf)) (.sub (fun fr σ => c77_4 run fu s2 (fr.getD 2 .any) (fr.getD 4 .any) (fr.getD 7 .any) (fr.getD 8 .any) (fr.getD 9 .any) (fr.getD 10 .any) (fr.getD 13 .any) σ))))))) (.sub (fun fr σ => c77_3 run fu s2 (fr.getD 2 .any) (fr.getD 4 .any) (fr.getD 7 .any) (fr.getD 8 .any) (fr.getD 9 .any) (fr.getD 10 .any) σ)))) (subC [true, false, true, true, true, true, false, true, false, false] b77) (frS 0 436 [(2, x2), (4, x4), (7, x7), (8, x8), (9, x9), (10, x10)]) σ (thenK (fun fr σ => s2 (fr.getD 2 .any) (fr.getD 4 .any) (fr.getD 7 .any) (fr.getD 8 .any) (fr.getD 9 .any) (fr.getD 10 .any) σ) (blockK 0 (thenK (fun fr σ => c77_1 run fu (fr.getD 4 .any) σ) (noGotoK k77)))) = c77_2b run fu s2 x2 x4 x7 x8 x9 x10 σ := by kernel_rfl

theorem owed77_2 {run : FuncId → List AV → Store → Tr R} (hrun : RunOK X0 run) (fu : Nat) (s2 : AV → AV → AV → AV → AV → AV → Store → Tr R) : Owes X0 run 436 (.seq (.seq .leaf (.cond .leaf .leaf)) (.seq (.block (.seq (.seq .leaf (.seq .leaf (.cond (.seq .leaf .leaf) .leaf))) (.seq .leaf (.seq (.seq .leaf (.cond (.seq .leaf .leaf) .leaf)) (.seq (.seq .leaf (.cond (.scope (.seq .leaf (.seq .leaf (.block (.sub (fun fr σ => c77_7 run fu s2 fu (fr.getD 2 .any) (fr.getD 4 .any) (fr.getD 7 .any) (fr.getD 8 .any) (fr.getD 9 .any) (fr.getD 10 .any) (fr.getD 13 .any) (fr.getD 15 .any) σ)))))) .leaf)) (.sub (fun fr σ => c77_4 run fu s2 (fr.getD 2 .any) (fr.getD 4 .any) (fr.getD 7 .any) (fr.getD 8 .any) (fr.getD 9 .any) (fr.getD 10 .any) (fr.getD 13 .any) σ))))))) (.sub (fun fr σ => c77_3 run fu s2 (fr.getD 2 .any) (fr.getD 4 .any) (fr.getD 7 .any) (fr.getD 8 .any) (fr.getD 9 .any) (fr.getD 10 .any) σ)))) (subC [true, false, true, true, true, true, false, true, false, false] b77) (thenK (fun fr σ => s2 (fr.getD 2 .any) (fr.getD 4 .any) (fr.getD 7 .any) (fr.getD 8 .any) (fr.getD 9 .any) (fr.getD 10 .any) σ) (blockK 0 (thenK (fun fr σ => c77_1 run fu (fr.getD 4 .any) σ) (noGotoK k77)))) :=
  ⟨⟨trivial, ⟨trivial, trivial⟩⟩, ⟨⟨⟨trivial, ⟨trivial, ⟨⟨trivial, trivial⟩, trivial⟩⟩⟩, ⟨trivial, ⟨⟨trivial, ⟨⟨trivial, trivial⟩, trivial⟩⟩, ⟨⟨trivial, ⟨⟨trivial, ⟨trivial, (ok77_7 hrun fu s2)⟩⟩, trivial⟩⟩, (ok77_4 hrun fu s2)⟩⟩⟩⟩, (ok77_3 hrun fu s2)⟩⟩

theorem ok77_2 {run : FuncId → List AV → Store → Tr R} (hrun : RunOK X0 run) (fu : Nat) : ∀ fr σ, KOK X0 436 (subC [true, false, true, true, true, true, false, true, false] b77) fr σ ((fun fr σ => c77_2 run fu fu (fr.getD 2 .any) (fr.getD 4 .any) (fr.getD 7 .any) (fr.getD 8 .any) (fr.getD 9 .any) (fr.getD 10 .any) σ) fr σ) (blockK 0 (thenK (fun fr σ => c77_1 run fu (fr.getD 4 .any) σ) (noGotoK k77))) := by
  have h := KOK.loop (X := X0) (N := 436) (b := (subC [true, false, true, true, true, true, false, true, false, false] b77)) (k := (blockK 0 (thenK (fun fr σ => c77_1 run fu (fr.getD 4 .any) σ) (noGotoK k77)))) (u := fun m fr σ => c77_2 run fu m (fr.getD 2 .any) (fr.getD 4 .any) (fr.getD 7 .any) (fr.getD 8 .any) (fr.getD 9 .any) (fr.getD 10 .any) σ) (fun _ _ => rfl) (fun m fr σ => KOK.piece env0 hrun [2, 4, 7, 8, 9, 10] (eq77_2 run fu (c77_2 run fu m) (fr.getD 2 .any) (fr.getD 4 .any) (fr.getD 7 .any) (fr.getD 8 .any) (fr.getD 9 .any) (fr.getD 10 .any) σ) (owed77_2 hrun fu (c77_2 run fu m)))
  exact fun fr σ => h fu fr σ

noncomputable def c77 (run : FuncId → List AV → Store → Tr R) (fu : Nat) (x0 x1 x2 : AV) (σ : Store) : Tr R :=
  boxK σ 169 x1 fun x4 σ1 =>
  newK σ1 411 [.nils, .nils, .nils, .nils, .nils] fun x7 σ2 =>
  c77_2 run fu fu x2 x4 x7 (.fn (.func 115) [] []) (.fn (.func 116) [] [x7, x4]) (.int .i64 0) σ2

theorem eq77 (run : FuncId → List AV → Store → Tr R) (fu : Nat) (x0 x1 x2 : AV) (σ : Store) : codeK X0 run (.seq .leaf (.scope (.seq .leaf (.seq .leaf (.seq .leaf (.seq .leaf (.seq (.seq .leaf (.block (.sub (fun fr σ => c77_2 run fu fu (fr.getD 2 .any) (fr.getD 4 .any) (fr.getD 7 .any) (fr.getD 8 .any) (fr.getD 9 .any) (fr.getD 10 .any) σ)))) (.sub (fun fr σ => c77_1 run fu (fr.getD 4 .any) σ))))))))) (subC [] b77) ([x0, x1, x2] ++ padA (436 - 3)) σ k77 = c77 run fu x0 x1 x2 σ := by kernel_rfl

theorem ok77 {run : FuncId → List AV → Store → Tr R} (hrun : RunOK X0 run) (fu : Nat) (x0 x1 x2 : AV) (σ : Store) : CallOK X0 77 [x0, x1, x2] σ (c77 run fu x0 x1 x2 σ) :=
  KOK.body (fn := Tryz.f77) (c := subC [] b77) (by kernel_rfl) (by kernel_rfl) (by show 3 ≤ 436; decide) (KOK.whole env0 hrun (eq77 run fu x0 x1 x2 σ) ⟨trivial, ⟨trivial, ⟨trivial, ⟨trivial, ⟨trivial, ⟨⟨trivial, (ok77_2 hrun fu)⟩, (ok77_1 hrun fu)⟩⟩⟩⟩⟩⟩)

-- (*pub-paratext/pub/rscmarkdown.parseState).mergePlain

noncomputable def b78 : Code := match Tryz.f78.body with | some c => c | none => .skip

noncomputable def k78 : Kont R := retK Tryz.prog [.tmp 4]

noncomputable def c78_1 (run : FuncId → List AV → Store → Tr R) (fu : Nat) (x5 : AV) (σ : Store) : Tr R :=
  .ret (x5, σ)

theorem eq78_1 (run : FuncId → List AV → Store → Tr R) (fu : Nat) (x5 : AV) (σ : Store) : codeK X0 run (.seq .leaf .leaf) (subC [true, true, true, true] b78) (frS 0 50 [(5, x5)]) σ k78 = c78_1 run fu x5 σ := by kernel_rfl

theorem ok78_1 {run : FuncId → List AV → Store → Tr R} (hrun : RunOK X0 run) (fu : Nat) : ∀ fr σ, KOK X0 50 (subC [true, true, true, true] b78) fr σ ((fun fr σ => c78_1 run fu (fr.getD 5 .any) σ) fr σ) k78 := fun fr σ =>
  KOK.piece env0 hrun [5] (eq78_1 run fu (fr.getD 5 .any) σ) ⟨trivial, trivial⟩

noncomputable def c78_3 (run : FuncId → List AV → Store → Tr R) (fu : Nat) (s2 : AV → AV → AV → AV → Store → Tr R) (x1 x5 x6 x7 : AV) (σ : Store) : Tr R :=
  addK x7 (.int .i64 1) fun x11 =>
  s2 x1 x5 x6 x11 σ

theorem eq78_3 (run : FuncId → List AV → Store → Tr R) (fu : Nat) (s2 : AV → AV → AV → AV → Store → Tr R) (x1 x5 x6 x7 : AV) (σ : Store) : codeK X0 run .leaf (subC [true, true, true, false, true, false, false, true] b78) (frS 0 50 [(1, x1), (5, x5), (6, x6), (7, x7)]) σ (thenK (fun fr σ => s2 (fr.getD 1 .any) (fr.getD 5 .any) (fr.getD 6 .any) (fr.getD 7 .any) σ) (blockK 0 (thenK (fun fr σ => c78_1 run fu (fr.getD 5 .any) σ) k78))) = c78_3 run fu s2 x1 x5 x6 x7 σ := by kernel_rfl

theorem ok78_3 {run : FuncId → List AV → Store → Tr R} (hrun : RunOK X0 run) (fu : Nat) (s2 : AV → AV → AV → AV → Store → Tr R) : ∀ fr σ, KOK X0 50 (subC [true, true, true, false, true, false, false, true] b78) fr σ ((fun fr σ => c78_3 run fu s2 (fr.getD 1 .any) (fr.getD 5 .any) (fr.getD 6 .any) (fr.getD 7 .any) σ) fr σ) (thenK (fun fr σ => s2 (fr.getD 1 .any) (fr.getD 5 .any) (fr.getD 6 .any) (fr.getD 7 .any) σ) (blockK 0 (thenK (fun fr σ => c78_1 run fu (fr.getD 5 .any) σ) k78))) := fun fr σ =>
  KOK.piece env0 hrun [1, 5, 6, 7] (eq78_3 run fu s2 (fr.getD 1 .any) (fr.getD 5 .any) (fr.getD 6 .any) (fr.getD 7 .any) σ) trivial

noncomputable def c78_4 (run : FuncId → List AV → Store → Tr R) (fu : Nat) (s2 : AV → AV → AV → AV → Store → Tr R) (x1 x5 x7 : AV) (σ : Store) : Tr R :=
  lenLK x1 fun x38 =>
  cmpK .geq x7 x38 fun x39 =>
  ifK x39 (
  c78_1 run fu x5 σ) (
  idxK 1 x1 x7 fun x43 =>
  ld1K σ x43 fun x44 =>
  opt (fillK [.nili] [(0, 1, x44)]) fun cs => newSK σ 253 cs 1 1 fun x45 σ1 =>
  appK 126 1 16 σ1 x5 x45 fun x46 σ2 =>
  addK x7 (.int .i64 1) fun x48 =>
  c78_3 run fu s2 x1 x46 x48 x7 σ2)

theorem eq78_4 (run : FuncId → List AV → Store → Tr R) (fu : Nat) (s2 : AV → AV → AV → AV → Store → Tr R) (x1 x5 x7 : AV) (σ : Store) : codeK X0 run (.seq (.seq .leaf (.cond .leaf .leaf)) (.seq .leaf .leaf)) (subC [true, true, true, false, true, false, false, false, false, true, true] b78) (frS 0 50 [(1, x1), (5, x5), (7, x7)]) σ (blockK 1 (thenK (fun fr σ => c78_3 run fu s2 (fr.getD 1 .any) (fr.getD 5 .any) (fr.getD 6 .any) (fr.getD 7 .any) σ) (thenK (fun fr σ => s2 (fr.getD 1 .any) (fr.getD 5 .any) (fr.getD 6 .any) (fr.getD 7 .any) σ) (blockK 0 (thenK (fun fr σ => c78_1 run fu (fr.getD 5 .any) σ) k78))))) = c78_4 run fu s2 x1 x5 x7 σ := by kernel_rfl

theorem ok78_4 {run : FuncId → List AV → Store → Tr R} (hrun : RunOK X0 run) (fu : Nat) (s2 : AV → AV → AV → AV → Store → Tr R) : ∀ fr σ, KOK X0 50 (subC [true, true, true, false, true, false, false, false, false, true, true] b78) fr σ ((fun fr σ => c78_4 run fu s2 (fr.getD 1 .any) (fr.getD 5 .any) (fr.getD 7 .any) σ) fr σ) (blockK 1 (thenK (fun fr σ => c78_3 run fu s2 (fr.getD 1 .any) (fr.getD 5 .any) (fr.getD 6 .any) (fr.getD 7 .any) σ) (thenK (fun fr σ => s2 (fr.getD 1 .any) (fr.getD 5 .any) (fr.getD 6 .any) (fr.getD 7 .any) σ) (blockK 0 (thenK (fun fr σ => c78_1 run fu (fr.getD 5 .any) σ) k78))))) := fun fr σ =>
  KOK.piece env0 hrun [1, 5, 7] (eq78_4 run fu s2 (fr.getD 1 .any) (fr.getD 5 .any) (fr.getD 7 .any) σ) ⟨⟨trivial, ⟨trivial, trivial⟩⟩, ⟨trivial, trivial⟩⟩

noncomputable def c78_2b (run : FuncId → List AV → Store → Tr R) (fu : Nat) (s2 : AV → AV → AV → AV → Store → Tr R) (x1 x5 x6 x7 : AV) (σ : Store) : Tr R :=
  lenLK x1 fun x14 =>
  cmpK .lss x7 x14 fun x15 =>
  grdK x15 true σ (fun f => f x1 σ) fun x17 σ1 =>
  grdK x15 true σ1 (fun f => f x7 σ1) fun x18 σ2 =>
  grdK x15 true σ2 (fun f => idxK 1 x17 x18 fun v => f v σ2) fun x19 σ3 =>
  grdK x15 true σ3 (fun f => ld1K σ3 x19 fun v => f v σ3) fun x20 σ4 =>
  grdK x15 true σ4 (fun f => calK run 117 [x20] σ4 f) fun x21 σ5 =>
  grdK x15 true σ5 (fun f => neOK (nilEq nilP) x21 .nilp fun v => f v σ5) fun x22 σ6 =>
  pickK x15 x22 (.bool false) fun x23 =>
  ifK x23 (
  c78_3 run fu s2 x1 x5 x6 x7 σ6) (
  cmpK .lss x6 x7 fun x26 =>
  ifK x26 (
  sliceLK Tryz.prog σ6 84 x1 (some x6) (some x7) fun x31 =>
  calK run 118 [x31] σ6 fun x32 σ7 =>
  opt (fillK [.nili] [(0, 1, (.iface 150 x32))]) fun cs => newSK σ7 253 cs 1 1 fun x34 σ8 =>
  appK 126 1 16 σ8 x5 x34 fun x35 σ9 =>
  c78_4 run fu s2 x1 x35 x7 σ9) (
  c78_4 run fu s2 x1 x5 x7 σ6))

noncomputable def c78_2 (run : FuncId → List AV → Store → Tr R) (fu : Nat) : Nat → AV → AV → AV → AV → Store → Tr R
  | 0 => fun _ _ _ _ _ => .fail
  | m + 1 => c78_2b run fu (c78_2 run fu m)

theorem eq78_2 (run : FuncId → List AV → Store → Tr R) (fu : Nat) (s2 : AV → AV → AV → AV → Store → Tr R) (x1 x5 x6 x7 : AV) (σ : Store) : codeK X0 run (.seq (.block (.seq (.seq .leaf (.cond .leaf .leaf)) (.seq (.seq .leaf (.cond .leaf .leaf)) (.sub (fun fr σ => c78_4 run fu s2 (fr.getD 1 .any) (fr.getD 5 .any) (fr.getD 7 .any) σ))))) (.sub (fun fr σ => c78_3 run fu s2 (fr.getD 1 .any) (fr.getD 5 .any) (fr.getD 6 .any) (fr.getD 7 .any) σ))) (subC [true, true, true, false, true, false, false] b78) (frS 0 50 [(1, x1), (5, x5), (6, x6), (7, x7)]) σ (thenK (fun fr σ => s2 (fr.getD 1 .any) (fr.getD 5 .any) (fr.getD 6 .any) (fr.getD 7 .any) σ) (blockK 0 (thenK (fun fr σ => c78_1 run fu (fr.getD 5 .any) σ) k78))) = c78_2b run fu s2 x1 x5 x6 x7 σ := by kernel_rfl

theorem owed78_2 {run : FuncId → List AV → Store → Tr R} (hrun : RunOK X0 run) (fu : Nat) (s2 : AV → AV → AV → AV → Store → Tr R) : Owes X0 run 50 (.seq (.block (.seq (.seq .leaf (.cond .leaf .leaf)) (.seq (.seq .leaf (.cond .leaf .leaf)) (.sub (fun fr σ => c78_4 run fu s2 (fr.getD 1 .any) (fr.getD 5 .any) (fr.getD 7 .any) σ))))) (.sub (fun fr σ => c78_3 run fu s2 (fr.getD 1 .any) (fr.getD 5 .any) (fr.getD 6 .any) (fr.getD 7 .any) σ))) (subC [true, true, true, false, true, false, false] b78) (thenK (fun fr σ => s2 (fr.getD 1 .any) (fr.getD 5 .any) (fr.getD 6 .any) (fr.getD 7 .any) σ) (blockK 0 (thenK (fun fr σ => c78_1 run fu (fr.getD 5 .any) σ) k78))) :=
  ⟨⟨⟨trivial, ⟨trivial, trivial⟩⟩, ⟨⟨trivial, ⟨trivial, trivial⟩⟩, (ok78_4 hrun fu s2)⟩⟩, (ok78_3 hrun fu s2)⟩

theorem ok78_2 {run : FuncId → List AV → Store → Tr R} (hrun : RunOK X0 run) (fu : Nat) : ∀ fr σ, KOK X0 50 (subC [true, true, true, false, true, false] b78) fr σ ((fun fr σ => c78_2 run fu fu (fr.getD 1 .any) (fr.getD 5 .any) (fr.getD 6 .any) (fr.getD 7 .any) σ) fr σ) (blockK 0 (thenK (fun fr σ => c78_1 run fu (fr.getD 5 .any) σ) k78)) := by
  have h := KOK.loop (X := X0) (N := 50) (b := (subC [true, true, true, false, true, false, false] b78)) (k := (blockK 0 (thenK (fun fr σ => c78_1 run fu (fr.getD 5 .any) σ) k78))) (u := fun m fr σ => c78_2 run fu m (fr.getD 1 .any) (fr.getD 5 .any) (fr.getD 6 .any) (fr.getD 7 .any) σ) (fun _ _ => rfl) (fun m fr σ => KOK.piece env0 hrun [1, 5, 6, 7] (eq78_2 run fu (c78_2 run fu m) (fr.getD 1 .any) (fr.getD 5 .any) (fr.getD 6 .any) (fr.getD 7 .any) σ) (owed78_2 hrun fu (c78_2 run fu m)))
  exact fun fr σ => h fu fr σ

noncomputable def c78 (run : FuncId → List AV → Store → Tr R) (fu : Nat) (x0 x1 : AV) (σ : Store) : Tr R :=
  sliceLK Tryz.prog σ 84 x1 none (some (.int .i64 0)) fun x9 =>
  c78_2 run fu fu x1 x9 (.int .i64 0) (.int .i64 0) σ

theorem eq78 (run : FuncId → List AV → Store → Tr R) (fu : Nat) (x0 x1 : AV) (σ : Store) : codeK X0 run (.seq .leaf (.seq .leaf (.seq .leaf (.seq (.seq .leaf (.block (.sub (fun fr σ => c78_2 run fu fu (fr.getD 1 .any) (fr.getD 5 .any) (fr.getD 6 .any) (fr.getD 7 .any) σ)))) (.sub (fun fr σ => c78_1 run fu (fr.getD 5 .any) σ)))))) (subC [] b78) ([x0, x1] ++ padA (50 - 2)) σ k78 = c78 run fu x0 x1 σ := by kernel_rfl

theorem ok78 {run : FuncId → List AV → Store → Tr R} (hrun : RunOK X0 run) (fu : Nat) (x0 x1 : AV) (σ : Store) : CallOK X0 78 [x0, x1] σ (c78 run fu x0 x1 σ) :=
  KOK.body (fn := Tryz.f78) (c := subC [] b78) (by kernel_rfl) (by kernel_rfl) (by show 2 ≤ 50; decide) (KOK.whole env0 hrun (eq78 run fu x0 x1 σ) ⟨trivial, ⟨trivial, ⟨trivial, ⟨⟨trivial, (ok78_2 hrun fu)⟩, (ok78_1 hrun fu)⟩⟩⟩⟩)

-- (*pub-paratext/pub/rscmarkdown.parseState).autoLinkText

noncomputable def b79 : Code := match Tryz.f79.body with | some c => c | none => .skip

noncomputable def k79 : Kont R := retK Tryz.prog [.tmp 4]

noncomputable def c79_1 (run : FuncId → List AV → Store → Tr R) (fu : Nat) (x1 x5 : AV) (σ : Store) : Tr R :=
  eqOK (nilEq nilS) x5 .nils fun x95 =>
  ifK x95 (
  .ret (x1, σ)) (
  .ret (x5, σ))

theorem eq79_1 (run : FuncId → List AV → Store → Tr R) (fu : Nat) (x1 x5 : AV) (σ : Store) : codeK X0 run (.seq (.seq .leaf (.cond (.seq .leaf .leaf) .leaf)) (.seq .leaf .leaf)) (subC [true, true, true, true] b79) (frS 0 98 [(1, x1), (5, x5)]) σ k79 = c79_1 run fu x1 x5 σ := by kernel_rfl

theorem ok79_1 {run : FuncId → List AV → Store → Tr R} (hrun : RunOK X0 run) (fu : Nat) : ∀ fr σ, KOK X0 98 (subC [true, true, true, true] b79) fr σ ((fun fr σ => c79_1 run fu (fr.getD 1 .any) (fr.getD 5 .any) σ) fr σ) k79 := fun fr σ =>
  KOK.piece env0 hrun [1, 5] (eq79_1 run fu (fr.getD 1 .any) (fr.getD 5 .any) σ) ⟨⟨trivial, ⟨⟨trivial, trivial⟩, trivial⟩⟩, ⟨trivial, trivial⟩⟩

noncomputable def c79_3 (run : FuncId → List AV → Store → Tr R) (fu : Nat) (s2 : AV → AV → AV → AV → AV → AV → Store → Tr R) (x0 x1 x5 x22 x23 x24 : AV) (σ : Store) : Tr R :=
  addK x24 (.int .i64 1) fun x93 =>
  s2 x0 x1 x5 x22 x23 x93 σ

theorem eq79_3 (run : FuncId → List AV → Store → Tr R) (fu : Nat) (s2 : AV → AV → AV → AV → AV → AV → Store → Tr R) (x0 x1 x5 x22 x23 x24 : AV) (σ : Store) : codeK X0 run .leaf (subC [true, true, true, false, true, false, false, true, true, true] b79) (frS 0 98 [(0, x0), (1, x1), (5, x5), (22, x22), (23, x23), (24, x24)]) σ (thenK (fun fr σ => s2 (fr.getD 0 .any) (fr.getD 1 .any) (fr.getD 5 .any) (fr.getD 22 .any) (fr.getD 23 .any) (fr.getD 24 .any) σ) (blockK 0 (thenK (fun fr σ => c79_1 run fu (fr.getD 1 .any) (fr.getD 5 .any) σ) k79))) = c79_3 run fu s2 x0 x1 x5 x22 x23 x24 σ := by kernel_rfl

theorem ok79_3 {run : FuncId → List AV → Store → Tr R} (hrun : RunOK X0 run) (fu : Nat) (s2 : AV → AV → AV → AV → AV → AV → Store → Tr R) : ∀ fr σ, KOK X0 98 (subC [true, true, true, false, true, false, false, true, true, true] b79) fr σ ((fun fr σ => c79_3 run fu s2 (fr.getD 0 .any) (fr.getD 1 .any) (fr.getD 5 .any) (fr.getD 22 .any) (fr.getD 23 .any) (fr.getD 24 .any) σ) fr σ) (thenK (fun fr σ => s2 (fr.getD 0 .any) (fr.getD 1 .any) (fr.getD 5 .any) (fr.getD 22 .any) (fr.getD 23 .any) (fr.getD 24 .any) σ) (blockK 0 (thenK (fun fr σ => c79_1 run fu (fr.getD 1 .any) (fr.getD 5 .any) σ) k79))) := fun fr σ =>
  KOK.piece env0 hrun [0, 1, 5, 22, 23, 24] (eq79_3 run fu s2 (fr.getD 0 .any) (fr.getD 1 .any) (fr.getD 5 .any) (fr.getD 22 .any) (fr.getD 23 .any) (fr.getD 24 .any) σ) trivial

noncomputable def c79_4 (run : FuncId → List AV → Store → Tr R) (fu : Nat) (s2 : AV → AV → AV → AV → AV → AV → Store → Tr R) (x0 x1 x5 x7 x22 x23 x24 : AV) (σ : Store) : Tr R :=
  neOK (nilEq nilS) x5 .nils fun x88 =>
  ifK x88 (
  opt (fillK [.nili] [(0, 1, x7)]) fun cs => newSK σ 253 cs 1 1 fun x91 σ1 =>
  appK 126 1 16 σ1 x5 x91 fun x92 σ2 =>
  c79_3 run fu s2 x0 x1 x92 x22 x23 x24 σ2) (
  c79_3 run fu s2 x0 x1 x5 x22 x23 x24 σ)

theorem eq79_4 (run : FuncId → List AV → Store → Tr R) (fu : Nat) (s2 : AV → AV → AV → AV → AV → AV → Store → Tr R) (x0 x1 x5 x7 x22 x23 x24 : AV) (σ : Store) : codeK X0 run (.seq .leaf (.cond .leaf .leaf)) (subC [true, true, true, false, true, false, false, true, true, false, false, true, true] b79) (frS 0 98 [(0, x0), (1, x1), (5, x5), (7, x7), (22, x22), (23, x23), (24, x24)]) σ (blockK 1 (thenK (fun fr σ => c79_3 run fu s2 (fr.getD 0 .any) (fr.getD 1 .any) (fr.getD 5 .any) (fr.getD 22 .any) (fr.getD 23 .any) (fr.getD 24 .any) σ) (thenK (fun fr σ => s2 (fr.getD 0 .any) (fr.getD 1 .any) (fr.getD 5 .any) (fr.getD 22 .any) (fr.getD 23 .any) (fr.getD 24 .any) σ) (blockK 0 (thenK (fun fr σ => c79_1 run fu (fr.getD 1 .any) (fr.getD 5 .any) σ) k79))))) = c79_4 run fu s2 x0 x1 x5 x7 x22 x23 x24 σ := by kernel_rfl

theorem ok79_4 {run : FuncId → List AV → Store → Tr R} (hrun : RunOK X0 run) (fu : Nat) (s2 : AV → AV → AV → AV → AV → AV → Store → Tr R) : ∀ fr σ, KOK X0 98 (subC [true, true, true, false, true, false, false, true, true, false, false, true, true] b79) fr σ ((fun fr σ => c79_4 run fu s2 (fr.getD 0 .any) (fr.getD 1 .any) (fr.getD 5 .any) (fr.getD 7 .any) (fr.getD 22 .any) (fr.getD 23 .any) (fr.getD 24 .any) σ) fr σ) (blockK 1 (thenK (fun fr σ => c79_3 run fu s2 (fr.getD 0 .any) (fr.getD 1 .any) (fr.getD 5 .any) (fr.getD 22 .any) (fr.getD 23 .any) (fr.getD 24 .any) σ) (thenK (fun fr σ => s2 (fr.getD 0 .any) (fr.getD 1 .any) (fr.getD 5 .any) (fr.getD 22 .any) (fr.getD 23 .any) (fr.getD 24 .any) σ) (blockK 0 (thenK (fun fr σ => c79_1 run fu (fr.getD 1 .any) (fr.getD 5 .any) σ) k79))))) := fun fr σ =>
  KOK.piece env0 hrun [0, 1, 5, 7, 22, 23, 24] (eq79_4 run fu s2 (fr.getD 0 .any) (fr.getD 1 .any) (fr.getD 5 .any) (fr.getD 7 .any) (fr.getD 22 .any) (fr.getD 23 .any) (fr.getD 24 .any) σ) ⟨trivial, ⟨trivial, trivial⟩⟩

noncomputable def c79_5 (run : FuncId → List AV → Store → Tr R) (fu : Nat) (s2 : AV → AV → AV → AV → AV → AV → Store → Tr R) (x0 x1 x5 x9 x22 x23 x24 : AV) (σ : Store) : Tr R :=
  appK 126 1 16 σ x5 x9 fun x50 σ1 =>
  c79_3 run fu s2 x0 x1 x50 x22 x23 x24 σ1

theorem eq79_5 (run : FuncId → List AV → Store → Tr R) (fu : Nat) (s2 : AV → AV → AV → AV → AV → AV → Store → Tr R) (x0 x1 x5 x9 x22 x23 x24 : AV) (σ : Store) : codeK X0 run (.seq .leaf .leaf) (subC [true, true, true, false, true, false, false, true, true, false, false, true, false, true, false, true, false, true, true, true, false, true] b79) (frS 0 98 [(0, x0), (1, x1), (5, x5), (9, x9), (22, x22), (23, x23), (24, x24)]) σ (blockK 2 (thenK (fun fr σ => c79_4 run fu s2 (fr.getD 0 .any) (fr.getD 1 .any) (fr.getD 5 .any) (fr.getD 7 .any) (fr.getD 22 .any) (fr.getD 23 .any) (fr.getD 24 .any) σ) (blockK 1 (thenK (fun fr σ => c79_3 run fu s2 (fr.getD 0 .any) (fr.getD 1 .any) (fr.getD 5 .any) (fr.getD 22 .any) (fr.getD 23 .any) (fr.getD 24 .any) σ) (thenK (fun fr σ => s2 (fr.getD 0 .any) (fr.getD 1 .any) (fr.getD 5 .any) (fr.getD 22 .any) (fr.getD 23 .any) (fr.getD 24 .any) σ) (blockK 0 (thenK (fun fr σ => c79_1 run fu (fr.getD 1 .any) (fr.getD 5 .any) σ) k79))))))) = c79_5 run fu s2 x0 x1 x5 x9 x22 x23 x24 σ := by kernel_rfl

theorem ok79_5 {run : FuncId → List AV → Store → Tr R} (hrun : RunOK X0 run) (fu : Nat) (s2 : AV → AV → AV → AV → AV → AV → Store → Tr R) : ∀ fr σ, KOK X0 98 (subC [true, true, true, false, true, false, false, true, true, false, false, true, false, true, false, true, false, true, true, true, false, true] b79) fr σ ((fun fr σ => c79_5 run fu s2 (fr.getD 0 .any) (fr.getD 1 .any) (fr.getD 5 .any) (fr.getD 9 .any) (fr.getD 22 .any) (fr.getD 23 .any) (fr.getD 24 .any) σ) fr σ) (blockK 2 (thenK (fun fr σ => c79_4 run fu s2 (fr.getD 0 .any) (fr.getD 1 .any) (fr.getD 5 .any) (fr.getD 7 .any) (fr.getD 22 .any) (fr.getD 23 .any) (fr.getD 24 .any) σ) (blockK 1 (thenK (fun fr σ => c79_3 run fu s2 (fr.getD 0 .any) (fr.getD 1 .any) (fr.getD 5 .any) (fr.getD 22 .any) (fr.getD 23 .any) (fr.getD 24 .any) σ) (thenK (fun fr σ => s2 (fr.getD 0 .any) (fr.getD 1 .any) (fr.getD 5 .any) (fr.getD 22 .any) (fr.getD 23 .any) (fr.getD 24 .any) σ) (blockK 0 (thenK (fun fr σ => c79_1 run fu (fr.getD 1 .any) (fr.getD 5 .any) σ) k79))))))) := fun fr σ =>
  KOK.piece env0 hrun [0, 1, 5, 9, 22, 23, 24] (eq79_5 run fu s2 (fr.getD 0 .any) (fr.getD 1 .any) (fr.getD 5 .any) (fr.getD 9 .any) (fr.getD 22 .any) (fr.getD 23 .any) (fr.getD 24 .any) σ) ⟨trivial, trivial⟩

noncomputable def c79_2b (run : FuncId → List AV → Store → Tr R) (fu : Nat) (s2 : AV → AV → AV → AV → AV → AV → Store → Tr R) (x0 x1 x5 x22 x23 x24 : AV) (σ : Store) : Tr R :=
  cmpK .lss x24 x23 fun x25 =>
  ifK x25 (
  idxK 1 x22 x24 fun x27 =>
  ld1K σ x27 fun x28 =>
  tasK (some .nilp) 150 true x28 fun x30 =>
  extK x30 1 fun x31 =>
  extK x30 0 fun x32 =>
  ifK x31 (
  nchkK x32 fun x35 =>
  addrK x35 0 fun x36 =>
  ld1K σ x36 fun x37 =>
  calK run 119 [x0, x37] σ fun x38 σ1 =>
  neOK (nilEq nilS) x38 .nils fun x40 =>
  ifK x40 (
  eqOK (nilEq nilS) x5 .nils fun x42 =>
  ifK x42 (
  sliceLK Tryz.prog σ1 84 x1 none (some x24) fun x46 =>
  appK 126 1 16 σ1 x5 x46 fun x47 σ2 =>
  c79_5 run fu s2 x0 x1 x47 x38 x22 x23 x24 σ2) (
  c79_5 run fu s2 x0 x1 x5 x38 x22 x23 x24 σ1)) (
  c79_4 run fu s2 x0 x1 x5 x28 x22 x23 x24 σ1)) (
  tasK (some .nilp) 213 true x28 fun x51 =>
  extK x51 1 fun x52 =>
  extK x51 0 fun x53 =>
  ifK x52 (
  nchkK x53 fun x57 =>
  addrK x57 1 fun x58 =>
  ld1K σ x58 fun x59 =>
  calK run 79 [x0, x59] σ fun x60 σ3 =>
  nchkK x53 fun x61 =>
  addrK x61 1 fun x62 =>
  st1K σ3 x62 x60 fun _ σ4 =>
  c79_4 run fu s2 x0 x1 x5 x28 x22 x23 x24 σ4) (
  tasK (some .nilp) 212 true x28 fun x63 =>
  extK x63 1 fun x64 =>
  extK x63 0 fun x65 =>
  ifK x64 (
  nchkK x65 fun x69 =>
  addrK x69 1 fun x70 =>
  ld1K σ x70 fun x71 =>
  calK run 79 [x0, x71] σ fun x72 σ5 =>
  nchkK x65 fun x73 =>
  addrK x73 1 fun x74 =>
  st1K σ5 x74 x72 fun _ σ6 =>
  c79_4 run fu s2 x0 x1 x5 x28 x22 x23 x24 σ6) (
  tasK (some .nilp) 209 true x28 fun x75 =>
  extK x75 1 fun x76 =>
  extK x75 0 fun x77 =>
  ifK x76 (
  nchkK x77 fun x81 =>
  addrK x81 1 fun x82 =>
  ld1K σ x82 fun x83 =>
  calK run 79 [x0, x83] σ fun x84 σ7 =>
  nchkK x77 fun x85 =>
  addrK x85 1 fun x86 =>
  st1K σ7 x86 x84 fun _ σ8 =>
  c79_4 run fu s2 x0 x1 x5 x28 x22 x23 x24 σ8) (
  c79_4 run fu s2 x0 x1 x5 x28 x22 x23 x24 σ))))) (
  c79_1 run fu x1 x5 σ)

noncomputable def c79_2 (run : FuncId → List AV → Store → Tr R) (fu : Nat) : Nat → AV → AV → AV → AV → AV → AV → Store → Tr R
  | 0 => fun _ _ _ _ _ _ _ => .fail
  | m + 1 => c79_2b run fu (c79_2 run fu m)

theorem eq79_2 (run : FuncId → List AV → Store → Tr R) (fu : Nat) (s2 : AV → AV → AV → AV → AV → AV → Store → Tr R) (x0 x1 x5 x22 x23 x24 : AV) (σ : Store) : codeK X0 run (.seq .leaf (.seq (.cond .leaf .leaf) (.seq (.block (.seq .leaf (.seq (.seq .leaf (.block (.seq .leaf (.cond (.seq .leaf (.seq .leaf (.seq .leaf (.cond (.seq (.seq .leaf (.cond .leaf .leaf)) (.sub (fun fr σ => c79_5 run fu s2 (fr.getD 0 .any) (fr.getD 1 .any) (fr.getD 5 .any) (fr.getD 9 .any) (fr.getD 22 .any) (fr.getD 23 .any) (fr.getD 24 .any) σ))) .leaf)))) (.seq .leaf (.cond (.seq .leaf .leaf) (.seq .leaf (.cond (.seq .leaf .leaf) (.seq .leaf (.cond (.seq .leaf .leaf) .leaf)))))))))) (.sub (fun fr σ => c79_4 run fu s2 (fr.getD 0 .any) (fr.getD 1 .any) (fr.getD 5 .any) (fr.getD 7 .any) (fr.getD 22 .any) (fr.getD 23 .any) (fr.getD 24 .any) σ))))) (.sub (fun fr σ => c79_3 run fu s2 (fr.getD 0 .any) (fr.getD 1 .any) (fr.getD 5 .any) (fr.getD 22 .any) (fr.getD 23 .any) (fr.getD 24 .any) σ))))) (subC [true, true, true, false, true, false, false] b79) (frS 0 98 [(0, x0), (1, x1), (5, x5), (22, x22), (23, x23), (24, x24)]) σ (thenK (fun fr σ => s2 (fr.getD 0 .any) (fr.getD 1 .any) (fr.getD 5 .any) (fr.getD 22 .any) (fr.getD 23 .any) (fr.getD 24 .any) σ) (blockK 0 (thenK (fun fr σ => c79_1 run fu (fr.getD 1 .any) (fr.getD 5 .any) σ) k79))) = c79_2b run fu s2 x0 x1 x5 x22 x23 x24 σ := by kernel_rfl

theorem owed79_2 {run : FuncId → List AV → Store → Tr R} (hrun : RunOK X0 run) (fu : Nat) (s2 : AV → AV → AV → AV → AV → AV → Store → Tr R) : Owes X0 run 98 (.seq .leaf (.seq (.cond .leaf .leaf) (.seq (.block (.seq .leaf (.seq (.seq .leaf (.block (.seq .leaf (.cond (.seq .leaf (.seq .leaf (.seq .leaf (.cond (.seq (.seq .leaf (.cond .leaf .leaf)) (.sub (fun fr σ => c79_5 run fu s2 (fr.getD 0 .any) (fr.getD 1 .any) (fr.getD 5 .any) (fr.getD 9 .any) (fr.getD 22 .any) (fr.getD 23 .any) (fr.getD 24 .any) σ))) .leaf)))) (.seq .leaf (.cond (.seq .leaf .leaf) (.seq .leaf (.cond (.seq .leaf .leaf) (.seq .leaf (.cond (.seq .leaf .leaf) .leaf)))))))))) (.sub (fun fr σ => c79_4 run fu s2 (fr.getD 0 .any) (fr.getD 1 .any) (fr.getD 5 .any) (fr.getD 7 .any) (fr.getD 22 .any) (fr.getD 23 .any) (fr.getD 24 .any) σ))))) (.sub (fun fr σ => c79_3 run fu s2 (fr.getD 0 .any) (fr.getD 1 .any) (fr.getD 5 .any) (fr.getD 22 .any) (fr.getD 23 .any) (fr.getD 24 .any) σ))))) (subC [true, true, true, false, true, false, false] b79) (thenK (fun fr σ => s2 (fr.getD 0 .any) (fr.getD 1 .any) (fr.getD 5 .any) (fr.getD 22 .any) (fr.getD 23 .any) (fr.getD 24 .any) σ) (blockK 0 (thenK (fun fr σ => c79_1 run fu (fr.getD 1 .any) (fr.getD 5 .any) σ) k79))) :=
  ⟨trivial, ⟨⟨trivial, trivial⟩, ⟨⟨trivial, ⟨⟨trivial, ⟨trivial, ⟨⟨trivial, ⟨trivial, ⟨trivial, ⟨⟨⟨trivial, ⟨trivial, trivial⟩⟩, (ok79_5 hrun fu s2)⟩, trivial⟩⟩⟩⟩, ⟨trivial, ⟨⟨trivial, trivial⟩, ⟨trivial, ⟨⟨trivial, trivial⟩, ⟨trivial, ⟨⟨trivial, trivial⟩, trivial⟩⟩⟩⟩⟩⟩⟩⟩⟩, (ok79_4 hrun fu s2)⟩⟩, (ok79_3 hrun fu s2)⟩⟩⟩

theorem ok79_2 {run : FuncId → List AV → Store → Tr R} (hrun : RunOK X0 run) (fu : Nat) : ∀ fr σ, KOK X0 98 (subC [true, true, true, false, true, false] b79) fr σ ((fun fr σ => c79_2 run fu fu (fr.getD 0 .any) (fr.getD 1 .any) (fr.getD 5 .any) (fr.getD 22 .any) (fr.getD 23 .any) (fr.getD 24 .any) σ) fr σ) (blockK 0 (thenK (fun fr σ => c79_1 run fu (fr.getD 1 .any) (fr.getD 5 .any) σ) k79)) := by
  have h := KOK.loop (X := X0) (N := 98) (b := (subC [true, true, true, false, true, false, false] b79)) (k := (blockK 0 (thenK (fun fr σ => c79_1 run fu (fr.getD 1 .any) (fr.getD 5 .any) σ) k79))) (u := fun m fr σ => c79_2 run fu m (fr.getD 0 .any) (fr.getD 1 .any) (fr.getD 5 .any) (fr.getD 22 .any) (fr.getD 23 .any) (fr.getD 24 .any) σ) (fun _ _ => rfl) (fun m fr σ => KOK.piece env0 hrun [0, 1, 5, 22, 23, 24] (eq79_2 run fu (c79_2 run fu m) (fr.getD 0 .any) (fr.getD 1 .any) (fr.getD 5 .any) (fr.getD 22 .any) (fr.getD 23 .any) (fr.getD 24 .any) σ) (owed79_2 hrun fu (c79_2 run fu m)))
  exact fun fr σ => h fu fr σ

noncomputable def c79 (run : FuncId → List AV → Store → Tr R) (fu : Nat) (x0 x1 : AV) (σ : Store) : Tr R :=
  nchkK x0 fun x14 =>
  addrK x14 0 fun x15 =>
  ld1K σ x15 fun x16 =>
  nchkK x16 fun x17 =>
  addrK x17 3 fun x18 =>
  ld1K σ x18 fun x19 =>
  notK x19 fun x20 =>
  ifK x20 (
  .ret (x1, σ)) (
  lenLK x1 fun x23 =>
  c79_2 run fu fu x0 x1 .nils x1 x23 (.int .i64 0) σ)

theorem eq79 (run : FuncId → List AV → Store → Tr R) (fu : Nat) (x0 x1 : AV) (σ : Store) : codeK X0 run (.seq .leaf (.seq (.seq .leaf (.cond (.seq .leaf .leaf) .leaf)) (.seq .leaf (.seq (.seq .leaf (.block (.sub (fun fr σ => c79_2 run fu fu (fr.getD 0 .any) (fr.getD 1 .any) (fr.getD 5 .any) (fr.getD 22 .any) (fr.getD 23 .any) (fr.getD 24 .any) σ)))) (.sub (fun fr σ => c79_1 run fu (fr.getD 1 .any) (fr.getD 5 .any) σ)))))) (subC [] b79) ([x0, x1] ++ padA (98 - 2)) σ k79 = c79 run fu x0 x1 σ := by kernel_rfl

theorem ok79 {run : FuncId → List AV → Store → Tr R} (hrun : RunOK X0 run) (fu : Nat) (x0 x1 : AV) (σ : Store) : CallOK X0 79 [x0, x1] σ (c79 run fu x0 x1 σ) :=
  KOK.body (fn := Tryz.f79) (c := subC [] b79) (by kernel_rfl) (by kernel_rfl) (by show 2 ≤ 98; decide) (KOK.whole env0 hrun (eq79 run fu x0 x1 σ) ⟨trivial, ⟨⟨trivial, ⟨⟨trivial, trivial⟩, trivial⟩⟩, ⟨trivial, ⟨⟨trivial, (ok79_2 hrun fu)⟩, (ok79_1 hrun fu)⟩⟩⟩⟩)

-- pub-paratext/pub/rscmarkdown.trimLeftSpaceTab

noncomputable def b80 : Code := match Tryz.f80.body with | some c => c | none => .skip

noncomputable def k80 : Kont R := retK Tryz.prog [.tmp 2]

noncomputable def c80_1 (run : FuncId → List AV → Store → Tr R) (fu : Nat) (x0 x3 : AV) (σ : Store) : Tr R :=
  sliceSK x0 (some x3) none fun x24 =>
  .ret (x24, σ)

theorem eq80_1 (run : FuncId → List AV → Store → Tr R) (fu : Nat) (x0 x3 : AV) (σ : Store) : codeK X0 run (.seq .leaf .leaf) (subC [true, true, true] b80) (frS 0 25 [(0, x0), (3, x3)]) σ k80 = c80_1 run fu x0 x3 σ := by kernel_rfl

theorem ok80_1 {run : FuncId → List AV → Store → Tr R} (hrun : RunOK X0 run) (fu : Nat) : ∀ fr σ, KOK X0 25 (subC [true, true, true] b80) fr σ ((fun fr σ => c80_1 run fu (fr.getD 0 .any) (fr.getD 3 .any) σ) fr σ) k80 := fun fr σ =>
  KOK.piece env0 hrun [0, 3] (eq80_1 run fu (fr.getD 0 .any) (fr.getD 3 .any) σ) ⟨trivial, trivial⟩

noncomputable def c80_2b (run : FuncId → List AV → Store → Tr R) (fu : Nat) (s2 : AV → AV → Store → Tr R) (x0 x3 : AV) (σ : Store) : Tr R :=
  lenSK x0 fun x6 =>
  cmpK .lss x3 x6 fun x7 =>
  grdK x7 true σ (fun f => f x0 σ) fun x9 σ1 =>
  grdK x7 true σ1 (fun f => f x3 σ1) fun x10 σ2 =>
  grdK x7 true σ2 (fun f => idxSK x9 x10 fun v => f v σ2) fun x11 σ3 =>
  grdK x7 true σ3 (fun f => cmpK .eql x11 (.int .u8 32) fun v => f v σ3) fun x12 σ4 =>
  grdK x7 true σ4 (fun f => f x12 σ4) fun x13 σ5 =>
  grdK x13 false σ5 (fun f => f x0 σ5) fun x14 σ6 =>
  grdK x13 false σ6 (fun f => f x3 σ6) fun x15 σ7 =>
  grdK x13 false σ7 (fun f => idxSK x14 x15 fun v => f v σ7) fun x16 σ8 =>
  grdK x13 false σ8 (fun f => cmpK .eql x16 (.int .u8 9) fun v => f v σ8) fun x17 σ9 =>
  grdK x7 true σ9 (fun f => pickK x13 (.bool true) x17 fun v => f v σ9) fun x18 σ10 =>
  pickK x7 x18 (.bool false) fun x19 =>
  ifK x19 (
  addK x3 (.int .i64 1) fun x21 =>
  s2 x0 x21 σ10) (
  c80_1 run fu x0 x3 σ10)

noncomputable def c80_2 (run : FuncId → List AV → Store → Tr R) (fu : Nat) : Nat → AV → AV → Store → Tr R
  | 0 => fun _ _ _ => .fail
  | m + 1 => c80_2b run fu (c80_2 run fu m)

theorem eq80_2 (run : FuncId → List AV → Store → Tr R) (fu : Nat) (s2 : AV → AV → Store → Tr R) (x0 x3 : AV) (σ : Store) : codeK X0 run (.seq (.seq .leaf (.cond .leaf .leaf)) (.block .leaf)) (subC [true, true, false, false, false] b80) (frS 0 25 [(0, x0), (3, x3)]) σ (thenK (fun fr σ => s2 (fr.getD 0 .any) (fr.getD 3 .any) σ) (blockK 0 (thenK (fun fr σ => c80_1 run fu (fr.getD 0 .any) (fr.getD 3 .any) σ) k80))) = c80_2b run fu s2 x0 x3 σ := by kernel_rfl

theorem owed80_2 {run : FuncId → List AV → Store → Tr R} (hrun : RunOK X0 run) (fu : Nat) (s2 : AV → AV → Store → Tr R) : Owes X0 run 25 (.seq (.seq .leaf (.cond .leaf .leaf)) (.block .leaf)) (subC [true, true, false, false, false] b80) (thenK (fun fr σ => s2 (fr.getD 0 .any) (fr.getD 3 .any) σ) (blockK 0 (thenK (fun fr σ => c80_1 run fu (fr.getD 0 .any) (fr.getD 3 .any) σ) k80))) :=
  ⟨⟨trivial, ⟨trivial, trivial⟩⟩, trivial⟩

theorem ok80_2 {run : FuncId → List AV → Store → Tr R} (hrun : RunOK X0 run) (fu : Nat) : ∀ fr σ, KOK X0 25 (subC [true, true, false, false] b80) fr σ ((fun fr σ => c80_2 run fu fu (fr.getD 0 .any) (fr.getD 3 .any) σ) fr σ) (blockK 0 (thenK (fun fr σ => c80_1 run fu (fr.getD 0 .any) (fr.getD 3 .any) σ) k80)) := by
  have h := KOK.loop (X := X0) (N := 25) (b := (subC [true, true, false, false, false] b80)) (k := (blockK 0 (thenK (fun fr σ => c80_1 run fu (fr.getD 0 .any) (fr.getD 3 .any) σ) k80))) (u := fun m fr σ => c80_2 run fu m (fr.getD 0 .any) (fr.getD 3 .any) σ) (fun _ _ => rfl) (fun m fr σ => KOK.piece env0 hrun [0, 3] (eq80_2 run fu (c80_2 run fu m) (fr.getD 0 .any) (fr.getD 3 .any) σ) (owed80_2 hrun fu (c80_2 run fu m)))
  exact fun fr σ => h fu fr σ

noncomputable def c80 (run : FuncId → List AV → Store → Tr R) (fu : Nat) (x0 : AV) (σ : Store) : Tr R :=
  c80_2 run fu fu x0 (.int .i64 0) σ

theorem eq80 (run : FuncId → List AV → Store → Tr R) (fu : Nat) (x0 : AV) (σ : Store) : codeK X0 run (.seq .leaf (.seq .leaf (.seq (.block (.sub (fun fr σ => c80_2 run fu fu (fr.getD 0 .any) (fr.getD 3 .any) σ))) (.sub (fun fr σ => c80_1 run fu (fr.getD 0 .any) (fr.getD 3 .any) σ))))) (subC [] b80) ([x0] ++ padA (25 - 1)) σ k80 = c80 run fu x0 σ := by kernel_rfl

theorem ok80 {run : FuncId → List AV → Store → Tr R} (hrun : RunOK X0 run) (fu : Nat) (x0 : AV) (σ : Store) : CallOK X0 80 [x0] σ (c80 run fu x0 σ) :=
  KOK.body (fn := Tryz.f80) (c := subC [] b80) (by kernel_rfl) (by kernel_rfl) (by show 1 ≤ 25; decide) (KOK.whole env0 hrun (eq80 run fu x0 σ) ⟨trivial, ⟨trivial, ⟨(ok80_2 hrun fu), (ok80_1 hrun fu)⟩⟩⟩)

-- pub-paratext/pub/rscmarkdown.newQuote

noncomputable def b81 : Code := match Tryz.f81.body with | some c => c | none => .skip

noncomputable def k81 : Kont R := retK Tryz.prog [.cell 4 100, .tmp 5]

noncomputable def c81 (run : FuncId → List AV → Store → Tr R) (fu : Nat) (x0 x1 : AV) (σ : Store) : Tr R :=
  boxK σ 201 x1 fun x3 σ1 =>
  newK σ1 201 [(.int .i64 0), (.int .i64 0), (.int .i64 0), (.str []), (.int .u8 0)] fun x4 σ2 =>
  ldNK σ2 x3 5 fun x9 =>
  calK run 120 [x9] σ2 fun x10 σ3 =>
  extK x10 0 fun x11 =>
  extK x10 1 fun x12 =>
  newK σ3 201 [(.int .i64 0), (.int .i64 0), (.int .i64 0), (.str []), (.int .u8 0)] fun x6 σ4 =>
  stNK σ4 x6 5 x11 fun _ σ5 =>
  ifK x12 (
  newK σ5 441 [] fun x15 σ6 =>
  calK run 49 [x0, (.iface 219 x15)] σ6 fun x17 σ7 =>
  ldNK σ7 x6 5 fun x18 =>
  stNK σ7 x4 5 x18 fun _ σ8 =>
  ldNK σ8 x4 5 fun v9 =>
  .ret (.tup [v9, (.bool true)], σ8)) (
  ldNK σ5 x3 5 fun x19 =>
  stNK σ5 x4 5 x19 fun _ σ10 =>
  ldNK σ10 x4 5 fun v11 =>
  .ret (.tup [v11, (.bool false)], σ10))

theorem eq81 (run : FuncId → List AV → Store → Tr R) (fu : Nat) (x0 x1 : AV) (σ : Store) : codeK X0 run (.seq .leaf (.seq (.seq .leaf (.seq .leaf (.cond (.seq .leaf (.seq .leaf .leaf)) .leaf))) (.seq .leaf .leaf))) (subC [] b81) ([x0, x1] ++ padA (20 - 2)) σ k81 = c81 run fu x0 x1 σ := by kernel_rfl

theorem ok81 {run : FuncId → List AV → Store → Tr R} (hrun : RunOK X0 run) (fu : Nat) (x0 x1 : AV) (σ : Store) : CallOK X0 81 [x0, x1] σ (c81 run fu x0 x1 σ) :=
  KOK.body (fn := Tryz.f81) (c := subC [] b81) (by kernel_rfl) (by kernel_rfl) (by show 2 ≤ 20; decide) (KOK.whole env0 hrun (eq81 run fu x0 x1 σ) ⟨trivial, ⟨⟨trivial, ⟨trivial, ⟨⟨trivial, ⟨trivial, trivial⟩⟩, trivial⟩⟩⟩, ⟨trivial, trivial⟩⟩⟩)

-- pub-paratext/pub/rscmarkdown.newATXHeading

noncomputable def b82 : Code := match Tryz.f82.body with | some c => c | none => .skip

noncomputable def k82 : Kont R := retK Tryz.prog [.cell 4 100, .tmp 5]

noncomputable def c82_1 (run : FuncId → List AV → Store → Tr R) (fu : Nat) (x3 x4 : AV) (σ : Store) : Tr R :=
  ldNK σ x3 5 fun x81 =>
  stNK σ x4 5 x81 fun _ σ1 =>
  ldNK σ1 x4 5 fun v2 =>
  .ret (.tup [v2, (.bool false)], σ1)

theorem eq82_1 (run : FuncId → List AV → Store → Tr R) (fu : Nat) (x3 x4 : AV) (σ : Store) : codeK X0 run (.seq .leaf .leaf) (subC [true, true, true, true] b82) (frS 0 82 [(3, x3), (4, x4)]) σ k82 = c82_1 run fu x3 x4 σ := by kernel_rfl

theorem ok82_1 {run : FuncId → List AV → Store → Tr R} (hrun : RunOK X0 run) (fu : Nat) : ∀ fr σ, KOK X0 82 (subC [true, true, true, true] b82) fr σ ((fun fr σ => c82_1 run fu (fr.getD 3 .any) (fr.getD 4 .any) σ) fr σ) k82 := fun fr σ =>
  KOK.piece env0 hrun [3, 4] (eq82_1 run fu (fr.getD 3 .any) (fr.getD 4 .any) σ) ⟨trivial, trivial⟩

noncomputable def c82_3 (run : FuncId → List AV → Store → Tr R) (fu : Nat) (x0 x4 x7 x8 x10 : AV) (σ : Store) : Tr R :=
  nchkK x0 fun x60 =>
  addrK x60 3 fun x61 =>
  ld1K σ x61 fun x62 =>
  nchkK x0 fun x64 =>
  addrK x64 3 fun x65 =>
  ld1K σ x65 fun x66 =>
  bldK [(.int .i64 0), (.int .i64 0)] [(0, 1, x62), (1, 1, x66)] fun x67 =>
  newK σ 209 [(.int .i64 0), (.int .i64 0)] fun x13 σ1 =>
  stNK σ1 x13 2 x67 fun _ σ2 =>
  ld1K σ1 x61 fun v3 =>
  must (AV.beq v3 x62) (
  ld1K σ1 x65 fun v4 =>
  must (AV.beq v4 x66) (
  ldNK σ2 x13 2 fun x69 =>
  ld1K σ2 x7 fun x70 =>
  ldNK σ2 x13 2 fun x72 =>
  calK run 128 [x0, x72, x8] σ2 fun x74 σ5 =>
  bldK [(.int .i64 0), (.int .i64 0), (.int .i64 0), .nilp, (.str [])] [(0, 2, x69), (2, 1, x70), (3, 1, x74), (4, 1, x10)] fun x76 =>
  boxK σ5 461 x76 fun x77 σ6 =>
  calK run 127 [x0, (.iface 227 x77)] σ6 fun x79 σ7 =>
  ldNK σ5 x13 2 fun v8 =>
  must (AV.beq v8 x69) (
  ld1K σ5 x7 fun v9 =>
  must (AV.beq v9 x70) (
  bldK [(.int .i64 0), (.int .i64 0), (.int .i64 0), (.str []), (.int .u8 0)] [] fun x80 =>
  stNK σ7 x4 5 x80 fun _ σ10 =>
  ldNK σ10 x4 5 fun v11 =>
  .ret (.tup [v11, (.bool true)], σ10)))))

theorem eq82_3 (run : FuncId → List AV → Store → Tr R) (fu : Nat) (x0 x4 x7 x8 x10 : AV) (σ : Store) : codeK X0 run (.seq .leaf (.seq .leaf (.seq .leaf .leaf))) (subC [true, true, true, false, true, false, true, true, true, true, true] b82) (frS 0 82 [(0, x0), (4, x4), (7, x7), (8, x8), (10, x10)]) σ (thenK (fun fr σ => c82_1 run fu (fr.getD 3 .any) (fr.getD 4 .any) σ) k82) = c82_3 run fu x0 x4 x7 x8 x10 σ := by kernel_rfl

theorem ok82_3 {run : FuncId → List AV → Store → Tr R} (hrun : RunOK X0 run) (fu : Nat) : ∀ fr σ, KOK X0 82 (subC [true, true, true, false, true, false, true, true, true, true, true] b82) fr σ ((fun fr σ => c82_3 run fu (fr.getD 0 .any) (fr.getD 4 .any) (fr.getD 7 .any) (fr.getD 8 .any) (fr.getD 10 .any) σ) fr σ) (thenK (fun fr σ => c82_1 run fu (fr.getD 3 .any) (fr.getD 4 .any) σ) k82) := fun fr σ =>
  KOK.piece env0 hrun [0, 4, 7, 8, 10] (eq82_3 run fu (fr.getD 0 .any) (fr.getD 4 .any) (fr.getD 7 .any) (fr.getD 8 .any) (fr.getD 10 .any) σ) ⟨trivial, ⟨trivial, ⟨trivial, trivial⟩⟩⟩

noncomputable def c82_4b (run : FuncId → List AV → Store → Tr R) (fu : Nat) (s4 : AV → AV → AV → AV → AV → AV → Store → Tr R) (x0 x4 x7 x8 x10 x44 : AV) (σ : Store) : Tr R :=
  genK (nextA σ x44) fun x45 σ1 =>
  extK x45 0 fun x46 =>
  ifK x46 (
  extK x45 2 fun x47 =>
  cmpK .geq x47 (.int .i32 128) fun x49 =>
  grdK x49 false σ1 (fun f => f x47 σ1) fun x51 σ2 =>
  grdK x49 false σ2 (fun f => fitsK .u8 x51 fun v => f v σ2) fun x52 σ3 =>
  grdK x49 false σ3 (fun f => calK run 126 [x52] σ3 f) fun x53 σ4 =>
  grdK x49 false σ4 (fun f => notK x53 fun v => f v σ4) fun x54 σ5 =>
  pickK x49 (.bool true) x54 fun x55 =>
  ifK x55 (
  nchkK x0 fun x57 =>
  addrK x57 6 fun x58 =>
  st1K σ5 x58 (.bool true) fun _ σ6 =>
  s4 x0 x4 x7 x8 x10 x44 σ6) (
  s4 x0 x4 x7 x8 x10 x44 σ5)) (
  c82_3 run fu x0 x4 x7 x8 x10 σ1)

noncomputable def c82_4 (run : FuncId → List AV → Store → Tr R) (fu : Nat) : Nat → AV → AV → AV → AV → AV → AV → Store → Tr R
  | 0 => fun _ _ _ _ _ _ _ => .fail
  | m + 1 => c82_4b run fu (c82_4 run fu m)

theorem eq82_4 (run : FuncId → List AV → Store → Tr R) (fu : Nat) (s4 : AV → AV → AV → AV → AV → AV → Store → Tr R) (x0 x4 x7 x8 x10 x44 : AV) (σ : Store) : codeK X0 run (.seq .leaf (.seq (.cond .leaf .leaf) (.block (.seq .leaf (.seq .leaf (.cond .leaf .leaf)))))) (subC [true, true, true, false, true, false, true, true, true, true, false, true, false, true, true, false, false] b82) (frS 0 82 [(0, x0), (4, x4), (7, x7), (8, x8), (10, x10), (44, x44)]) σ (thenK (fun fr σ => s4 (fr.getD 0 .any) (fr.getD 4 .any) (fr.getD 7 .any) (fr.getD 8 .any) (fr.getD 10 .any) (fr.getD 44 .any) σ) (blockK 0 (thenK (fun fr σ => c82_3 run fu (fr.getD 0 .any) (fr.getD 4 .any) (fr.getD 7 .any) (fr.getD 8 .any) (fr.getD 10 .any) σ) (thenK (fun fr σ => c82_1 run fu (fr.getD 3 .any) (fr.getD 4 .any) σ) k82)))) = c82_4b run fu s4 x0 x4 x7 x8 x10 x44 σ := by kernel_rfl

theorem owed82_4 {run : FuncId → List AV → Store → Tr R} (hrun : RunOK X0 run) (fu : Nat) (s4 : AV → AV → AV → AV → AV → AV → Store → Tr R) : Owes X0 run 82 (.seq .leaf (.seq (.cond .leaf .leaf) (.block (.seq .leaf (.seq .leaf (.cond .leaf .leaf)))))) (subC [true, true, true, false, true, false, true, true, true, true, false, true, false, true, true, false, false] b82) (thenK (fun fr σ => s4 (fr.getD 0 .any) (fr.getD 4 .any) (fr.getD 7 .any) (fr.getD 8 .any) (fr.getD 10 .any) (fr.getD 44 .any) σ) (blockK 0 (thenK (fun fr σ => c82_3 run fu (fr.getD 0 .any) (fr.getD 4 .any) (fr.getD 7 .any) (fr.getD 8 .any) (fr.getD 10 .any) σ) (thenK (fun fr σ => c82_1 run fu (fr.getD 3 .any) (fr.getD 4 .any) σ) k82)))) :=
  ⟨trivial, ⟨⟨trivial, trivial⟩, ⟨trivial, ⟨trivial, ⟨trivial, trivial⟩⟩⟩⟩⟩

theorem ok82_4 {run : FuncId → List AV → Store → Tr R} (hrun : RunOK X0 run) (fu : Nat) : ∀ fr σ, KOK X0 82 (subC [true, true, true, false, true, false, true, true, true, true, false, true, false, true, true, false] b82) fr σ ((fun fr σ => c82_4 run fu fu (fr.getD 0 .any) (fr.getD 4 .any) (fr.getD 7 .any) (fr.getD 8 .any) (fr.getD 10 .any) (fr.getD 44 .any) σ) fr σ) (blockK 0 (thenK (fun fr σ => c82_3 run fu (fr.getD 0 .any) (fr.getD 4 .any) (fr.getD 7 .any) (fr.getD 8 .any) (fr.getD 10 .any) σ) (thenK (fun fr σ => c82_1 run fu (fr.getD 3 .any) (fr.getD 4 .any) σ) k82))) := by
  have h := KOK.loop (X := X0) (N := 82) (b := (subC [true, true, true, false, true, false, true, true, true, true, false, true, false, true, true, false, false] b82)) (k := (blockK 0 (thenK (fun fr σ => c82_3 run fu (fr.getD 0 .any) (fr.getD 4 .any) (fr.getD 7 .any) (fr.getD 8 .any) (fr.getD 10 .any) σ) (thenK (fun fr σ => c82_1 run fu (fr.getD 3 .any) (fr.getD 4 .any) σ) k82)))) (u := fun m fr σ => c82_4 run fu m (fr.getD 0 .any) (fr.getD 4 .any) (fr.getD 7 .any) (fr.getD 8 .any) (fr.getD 10 .any) (fr.getD 44 .any) σ) (fun _ _ => rfl) (fun m fr σ => KOK.piece env0 hrun [0, 4, 7, 8, 10, 44] (eq82_4 run fu (c82_4 run fu m) (fr.getD 0 .any) (fr.getD 4 .any) (fr.getD 7 .any) (fr.getD 8 .any) (fr.getD 10 .any) (fr.getD 44 .any) σ) (owed82_4 hrun fu (c82_4 run fu m)))
  exact fun fr σ => h fu fr σ

noncomputable def c82_2 (run : FuncId → List AV → Store → Tr R) (fu : Nat) (x0 x4 x7 x8 : AV) (σ : Store) : Tr R :=
  nchkK x0 fun x31 =>
  addrK x31 0 fun x32 =>
  ld1K σ x32 fun x33 =>
  nchkK x33 fun x34 =>
  addrK x34 0 fun x35 =>
  ld1K σ x35 fun x36 =>
  ifK x36 (
  calK run 125 [x0, x8] σ fun x40 σ1 =>
  extK x40 0 fun x41 =>
  extK x40 1 fun x42 =>
  genK (rangeA Tryz.prog σ1 9 x41) fun x44 σ2 =>
  c82_4 run fu fu x0 x4 x7 x42 x41 x44 σ2) (
  c82_3 run fu x0 x4 x7 x8 (.str []) σ)

theorem eq82_2 (run : FuncId → List AV → Store → Tr R) (fu : Nat) (x0 x4 x7 x8 : AV) (σ : Store) : codeK X0 run (.seq .leaf (.seq (.seq .leaf (.cond (.seq .leaf (.seq .leaf (.block (.sub (fun fr σ => c82_4 run fu fu (fr.getD 0 .any) (fr.getD 4 .any) (fr.getD 7 .any) (fr.getD 8 .any) (fr.getD 10 .any) (fr.getD 44 .any) σ))))) .leaf)) (.sub (fun fr σ => c82_3 run fu (fr.getD 0 .any) (fr.getD 4 .any) (fr.getD 7 .any) (fr.getD 8 .any) (fr.getD 10 .any) σ)))) (subC [true, true, true, false, true, false, true, true, true] b82) (frS 0 82 [(0, x0), (4, x4), (7, x7), (8, x8)]) σ (thenK (fun fr σ => c82_1 run fu (fr.getD 3 .any) (fr.getD 4 .any) σ) k82) = c82_2 run fu x0 x4 x7 x8 σ := by kernel_rfl

theorem ok82_2 {run : FuncId → List AV → Store → Tr R} (hrun : RunOK X0 run) (fu : Nat) : ∀ fr σ, KOK X0 82 (subC [true, true, true, false, true, false, true, true, true] b82) fr σ ((fun fr σ => c82_2 run fu (fr.getD 0 .any) (fr.getD 4 .any) (fr.getD 7 .any) (fr.getD 8 .any) σ) fr σ) (thenK (fun fr σ => c82_1 run fu (fr.getD 3 .any) (fr.getD 4 .any) σ) k82) := fun fr σ =>
  KOK.piece env0 hrun [0, 4, 7, 8] (eq82_2 run fu (fr.getD 0 .any) (fr.getD 4 .any) (fr.getD 7 .any) (fr.getD 8 .any) σ) ⟨trivial, ⟨⟨trivial, ⟨⟨trivial, ⟨trivial, (ok82_4 hrun fu)⟩⟩, trivial⟩⟩, (ok82_3 hrun fu)⟩⟩

noncomputable def c82 (run : FuncId → List AV → Store → Tr R) (fu : Nat) (x0 x1 : AV) (σ : Store) : Tr R :=
  boxK σ 201 x1 fun x3 σ1 =>
  newK σ1 201 [(.int .i64 0), (.int .i64 0), (.int .i64 0), (.str []), (.int .u8 0)] fun x4 σ2 =>
  ldNK σ2 x3 5 fun x14 =>
  newK σ2 201 [(.int .i64 0), (.int .i64 0), (.int .i64 0), (.str []), (.int .u8 0)] fun x6 σ3 =>
  stNK σ3 x6 5 x14 fun _ σ4 =>
  newK σ4 7 [(.int .i64 0)] fun x7 σ5 =>
  calK run 121 [x6, x7] σ5 fun x15 σ6 =>
  ifK x15 (
  calK run 122 [x6] σ6 fun x16 σ7 =>
  calK run 123 [x16] σ7 fun x18 σ8 =>
  calK run 124 [x18, (.str [35])] σ8 fun x20 σ9 =>
  calK run 123 [x20] σ9 fun x23 σ10 =>
  neSK x20 x23 fun x24 =>
  grdK x24 false σ10 (fun f => f x20 σ10) fun x26 σ11 =>
  grdK x24 false σ11 (fun f => eqSK x26 (.str []) fun v => f v σ11) fun x27 σ12 =>
  pickK x24 (.bool true) x27 fun x28 =>
  ifK x28 (
  c82_2 run fu x0 x4 x7 x20 σ12) (
  c82_2 run fu x0 x4 x7 x18 σ12)) (
  c82_1 run fu x3 x4 σ6)

theorem eq82 (run : FuncId → List AV → Store → Tr R) (fu : Nat) (x0 x1 : AV) (σ : Store) : codeK X0 run (.seq .leaf (.seq .leaf (.seq .leaf (.seq (.seq .leaf (.cond (.seq .leaf (.seq .leaf (.seq (.seq .leaf (.seq .leaf (.cond .leaf .leaf))) (.sub (fun fr σ => c82_2 run fu (fr.getD 0 .any) (fr.getD 4 .any) (fr.getD 7 .any) (fr.getD 8 .any) σ))))) .leaf)) (.sub (fun fr σ => c82_1 run fu (fr.getD 3 .any) (fr.getD 4 .any) σ)))))) (subC [] b82) ([x0, x1] ++ padA (82 - 2)) σ k82 = c82 run fu x0 x1 σ := by kernel_rfl

theorem ok82 {run : FuncId → List AV → Store → Tr R} (hrun : RunOK X0 run) (fu : Nat) (x0 x1 : AV) (σ : Store) : CallOK X0 82 [x0, x1] σ (c82 run fu x0 x1 σ) :=
  KOK.body (fn := Tryz.f82) (c := subC [] b82) (by kernel_rfl) (by kernel_rfl) (by show 2 ≤ 82; decide) (KOK.whole env0 hrun (eq82 run fu x0 x1 σ) ⟨trivial, ⟨trivial, ⟨trivial, ⟨⟨trivial, ⟨⟨trivial, ⟨trivial, ⟨⟨trivial, ⟨trivial, ⟨trivial, trivial⟩⟩⟩, (ok82_2 hrun fu)⟩⟩⟩, trivial⟩⟩, (ok82_1 hrun fu)⟩⟩⟩⟩)

-- pub-paratext/pub/rscmarkdown.newSetextHeading

noncomputable def b83 : Code := match Tryz.f83.body with | some c => c | none => .skip

noncomputable def k83 : Kont R := retK Tryz.prog [.cell 4 100, .tmp 5]

noncomputable def c83 (run : FuncId → List AV → Store → Tr R) (fu : Nat) (x0 x1 : AV) (σ : Store) : Tr R :=
  boxK σ 201 x1 fun x3 σ1 =>
  newK σ1 201 [(.int .i64 0), (.int .i64 0), (.int .i64 0), (.str []), (.int .u8 0)] fun x4 σ2 =>
  newK σ2 7 [(.int .i64 0)] fun x6 σ3 =>
  ldNK σ3 x3 5 fun x10 =>
  newK σ3 201 [(.int .i64 0), (.int .i64 0), (.int .i64 0), (.str []), (.int .u8 0)] fun x7 σ4 =>
  stNK σ4 x7 5 x10 fun _ σ5 =>
  calK run 129 [x0] σ5 fun x12 σ6 =>
  calK run 89 [x0] σ6 fun x14 σ7 =>
  eqOK (eqIfc Tryz.prog false) x12 (.iface 156 x14) fun x16 =>
  grdK x16 true σ7 (fun f => calK run 130 [x7, x6] σ7 f) fun x18 σ8 =>
  pickK x16 x18 (.bool false) fun x19 =>
  ifK x19 (
  calK run 59 [x0] σ8 fun x21 σ9 =>
  calK run 131 [x0] σ9 fun x24 σ10 =>
  tasK (some .nilp) 147 true x24 fun x25 =>
  extK x25 0 fun x26 =>
  extK x25 1 fun x27 =>
  notK x27 fun x29 =>
  ifK x29 (
  ldNK σ10 x3 5 fun x30 =>
  stNK σ10 x4 5 x30 fun _ σ11 =>
  ldNK σ11 x4 5 fun v12 =>
  .ret (.tup [v12, (.bool false)], σ11)) (
  calK run 132 [x0] σ10 fun x32 σ13 =>
  nchkK x26 fun x35 =>
  addrK x35 0 fun x36 =>
  addrK x36 0 fun x37 =>
  ld1K σ13 x37 fun x38 =>
  nchkK x0 fun x40 =>
  addrK x40 3 fun x41 =>
  ld1K σ13 x41 fun x42 =>
  bldK [(.int .i64 0), (.int .i64 0)] [(0, 1, x38), (1, 1, x42)] fun x43 =>
  ld1K σ13 x6 fun x44 =>
  nchkK x26 fun x46 =>
  addrK x46 2 fun x47 =>
  ld1K σ13 x47 fun x48 =>
  bldK [(.int .i64 0), (.int .i64 0), (.int .i64 0), .nilp, (.str [])] [(0, 2, x43), (2, 1, x44), (3, 1, x48), (4, 1, (.str []))] fun x49 =>
  boxK σ13 461 x49 fun x50 σ14 =>
  calK run 127 [x0, (.iface 227 x50)] σ14 fun x52 σ15 =>
  bldK [(.int .i64 0), (.int .i64 0), (.int .i64 0), (.str []), (.int .u8 0)] [] fun x53 =>
  stNK σ15 x4 5 x53 fun _ σ16 =>
  ldNK σ16 x4 5 fun v17 =>
  .ret (.tup [v17, (.bool true)], σ16))) (
  ldNK σ8 x3 5 fun x54 =>
  stNK σ8 x4 5 x54 fun _ σ18 =>
  ldNK σ18 x4 5 fun v19 =>
  .ret (.tup [v19, (.bool false)], σ18))

theorem eq83 (run : FuncId → List AV → Store → Tr R) (fu : Nat) (x0 x1 : AV) (σ : Store) : codeK X0 run (.seq .leaf (.seq .leaf (.seq .leaf (.seq (.seq .leaf (.cond (.seq .leaf (.seq .leaf (.seq (.seq .leaf (.cond (.seq .leaf .leaf) .leaf)) (.seq .leaf (.seq .leaf (.seq .leaf .leaf)))))) .leaf)) (.seq .leaf .leaf))))) (subC [] b83) ([x0, x1] ++ padA (55 - 2)) σ k83 = c83 run fu x0 x1 σ := by kernel_rfl

theorem ok83 {run : FuncId → List AV → Store → Tr R} (hrun : RunOK X0 run) (fu : Nat) (x0 x1 : AV) (σ : Store) : CallOK X0 83 [x0, x1] σ (c83 run fu x0 x1 σ) :=
  KOK.body (fn := Tryz.f83) (c := subC [] b83) (by kernel_rfl) (by kernel_rfl) (by show 2 ≤ 55; decide) (KOK.whole env0 hrun (eq83 run fu x0 x1 σ) ⟨trivial, ⟨trivial, ⟨trivial, ⟨⟨trivial, ⟨⟨trivial, ⟨trivial, ⟨⟨trivial, ⟨⟨trivial, trivial⟩, trivial⟩⟩, ⟨trivial, ⟨trivial, ⟨trivial, trivial⟩⟩⟩⟩⟩⟩, trivial⟩⟩, ⟨trivial, trivial⟩⟩⟩⟩⟩)

-- pub-paratext/pub/rscmarkdown.newHR

noncomputable def b84 : Code := match Tryz.f84.body with | some c => c | none => .skip

noncomputable def k84 : Kont R := retK Tryz.prog [.cell 4 100, .tmp 5]

noncomputable def c84 (run : FuncId → List AV → Store → Tr R) (fu : Nat) (x0 x1 : AV) (σ : Store) : Tr R :=
  boxK σ 201 x1 fun x3 σ1 =>
  newK σ1 201 [(.int .i64 0), (.int .i64 0), (.int .i64 0), (.str []), (.int .u8 0)] fun x4 σ2 =>
  ldNK σ2 x3 5 fun x6 =>
  calK run 133 [x6] σ2 fun x7 σ3 =>
  ifK x7 (
  nchkK x0 fun x10 =>
  addrK x10 3 fun x11 =>
  ld1K σ3 x11 fun x12 =>
  nchkK x0 fun x14 =>
  addrK x14 3 fun x15 =>
  ld1K σ3 x15 fun x16 =>
  bldK [(.int .i64 0), (.int .i64 0)] [(0, 1, x12), (1, 1, x16)] fun x17 =>
  calK run 122 [x3] σ3 fun x18 σ4 =>
  bldK [(.int .i64 0), (.int .i64 0), (.str [])] [(0, 2, x17), (2, 1, x18)] fun x19 =>
  boxK σ4 473 x19 fun x20 σ5 =>
  calK run 127 [x0, (.iface 234 x20)] σ5 fun x22 σ6 =>
  ld1K σ4 x11 fun v7 =>
  must (AV.beq v7 x12) (
  ld1K σ4 x15 fun v8 =>
  must (AV.beq v8 x16) (
  bldK [(.int .i64 0), (.int .i64 0), (.int .i64 0), (.str []), (.int .u8 0)] [] fun x23 =>
  stNK σ6 x4 5 x23 fun _ σ9 =>
  ldNK σ9 x4 5 fun v10 =>
  .ret (.tup [v10, (.bool true)], σ9)))) (
  ldNK σ3 x3 5 fun x24 =>
  stNK σ3 x4 5 x24 fun _ σ11 =>
  ldNK σ11 x4 5 fun v12 =>
  .ret (.tup [v12, (.bool false)], σ11))

theorem eq84 (run : FuncId → List AV → Store → Tr R) (fu : Nat) (x0 x1 : AV) (σ : Store) : codeK X0 run (.seq .leaf (.seq (.seq .leaf (.cond (.seq .leaf (.seq .leaf .leaf)) .leaf)) (.seq .leaf .leaf))) (subC [] b84) ([x0, x1] ++ padA (25 - 2)) σ k84 = c84 run fu x0 x1 σ := by kernel_rfl

theorem ok84 {run : FuncId → List AV → Store → Tr R} (hrun : RunOK X0 run) (fu : Nat) (x0 x1 : AV) (σ : Store) : CallOK X0 84 [x0, x1] σ (c84 run fu x0 x1 σ) :=
  KOK.body (fn := Tryz.f84) (c := subC [] b84) (by kernel_rfl) (by kernel_rfl) (by show 2 ≤ 25; decide) (KOK.whole env0 hrun (eq84 run fu x0 x1 σ) ⟨trivial, ⟨⟨trivial, ⟨⟨trivial, ⟨trivial, trivial⟩⟩, trivial⟩⟩, ⟨trivial, trivial⟩⟩⟩)

-- pub-paratext/pub/rscmarkdown.newListItem

noncomputable def b85 : Code := match Tryz.f85.body with | some c => c | none => .skip

noncomputable def k85 : Kont R := retK Tryz.prog [.cell 4 100, .tmp 5]

noncomputable def c85 (run : FuncId → List AV → Store → Tr R) (fu : Nat) (x0 x1 : AV) (σ : Store) : Tr R :=
  boxK σ 201 x1 fun x3 σ1 =>
  newK σ1 201 [(.int .i64 0), (.int .i64 0), (.int .i64 0), (.str []), (.int .u8 0)] fun x4 σ2 =>
  calK run 134 [x0] σ2 fun x10 σ3 =>
  tasK (some .nilp) 237 true x10 fun x11 =>
  extK x11 0 fun x12 =>
  extK x11 1 fun x13 =>
  grdK x13 true σ3 (fun f => f x12 σ3) fun x16 σ4 =>
  grdK x13 true σ4 (fun f => nchkK x16 fun v => f v σ4) fun x17 σ5 =>
  grdK x13 true σ5 (fun f => addrK x17 4 fun v => f v σ5) fun x18 σ6 =>
  grdK x13 true σ6 (fun f => ld1K σ6 x18 fun v => f v σ6) fun x19 σ7 =>
  grdK x13 true σ7 (fun f => neOK (nilEq nilF) x19 .nilf fun v => f v σ7) fun x20 σ8 =>
  pickK x13 x20 (.bool false) fun x21 =>
  ifK x21 (
  nchkK x12 fun x23 =>
  addrK x23 4 fun x24 =>
  ld1K σ8 x24 fun x25 =>
  dynK X0 run x25 [] σ8 fun x26 σ9 =>
  stNK σ9 x3 5 x26 fun _ σ10 =>
  nchkK x12 fun x28 =>
  addrK x28 4 fun x29 =>
  st1K σ10 x29 .nilf fun _ σ11 =>
  ldNK σ11 x3 5 fun x30 =>
  stNK σ11 x4 5 x30 fun _ σ12 =>
  ldNK σ12 x4 5 fun v13 =>
  .ret (.tup [v13, (.bool true)], σ12)) (
  calK run 135 [x0, x3] σ8 fun x32 σ14 =>
  ifK x32 (
  ldNK σ14 x3 5 fun x33 =>
  stNK σ14 x4 5 x33 fun _ σ15 =>
  ldNK σ15 x4 5 fun v16 =>
  .ret (.tup [v16, (.bool true)], σ15)) (
  ldNK σ14 x3 5 fun x34 =>
  stNK σ14 x4 5 x34 fun _ σ17 =>
  ldNK σ17 x4 5 fun v18 =>
  .ret (.tup [v18, (.bool false)], σ17)))

theorem eq85 (run : FuncId → List AV → Store → Tr R) (fu : Nat) (x0 x1 : AV) (σ : Store) : codeK X0 run (.seq .leaf (.seq (.seq .leaf (.seq .leaf (.cond (.seq .leaf (.seq .leaf (.seq .leaf .leaf))) .leaf))) (.seq (.seq .leaf (.cond (.seq .leaf .leaf) .leaf)) (.seq .leaf .leaf)))) (subC [] b85) ([x0, x1] ++ padA (35 - 2)) σ k85 = c85 run fu x0 x1 σ := by kernel_rfl

theorem ok85 {run : FuncId → List AV → Store → Tr R} (hrun : RunOK X0 run) (fu : Nat) (x0 x1 : AV) (σ : Store) : CallOK X0 85 [x0, x1] σ (c85 run fu x0 x1 σ) :=
  KOK.body (fn := Tryz.f85) (c := subC [] b85) (by kernel_rfl) (by kernel_rfl) (by show 2 ≤ 35; decide) (KOK.whole env0 hrun (eq85 run fu x0 x1 σ) ⟨trivial, ⟨⟨trivial, ⟨trivial, ⟨⟨trivial, ⟨trivial, ⟨trivial, trivial⟩⟩⟩, trivial⟩⟩⟩, ⟨⟨trivial, ⟨⟨trivial, trivial⟩, trivial⟩⟩, ⟨trivial, trivial⟩⟩⟩⟩)

-- pub-paratext/pub/rscmarkdown.newHTML

noncomputable def b86 : Code := match Tryz.f86.body with | some c => c | none => .skip

noncomputable def k86 : Kont R := retK Tryz.prog [.cell 4 100, .tmp 5]

noncomputable def c86 (run : FuncId → List AV → Store → Tr R) (fu : Nat) (x0 x1 : AV) (σ : Store) : Tr R :=
  boxK σ 201 x1 fun x3 σ1 =>
  newK σ1 201 [(.int .i64 0), (.int .i64 0), (.int .i64 0), (.str []), (.int .u8 0)] fun x4 σ2 =>
  ldNK σ2 x3 5 fun x7 =>
  newK σ2 201 [(.int .i64 0), (.int .i64 0), (.int .i64 0), (.str []), (.int .u8 0)] fun x6 σ3 =>
  stNK σ3 x6 5 x7 fun _ σ4 =>
  calK run 136 [x0, x6] σ4 fun x9 σ5 =>
  ifK x9 (
  bldK [(.int .i64 0), (.int .i64 0), (.int .i64 0), (.str []), (.int .u8 0)] [] fun x10 =>
  stNK σ5 x4 5 x10 fun _ σ6 =>
  ldNK σ6 x4 5 fun v7 =>
  .ret (.tup [v7, (.bool true)], σ6)) (
  ldNK σ5 x3 5 fun x11 =>
  stNK σ5 x4 5 x11 fun _ σ8 =>
  ldNK σ8 x4 5 fun v9 =>
  .ret (.tup [v9, (.bool false)], σ8))

theorem eq86 (run : FuncId → List AV → Store → Tr R) (fu : Nat) (x0 x1 : AV) (σ : Store) : codeK X0 run (.seq .leaf (.seq .leaf (.seq (.seq .leaf (.cond (.seq .leaf .leaf) .leaf)) (.seq .leaf .leaf)))) (subC [] b86) ([x0, x1] ++ padA (12 - 2)) σ k86 = c86 run fu x0 x1 σ := by kernel_rfl

theorem ok86 {run : FuncId → List AV → Store → Tr R} (hrun : RunOK X0 run) (fu : Nat) (x0 x1 : AV) (σ : Store) : CallOK X0 86 [x0, x1] σ (c86 run fu x0 x1 σ) :=
  KOK.body (fn := Tryz.f86) (c := subC [] b86) (by kernel_rfl) (by kernel_rfl) (by show 2 ≤ 12; decide) (KOK.whole env0 hrun (eq86 run fu x0 x1 σ) ⟨trivial, ⟨trivial, ⟨⟨trivial, ⟨⟨trivial, trivial⟩, trivial⟩⟩, ⟨trivial, trivial⟩⟩⟩⟩)

-- pub-paratext/pub/rscmarkdown.newFence

noncomputable def b87 : Code := match Tryz.f87.body with | some c => c | none => .skip

noncomputable def k87 : Kont R := retK Tryz.prog [.cell 4 100, .tmp 5]

noncomputable def c87_1 (run : FuncId → List AV → Store → Tr R) (fu : Nat) (x3 x4 : AV) (σ : Store) : Tr R :=
  ldNK σ x3 5 fun x56 =>
  stNK σ x4 5 x56 fun _ σ1 =>
  ldNK σ1 x4 5 fun v2 =>
  .ret (.tup [v2, (.bool false)], σ1)

theorem eq87_1 (run : FuncId → List AV → Store → Tr R) (fu : Nat) (x3 x4 : AV) (σ : Store) : codeK X0 run (.seq .leaf .leaf) (subC [true, true, true, true, true] b87) (frS 0 57 [(3, x3), (4, x4)]) σ k87 = c87_1 run fu x3 x4 σ := by kernel_rfl

theorem ok87_1 {run : FuncId → List AV → Store → Tr R} (hrun : RunOK X0 run) (fu : Nat) : ∀ fr σ, KOK X0 57 (subC [true, true, true, true, true] b87) fr σ ((fun fr σ => c87_1 run fu (fr.getD 3 .any) (fr.getD 4 .any) σ) fr σ) k87 := fun fr σ =>
  KOK.piece env0 hrun [3, 4] (eq87_1 run fu (fr.getD 3 .any) (fr.getD 4 .any) σ) ⟨trivial, trivial⟩

noncomputable def c87_3 (run : FuncId → List AV → Store → Tr R) (fu : Nat) (x0 x4 x6 x7 x8 : AV) (σ : Store) : Tr R :=
  ld1K σ x6 fun x48 =>
  ld1K σ x7 fun x49 =>
  ld1K σ x8 fun x50 =>
  bldK [(.str []), (.str []), (.int .i64 0), .nils] [(0, 1, x48), (1, 1, x49), (2, 1, x50), (3, 1, .nils)] fun x51 =>
  boxK σ 497 x51 fun x52 σ1 =>
  calK run 49 [x0, (.iface 246 x52)] σ1 fun x54 σ2 =>
  bldK [(.int .i64 0), (.int .i64 0), (.int .i64 0), (.str []), (.int .u8 0)] [] fun x55 =>
  stNK σ2 x4 5 x55 fun _ σ3 =>
  ldNK σ3 x4 5 fun v4 =>
  .ret (.tup [v4, (.bool true)], σ3)

theorem eq87_3 (run : FuncId → List AV → Store → Tr R) (fu : Nat) (x0 x4 x6 x7 x8 : AV) (σ : Store) : codeK X0 run (.seq .leaf (.seq .leaf .leaf)) (subC [true, true, true, true, false, true, false, true, true] b87) (frS 0 57 [(0, x0), (4, x4), (6, x6), (7, x7), (8, x8)]) σ (thenK (fun fr σ => c87_1 run fu (fr.getD 3 .any) (fr.getD 4 .any) σ) k87) = c87_3 run fu x0 x4 x6 x7 x8 σ := by kernel_rfl

theorem ok87_3 {run : FuncId → List AV → Store → Tr R} (hrun : RunOK X0 run) (fu : Nat) : ∀ fr σ, KOK X0 57 (subC [true, true, true, true, false, true, false, true, true] b87) fr σ ((fun fr σ => c87_3 run fu (fr.getD 0 .any) (fr.getD 4 .any) (fr.getD 6 .any) (fr.getD 7 .any) (fr.getD 8 .any) σ) fr σ) (thenK (fun fr σ => c87_1 run fu (fr.getD 3 .any) (fr.getD 4 .any) σ) k87) := fun fr σ =>
  KOK.piece env0 hrun [0, 4, 6, 7, 8] (eq87_3 run fu (fr.getD 0 .any) (fr.getD 4 .any) (fr.getD 6 .any) (fr.getD 7 .any) (fr.getD 8 .any) σ) ⟨trivial, ⟨trivial, trivial⟩⟩

noncomputable def c87_4b (run : FuncId → List AV → Store → Tr R) (fu : Nat) (s4 : AV → AV → AV → AV → AV → AV → Store → Tr R) (x0 x4 x6 x7 x8 x36 : AV) (σ : Store) : Tr R :=
  genK (nextA σ x36) fun x37 σ1 =>
  extK x37 0 fun x38 =>
  ifK x38 (
  extK x37 2 fun x39 =>
  calK run 102 [x39] σ1 fun x41 σ2 =>
  ifK x41 (
  cmpK .neq x39 (.int .i32 32) fun x43 =>
  ifK x43 (
  nchkK x0 fun x45 =>
  addrK x45 6 fun x46 =>
  st1K σ2 x46 (.bool true) fun _ σ3 =>
  c87_3 run fu x0 x4 x6 x7 x8 σ3) (
  c87_3 run fu x0 x4 x6 x7 x8 σ2)) (
  s4 x0 x4 x6 x7 x8 x36 σ2)) (
  c87_3 run fu x0 x4 x6 x7 x8 σ1)

noncomputable def c87_4 (run : FuncId → List AV → Store → Tr R) (fu : Nat) : Nat → AV → AV → AV → AV → AV → AV → Store → Tr R
  | 0 => fun _ _ _ _ _ _ _ => .fail
  | m + 1 => c87_4b run fu (c87_4 run fu m)

theorem eq87_4 (run : FuncId → List AV → Store → Tr R) (fu : Nat) (s4 : AV → AV → AV → AV → AV → AV → Store → Tr R) (x0 x4 x6 x7 x8 x36 : AV) (σ : Store) : codeK X0 run (.seq .leaf (.seq (.cond .leaf .leaf) (.block (.seq .leaf (.seq .leaf (.cond (.seq (.seq .leaf (.cond .leaf .leaf)) .leaf) .leaf)))))) (subC [true, true, true, true, false, true, false, true, false, true, false, false] b87) (frS 0 57 [(0, x0), (4, x4), (6, x6), (7, x7), (8, x8), (36, x36)]) σ (thenK (fun fr σ => s4 (fr.getD 0 .any) (fr.getD 4 .any) (fr.getD 6 .any) (fr.getD 7 .any) (fr.getD 8 .any) (fr.getD 36 .any) σ) (blockK 0 (thenK (fun fr σ => c87_3 run fu (fr.getD 0 .any) (fr.getD 4 .any) (fr.getD 6 .any) (fr.getD 7 .any) (fr.getD 8 .any) σ) (thenK (fun fr σ => c87_1 run fu (fr.getD 3 .any) (fr.getD 4 .any) σ) k87)))) = c87_4b run fu s4 x0 x4 x6 x7 x8 x36 σ := by kernel_rfl

theorem owed87_4 {run : FuncId → List AV → Store → Tr R} (hrun : RunOK X0 run) (fu : Nat) (s4 : AV → AV → AV → AV → AV → AV → Store → Tr R) : Owes X0 run 57 (.seq .leaf (.seq (.cond .leaf .leaf) (.block (.seq .leaf (.seq .leaf (.cond (.seq (.seq .leaf (.cond .leaf .leaf)) .leaf) .leaf)))))) (subC [true, true, true, true, false, true, false, true, false, true, false, false] b87) (thenK (fun fr σ => s4 (fr.getD 0 .any) (fr.getD 4 .any) (fr.getD 6 .any) (fr.getD 7 .any) (fr.getD 8 .any) (fr.getD 36 .any) σ) (blockK 0 (thenK (fun fr σ => c87_3 run fu (fr.getD 0 .any) (fr.getD 4 .any) (fr.getD 6 .any) (fr.getD 7 .any) (fr.getD 8 .any) σ) (thenK (fun fr σ => c87_1 run fu (fr.getD 3 .any) (fr.getD 4 .any) σ) k87)))) :=
  ⟨trivial, ⟨⟨trivial, trivial⟩, ⟨trivial, ⟨trivial, ⟨⟨⟨trivial, ⟨trivial, trivial⟩⟩, trivial⟩, trivial⟩⟩⟩⟩⟩

theorem ok87_4 {run : FuncId → List AV → Store → Tr R} (hrun : RunOK X0 run) (fu : Nat) : ∀ fr σ, KOK X0 57 (subC [true, true, true, true, false, true, false, true, false, true, false] b87) fr σ ((fun fr σ => c87_4 run fu fu (fr.getD 0 .any) (fr.getD 4 .any) (fr.getD 6 .any) (fr.getD 7 .any) (fr.getD 8 .any) (fr.getD 36 .any) σ) fr σ) (blockK 0 (thenK (fun fr σ => c87_3 run fu (fr.getD 0 .any) (fr.getD 4 .any) (fr.getD 6 .any) (fr.getD 7 .any) (fr.getD 8 .any) σ) (thenK (fun fr σ => c87_1 run fu (fr.getD 3 .any) (fr.getD 4 .any) σ) k87))) := by
  have h := KOK.loop (X := X0) (N := 57) (b := (subC [true, true, true, true, false, true, false, true, false, true, false, false] b87)) (k := (blockK 0 (thenK (fun fr σ => c87_3 run fu (fr.getD 0 .any) (fr.getD 4 .any) (fr.getD 6 .any) (fr.getD 7 .any) (fr.getD 8 .any) σ) (thenK (fun fr σ => c87_1 run fu (fr.getD 3 .any) (fr.getD 4 .any) σ) k87)))) (u := fun m fr σ => c87_4 run fu m (fr.getD 0 .any) (fr.getD 4 .any) (fr.getD 6 .any) (fr.getD 7 .any) (fr.getD 8 .any) (fr.getD 36 .any) σ) (fun _ _ => rfl) (fun m fr σ => KOK.piece env0 hrun [0, 4, 6, 7, 8, 36] (eq87_4 run fu (c87_4 run fu m) (fr.getD 0 .any) (fr.getD 4 .any) (fr.getD 6 .any) (fr.getD 7 .any) (fr.getD 8 .any) (fr.getD 36 .any) σ) (owed87_4 hrun fu (c87_4 run fu m)))
  exact fun fr σ => h fu fr σ

noncomputable def c87_2 (run : FuncId → List AV → Store → Tr R) (fu : Nat) (x0 x4 x6 x7 x8 : AV) (σ : Store) : Tr R :=
  ld1K σ x7 fun x35 =>
  genK (rangeA Tryz.prog σ 9 x35) fun x36 σ1 =>
  c87_4 run fu fu x0 x4 x6 x7 x8 x36 σ1

theorem eq87_2 (run : FuncId → List AV → Store → Tr R) (fu : Nat) (x0 x4 x6 x7 x8 : AV) (σ : Store) : codeK X0 run (.seq (.seq .leaf (.block (.sub (fun fr σ => c87_4 run fu fu (fr.getD 0 .any) (fr.getD 4 .any) (fr.getD 6 .any) (fr.getD 7 .any) (fr.getD 8 .any) (fr.getD 36 .any) σ)))) (.sub (fun fr σ => c87_3 run fu (fr.getD 0 .any) (fr.getD 4 .any) (fr.getD 6 .any) (fr.getD 7 .any) (fr.getD 8 .any) σ))) (subC [true, true, true, true, false, true, false, true] b87) (frS 0 57 [(0, x0), (4, x4), (6, x6), (7, x7), (8, x8)]) σ (thenK (fun fr σ => c87_1 run fu (fr.getD 3 .any) (fr.getD 4 .any) σ) k87) = c87_2 run fu x0 x4 x6 x7 x8 σ := by kernel_rfl

theorem ok87_2 {run : FuncId → List AV → Store → Tr R} (hrun : RunOK X0 run) (fu : Nat) : ∀ fr σ, KOK X0 57 (subC [true, true, true, true, false, true, false, true] b87) fr σ ((fun fr σ => c87_2 run fu (fr.getD 0 .any) (fr.getD 4 .any) (fr.getD 6 .any) (fr.getD 7 .any) (fr.getD 8 .any) σ) fr σ) (thenK (fun fr σ => c87_1 run fu (fr.getD 3 .any) (fr.getD 4 .any) σ) k87) := fun fr σ =>
  KOK.piece env0 hrun [0, 4, 6, 7, 8] (eq87_2 run fu (fr.getD 0 .any) (fr.getD 4 .any) (fr.getD 6 .any) (fr.getD 7 .any) (fr.getD 8 .any) σ) ⟨⟨trivial, (ok87_4 hrun fu)⟩, (ok87_3 hrun fu)⟩

noncomputable def c87 (run : FuncId → List AV → Store → Tr R) (fu : Nat) (x0 x1 : AV) (σ : Store) : Tr R :=
  boxK σ 201 x1 fun x3 σ1 =>
  newK σ1 201 [(.int .i64 0), (.int .i64 0), (.int .i64 0), (.str []), (.int .u8 0)] fun x4 σ2 =>
  newK σ2 19 [(.str [])] fun x6 σ3 =>
  newK σ3 19 [(.str [])] fun x7 σ4 =>
  newK σ4 7 [(.int .i64 0)] fun x8 σ5 =>
  ldNK σ5 x3 5 fun x12 =>
  newK σ5 201 [(.int .i64 0), (.int .i64 0), (.int .i64 0), (.str []), (.int .u8 0)] fun x9 σ6 =>
  stNK σ6 x9 5 x12 fun _ σ7 =>
  calK run 137 [x9, x6, x7, x8] σ7 fun x13 σ8 =>
  ifK x13 (
  ld1K σ8 x6 fun x14 =>
  idxSK x14 (.int .i64 0) fun x15 =>
  cmpK .eql x15 (.int .u8 126) fun x16 =>
  grdK x16 true σ8 (fun f => ld1K σ8 x7 fun v => f v σ8) fun x18 σ9 =>
  grdK x16 true σ9 (fun f => neSK x18 (.str []) fun v => f v σ9) fun x19 σ10 =>
  pickK x16 x19 (.bool false) fun x20 =>
  ifK x20 (
  nchkK x0 fun x22 =>
  addrK x22 6 fun x23 =>
  st1K σ10 x23 (.bool true) fun _ σ11 =>
  c87_2 run fu x0 x4 x6 x7 x8 σ11) (
  ld1K σ10 x7 fun x24 =>
  neSK x24 (.str []) fun x25 =>
  grdK x25 true σ10 (fun f => ld1K σ10 x7 fun v => f v σ10) fun x27 σ12 =>
  grdK x25 true σ12 (fun f => idxSK x27 (.int .i64 0) fun v => f v σ12) fun x28 σ13 =>
  grdK x25 true σ13 (fun f => calK run 138 [x28] σ13 f) fun x29 σ14 =>
  grdK x25 true σ14 (fun f => notK x29 fun v => f v σ14) fun x30 σ15 =>
  pickK x25 x30 (.bool false) fun x31 =>
  ifK x31 (
  nchkK x0 fun x33 =>
  addrK x33 6 fun x34 =>
  st1K σ15 x34 (.bool true) fun _ σ16 =>
  c87_2 run fu x0 x4 x6 x7 x8 σ16) (
  c87_2 run fu x0 x4 x6 x7 x8 σ15))) (
  c87_1 run fu x3 x4 σ8)

theorem eq87 (run : FuncId → List AV → Store → Tr R) (fu : Nat) (x0 x1 : AV) (σ : Store) : codeK X0 run (.seq .leaf (.seq .leaf (.seq .leaf (.seq .leaf (.seq (.seq .leaf (.cond (.seq (.seq .leaf (.cond .leaf (.seq .leaf (.cond .leaf .leaf)))) (.sub (fun fr σ => c87_2 run fu (fr.getD 0 .any) (fr.getD 4 .any) (fr.getD 6 .any) (fr.getD 7 .any) (fr.getD 8 .any) σ))) .leaf)) (.sub (fun fr σ => c87_1 run fu (fr.getD 3 .any) (fr.getD 4 .any) σ))))))) (subC [] b87) ([x0, x1] ++ padA (57 - 2)) σ k87 = c87 run fu x0 x1 σ := by kernel_rfl

theorem ok87 {run : FuncId → List AV → Store → Tr R} (hrun : RunOK X0 run) (fu : Nat) (x0 x1 : AV) (σ : Store) : CallOK X0 87 [x0, x1] σ (c87 run fu x0 x1 σ) :=
  KOK.body (fn := Tryz.f87) (c := subC [] b87) (by kernel_rfl) (by kernel_rfl) (by show 2 ≤ 57; decide) (KOK.whole env0 hrun (eq87 run fu x0 x1 σ) ⟨trivial, ⟨trivial, ⟨trivial, ⟨trivial, ⟨⟨trivial, ⟨⟨⟨trivial, ⟨trivial, ⟨trivial, ⟨trivial, trivial⟩⟩⟩⟩, (ok87_2 hrun fu)⟩, trivial⟩⟩, (ok87_1 hrun fu)⟩⟩⟩⟩⟩)

end Go.Proofs.YtfmgdjkcdmjloaaGreatDoor
