/- Functions of the program, told as Lean functions of abstract values and stores, each with its proof. -/
import Derived.Test.YtfmgdjkcdmjloaaGreatDoorSmX
set_option linter.unusedVariables false
set_option linter.unusedSimpArgs false
namespace Go.Proofs.YtfmgdjkcdmjloaaGreatDoor
open Go.AM
-- (*pub-paratext/pub/rscmarkdown.parseState).inline

noncomputable def b53 : Code := match Tryz.f53.body with | some c => c | none => .skip

noncomputable def k53 : Kont R := retK Tryz.prog [.tmp 4]

noncomputable def c53_1 (run : FuncId → List AV → Store → Tr R) (fu : Nat) (x0 x1 : AV) (σ : Store) : Tr R :=
  lenSK x1 fun x297 =>
  calK run 73 [x0, x297] σ fun x298 σ1 =>
  nchkK x0 fun x302 =>
  addrK x302 9 fun x303 =>
  ld1K σ1 x303 fun x304 =>
  sliceLK Tryz.prog σ1 84 x304 none (some (.int .i64 0)) fun x305 =>
  nchkK x0 fun x307 =>
  addrK x307 9 fun x308 =>
  ld1K σ1 x308 fun x309 =>
  calK run 77 [x0, x305, x309] σ1 fun x310 σ2 =>
  nchkK x0 fun x311 =>
  addrK x311 9 fun x312 =>
  st1K σ2 x312 x310 fun _ σ3 =>
  nchkK x0 fun x316 =>
  addrK x316 9 fun x317 =>
  ld1K σ3 x317 fun x318 =>
  calK run 78 [x0, x318] σ3 fun x319 σ4 =>
  nchkK x0 fun x320 =>
  addrK x320 9 fun x321 =>
  st1K σ4 x321 x319 fun _ σ5 =>
  nchkK x0 fun x325 =>
  addrK x325 9 fun x326 =>
  ld1K σ5 x326 fun x327 =>
  calK run 79 [x0, x327] σ5 fun x328 σ6 =>
  nchkK x0 fun x329 =>
  addrK x329 9 fun x330 =>
  st1K σ6 x330 x328 fun _ σ7 =>
  nchkK x0 fun x332 =>
  addrK x332 9 fun x333 =>
  ld1K σ7 x333 fun x334 =>
  .ret (x334, σ7)

theorem eq53_1 (run : FuncId → List AV → Store → Tr R) (fu : Nat) (x0 x1 : AV) (σ : Store) : codeK X0 run (.seq .leaf (.seq .leaf (.seq .leaf (.seq .leaf (.seq .leaf .leaf))))) (subC [true, true, true, true, true, true, true, true, true, true] b53) (frS 0 335 [(0, x0), (1, x1)]) σ k53 = c53_1 run fu x0 x1 σ := by kernel_rfl

theorem ok53_1 {run : FuncId → List AV → Store → Tr R} (hrun : RunOK X0 run) (fu : Nat) : ∀ fr σ, KOK X0 335 (subC [true, true, true, true, true, true, true, true, true, true] b53) fr σ ((fun fr σ => c53_1 run fu (fr.getD 0 .any) (fr.getD 1 .any) σ) fr σ) k53 := fun fr σ =>
  KOK.piece env0 hrun [0, 1] (eq53_1 run fu (fr.getD 0 .any) (fr.getD 1 .any) σ) ⟨trivial, ⟨trivial, ⟨trivial, ⟨trivial, ⟨trivial, trivial⟩⟩⟩⟩⟩

noncomputable def c53_5 (run : FuncId → List AV → Store → Tr R) (fu : Nat) (s2 : AV → AV → AV → AV → AV → AV → Store → Tr R) (x0 x1 x5 x6 x7 x8 : AV) (σ : Store) : Tr R :=
  addK x8 (.int .i64 1) fun x294 =>
  s2 x0 x1 x5 x6 x7 x294 σ

theorem eq53_5 (run : FuncId → List AV → Store → Tr R) (fu : Nat) (s2 : AV → AV → AV → AV → AV → AV → Store → Tr R) (x0 x1 x5 x6 x7 x8 : AV) (σ : Store) : codeK X0 run .leaf (subC [true, true, true, true, true, true, true, true, true, false, false, false, true, false, true, true, true, true] b53) (frS 0 335 [(0, x0), (1, x1), (5, x5), (6, x6), (7, x7), (8, x8)]) σ (blockK 1 (thenK (fun fr σ => s2 (fr.getD 0 .any) (fr.getD 1 .any) (fr.getD 5 .any) (fr.getD 6 .any) (fr.getD 7 .any) (fr.getD 8 .any) σ) (blockK 0 (thenK (fun fr σ => c53_1 run fu (fr.getD 0 .any) (fr.getD 1 .any) σ) k53)))) = c53_5 run fu s2 x0 x1 x5 x6 x7 x8 σ := by kernel_rfl

theorem ok53_5 {run : FuncId → List AV → Store → Tr R} (hrun : RunOK X0 run) (fu : Nat) (s2 : AV → AV → AV → AV → AV → AV → Store → Tr R) : ∀ fr σ, KOK X0 335 (subC [true, true, true, true, true, true, true, true, true, false, false, false, true, false, true, true, true, true] b53) fr σ ((fun fr σ => c53_5 run fu s2 (fr.getD 0 .any) (fr.getD 1 .any) (fr.getD 5 .any) (fr.getD 6 .any) (fr.getD 7 .any) (fr.getD 8 .any) σ) fr σ) (blockK 1 (thenK (fun fr σ => s2 (fr.getD 0 .any) (fr.getD 1 .any) (fr.getD 5 .any) (fr.getD 6 .any) (fr.getD 7 .any) (fr.getD 8 .any) σ) (blockK 0 (thenK (fun fr σ => c53_1 run fu (fr.getD 0 .any) (fr.getD 1 .any) σ) k53)))) := fun fr σ =>
  KOK.piece env0 hrun [0, 1, 5, 6, 7, 8] (eq53_5 run fu s2 (fr.getD 0 .any) (fr.getD 1 .any) (fr.getD 5 .any) (fr.getD 6 .any) (fr.getD 7 .any) (fr.getD 8 .any) σ) trivial

noncomputable def c53_6 (run : FuncId → List AV → Store → Tr R) (fu : Nat) (s2 : AV → AV → AV → AV → AV → AV → Store → Tr R) (x0 x1 x5 x6 x7 x16 x17 x19 : AV) (σ : Store) : Tr R :=
  nchkK x0 fun x270 =>
  addrK x270 9 fun x271 =>
  ld1K σ x271 fun x272 =>
  addK x16 (.int .i64 1) fun x274 =>
  sliceLK Tryz.prog σ 84 x272 none (some x274) fun x275 =>
  nchkK x0 fun x276 =>
  addrK x276 9 fun x277 =>
  st1K σ x277 x275 fun _ σ1 =>
  calK run 74 [x0, x19] σ1 fun x280 σ2 =>
  nchkK x17 fun x283 =>
  addrK x283 0 fun x284 =>
  addrK x284 0 fun x285 =>
  ld1K σ2 x285 fun x286 =>
  idxSK x286 (.int .i64 0) fun x287 =>
  cmpK .eql x287 (.int .u8 91) fun x288 =>
  ifK x288 (
  nchkK x17 fun x290 =>
  addrK x290 1 fun x291 =>
  ld1K σ2 x291 fun x292 =>
  s2 x0 x1 x5 x292 x7 x19 σ2) (
  s2 x0 x1 x5 x6 x7 x19 σ2)

theorem eq53_6 (run : FuncId → List AV → Store → Tr R) (fu : Nat) (s2 : AV → AV → AV → AV → AV → AV → Store → Tr R) (x0 x1 x5 x6 x7 x16 x17 x19 : AV) (σ : Store) : codeK X0 run (.seq .leaf (.seq .leaf (.seq .leaf (.seq (.seq .leaf (.cond .leaf .leaf)) .leaf)))) (subC [true, true, true, true, true, true, true, true, true, false, false, false, true, false, true, true, true, false, true, false, true, true, true, true, false, true, true, false, true, true, true, true] b53) (frS 0 335 [(0, x0), (1, x1), (5, x5), (6, x6), (7, x7), (16, x16), (17, x17), (19, x19)]) σ (thenK (fun fr σ => c53_5 run fu s2 (fr.getD 0 .any) (fr.getD 1 .any) (fr.getD 5 .any) (fr.getD 6 .any) (fr.getD 7 .any) (fr.getD 8 .any) σ) (blockK 1 (thenK (fun fr σ => s2 (fr.getD 0 .any) (fr.getD 1 .any) (fr.getD 5 .any) (fr.getD 6 .any) (fr.getD 7 .any) (fr.getD 8 .any) σ) (blockK 0 (thenK (fun fr σ => c53_1 run fu (fr.getD 0 .any) (fr.getD 1 .any) σ) k53))))) = c53_6 run fu s2 x0 x1 x5 x6 x7 x16 x17 x19 σ := by kernel_rfl

theorem ok53_6 {run : FuncId → List AV → Store → Tr R} (hrun : RunOK X0 run) (fu : Nat) (s2 : AV → AV → AV → AV → AV → AV → Store → Tr R) : ∀ fr σ, KOK X0 335 (subC [true, true, true, true, true, true, true, true, true, false, false, false, true, false, true, true, true, false, true, false, true, true, true, true, false, true, true, false, true, true, true, true] b53) fr σ ((fun fr σ => c53_6 run fu s2 (fr.getD 0 .any) (fr.getD 1 .any) (fr.getD 5 .any) (fr.getD 6 .any) (fr.getD 7 .any) (fr.getD 16 .any) (fr.getD 17 .any) (fr.getD 19 .any) σ) fr σ) (thenK (fun fr σ => c53_5 run fu s2 (fr.getD 0 .any) (fr.getD 1 .any) (fr.getD 5 .any) (fr.getD 6 .any) (fr.getD 7 .any) (fr.getD 8 .any) σ) (blockK 1 (thenK (fun fr σ => s2 (fr.getD 0 .any) (fr.getD 1 .any) (fr.getD 5 .any) (fr.getD 6 .any) (fr.getD 7 .any) (fr.getD 8 .any) σ) (blockK 0 (thenK (fun fr σ => c53_1 run fu (fr.getD 0 .any) (fr.getD 1 .any) σ) k53))))) := fun fr σ =>
  KOK.piece env0 hrun [0, 1, 5, 6, 7, 16, 17, 19] (eq53_6 run fu s2 (fr.getD 0 .any) (fr.getD 1 .any) (fr.getD 5 .any) (fr.getD 6 .any) (fr.getD 7 .any) (fr.getD 16 .any) (fr.getD 17 .any) (fr.getD 19 .any) σ) ⟨trivial, ⟨trivial, ⟨trivial, ⟨⟨trivial, ⟨trivial, trivial⟩⟩, trivial⟩⟩⟩⟩

noncomputable def c53_4 (run : FuncId → List AV → Store → Tr R) (fu : Nat) (s2 : AV → AV → AV → AV → AV → AV → Store → Tr R) (x0 x1 x5 x6 x7 x8 : AV) (σ : Store) : Tr R :=
  idxSK x1 x8 fun x159 =>
  cmpK .eql x159 (.int .u8 93) fun x160 =>
  grdK x160 true σ (fun f => f x5 σ) fun x162 σ1 =>
  grdK x160 true σ1 (fun f => lenLK x162 fun v => f v σ1) fun x163 σ2 =>
  grdK x160 true σ2 (fun f => cmpK .gtr x163 (.int .i64 0) fun v => f v σ2) fun x164 σ3 =>
  pickK x160 x164 (.bool false) fun x165 =>
  ifK x165 (
  lenLK x5 fun x168 =>
  subK x168 (.int .i64 1) fun x169 =>
  idxK 1 x5 x169 fun x170 =>
  ld1K σ3 x170 fun x171 =>
  nchkK x0 fun x173 =>
  addrK x173 9 fun x174 =>
  ld1K σ3 x174 fun x175 =>
  idxK 1 x175 x171 fun x177 =>
  ld1K σ3 x177 fun x178 =>
  tasK (some .nilp) 128 false x178 fun x179 =>
  lenLK x5 fun x182 =>
  subK x182 (.int .i64 1) fun x183 =>
  sliceLK Tryz.prog σ3 123 x5 none (some x183) fun x184 =>
  nchkK x179 fun x186 =>
  addrK x186 0 fun x187 =>
  addrK x187 0 fun x188 =>
  ld1K σ3 x188 fun x189 =>
  idxSK x189 (.int .i64 0) fun x190 =>
  cmpK .eql x190 (.int .u8 33) fun x191 =>
  grdK x191 false σ3 (fun f => f x6 σ3) fun x193 σ4 =>
  grdK x191 false σ4 (fun f => f x179 σ4) fun x194 σ5 =>
  grdK x191 false σ5 (fun f => nchkK x194 fun v => f v σ5) fun x195 σ6 =>
  grdK x191 false σ6 (fun f => addrK x195 1 fun v => f v σ6) fun x196 σ7 =>
  grdK x191 false σ7 (fun f => ld1K σ7 x196 fun v => f v σ7) fun x197 σ8 =>
  grdK x191 false σ8 (fun f => cmpK .leq x193 x197 fun v => f v σ8) fun x198 σ9 =>
  pickK x191 (.bool true) x198 fun x199 =>
  ifK x199 (
  calK run 75 [x0, x1, x8, x179] σ9 fun x205 σ10 =>
  extK x205 0 fun x206 =>
  extK x205 1 fun x207 =>
  extK x205 2 fun x208 =>
  ifK x208 (
  nchkK x0 fun x212 =>
  addrK x212 6 fun x213 =>
  ld1K σ10 x213 fun x214 =>
  grdK x214 false σ10 (fun f => f x206 σ10) fun x216 σ11 =>
  grdK x214 false σ11 (fun f => nchkK x216 fun v => f v σ11) fun x217 σ12 =>
  grdK x214 false σ12 (fun f => addrK x217 4 fun v => f v σ12) fun x218 σ13 =>
  grdK x214 false σ13 (fun f => ld1K σ13 x218 fun v => f v σ13) fun x219 σ14 =>
  pickK x214 (.bool true) x219 fun x220 =>
  grdK x220 false σ14 (fun f => f x206 σ14) fun x222 σ15 =>
  grdK x220 false σ15 (fun f => nchkK x222 fun v => f v σ15) fun x223 σ16 =>
  grdK x220 false σ16 (fun f => addrK x223 1 fun v => f v σ16) fun x224 σ17 =>
  grdK x220 false σ17 (fun f => ld1K σ17 x224 fun v => f v σ17) fun x225 σ18 =>
  grdK x220 false σ18 (fun f => calK run 76 [x225] σ18 f) fun x226 σ19 =>
  pickK x220 (.bool true) x226 fun x227 =>
  nchkK x0 fun x228 =>
  addrK x228 6 fun x229 =>
  st1K σ19 x229 x227 fun _ σ20 =>
  calK run 73 [x0, x8] σ20 fun x232 σ21 =>
  nchkK x0 fun x236 =>
  addrK x236 9 fun x237 =>
  ld1K σ21 x237 fun x238 =>
  addK x171 (.int .i64 1) fun x240 =>
  sliceLK Tryz.prog σ21 84 x238 (some x240) none fun x241 =>
  calK run 77 [x0, .nils, x241] σ21 fun x242 σ22 =>
  nchkK x206 fun x243 =>
  addrK x243 0 fun x244 =>
  st1K σ22 x244 x242 fun _ σ23 =>
  nchkK x179 fun x246 =>
  addrK x246 0 fun x247 =>
  addrK x247 0 fun x248 =>
  ld1K σ23 x248 fun x249 =>
  idxSK x249 (.int .i64 0) fun x250 =>
  cmpK .eql x250 (.int .u8 33) fun x251 =>
  ifK x251 (
  nchkK x0 fun x253 =>
  addrK x253 9 fun x254 =>
  ld1K σ23 x254 fun x255 =>
  idxK 1 x255 x171 fun x259 =>
  st1K σ23 x259 (.iface 140 x206) fun _ σ24 =>
  c53_6 run fu s2 x0 x1 x184 x6 x7 x171 x179 x207 σ24) (
  nchkK x0 fun x261 =>
  addrK x261 9 fun x262 =>
  ld1K σ23 x262 fun x263 =>
  idxK 1 x263 x171 fun x267 =>
  st1K σ23 x267 (.iface 134 x206) fun _ σ25 =>
  c53_6 run fu s2 x0 x1 x184 x6 x7 x171 x179 x207 σ25)) (
  c53_5 run fu s2 x0 x1 x184 x6 x7 x8 σ10)) (
  c53_5 run fu s2 x0 x1 x184 x6 x7 x8 σ9)) (
  c53_5 run fu s2 x0 x1 x5 x6 x7 x8 σ3)

theorem eq53_4 (run : FuncId → List AV → Store → Tr R) (fu : Nat) (s2 : AV → AV → AV → AV → AV → AV → Store → Tr R) (x0 x1 x5 x6 x7 x8 : AV) (σ : Store) : codeK X0 run (.seq (.seq .leaf (.cond (.seq .leaf (.seq .leaf (.seq .leaf (.seq .leaf (.cond (.seq .leaf (.seq .leaf (.cond (.seq .leaf (.seq .leaf (.seq .leaf (.seq (.seq .leaf (.cond .leaf .leaf)) (.sub (fun fr σ => c53_6 run fu s2 (fr.getD 0 .any) (fr.getD 1 .any) (fr.getD 5 .any) (fr.getD 6 .any) (fr.getD 7 .any) (fr.getD 16 .any) (fr.getD 17 .any) (fr.getD 19 .any) σ)))))) .leaf))) .leaf))))) .leaf)) (.sub (fun fr σ => c53_5 run fu s2 (fr.getD 0 .any) (fr.getD 1 .any) (fr.getD 5 .any) (fr.getD 6 .any) (fr.getD 7 .any) (fr.getD 8 .any) σ))) (subC [true, true, true, true, true, true, true, true, true, false, false, false, true, false, true, true, true] b53) (frS 0 335 [(0, x0), (1, x1), (5, x5), (6, x6), (7, x7), (8, x8)]) σ (blockK 1 (thenK (fun fr σ => s2 (fr.getD 0 .any) (fr.getD 1 .any) (fr.getD 5 .any) (fr.getD 6 .any) (fr.getD 7 .any) (fr.getD 8 .any) σ) (blockK 0 (thenK (fun fr σ => c53_1 run fu (fr.getD 0 .any) (fr.getD 1 .any) σ) k53)))) = c53_4 run fu s2 x0 x1 x5 x6 x7 x8 σ := by kernel_rfl

theorem ok53_4 {run : FuncId → List AV → Store → Tr R} (hrun : RunOK X0 run) (fu : Nat) (s2 : AV → AV → AV → AV → AV → AV → Store → Tr R) : ∀ fr σ, KOK X0 335 (subC [true, true, true, true, true, true, true, true, true, false, false, false, true, false, true, true, true] b53) fr σ ((fun fr σ => c53_4 run fu s2 (fr.getD 0 .any) (fr.getD 1 .any) (fr.getD 5 .any) (fr.getD 6 .any) (fr.getD 7 .any) (fr.getD 8 .any) σ) fr σ) (blockK 1 (thenK (fun fr σ => s2 (fr.getD 0 .any) (fr.getD 1 .any) (fr.getD 5 .any) (fr.getD 6 .any) (fr.getD 7 .any) (fr.getD 8 .any) σ) (blockK 0 (thenK (fun fr σ => c53_1 run fu (fr.getD 0 .any) (fr.getD 1 .any) σ) k53)))) := fun fr σ =>
  KOK.piece env0 hrun [0, 1, 5, 6, 7, 8] (eq53_4 run fu s2 (fr.getD 0 .any) (fr.getD 1 .any) (fr.getD 5 .any) (fr.getD 6 .any) (fr.getD 7 .any) (fr.getD 8 .any) σ) ⟨⟨trivial, ⟨⟨trivial, ⟨trivial, ⟨trivial, ⟨trivial, ⟨⟨trivial, ⟨trivial, ⟨⟨trivial, ⟨trivial, ⟨trivial, ⟨⟨trivial, ⟨trivial, trivial⟩⟩, (ok53_6 hrun fu s2)⟩⟩⟩⟩, trivial⟩⟩⟩, trivial⟩⟩⟩⟩⟩, trivial⟩⟩, (ok53_5 hrun fu s2)⟩

noncomputable def c53_7 (run : FuncId → List AV → Store → Tr R) (fu : Nat) (s2 : AV → AV → AV → AV → AV → AV → Store → Tr R) (x0 x1 x5 x6 x7 x10 x12 : AV) (σ : Store) : Tr R :=
  nchkK x0 fun x145 =>
  addrK x145 9 fun x146 =>
  ld1K σ x146 fun x147 =>
  opt (fillK [.nili] [(0, 1, x10)]) fun cs => newSK σ 253 cs 1 1 fun x149 σ1 =>
  appK 126 1 16 σ1 x147 x149 fun x150 σ2 =>
  nchkK x0 fun x151 =>
  addrK x151 9 fun x152 =>
  st1K σ2 x152 x150 fun _ σ3 =>
  calK run 74 [x0, x12] σ3 fun x156 σ4 =>
  s2 x0 x1 x5 x6 x7 x12 σ4

theorem eq53_7 (run : FuncId → List AV → Store → Tr R) (fu : Nat) (s2 : AV → AV → AV → AV → AV → AV → Store → Tr R) (x0 x1 x5 x6 x7 x10 x12 : AV) (σ : Store) : codeK X0 run (.seq .leaf (.seq .leaf (.seq .leaf .leaf))) (subC [true, true, true, true, true, true, true, true, true, false, false, false, true, false, true, true, false, true, false, true, true, false, true, true] b53) (frS 0 335 [(0, x0), (1, x1), (5, x5), (6, x6), (7, x7), (10, x10), (12, x12)]) σ (thenK (fun fr σ => c53_4 run fu s2 (fr.getD 0 .any) (fr.getD 1 .any) (fr.getD 5 .any) (fr.getD 6 .any) (fr.getD 7 .any) (fr.getD 8 .any) σ) (blockK 1 (thenK (fun fr σ => s2 (fr.getD 0 .any) (fr.getD 1 .any) (fr.getD 5 .any) (fr.getD 6 .any) (fr.getD 7 .any) (fr.getD 8 .any) σ) (blockK 0 (thenK (fun fr σ => c53_1 run fu (fr.getD 0 .any) (fr.getD 1 .any) σ) k53))))) = c53_7 run fu s2 x0 x1 x5 x6 x7 x10 x12 σ := by kernel_rfl

theorem ok53_7 {run : FuncId → List AV → Store → Tr R} (hrun : RunOK X0 run) (fu : Nat) (s2 : AV → AV → AV → AV → AV → AV → Store → Tr R) : ∀ fr σ, KOK X0 335 (subC [true, true, true, true, true, true, true, true, true, false, false, false, true, false, true, true, false, true, false, true, true, false, true, true] b53) fr σ ((fun fr σ => c53_7 run fu s2 (fr.getD 0 .any) (fr.getD 1 .any) (fr.getD 5 .any) (fr.getD 6 .any) (fr.getD 7 .any) (fr.getD 10 .any) (fr.getD 12 .any) σ) fr σ) (thenK (fun fr σ => c53_4 run fu s2 (fr.getD 0 .any) (fr.getD 1 .any) (fr.getD 5 .any) (fr.getD 6 .any) (fr.getD 7 .any) (fr.getD 8 .any) σ) (blockK 1 (thenK (fun fr σ => s2 (fr.getD 0 .any) (fr.getD 1 .any) (fr.getD 5 .any) (fr.getD 6 .any) (fr.getD 7 .any) (fr.getD 8 .any) σ) (blockK 0 (thenK (fun fr σ => c53_1 run fu (fr.getD 0 .any) (fr.getD 1 .any) σ) k53))))) := fun fr σ =>
  KOK.piece env0 hrun [0, 1, 5, 6, 7, 10, 12] (eq53_7 run fu s2 (fr.getD 0 .any) (fr.getD 1 .any) (fr.getD 5 .any) (fr.getD 6 .any) (fr.getD 7 .any) (fr.getD 10 .any) (fr.getD 12 .any) σ) ⟨trivial, ⟨trivial, ⟨trivial, trivial⟩⟩⟩

noncomputable def c53_3 (run : FuncId → List AV → Store → Tr R) (fu : Nat) (s2 : AV → AV → AV → AV → AV → AV → Store → Tr R) (x0 x1 x5 x6 x7 x8 x9 : AV) (σ : Store) : Tr R :=
  neOK (nilEq nilF) x9 .nilf fun x114 =>
  ifK x114 (
  dynK X0 run x9 [x0, x1, x8] σ fun x120 σ1 =>
  extK x120 0 fun x121 =>
  extK x120 1 fun x122 =>
  extK x120 2 fun x123 =>
  extK x120 3 fun x124 =>
  ifK x124 (
  calK run 73 [x0, x122] σ1 fun x128 σ2 =>
  tasK (some .nilp) 128 true x121 fun x131 =>
  extK x131 0 fun x132 =>
  extK x131 1 fun x133 =>
  ifK x133 (
  nchkK x0 fun x137 =>
  addrK x137 9 fun x138 =>
  ld1K σ2 x138 fun x139 =>
  lenLK x139 fun x140 =>
  opt (fillK [(.int .i64 0)] [(0, 1, x140)]) fun cs => newSK σ2 7 cs 1 1 fun x141 σ3 =>
  appK 3 1 8 σ3 x5 x141 fun x142 σ4 =>
  c53_7 run fu s2 x0 x1 x142 x6 x7 x121 x123 σ4) (
  c53_7 run fu s2 x0 x1 x5 x6 x7 x121 x123 σ2)) (
  c53_4 run fu s2 x0 x1 x5 x6 x7 x8 σ1)) (
  c53_4 run fu s2 x0 x1 x5 x6 x7 x8 σ)

theorem eq53_3 (run : FuncId → List AV → Store → Tr R) (fu : Nat) (s2 : AV → AV → AV → AV → AV → AV → Store → Tr R) (x0 x1 x5 x6 x7 x8 x9 : AV) (σ : Store) : codeK X0 run (.seq (.seq .leaf (.cond (.seq .leaf (.seq .leaf (.cond (.seq .leaf (.seq (.seq .leaf (.seq .leaf (.cond .leaf .leaf))) (.sub (fun fr σ => c53_7 run fu s2 (fr.getD 0 .any) (fr.getD 1 .any) (fr.getD 5 .any) (fr.getD 6 .any) (fr.getD 7 .any) (fr.getD 10 .any) (fr.getD 12 .any) σ)))) .leaf))) .leaf)) (.sub (fun fr σ => c53_4 run fu s2 (fr.getD 0 .any) (fr.getD 1 .any) (fr.getD 5 .any) (fr.getD 6 .any) (fr.getD 7 .any) (fr.getD 8 .any) σ))) (subC [true, true, true, true, true, true, true, true, true, false, false, false, true, false, true, true] b53) (frS 0 335 [(0, x0), (1, x1), (5, x5), (6, x6), (7, x7), (8, x8), (9, x9)]) σ (blockK 1 (thenK (fun fr σ => s2 (fr.getD 0 .any) (fr.getD 1 .any) (fr.getD 5 .any) (fr.getD 6 .any) (fr.getD 7 .any) (fr.getD 8 .any) σ) (blockK 0 (thenK (fun fr σ => c53_1 run fu (fr.getD 0 .any) (fr.getD 1 .any) σ) k53)))) = c53_3 run fu s2 x0 x1 x5 x6 x7 x8 x9 σ := by kernel_rfl

theorem ok53_3 {run : FuncId → List AV → Store → Tr R} (hrun : RunOK X0 run) (fu : Nat) (s2 : AV → AV → AV → AV → AV → AV → Store → Tr R) : ∀ fr σ, KOK X0 335 (subC [true, true, true, true, true, true, true, true, true, false, false, false, true, false, true, true] b53) fr σ ((fun fr σ => c53_3 run fu s2 (fr.getD 0 .any) (fr.getD 1 .any) (fr.getD 5 .any) (fr.getD 6 .any) (fr.getD 7 .any) (fr.getD 8 .any) (fr.getD 9 .any) σ) fr σ) (blockK 1 (thenK (fun fr σ => s2 (fr.getD 0 .any) (fr.getD 1 .any) (fr.getD 5 .any) (fr.getD 6 .any) (fr.getD 7 .any) (fr.getD 8 .any) σ) (blockK 0 (thenK (fun fr σ => c53_1 run fu (fr.getD 0 .any) (fr.getD 1 .any) σ) k53)))) := fun fr σ =>
  KOK.piece env0 hrun [0, 1, 5, 6, 7, 8, 9] (eq53_3 run fu s2 (fr.getD 0 .any) (fr.getD 1 .any) (fr.getD 5 .any) (fr.getD 6 .any) (fr.getD 7 .any) (fr.getD 8 .any) (fr.getD 9 .any) σ) ⟨⟨trivial, ⟨⟨trivial, ⟨trivial, ⟨⟨trivial, ⟨⟨trivial, ⟨trivial, ⟨trivial, trivial⟩⟩⟩, (ok53_7 hrun fu s2)⟩⟩, trivial⟩⟩⟩, trivial⟩⟩, (ok53_4 hrun fu s2)⟩

noncomputable def c53_8 (run : FuncId → List AV → Store → Tr R) (fu : Nat) (s2 : AV → AV → AV → AV → AV → AV → Store → Tr R) (x0 x1 x5 x6 x7 x8 : AV) (σ : Store) : Tr R :=
  nchkK x0 fun x51 =>
  addrK x51 12 fun x52 =>
  c53_3 run fu s2 x0 x1 x5 x6 x7 x8 (.fn (.func 63) [x52] []) σ

theorem eq53_8 (run : FuncId → List AV → Store → Tr R) (fu : Nat) (s2 : AV → AV → AV → AV → AV → AV → Store → Tr R) (x0 x1 x5 x6 x7 x8 : AV) (σ : Store) : codeK X0 run .leaf (subC [true, true, true, true, true, true, true, true, true, false, false, false, true, false, true, false, true, false, true, true, true, false, true] b53) (frS 0 335 [(0, x0), (1, x1), (5, x5), (6, x6), (7, x7), (8, x8)]) σ (blockK 2 (thenK (fun fr σ => c53_3 run fu s2 (fr.getD 0 .any) (fr.getD 1 .any) (fr.getD 5 .any) (fr.getD 6 .any) (fr.getD 7 .any) (fr.getD 8 .any) (fr.getD 9 .any) σ) (blockK 1 (thenK (fun fr σ => s2 (fr.getD 0 .any) (fr.getD 1 .any) (fr.getD 5 .any) (fr.getD 6 .any) (fr.getD 7 .any) (fr.getD 8 .any) σ) (blockK 0 (thenK (fun fr σ => c53_1 run fu (fr.getD 0 .any) (fr.getD 1 .any) σ) k53)))))) = c53_8 run fu s2 x0 x1 x5 x6 x7 x8 σ := by kernel_rfl

theorem ok53_8 {run : FuncId → List AV → Store → Tr R} (hrun : RunOK X0 run) (fu : Nat) (s2 : AV → AV → AV → AV → AV → AV → Store → Tr R) : ∀ fr σ, KOK X0 335 (subC [true, true, true, true, true, true, true, true, true, false, false, false, true, false, true, false, true, false, true, true, true, false, true] b53) fr σ ((fun fr σ => c53_8 run fu s2 (fr.getD 0 .any) (fr.getD 1 .any) (fr.getD 5 .any) (fr.getD 6 .any) (fr.getD 7 .any) (fr.getD 8 .any) σ) fr σ) (blockK 2 (thenK (fun fr σ => c53_3 run fu s2 (fr.getD 0 .any) (fr.getD 1 .any) (fr.getD 5 .any) (fr.getD 6 .any) (fr.getD 7 .any) (fr.getD 8 .any) (fr.getD 9 .any) σ) (blockK 1 (thenK (fun fr σ => s2 (fr.getD 0 .any) (fr.getD 1 .any) (fr.getD 5 .any) (fr.getD 6 .any) (fr.getD 7 .any) (fr.getD 8 .any) σ) (blockK 0 (thenK (fun fr σ => c53_1 run fu (fr.getD 0 .any) (fr.getD 1 .any) σ) k53)))))) := fun fr σ =>
  KOK.piece env0 hrun [0, 1, 5, 6, 7, 8] (eq53_8 run fu s2 (fr.getD 0 .any) (fr.getD 1 .any) (fr.getD 5 .any) (fr.getD 6 .any) (fr.getD 7 .any) (fr.getD 8 .any) σ) trivial

noncomputable def c53_10 (run : FuncId → List AV → Store → Tr R) (fu : Nat) (s2 : AV → AV → AV → AV → AV → AV → Store → Tr R) (x0 x1 x5 x6 x7 x8 x9 x39 x81 : AV) (σ : Store) : Tr R :=
  ifK x81 (
  nchkK x0 fun x85 =>
  addrK x85 0 fun x86 =>
  ld1K σ x86 fun x87 =>
  nchkK x87 fun x88 =>
  addrK x88 9 fun x89 =>
  ld1K σ x89 fun x90 =>
  ifK x90 (
  c53_3 run fu s2 x0 x1 x5 x6 x7 x8 (.fn (.func 67) [] []) σ) (
  c53_3 run fu s2 x0 x1 x5 x6 x7 x8 x9 σ)) (
  cmpK .eql x39 (.int .u8 126) fun x92 =>
  ifK x92 (
  nchkK x0 fun x94 =>
  addrK x94 0 fun x95 =>
  ld1K σ x95 fun x96 =>
  nchkK x96 fun x97 =>
  addrK x97 1 fun x98 =>
  ld1K σ x98 fun x99 =>
  ifK x99 (
  c53_3 run fu s2 x0 x1 x5 x6 x7 x8 (.fn (.func 67) [] []) σ) (
  c53_3 run fu s2 x0 x1 x5 x6 x7 x8 x9 σ)) (
  cmpK .eql x39 (.int .u8 10) fun x101 =>
  ifK x101 (
  c53_3 run fu s2 x0 x1 x5 x6 x7 x8 (.fn (.func 70) [] []) σ) (
  cmpK .eql x39 (.int .u8 38) fun x103 =>
  ifK x103 (
  c53_3 run fu s2 x0 x1 x5 x6 x7 x8 (.fn (.func 71) [] []) σ) (
  cmpK .eql x39 (.int .u8 58) fun x105 =>
  ifK x105 (
  nchkK x0 fun x107 =>
  addrK x107 0 fun x108 =>
  ld1K σ x108 fun x109 =>
  nchkK x109 fun x110 =>
  addrK x110 6 fun x111 =>
  ld1K σ x111 fun x112 =>
  ifK x112 (
  c53_3 run fu s2 x0 x1 x5 x6 x7 x8 (.fn (.func 72) [] []) σ) (
  c53_3 run fu s2 x0 x1 x5 x6 x7 x8 x9 σ)) (
  c53_3 run fu s2 x0 x1 x5 x6 x7 x8 x9 σ)))))

theorem eq53_10 (run : FuncId → List AV → Store → Tr R) (fu : Nat) (s2 : AV → AV → AV → AV → AV → AV → Store → Tr R) (x0 x1 x5 x6 x7 x8 x9 x39 x81 : AV) (σ : Store) : codeK X0 run (.cond (.seq .leaf (.cond .leaf .leaf)) (.seq .leaf (.cond (.seq .leaf (.cond .leaf .leaf)) (.seq .leaf (.cond .leaf (.seq .leaf (.cond .leaf (.seq .leaf (.cond (.seq .leaf (.cond .leaf .leaf)) .leaf))))))))) (subC [true, true, true, true, true, true, true, true, true, false, false, false, true, false, true, false, true, false, true, true, true, true, true, true, true, true, true, true, true, true, true, true, true, true, true] b53) (frS 0 335 [(0, x0), (1, x1), (5, x5), (6, x6), (7, x7), (8, x8), (9, x9), (39, x39), (81, x81)]) σ (blockK 2 (thenK (fun fr σ => c53_3 run fu s2 (fr.getD 0 .any) (fr.getD 1 .any) (fr.getD 5 .any) (fr.getD 6 .any) (fr.getD 7 .any) (fr.getD 8 .any) (fr.getD 9 .any) σ) (blockK 1 (thenK (fun fr σ => s2 (fr.getD 0 .any) (fr.getD 1 .any) (fr.getD 5 .any) (fr.getD 6 .any) (fr.getD 7 .any) (fr.getD 8 .any) σ) (blockK 0 (thenK (fun fr σ => c53_1 run fu (fr.getD 0 .any) (fr.getD 1 .any) σ) k53)))))) = c53_10 run fu s2 x0 x1 x5 x6 x7 x8 x9 x39 x81 σ := by kernel_rfl

theorem ok53_10 {run : FuncId → List AV → Store → Tr R} (hrun : RunOK X0 run) (fu : Nat) (s2 : AV → AV → AV → AV → AV → AV → Store → Tr R) : ∀ fr σ, KOK X0 335 (subC [true, true, true, true, true, true, true, true, true, false, false, false, true, false, true, false, true, false, true, true, true, true, true, true, true, true, true, true, true, true, true, true, true, true, true] b53) fr σ ((fun fr σ => c53_10 run fu s2 (fr.getD 0 .any) (fr.getD 1 .any) (fr.getD 5 .any) (fr.getD 6 .any) (fr.getD 7 .any) (fr.getD 8 .any) (fr.getD 9 .any) (fr.getD 39 .any) (fr.getD 81 .any) σ) fr σ) (blockK 2 (thenK (fun fr σ => c53_3 run fu s2 (fr.getD 0 .any) (fr.getD 1 .any) (fr.getD 5 .any) (fr.getD 6 .any) (fr.getD 7 .any) (fr.getD 8 .any) (fr.getD 9 .any) σ) (blockK 1 (thenK (fun fr σ => s2 (fr.getD 0 .any) (fr.getD 1 .any) (fr.getD 5 .any) (fr.getD 6 .any) (fr.getD 7 .any) (fr.getD 8 .any) σ) (blockK 0 (thenK (fun fr σ => c53_1 run fu (fr.getD 0 .any) (fr.getD 1 .any) σ) k53)))))) := fun fr σ =>
  KOK.piece env0 hrun [0, 1, 5, 6, 7, 8, 9, 39, 81] (eq53_10 run fu s2 (fr.getD 0 .any) (fr.getD 1 .any) (fr.getD 5 .any) (fr.getD 6 .any) (fr.getD 7 .any) (fr.getD 8 .any) (fr.getD 9 .any) (fr.getD 39 .any) (fr.getD 81 .any) σ) ⟨⟨trivial, ⟨trivial, trivial⟩⟩, ⟨trivial, ⟨⟨trivial, ⟨trivial, trivial⟩⟩, ⟨trivial, ⟨trivial, ⟨trivial, ⟨trivial, ⟨trivial, ⟨⟨trivial, ⟨trivial, trivial⟩⟩, trivial⟩⟩⟩⟩⟩⟩⟩⟩⟩

noncomputable def c53_9 (run : FuncId → List AV → Store → Tr R) (fu : Nat) (s2 : AV → AV → AV → AV → AV → AV → Store → Tr R) (x0 x1 x5 x6 x7 x8 x9 x39 x60 : AV) (σ : Store) : Tr R :=
  ifK x60 (
  c53_3 run fu s2 x0 x1 x5 x6 x7 x8 (.fn (.func 67) [] []) σ) (
  cmpK .eql x39 (.int .u8 46) fun x64 =>
  ifK x64 (
  nchkK x0 fun x66 =>
  addrK x66 0 fun x67 =>
  ld1K σ x67 fun x68 =>
  nchkK x68 fun x69 =>
  addrK x69 7 fun x70 =>
  ld1K σ x70 fun x71 =>
  ifK x71 (
  c53_3 run fu s2 x0 x1 x5 x6 x7 x8 (.fn (.func 68) [] []) σ) (
  c53_3 run fu s2 x0 x1 x5 x6 x7 x8 x9 σ)) (
  cmpK .eql x39 (.int .u8 45) fun x73 =>
  ifK x73 (
  nchkK x0 fun x75 =>
  addrK x75 0 fun x76 =>
  ld1K σ x76 fun x77 =>
  nchkK x77 fun x78 =>
  addrK x78 8 fun x79 =>
  ld1K σ x79 fun x80 =>
  ifK x80 (
  c53_3 run fu s2 x0 x1 x5 x6 x7 x8 (.fn (.func 69) [] []) σ) (
  c53_3 run fu s2 x0 x1 x5 x6 x7 x8 x9 σ)) (
  cmpK .eql x39 (.int .u8 34) fun x82 =>
  ifK x82 (
  c53_10 run fu s2 x0 x1 x5 x6 x7 x8 x9 x39 x82 σ) (
  cmpK .eql x39 (.int .u8 39) fun x83 =>
  c53_10 run fu s2 x0 x1 x5 x6 x7 x8 x9 x39 x83 σ))))

theorem eq53_9 (run : FuncId → List AV → Store → Tr R) (fu : Nat) (s2 : AV → AV → AV → AV → AV → AV → Store → Tr R) (x0 x1 x5 x6 x7 x8 x9 x39 x60 : AV) (σ : Store) : codeK X0 run (.cond .leaf (.seq .leaf (.cond (.seq .leaf (.cond .leaf .leaf)) (.seq .leaf (.cond (.seq .leaf (.cond .leaf .leaf)) (.seq (.seq .leaf (.cond .leaf .leaf)) (.sub (fun fr σ => c53_10 run fu s2 (fr.getD 0 .any) (fr.getD 1 .any) (fr.getD 5 .any) (fr.getD 6 .any) (fr.getD 7 .any) (fr.getD 8 .any) (fr.getD 9 .any) (fr.getD 39 .any) (fr.getD 81 .any) σ)))))))) (subC [true, true, true, true, true, true, true, true, true, false, false, false, true, false, true, false, true, false, true, true, true, true, true, true, true, true, true, true, true] b53) (frS 0 335 [(0, x0), (1, x1), (5, x5), (6, x6), (7, x7), (8, x8), (9, x9), (39, x39), (60, x60)]) σ (blockK 2 (thenK (fun fr σ => c53_3 run fu s2 (fr.getD 0 .any) (fr.getD 1 .any) (fr.getD 5 .any) (fr.getD 6 .any) (fr.getD 7 .any) (fr.getD 8 .any) (fr.getD 9 .any) σ) (blockK 1 (thenK (fun fr σ => s2 (fr.getD 0 .any) (fr.getD 1 .any) (fr.getD 5 .any) (fr.getD 6 .any) (fr.getD 7 .any) (fr.getD 8 .any) σ) (blockK 0 (thenK (fun fr σ => c53_1 run fu (fr.getD 0 .any) (fr.getD 1 .any) σ) k53)))))) = c53_9 run fu s2 x0 x1 x5 x6 x7 x8 x9 x39 x60 σ := by kernel_rfl

theorem ok53_9 {run : FuncId → List AV → Store → Tr R} (hrun : RunOK X0 run) (fu : Nat) (s2 : AV → AV → AV → AV → AV → AV → Store → Tr R) : ∀ fr σ, KOK X0 335 (subC [true, true, true, true, true, true, true, true, true, false, false, false, true, false, true, false, true, false, true, true, true, true, true, true, true, true, true, true, true] b53) fr σ ((fun fr σ => c53_9 run fu s2 (fr.getD 0 .any) (fr.getD 1 .any) (fr.getD 5 .any) (fr.getD 6 .any) (fr.getD 7 .any) (fr.getD 8 .any) (fr.getD 9 .any) (fr.getD 39 .any) (fr.getD 60 .any) σ) fr σ) (blockK 2 (thenK (fun fr σ => c53_3 run fu s2 (fr.getD 0 .any) (fr.getD 1 .any) (fr.getD 5 .any) (fr.getD 6 .any) (fr.getD 7 .any) (fr.getD 8 .any) (fr.getD 9 .any) σ) (blockK 1 (thenK (fun fr σ => s2 (fr.getD 0 .any) (fr.getD 1 .any) (fr.getD 5 .any) (fr.getD 6 .any) (fr.getD 7 .any) (fr.getD 8 .any) σ) (blockK 0 (thenK (fun fr σ => c53_1 run fu (fr.getD 0 .any) (fr.getD 1 .any) σ) k53)))))) := fun fr σ =>
  KOK.piece env0 hrun [0, 1, 5, 6, 7, 8, 9, 39, 60] (eq53_9 run fu s2 (fr.getD 0 .any) (fr.getD 1 .any) (fr.getD 5 .any) (fr.getD 6 .any) (fr.getD 7 .any) (fr.getD 8 .any) (fr.getD 9 .any) (fr.getD 39 .any) (fr.getD 60 .any) σ) ⟨trivial, ⟨trivial, ⟨⟨trivial, ⟨trivial, trivial⟩⟩, ⟨trivial, ⟨⟨trivial, ⟨trivial, trivial⟩⟩, ⟨⟨trivial, ⟨trivial, trivial⟩⟩, (ok53_10 hrun fu s2)⟩⟩⟩⟩⟩⟩

noncomputable def c53_2b (run : FuncId → List AV → Store → Tr R) (fu : Nat) (s2 : AV → AV → AV → AV → AV → AV → Store → Tr R) (x0 x1 x5 x6 x7 x8 : AV) (σ : Store) : Tr R :=
  lenSK x1 fun x35 =>
  cmpK .lss x8 x35 fun x36 =>
  ifK x36 (
  idxSK x1 x8 fun x39 =>
  cmpK .eql x39 (.int .u8 92) fun x41 =>
  ifK x41 (
  c53_3 run fu s2 x0 x1 x5 x6 x7 x8 (.fn (.func 61) [] []) σ) (
  cmpK .eql x39 (.int .u8 96) fun x43 =>
  ifK x43 (
  notK x7 fun x45 =>
  ifK x45 (
  nchkK x0 fun x47 =>
  addrK x47 12 fun x48 =>
  calK run 62 [x48] σ fun x49 σ1 =>
  c53_8 run fu s2 x0 x1 x5 x6 (.bool true) x8 σ1) (
  c53_8 run fu s2 x0 x1 x5 x6 x7 x8 σ)) (
  cmpK .eql x39 (.int .u8 60) fun x55 =>
  ifK x55 (
  c53_3 run fu s2 x0 x1 x5 x6 x7 x8 (.fn (.func 64) [] []) σ) (
  cmpK .eql x39 (.int .u8 91) fun x57 =>
  ifK x57 (
  c53_3 run fu s2 x0 x1 x5 x6 x7 x8 (.fn (.func 65) [] []) σ) (
  cmpK .eql x39 (.int .u8 33) fun x59 =>
  ifK x59 (
  c53_3 run fu s2 x0 x1 x5 x6 x7 x8 (.fn (.func 66) [] []) σ) (
  cmpK .eql x39 (.int .u8 95) fun x61 =>
  ifK x61 (
  c53_9 run fu s2 x0 x1 x5 x6 x7 x8 .nilf x39 x61 σ) (
  cmpK .eql x39 (.int .u8 42) fun x62 =>
  c53_9 run fu s2 x0 x1 x5 x6 x7 x8 .nilf x39 x62 σ))))))) (
  c53_1 run fu x0 x1 σ)

noncomputable def c53_2 (run : FuncId → List AV → Store → Tr R) (fu : Nat) : Nat → AV → AV → AV → AV → AV → AV → Store → Tr R
  | 0 => fun _ _ _ _ _ _ _ => .fail
  | m + 1 => c53_2b run fu (c53_2 run fu m)

theorem eq53_2 (run : FuncId → List AV → Store → Tr R) (fu : Nat) (s2 : AV → AV → AV → AV → AV → AV → Store → Tr R) (x0 x1 x5 x6 x7 x8 : AV) (σ : Store) : codeK X0 run (.seq (.seq .leaf (.cond .leaf .leaf)) (.block (.seq .leaf (.seq (.seq .leaf (.block (.seq .leaf (.cond .leaf (.seq .leaf (.cond (.seq (.seq .leaf (.cond (.seq .leaf .leaf) .leaf)) (.sub (fun fr σ => c53_8 run fu s2 (fr.getD 0 .any) (fr.getD 1 .any) (fr.getD 5 .any) (fr.getD 6 .any) (fr.getD 7 .any) (fr.getD 8 .any) σ))) (.seq .leaf (.cond .leaf (.seq .leaf (.cond .leaf (.seq .leaf (.cond .leaf (.seq (.seq .leaf (.cond .leaf .leaf)) (.sub (fun fr σ => c53_9 run fu s2 (fr.getD 0 .any) (fr.getD 1 .any) (fr.getD 5 .any) (fr.getD 6 .any) (fr.getD 7 .any) (fr.getD 8 .any) (fr.getD 9 .any) (fr.getD 39 .any) (fr.getD 60 .any) σ))))))))))))))) (.sub (fun fr σ => c53_3 run fu s2 (fr.getD 0 .any) (fr.getD 1 .any) (fr.getD 5 .any) (fr.getD 6 .any) (fr.getD 7 .any) (fr.getD 8 .any) (fr.getD 9 .any) σ)))))) (subC [true, true, true, true, true, true, true, true, true, false, false, false] b53) (frS 0 335 [(0, x0), (1, x1), (5, x5), (6, x6), (7, x7), (8, x8)]) σ (thenK (fun fr σ => s2 (fr.getD 0 .any) (fr.getD 1 .any) (fr.getD 5 .any) (fr.getD 6 .any) (fr.getD 7 .any) (fr.getD 8 .any) σ) (blockK 0 (thenK (fun fr σ => c53_1 run fu (fr.getD 0 .any) (fr.getD 1 .any) σ) k53))) = c53_2b run fu s2 x0 x1 x5 x6 x7 x8 σ := by kernel_rfl

theorem owed53_2 {run : FuncId → List AV → Store → Tr R} (hrun : RunOK X0 run) (fu : Nat) (s2 : AV → AV → AV → AV → AV → AV → Store → Tr R) : Owes X0 run 335 (.seq (.seq .leaf (.cond .leaf .leaf)) (.block (.seq .leaf (.seq (.seq .leaf (.block (.seq .leaf (.cond .leaf (.seq .leaf (.cond (.seq (.seq .leaf (.cond (.seq .leaf .leaf) .leaf)) (.sub (fun fr σ => c53_8 run fu s2 (fr.getD 0 .any) (fr.getD 1 .any) (fr.getD 5 .any) (fr.getD 6 .any) (fr.getD 7 .any) (fr.getD 8 .any) σ))) (.seq .leaf (.cond .leaf (.seq .leaf (.cond .leaf (.seq .leaf (.cond .leaf (.seq (.seq .leaf (.cond .leaf .leaf)) (.sub (fun fr σ => c53_9 run fu s2 (fr.getD 0 .any) (fr.getD 1 .any) (fr.getD 5 .any) (fr.getD 6 .any) (fr.getD 7 .any) (fr.getD 8 .any) (fr.getD 9 .any) (fr.getD 39 .any) (fr.getD 60 .any) σ))))))))))))))) (.sub (fun fr σ => c53_3 run fu s2 (fr.getD 0 .any) (fr.getD 1 .any) (fr.getD 5 .any) (fr.getD 6 .any) (fr.getD 7 .any) (fr.getD 8 .any) (fr.getD 9 .any) σ)))))) (subC [true, true, true, true, true, true, true, true, true, false, false, false] b53) (thenK (fun fr σ => s2 (fr.getD 0 .any) (fr.getD 1 .any) (fr.getD 5 .any) (fr.getD 6 .any) (fr.getD 7 .any) (fr.getD 8 .any) σ) (blockK 0 (thenK (fun fr σ => c53_1 run fu (fr.getD 0 .any) (fr.getD 1 .any) σ) k53))) :=
  ⟨⟨trivial, ⟨trivial, trivial⟩⟩, ⟨trivial, ⟨⟨trivial, ⟨trivial, ⟨trivial, ⟨trivial, ⟨⟨⟨trivial, ⟨⟨trivial, trivial⟩, trivial⟩⟩, (ok53_8 hrun fu s2)⟩, ⟨trivial, ⟨trivial, ⟨trivial, ⟨trivial, ⟨trivial, ⟨trivial, ⟨⟨trivial, ⟨trivial, trivial⟩⟩, (ok53_9 hrun fu s2)⟩⟩⟩⟩⟩⟩⟩⟩⟩⟩⟩⟩, (ok53_3 hrun fu s2)⟩⟩⟩

theorem ok53_2 {run : FuncId → List AV → Store → Tr R} (hrun : RunOK X0 run) (fu : Nat) : ∀ fr σ, KOK X0 335 (subC [true, true, true, true, true, true, true, true, true, false, false] b53) fr σ ((fun fr σ => c53_2 run fu fu (fr.getD 0 .any) (fr.getD 1 .any) (fr.getD 5 .any) (fr.getD 6 .any) (fr.getD 7 .any) (fr.getD 8 .any) σ) fr σ) (blockK 0 (thenK (fun fr σ => c53_1 run fu (fr.getD 0 .any) (fr.getD 1 .any) σ) k53)) := by
  have h := KOK.loop (X := X0) (N := 335) (b := (subC [true, true, true, true, true, true, true, true, true, false, false, false] b53)) (k := (blockK 0 (thenK (fun fr σ => c53_1 run fu (fr.getD 0 .any) (fr.getD 1 .any) σ) k53))) (u := fun m fr σ => c53_2 run fu m (fr.getD 0 .any) (fr.getD 1 .any) (fr.getD 5 .any) (fr.getD 6 .any) (fr.getD 7 .any) (fr.getD 8 .any) σ) (fun _ _ => rfl) (fun m fr σ => KOK.piece env0 hrun [0, 1, 5, 6, 7, 8] (eq53_2 run fu (c53_2 run fu m) (fr.getD 0 .any) (fr.getD 1 .any) (fr.getD 5 .any) (fr.getD 6 .any) (fr.getD 7 .any) (fr.getD 8 .any) σ) (owed53_2 hrun fu (c53_2 run fu m)))
  exact fun fr σ => h fu fr σ
end Go.Proofs.YtfmgdjkcdmjloaaGreatDoor
