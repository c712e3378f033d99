/- Functions of the program, told as Lean functions of abstract values and stores, each with its proof. -/
import Derived.Test.YtfmgdjkcdmjloaaGreatDoorSyX
import Derived.Test.YtfmgdjkcdmjloaaGreatDoorSyRe
import Derived.Test.YtfmgdjkcdmjloaaGreatDoorSyAb
set_option linter.unusedVariables false
set_option linter.unusedSimpArgs false
namespace Go.Proofs.YtfmgdjkcdmjloaaGreatDoor
open Go.AM
-- pub-paratext/pub/rscmarkdown.parseLinkRefDef

noncomputable def b278 : Code := match Tryz.f278.body with | some c => c | none => .skip

noncomputable def k278 : Kont R := retK Tryz.prog [.tmp 4, .tmp 5]

noncomputable def c278_6 (run : RunT) (fu : Nat) (x6 : AV) (σ : Store) : Tr R :=
  .ret (.tup [x6, (.bool true)], σ)

theorem eq278_6 (run : RunT) (fu : Nat) (x6 : AV) (σ : Store) : codeK X0 run (.seq .leaf .leaf) (subC [true, true, true, true, true, true, true, true, true, true, true, true, true, true, true, true, true, true, true, true] b278) (frS 0 200 [(6, x6)]) σ k278 = c278_6 run fu x6 σ := by kernel_rfl

theorem ok278_6 {run : RunT} (hrun : RunOK X0 run) (fu : Nat) : ∀ fr σ, KOK X0 200 (subC [true, true, true, true, true, true, true, true, true, true, true, true, true, true, true, true, true, true, true, true] b278) fr σ ((fun fr σ => c278_6 run fu (G fr 6) σ) fr σ) k278 := fun fr σ =>
  KOK.piece env0 hrun [6] (eq278_6 run fu (G fr 6) σ) ⟨trivial, trivial⟩

noncomputable def c278_5 (run : RunT) (fu : Nat) (x0 x6 x7 x10 x13 x14 x15 : AV) (σ : Store) : Tr R :=
  calK run 114 [x7] σ fun x185 σ1 =>
  invK X0 run x0 "pub-paratext/pub/rscmarkdown.link" [x185] σ1 fun x188 σ2 =>
  eqOK (nilEq nilP) x188 .nilp fun x189 =>
  ifK x189 (
  bldK [.nils, (.str []), (.str []), (.int .u8 0), (.bool false)] [(1, 1, x10), (2, 1, x13), (3, 1, x14), (4, 1, x15)] fun x196 =>
  boxK σ2 277 x196 fun x197 σ3 =>
  invK X0 run x0 "pub-paratext/pub/rscmarkdown.defineLink" [x185, x197] σ3 fun x198 σ4 =>
  c278_6 run fu x6 σ4) (
  c278_6 run fu x6 σ2)

theorem eq278_5 (run : RunT) (fu : Nat) (x0 x6 x7 x10 x13 x14 x15 : AV) (σ : Store) : codeK X0 run (.seq .leaf (.seq (.seq .leaf (.cond .leaf .leaf)) (.sub (fun fr σ => c278_6 run fu (G fr 6) σ)))) (subC [true, true, true, true, true, true, true, true, true, true, true, true, true, true, true, true, true, true] b278) (frS 0 200 [(0, x0), (6, x6), (7, x7), (10, x10), (13, x13), (14, x14), (15, x15)]) σ k278 = c278_5 run fu x0 x6 x7 x10 x13 x14 x15 σ := by kernel_rfl

theorem ok278_5 {run : RunT} (hrun : RunOK X0 run) (fu : Nat) : ∀ fr σ, KOK X0 200 (subC [true, true, true, true, true, true, true, true, true, true, true, true, true, true, true, true, true, true] b278) fr σ ((fun fr σ => c278_5 run fu (G fr 0) (G fr 6) (G fr 7) (G fr 10) (G fr 13) (G fr 14) (G fr 15) σ) fr σ) k278 := fun fr σ =>
  KOK.piece env0 hrun [0, 6, 7, 10, 13, 14, 15] (eq278_5 run fu (G fr 0) (G fr 6) (G fr 7) (G fr 10) (G fr 13) (G fr 14) (G fr 15) σ) ⟨trivial, ⟨⟨trivial, ⟨trivial, trivial⟩⟩, (ok278_6 hrun fu)⟩⟩

noncomputable def c278_4 (run : RunT) (fu : Nat) (x0 x1 x6 x7 x10 x13 x14 x15 : AV) (σ : Store) : Tr R :=
  lenSK x1 fun x170 =>
  cmpK .lss x6 x170 fun x171 =>
  grdK x171 true σ (fun f => f x1 σ) fun x173 σ1 =>
  grdK x171 true σ1 (fun f => f x6 σ1) fun x174 σ2 =>
  grdK x171 true σ2 (fun f => idxSK x173 x174 fun v => f v σ2) fun x175 σ3 =>
  grdK x171 true σ3 (fun f => cmpK .neq x175 (.int .u8 10) fun v => f v σ3) fun x176 σ4 =>
  pickK x171 x176 (.bool false) fun x177 =>
  ifK x177 (
  .ret (.tup [(.int .i64 0), (.bool false)], σ4)) (
  lenSK x1 fun x180 =>
  cmpK .lss x6 x180 fun x181 =>
  ifK x181 (
  addK x6 (.int .i64 1) fun x183 =>
  c278_5 run fu x0 x183 x7 x10 x13 x14 x15 σ4) (
  c278_5 run fu x0 x6 x7 x10 x13 x14 x15 σ4))

theorem eq278_4 (run : RunT) (fu : Nat) (x0 x1 x6 x7 x10 x13 x14 x15 : AV) (σ : Store) : codeK X0 run (.seq (.seq .leaf (.cond (.seq .leaf .leaf) .leaf)) (.seq (.seq .leaf (.cond .leaf .leaf)) (.sub (fun fr σ => c278_5 run fu (G fr 0) (G fr 6) (G fr 7) (G fr 10) (G fr 13) (G fr 14) (G fr 15) σ)))) (subC [true, true, true, true, true, true, true, true, true, true, true, true, true, true, true, true] b278) (frS 0 200 [(0, x0), (1, x1), (6, x6), (7, x7), (10, x10), (13, x13), (14, x14), (15, x15)]) σ k278 = c278_4 run fu x0 x1 x6 x7 x10 x13 x14 x15 σ := by kernel_rfl

theorem ok278_4 {run : RunT} (hrun : RunOK X0 run) (fu : Nat) : ∀ fr σ, KOK X0 200 (subC [true, true, true, true, true, true, true, true, true, true, true, true, true, true, true, true] b278) fr σ ((fun fr σ => c278_4 run fu (G fr 0) (G fr 1) (G fr 6) (G fr 7) (G fr 10) (G fr 13) (G fr 14) (G fr 15) σ) fr σ) k278 := fun fr σ =>
  KOK.piece env0 hrun [0, 1, 6, 7, 10, 13, 14, 15] (eq278_4 run fu (G fr 0) (G fr 1) (G fr 6) (G fr 7) (G fr 10) (G fr 13) (G fr 14) (G fr 15) σ) ⟨⟨trivial, ⟨⟨trivial, trivial⟩, trivial⟩⟩, ⟨⟨trivial, ⟨trivial, trivial⟩⟩, (ok278_5 hrun fu)⟩⟩

noncomputable def c278_9 (run : RunT) (fu : Nat) (x0 x1 x6 x7 x10 x15 x16 x17 : AV) (σ : Store) : Tr R :=
  c278_4 run fu x0 x1 x6 x7 x10 x16 x17 x15 σ

theorem eq278_9 (run : RunT) (fu : Nat) (x0 x1 x6 x7 x10 x15 x16 x17 : AV) (σ : Store) : codeK X0 run (.seq .leaf .leaf) (subC [true, true, true, true, true, true, true, true, true, true, true, true, true, true, true, false, true, false, true, true, true, false, true, true, false, true, true] b278) (frS 0 200 [(0, x0), (1, x1), (6, x6), (7, x7), (10, x10), (15, x15), (16, x16), (17, x17)]) σ (thenK (fun fr σ => c278_4 run fu (G fr 0) (G fr 1) (G fr 6) (G fr 7) (G fr 10) (G fr 13) (G fr 14) (G fr 15) σ) k278) = c278_9 run fu x0 x1 x6 x7 x10 x15 x16 x17 σ := by kernel_rfl

theorem ok278_9 {run : RunT} (hrun : RunOK X0 run) (fu : Nat) : ∀ fr σ, KOK X0 200 (subC [true, true, true, true, true, true, true, true, true, true, true, true, true, true, true, false, true, false, true, true, true, false, true, true, false, true, true] b278) fr σ ((fun fr σ => c278_9 run fu (G fr 0) (G fr 1) (G fr 6) (G fr 7) (G fr 10) (G fr 15) (G fr 16) (G fr 17) σ) fr σ) (thenK (fun fr σ => c278_4 run fu (G fr 0) (G fr 1) (G fr 6) (G fr 7) (G fr 10) (G fr 13) (G fr 14) (G fr 15) σ) k278) := fun fr σ =>
  KOK.piece env0 hrun [0, 1, 6, 7, 10, 15, 16, 17] (eq278_9 run fu (G fr 0) (G fr 1) (G fr 6) (G fr 7) (G fr 10) (G fr 15) (G fr 16) (G fr 17) σ) ⟨trivial, trivial⟩

noncomputable def c278_8 (run : RunT) (fu : Nat) (x0 x1 x6 x7 x10 x13 x14 x15 x16 x17 x18 : AV) (σ : Store) : Tr R :=
  lenSK x1 fun x155 =>
  cmpK .geq x18 x155 fun x156 =>
  grdK x156 false σ (fun f => f x1 σ) fun x158 σ1 =>
  grdK x156 false σ1 (fun f => f x18 σ1) fun x159 σ2 =>
  grdK x156 false σ2 (fun f => idxSK x158 x159 fun v => f v σ2) fun x160 σ3 =>
  grdK x156 false σ3 (fun f => cmpK .eql x160 (.int .u8 10) fun v => f v σ3) fun x161 σ4 =>
  pickK x156 (.bool true) x161 fun x162 =>
  ifK x162 (
  eqSK x16 (.str []) fun x165 =>
  ifK x165 (
  c278_9 run fu x0 x1 x18 x7 x10 (.bool true) x16 x17 σ4) (
  c278_9 run fu x0 x1 x18 x7 x10 x15 x16 x17 σ4)) (
  c278_4 run fu x0 x1 x6 x7 x10 x13 x14 x15 σ4)

theorem eq278_8 (run : RunT) (fu : Nat) (x0 x1 x6 x7 x10 x13 x14 x15 x16 x17 x18 : AV) (σ : Store) : codeK X0 run (.seq .leaf (.cond (.seq .leaf (.seq (.seq .leaf (.cond .leaf .leaf)) (.sub (fun fr σ => c278_9 run fu (G fr 0) (G fr 1) (G fr 6) (G fr 7) (G fr 10) (G fr 15) (G fr 16) (G fr 17) σ)))) .leaf)) (subC [true, true, true, true, true, true, true, true, true, true, true, true, true, true, true, false, true, false, true, true, true, false, true] b278) (frS 0 200 [(0, x0), (1, x1), (6, x6), (7, x7), (10, x10), (13, x13), (14, x14), (15, x15), (16, x16), (17, x17), (18, x18)]) σ (thenK (fun fr σ => c278_4 run fu (G fr 0) (G fr 1) (G fr 6) (G fr 7) (G fr 10) (G fr 13) (G fr 14) (G fr 15) σ) k278) = c278_8 run fu x0 x1 x6 x7 x10 x13 x14 x15 x16 x17 x18 σ := by kernel_rfl

theorem ok278_8 {run : RunT} (hrun : RunOK X0 run) (fu : Nat) : ∀ fr σ, KOK X0 200 (subC [true, true, true, true, true, true, true, true, true, true, true, true, true, true, true, false, true, false, true, true, true, false, true] b278) fr σ ((fun fr σ => c278_8 run fu (G fr 0) (G fr 1) (G fr 6) (G fr 7) (G fr 10) (G fr 13) (G fr 14) (G fr 15) (G fr 16) (G fr 17) (G fr 18) σ) fr σ) (thenK (fun fr σ => c278_4 run fu (G fr 0) (G fr 1) (G fr 6) (G fr 7) (G fr 10) (G fr 13) (G fr 14) (G fr 15) σ) k278) := fun fr σ =>
  KOK.piece env0 hrun [0, 1, 6, 7, 10, 13, 14, 15, 16, 17, 18] (eq278_8 run fu (G fr 0) (G fr 1) (G fr 6) (G fr 7) (G fr 10) (G fr 13) (G fr 14) (G fr 15) (G fr 16) (G fr 17) (G fr 18) σ) ⟨trivial, ⟨⟨trivial, ⟨⟨trivial, ⟨trivial, trivial⟩⟩, (ok278_9 hrun fu)⟩⟩, trivial⟩⟩

noncomputable def c278_10b (run : RunT) (fu : Nat) (s10 : W11) (x0 x1 x6 x7 x10 x13 x14 x15 x16 x17 x18 : AV) (σ : Store) : Tr R :=
  lenSK x1 fun x137 =>
  cmpK .lss x18 x137 fun x138 =>
  grdK x138 true σ (fun f => f x1 σ) fun x140 σ1 =>
  grdK x138 true σ1 (fun f => f x18 σ1) fun x141 σ2 =>
  grdK x138 true σ2 (fun f => idxSK x140 x141 fun v => f v σ2) fun x142 σ3 =>
  grdK x138 true σ3 (fun f => cmpK .eql x142 (.int .u8 32) fun v => f v σ3) fun x143 σ4 =>
  grdK x138 true σ4 (fun f => f x143 σ4) fun x144 σ5 =>
  grdK x144 false σ5 (fun f => f x1 σ5) fun x145 σ6 =>
  grdK x144 false σ6 (fun f => f x18 σ6) fun x146 σ7 =>
  grdK x144 false σ7 (fun f => idxSK x145 x146 fun v => f v σ7) fun x147 σ8 =>
  grdK x144 false σ8 (fun f => cmpK .eql x147 (.int .u8 9) fun v => f v σ8) fun x148 σ9 =>
  grdK x138 true σ9 (fun f => pickK x144 (.bool true) x148 fun v => f v σ9) fun x149 σ10 =>
  pickK x138 x149 (.bool false) fun x150 =>
  ifK x150 (
  addK x18 (.int .i64 1) fun x152 =>
  s10 x0 x1 x6 x7 x10 x13 x14 x15 x16 x17 x152 σ10) (
  c278_8 run fu x0 x1 x6 x7 x10 x13 x14 x15 x16 x17 x18 σ10)

noncomputable def c278_10 (run : RunT) (fu : Nat) : Nat → W11
  | 0 => fun _ _ _ _ _ _ _ _ _ _ _ _ => .fail
  | m + 1 => c278_10b run fu (c278_10 run fu m)

theorem eq278_10 (run : RunT) (fu : Nat) (s10 : W11) (x0 x1 x6 x7 x10 x13 x14 x15 x16 x17 x18 : AV) (σ : Store) : codeK X0 run (.seq (.seq .leaf (.cond .leaf .leaf)) (.block .leaf)) (subC [true, true, true, true, true, true, true, true, true, true, true, true, true, true, true, false, true, false, true, true, true, false, false, false, false] b278) (frS 0 200 [(0, x0), (1, x1), (6, x6), (7, x7), (10, x10), (13, x13), (14, x14), (15, x15), (16, x16), (17, x17), (18, x18)]) σ (thenK (fun fr σ => s10 (G fr 0) (G fr 1) (G fr 6) (G fr 7) (G fr 10) (G fr 13) (G fr 14) (G fr 15) (G fr 16) (G fr 17) (G fr 18) σ) (blockK 4 (thenK (fun fr σ => c278_8 run fu (G fr 0) (G fr 1) (G fr 6) (G fr 7) (G fr 10) (G fr 13) (G fr 14) (G fr 15) (G fr 16) (G fr 17) (G fr 18) σ) (thenK (fun fr σ => c278_4 run fu (G fr 0) (G fr 1) (G fr 6) (G fr 7) (G fr 10) (G fr 13) (G fr 14) (G fr 15) σ) k278)))) = c278_10b run fu s10 x0 x1 x6 x7 x10 x13 x14 x15 x16 x17 x18 σ := by kernel_rfl

theorem owed278_10 {run : RunT} (hrun : RunOK X0 run) (fu : Nat) (s10 : W11) : Owes X0 run 200 (.seq (.seq .leaf (.cond .leaf .leaf)) (.block .leaf)) (subC [true, true, true, true, true, true, true, true, true, true, true, true, true, true, true, false, true, false, true, true, true, false, false, false, false] b278) (thenK (fun fr σ => s10 (G fr 0) (G fr 1) (G fr 6) (G fr 7) (G fr 10) (G fr 13) (G fr 14) (G fr 15) (G fr 16) (G fr 17) (G fr 18) σ) (blockK 4 (thenK (fun fr σ => c278_8 run fu (G fr 0) (G fr 1) (G fr 6) (G fr 7) (G fr 10) (G fr 13) (G fr 14) (G fr 15) (G fr 16) (G fr 17) (G fr 18) σ) (thenK (fun fr σ => c278_4 run fu (G fr 0) (G fr 1) (G fr 6) (G fr 7) (G fr 10) (G fr 13) (G fr 14) (G fr 15) σ) k278)))) :=
  ⟨⟨trivial, ⟨trivial, trivial⟩⟩, trivial⟩

theorem ok278_10 {run : RunT} (hrun : RunOK X0 run) (fu : Nat) : ∀ fr σ, KOK X0 200 (subC [true, true, true, true, true, true, true, true, true, true, true, true, true, true, true, false, true, false, true, true, true, false, false, false] b278) fr σ ((fun fr σ => c278_10 run fu fu (G fr 0) (G fr 1) (G fr 6) (G fr 7) (G fr 10) (G fr 13) (G fr 14) (G fr 15) (G fr 16) (G fr 17) (G fr 18) σ) fr σ) (blockK 4 (thenK (fun fr σ => c278_8 run fu (G fr 0) (G fr 1) (G fr 6) (G fr 7) (G fr 10) (G fr 13) (G fr 14) (G fr 15) (G fr 16) (G fr 17) (G fr 18) σ) (thenK (fun fr σ => c278_4 run fu (G fr 0) (G fr 1) (G fr 6) (G fr 7) (G fr 10) (G fr 13) (G fr 14) (G fr 15) σ) k278))) := by
  have h := KOK.loop (X := X0) (N := 200) (b := (subC [true, true, true, true, true, true, true, true, true, true, true, true, true, true, true, false, true, false, true, true, true, false, false, false, false] b278)) (k := (blockK 4 (thenK (fun fr σ => c278_8 run fu (G fr 0) (G fr 1) (G fr 6) (G fr 7) (G fr 10) (G fr 13) (G fr 14) (G fr 15) (G fr 16) (G fr 17) (G fr 18) σ) (thenK (fun fr σ => c278_4 run fu (G fr 0) (G fr 1) (G fr 6) (G fr 7) (G fr 10) (G fr 13) (G fr 14) (G fr 15) σ) k278)))) (u := fun m fr σ => c278_10 run fu m (G fr 0) (G fr 1) (G fr 6) (G fr 7) (G fr 10) (G fr 13) (G fr 14) (G fr 15) (G fr 16) (G fr 17) (G fr 18) σ) (fun _ _ => rfl) (fun m fr σ => KOK.piece env0 hrun [0, 1, 6, 7, 10, 13, 14, 15, 16, 17, 18] (eq278_10 run fu (c278_10 run fu m) (G fr 0) (G fr 1) (G fr 6) (G fr 7) (G fr 10) (G fr 13) (G fr 14) (G fr 15) (G fr 16) (G fr 17) (G fr 18) σ) (owed278_10 hrun fu (c278_10 run fu m)))
  exact fun fr σ => h fu fr σ

noncomputable def c278_7 (run : RunT) (fu : Nat) (x0 x1 x6 x7 x10 x12 x13 x14 x15 : AV) (σ : Store) : Tr R :=
  calK run 112 [x1, x12] σ fun x129 σ1 =>
  extK x129 0 fun x130 =>
  extK x129 1 fun x131 =>
  extK x129 2 fun x132 =>
  extK x129 3 fun x133 =>
  ifK x133 (
  c278_10 run fu fu x0 x1 x6 x7 x10 x13 x14 x15 x130 x131 x132 σ1) (
  c278_4 run fu x0 x1 x6 x7 x10 x13 x14 x15 σ1)

theorem eq278_7 (run : RunT) (fu : Nat) (x0 x1 x6 x7 x10 x12 x13 x14 x15 : AV) (σ : Store) : codeK X0 run (.seq .leaf (.seq .leaf (.cond (.seq (.block (.sub (fun fr σ => c278_10 run fu fu (G fr 0) (G fr 1) (G fr 6) (G fr 7) (G fr 10) (G fr 13) (G fr 14) (G fr 15) (G fr 16) (G fr 17) (G fr 18) σ))) (.sub (fun fr σ => c278_8 run fu (G fr 0) (G fr 1) (G fr 6) (G fr 7) (G fr 10) (G fr 13) (G fr 14) (G fr 15) (G fr 16) (G fr 17) (G fr 18) σ))) .leaf))) (subC [true, true, true, true, true, true, true, true, true, true, true, true, true, true, true, false, true, false, true] b278) (frS 0 200 [(0, x0), (1, x1), (6, x6), (7, x7), (10, x10), (12, x12), (13, x13), (14, x14), (15, x15)]) σ (thenK (fun fr σ => c278_4 run fu (G fr 0) (G fr 1) (G fr 6) (G fr 7) (G fr 10) (G fr 13) (G fr 14) (G fr 15) σ) k278) = c278_7 run fu x0 x1 x6 x7 x10 x12 x13 x14 x15 σ := by kernel_rfl

theorem ok278_7 {run : RunT} (hrun : RunOK X0 run) (fu : Nat) : ∀ fr σ, KOK X0 200 (subC [true, true, true, true, true, true, true, true, true, true, true, true, true, true, true, false, true, false, true] b278) fr σ ((fun fr σ => c278_7 run fu (G fr 0) (G fr 1) (G fr 6) (G fr 7) (G fr 10) (G fr 12) (G fr 13) (G fr 14) (G fr 15) σ) fr σ) (thenK (fun fr σ => c278_4 run fu (G fr 0) (G fr 1) (G fr 6) (G fr 7) (G fr 10) (G fr 13) (G fr 14) (G fr 15) σ) k278) := fun fr σ =>
  KOK.piece env0 hrun [0, 1, 6, 7, 10, 12, 13, 14, 15] (eq278_7 run fu (G fr 0) (G fr 1) (G fr 6) (G fr 7) (G fr 10) (G fr 12) (G fr 13) (G fr 14) (G fr 15) σ) ⟨trivial, ⟨trivial, ⟨⟨(ok278_10 hrun fu), (ok278_8 hrun fu)⟩, trivial⟩⟩⟩

noncomputable def c278_11b (run : RunT) (fu : Nat) (s11 : W9) (x0 x1 x6 x7 x10 x12 x13 x14 x15 : AV) (σ : Store) : Tr R :=
  lenSK x1 fun x110 =>
  cmpK .lss x12 x110 fun x111 =>
  grdK x111 true σ (fun f => f x1 σ) fun x113 σ1 =>
  grdK x111 true σ1 (fun f => f x12 σ1) fun x114 σ2 =>
  grdK x111 true σ2 (fun f => idxSK x113 x114 fun v => f v σ2) fun x115 σ3 =>
  grdK x111 true σ3 (fun f => cmpK .eql x115 (.int .u8 32) fun v => f v σ3) fun x116 σ4 =>
  grdK x111 true σ4 (fun f => f x116 σ4) fun x117 σ5 =>
  grdK x117 false σ5 (fun f => f x1 σ5) fun x118 σ6 =>
  grdK x117 false σ6 (fun f => f x12 σ6) fun x119 σ7 =>
  grdK x117 false σ7 (fun f => idxSK x118 x119 fun v => f v σ7) fun x120 σ8 =>
  grdK x117 false σ8 (fun f => cmpK .eql x120 (.int .u8 9) fun v => f v σ8) fun x121 σ9 =>
  grdK x111 true σ9 (fun f => pickK x117 (.bool true) x121 fun v => f v σ9) fun x122 σ10 =>
  pickK x111 x122 (.bool false) fun x123 =>
  ifK x123 (
  addK x12 (.int .i64 1) fun x125 =>
  s11 x0 x1 x6 x7 x10 x125 x13 x14 x15 σ10) (
  c278_7 run fu x0 x1 x6 x7 x10 x12 x13 x14 x15 σ10)

noncomputable def c278_11 (run : RunT) (fu : Nat) : Nat → W9
  | 0 => fun _ _ _ _ _ _ _ _ _ _ => .fail
  | m + 1 => c278_11b run fu (c278_11 run fu m)

theorem eq278_11 (run : RunT) (fu : Nat) (s11 : W9) (x0 x1 x6 x7 x10 x12 x13 x14 x15 : AV) (σ : Store) : codeK X0 run (.seq (.seq .leaf (.cond .leaf .leaf)) (.block .leaf)) (subC [true, true, true, true, true, true, true, true, true, true, true, true, true, true, true, false, true, false, false, false, false] b278) (frS 0 200 [(0, x0), (1, x1), (6, x6), (7, x7), (10, x10), (12, x12), (13, x13), (14, x14), (15, x15)]) σ (thenK (fun fr σ => s11 (G fr 0) (G fr 1) (G fr 6) (G fr 7) (G fr 10) (G fr 12) (G fr 13) (G fr 14) (G fr 15) σ) (blockK 2 (thenK (fun fr σ => c278_7 run fu (G fr 0) (G fr 1) (G fr 6) (G fr 7) (G fr 10) (G fr 12) (G fr 13) (G fr 14) (G fr 15) σ) (thenK (fun fr σ => c278_4 run fu (G fr 0) (G fr 1) (G fr 6) (G fr 7) (G fr 10) (G fr 13) (G fr 14) (G fr 15) σ) k278)))) = c278_11b run fu s11 x0 x1 x6 x7 x10 x12 x13 x14 x15 σ := by kernel_rfl

theorem owed278_11 {run : RunT} (hrun : RunOK X0 run) (fu : Nat) (s11 : W9) : Owes X0 run 200 (.seq (.seq .leaf (.cond .leaf .leaf)) (.block .leaf)) (subC [true, true, true, true, true, true, true, true, true, true, true, true, true, true, true, false, true, false, false, false, false] b278) (thenK (fun fr σ => s11 (G fr 0) (G fr 1) (G fr 6) (G fr 7) (G fr 10) (G fr 12) (G fr 13) (G fr 14) (G fr 15) σ) (blockK 2 (thenK (fun fr σ => c278_7 run fu (G fr 0) (G fr 1) (G fr 6) (G fr 7) (G fr 10) (G fr 12) (G fr 13) (G fr 14) (G fr 15) σ) (thenK (fun fr σ => c278_4 run fu (G fr 0) (G fr 1) (G fr 6) (G fr 7) (G fr 10) (G fr 13) (G fr 14) (G fr 15) σ) k278)))) :=
  ⟨⟨trivial, ⟨trivial, trivial⟩⟩, trivial⟩

theorem ok278_11 {run : RunT} (hrun : RunOK X0 run) (fu : Nat) : ∀ fr σ, KOK X0 200 (subC [true, true, true, true, true, true, true, true, true, true, true, true, true, true, true, false, true, false, false, false] b278) fr σ ((fun fr σ => c278_11 run fu fu (G fr 0) (G fr 1) (G fr 6) (G fr 7) (G fr 10) (G fr 12) (G fr 13) (G fr 14) (G fr 15) σ) fr σ) (blockK 2 (thenK (fun fr σ => c278_7 run fu (G fr 0) (G fr 1) (G fr 6) (G fr 7) (G fr 10) (G fr 12) (G fr 13) (G fr 14) (G fr 15) σ) (thenK (fun fr σ => c278_4 run fu (G fr 0) (G fr 1) (G fr 6) (G fr 7) (G fr 10) (G fr 13) (G fr 14) (G fr 15) σ) k278))) := by
  have h := KOK.loop (X := X0) (N := 200) (b := (subC [true, true, true, true, true, true, true, true, true, true, true, true, true, true, true, false, true, false, false, false, false] b278)) (k := (blockK 2 (thenK (fun fr σ => c278_7 run fu (G fr 0) (G fr 1) (G fr 6) (G fr 7) (G fr 10) (G fr 12) (G fr 13) (G fr 14) (G fr 15) σ) (thenK (fun fr σ => c278_4 run fu (G fr 0) (G fr 1) (G fr 6) (G fr 7) (G fr 10) (G fr 13) (G fr 14) (G fr 15) σ) k278)))) (u := fun m fr σ => c278_11 run fu m (G fr 0) (G fr 1) (G fr 6) (G fr 7) (G fr 10) (G fr 12) (G fr 13) (G fr 14) (G fr 15) σ) (fun _ _ => rfl) (fun m fr σ => KOK.piece env0 hrun [0, 1, 6, 7, 10, 12, 13, 14, 15] (eq278_11 run fu (c278_11 run fu m) (G fr 0) (G fr 1) (G fr 6) (G fr 7) (G fr 10) (G fr 12) (G fr 13) (G fr 14) (G fr 15) σ) (owed278_11 hrun fu (c278_11 run fu m)))
  exact fun fr σ => h fu fr σ

noncomputable def c278_3 (run : RunT) (fu : Nat) (x0 x1 x6 x7 x10 x11 x12 : AV) (σ : Store) : Tr R :=
  ifK x11 (
  c278_11 run fu fu x0 x1 x6 x7 x10 x12 (.str []) (.int .u8 0) (.bool false) σ) (
  c278_4 run fu x0 x1 x6 x7 x10 (.str []) (.int .u8 0) (.bool false) σ)

theorem eq278_3 (run : RunT) (fu : Nat) (x0 x1 x6 x7 x10 x11 x12 : AV) (σ : Store) : codeK X0 run (.seq .leaf (.seq .leaf (.seq .leaf (.seq (.seq .leaf (.cond (.seq (.block (.sub (fun fr σ => c278_11 run fu fu (G fr 0) (G fr 1) (G fr 6) (G fr 7) (G fr 10) (G fr 12) (G fr 13) (G fr 14) (G fr 15) σ))) (.sub (fun fr σ => c278_7 run fu (G fr 0) (G fr 1) (G fr 6) (G fr 7) (G fr 10) (G fr 12) (G fr 13) (G fr 14) (G fr 15) σ))) .leaf)) (.sub (fun fr σ => c278_4 run fu (G fr 0) (G fr 1) (G fr 6) (G fr 7) (G fr 10) (G fr 13) (G fr 14) (G fr 15) σ)))))) (subC [true, true, true, true, true, true, true, true, true, true, true, true] b278) (frS 0 200 [(0, x0), (1, x1), (6, x6), (7, x7), (10, x10), (11, x11), (12, x12)]) σ k278 = c278_3 run fu x0 x1 x6 x7 x10 x11 x12 σ := by kernel_rfl

theorem ok278_3 {run : RunT} (hrun : RunOK X0 run) (fu : Nat) : ∀ fr σ, KOK X0 200 (subC [true, true, true, true, true, true, true, true, true, true, true, true] b278) fr σ ((fun fr σ => c278_3 run fu (G fr 0) (G fr 1) (G fr 6) (G fr 7) (G fr 10) (G fr 11) (G fr 12) σ) fr σ) k278 := fun fr σ =>
  KOK.piece env0 hrun [0, 1, 6, 7, 10, 11, 12] (eq278_3 run fu (G fr 0) (G fr 1) (G fr 6) (G fr 7) (G fr 10) (G fr 11) (G fr 12) σ) ⟨trivial, ⟨trivial, ⟨trivial, ⟨⟨trivial, ⟨⟨(ok278_11 hrun fu), (ok278_7 hrun fu)⟩, trivial⟩⟩, (ok278_4 hrun fu)⟩⟩⟩⟩

noncomputable def c278_2 (run : RunT) (fu : Nat) (x0 x1 x6 x7 x10 x11 : AV) (σ : Store) : Tr R :=
  lenSK x1 fun x93 =>
  cmpK .geq x6 x93 fun x94 =>
  grdK x94 false σ (fun f => f x1 σ) fun x96 σ1 =>
  grdK x94 false σ1 (fun f => f x6 σ1) fun x97 σ2 =>
  grdK x94 false σ2 (fun f => idxSK x96 x97 fun v => f v σ2) fun x98 σ3 =>
  grdK x94 false σ3 (fun f => cmpK .eql x98 (.int .u8 10) fun v => f v σ3) fun x99 σ4 =>
  pickK x94 (.bool true) x99 fun x100 =>
  ifK x100 (
  lenSK x1 fun x103 =>
  cmpK .lss x6 x103 fun x104 =>
  ifK x104 (
  addK x6 (.int .i64 1) fun x106 =>
  c278_3 run fu x0 x1 x6 x7 x10 (.bool true) x106 σ4) (
  c278_3 run fu x0 x1 x6 x7 x10 (.bool true) x6 σ4)) (
  c278_3 run fu x0 x1 x6 x7 x10 x11 x6 σ4)

theorem eq278_2 (run : RunT) (fu : Nat) (x0 x1 x6 x7 x10 x11 : AV) (σ : Store) : codeK X0 run (.seq .leaf (.seq (.seq .leaf (.cond (.seq .leaf (.seq .leaf (.cond .leaf .leaf))) .leaf)) (.sub (fun fr σ => c278_3 run fu (G fr 0) (G fr 1) (G fr 6) (G fr 7) (G fr 10) (G fr 11) (G fr 12) σ)))) (subC [true, true, true, true, true, true, true, true, true, true] b278) (frS 0 200 [(0, x0), (1, x1), (6, x6), (7, x7), (10, x10), (11, x11)]) σ k278 = c278_2 run fu x0 x1 x6 x7 x10 x11 σ := by kernel_rfl

theorem ok278_2 {run : RunT} (hrun : RunOK X0 run) (fu : Nat) : ∀ fr σ, KOK X0 200 (subC [true, true, true, true, true, true, true, true, true, true] b278) fr σ ((fun fr σ => c278_2 run fu (G fr 0) (G fr 1) (G fr 6) (G fr 7) (G fr 10) (G fr 11) σ) fr σ) k278 := fun fr σ =>
  KOK.piece env0 hrun [0, 1, 6, 7, 10, 11] (eq278_2 run fu (G fr 0) (G fr 1) (G fr 6) (G fr 7) (G fr 10) (G fr 11) σ) ⟨trivial, ⟨⟨trivial, ⟨⟨trivial, ⟨trivial, ⟨trivial, trivial⟩⟩⟩, trivial⟩⟩, (ok278_3 hrun fu)⟩⟩

noncomputable def c278_12b (run : RunT) (fu : Nat) (s12 : W6) (x0 x1 x6 x7 x10 x11 : AV) (σ : Store) : Tr R :=
  lenSK x1 fun x74 =>
  cmpK .lss x6 x74 fun x75 =>
  grdK x75 true σ (fun f => f x1 σ) fun x77 σ1 =>
  grdK x75 true σ1 (fun f => f x6 σ1) fun x78 σ2 =>
  grdK x75 true σ2 (fun f => idxSK x77 x78 fun v => f v σ2) fun x79 σ3 =>
  grdK x75 true σ3 (fun f => cmpK .eql x79 (.int .u8 32) fun v => f v σ3) fun x80 σ4 =>
  grdK x75 true σ4 (fun f => f x80 σ4) fun x81 σ5 =>
  grdK x81 false σ5 (fun f => f x1 σ5) fun x82 σ6 =>
  grdK x81 false σ6 (fun f => f x6 σ6) fun x83 σ7 =>
  grdK x81 false σ7 (fun f => idxSK x82 x83 fun v => f v σ7) fun x84 σ8 =>
  grdK x81 false σ8 (fun f => cmpK .eql x84 (.int .u8 9) fun v => f v σ8) fun x85 σ9 =>
  grdK x75 true σ9 (fun f => pickK x81 (.bool true) x85 fun v => f v σ9) fun x86 σ10 =>
  pickK x75 x86 (.bool false) fun x87 =>
  ifK x87 (
  addK x6 (.int .i64 1) fun x89 =>
  s12 x0 x1 x89 x7 x10 (.bool true) σ10) (
  c278_2 run fu x0 x1 x6 x7 x10 x11 σ10)

noncomputable def c278_12 (run : RunT) (fu : Nat) : Nat → W6
  | 0 => fun _ _ _ _ _ _ _ => .fail
  | m + 1 => c278_12b run fu (c278_12 run fu m)

theorem eq278_12 (run : RunT) (fu : Nat) (s12 : W6) (x0 x1 x6 x7 x10 x11 : AV) (σ : Store) : codeK X0 run (.seq (.seq .leaf (.cond .leaf .leaf)) (.block (.seq .leaf .leaf))) (subC [true, true, true, true, true, true, true, true, true, false, false, false] b278) (frS 0 200 [(0, x0), (1, x1), (6, x6), (7, x7), (10, x10), (11, x11)]) σ (thenK (fun fr σ => s12 (G fr 0) (G fr 1) (G fr 6) (G fr 7) (G fr 10) (G fr 11) σ) (blockK 0 (thenK (fun fr σ => c278_2 run fu (G fr 0) (G fr 1) (G fr 6) (G fr 7) (G fr 10) (G fr 11) σ) k278))) = c278_12b run fu s12 x0 x1 x6 x7 x10 x11 σ := by kernel_rfl

theorem owed278_12 {run : RunT} (hrun : RunOK X0 run) (fu : Nat) (s12 : W6) : Owes X0 run 200 (.seq (.seq .leaf (.cond .leaf .leaf)) (.block (.seq .leaf .leaf))) (subC [true, true, true, true, true, true, true, true, true, false, false, false] b278) (thenK (fun fr σ => s12 (G fr 0) (G fr 1) (G fr 6) (G fr 7) (G fr 10) (G fr 11) σ) (blockK 0 (thenK (fun fr σ => c278_2 run fu (G fr 0) (G fr 1) (G fr 6) (G fr 7) (G fr 10) (G fr 11) σ) k278))) :=
  ⟨⟨trivial, ⟨trivial, trivial⟩⟩, ⟨trivial, trivial⟩⟩

theorem ok278_12 {run : RunT} (hrun : RunOK X0 run) (fu : Nat) : ∀ fr σ, KOK X0 200 (subC [true, true, true, true, true, true, true, true, true, false, false] b278) fr σ ((fun fr σ => c278_12 run fu fu (G fr 0) (G fr 1) (G fr 6) (G fr 7) (G fr 10) (G fr 11) σ) fr σ) (blockK 0 (thenK (fun fr σ => c278_2 run fu (G fr 0) (G fr 1) (G fr 6) (G fr 7) (G fr 10) (G fr 11) σ) k278)) := by
  have h := KOK.loop (X := X0) (N := 200) (b := (subC [true, true, true, true, true, true, true, true, true, false, false, false] b278)) (k := (blockK 0 (thenK (fun fr σ => c278_2 run fu (G fr 0) (G fr 1) (G fr 6) (G fr 7) (G fr 10) (G fr 11) σ) k278))) (u := fun m fr σ => c278_12 run fu m (G fr 0) (G fr 1) (G fr 6) (G fr 7) (G fr 10) (G fr 11) σ) (fun _ _ => rfl) (fun m fr σ => KOK.piece env0 hrun [0, 1, 6, 7, 10, 11] (eq278_12 run fu (c278_12 run fu m) (G fr 0) (G fr 1) (G fr 6) (G fr 7) (G fr 10) (G fr 11) σ) (owed278_12 hrun fu (c278_12 run fu m)))
  exact fun fr σ => h fu fr σ

noncomputable def c278_1 (run : RunT) (fu : Nat) (x0 x1 x6 x7 x10 : AV) (σ : Store) : Tr R :=
  c278_12 run fu fu x0 x1 x6 x7 x10 (.bool false) σ

theorem eq278_1 (run : RunT) (fu : Nat) (x0 x1 x6 x7 x10 : AV) (σ : Store) : codeK X0 run (.seq .leaf (.seq (.block (.sub (fun fr σ => c278_12 run fu fu (G fr 0) (G fr 1) (G fr 6) (G fr 7) (G fr 10) (G fr 11) σ))) (.sub (fun fr σ => c278_2 run fu (G fr 0) (G fr 1) (G fr 6) (G fr 7) (G fr 10) (G fr 11) σ)))) (subC [true, true, true, true, true, true, true, true] b278) (frS 0 200 [(0, x0), (1, x1), (6, x6), (7, x7), (10, x10)]) σ k278 = c278_1 run fu x0 x1 x6 x7 x10 σ := by kernel_rfl

theorem ok278_1 {run : RunT} (hrun : RunOK X0 run) (fu : Nat) : ∀ fr σ, KOK X0 200 (subC [true, true, true, true, true, true, true, true] b278) fr σ ((fun fr σ => c278_1 run fu (G fr 0) (G fr 1) (G fr 6) (G fr 7) (G fr 10) σ) fr σ) k278 := fun fr σ =>
  KOK.piece env0 hrun [0, 1, 6, 7, 10] (eq278_1 run fu (G fr 0) (G fr 1) (G fr 6) (G fr 7) (G fr 10) σ) ⟨trivial, ⟨(ok278_12 hrun fu), (ok278_2 hrun fu)⟩⟩

noncomputable def c278_13 (run : RunT) (fu : Nat) (σ : Store) : Tr R :=
  .ret (.tup [(.int .i64 0), (.bool false)], σ)

theorem eq278_13 (run : RunT) (fu : Nat) (σ : Store) : codeK X0 run (.seq .leaf .leaf) (subC [true, true, true, true, true, true, true, false, true, false, true] b278) (frS 0 200 []) σ (thenK (fun fr σ => c278_1 run fu (G fr 0) (G fr 1) (G fr 6) (G fr 7) (G fr 10) σ) k278) = c278_13 run fu σ := by kernel_rfl

theorem ok278_13 {run : RunT} (hrun : RunOK X0 run) (fu : Nat) : ∀ fr σ, KOK X0 200 (subC [true, true, true, true, true, true, true, false, true, false, true] b278) fr σ ((fun fr σ => c278_13 run fu σ) fr σ) (thenK (fun fr σ => c278_1 run fu (G fr 0) (G fr 1) (G fr 6) (G fr 7) (G fr 10) σ) k278) := fun fr σ =>
  KOK.piece env0 hrun [] (eq278_13 run fu σ) ⟨trivial, trivial⟩

noncomputable def c278 (run : RunT) (fu : Nat) (x0 x1 : AV) (σ : Store) : Tr R :=
  calK run 110 [x1, (.int .i64 0)] σ fun x21 σ1 =>
  tasK (some .nilp) 110 false x0 fun x24 =>
  calK run 113 [x24, x1, x21] σ1 fun x27 σ2 =>
  extK x27 0 fun x28 =>
  extK x27 1 fun x29 =>
  extK x27 2 fun x30 =>
  notK x30 fun x32 =>
  grdK x32 false σ2 (fun f => f x29 σ2) fun x34 σ3 =>
  grdK x32 false σ3 (fun f => f x1 σ3) fun x35 σ4 =>
  grdK x32 false σ4 (fun f => lenSK x35 fun v => f v σ4) fun x36 σ5 =>
  grdK x32 false σ5 (fun f => cmpK .geq x34 x36 fun v => f v σ5) fun x37 σ6 =>
  pickK x32 (.bool true) x37 fun x38 =>
  grdK x38 false σ6 (fun f => f x1 σ6) fun x40 σ7 =>
  grdK x38 false σ7 (fun f => f x29 σ7) fun x41 σ8 =>
  grdK x38 false σ8 (fun f => idxSK x40 x41 fun v => f v σ8) fun x42 σ9 =>
  grdK x38 false σ9 (fun f => cmpK .neq x42 (.int .u8 58) fun v => f v σ9) fun x43 σ10 =>
  pickK x38 (.bool true) x43 fun x44 =>
  ifK x44 (
  .ret (.tup [(.int .i64 0), (.bool false)], σ10)) (
  addK x29 (.int .i64 1) fun x47 =>
  calK run 110 [x1, x47] σ10 fun x48 σ11 =>
  sliceSK x1 (some x48) none fun x51 =>
  calK run 111 [x1, x48] σ11 fun x55 σ12 =>
  extK x55 0 fun x56 =>
  extK x55 1 fun x57 =>
  extK x55 2 fun x58 =>
  notK x58 fun x60 =>
  ifK x60 (
  neSK x51 (.str []) fun x62 =>
  grdK x62 true σ12 (fun f => f x51 σ12) fun x64 σ13 =>
  grdK x62 true σ13 (fun f => idxSK x64 (.int .i64 0) fun v => f v σ13) fun x65 σ14 =>
  grdK x62 true σ14 (fun f => cmpK .eql x65 (.int .u8 60) fun v => f v σ14) fun x66 σ15 =>
  pickK x62 x66 (.bool false) fun x67 =>
  ifK x67 (
  tasK (some .nilp) 110 false x0 fun x69 =>
  nchkK x69 fun x70 =>
  addrK x70 6 fun x71 =>
  st1K σ15 x71 (.bool true) fun _ σ16 =>
  c278_13 run fu σ16) (
  c278_13 run fu σ15)) (
  c278_1 run fu x0 x1 x57 x28 x56 σ12))

theorem eq278 (run : RunT) (fu : Nat) (x0 x1 : AV) (σ : Store) : codeK X0 run (.seq .leaf (.seq .leaf (.seq .leaf (.seq (.seq .leaf (.cond (.seq .leaf .leaf) .leaf)) (.seq .leaf (.seq .leaf (.seq .leaf (.seq (.seq .leaf (.cond (.seq (.seq .leaf (.cond .leaf .leaf)) (.sub (fun fr σ => c278_13 run fu σ))) .leaf)) (.sub (fun fr σ => c278_1 run fu (G fr 0) (G fr 1) (G fr 6) (G fr 7) (G fr 10) σ)))))))))) (subC [] b278) ([x0, x1] ++ padA (200 - 2)) σ k278 = c278 run fu x0 x1 σ := by kernel_rfl

theorem ok278 {run : RunT} (hrun : RunOK X0 run) (fu : Nat) (x0 x1 : AV) (σ : Store) : CallOK X0 278 [x0, x1] σ (c278 run fu x0 x1 σ) :=
  KOK.body (fn := Tryz.f278) (c := subC [] b278) (by kernel_rfl) (by kernel_rfl) (by show 2 ≤ 200; decide) (KOK.whole env0 hrun (eq278 run fu x0 x1 σ) ⟨trivial, ⟨trivial, ⟨trivial, ⟨⟨trivial, ⟨⟨trivial, trivial⟩, trivial⟩⟩, ⟨trivial, ⟨trivial, ⟨trivial, ⟨⟨trivial, ⟨⟨⟨trivial, ⟨trivial, trivial⟩⟩, (ok278_13 hrun fu)⟩, trivial⟩⟩, (ok278_1 hrun fu)⟩⟩⟩⟩⟩⟩⟩⟩)

-- (*pub-paratext/pub/rscmarkdown.AutoLink).PrintHTML

noncomputable def b333 : Code := match Tryz.f333.body with | some c => c | none => .skip

noncomputable def k333 : Kont R := retK Tryz.prog []

noncomputable def c333 (run : RunT) (fu : Nat) (x0 x1 : AV) (σ : Store) : Tr R :=
  calK run 259 [] σ fun x5 σ1 =>
  nchkK x0 fun x7 =>
  addrK x7 1 fun x8 =>
  ld1K σ1 x8 fun x9 =>
  calK run 260 [x5, x9] σ1 fun x10 σ2 =>
  catK (.str [60, 97, 32, 104, 114, 101, 102, 61, 34]) x10 fun x11 =>
  catK x11 (.str [34, 62]) fun x12 =>
  calK run 252 [] σ2 fun x13 σ3 =>
  nchkK x0 fun x15 =>
  addrK x15 0 fun x16 =>
  ld1K σ3 x16 fun x17 =>
  calK run 260 [x13, x17] σ3 fun x18 σ4 =>
  catK x12 x18 fun x19 =>
  catK x19 (.str [60, 47, 97, 62]) fun x20 =>
  calK run 240 [x1, x20] σ4 fun x21 σ5 =>
  ld1K σ x8 fun v6 =>
  must (AV.beq v6 x9) (
  ld1K σ x16 fun v7 =>
  must (AV.beq v7 x17) (
  ld1K σ1 x16 fun v8 =>
  must (AV.beq v8 x17) (
  ld1K σ2 x16 fun v9 =>
  must (AV.beq v9 x17) (
  .ret (.tup [], σ5)))))

theorem eq333 (run : RunT) (fu : Nat) (x0 x1 : AV) (σ : Store) : codeK X0 run .leaf (subC [] b333) ([x0, x1] ++ padA (22 - 2)) σ k333 = c333 run fu x0 x1 σ := by kernel_rfl

theorem ok333 {run : RunT} (hrun : RunOK X0 run) (fu : Nat) (x0 x1 : AV) (σ : Store) : CallOK X0 333 [x0, x1] σ (c333 run fu x0 x1 σ) :=
  KOK.body (fn := Tryz.f333) (c := subC [] b333) (by kernel_rfl) (by kernel_rfl) (by show 2 ≤ 22; decide) (KOK.whole env0 hrun (eq333 run fu x0 x1 σ) trivial)

end Go.Proofs.YtfmgdjkcdmjloaaGreatDoor
