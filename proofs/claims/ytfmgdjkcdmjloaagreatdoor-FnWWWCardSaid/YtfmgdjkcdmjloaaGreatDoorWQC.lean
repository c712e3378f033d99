/- Functions of the program, told as Lean functions of abstract values and stores, each with its proof. -/
import Derived.Test.YtfmgdjkcdmjloaaGreatDoorSxX
import Derived.Test.YtfmgdjkcdmjloaaGreatDoorSxWc
import Derived.Test.YtfmgdjkcdmjloaaGreatDoorSxAb
set_option linter.unusedVariables false
set_option linter.unusedSimpArgs false
namespace Go.Proofs.YtfmgdjkcdmjloaaGreatDoor
open Go.AM
-- (*pub-paratext/pub/rscmarkdown.parseState).parseAutoHTTP

noncomputable def b189 : Code := match Tryz.f189.body with | some c => c | none => .skip

noncomputable def k189 : Kont R := retK Tryz.prog [.tmp 14, .tmp 15, .tmp 16]

noncomputable def c189_3 (run : RunT) (fu : Nat) (x1 x2 x3 x4 x5 x14 x15 x16 x19 : AV) (σ : Store) : Tr R :=
  cmpK .lss x19 x5 fun x142 =>
  ifK x142 (
  .ret (.tup [x14, x15, x16], σ)) (
  sliceSK x2 (some x3) (some x19) fun x146 =>
  bldK [(.str [])] [(0, 1, x146)] fun x147 =>
  boxK σ 263 x147 fun x148 σ1 =>
  opt (fillK [.nili] [(0, 1, (.iface 150 x148))]) fun cs => newSK σ1 253 cs 1 1 fun x150 σ2 =>
  sliceSK x2 (some x4) (some x19) fun x155 =>
  catK x1 x155 fun x156 =>
  bldK [.nils, (.str []), (.str []), (.int .u8 0), (.bool false)] [(0, 1, x150), (1, 1, x156)] fun x157 =>
  boxK σ2 277 x157 fun x158 σ3 =>
  sliceSK x2 (some x4) (some x19) fun v4 =>
  must (AV.beq v4 x155) (
  sliceSK x2 (some x4) (some x19) fun v5 =>
  must (AV.beq v5 x155) (
  sliceSK x2 (some x19) none fun x162 =>
  .ret (.tup [x158, x162, (.bool true)], σ3))))

theorem eq189_3 (run : RunT) (fu : Nat) (x1 x2 x3 x4 x5 x14 x15 x16 x19 : AV) (σ : Store) : codeK X0 run (.seq (.seq .leaf (.cond .leaf .leaf)) (.seq .leaf (.seq .leaf .leaf))) (subC [true, false, true, true, true, true, true, true, true, true, true] b189) (frS 0 163 [(1, x1), (2, x2), (3, x3), (4, x4), (5, x5), (14, x14), (15, x15), (16, x16), (19, x19)]) σ (noGotoK k189) = c189_3 run fu x1 x2 x3 x4 x5 x14 x15 x16 x19 σ := by kernel_rfl

theorem ok189_3 {run : RunT} (hrun : RunOK X0 run) (fu : Nat) : ∀ fr σ, KOK X0 163 (subC [true, false, true, true, true, true, true, true, true, true, true] b189) fr σ ((fun fr σ => c189_3 run fu (G fr 1) (G fr 2) (G fr 3) (G fr 4) (G fr 5) (G fr 14) (G fr 15) (G fr 16) (G fr 19) σ) fr σ) (noGotoK k189) := fun fr σ =>
  KOK.piece env0 hrun [1, 2, 3, 4, 5, 14, 15, 16, 19] (eq189_3 run fu (G fr 1) (G fr 2) (G fr 3) (G fr 4) (G fr 5) (G fr 14) (G fr 15) (G fr 16) (G fr 19) σ) ⟨⟨trivial, ⟨trivial, trivial⟩⟩, ⟨trivial, ⟨trivial, trivial⟩⟩⟩

noncomputable def c189_2 (run : RunT) (fu : Nat) (x1 x2 x3 x4 x5 x14 x15 x16 x19 x20 : AV) (σ : Store) : Tr R :=
  cmpK .eql x3 x4 fun x127 =>
  grdK x127 true σ (fun f => f x19 σ) fun x129 σ1 =>
  grdK x127 true σ1 (fun f => f x20 σ1) fun x130 σ2 =>
  grdK x127 true σ2 (fun f => cmpK .gtr x129 x130 fun v => f v σ2) fun x131 σ3 =>
  pickK x127 x131 (.bool false) fun x132 =>
  grdK x132 true σ3 (fun f => f x2 σ3) fun x134 σ4 =>
  grdK x132 true σ4 (fun f => f x20 σ4) fun x135 σ5 =>
  grdK x132 true σ5 (fun f => idxSK x134 x135 fun v => f v σ5) fun x136 σ6 =>
  grdK x132 true σ6 (fun f => cmpK .neq x136 (.int .u8 47) fun v => f v σ6) fun x137 σ7 =>
  pickK x132 x137 (.bool false) fun x138 =>
  ifK x138 (
  c189_3 run fu x1 x2 x3 x4 x5 x14 x15 x16 x20 σ7) (
  c189_3 run fu x1 x2 x3 x4 x5 x14 x15 x16 x19 σ7)

theorem eq189_2 (run : RunT) (fu : Nat) (x1 x2 x3 x4 x5 x14 x15 x16 x19 x20 : AV) (σ : Store) : codeK X0 run (.seq (.seq .leaf (.cond .leaf .leaf)) (.sub (fun fr σ => c189_3 run fu (G fr 1) (G fr 2) (G fr 3) (G fr 4) (G fr 5) (G fr 14) (G fr 15) (G fr 16) (G fr 19) σ))) (subC [true, false, true, true, true, true, true, true, true, true] b189) (frS 0 163 [(1, x1), (2, x2), (3, x3), (4, x4), (5, x5), (14, x14), (15, x15), (16, x16), (19, x19), (20, x20)]) σ (noGotoK k189) = c189_2 run fu x1 x2 x3 x4 x5 x14 x15 x16 x19 x20 σ := by kernel_rfl

theorem ok189_2 {run : RunT} (hrun : RunOK X0 run) (fu : Nat) : ∀ fr σ, KOK X0 163 (subC [true, false, true, true, true, true, true, true, true, true] b189) fr σ ((fun fr σ => c189_2 run fu (G fr 1) (G fr 2) (G fr 3) (G fr 4) (G fr 5) (G fr 14) (G fr 15) (G fr 16) (G fr 19) (G fr 20) σ) fr σ) (noGotoK k189) := fun fr σ =>
  KOK.piece env0 hrun [1, 2, 3, 4, 5, 14, 15, 16, 19, 20] (eq189_2 run fu (G fr 1) (G fr 2) (G fr 3) (G fr 4) (G fr 5) (G fr 14) (G fr 15) (G fr 16) (G fr 19) (G fr 20) σ) ⟨⟨trivial, ⟨trivial, trivial⟩⟩, (ok189_3 hrun fu)⟩

noncomputable def c189_6b (run : RunT) (fu : Nat) (s4 : W11) (s6 : W11) (x1 x2 x3 x4 x5 x14 x15 x16 x19 x20 x21 : AV) (σ : Store) : Tr R :=
  subK x19 (.int .i64 1) fun x89 =>
  idxSK x2 x89 fun x90 =>
  cmpK .eql x90 (.int .u8 41) fun x91 =>
  grdK x91 true σ (fun f => f x21 σ) fun x93 σ1 =>
  grdK x91 true σ1 (fun f => cmpK .lss x93 (.int .i64 0) fun v => f v σ1) fun x94 σ2 =>
  pickK x91 x94 (.bool false) fun x95 =>
  ifK x95 (
  addK x21 (.int .i64 1) fun x97 =>
  subK x19 (.int .i64 1) fun x99 =>
  s6 x1 x2 x3 x4 x5 x14 x15 x16 x99 x20 x97 σ2) (
  s4 x1 x2 x3 x4 x5 x14 x15 x16 x19 x20 x21 σ2)

noncomputable def c189_6 (run : RunT) (fu : Nat) (s4 : W11) : Nat → W11
  | 0 => fun _ _ _ _ _ _ _ _ _ _ _ _ => .fail
  | m + 1 => c189_6b run fu s4 (c189_6 run fu s4 m)

theorem eq189_6 (run : RunT) (fu : Nat) (s4 : W11) (s6 : W11) (x1 x2 x3 x4 x5 x14 x15 x16 x19 x20 x21 : AV) (σ : Store) : codeK X0 run (.seq (.seq .leaf (.cond .leaf .leaf)) (.block (.seq .leaf .leaf))) (subC [true, false, true, true, true, true, true, true, true, false, false, false, true, false, false, true, false, true, true, true, false, true, false, false, false, false] b189) (frS 0 163 [(1, x1), (2, x2), (3, x3), (4, x4), (5, x5), (14, x14), (15, x15), (16, x16), (19, x19), (20, x20), (21, x21)]) σ (thenK (fun fr σ => s6 (G fr 1) (G fr 2) (G fr 3) (G fr 4) (G fr 5) (G fr 14) (G fr 15) (G fr 16) (G fr 19) (G fr 20) (G fr 21) σ) (blockK 5 (thenK (fun fr σ => codeK X0 run .leaf (subC [true, false, true, true, true, true, true, true, true, false, false, false, true, false, false, true, false, true, true, true, false, true, false, true] b189) fr σ (blockK 4 (thenK (fun fr σ => codeK X0 run .leaf (subC [true, false, true, true, true, true, true, true, true, false, false, false, true, false, true] b189) fr σ (blockK 3 (thenK (fun fr σ => s4 (G fr 1) (G fr 2) (G fr 3) (G fr 4) (G fr 5) (G fr 14) (G fr 15) (G fr 16) (G fr 19) (G fr 20) (G fr 21) σ) (blockK 2 (thenK (fun fr σ => c189_2 run fu (G fr 1) (G fr 2) (G fr 3) (G fr 4) (G fr 5) (G fr 14) (G fr 15) (G fr 16) (G fr 19) (G fr 20) σ) (noGotoK k189)))))) (blockK 3 (thenK (fun fr σ => s4 (G fr 1) (G fr 2) (G fr 3) (G fr 4) (G fr 5) (G fr 14) (G fr 15) (G fr 16) (G fr 19) (G fr 20) (G fr 21) σ) (blockK 2 (thenK (fun fr σ => c189_2 run fu (G fr 1) (G fr 2) (G fr 3) (G fr 4) (G fr 5) (G fr 14) (G fr 15) (G fr 16) (G fr 19) (G fr 20) σ) (noGotoK k189)))))))) (blockK 4 (thenK (fun fr σ => codeK X0 run .leaf (subC [true, false, true, true, true, true, true, true, true, false, false, false, true, false, true] b189) fr σ (blockK 3 (thenK (fun fr σ => s4 (G fr 1) (G fr 2) (G fr 3) (G fr 4) (G fr 5) (G fr 14) (G fr 15) (G fr 16) (G fr 19) (G fr 20) (G fr 21) σ) (blockK 2 (thenK (fun fr σ => c189_2 run fu (G fr 1) (G fr 2) (G fr 3) (G fr 4) (G fr 5) (G fr 14) (G fr 15) (G fr 16) (G fr 19) (G fr 20) σ) (noGotoK k189)))))) (blockK 3 (thenK (fun fr σ => s4 (G fr 1) (G fr 2) (G fr 3) (G fr 4) (G fr 5) (G fr 14) (G fr 15) (G fr 16) (G fr 19) (G fr 20) (G fr 21) σ) (blockK 2 (thenK (fun fr σ => c189_2 run fu (G fr 1) (G fr 2) (G fr 3) (G fr 4) (G fr 5) (G fr 14) (G fr 15) (G fr 16) (G fr 19) (G fr 20) σ) (noGotoK k189)))))))))) = c189_6b run fu s4 s6 x1 x2 x3 x4 x5 x14 x15 x16 x19 x20 x21 σ := by kernel_rfl

theorem owed189_6 {run : RunT} (hrun : RunOK X0 run) (fu : Nat) (s4 : W11) (s6 : W11) : Owes X0 run 163 (.seq (.seq .leaf (.cond .leaf .leaf)) (.block (.seq .leaf .leaf))) (subC [true, false, true, true, true, true, true, true, true, false, false, false, true, false, false, true, false, true, true, true, false, true, false, false, false, false] b189) (thenK (fun fr σ => s6 (G fr 1) (G fr 2) (G fr 3) (G fr 4) (G fr 5) (G fr 14) (G fr 15) (G fr 16) (G fr 19) (G fr 20) (G fr 21) σ) (blockK 5 (thenK (fun fr σ => codeK X0 run .leaf (subC [true, false, true, true, true, true, true, true, true, false, false, false, true, false, false, true, false, true, true, true, false, true, false, true] b189) fr σ (blockK 4 (thenK (fun fr σ => codeK X0 run .leaf (subC [true, false, true, true, true, true, true, true, true, false, false, false, true, false, true] b189) fr σ (blockK 3 (thenK (fun fr σ => s4 (G fr 1) (G fr 2) (G fr 3) (G fr 4) (G fr 5) (G fr 14) (G fr 15) (G fr 16) (G fr 19) (G fr 20) (G fr 21) σ) (blockK 2 (thenK (fun fr σ => c189_2 run fu (G fr 1) (G fr 2) (G fr 3) (G fr 4) (G fr 5) (G fr 14) (G fr 15) (G fr 16) (G fr 19) (G fr 20) σ) (noGotoK k189)))))) (blockK 3 (thenK (fun fr σ => s4 (G fr 1) (G fr 2) (G fr 3) (G fr 4) (G fr 5) (G fr 14) (G fr 15) (G fr 16) (G fr 19) (G fr 20) (G fr 21) σ) (blockK 2 (thenK (fun fr σ => c189_2 run fu (G fr 1) (G fr 2) (G fr 3) (G fr 4) (G fr 5) (G fr 14) (G fr 15) (G fr 16) (G fr 19) (G fr 20) σ) (noGotoK k189)))))))) (blockK 4 (thenK (fun fr σ => codeK X0 run .leaf (subC [true, false, true, true, true, true, true, true, true, false, false, false, true, false, true] b189) fr σ (blockK 3 (thenK (fun fr σ => s4 (G fr 1) (G fr 2) (G fr 3) (G fr 4) (G fr 5) (G fr 14) (G fr 15) (G fr 16) (G fr 19) (G fr 20) (G fr 21) σ) (blockK 2 (thenK (fun fr σ => c189_2 run fu (G fr 1) (G fr 2) (G fr 3) (G fr 4) (G fr 5) (G fr 14) (G fr 15) (G fr 16) (G fr 19) (G fr 20) σ) (noGotoK k189)))))) (blockK 3 (thenK (fun fr σ => s4 (G fr 1) (G fr 2) (G fr 3) (G fr 4) (G fr 5) (G fr 14) (G fr 15) (G fr 16) (G fr 19) (G fr 20) (G fr 21) σ) (blockK 2 (thenK (fun fr σ => c189_2 run fu (G fr 1) (G fr 2) (G fr 3) (G fr 4) (G fr 5) (G fr 14) (G fr 15) (G fr 16) (G fr 19) (G fr 20) σ) (noGotoK k189)))))))))) :=
  ⟨⟨trivial, ⟨trivial, trivial⟩⟩, ⟨trivial, trivial⟩⟩

theorem ok189_6 {run : RunT} (hrun : RunOK X0 run) (fu : Nat) (s4 : W11) : ∀ fr σ, KOK X0 163 (subC [true, false, true, true, true, true, true, true, true, false, false, false, true, false, false, true, false, true, true, true, false, true, false, false, false] b189) fr σ ((fun fr σ => c189_6 run fu s4 fu (G fr 1) (G fr 2) (G fr 3) (G fr 4) (G fr 5) (G fr 14) (G fr 15) (G fr 16) (G fr 19) (G fr 20) (G fr 21) σ) fr σ) (blockK 5 (thenK (fun fr σ => codeK X0 run .leaf (subC [true, false, true, true, true, true, true, true, true, false, false, false, true, false, false, true, false, true, true, true, false, true, false, true] b189) fr σ (blockK 4 (thenK (fun fr σ => codeK X0 run .leaf (subC [true, false, true, true, true, true, true, true, true, false, false, false, true, false, true] b189) fr σ (blockK 3 (thenK (fun fr σ => s4 (G fr 1) (G fr 2) (G fr 3) (G fr 4) (G fr 5) (G fr 14) (G fr 15) (G fr 16) (G fr 19) (G fr 20) (G fr 21) σ) (blockK 2 (thenK (fun fr σ => c189_2 run fu (G fr 1) (G fr 2) (G fr 3) (G fr 4) (G fr 5) (G fr 14) (G fr 15) (G fr 16) (G fr 19) (G fr 20) σ) (noGotoK k189)))))) (blockK 3 (thenK (fun fr σ => s4 (G fr 1) (G fr 2) (G fr 3) (G fr 4) (G fr 5) (G fr 14) (G fr 15) (G fr 16) (G fr 19) (G fr 20) (G fr 21) σ) (blockK 2 (thenK (fun fr σ => c189_2 run fu (G fr 1) (G fr 2) (G fr 3) (G fr 4) (G fr 5) (G fr 14) (G fr 15) (G fr 16) (G fr 19) (G fr 20) σ) (noGotoK k189)))))))) (blockK 4 (thenK (fun fr σ => codeK X0 run .leaf (subC [true, false, true, true, true, true, true, true, true, false, false, false, true, false, true] b189) fr σ (blockK 3 (thenK (fun fr σ => s4 (G fr 1) (G fr 2) (G fr 3) (G fr 4) (G fr 5) (G fr 14) (G fr 15) (G fr 16) (G fr 19) (G fr 20) (G fr 21) σ) (blockK 2 (thenK (fun fr σ => c189_2 run fu (G fr 1) (G fr 2) (G fr 3) (G fr 4) (G fr 5) (G fr 14) (G fr 15) (G fr 16) (G fr 19) (G fr 20) σ) (noGotoK k189)))))) (blockK 3 (thenK (fun fr σ => s4 (G fr 1) (G fr 2) (G fr 3) (G fr 4) (G fr 5) (G fr 14) (G fr 15) (G fr 16) (G fr 19) (G fr 20) (G fr 21) σ) (blockK 2 (thenK (fun fr σ => c189_2 run fu (G fr 1) (G fr 2) (G fr 3) (G fr 4) (G fr 5) (G fr 14) (G fr 15) (G fr 16) (G fr 19) (G fr 20) σ) (noGotoK k189))))))))) := by
  have h := KOK.loop (X := X0) (N := 163) (b := (subC [true, false, true, true, true, true, true, true, true, false, false, false, true, false, false, true, false, true, true, true, false, true, false, false, false, false] b189)) (k := (blockK 5 (thenK (fun fr σ => codeK X0 run .leaf (subC [true, false, true, true, true, true, true, true, true, false, false, false, true, false, false, true, false, true, true, true, false, true, false, true] b189) fr σ (blockK 4 (thenK (fun fr σ => codeK X0 run .leaf (subC [true, false, true, true, true, true, true, true, true, false, false, false, true, false, true] b189) fr σ (blockK 3 (thenK (fun fr σ => s4 (G fr 1) (G fr 2) (G fr 3) (G fr 4) (G fr 5) (G fr 14) (G fr 15) (G fr 16) (G fr 19) (G fr 20) (G fr 21) σ) (blockK 2 (thenK (fun fr σ => c189_2 run fu (G fr 1) (G fr 2) (G fr 3) (G fr 4) (G fr 5) (G fr 14) (G fr 15) (G fr 16) (G fr 19) (G fr 20) σ) (noGotoK k189)))))) (blockK 3 (thenK (fun fr σ => s4 (G fr 1) (G fr 2) (G fr 3) (G fr 4) (G fr 5) (G fr 14) (G fr 15) (G fr 16) (G fr 19) (G fr 20) (G fr 21) σ) (blockK 2 (thenK (fun fr σ => c189_2 run fu (G fr 1) (G fr 2) (G fr 3) (G fr 4) (G fr 5) (G fr 14) (G fr 15) (G fr 16) (G fr 19) (G fr 20) σ) (noGotoK k189)))))))) (blockK 4 (thenK (fun fr σ => codeK X0 run .leaf (subC [true, false, true, true, true, true, true, true, true, false, false, false, true, false, true] b189) fr σ (blockK 3 (thenK (fun fr σ => s4 (G fr 1) (G fr 2) (G fr 3) (G fr 4) (G fr 5) (G fr 14) (G fr 15) (G fr 16) (G fr 19) (G fr 20) (G fr 21) σ) (blockK 2 (thenK (fun fr σ => c189_2 run fu (G fr 1) (G fr 2) (G fr 3) (G fr 4) (G fr 5) (G fr 14) (G fr 15) (G fr 16) (G fr 19) (G fr 20) σ) (noGotoK k189)))))) (blockK 3 (thenK (fun fr σ => s4 (G fr 1) (G fr 2) (G fr 3) (G fr 4) (G fr 5) (G fr 14) (G fr 15) (G fr 16) (G fr 19) (G fr 20) (G fr 21) σ) (blockK 2 (thenK (fun fr σ => c189_2 run fu (G fr 1) (G fr 2) (G fr 3) (G fr 4) (G fr 5) (G fr 14) (G fr 15) (G fr 16) (G fr 19) (G fr 20) σ) (noGotoK k189)))))))))) (u := fun m fr σ => c189_6 run fu s4 m (G fr 1) (G fr 2) (G fr 3) (G fr 4) (G fr 5) (G fr 14) (G fr 15) (G fr 16) (G fr 19) (G fr 20) (G fr 21) σ) (fun _ _ => rfl) (fun m fr σ => KOK.piece env0 hrun [1, 2, 3, 4, 5, 14, 15, 16, 19, 20, 21] (eq189_6 run fu s4 (c189_6 run fu s4 m) (G fr 1) (G fr 2) (G fr 3) (G fr 4) (G fr 5) (G fr 14) (G fr 15) (G fr 16) (G fr 19) (G fr 20) (G fr 21) σ) (owed189_6 hrun fu s4 (c189_6 run fu s4 m)))
  exact fun fr σ => h fu fr σ

noncomputable def c189_7b (run : RunT) (fu : Nat) (s4 : W11) (s7 : W12) (x1 x2 x3 x4 x5 x14 x15 x16 x19 x20 x21 x24 : AV) (σ : Store) : Tr R :=
  cmpK .gtr x24 x4 fun x106 =>
  ifK x106 (
  subK x19 (.int .i64 2) fun x111 =>
  cmpK .lss x24 x111 fun x112 =>
  grdK x112 true σ (fun f => f x2 σ) fun x114 σ1 =>
  grdK x112 true σ1 (fun f => f x24 σ1) fun x115 σ2 =>
  grdK x112 true σ2 (fun f => idxSK x114 x115 fun v => f v σ2) fun x116 σ3 =>
  grdK x112 true σ3 (fun f => cmpK .eql x116 (.int .u8 38) fun v => f v σ3) fun x117 σ4 =>
  pickK x112 x117 (.bool false) fun x118 =>
  ifK x118 (
  s4 x1 x2 x3 x4 x5 x14 x15 x16 x24 x20 x21 σ4) (
  idxSK x2 x24 fun x122 =>
  calK run 126 [x122] σ4 fun x123 σ5 =>
  notK x123 fun x124 =>
  ifK x124 (
  c189_2 run fu x1 x2 x3 x4 x5 x14 x15 x16 x19 x20 σ5) (
  subK x24 (.int .i64 1) fun x108 =>
  s7 x1 x2 x3 x4 x5 x14 x15 x16 x19 x20 x21 x108 σ5))) (
  c189_2 run fu x1 x2 x3 x4 x5 x14 x15 x16 x19 x20 σ)

noncomputable def c189_7 (run : RunT) (fu : Nat) (s4 : W11) : Nat → W12
  | 0 => fun _ _ _ _ _ _ _ _ _ _ _ _ _ => .fail
  | m + 1 => c189_7b run fu s4 (c189_7 run fu s4 m)

theorem eq189_7 (run : RunT) (fu : Nat) (s4 : W11) (s7 : W12) (x1 x2 x3 x4 x5 x14 x15 x16 x19 x20 x21 x24 : AV) (σ : Store) : codeK X0 run (.seq (.seq .leaf (.cond .leaf .leaf)) (.seq (.block (.seq (.seq .leaf (.cond (.seq .leaf .leaf) .leaf)) (.seq .leaf (.cond .leaf .leaf)))) .leaf)) (subC [true, false, true, true, true, true, true, true, true, false, false, false, true, false, false, true, false, true, true, true, true, true, false, true, false, false] b189) (frS 0 163 [(1, x1), (2, x2), (3, x3), (4, x4), (5, x5), (14, x14), (15, x15), (16, x16), (19, x19), (20, x20), (21, x21), (24, x24)]) σ (thenK (fun fr σ => s7 (G fr 1) (G fr 2) (G fr 3) (G fr 4) (G fr 5) (G fr 14) (G fr 15) (G fr 16) (G fr 19) (G fr 20) (G fr 21) (G fr 24) σ) (blockK 7 (blockK 4 (thenK (fun fr σ => codeK X0 run .leaf (subC [true, false, true, true, true, true, true, true, true, false, false, false, true, false, true] b189) fr σ (blockK 3 (thenK (fun fr σ => s4 (G fr 1) (G fr 2) (G fr 3) (G fr 4) (G fr 5) (G fr 14) (G fr 15) (G fr 16) (G fr 19) (G fr 20) (G fr 21) σ) (blockK 2 (thenK (fun fr σ => c189_2 run fu (G fr 1) (G fr 2) (G fr 3) (G fr 4) (G fr 5) (G fr 14) (G fr 15) (G fr 16) (G fr 19) (G fr 20) σ) (noGotoK k189)))))) (blockK 3 (thenK (fun fr σ => s4 (G fr 1) (G fr 2) (G fr 3) (G fr 4) (G fr 5) (G fr 14) (G fr 15) (G fr 16) (G fr 19) (G fr 20) (G fr 21) σ) (blockK 2 (thenK (fun fr σ => c189_2 run fu (G fr 1) (G fr 2) (G fr 3) (G fr 4) (G fr 5) (G fr 14) (G fr 15) (G fr 16) (G fr 19) (G fr 20) σ) (noGotoK k189))))))))) = c189_7b run fu s4 s7 x1 x2 x3 x4 x5 x14 x15 x16 x19 x20 x21 x24 σ := by kernel_rfl

theorem owed189_7 {run : RunT} (hrun : RunOK X0 run) (fu : Nat) (s4 : W11) (s7 : W12) : Owes X0 run 163 (.seq (.seq .leaf (.cond .leaf .leaf)) (.seq (.block (.seq (.seq .leaf (.cond (.seq .leaf .leaf) .leaf)) (.seq .leaf (.cond .leaf .leaf)))) .leaf)) (subC [true, false, true, true, true, true, true, true, true, false, false, false, true, false, false, true, false, true, true, true, true, true, false, true, false, false] b189) (thenK (fun fr σ => s7 (G fr 1) (G fr 2) (G fr 3) (G fr 4) (G fr 5) (G fr 14) (G fr 15) (G fr 16) (G fr 19) (G fr 20) (G fr 21) (G fr 24) σ) (blockK 7 (blockK 4 (thenK (fun fr σ => codeK X0 run .leaf (subC [true, false, true, true, true, true, true, true, true, false, false, false, true, false, true] b189) fr σ (blockK 3 (thenK (fun fr σ => s4 (G fr 1) (G fr 2) (G fr 3) (G fr 4) (G fr 5) (G fr 14) (G fr 15) (G fr 16) (G fr 19) (G fr 20) (G fr 21) σ) (blockK 2 (thenK (fun fr σ => c189_2 run fu (G fr 1) (G fr 2) (G fr 3) (G fr 4) (G fr 5) (G fr 14) (G fr 15) (G fr 16) (G fr 19) (G fr 20) σ) (noGotoK k189)))))) (blockK 3 (thenK (fun fr σ => s4 (G fr 1) (G fr 2) (G fr 3) (G fr 4) (G fr 5) (G fr 14) (G fr 15) (G fr 16) (G fr 19) (G fr 20) (G fr 21) σ) (blockK 2 (thenK (fun fr σ => c189_2 run fu (G fr 1) (G fr 2) (G fr 3) (G fr 4) (G fr 5) (G fr 14) (G fr 15) (G fr 16) (G fr 19) (G fr 20) σ) (noGotoK k189))))))))) :=
  ⟨⟨trivial, ⟨trivial, trivial⟩⟩, ⟨⟨⟨trivial, ⟨⟨trivial, trivial⟩, trivial⟩⟩, ⟨trivial, ⟨trivial, trivial⟩⟩⟩, trivial⟩⟩

theorem ok189_7 {run : RunT} (hrun : RunOK X0 run) (fu : Nat) (s4 : W11) : ∀ fr σ, KOK X0 163 (subC [true, false, true, true, true, true, true, true, true, false, false, false, true, false, false, true, false, true, true, true, true, true, false, true, false] b189) fr σ ((fun fr σ => c189_7 run fu s4 fu (G fr 1) (G fr 2) (G fr 3) (G fr 4) (G fr 5) (G fr 14) (G fr 15) (G fr 16) (G fr 19) (G fr 20) (G fr 21) (G fr 24) σ) fr σ) (blockK 7 (blockK 4 (thenK (fun fr σ => codeK X0 run .leaf (subC [true, false, true, true, true, true, true, true, true, false, false, false, true, false, true] b189) fr σ (blockK 3 (thenK (fun fr σ => s4 (G fr 1) (G fr 2) (G fr 3) (G fr 4) (G fr 5) (G fr 14) (G fr 15) (G fr 16) (G fr 19) (G fr 20) (G fr 21) σ) (blockK 2 (thenK (fun fr σ => c189_2 run fu (G fr 1) (G fr 2) (G fr 3) (G fr 4) (G fr 5) (G fr 14) (G fr 15) (G fr 16) (G fr 19) (G fr 20) σ) (noGotoK k189)))))) (blockK 3 (thenK (fun fr σ => s4 (G fr 1) (G fr 2) (G fr 3) (G fr 4) (G fr 5) (G fr 14) (G fr 15) (G fr 16) (G fr 19) (G fr 20) (G fr 21) σ) (blockK 2 (thenK (fun fr σ => c189_2 run fu (G fr 1) (G fr 2) (G fr 3) (G fr 4) (G fr 5) (G fr 14) (G fr 15) (G fr 16) (G fr 19) (G fr 20) σ) (noGotoK k189)))))))) := by
  have h := KOK.loop (X := X0) (N := 163) (b := (subC [true, false, true, true, true, true, true, true, true, false, false, false, true, false, false, true, false, true, true, true, true, true, false, true, false, false] b189)) (k := (blockK 7 (blockK 4 (thenK (fun fr σ => codeK X0 run .leaf (subC [true, false, true, true, true, true, true, true, true, false, false, false, true, false, true] b189) fr σ (blockK 3 (thenK (fun fr σ => s4 (G fr 1) (G fr 2) (G fr 3) (G fr 4) (G fr 5) (G fr 14) (G fr 15) (G fr 16) (G fr 19) (G fr 20) (G fr 21) σ) (blockK 2 (thenK (fun fr σ => c189_2 run fu (G fr 1) (G fr 2) (G fr 3) (G fr 4) (G fr 5) (G fr 14) (G fr 15) (G fr 16) (G fr 19) (G fr 20) σ) (noGotoK k189)))))) (blockK 3 (thenK (fun fr σ => s4 (G fr 1) (G fr 2) (G fr 3) (G fr 4) (G fr 5) (G fr 14) (G fr 15) (G fr 16) (G fr 19) (G fr 20) (G fr 21) σ) (blockK 2 (thenK (fun fr σ => c189_2 run fu (G fr 1) (G fr 2) (G fr 3) (G fr 4) (G fr 5) (G fr 14) (G fr 15) (G fr 16) (G fr 19) (G fr 20) σ) (noGotoK k189))))))))) (u := fun m fr σ => c189_7 run fu s4 m (G fr 1) (G fr 2) (G fr 3) (G fr 4) (G fr 5) (G fr 14) (G fr 15) (G fr 16) (G fr 19) (G fr 20) (G fr 21) (G fr 24) σ) (fun _ _ => rfl) (fun m fr σ => KOK.piece env0 hrun [1, 2, 3, 4, 5, 14, 15, 16, 19, 20, 21, 24] (eq189_7 run fu s4 (c189_7 run fu s4 m) (G fr 1) (G fr 2) (G fr 3) (G fr 4) (G fr 5) (G fr 14) (G fr 15) (G fr 16) (G fr 19) (G fr 20) (G fr 21) (G fr 24) σ) (owed189_7 hrun fu s4 (c189_7 run fu s4 m)))
  exact fun fr σ => h fu fr σ

noncomputable def c189_5 (run : RunT) (fu : Nat) (s4 : W11) (x1 x2 x3 x4 x5 x14 x15 x16 x19 x20 x21 x71 x72 : AV) (σ : Store) : Tr R :=
  ifK x72 (
  subK x19 (.int .i64 1) fun x82 =>
  s4 x1 x2 x3 x4 x5 x14 x15 x16 x82 x20 x21 σ) (
  cmpK .eql x71 (.int .u8 41) fun x84 =>
  ifK x84 (
  cmpK .lss x21 (.int .i64 0) fun x86 =>
  ifK x86 (
  c189_6 run fu s4 fu x1 x2 x3 x4 x5 x14 x15 x16 x19 x20 x21 σ) (
  c189_2 run fu x1 x2 x3 x4 x5 x14 x15 x16 x19 x20 σ)) (
  cmpK .eql x71 (.int .u8 59) fun x101 =>
  ifK x101 (
  subK x19 (.int .i64 2) fun x103 =>
  c189_7 run fu s4 fu x1 x2 x3 x4 x5 x14 x15 x16 x19 x20 x21 x103 σ) (
  c189_2 run fu x1 x2 x3 x4 x5 x14 x15 x16 x19 x20 σ)))

theorem eq189_5 (run : RunT) (fu : Nat) (s4 : W11) (x1 x2 x3 x4 x5 x14 x15 x16 x19 x20 x21 x71 x72 : AV) (σ : Store) : codeK X0 run (.cond (.seq .leaf .leaf) (.seq .leaf (.cond (.seq .leaf (.cond (.seq (.block (.sub (fun fr σ => c189_6 run fu s4 fu (G fr 1) (G fr 2) (G fr 3) (G fr 4) (G fr 5) (G fr 14) (G fr 15) (G fr 16) (G fr 19) (G fr 20) (G fr 21) σ))) .leaf) .leaf)) (.seq .leaf (.cond (.seq .leaf (.block (.sub (fun fr σ => c189_7 run fu s4 fu (G fr 1) (G fr 2) (G fr 3) (G fr 4) (G fr 5) (G fr 14) (G fr 15) (G fr 16) (G fr 19) (G fr 20) (G fr 21) (G fr 24) σ)))) .leaf))))) (subC [true, false, true, true, true, true, true, true, true, false, false, false, true, false, false, true, false, true] b189) (frS 0 163 [(1, x1), (2, x2), (3, x3), (4, x4), (5, x5), (14, x14), (15, x15), (16, x16), (19, x19), (20, x20), (21, x21), (71, x71), (72, x72)]) σ (blockK 4 (thenK (fun fr σ => codeK X0 run .leaf (subC [true, false, true, true, true, true, true, true, true, false, false, false, true, false, true] b189) fr σ (blockK 3 (thenK (fun fr σ => s4 (G fr 1) (G fr 2) (G fr 3) (G fr 4) (G fr 5) (G fr 14) (G fr 15) (G fr 16) (G fr 19) (G fr 20) (G fr 21) σ) (blockK 2 (thenK (fun fr σ => c189_2 run fu (G fr 1) (G fr 2) (G fr 3) (G fr 4) (G fr 5) (G fr 14) (G fr 15) (G fr 16) (G fr 19) (G fr 20) σ) (noGotoK k189)))))) (blockK 3 (thenK (fun fr σ => s4 (G fr 1) (G fr 2) (G fr 3) (G fr 4) (G fr 5) (G fr 14) (G fr 15) (G fr 16) (G fr 19) (G fr 20) (G fr 21) σ) (blockK 2 (thenK (fun fr σ => c189_2 run fu (G fr 1) (G fr 2) (G fr 3) (G fr 4) (G fr 5) (G fr 14) (G fr 15) (G fr 16) (G fr 19) (G fr 20) σ) (noGotoK k189))))))) = c189_5 run fu s4 x1 x2 x3 x4 x5 x14 x15 x16 x19 x20 x21 x71 x72 σ := by kernel_rfl

theorem ok189_5 {run : RunT} (hrun : RunOK X0 run) (fu : Nat) (s4 : W11) : ∀ fr σ, KOK X0 163 (subC [true, false, true, true, true, true, true, true, true, false, false, false, true, false, false, true, false, true] b189) fr σ ((fun fr σ => c189_5 run fu s4 (G fr 1) (G fr 2) (G fr 3) (G fr 4) (G fr 5) (G fr 14) (G fr 15) (G fr 16) (G fr 19) (G fr 20) (G fr 21) (G fr 71) (G fr 72) σ) fr σ) (blockK 4 (thenK (fun fr σ => codeK X0 run .leaf (subC [true, false, true, true, true, true, true, true, true, false, false, false, true, false, true] b189) fr σ (blockK 3 (thenK (fun fr σ => s4 (G fr 1) (G fr 2) (G fr 3) (G fr 4) (G fr 5) (G fr 14) (G fr 15) (G fr 16) (G fr 19) (G fr 20) (G fr 21) σ) (blockK 2 (thenK (fun fr σ => c189_2 run fu (G fr 1) (G fr 2) (G fr 3) (G fr 4) (G fr 5) (G fr 14) (G fr 15) (G fr 16) (G fr 19) (G fr 20) σ) (noGotoK k189)))))) (blockK 3 (thenK (fun fr σ => s4 (G fr 1) (G fr 2) (G fr 3) (G fr 4) (G fr 5) (G fr 14) (G fr 15) (G fr 16) (G fr 19) (G fr 20) (G fr 21) σ) (blockK 2 (thenK (fun fr σ => c189_2 run fu (G fr 1) (G fr 2) (G fr 3) (G fr 4) (G fr 5) (G fr 14) (G fr 15) (G fr 16) (G fr 19) (G fr 20) σ) (noGotoK k189))))))) := fun fr σ =>
  KOK.piece env0 hrun [1, 2, 3, 4, 5, 14, 15, 16, 19, 20, 21, 71, 72] (eq189_5 run fu s4 (G fr 1) (G fr 2) (G fr 3) (G fr 4) (G fr 5) (G fr 14) (G fr 15) (G fr 16) (G fr 19) (G fr 20) (G fr 21) (G fr 71) (G fr 72) σ) ⟨⟨trivial, trivial⟩, ⟨trivial, ⟨⟨trivial, ⟨⟨(ok189_6 hrun fu s4), trivial⟩, trivial⟩⟩, ⟨trivial, ⟨⟨trivial, (ok189_7 hrun fu s4)⟩, trivial⟩⟩⟩⟩⟩

noncomputable def c189_4b (run : RunT) (fu : Nat) (s4 : W11) (x1 x2 x3 x4 x5 x14 x15 x16 x19 x20 x21 : AV) (σ : Store) : Tr R :=
  cmpK .gtr x19 x5 fun x67 =>
  ifK x67 (
  subK x19 (.int .i64 1) fun x70 =>
  idxSK x2 x70 fun x71 =>
  cmpK .eql x71 (.int .u8 63) fun x73 =>
  ifK x73 (
  c189_5 run fu s4 x1 x2 x3 x4 x5 x14 x15 x16 x19 x20 x21 x71 x73 σ) (
  cmpK .eql x71 (.int .u8 33) fun x74 =>
  ifK x74 (
  c189_5 run fu s4 x1 x2 x3 x4 x5 x14 x15 x16 x19 x20 x21 x71 x74 σ) (
  cmpK .eql x71 (.int .u8 46) fun x75 =>
  ifK x75 (
  c189_5 run fu s4 x1 x2 x3 x4 x5 x14 x15 x16 x19 x20 x21 x71 x75 σ) (
  cmpK .eql x71 (.int .u8 44) fun x76 =>
  ifK x76 (
  c189_5 run fu s4 x1 x2 x3 x4 x5 x14 x15 x16 x19 x20 x21 x71 x76 σ) (
  cmpK .eql x71 (.int .u8 58) fun x77 =>
  ifK x77 (
  c189_5 run fu s4 x1 x2 x3 x4 x5 x14 x15 x16 x19 x20 x21 x71 x77 σ) (
  cmpK .eql x71 (.int .u8 64) fun x78 =>
  ifK x78 (
  c189_5 run fu s4 x1 x2 x3 x4 x5 x14 x15 x16 x19 x20 x21 x71 x78 σ) (
  cmpK .eql x71 (.int .u8 95) fun x79 =>
  ifK x79 (
  c189_5 run fu s4 x1 x2 x3 x4 x5 x14 x15 x16 x19 x20 x21 x71 x79 σ) (
  cmpK .eql x71 (.int .u8 126) fun x80 =>
  c189_5 run fu s4 x1 x2 x3 x4 x5 x14 x15 x16 x19 x20 x21 x71 x80 σ)))))))) (
  c189_2 run fu x1 x2 x3 x4 x5 x14 x15 x16 x19 x20 σ)

noncomputable def c189_4 (run : RunT) (fu : Nat) : Nat → W11
  | 0 => fun _ _ _ _ _ _ _ _ _ _ _ _ => .fail
  | m + 1 => c189_4b run fu (c189_4 run fu m)

theorem eq189_4 (run : RunT) (fu : Nat) (s4 : W11) (x1 x2 x3 x4 x5 x14 x15 x16 x19 x20 x21 : AV) (σ : Store) : codeK X0 run (.seq (.seq .leaf (.cond .leaf .leaf)) (.block (.seq (.seq .leaf (.block (.seq (.seq .leaf (.cond .leaf (.seq .leaf (.cond .leaf (.seq .leaf (.cond .leaf (.seq .leaf (.cond .leaf (.seq .leaf (.cond .leaf (.seq .leaf (.cond .leaf (.seq .leaf (.cond .leaf .leaf)))))))))))))) (.sub (fun fr σ => c189_5 run fu s4 (G fr 1) (G fr 2) (G fr 3) (G fr 4) (G fr 5) (G fr 14) (G fr 15) (G fr 16) (G fr 19) (G fr 20) (G fr 21) (G fr 71) (G fr 72) σ))))) .leaf))) (subC [true, false, true, true, true, true, true, true, true, false, false, false] b189) (frS 0 163 [(1, x1), (2, x2), (3, x3), (4, x4), (5, x5), (14, x14), (15, x15), (16, x16), (19, x19), (20, x20), (21, x21)]) σ (thenK (fun fr σ => s4 (G fr 1) (G fr 2) (G fr 3) (G fr 4) (G fr 5) (G fr 14) (G fr 15) (G fr 16) (G fr 19) (G fr 20) (G fr 21) σ) (blockK 2 (thenK (fun fr σ => c189_2 run fu (G fr 1) (G fr 2) (G fr 3) (G fr 4) (G fr 5) (G fr 14) (G fr 15) (G fr 16) (G fr 19) (G fr 20) σ) (noGotoK k189)))) = c189_4b run fu s4 x1 x2 x3 x4 x5 x14 x15 x16 x19 x20 x21 σ := by kernel_rfl

theorem owed189_4 {run : RunT} (hrun : RunOK X0 run) (fu : Nat) (s4 : W11) : Owes X0 run 163 (.seq (.seq .leaf (.cond .leaf .leaf)) (.block (.seq (.seq .leaf (.block (.seq (.seq .leaf (.cond .leaf (.seq .leaf (.cond .leaf (.seq .leaf (.cond .leaf (.seq .leaf (.cond .leaf (.seq .leaf (.cond .leaf (.seq .leaf (.cond .leaf (.seq .leaf (.cond .leaf .leaf)))))))))))))) (.sub (fun fr σ => c189_5 run fu s4 (G fr 1) (G fr 2) (G fr 3) (G fr 4) (G fr 5) (G fr 14) (G fr 15) (G fr 16) (G fr 19) (G fr 20) (G fr 21) (G fr 71) (G fr 72) σ))))) .leaf))) (subC [true, false, true, true, true, true, true, true, true, false, false, false] b189) (thenK (fun fr σ => s4 (G fr 1) (G fr 2) (G fr 3) (G fr 4) (G fr 5) (G fr 14) (G fr 15) (G fr 16) (G fr 19) (G fr 20) (G fr 21) σ) (blockK 2 (thenK (fun fr σ => c189_2 run fu (G fr 1) (G fr 2) (G fr 3) (G fr 4) (G fr 5) (G fr 14) (G fr 15) (G fr 16) (G fr 19) (G fr 20) σ) (noGotoK k189)))) :=
  ⟨⟨trivial, ⟨trivial, trivial⟩⟩, ⟨⟨trivial, ⟨⟨trivial, ⟨trivial, ⟨trivial, ⟨trivial, ⟨trivial, ⟨trivial, ⟨trivial, ⟨trivial, ⟨trivial, ⟨trivial, ⟨trivial, ⟨trivial, ⟨trivial, ⟨trivial, trivial⟩⟩⟩⟩⟩⟩⟩⟩⟩⟩⟩⟩⟩⟩, (ok189_5 hrun fu s4)⟩⟩, trivial⟩⟩

theorem ok189_4 {run : RunT} (hrun : RunOK X0 run) (fu : Nat) : ∀ fr σ, KOK X0 163 (subC [true, false, true, true, true, true, true, true, true, false, false] b189) fr σ ((fun fr σ => c189_4 run fu fu (G fr 1) (G fr 2) (G fr 3) (G fr 4) (G fr 5) (G fr 14) (G fr 15) (G fr 16) (G fr 19) (G fr 20) (G fr 21) σ) fr σ) (blockK 2 (thenK (fun fr σ => c189_2 run fu (G fr 1) (G fr 2) (G fr 3) (G fr 4) (G fr 5) (G fr 14) (G fr 15) (G fr 16) (G fr 19) (G fr 20) σ) (noGotoK k189))) := by
  have h := KOK.loop (X := X0) (N := 163) (b := (subC [true, false, true, true, true, true, true, true, true, false, false, false] b189)) (k := (blockK 2 (thenK (fun fr σ => c189_2 run fu (G fr 1) (G fr 2) (G fr 3) (G fr 4) (G fr 5) (G fr 14) (G fr 15) (G fr 16) (G fr 19) (G fr 20) σ) (noGotoK k189)))) (u := fun m fr σ => c189_4 run fu m (G fr 1) (G fr 2) (G fr 3) (G fr 4) (G fr 5) (G fr 14) (G fr 15) (G fr 16) (G fr 19) (G fr 20) (G fr 21) σ) (fun _ _ => rfl) (fun m fr σ => KOK.piece env0 hrun [1, 2, 3, 4, 5, 14, 15, 16, 19, 20, 21] (eq189_4 run fu (c189_4 run fu m) (G fr 1) (G fr 2) (G fr 3) (G fr 4) (G fr 5) (G fr 14) (G fr 15) (G fr 16) (G fr 19) (G fr 20) (G fr 21) σ) (owed189_4 hrun fu (c189_4 run fu m)))
  exact fun fr σ => h fu fr σ

noncomputable def c189_1 (run : RunT) (fu : Nat) (x1 x2 x3 x4 x5 x14 x15 x16 x19 x20 x21 : AV) (σ : Store) : Tr R :=
  c189_4 run fu fu x1 x2 x3 x4 x5 x14 x15 x16 x19 x20 x21 σ

theorem eq189_1 (run : RunT) (fu : Nat) (x1 x2 x3 x4 x5 x14 x15 x16 x19 x20 x21 : AV) (σ : Store) : codeK X0 run (.seq .leaf (.seq (.block (.sub (fun fr σ => c189_4 run fu fu (G fr 1) (G fr 2) (G fr 3) (G fr 4) (G fr 5) (G fr 14) (G fr 15) (G fr 16) (G fr 19) (G fr 20) (G fr 21) σ))) (.sub (fun fr σ => c189_2 run fu (G fr 1) (G fr 2) (G fr 3) (G fr 4) (G fr 5) (G fr 14) (G fr 15) (G fr 16) (G fr 19) (G fr 20) σ)))) (subC [true, false, true, true, true, true, true, true] b189) (frS 0 163 [(1, x1), (2, x2), (3, x3), (4, x4), (5, x5), (14, x14), (15, x15), (16, x16), (19, x19), (20, x20), (21, x21)]) σ (noGotoK k189) = c189_1 run fu x1 x2 x3 x4 x5 x14 x15 x16 x19 x20 x21 σ := by kernel_rfl

theorem ok189_1 {run : RunT} (hrun : RunOK X0 run) (fu : Nat) : ∀ fr σ, KOK X0 163 (subC [true, false, true, true, true, true, true, true] b189) fr σ ((fun fr σ => c189_1 run fu (G fr 1) (G fr 2) (G fr 3) (G fr 4) (G fr 5) (G fr 14) (G fr 15) (G fr 16) (G fr 19) (G fr 20) (G fr 21) σ) fr σ) (noGotoK k189) := fun fr σ =>
  KOK.piece env0 hrun [1, 2, 3, 4, 5, 14, 15, 16, 19, 20, 21] (eq189_1 run fu (G fr 1) (G fr 2) (G fr 3) (G fr 4) (G fr 5) (G fr 14) (G fr 15) (G fr 16) (G fr 19) (G fr 20) (G fr 21) σ) ⟨trivial, ⟨(ok189_4 hrun fu), (ok189_2 hrun fu)⟩⟩

noncomputable def c189_10 (run : RunT) (fu : Nat) (s8 : W11) (x1 x2 x3 x4 x5 x14 x15 x16 x19 x20 x21 x23 : AV) (σ : Store) : Tr R :=
  addK x19 x23 fun x64 =>
  s8 x1 x2 x3 x4 x5 x14 x15 x16 x64 x20 x21 σ

theorem eq189_10 (run : RunT) (fu : Nat) (s8 : W11) (x1 x2 x3 x4 x5 x14 x15 x16 x19 x20 x21 x23 : AV) (σ : Store) : codeK X0 run .leaf (subC [true, false, true, true, true, true, true, false, false, false, true, false, true, true, true, true] b189) (frS 0 163 [(1, x1), (2, x2), (3, x3), (4, x4), (5, x5), (14, x14), (15, x15), (16, x16), (19, x19), (20, x20), (21, x21), (23, x23)]) σ (blockK 1 (thenK (fun fr σ => s8 (G fr 1) (G fr 2) (G fr 3) (G fr 4) (G fr 5) (G fr 14) (G fr 15) (G fr 16) (G fr 19) (G fr 20) (G fr 21) σ) (blockK 0 (thenK (fun fr σ => c189_1 run fu (G fr 1) (G fr 2) (G fr 3) (G fr 4) (G fr 5) (G fr 14) (G fr 15) (G fr 16) (G fr 19) (G fr 20) (G fr 21) σ) (noGotoK k189))))) = c189_10 run fu s8 x1 x2 x3 x4 x5 x14 x15 x16 x19 x20 x21 x23 σ := by kernel_rfl

theorem ok189_10 {run : RunT} (hrun : RunOK X0 run) (fu : Nat) (s8 : W11) : ∀ fr σ, KOK X0 163 (subC [true, false, true, true, true, true, true, false, false, false, true, false, true, true, true, true] b189) fr σ ((fun fr σ => c189_10 run fu s8 (G fr 1) (G fr 2) (G fr 3) (G fr 4) (G fr 5) (G fr 14) (G fr 15) (G fr 16) (G fr 19) (G fr 20) (G fr 21) (G fr 23) σ) fr σ) (blockK 1 (thenK (fun fr σ => s8 (G fr 1) (G fr 2) (G fr 3) (G fr 4) (G fr 5) (G fr 14) (G fr 15) (G fr 16) (G fr 19) (G fr 20) (G fr 21) σ) (blockK 0 (thenK (fun fr σ => c189_1 run fu (G fr 1) (G fr 2) (G fr 3) (G fr 4) (G fr 5) (G fr 14) (G fr 15) (G fr 16) (G fr 19) (G fr 20) (G fr 21) σ) (noGotoK k189))))) := fun fr σ =>
  KOK.piece env0 hrun [1, 2, 3, 4, 5, 14, 15, 16, 19, 20, 21, 23] (eq189_10 run fu s8 (G fr 1) (G fr 2) (G fr 3) (G fr 4) (G fr 5) (G fr 14) (G fr 15) (G fr 16) (G fr 19) (G fr 20) (G fr 21) (G fr 23) σ) trivial

noncomputable def c189_9 (run : RunT) (fu : Nat) (s8 : W11) (x1 x2 x3 x4 x5 x14 x15 x16 x19 x20 x21 x22 x23 : AV) (σ : Store) : Tr R :=
  cmpK .eql x22 (.int .i32 41) fun x59 =>
  ifK x59 (
  subK x21 (.int .i64 1) fun x61 =>
  c189_10 run fu s8 x1 x2 x3 x4 x5 x14 x15 x16 x19 x20 x61 x23 σ) (
  c189_10 run fu s8 x1 x2 x3 x4 x5 x14 x15 x16 x19 x20 x21 x23 σ)

theorem eq189_9 (run : RunT) (fu : Nat) (s8 : W11) (x1 x2 x3 x4 x5 x14 x15 x16 x19 x20 x21 x22 x23 : AV) (σ : Store) : codeK X0 run (.seq (.seq .leaf (.cond .leaf .leaf)) (.sub (fun fr σ => c189_10 run fu s8 (G fr 1) (G fr 2) (G fr 3) (G fr 4) (G fr 5) (G fr 14) (G fr 15) (G fr 16) (G fr 19) (G fr 20) (G fr 21) (G fr 23) σ))) (subC [true, false, true, true, true, true, true, false, false, false, true, false, true, true, true] b189) (frS 0 163 [(1, x1), (2, x2), (3, x3), (4, x4), (5, x5), (14, x14), (15, x15), (16, x16), (19, x19), (20, x20), (21, x21), (22, x22), (23, x23)]) σ (blockK 1 (thenK (fun fr σ => s8 (G fr 1) (G fr 2) (G fr 3) (G fr 4) (G fr 5) (G fr 14) (G fr 15) (G fr 16) (G fr 19) (G fr 20) (G fr 21) σ) (blockK 0 (thenK (fun fr σ => c189_1 run fu (G fr 1) (G fr 2) (G fr 3) (G fr 4) (G fr 5) (G fr 14) (G fr 15) (G fr 16) (G fr 19) (G fr 20) (G fr 21) σ) (noGotoK k189))))) = c189_9 run fu s8 x1 x2 x3 x4 x5 x14 x15 x16 x19 x20 x21 x22 x23 σ := by kernel_rfl

theorem ok189_9 {run : RunT} (hrun : RunOK X0 run) (fu : Nat) (s8 : W11) : ∀ fr σ, KOK X0 163 (subC [true, false, true, true, true, true, true, false, false, false, true, false, true, true, true] b189) fr σ ((fun fr σ => c189_9 run fu s8 (G fr 1) (G fr 2) (G fr 3) (G fr 4) (G fr 5) (G fr 14) (G fr 15) (G fr 16) (G fr 19) (G fr 20) (G fr 21) (G fr 22) (G fr 23) σ) fr σ) (blockK 1 (thenK (fun fr σ => s8 (G fr 1) (G fr 2) (G fr 3) (G fr 4) (G fr 5) (G fr 14) (G fr 15) (G fr 16) (G fr 19) (G fr 20) (G fr 21) σ) (blockK 0 (thenK (fun fr σ => c189_1 run fu (G fr 1) (G fr 2) (G fr 3) (G fr 4) (G fr 5) (G fr 14) (G fr 15) (G fr 16) (G fr 19) (G fr 20) (G fr 21) σ) (noGotoK k189))))) := fun fr σ =>
  KOK.piece env0 hrun [1, 2, 3, 4, 5, 14, 15, 16, 19, 20, 21, 22, 23] (eq189_9 run fu s8 (G fr 1) (G fr 2) (G fr 3) (G fr 4) (G fr 5) (G fr 14) (G fr 15) (G fr 16) (G fr 19) (G fr 20) (G fr 21) (G fr 22) (G fr 23) σ) ⟨⟨trivial, ⟨trivial, trivial⟩⟩, (ok189_10 hrun fu s8)⟩

noncomputable def c189_8b (run : RunT) (fu : Nat) (s8 : W11) (x1 x2 x3 x4 x5 x14 x15 x16 x19 x20 x21 : AV) (σ : Store) : Tr R :=
  lenSK x2 fun x39 =>
  cmpK .lss x19 x39 fun x40 =>
  ifK x40 (
  sliceSK x2 (some x19) none fun x44 =>
  calK run 101 [x44] σ fun x45 σ1 =>
  extK x45 0 fun x46 =>
  extK x45 1 fun x47 =>
  calK run 102 [x46] σ1 fun x49 σ2 =>
  grdK x49 false σ2 (fun f => f x46 σ2) fun x51 σ3 =>
  grdK x49 false σ3 (fun f => cmpK .eql x51 (.int .i32 60) fun v => f v σ3) fun x52 σ4 =>
  pickK x49 (.bool true) x52 fun x53 =>
  ifK x53 (
  c189_1 run fu x1 x2 x3 x4 x5 x14 x15 x16 x19 x20 x21 σ4) (
  cmpK .eql x46 (.int .i32 40) fun x55 =>
  ifK x55 (
  addK x21 (.int .i64 1) fun x57 =>
  c189_9 run fu s8 x1 x2 x3 x4 x5 x14 x15 x16 x19 x20 x57 x46 x47 σ4) (
  c189_9 run fu s8 x1 x2 x3 x4 x5 x14 x15 x16 x19 x20 x21 x46 x47 σ4))) (
  c189_1 run fu x1 x2 x3 x4 x5 x14 x15 x16 x19 x20 x21 σ)

noncomputable def c189_8 (run : RunT) (fu : Nat) : Nat → W11
  | 0 => fun _ _ _ _ _ _ _ _ _ _ _ _ => .fail
  | m + 1 => c189_8b run fu (c189_8 run fu m)

theorem eq189_8 (run : RunT) (fu : Nat) (s8 : W11) (x1 x2 x3 x4 x5 x14 x15 x16 x19 x20 x21 : AV) (σ : Store) : codeK X0 run (.seq (.seq .leaf (.cond .leaf .leaf)) (.block (.seq .leaf (.seq (.seq .leaf (.cond .leaf .leaf)) (.seq (.seq .leaf (.cond .leaf .leaf)) (.sub (fun fr σ => c189_9 run fu s8 (G fr 1) (G fr 2) (G fr 3) (G fr 4) (G fr 5) (G fr 14) (G fr 15) (G fr 16) (G fr 19) (G fr 20) (G fr 21) (G fr 22) (G fr 23) σ))))))) (subC [true, false, true, true, true, true, true, false, false, false] b189) (frS 0 163 [(1, x1), (2, x2), (3, x3), (4, x4), (5, x5), (14, x14), (15, x15), (16, x16), (19, x19), (20, x20), (21, x21)]) σ (thenK (fun fr σ => s8 (G fr 1) (G fr 2) (G fr 3) (G fr 4) (G fr 5) (G fr 14) (G fr 15) (G fr 16) (G fr 19) (G fr 20) (G fr 21) σ) (blockK 0 (thenK (fun fr σ => c189_1 run fu (G fr 1) (G fr 2) (G fr 3) (G fr 4) (G fr 5) (G fr 14) (G fr 15) (G fr 16) (G fr 19) (G fr 20) (G fr 21) σ) (noGotoK k189)))) = c189_8b run fu s8 x1 x2 x3 x4 x5 x14 x15 x16 x19 x20 x21 σ := by kernel_rfl

theorem owed189_8 {run : RunT} (hrun : RunOK X0 run) (fu : Nat) (s8 : W11) : Owes X0 run 163 (.seq (.seq .leaf (.cond .leaf .leaf)) (.block (.seq .leaf (.seq (.seq .leaf (.cond .leaf .leaf)) (.seq (.seq .leaf (.cond .leaf .leaf)) (.sub (fun fr σ => c189_9 run fu s8 (G fr 1) (G fr 2) (G fr 3) (G fr 4) (G fr 5) (G fr 14) (G fr 15) (G fr 16) (G fr 19) (G fr 20) (G fr 21) (G fr 22) (G fr 23) σ))))))) (subC [true, false, true, true, true, true, true, false, false, false] b189) (thenK (fun fr σ => s8 (G fr 1) (G fr 2) (G fr 3) (G fr 4) (G fr 5) (G fr 14) (G fr 15) (G fr 16) (G fr 19) (G fr 20) (G fr 21) σ) (blockK 0 (thenK (fun fr σ => c189_1 run fu (G fr 1) (G fr 2) (G fr 3) (G fr 4) (G fr 5) (G fr 14) (G fr 15) (G fr 16) (G fr 19) (G fr 20) (G fr 21) σ) (noGotoK k189)))) :=
  ⟨⟨trivial, ⟨trivial, trivial⟩⟩, ⟨trivial, ⟨⟨trivial, ⟨trivial, trivial⟩⟩, ⟨⟨trivial, ⟨trivial, trivial⟩⟩, (ok189_9 hrun fu s8)⟩⟩⟩⟩

theorem ok189_8 {run : RunT} (hrun : RunOK X0 run) (fu : Nat) : ∀ fr σ, KOK X0 163 (subC [true, false, true, true, true, true, true, false, false] b189) fr σ ((fun fr σ => c189_8 run fu fu (G fr 1) (G fr 2) (G fr 3) (G fr 4) (G fr 5) (G fr 14) (G fr 15) (G fr 16) (G fr 19) (G fr 20) (G fr 21) σ) fr σ) (blockK 0 (thenK (fun fr σ => c189_1 run fu (G fr 1) (G fr 2) (G fr 3) (G fr 4) (G fr 5) (G fr 14) (G fr 15) (G fr 16) (G fr 19) (G fr 20) (G fr 21) σ) (noGotoK k189))) := by
  have h := KOK.loop (X := X0) (N := 163) (b := (subC [true, false, true, true, true, true, true, false, false, false] b189)) (k := (blockK 0 (thenK (fun fr σ => c189_1 run fu (G fr 1) (G fr 2) (G fr 3) (G fr 4) (G fr 5) (G fr 14) (G fr 15) (G fr 16) (G fr 19) (G fr 20) (G fr 21) σ) (noGotoK k189)))) (u := fun m fr σ => c189_8 run fu m (G fr 1) (G fr 2) (G fr 3) (G fr 4) (G fr 5) (G fr 14) (G fr 15) (G fr 16) (G fr 19) (G fr 20) (G fr 21) σ) (fun _ _ => rfl) (fun m fr σ => KOK.piece env0 hrun [1, 2, 3, 4, 5, 14, 15, 16, 19, 20, 21] (eq189_8 run fu (c189_8 run fu m) (G fr 1) (G fr 2) (G fr 3) (G fr 4) (G fr 5) (G fr 14) (G fr 15) (G fr 16) (G fr 19) (G fr 20) (G fr 21) σ) (owed189_8 hrun fu (c189_8 run fu m)))
  exact fun fr σ => h fu fr σ

noncomputable def c189_12 (run : RunT) (fu : Nat) (s8 : W11) (x1 x2 x3 x4 x5 x14 x15 x16 x19 x20 x21 x23 : AV) (σ : Store) : Tr R :=
  addK x19 x23 fun x64 =>
  s8 x1 x2 x3 x4 x5 x14 x15 x16 x64 x20 x21 σ

theorem eq189_12 (run : RunT) (fu : Nat) (s8 : W11) (x1 x2 x3 x4 x5 x14 x15 x16 x19 x20 x21 x23 : AV) (σ : Store) : codeK X0 run .leaf (subC [true, false, true, true, true, true, true, false, false, false, true, false, true, true, true, true] b189) (frS 0 163 [(1, x1), (2, x2), (3, x3), (4, x4), (5, x5), (14, x14), (15, x15), (16, x16), (19, x19), (20, x20), (21, x21), (23, x23)]) σ (blockK 1 (thenK (fun fr σ => s8 (G fr 1) (G fr 2) (G fr 3) (G fr 4) (G fr 5) (G fr 14) (G fr 15) (G fr 16) (G fr 19) (G fr 20) (G fr 21) σ) failK)) = c189_12 run fu s8 x1 x2 x3 x4 x5 x14 x15 x16 x19 x20 x21 x23 σ := by kernel_rfl

theorem ok189_12 {run : RunT} (hrun : RunOK X0 run) (fu : Nat) (s8 : W11) : ∀ fr σ, KOK X0 163 (subC [true, false, true, true, true, true, true, false, false, false, true, false, true, true, true, true] b189) fr σ ((fun fr σ => c189_12 run fu s8 (G fr 1) (G fr 2) (G fr 3) (G fr 4) (G fr 5) (G fr 14) (G fr 15) (G fr 16) (G fr 19) (G fr 20) (G fr 21) (G fr 23) σ) fr σ) (blockK 1 (thenK (fun fr σ => s8 (G fr 1) (G fr 2) (G fr 3) (G fr 4) (G fr 5) (G fr 14) (G fr 15) (G fr 16) (G fr 19) (G fr 20) (G fr 21) σ) failK)) := fun fr σ =>
  KOK.piece env0 hrun [1, 2, 3, 4, 5, 14, 15, 16, 19, 20, 21, 23] (eq189_12 run fu s8 (G fr 1) (G fr 2) (G fr 3) (G fr 4) (G fr 5) (G fr 14) (G fr 15) (G fr 16) (G fr 19) (G fr 20) (G fr 21) (G fr 23) σ) trivial

noncomputable def c189_11 (run : RunT) (fu : Nat) (s8 : W11) (x1 x2 x3 x4 x5 x14 x15 x16 x19 x20 x21 x22 x23 : AV) (σ : Store) : Tr R :=
  cmpK .eql x22 (.int .i32 41) fun x59 =>
  ifK x59 (
  subK x21 (.int .i64 1) fun x61 =>
  c189_12 run fu s8 x1 x2 x3 x4 x5 x14 x15 x16 x19 x20 x61 x23 σ) (
  c189_12 run fu s8 x1 x2 x3 x4 x5 x14 x15 x16 x19 x20 x21 x23 σ)

theorem eq189_11 (run : RunT) (fu : Nat) (s8 : W11) (x1 x2 x3 x4 x5 x14 x15 x16 x19 x20 x21 x22 x23 : AV) (σ : Store) : codeK X0 run (.seq (.seq .leaf (.cond .leaf .leaf)) (.sub (fun fr σ => c189_12 run fu s8 (G fr 1) (G fr 2) (G fr 3) (G fr 4) (G fr 5) (G fr 14) (G fr 15) (G fr 16) (G fr 19) (G fr 20) (G fr 21) (G fr 23) σ))) (subC [true, false, true, true, true, true, true, false, false, false, true, false, true, true, true] b189) (frS 0 163 [(1, x1), (2, x2), (3, x3), (4, x4), (5, x5), (14, x14), (15, x15), (16, x16), (19, x19), (20, x20), (21, x21), (22, x22), (23, x23)]) σ (blockK 1 (thenK (fun fr σ => s8 (G fr 1) (G fr 2) (G fr 3) (G fr 4) (G fr 5) (G fr 14) (G fr 15) (G fr 16) (G fr 19) (G fr 20) (G fr 21) σ) failK)) = c189_11 run fu s8 x1 x2 x3 x4 x5 x14 x15 x16 x19 x20 x21 x22 x23 σ := by kernel_rfl

theorem ok189_11 {run : RunT} (hrun : RunOK X0 run) (fu : Nat) (s8 : W11) : ∀ fr σ, KOK X0 163 (subC [true, false, true, true, true, true, true, false, false, false, true, false, true, true, true] b189) fr σ ((fun fr σ => c189_11 run fu s8 (G fr 1) (G fr 2) (G fr 3) (G fr 4) (G fr 5) (G fr 14) (G fr 15) (G fr 16) (G fr 19) (G fr 20) (G fr 21) (G fr 22) (G fr 23) σ) fr σ) (blockK 1 (thenK (fun fr σ => s8 (G fr 1) (G fr 2) (G fr 3) (G fr 4) (G fr 5) (G fr 14) (G fr 15) (G fr 16) (G fr 19) (G fr 20) (G fr 21) σ) failK)) := fun fr σ =>
  KOK.piece env0 hrun [1, 2, 3, 4, 5, 14, 15, 16, 19, 20, 21, 22, 23] (eq189_11 run fu s8 (G fr 1) (G fr 2) (G fr 3) (G fr 4) (G fr 5) (G fr 14) (G fr 15) (G fr 16) (G fr 19) (G fr 20) (G fr 21) (G fr 22) (G fr 23) σ) ⟨⟨trivial, ⟨trivial, trivial⟩⟩, (ok189_12 hrun fu s8)⟩

noncomputable def c189_8x (run : RunT) (fu : Nat) (s8 : W11) (x1 x2 x3 x4 x5 x14 x15 x16 x19 x20 x21 : AV) (σ : Store) : Tr R :=
  lenSK x2 fun x39 =>
  cmpK .lss x19 x39 fun x40 =>
  ifK x40 (
  sliceSK x2 (some x19) none fun x44 =>
  calK run 101 [x44] σ fun x45 σ1 =>
  extK x45 0 fun x46 =>
  extK x45 1 fun x47 =>
  calK run 102 [x46] σ1 fun x49 σ2 =>
  grdK x49 false σ2 (fun f => f x46 σ2) fun x51 σ3 =>
  grdK x49 false σ3 (fun f => cmpK .eql x51 (.int .i32 60) fun v => f v σ3) fun x52 σ4 =>
  pickK x49 (.bool true) x52 fun x53 =>
  ifK x53 (
  .fail) (
  cmpK .eql x46 (.int .i32 40) fun x55 =>
  ifK x55 (
  addK x21 (.int .i64 1) fun x57 =>
  c189_11 run fu s8 x1 x2 x3 x4 x5 x14 x15 x16 x19 x20 x57 x46 x47 σ4) (
  c189_11 run fu s8 x1 x2 x3 x4 x5 x14 x15 x16 x19 x20 x21 x46 x47 σ4))) (
  .fail)

theorem eq189_8x (run : RunT) (fu : Nat) (s8 : W11) (x1 x2 x3 x4 x5 x14 x15 x16 x19 x20 x21 : AV) (σ : Store) : codeK X0 run (.seq (.seq .leaf (.cond .leaf .leaf)) (.block (.seq .leaf (.seq (.seq .leaf (.cond .leaf .leaf)) (.seq (.seq .leaf (.cond .leaf .leaf)) (.sub (fun fr σ => c189_11 run fu s8 (G fr 1) (G fr 2) (G fr 3) (G fr 4) (G fr 5) (G fr 14) (G fr 15) (G fr 16) (G fr 19) (G fr 20) (G fr 21) (G fr 22) (G fr 23) σ))))))) (subC [true, false, true, true, true, true, true, false, false, false] b189) (frS 0 163 [(1, x1), (2, x2), (3, x3), (4, x4), (5, x5), (14, x14), (15, x15), (16, x16), (19, x19), (20, x20), (21, x21)]) σ (thenK (fun fr σ => s8 (G fr 1) (G fr 2) (G fr 3) (G fr 4) (G fr 5) (G fr 14) (G fr 15) (G fr 16) (G fr 19) (G fr 20) (G fr 21) σ) failK) = c189_8x run fu s8 x1 x2 x3 x4 x5 x14 x15 x16 x19 x20 x21 σ := by kernel_rfl

theorem owed189_8x {run : RunT} (hrun : RunOK X0 run) (fu : Nat) (s8 : W11) : Owes X0 run 163 (.seq (.seq .leaf (.cond .leaf .leaf)) (.block (.seq .leaf (.seq (.seq .leaf (.cond .leaf .leaf)) (.seq (.seq .leaf (.cond .leaf .leaf)) (.sub (fun fr σ => c189_11 run fu s8 (G fr 1) (G fr 2) (G fr 3) (G fr 4) (G fr 5) (G fr 14) (G fr 15) (G fr 16) (G fr 19) (G fr 20) (G fr 21) (G fr 22) (G fr 23) σ))))))) (subC [true, false, true, true, true, true, true, false, false, false] b189) (thenK (fun fr σ => s8 (G fr 1) (G fr 2) (G fr 3) (G fr 4) (G fr 5) (G fr 14) (G fr 15) (G fr 16) (G fr 19) (G fr 20) (G fr 21) σ) failK) :=
  ⟨⟨trivial, ⟨trivial, trivial⟩⟩, ⟨trivial, ⟨⟨trivial, ⟨trivial, trivial⟩⟩, ⟨⟨trivial, ⟨trivial, trivial⟩⟩, (ok189_11 hrun fu s8)⟩⟩⟩⟩

noncomputable def c189_8s (run : RunT) (fu : Nat) : Nat → List AV → W0 :=
  sweepU (planOf none 1 8 [] [] []) (fun s2 xs σ => c189_8b run fu (fun y1 y2 y3 y4 y5 y14 y15 y16 y19 y20 y21 σ => s2 [y1, y2, y3, y4, y5, y14, y15, y16, y19, y20, y21] σ) (xs.getD 0 .any) (xs.getD 1 .any) (xs.getD 2 .any) (xs.getD 3 .any) (xs.getD 4 .any) (xs.getD 5 .any) (xs.getD 6 .any) (xs.getD 7 .any) (xs.getD 8 .any) (xs.getD 9 .any) (xs.getD 10 .any) σ) (fun s2 xs σ => c189_8x run fu (fun y1 y2 y3 y4 y5 y14 y15 y16 y19 y20 y21 σ => s2 [y1, y2, y3, y4, y5, y14, y15, y16, y19, y20, y21] σ) (xs.getD 0 .any) (xs.getD 1 .any) (xs.getD 2 .any) (xs.getD 3 .any) (xs.getD 4 .any) (xs.getD 5 .any) (xs.getD 6 .any) (xs.getD 7 .any) (xs.getD 8 .any) (xs.getD 9 .any) (xs.getD 10 .any) σ)

theorem ok189_8s {run : RunT} (hrun : RunOK X0 run) (fu : Nat) : ∀ fr σ, KOK X0 163 (subC [true, false, true, true, true, true, true, false, false] b189) fr σ ((fun fr σ => c189_8s run fu fu [fr.getD 1 .any, fr.getD 2 .any, fr.getD 3 .any, fr.getD 4 .any, fr.getD 5 .any, fr.getD 14 .any, fr.getD 15 .any, fr.getD 16 .any, fr.getD 19 .any, fr.getD 20 .any, fr.getD 21 .any] σ) fr σ) (blockK 0 (thenK (fun fr σ => c189_1 run fu (G fr 1) (G fr 2) (G fr 3) (G fr 4) (G fr 5) (G fr 14) (G fr 15) (G fr 16) (G fr 19) (G fr 20) (G fr 21) σ) (noGotoK k189))) := by
  have h := KOK.sweep (X := X0) (N := 163) (b := (subC [true, false, true, true, true, true, true, false, false, false] b189)) (k := (blockK 0 (thenK (fun fr σ => c189_1 run fu (G fr 1) (G fr 2) (G fr 3) (G fr 4) (G fr 5) (G fr 14) (G fr 15) (G fr 16) (G fr 19) (G fr 20) (G fr 21) σ) (noGotoK k189)))) (js := [1, 2, 3, 4, 5, 14, 15, 16, 19, 20, 21]) (body := (fun s2 xs σ => c189_8b run fu (fun y1 y2 y3 y4 y5 y14 y15 y16 y19 y20 y21 σ => s2 [y1, y2, y3, y4, y5, y14, y15, y16, y19, y20, y21] σ) (xs.getD 0 .any) (xs.getD 1 .any) (xs.getD 2 .any) (xs.getD 3 .any) (xs.getD 4 .any) (xs.getD 5 .any) (xs.getD 6 .any) (xs.getD 7 .any) (xs.getD 8 .any) (xs.getD 9 .any) (xs.getD 10 .any) σ)) (bodyx := (fun s2 xs σ => c189_8x run fu (fun y1 y2 y3 y4 y5 y14 y15 y16 y19 y20 y21 σ => s2 [y1, y2, y3, y4, y5, y14, y15, y16, y19, y20, y21] σ) (xs.getD 0 .any) (xs.getD 1 .any) (xs.getD 2 .any) (xs.getD 3 .any) (xs.getD 4 .any) (xs.getD 5 .any) (xs.getD 6 .any) (xs.getD 7 .any) (xs.getD 8 .any) (xs.getD 9 .any) (xs.getD 10 .any) σ)) rfl (planOf none 1 8 [] [] []) (fun s2 fr σ => KOK.piece env0 hrun [1, 2, 3, 4, 5, 14, 15, 16, 19, 20, 21] (eq189_8 run fu (fun y1 y2 y3 y4 y5 y14 y15 y16 y19 y20 y21 σ => s2 [y1, y2, y3, y4, y5, y14, y15, y16, y19, y20, y21] σ) (G fr 1) (G fr 2) (G fr 3) (G fr 4) (G fr 5) (G fr 14) (G fr 15) (G fr 16) (G fr 19) (G fr 20) (G fr 21) σ) (owed189_8 hrun fu (fun y1 y2 y3 y4 y5 y14 y15 y16 y19 y20 y21 σ => s2 [y1, y2, y3, y4, y5, y14, y15, y16, y19, y20, y21] σ))) (fun s2 fr σ => KOK.piece env0 hrun [1, 2, 3, 4, 5, 14, 15, 16, 19, 20, 21] (eq189_8x run fu (fun y1 y2 y3 y4 y5 y14 y15 y16 y19 y20 y21 σ => s2 [y1, y2, y3, y4, y5, y14, y15, y16, y19, y20, y21] σ) (G fr 1) (G fr 2) (G fr 3) (G fr 4) (G fr 5) (G fr 14) (G fr 15) (G fr 16) (G fr 19) (G fr 20) (G fr 21) σ) (owed189_8x hrun fu (fun y1 y2 y3 y4 y5 y14 y15 y16 y19 y20 y21 σ => s2 [y1, y2, y3, y4, y5, y14, y15, y16, y19, y20, y21] σ)))
  exact fun fr σ => h fu fr σ

noncomputable def c189 (run : RunT) (fu : Nat) (x0 x1 x2 x3 x4 x5 x6 : AV) (σ : Store) : Tr R :=
  calK run 200 [x6, x4] σ fun x28 σ1 =>
  extK x28 0 fun x29 =>
  extK x28 1 fun x30 =>
  notK x30 fun x32 =>
  ifK x32 (
  .ret (.tup [.nilp, (.str []), (.bool false)], σ1)) (
  addK x4 x29 fun x35 =>
  c189_8s run fu fu [x1, x2, x3, x4, x5, .nilp, (.str []), (.bool false), x35, x35, (.int .i64 0)] σ1)

theorem eq189 (run : RunT) (fu : Nat) (x0 x1 x2 x3 x4 x5 x6 : AV) (σ : Store) : codeK X0 run (.seq .leaf (.scope (.seq .leaf (.seq (.seq .leaf (.cond .leaf .leaf)) (.seq .leaf (.seq .leaf (.seq .leaf (.seq (.block (.sub (fun fr σ => c189_8s run fu fu [fr.getD 1 .any, fr.getD 2 .any, fr.getD 3 .any, fr.getD 4 .any, fr.getD 5 .any, fr.getD 14 .any, fr.getD 15 .any, fr.getD 16 .any, fr.getD 19 .any, fr.getD 20 .any, fr.getD 21 .any] σ))) (.sub (fun fr σ => c189_1 run fu (G fr 1) (G fr 2) (G fr 3) (G fr 4) (G fr 5) (G fr 14) (G fr 15) (G fr 16) (G fr 19) (G fr 20) (G fr 21) σ)))))))))) (subC [] b189) ([x0, x1, x2, x3, x4, x5, x6] ++ padA (163 - 7)) σ k189 = c189 run fu x0 x1 x2 x3 x4 x5 x6 σ := by kernel_rfl

theorem ok189 {run : RunT} (hrun : RunOK X0 run) (fu : Nat) (x0 x1 x2 x3 x4 x5 x6 : AV) (σ : Store) : CallOK X0 189 [x0, x1, x2, x3, x4, x5, x6] σ (c189 run fu x0 x1 x2 x3 x4 x5 x6 σ) :=
  KOK.body (fn := Tryz.f189) (c := subC [] b189) (by kernel_rfl) (by kernel_rfl) (by show 7 ≤ 163; decide) (KOK.whole env0 hrun (eq189 run fu x0 x1 x2 x3 x4 x5 x6 σ) ⟨trivial, ⟨trivial, ⟨⟨trivial, ⟨trivial, trivial⟩⟩, ⟨trivial, ⟨trivial, ⟨trivial, ⟨(ok189_8s hrun fu), (ok189_1 hrun fu)⟩⟩⟩⟩⟩⟩⟩)

-- (*pub-paratext/pub/rscmarkdown.validDomainChecker).parseValidDomain

noncomputable def b200 : Code := match Tryz.f200.body with | some c => c | none => .skip

noncomputable def k200 : Kont R := retK Tryz.prog [.tmp 4, .tmp 5]

noncomputable def c200_1 (run : RunT) (fu : Nat) (x0 x1 x6 x7 : AV) (σ : Store) : Tr R :=
  cmpK .geq x7 (.int .i64 0) fun x41 =>
  grdK x41 true σ (fun f => f x6 σ) fun x43 σ1 =>
  grdK x41 true σ1 (fun f => f x1 σ1) fun x44 σ2 =>
  grdK x41 true σ2 (fun f => cmpK .gtr x43 x44 fun v => f v σ2) fun x45 σ3 =>
  pickK x41 x45 (.bool false) fun x46 =>
  ifK x46 (
  subK x6 x1 fun x49 =>
  .ret (.tup [x49, (.bool true)], σ3)) (
  nchkK x0 fun x52 =>
  addrK x52 1 fun x53 =>
  st1K σ3 x53 x6 fun _ σ4 =>
  .ret (.tup [(.int .i64 0), (.bool false)], σ4))

theorem eq200_1 (run : RunT) (fu : Nat) (x0 x1 x6 x7 : AV) (σ : Store) : codeK X0 run (.seq (.seq .leaf (.cond (.seq .leaf .leaf) .leaf)) (.seq .leaf (.seq .leaf .leaf))) (subC [true, true, true, true, true] b200) (frS 0 54 [(0, x0), (1, x1), (6, x6), (7, x7)]) σ k200 = c200_1 run fu x0 x1 x6 x7 σ := by kernel_rfl

theorem ok200_1 {run : RunT} (hrun : RunOK X0 run) (fu : Nat) : ∀ fr σ, KOK X0 54 (subC [true, true, true, true, true] b200) fr σ ((fun fr σ => c200_1 run fu (G fr 0) (G fr 1) (G fr 6) (G fr 7) σ) fr σ) k200 := fun fr σ =>
  KOK.piece env0 hrun [0, 1, 6, 7] (eq200_1 run fu (G fr 0) (G fr 1) (G fr 6) (G fr 7) σ) ⟨⟨trivial, ⟨⟨trivial, trivial⟩, trivial⟩⟩, ⟨trivial, ⟨trivial, trivial⟩⟩⟩

noncomputable def c200_3 (run : RunT) (fu : Nat) (s2 : W4) (x0 x1 x6 x7 : AV) (σ : Store) : Tr R :=
  addK x6 (.int .i64 1) fun x24 =>
  s2 x0 x1 x24 x7 σ

theorem eq200_3 (run : RunT) (fu : Nat) (s2 : W4) (x0 x1 x6 x7 : AV) (σ : Store) : codeK X0 run .leaf (subC [true, true, true, true, false, false, false, true, true] b200) (frS 0 54 [(0, x0), (1, x1), (6, x6), (7, x7)]) σ (thenK (fun fr σ => s2 (G fr 0) (G fr 1) (G fr 6) (G fr 7) σ) (blockK 0 (thenK (fun fr σ => c200_1 run fu (G fr 0) (G fr 1) (G fr 6) (G fr 7) σ) k200))) = c200_3 run fu s2 x0 x1 x6 x7 σ := by kernel_rfl

theorem ok200_3 {run : RunT} (hrun : RunOK X0 run) (fu : Nat) (s2 : W4) : ∀ fr σ, KOK X0 54 (subC [true, true, true, true, false, false, false, true, true] b200) fr σ ((fun fr σ => c200_3 run fu s2 (G fr 0) (G fr 1) (G fr 6) (G fr 7) σ) fr σ) (thenK (fun fr σ => s2 (G fr 0) (G fr 1) (G fr 6) (G fr 7) σ) (blockK 0 (thenK (fun fr σ => c200_1 run fu (G fr 0) (G fr 1) (G fr 6) (G fr 7) σ) k200))) := fun fr σ =>
  KOK.piece env0 hrun [0, 1, 6, 7] (eq200_3 run fu s2 (G fr 0) (G fr 1) (G fr 6) (G fr 7) σ) trivial

noncomputable def c200_2b (run : RunT) (fu : Nat) (s2 : W4) (x0 x1 x6 x7 : AV) (σ : Store) : Tr R :=
  nchkK x0 fun x18 =>
  addrK x18 0 fun x19 =>
  ld1K σ x19 fun x20 =>
  lenSK x20 fun x21 =>
  cmpK .lss x6 x21 fun x22 =>
  ifK x22 (
  nchkK x0 fun x26 =>
  addrK x26 0 fun x27 =>
  ld1K σ x27 fun x28 =>
  idxSK x28 x6 fun x30 =>
  cmpK .eql x30 (.int .u8 95) fun x32 =>
  ifK x32 (
  c200_3 run fu s2 x0 x1 x6 (.int .i64 (-2)) σ) (
  cmpK .eql x30 (.int .u8 46) fun x34 =>
  ifK x34 (
  addK x7 (.int .i64 1) fun x36 =>
  c200_3 run fu s2 x0 x1 x6 x36 σ) (
  calK run 180 [x30] σ fun x38 σ1 =>
  notK x38 fun x39 =>
  ifK x39 (
  c200_1 run fu x0 x1 x6 x7 σ1) (
  c200_3 run fu s2 x0 x1 x6 x7 σ1)))) (
  c200_1 run fu x0 x1 x6 x7 σ)

noncomputable def c200_2 (run : RunT) (fu : Nat) : Nat → W4
  | 0 => fun _ _ _ _ _ => .fail
  | m + 1 => c200_2b run fu (c200_2 run fu m)

theorem eq200_2 (run : RunT) (fu : Nat) (s2 : W4) (x0 x1 x6 x7 : AV) (σ : Store) : codeK X0 run (.seq (.seq .leaf (.cond .leaf .leaf)) (.seq (.block (.seq .leaf (.seq (.seq .leaf (.cond (.seq .leaf .leaf) .leaf)) (.seq (.seq .leaf (.cond (.seq .leaf .leaf) .leaf)) (.seq .leaf (.cond .leaf .leaf)))))) (.sub (fun fr σ => c200_3 run fu s2 (G fr 0) (G fr 1) (G fr 6) (G fr 7) σ)))) (subC [true, true, true, true, false, false, false] b200) (frS 0 54 [(0, x0), (1, x1), (6, x6), (7, x7)]) σ (thenK (fun fr σ => s2 (G fr 0) (G fr 1) (G fr 6) (G fr 7) σ) (blockK 0 (thenK (fun fr σ => c200_1 run fu (G fr 0) (G fr 1) (G fr 6) (G fr 7) σ) k200))) = c200_2b run fu s2 x0 x1 x6 x7 σ := by kernel_rfl

theorem owed200_2 {run : RunT} (hrun : RunOK X0 run) (fu : Nat) (s2 : W4) : Owes X0 run 54 (.seq (.seq .leaf (.cond .leaf .leaf)) (.seq (.block (.seq .leaf (.seq (.seq .leaf (.cond (.seq .leaf .leaf) .leaf)) (.seq (.seq .leaf (.cond (.seq .leaf .leaf) .leaf)) (.seq .leaf (.cond .leaf .leaf)))))) (.sub (fun fr σ => c200_3 run fu s2 (G fr 0) (G fr 1) (G fr 6) (G fr 7) σ)))) (subC [true, true, true, true, false, false, false] b200) (thenK (fun fr σ => s2 (G fr 0) (G fr 1) (G fr 6) (G fr 7) σ) (blockK 0 (thenK (fun fr σ => c200_1 run fu (G fr 0) (G fr 1) (G fr 6) (G fr 7) σ) k200))) :=
  ⟨⟨trivial, ⟨trivial, trivial⟩⟩, ⟨⟨trivial, ⟨⟨trivial, ⟨⟨trivial, trivial⟩, trivial⟩⟩, ⟨⟨trivial, ⟨⟨trivial, trivial⟩, trivial⟩⟩, ⟨trivial, ⟨trivial, trivial⟩⟩⟩⟩⟩, (ok200_3 hrun fu s2)⟩⟩

theorem ok200_2 {run : RunT} (hrun : RunOK X0 run) (fu : Nat) : ∀ fr σ, KOK X0 54 (subC [true, true, true, true, false, false] b200) fr σ ((fun fr σ => c200_2 run fu fu (G fr 0) (G fr 1) (G fr 6) (G fr 7) σ) fr σ) (blockK 0 (thenK (fun fr σ => c200_1 run fu (G fr 0) (G fr 1) (G fr 6) (G fr 7) σ) k200)) := by
  have h := KOK.loop (X := X0) (N := 54) (b := (subC [true, true, true, true, false, false, false] b200)) (k := (blockK 0 (thenK (fun fr σ => c200_1 run fu (G fr 0) (G fr 1) (G fr 6) (G fr 7) σ) k200))) (u := fun m fr σ => c200_2 run fu m (G fr 0) (G fr 1) (G fr 6) (G fr 7) σ) (fun _ _ => rfl) (fun m fr σ => KOK.piece env0 hrun [0, 1, 6, 7] (eq200_2 run fu (c200_2 run fu m) (G fr 0) (G fr 1) (G fr 6) (G fr 7) σ) (owed200_2 hrun fu (c200_2 run fu m)))
  exact fun fr σ => h fu fr σ

noncomputable def c200_4 (run : RunT) (fu : Nat) (s2 : W4) (x0 x1 x6 x7 : AV) (σ : Store) : Tr R :=
  addK x6 (.int .i64 1) fun x24 =>
  s2 x0 x1 x24 x7 σ

theorem eq200_4 (run : RunT) (fu : Nat) (s2 : W4) (x0 x1 x6 x7 : AV) (σ : Store) : codeK X0 run .leaf (subC [true, true, true, true, false, false, false, true, true] b200) (frS 0 54 [(0, x0), (1, x1), (6, x6), (7, x7)]) σ (thenK (fun fr σ => s2 (G fr 0) (G fr 1) (G fr 6) (G fr 7) σ) failK) = c200_4 run fu s2 x0 x1 x6 x7 σ := by kernel_rfl

theorem ok200_4 {run : RunT} (hrun : RunOK X0 run) (fu : Nat) (s2 : W4) : ∀ fr σ, KOK X0 54 (subC [true, true, true, true, false, false, false, true, true] b200) fr σ ((fun fr σ => c200_4 run fu s2 (G fr 0) (G fr 1) (G fr 6) (G fr 7) σ) fr σ) (thenK (fun fr σ => s2 (G fr 0) (G fr 1) (G fr 6) (G fr 7) σ) failK) := fun fr σ =>
  KOK.piece env0 hrun [0, 1, 6, 7] (eq200_4 run fu s2 (G fr 0) (G fr 1) (G fr 6) (G fr 7) σ) trivial

noncomputable def c200_2x (run : RunT) (fu : Nat) (s2 : W4) (x0 x1 x6 x7 : AV) (σ : Store) : Tr R :=
  nchkK x0 fun x18 =>
  addrK x18 0 fun x19 =>
  ld1K σ x19 fun x20 =>
  lenSK x20 fun x21 =>
  cmpK .lss x6 x21 fun x22 =>
  ifK x22 (
  nchkK x0 fun x26 =>
  addrK x26 0 fun x27 =>
  ld1K σ x27 fun x28 =>
  idxSK x28 x6 fun x30 =>
  cmpK .eql x30 (.int .u8 95) fun x32 =>
  ifK x32 (
  c200_4 run fu s2 x0 x1 x6 (.int .i64 (-2)) σ) (
  cmpK .eql x30 (.int .u8 46) fun x34 =>
  ifK x34 (
  addK x7 (.int .i64 1) fun x36 =>
  c200_4 run fu s2 x0 x1 x6 x36 σ) (
  calK run 180 [x30] σ fun x38 σ1 =>
  notK x38 fun x39 =>
  ifK x39 (
  .fail) (
  c200_4 run fu s2 x0 x1 x6 x7 σ1)))) (
  .fail)

theorem eq200_2x (run : RunT) (fu : Nat) (s2 : W4) (x0 x1 x6 x7 : AV) (σ : Store) : codeK X0 run (.seq (.seq .leaf (.cond .leaf .leaf)) (.seq (.block (.seq .leaf (.seq (.seq .leaf (.cond (.seq .leaf .leaf) .leaf)) (.seq (.seq .leaf (.cond (.seq .leaf .leaf) .leaf)) (.seq .leaf (.cond .leaf .leaf)))))) (.sub (fun fr σ => c200_4 run fu s2 (G fr 0) (G fr 1) (G fr 6) (G fr 7) σ)))) (subC [true, true, true, true, false, false, false] b200) (frS 0 54 [(0, x0), (1, x1), (6, x6), (7, x7)]) σ (thenK (fun fr σ => s2 (G fr 0) (G fr 1) (G fr 6) (G fr 7) σ) failK) = c200_2x run fu s2 x0 x1 x6 x7 σ := by kernel_rfl

theorem owed200_2x {run : RunT} (hrun : RunOK X0 run) (fu : Nat) (s2 : W4) : Owes X0 run 54 (.seq (.seq .leaf (.cond .leaf .leaf)) (.seq (.block (.seq .leaf (.seq (.seq .leaf (.cond (.seq .leaf .leaf) .leaf)) (.seq (.seq .leaf (.cond (.seq .leaf .leaf) .leaf)) (.seq .leaf (.cond .leaf .leaf)))))) (.sub (fun fr σ => c200_4 run fu s2 (G fr 0) (G fr 1) (G fr 6) (G fr 7) σ)))) (subC [true, true, true, true, false, false, false] b200) (thenK (fun fr σ => s2 (G fr 0) (G fr 1) (G fr 6) (G fr 7) σ) failK) :=
  ⟨⟨trivial, ⟨trivial, trivial⟩⟩, ⟨⟨trivial, ⟨⟨trivial, ⟨⟨trivial, trivial⟩, trivial⟩⟩, ⟨⟨trivial, ⟨⟨trivial, trivial⟩, trivial⟩⟩, ⟨trivial, ⟨trivial, trivial⟩⟩⟩⟩⟩, (ok200_4 hrun fu s2)⟩⟩

noncomputable def c200_2s (run : RunT) (fu : Nat) : Nat → List AV → W0 :=
  sweepU (planOf (some 0) 100 2 [] [] []) (fun s2 xs σ => c200_2b run fu (fun y0 y1 y6 y7 σ => s2 [y0, y1, y6, y7] σ) (xs.getD 0 .any) (xs.getD 1 .any) (xs.getD 2 .any) (xs.getD 3 .any) σ) (fun s2 xs σ => c200_2x run fu (fun y0 y1 y6 y7 σ => s2 [y0, y1, y6, y7] σ) (xs.getD 0 .any) (xs.getD 1 .any) (xs.getD 2 .any) (xs.getD 3 .any) σ)

theorem ok200_2s {run : RunT} (hrun : RunOK X0 run) (fu : Nat) : ∀ fr σ, KOK X0 54 (subC [true, true, true, true, false, false] b200) fr σ ((fun fr σ => c200_2s run fu fu [fr.getD 0 .any, fr.getD 1 .any, fr.getD 6 .any, fr.getD 7 .any] σ) fr σ) (blockK 0 (thenK (fun fr σ => c200_1 run fu (G fr 0) (G fr 1) (G fr 6) (G fr 7) σ) k200)) := by
  have h := KOK.sweep (X := X0) (N := 54) (b := (subC [true, true, true, true, false, false, false] b200)) (k := (blockK 0 (thenK (fun fr σ => c200_1 run fu (G fr 0) (G fr 1) (G fr 6) (G fr 7) σ) k200))) (js := [0, 1, 6, 7]) (body := (fun s2 xs σ => c200_2b run fu (fun y0 y1 y6 y7 σ => s2 [y0, y1, y6, y7] σ) (xs.getD 0 .any) (xs.getD 1 .any) (xs.getD 2 .any) (xs.getD 3 .any) σ)) (bodyx := (fun s2 xs σ => c200_2x run fu (fun y0 y1 y6 y7 σ => s2 [y0, y1, y6, y7] σ) (xs.getD 0 .any) (xs.getD 1 .any) (xs.getD 2 .any) (xs.getD 3 .any) σ)) rfl (planOf (some 0) 100 2 [] [] []) (fun s2 fr σ => KOK.piece env0 hrun [0, 1, 6, 7] (eq200_2 run fu (fun y0 y1 y6 y7 σ => s2 [y0, y1, y6, y7] σ) (G fr 0) (G fr 1) (G fr 6) (G fr 7) σ) (owed200_2 hrun fu (fun y0 y1 y6 y7 σ => s2 [y0, y1, y6, y7] σ))) (fun s2 fr σ => KOK.piece env0 hrun [0, 1, 6, 7] (eq200_2x run fu (fun y0 y1 y6 y7 σ => s2 [y0, y1, y6, y7] σ) (G fr 0) (G fr 1) (G fr 6) (G fr 7) σ) (owed200_2x hrun fu (fun y0 y1 y6 y7 σ => s2 [y0, y1, y6, y7] σ)))
  exact fun fr σ => h fu fr σ

noncomputable def c200 (run : RunT) (fu : Nat) (x0 x1 : AV) (σ : Store) : Tr R :=
  nchkK x0 fun x11 =>
  addrK x11 1 fun x12 =>
  ld1K σ x12 fun x13 =>
  cmpK .lss x1 x13 fun x14 =>
  ifK x14 (
  .ret (.tup [(.int .i64 0), (.bool false)], σ)) (
  c200_2s run fu fu [x0, x1, x1, (.int .i64 0)] σ)

theorem eq200 (run : RunT) (fu : Nat) (x0 x1 : AV) (σ : Store) : codeK X0 run (.seq .leaf (.seq (.seq .leaf (.cond (.seq .leaf .leaf) .leaf)) (.seq .leaf (.seq .leaf (.seq (.block (.sub (fun fr σ => c200_2s run fu fu [fr.getD 0 .any, fr.getD 1 .any, fr.getD 6 .any, fr.getD 7 .any] σ))) (.sub (fun fr σ => c200_1 run fu (G fr 0) (G fr 1) (G fr 6) (G fr 7) σ))))))) (subC [] b200) ([x0, x1] ++ padA (54 - 2)) σ k200 = c200 run fu x0 x1 σ := by kernel_rfl

theorem ok200 {run : RunT} (hrun : RunOK X0 run) (fu : Nat) (x0 x1 : AV) (σ : Store) : CallOK X0 200 [x0, x1] σ (c200 run fu x0 x1 σ) :=
  KOK.body (fn := Tryz.f200) (c := subC [] b200) (by kernel_rfl) (by kernel_rfl) (by show 2 ≤ 54; decide) (KOK.whole env0 hrun (eq200 run fu x0 x1 σ) ⟨trivial, ⟨⟨trivial, ⟨⟨trivial, trivial⟩, trivial⟩⟩, ⟨trivial, ⟨trivial, ⟨(ok200_2s hrun fu), (ok200_1 hrun fu)⟩⟩⟩⟩⟩)

-- (*pub-paratext/pub/rscmarkdown.Document).PrintHTML

noncomputable def b232 : Code := match Tryz.f232.body with | some c => c | none => .skip

noncomputable def k232 : Kont R := retK Tryz.prog []

noncomputable def c232_1b (run : RunT) (fu : Nat) (s1 : W4) (x1 x9 x10 x11 : AV) (σ : Store) : Tr R :=
  cmpK .lss x11 x10 fun x12 =>
  ifK x12 (
  idxK 1 x9 x11 fun x13 =>
  ld1K σ x13 fun x14 =>
  invK X0 run x14 "PrintHTML" [x1] σ fun x17 σ1 =>
  addK x11 (.int .i64 1) fun x18 =>
  s1 x1 x9 x10 x18 σ1) (
  .ret (.tup [], σ))

noncomputable def c232_1 (run : RunT) (fu : Nat) : Nat → W4
  | 0 => fun _ _ _ _ _ => .fail
  | m + 1 => c232_1b run fu (c232_1 run fu m)

theorem eq232_1 (run : RunT) (fu : Nat) (s1 : W4) (x1 x9 x10 x11 : AV) (σ : Store) : codeK X0 run (.seq .leaf (.seq (.cond .leaf .leaf) (.seq (.block (.seq .leaf .leaf)) .leaf))) (subC [true, false, false] b232) (frS 0 19 [(1, x1), (9, x9), (10, x10), (11, x11)]) σ (thenK (fun fr σ => s1 (G fr 1) (G fr 9) (G fr 10) (G fr 11) σ) (blockK 0 k232)) = c232_1b run fu s1 x1 x9 x10 x11 σ := by kernel_rfl

theorem owed232_1 {run : RunT} (hrun : RunOK X0 run) (fu : Nat) (s1 : W4) : Owes X0 run 19 (.seq .leaf (.seq (.cond .leaf .leaf) (.seq (.block (.seq .leaf .leaf)) .leaf))) (subC [true, false, false] b232) (thenK (fun fr σ => s1 (G fr 1) (G fr 9) (G fr 10) (G fr 11) σ) (blockK 0 k232)) :=
  ⟨trivial, ⟨⟨trivial, trivial⟩, ⟨⟨trivial, trivial⟩, trivial⟩⟩⟩

theorem ok232_1 {run : RunT} (hrun : RunOK X0 run) (fu : Nat) : ∀ fr σ, KOK X0 19 (subC [true, false] b232) fr σ ((fun fr σ => c232_1 run fu fu (G fr 1) (G fr 9) (G fr 10) (G fr 11) σ) fr σ) (blockK 0 k232) := by
  have h := KOK.loop (X := X0) (N := 19) (b := (subC [true, false, false] b232)) (k := (blockK 0 k232)) (u := fun m fr σ => c232_1 run fu m (G fr 1) (G fr 9) (G fr 10) (G fr 11) σ) (fun _ _ => rfl) (fun m fr σ => KOK.piece env0 hrun [1, 9, 10, 11] (eq232_1 run fu (c232_1 run fu m) (G fr 1) (G fr 9) (G fr 10) (G fr 11) σ) (owed232_1 hrun fu (c232_1 run fu m)))
  exact fun fr σ => h fu fr σ

noncomputable def c232 (run : RunT) (fu : Nat) (x0 x1 : AV) (σ : Store) : Tr R :=
  nchkK x0 fun x7 =>
  addrK x7 2 fun x8 =>
  ld1K σ x8 fun x9 =>
  lenLK x9 fun x10 =>
  c232_1 run fu fu x1 x9 x10 (.int .i64 0) σ

theorem eq232 (run : RunT) (fu : Nat) (x0 x1 : AV) (σ : Store) : codeK X0 run (.seq .leaf (.block (.sub (fun fr σ => c232_1 run fu fu (G fr 1) (G fr 9) (G fr 10) (G fr 11) σ)))) (subC [] b232) ([x0, x1] ++ padA (19 - 2)) σ k232 = c232 run fu x0 x1 σ := by kernel_rfl

theorem ok232 {run : RunT} (hrun : RunOK X0 run) (fu : Nat) (x0 x1 : AV) (σ : Store) : CallOK X0 232 [x0, x1] σ (c232 run fu x0 x1 σ) :=
  KOK.body (fn := Tryz.f232) (c := subC [] b232) (by kernel_rfl) (by kernel_rfl) (by show 2 ≤ 19; decide) (KOK.whole env0 hrun (eq232 run fu x0 x1 σ) ⟨trivial, (ok232_1 hrun fu)⟩)

-- (*pub-paratext/pub/rscmarkdown.rootBuilder).build

noncomputable def b234 : Code := match Tryz.f234.body with | some c => c | none => .skip

noncomputable def k234 : Kont R := retK Tryz.prog [.tmp 4]

noncomputable def c234 (run : RunT) (fu : Nat) (x0 x1 : AV) (σ : Store) : Tr R :=
  invK X0 run x1 "pub-paratext/pub/rscmarkdown.pos" [] σ fun x6 σ1 =>
  invK X0 run x1 "pub-paratext/pub/rscmarkdown.blocks" [] σ1 fun x8 σ2 =>
  tasK (some .nilp) 110 false x1 fun x10 =>
  nchkK x10 fun x11 =>
  addrK x11 2 fun x12 =>
  ld1K σ2 x12 fun x13 =>
  bldK [(.int .i64 0), (.int .i64 0), .nils, .nilm] [(0, 2, x6), (2, 1, x8), (3, 1, x13)] fun x14 =>
  boxK σ2 669 x14 fun x15 σ3 =>
  ld1K σ x12 fun v4 =>
  must (AV.beq v4 x13) (
  ld1K σ1 x12 fun v5 =>
  must (AV.beq v5 x13) (
  .ret ((.iface 48 x15), σ3)))

theorem eq234 (run : RunT) (fu : Nat) (x0 x1 : AV) (σ : Store) : codeK X0 run (.seq .leaf (.seq .leaf .leaf)) (subC [] b234) ([x0, x1] ++ padA (17 - 2)) σ k234 = c234 run fu x0 x1 σ := by kernel_rfl

theorem ok234 {run : RunT} (hrun : RunOK X0 run) (fu : Nat) (x0 x1 : AV) (σ : Store) : CallOK X0 234 [x0, x1] σ (c234 run fu x0 x1 σ) :=
  KOK.body (fn := Tryz.f234) (c := subC [] b234) (by kernel_rfl) (by kernel_rfl) (by show 2 ≤ 17; decide) (KOK.whole env0 hrun (eq234 run fu x0 x1 σ) ⟨trivial, ⟨trivial, trivial⟩⟩)

-- (*pub-paratext/pub/rscmarkdown.Text).PrintHTML

noncomputable def b236 : Code := match Tryz.f236.body with | some c => c | none => .skip

noncomputable def k236 : Kont R := retK Tryz.prog []

noncomputable def c236_1b (run : RunT) (fu : Nat) (s1 : W4) (x1 x9 x10 x11 : AV) (σ : Store) : Tr R :=
  cmpK .lss x11 x10 fun x12 =>
  ifK x12 (
  idxK 1 x9 x11 fun x13 =>
  ld1K σ x13 fun x14 =>
  invK X0 run x14 "PrintHTML" [x1] σ fun x17 σ1 =>
  addK x11 (.int .i64 1) fun x18 =>
  s1 x1 x9 x10 x18 σ1) (
  .ret (.tup [], σ))

noncomputable def c236_1 (run : RunT) (fu : Nat) : Nat → W4
  | 0 => fun _ _ _ _ _ => .fail
  | m + 1 => c236_1b run fu (c236_1 run fu m)

theorem eq236_1 (run : RunT) (fu : Nat) (s1 : W4) (x1 x9 x10 x11 : AV) (σ : Store) : codeK X0 run (.seq .leaf (.seq (.cond .leaf .leaf) (.seq (.block (.seq .leaf .leaf)) .leaf))) (subC [true, false, false] b236) (frS 0 19 [(1, x1), (9, x9), (10, x10), (11, x11)]) σ (thenK (fun fr σ => s1 (G fr 1) (G fr 9) (G fr 10) (G fr 11) σ) (blockK 0 k236)) = c236_1b run fu s1 x1 x9 x10 x11 σ := by kernel_rfl

theorem owed236_1 {run : RunT} (hrun : RunOK X0 run) (fu : Nat) (s1 : W4) : Owes X0 run 19 (.seq .leaf (.seq (.cond .leaf .leaf) (.seq (.block (.seq .leaf .leaf)) .leaf))) (subC [true, false, false] b236) (thenK (fun fr σ => s1 (G fr 1) (G fr 9) (G fr 10) (G fr 11) σ) (blockK 0 k236)) :=
  ⟨trivial, ⟨⟨trivial, trivial⟩, ⟨⟨trivial, trivial⟩, trivial⟩⟩⟩

theorem ok236_1 {run : RunT} (hrun : RunOK X0 run) (fu : Nat) : ∀ fr σ, KOK X0 19 (subC [true, false] b236) fr σ ((fun fr σ => c236_1 run fu fu (G fr 1) (G fr 9) (G fr 10) (G fr 11) σ) fr σ) (blockK 0 k236) := by
  have h := KOK.loop (X := X0) (N := 19) (b := (subC [true, false, false] b236)) (k := (blockK 0 k236)) (u := fun m fr σ => c236_1 run fu m (G fr 1) (G fr 9) (G fr 10) (G fr 11) σ) (fun _ _ => rfl) (fun m fr σ => KOK.piece env0 hrun [1, 9, 10, 11] (eq236_1 run fu (c236_1 run fu m) (G fr 1) (G fr 9) (G fr 10) (G fr 11) σ) (owed236_1 hrun fu (c236_1 run fu m)))
  exact fun fr σ => h fu fr σ

noncomputable def c236 (run : RunT) (fu : Nat) (x0 x1 : AV) (σ : Store) : Tr R :=
  nchkK x0 fun x7 =>
  addrK x7 2 fun x8 =>
  ld1K σ x8 fun x9 =>
  lenLK x9 fun x10 =>
  c236_1 run fu fu x1 x9 x10 (.int .i64 0) σ

theorem eq236 (run : RunT) (fu : Nat) (x0 x1 : AV) (σ : Store) : codeK X0 run (.seq .leaf (.block (.sub (fun fr σ => c236_1 run fu fu (G fr 1) (G fr 9) (G fr 10) (G fr 11) σ)))) (subC [] b236) ([x0, x1] ++ padA (19 - 2)) σ k236 = c236 run fu x0 x1 σ := by kernel_rfl

theorem ok236 {run : RunT} (hrun : RunOK X0 run) (fu : Nat) (x0 x1 : AV) (σ : Store) : CallOK X0 236 [x0, x1] σ (c236 run fu x0 x1 σ) :=
  KOK.body (fn := Tryz.f236) (c := subC [] b236) (by kernel_rfl) (by kernel_rfl) (by show 2 ≤ 19; decide) (KOK.whole env0 hrun (eq236 run fu x0 x1 σ) ⟨trivial, (ok236_1 hrun fu)⟩)

-- (*pub-paratext/pub/rscmarkdown.parseState).blocks

noncomputable def b246 : Code := match Tryz.f246.body with | some c => c | none => .skip

noncomputable def k246 : Kont R := retK Tryz.prog [.tmp 2]

noncomputable def c246 (run : RunT) (fu : Nat) (x0 : AV) (σ : Store) : Tr R :=
  nchkK x0 fun x5 =>
  addrK x5 4 fun x6 =>
  ld1K σ x6 fun x7 =>
  nchkK x0 fun x9 =>
  addrK x9 4 fun x10 =>
  ld1K σ x10 fun x11 =>
  lenLK x11 fun x12 =>
  subK x12 (.int .i64 1) fun x13 =>
  idxK 4 x7 x13 fun x14 =>
  nchkK x14 fun x16 =>
  addrK x16 1 fun x17 =>
  ld1K σ x17 fun x18 =>
  .ret (x18, σ)

theorem eq246 (run : RunT) (fu : Nat) (x0 : AV) (σ : Store) : codeK X0 run (.seq .leaf (.seq .leaf (.seq .leaf .leaf))) (subC [] b246) ([x0] ++ padA (19 - 1)) σ k246 = c246 run fu x0 σ := by kernel_rfl

theorem ok246 {run : RunT} (hrun : RunOK X0 run) (fu : Nat) (x0 : AV) (σ : Store) : CallOK X0 246 [x0] σ (c246 run fu x0 σ) :=
  KOK.body (fn := Tryz.f246) (c := subC [] b246) (by kernel_rfl) (by kernel_rfl) (by show 1 ≤ 19; decide) (KOK.whole env0 hrun (eq246 run fu x0 σ) ⟨trivial, ⟨trivial, ⟨trivial, trivial⟩⟩⟩)

-- (*pub-paratext/pub/rscmarkdown.parseState).pos

noncomputable def b247 : Code := match Tryz.f247.body with | some c => c | none => .skip

noncomputable def k247 : Kont R := retK Tryz.prog [.cell 2 104]

noncomputable def c247 (run : RunT) (fu : Nat) (x0 : AV) (σ : Store) : Tr R :=
  newK σ 209 [(.int .i64 0), (.int .i64 0)] fun x2 σ1 =>
  nchkK x0 fun x5 =>
  addrK x5 4 fun x6 =>
  ld1K σ1 x6 fun x7 =>
  nchkK x0 fun x9 =>
  addrK x9 4 fun x10 =>
  ld1K σ1 x10 fun x11 =>
  lenLK x11 fun x12 =>
  subK x12 (.int .i64 1) fun x13 =>
  idxK 4 x7 x13 fun x14 =>
  nchkK x14 fun x16 =>
  addrK x16 2 fun x17 =>
  ldNK σ1 x17 2 fun x18 =>
  stNK σ1 x2 2 x18 fun _ σ2 =>
  ldNK σ2 x2 2 fun v3 =>
  .ret (v3, σ2)

theorem eq247 (run : RunT) (fu : Nat) (x0 : AV) (σ : Store) : codeK X0 run (.seq .leaf (.seq .leaf (.seq .leaf .leaf))) (subC [] b247) ([x0] ++ padA (19 - 1)) σ k247 = c247 run fu x0 σ := by kernel_rfl

theorem ok247 {run : RunT} (hrun : RunOK X0 run) (fu : Nat) (x0 : AV) (σ : Store) : CallOK X0 247 [x0] σ (c247 run fu x0 σ) :=
  KOK.body (fn := Tryz.f247) (c := subC [] b247) (by kernel_rfl) (by kernel_rfl) (by show 1 ≤ 19; decide) (KOK.whole env0 hrun (eq247 run fu x0 σ) ⟨trivial, ⟨trivial, ⟨trivial, trivial⟩⟩⟩)

-- (*pub-paratext/pub/rscmarkdown.Plain).PrintHTML

noncomputable def b249 : Code := match Tryz.f249.body with | some c => c | none => .skip

noncomputable def k249 : Kont R := retK Tryz.prog []

noncomputable def c249 (run : RunT) (fu : Nat) (x0 x1 : AV) (σ : Store) : Tr R :=
  calK run 252 [] σ fun x4 σ1 =>
  nchkK x0 fun x7 =>
  addrK x7 0 fun x8 =>
  ld1K σ1 x8 fun x9 =>
  calK run 253 [x4, x1, x9] σ1 fun x10 σ2 =>
  ld1K σ x8 fun v3 =>
  must (AV.beq v3 x9) (
  .ret (.tup [], σ2))

theorem eq249 (run : RunT) (fu : Nat) (x0 x1 : AV) (σ : Store) : codeK X0 run .leaf (subC [] b249) ([x0, x1] ++ padA (11 - 2)) σ k249 = c249 run fu x0 x1 σ := by kernel_rfl

theorem ok249 {run : RunT} (hrun : RunOK X0 run) (fu : Nat) (x0 x1 : AV) (σ : Store) : CallOK X0 249 [x0, x1] σ (c249 run fu x0 x1 σ) :=
  KOK.body (fn := Tryz.f249) (c := subC [] b249) (by kernel_rfl) (by kernel_rfl) (by show 2 ≤ 11; decide) (KOK.whole env0 hrun (eq249 run fu x0 x1 σ) trivial)

-- pub-paratext/pub/rscmarkdown.htmlEscaper

noncomputable def b252 : Code := match Tryz.f252.body with | some c => c | none => .skip

noncomputable def k252 : Kont R := retK Tryz.prog [.tmp 0]

noncomputable def c252 (run : RunT) (fu : Nat) (σ : Store) : Tr R :=
  opt (fillK [(.str []), (.str []), (.str []), (.str []), (.str []), (.str []), (.str []), (.str [])] [(0, 1, (.str [34])), (1, 1, (.str [38, 113, 117, 111, 116, 59])), (2, 1, (.str [38])), (3, 1, (.str [38, 97, 109, 112, 59])), (4, 1, (.str [60])), (5, 1, (.str [38, 108, 116, 59])), (6, 1, (.str [62])), (7, 1, (.str [38, 103, 116, 59]))]) fun cs => newSK σ 19 cs 8 1 fun x1 σ1 =>
  .ret (x1, σ1)

theorem eq252 (run : RunT) (fu : Nat) (σ : Store) : codeK X0 run (.seq .leaf (.seq .leaf .leaf)) (subC [] b252) ([] ++ padA (2 - 0)) σ k252 = c252 run fu σ := by kernel_rfl

theorem ok252 {run : RunT} (hrun : RunOK X0 run) (fu : Nat) (σ : Store) : CallOK X0 252 [] σ (c252 run fu σ) :=
  KOK.body (fn := Tryz.f252) (c := subC [] b252) (by kernel_rfl) (by kernel_rfl) (by show 0 ≤ 2; decide) (KOK.whole env0 hrun (eq252 run fu σ) ⟨trivial, ⟨trivial, trivial⟩⟩)

-- (*pub-paratext/pub/rscmarkdown.Link).PrintHTML

noncomputable def b256 : Code := match Tryz.f256.body with | some c => c | none => .skip

noncomputable def k256 : Kont R := retK Tryz.prog []

noncomputable def c256_2 (run : RunT) (fu : Nat) (x1 : AV) (σ : Store) : Tr R :=
  calK run 240 [x1, (.str [60, 47, 97, 62])] σ fun x47 σ1 =>
  .ret (.tup [], σ1)

theorem eq256_2 (run : RunT) (fu : Nat) (x1 : AV) (σ : Store) : codeK X0 run .leaf (subC [true, true, true, true] b256) (frS 0 48 [(1, x1)]) σ k256 = c256_2 run fu x1 σ := by kernel_rfl

theorem ok256_2 {run : RunT} (hrun : RunOK X0 run) (fu : Nat) : ∀ fr σ, KOK X0 48 (subC [true, true, true, true] b256) fr σ ((fun fr σ => c256_2 run fu (G fr 1) σ) fr σ) k256 := fun fr σ =>
  KOK.piece env0 hrun [1] (eq256_2 run fu (G fr 1) σ) trivial

noncomputable def c256_3b (run : RunT) (fu : Nat) (s3 : W4) (x1 x36 x37 x38 : AV) (σ : Store) : Tr R :=
  cmpK .lss x38 x37 fun x39 =>
  ifK x39 (
  idxK 1 x36 x38 fun x40 =>
  ld1K σ x40 fun x41 =>
  invK X0 run x41 "PrintHTML" [x1] σ fun x44 σ1 =>
  addK x38 (.int .i64 1) fun x45 =>
  s3 x1 x36 x37 x45 σ1) (
  c256_2 run fu x1 σ)

noncomputable def c256_3 (run : RunT) (fu : Nat) : Nat → W4
  | 0 => fun _ _ _ _ _ => .fail
  | m + 1 => c256_3b run fu (c256_3 run fu m)

theorem eq256_3 (run : RunT) (fu : Nat) (s3 : W4) (x1 x36 x37 x38 : AV) (σ : Store) : codeK X0 run (.seq .leaf (.seq (.cond .leaf .leaf) (.seq (.block (.seq .leaf .leaf)) .leaf))) (subC [true, true, true, false, true, false, false] b256) (frS 0 48 [(1, x1), (36, x36), (37, x37), (38, x38)]) σ (thenK (fun fr σ => s3 (G fr 1) (G fr 36) (G fr 37) (G fr 38) σ) (blockK 0 (thenK (fun fr σ => c256_2 run fu (G fr 1) σ) k256))) = c256_3b run fu s3 x1 x36 x37 x38 σ := by kernel_rfl

theorem owed256_3 {run : RunT} (hrun : RunOK X0 run) (fu : Nat) (s3 : W4) : Owes X0 run 48 (.seq .leaf (.seq (.cond .leaf .leaf) (.seq (.block (.seq .leaf .leaf)) .leaf))) (subC [true, true, true, false, true, false, false] b256) (thenK (fun fr σ => s3 (G fr 1) (G fr 36) (G fr 37) (G fr 38) σ) (blockK 0 (thenK (fun fr σ => c256_2 run fu (G fr 1) σ) k256))) :=
  ⟨trivial, ⟨⟨trivial, trivial⟩, ⟨⟨trivial, trivial⟩, trivial⟩⟩⟩

theorem ok256_3 {run : RunT} (hrun : RunOK X0 run) (fu : Nat) : ∀ fr σ, KOK X0 48 (subC [true, true, true, false, true, false] b256) fr σ ((fun fr σ => c256_3 run fu fu (G fr 1) (G fr 36) (G fr 37) (G fr 38) σ) fr σ) (blockK 0 (thenK (fun fr σ => c256_2 run fu (G fr 1) σ) k256)) := by
  have h := KOK.loop (X := X0) (N := 48) (b := (subC [true, true, true, false, true, false, false] b256)) (k := (blockK 0 (thenK (fun fr σ => c256_2 run fu (G fr 1) σ) k256))) (u := fun m fr σ => c256_3 run fu m (G fr 1) (G fr 36) (G fr 37) (G fr 38) σ) (fun _ _ => rfl) (fun m fr σ => KOK.piece env0 hrun [1, 36, 37, 38] (eq256_3 run fu (c256_3 run fu m) (G fr 1) (G fr 36) (G fr 37) (G fr 38) σ) (owed256_3 hrun fu (c256_3 run fu m)))
  exact fun fr σ => h fu fr σ

noncomputable def c256_1 (run : RunT) (fu : Nat) (x0 x1 : AV) (σ : Store) : Tr R :=
  calK run 240 [x1, (.str [62])] σ fun x32 σ1 =>
  nchkK x0 fun x34 =>
  addrK x34 0 fun x35 =>
  ld1K σ1 x35 fun x36 =>
  lenLK x36 fun x37 =>
  c256_3 run fu fu x1 x36 x37 (.int .i64 0) σ1

theorem eq256_1 (run : RunT) (fu : Nat) (x0 x1 : AV) (σ : Store) : codeK X0 run (.seq .leaf (.seq (.seq .leaf (.block (.sub (fun fr σ => c256_3 run fu fu (G fr 1) (G fr 36) (G fr 37) (G fr 38) σ)))) (.sub (fun fr σ => c256_2 run fu (G fr 1) σ)))) (subC [true, true] b256) (frS 0 48 [(0, x0), (1, x1)]) σ k256 = c256_1 run fu x0 x1 σ := by kernel_rfl

theorem ok256_1 {run : RunT} (hrun : RunOK X0 run) (fu : Nat) : ∀ fr σ, KOK X0 48 (subC [true, true] b256) fr σ ((fun fr σ => c256_1 run fu (G fr 0) (G fr 1) σ) fr σ) k256 := fun fr σ =>
  KOK.piece env0 hrun [0, 1] (eq256_1 run fu (G fr 0) (G fr 1) σ) ⟨trivial, ⟨⟨trivial, (ok256_3 hrun fu)⟩, (ok256_2 hrun fu)⟩⟩

noncomputable def c256 (run : RunT) (fu : Nat) (x0 x1 : AV) (σ : Store) : Tr R :=
  calK run 259 [] σ fun x7 σ1 =>
  nchkK x0 fun x9 =>
  addrK x9 1 fun x10 =>
  ld1K σ1 x10 fun x11 =>
  calK run 260 [x7, x11] σ1 fun x12 σ2 =>
  catK (.str [60, 97, 32, 104, 114, 101, 102, 61, 34]) x12 fun x13 =>
  catK x13 (.str [34]) fun x14 =>
  calK run 240 [x1, x14] σ2 fun x15 σ3 =>
  ld1K σ x10 fun v4 =>
  must (AV.beq v4 x11) (
  nchkK x0 fun x17 =>
  addrK x17 2 fun x18 =>
  ld1K σ3 x18 fun x19 =>
  neSK x19 (.str []) fun x20 =>
  ifK x20 (
  calK run 261 [] σ3 fun x22 σ5 =>
  nchkK x0 fun x24 =>
  addrK x24 2 fun x25 =>
  ld1K σ5 x25 fun x26 =>
  calK run 260 [x22, x26] σ5 fun x27 σ6 =>
  catK (.str [32, 116, 105, 116, 108, 101, 61, 34]) x27 fun x28 =>
  catK x28 (.str [34]) fun x29 =>
  calK run 240 [x1, x29] σ6 fun x30 σ7 =>
  ld1K σ3 x25 fun v8 =>
  must (AV.beq v8 x26) (
  c256_1 run fu x0 x1 σ7)) (
  c256_1 run fu x0 x1 σ3))

theorem eq256 (run : RunT) (fu : Nat) (x0 x1 : AV) (σ : Store) : codeK X0 run (.seq .leaf (.seq (.seq .leaf (.cond .leaf .leaf)) (.sub (fun fr σ => c256_1 run fu (G fr 0) (G fr 1) σ)))) (subC [] b256) ([x0, x1] ++ padA (48 - 2)) σ k256 = c256 run fu x0 x1 σ := by kernel_rfl

theorem ok256 {run : RunT} (hrun : RunOK X0 run) (fu : Nat) (x0 x1 : AV) (σ : Store) : CallOK X0 256 [x0, x1] σ (c256 run fu x0 x1 σ) :=
  KOK.body (fn := Tryz.f256) (c := subC [] b256) (by kernel_rfl) (by kernel_rfl) (by show 2 ≤ 48; decide) (KOK.whole env0 hrun (eq256 run fu x0 x1 σ) ⟨trivial, ⟨⟨trivial, ⟨trivial, trivial⟩⟩, (ok256_1 hrun fu)⟩⟩)

-- pub-paratext/pub/rscmarkdown.htmlLinkEscaper

noncomputable def b259 : Code := match Tryz.f259.body with | some c => c | none => .skip

noncomputable def k259 : Kont R := retK Tryz.prog [.tmp 0]

noncomputable def c259 (run : RunT) (fu : Nat) (σ : Store) : Tr R :=
  opt (fillK [(.str []), (.str []), (.str []), (.str []), (.str []), (.str []), (.str []), (.str []), (.str []), (.str []), (.str []), (.str []), (.str []), (.str []), (.str []), (.str []), (.str []), (.str []), (.str []), (.str []), (.str []), (.str []), (.str []), (.str []), (.str []), (.str []), (.str []), (.str []), (.str []), (.str []), (.str []), (.str []), (.str []), (.str []), (.str []), (.str []), (.str []), (.str []), (.str []), (.str []), (.str []), (.str []), (.str []), (.str []), (.str []), (.str []), (.str []), (.str []), (.str []), (.str []), (.str []), (.str []), (.str []), (.str []), (.str []), (.str []), (.str []), (.str []), (.str []), (.str []), (.str []), (.str []), (.str []), (.str []), (.str []), (.str []), (.str []), (.str []), (.str []), (.str []), (.str []), (.str []), (.str []), (.str []), (.str []), (.str []), (.str []), (.str []), (.str []), (.str []), (.str []), (.str []), (.str []), (.str []), (.str []), (.str []), (.str []), (.str []), (.str []), (.str []), (.str []), (.str []), (.str []), (.str []), (.str []), (.str []), (.str []), (.str []), (.str []), (.str []), (.str []), (.str []), (.str []), (.str []), (.str []), (.str []), (.str []), (.str []), (.str []), (.str []), (.str []), (.str []), (.str []), (.str []), (.str []), (.str []), (.str []), (.str []), (.str []), (.str []), (.str []), (.str []), (.str []), (.str []), (.str []), (.str []), (.str []), (.str []), (.str []), (.str []), (.str []), (.str []), (.str []), (.str []), (.str []), (.str []), (.str []), (.str []), (.str []), (.str []), (.str []), (.str []), (.str []), (.str []), (.str []), (.str []), (.str []), (.str []), (.str []), (.str []), (.str []), (.str []), (.str []), (.str []), (.str []), (.str []), (.str []), (.str []), (.str []), (.str []), (.str []), (.str []), (.str []), (.str []), (.str []), (.str []), (.str []), (.str []), (.str []), (.str []), (.str []), (.str []), (.str []), (.str []), (.str []), (.str []), (.str []), (.str []), (.str []), (.str []), (.str []), (.str []), (.str []), (.str []), (.str []), (.str []), (.str []), (.str []), (.str []), (.str []), (.str []), (.str []), (.str []), (.str []), (.str []), (.str []), (.str []), (.str []), (.str []), (.str []), (.str []), (.str []), (.str []), (.str []), (.str []), (.str []), (.str []), (.str []), (.str []), (.str []), (.str []), (.str []), (.str []), (.str []), (.str []), (.str []), (.str []), (.str []), (.str []), (.str []), (.str []), (.str []), (.str []), (.str []), (.str []), (.str []), (.str []), (.str []), (.str []), (.str []), (.str []), (.str []), (.str []), (.str []), (.str []), (.str []), (.str []), (.str []), (.str []), (.str []), (.str []), (.str []), (.str []), (.str []), (.str []), (.str []), (.str []), (.str []), (.str []), (.str []), (.str []), (.str []), (.str []), (.str []), (.str []), (.str []), (.str []), (.str []), (.str []), (.str []), (.str []), (.str []), (.str []), (.str []), (.str []), (.str []), (.str []), (.str []), (.str []), (.str []), (.str []), (.str []), (.str []), (.str []), (.str []), (.str []), (.str []), (.str []), (.str []), (.str []), (.str []), (.str []), (.str []), (.str []), (.str []), (.str []), (.str []), (.str []), (.str []), (.str []), (.str []), (.str []), (.str []), (.str []), (.str []), (.str []), (.str []), (.str []), (.str []), (.str []), (.str []), (.str []), (.str []), (.str []), (.str []), (.str []), (.str []), (.str []), (.str []), (.str []), (.str []), (.str []), (.str []), (.str []), (.str []), (.str []), (.str []), (.str []), (.str []), (.str []), (.str []), (.str []), (.str []), (.str []), (.str []), (.str []), (.str []), (.str []), (.str []), (.str []), (.str []), (.str []), (.str []), (.str []), (.str []), (.str []), (.str []), (.str []), (.str []), (.str [])] [(0, 1, (.str [34])), (1, 1, (.str [37, 50, 50])), (2, 1, (.str [38])), (3, 1, (.str [38, 97, 109, 112, 59])), (4, 1, (.str [60])), (5, 1, (.str [37, 51, 67])), (6, 1, (.str [62])), (7, 1, (.str [37, 51, 69])), (8, 1, (.str [92])), (9, 1, (.str [37, 53, 67])), (10, 1, (.str [32])), (11, 1, (.str [37, 50, 48])), (12, 1, (.str [96])), (13, 1, (.str [37, 54, 48])), (14, 1, (.str [91])), (15, 1, (.str [37, 53, 66])), (16, 1, (.str [93])), (17, 1, (.str [37, 53, 68])), (18, 1, (.str [94])), (19, 1, (.str [37, 53, 69])), (20, 1, (.str [123])), (21, 1, (.str [37, 55, 66])), (22, 1, (.str [125])), (23, 1, (.str [37, 55, 68])), (24, 1, (.str [0])), (25, 1, (.str [37, 48, 48])), (26, 1, (.str [1])), (27, 1, (.str [37, 48, 49])), (28, 1, (.str [2])), (29, 1, (.str [37, 48, 50])), (30, 1, (.str [3])), (31, 1, (.str [37, 48, 51])), (32, 1, (.str [4])), (33, 1, (.str [37, 48, 52])), (34, 1, (.str [5])), (35, 1, (.str [37, 48, 53])), (36, 1, (.str [6])), (37, 1, (.str [37, 48, 54])), (38, 1, (.str [7])), (39, 1, (.str [37, 48, 55])), (40, 1, (.str [8])), (41, 1, (.str [37, 48, 56])), (42, 1, (.str [11])), (43, 1, (.str [37, 48, 66])), (44, 1, (.str [12])), (45, 1, (.str [37, 48, 67])), (46, 1, (.str [14])), (47, 1, (.str [37, 48, 69])), (48, 1, (.str [15])), (49, 1, (.str [37, 48, 70])), (50, 1, (.str [16])), (51, 1, (.str [37, 49, 48])), (52, 1, (.str [17])), (53, 1, (.str [37, 49, 49])), (54, 1, (.str [18])), (55, 1, (.str [37, 49, 50])), (56, 1, (.str [19])), (57, 1, (.str [37, 49, 51])), (58, 1, (.str [20])), (59, 1, (.str [37, 49, 52])), (60, 1, (.str [21])), (61, 1, (.str [37, 49, 53])), (62, 1, (.str [22])), (63, 1, (.str [37, 49, 54])), (64, 1, (.str [23])), (65, 1, (.str [37, 49, 55])), (66, 1, (.str [24])), (67, 1, (.str [37, 49, 56])), (68, 1, (.str [25])), (69, 1, (.str [37, 49, 57])), (70, 1, (.str [26])), (71, 1, (.str [37, 49, 65])), (72, 1, (.str [27])), (73, 1, (.str [37, 49, 66])), (74, 1, (.str [28])), (75, 1, (.str [37, 49, 67])), (76, 1, (.str [29])), (77, 1, (.str [37, 49, 68])), (78, 1, (.str [30])), (79, 1, (.str [37, 49, 69])), (80, 1, (.str [31])), (81, 1, (.str [37, 49, 70])), (82, 1, (.str [127])), (83, 1, (.str [37, 55, 70])), (84, 1, (.str [128])), (85, 1, (.str [37, 56, 48])), (86, 1, (.str [129])), (87, 1, (.str [37, 56, 49])), (88, 1, (.str [130])), (89, 1, (.str [37, 56, 50])), (90, 1, (.str [131])), (91, 1, (.str [37, 56, 51])), (92, 1, (.str [132])), (93, 1, (.str [37, 56, 52])), (94, 1, (.str [133])), (95, 1, (.str [37, 56, 53])), (96, 1, (.str [134])), (97, 1, (.str [37, 56, 54])), (98, 1, (.str [135])), (99, 1, (.str [37, 56, 55])), (100, 1, (.str [136])), (101, 1, (.str [37, 56, 56])), (102, 1, (.str [137])), (103, 1, (.str [37, 56, 57])), (104, 1, (.str [138])), (105, 1, (.str [37, 56, 65])), (106, 1, (.str [139])), (107, 1, (.str [37, 56, 66])), (108, 1, (.str [140])), (109, 1, (.str [37, 56, 67])), (110, 1, (.str [141])), (111, 1, (.str [37, 56, 68])), (112, 1, (.str [142])), (113, 1, (.str [37, 56, 69])), (114, 1, (.str [143])), (115, 1, (.str [37, 56, 70])), (116, 1, (.str [144])), (117, 1, (.str [37, 57, 48])), (118, 1, (.str [145])), (119, 1, (.str [37, 57, 49])), (120, 1, (.str [146])), (121, 1, (.str [37, 57, 50])), (122, 1, (.str [147])), (123, 1, (.str [37, 57, 51])), (124, 1, (.str [148])), (125, 1, (.str [37, 57, 52])), (126, 1, (.str [149])), (127, 1, (.str [37, 57, 53])), (128, 1, (.str [150])), (129, 1, (.str [37, 57, 54])), (130, 1, (.str [151])), (131, 1, (.str [37, 57, 55])), (132, 1, (.str [152])), (133, 1, (.str [37, 57, 56])), (134, 1, (.str [153])), (135, 1, (.str [37, 57, 57])), (136, 1, (.str [154])), (137, 1, (.str [37, 57, 65])), (138, 1, (.str [155])), (139, 1, (.str [37, 57, 66])), (140, 1, (.str [156])), (141, 1, (.str [37, 57, 67])), (142, 1, (.str [157])), (143, 1, (.str [37, 57, 68])), (144, 1, (.str [158])), (145, 1, (.str [37, 57, 69])), (146, 1, (.str [159])), (147, 1, (.str [37, 57, 70])), (148, 1, (.str [160])), (149, 1, (.str [37, 65, 48])), (150, 1, (.str [161])), (151, 1, (.str [37, 65, 49])), (152, 1, (.str [162])), (153, 1, (.str [37, 65, 50])), (154, 1, (.str [163])), (155, 1, (.str [37, 65, 51])), (156, 1, (.str [164])), (157, 1, (.str [37, 65, 52])), (158, 1, (.str [165])), (159, 1, (.str [37, 65, 53])), (160, 1, (.str [166])), (161, 1, (.str [37, 65, 54])), (162, 1, (.str [167])), (163, 1, (.str [37, 65, 55])), (164, 1, (.str [168])), (165, 1, (.str [37, 65, 56])), (166, 1, (.str [169])), (167, 1, (.str [37, 65, 57])), (168, 1, (.str [170])), (169, 1, (.str [37, 65, 65])), (170, 1, (.str [171])), (171, 1, (.str [37, 65, 66])), (172, 1, (.str [172])), (173, 1, (.str [37, 65, 67])), (174, 1, (.str [173])), (175, 1, (.str [37, 65, 68])), (176, 1, (.str [174])), (177, 1, (.str [37, 65, 69])), (178, 1, (.str [175])), (179, 1, (.str [37, 65, 70])), (180, 1, (.str [176])), (181, 1, (.str [37, 66, 48])), (182, 1, (.str [177])), (183, 1, (.str [37, 66, 49])), (184, 1, (.str [178])), (185, 1, (.str [37, 66, 50])), (186, 1, (.str [179])), (187, 1, (.str [37, 66, 51])), (188, 1, (.str [180])), (189, 1, (.str [37, 66, 52])), (190, 1, (.str [181])), (191, 1, (.str [37, 66, 53])), (192, 1, (.str [182])), (193, 1, (.str [37, 66, 54])), (194, 1, (.str [183])), (195, 1, (.str [37, 66, 55])), (196, 1, (.str [184])), (197, 1, (.str [37, 66, 56])), (198, 1, (.str [185])), (199, 1, (.str [37, 66, 57])), (200, 1, (.str [186])), (201, 1, (.str [37, 66, 65])), (202, 1, (.str [187])), (203, 1, (.str [37, 66, 66])), (204, 1, (.str [188])), (205, 1, (.str [37, 66, 67])), (206, 1, (.str [189])), (207, 1, (.str [37, 66, 68])), (208, 1, (.str [190])), (209, 1, (.str [37, 66, 69])), (210, 1, (.str [191])), (211, 1, (.str [37, 66, 70])), (212, 1, (.str [192])), (213, 1, (.str [37, 67, 48])), (214, 1, (.str [193])), (215, 1, (.str [37, 67, 49])), (216, 1, (.str [194])), (217, 1, (.str [37, 67, 50])), (218, 1, (.str [195])), (219, 1, (.str [37, 67, 51])), (220, 1, (.str [196])), (221, 1, (.str [37, 67, 52])), (222, 1, (.str [197])), (223, 1, (.str [37, 67, 53])), (224, 1, (.str [198])), (225, 1, (.str [37, 67, 54])), (226, 1, (.str [199])), (227, 1, (.str [37, 67, 55])), (228, 1, (.str [200])), (229, 1, (.str [37, 67, 56])), (230, 1, (.str [201])), (231, 1, (.str [37, 67, 57])), (232, 1, (.str [202])), (233, 1, (.str [37, 67, 65])), (234, 1, (.str [203])), (235, 1, (.str [37, 67, 66])), (236, 1, (.str [204])), (237, 1, (.str [37, 67, 67])), (238, 1, (.str [205])), (239, 1, (.str [37, 67, 68])), (240, 1, (.str [206])), (241, 1, (.str [37, 67, 69])), (242, 1, (.str [207])), (243, 1, (.str [37, 67, 70])), (244, 1, (.str [208])), (245, 1, (.str [37, 68, 48])), (246, 1, (.str [209])), (247, 1, (.str [37, 68, 49])), (248, 1, (.str [210])), (249, 1, (.str [37, 68, 50])), (250, 1, (.str [211])), (251, 1, (.str [37, 68, 51])), (252, 1, (.str [212])), (253, 1, (.str [37, 68, 52])), (254, 1, (.str [213])), (255, 1, (.str [37, 68, 53])), (256, 1, (.str [214])), (257, 1, (.str [37, 68, 54])), (258, 1, (.str [215])), (259, 1, (.str [37, 68, 55])), (260, 1, (.str [216])), (261, 1, (.str [37, 68, 56])), (262, 1, (.str [217])), (263, 1, (.str [37, 68, 57])), (264, 1, (.str [218])), (265, 1, (.str [37, 68, 65])), (266, 1, (.str [219])), (267, 1, (.str [37, 68, 66])), (268, 1, (.str [220])), (269, 1, (.str [37, 68, 67])), (270, 1, (.str [221])), (271, 1, (.str [37, 68, 68])), (272, 1, (.str [222])), (273, 1, (.str [37, 68, 69])), (274, 1, (.str [223])), (275, 1, (.str [37, 68, 70])), (276, 1, (.str [224])), (277, 1, (.str [37, 69, 48])), (278, 1, (.str [225])), (279, 1, (.str [37, 69, 49])), (280, 1, (.str [226])), (281, 1, (.str [37, 69, 50])), (282, 1, (.str [227])), (283, 1, (.str [37, 69, 51])), (284, 1, (.str [228])), (285, 1, (.str [37, 69, 52])), (286, 1, (.str [229])), (287, 1, (.str [37, 69, 53])), (288, 1, (.str [230])), (289, 1, (.str [37, 69, 54])), (290, 1, (.str [231])), (291, 1, (.str [37, 69, 55])), (292, 1, (.str [232])), (293, 1, (.str [37, 69, 56])), (294, 1, (.str [233])), (295, 1, (.str [37, 69, 57])), (296, 1, (.str [234])), (297, 1, (.str [37, 69, 65])), (298, 1, (.str [235])), (299, 1, (.str [37, 69, 66])), (300, 1, (.str [236])), (301, 1, (.str [37, 69, 67])), (302, 1, (.str [237])), (303, 1, (.str [37, 69, 68])), (304, 1, (.str [238])), (305, 1, (.str [37, 69, 69])), (306, 1, (.str [239])), (307, 1, (.str [37, 69, 70])), (308, 1, (.str [240])), (309, 1, (.str [37, 70, 48])), (310, 1, (.str [241])), (311, 1, (.str [37, 70, 49])), (312, 1, (.str [242])), (313, 1, (.str [37, 70, 50])), (314, 1, (.str [243])), (315, 1, (.str [37, 70, 51])), (316, 1, (.str [244])), (317, 1, (.str [37, 70, 52])), (318, 1, (.str [245])), (319, 1, (.str [37, 70, 53])), (320, 1, (.str [246])), (321, 1, (.str [37, 70, 54])), (322, 1, (.str [247])), (323, 1, (.str [37, 70, 55])), (324, 1, (.str [248])), (325, 1, (.str [37, 70, 56])), (326, 1, (.str [249])), (327, 1, (.str [37, 70, 57])), (328, 1, (.str [250])), (329, 1, (.str [37, 70, 65])), (330, 1, (.str [251])), (331, 1, (.str [37, 70, 66])), (332, 1, (.str [252])), (333, 1, (.str [37, 70, 67])), (334, 1, (.str [253])), (335, 1, (.str [37, 70, 68])), (336, 1, (.str [254])), (337, 1, (.str [37, 70, 69])), (338, 1, (.str [255])), (339, 1, (.str [37, 70, 70]))]) fun cs => newSK σ 19 cs 340 1 fun x1 σ1 =>
  .ret (x1, σ1)

theorem eq259 (run : RunT) (fu : Nat) (σ : Store) : codeK X0 run (.seq .leaf (.seq .leaf .leaf)) (subC [] b259) ([] ++ padA (2 - 0)) σ k259 = c259 run fu σ := by kernel_rfl

theorem ok259 {run : RunT} (hrun : RunOK X0 run) (fu : Nat) (σ : Store) : CallOK X0 259 [] σ (c259 run fu σ) :=
  KOK.body (fn := Tryz.f259) (c := subC [] b259) (by kernel_rfl) (by kernel_rfl) (by show 0 ≤ 2; decide) (KOK.whole env0 hrun (eq259 run fu σ) ⟨trivial, ⟨trivial, trivial⟩⟩)

-- (pub-paratext/pub/rscmarkdown.zzPairs).Replace

noncomputable def b260 : Code := match Tryz.f260.body with | some c => c | none => .skip

noncomputable def k260 : Kont R := retK Tryz.prog [.tmp 4]

noncomputable def c260 (run : RunT) (fu : Nat) (x0 x1 : AV) (σ : Store) : Tr R :=
  newK σ 135 [.nils, (.int .i64 0), (.int .i8 0)] fun x5 σ1 =>
  calK run 253 [x0, x5, x1] σ1 fun x8 σ2 =>
  calK run 37 [x5] σ2 fun x9 σ3 =>
  .ret (x9, σ3)

theorem eq260 (run : RunT) (fu : Nat) (x0 x1 : AV) (σ : Store) : codeK X0 run (.seq .leaf (.seq .leaf (.seq .leaf (.seq .leaf .leaf)))) (subC [] b260) ([x0, x1] ++ padA (10 - 2)) σ k260 = c260 run fu x0 x1 σ := by kernel_rfl

theorem ok260 {run : RunT} (hrun : RunOK X0 run) (fu : Nat) (x0 x1 : AV) (σ : Store) : CallOK X0 260 [x0, x1] σ (c260 run fu x0 x1 σ) :=
  KOK.body (fn := Tryz.f260) (c := subC [] b260) (by kernel_rfl) (by kernel_rfl) (by show 2 ≤ 10; decide) (KOK.whole env0 hrun (eq260 run fu x0 x1 σ) ⟨trivial, ⟨trivial, ⟨trivial, ⟨trivial, trivial⟩⟩⟩⟩)

-- (*pub-paratext/pub/rscmarkdown.Paragraph).PrintHTML

noncomputable def b269 : Code := match Tryz.f269.body with | some c => c | none => .skip

noncomputable def k269 : Kont R := retK Tryz.prog []

noncomputable def c269 (run : RunT) (fu : Nat) (x0 x1 : AV) (σ : Store) : Tr R :=
  calK run 240 [x1, (.str [60, 112, 62])] σ fun x5 σ1 =>
  nchkK x0 fun x7 =>
  addrK x7 2 fun x8 =>
  ld1K σ1 x8 fun x9 =>
  calK run 236 [x9, x1] σ1 fun x11 σ2 =>
  calK run 240 [x1, (.str [60, 47, 112, 62, 10])] σ2 fun x13 σ3 =>
  .ret (.tup [], σ3)

theorem eq269 (run : RunT) (fu : Nat) (x0 x1 : AV) (σ : Store) : codeK X0 run (.seq .leaf (.seq .leaf .leaf)) (subC [] b269) ([x0, x1] ++ padA (14 - 2)) σ k269 = c269 run fu x0 x1 σ := by kernel_rfl

theorem ok269 {run : RunT} (hrun : RunOK X0 run) (fu : Nat) (x0 x1 : AV) (σ : Store) : CallOK X0 269 [x0, x1] σ (c269 run fu x0 x1 σ) :=
  KOK.body (fn := Tryz.f269) (c := subC [] b269) (by kernel_rfl) (by kernel_rfl) (by show 2 ≤ 14; decide) (KOK.whole env0 hrun (eq269 run fu x0 x1 σ) ⟨trivial, ⟨trivial, trivial⟩⟩)

-- (*pub-paratext/pub/rscmarkdown.paraBuilder).build

noncomputable def b275 : Code := match Tryz.f275.body with | some c => c | none => .skip

noncomputable def k275 : Kont R := retK Tryz.prog [.tmp 4]

noncomputable def c275_1 (run : RunT) (fu : Nat) (x0 x1 x5 : AV) (σ : Store) : Tr R :=
  eqSK x5 (.str []) fun x41 =>
  ifK x41 (
  invK X0 run x1 "pub-paratext/pub/rscmarkdown.pos" [] σ fun x43 σ1 =>
  bldK [(.int .i64 0), (.int .i64 0)] [(0, 2, x43)] fun x44 =>
  boxK σ1 701 x44 fun x45 σ2 =>
  .ret ((.iface 348 x45), σ2)) (
  invK X0 run x1 "pub-paratext/pub/rscmarkdown.pos" [] σ fun x48 σ3 =>
  newK σ3 209 [(.int .i64 0), (.int .i64 0)] fun x8 σ4 =>
  stNK σ4 x8 2 x48 fun _ σ5 =>
  addrK x8 0 fun x49 =>
  ld1K σ5 x49 fun x50 =>
  nchkK x0 fun x52 =>
  addrK x52 0 fun x53 =>
  ld1K σ5 x53 fun x54 =>
  lenLK x54 fun x55 =>
  addK x50 x55 fun x56 =>
  subK x56 (.int .i64 1) fun x57 =>
  addrK x8 1 fun x58 =>
  st1K σ5 x58 x57 fun _ σ6 =>
  ldNK σ6 x8 2 fun x59 =>
  ldNK σ6 x8 2 fun x61 =>
  invK X0 run x1 "pub-paratext/pub/rscmarkdown.newText" [x61, x5] σ6 fun x63 σ7 =>
  bldK [(.int .i64 0), (.int .i64 0), .nilp] [(0, 2, x59), (2, 1, x63)] fun x64 =>
  boxK σ7 299 x64 fun x65 σ8 =>
  ldNK σ7 x8 2 fun v9 =>
  must (AV.beq v9 x59) (
  .ret ((.iface 147 x65), σ8)))

theorem eq275_1 (run : RunT) (fu : Nat) (x0 x1 x5 : AV) (σ : Store) : codeK X0 run (.seq (.seq .leaf (.cond (.seq .leaf .leaf) .leaf)) (.seq .leaf (.seq .leaf (.seq .leaf .leaf)))) (subC [true, true, true, true] b275) (frS 0 67 [(0, x0), (1, x1), (5, x5)]) σ k275 = c275_1 run fu x0 x1 x5 σ := by kernel_rfl

theorem ok275_1 {run : RunT} (hrun : RunOK X0 run) (fu : Nat) : ∀ fr σ, KOK X0 67 (subC [true, true, true, true] b275) fr σ ((fun fr σ => c275_1 run fu (G fr 0) (G fr 1) (G fr 5) σ) fr σ) k275 := fun fr σ =>
  KOK.piece env0 hrun [0, 1, 5] (eq275_1 run fu (G fr 0) (G fr 1) (G fr 5) σ) ⟨⟨trivial, ⟨⟨trivial, trivial⟩, trivial⟩⟩, ⟨trivial, ⟨trivial, ⟨trivial, trivial⟩⟩⟩⟩

noncomputable def c275_2b (run : RunT) (fu : Nat) (s2 : W3) (x0 x1 x5 : AV) (σ : Store) : Tr R :=
  neSK x5 (.str []) fun x26 =>
  ifK x26 (
  calK run 278 [x1, x5] σ fun x30 σ1 =>
  extK x30 0 fun x31 =>
  extK x30 1 fun x32 =>
  notK x32 fun x34 =>
  ifK x34 (
  c275_1 run fu x0 x1 x5 σ1) (
  calK run 110 [x5, x31] σ1 fun x38 σ2 =>
  sliceSK x5 (some x38) none fun x39 =>
  s2 x0 x1 x39 σ2)) (
  c275_1 run fu x0 x1 x5 σ)

noncomputable def c275_2 (run : RunT) (fu : Nat) : Nat → W3
  | 0 => fun _ _ _ _ => .fail
  | m + 1 => c275_2b run fu (c275_2 run fu m)

theorem eq275_2 (run : RunT) (fu : Nat) (s2 : W3) (x0 x1 x5 : AV) (σ : Store) : codeK X0 run (.seq (.seq .leaf (.cond .leaf .leaf)) (.block (.seq .leaf (.seq (.seq .leaf (.cond .leaf .leaf)) .leaf)))) (subC [true, true, true, false, false, false] b275) (frS 0 67 [(0, x0), (1, x1), (5, x5)]) σ (thenK (fun fr σ => s2 (G fr 0) (G fr 1) (G fr 5) σ) (blockK 0 (thenK (fun fr σ => c275_1 run fu (G fr 0) (G fr 1) (G fr 5) σ) k275))) = c275_2b run fu s2 x0 x1 x5 σ := by kernel_rfl

theorem owed275_2 {run : RunT} (hrun : RunOK X0 run) (fu : Nat) (s2 : W3) : Owes X0 run 67 (.seq (.seq .leaf (.cond .leaf .leaf)) (.block (.seq .leaf (.seq (.seq .leaf (.cond .leaf .leaf)) .leaf)))) (subC [true, true, true, false, false, false] b275) (thenK (fun fr σ => s2 (G fr 0) (G fr 1) (G fr 5) σ) (blockK 0 (thenK (fun fr σ => c275_1 run fu (G fr 0) (G fr 1) (G fr 5) σ) k275))) :=
  ⟨⟨trivial, ⟨trivial, trivial⟩⟩, ⟨trivial, ⟨⟨trivial, ⟨trivial, trivial⟩⟩, trivial⟩⟩⟩

theorem ok275_2 {run : RunT} (hrun : RunOK X0 run) (fu : Nat) : ∀ fr σ, KOK X0 67 (subC [true, true, true, false, false] b275) fr σ ((fun fr σ => c275_2 run fu fu (G fr 0) (G fr 1) (G fr 5) σ) fr σ) (blockK 0 (thenK (fun fr σ => c275_1 run fu (G fr 0) (G fr 1) (G fr 5) σ) k275)) := by
  have h := KOK.loop (X := X0) (N := 67) (b := (subC [true, true, true, false, false, false] b275)) (k := (blockK 0 (thenK (fun fr σ => c275_1 run fu (G fr 0) (G fr 1) (G fr 5) σ) k275))) (u := fun m fr σ => c275_2 run fu m (G fr 0) (G fr 1) (G fr 5) σ) (fun _ _ => rfl) (fun m fr σ => KOK.piece env0 hrun [0, 1, 5] (eq275_2 run fu (c275_2 run fu m) (G fr 0) (G fr 1) (G fr 5) σ) (owed275_2 hrun fu (c275_2 run fu m)))
  exact fun fr σ => h fu fr σ

noncomputable def c275 (run : RunT) (fu : Nat) (x0 x1 : AV) (σ : Store) : Tr R :=
  nchkK x0 fun x10 =>
  addrK x10 1 fun x11 =>
  ld1K σ x11 fun x12 =>
  neOK (nilEq nilP) x12 .nilp fun x13 =>
  ifK x13 (
  nchkK x0 fun x15 =>
  addrK x15 1 fun x16 =>
  ld1K σ x16 fun x17 =>
  calK run 277 [x17, x1] σ fun x19 σ1 =>
  .ret (x19, σ1)) (
  nchkK x0 fun x21 =>
  addrK x21 0 fun x22 =>
  ld1K σ x22 fun x23 =>
  calK run 164 [x23, (.str [10])] σ fun x24 σ2 =>
  c275_2 run fu fu x0 x1 x24 σ2)

theorem eq275 (run : RunT) (fu : Nat) (x0 x1 : AV) (σ : Store) : codeK X0 run (.seq .leaf (.seq (.seq .leaf (.cond (.seq .leaf .leaf) .leaf)) (.seq .leaf (.seq (.block (.sub (fun fr σ => c275_2 run fu fu (G fr 0) (G fr 1) (G fr 5) σ))) (.sub (fun fr σ => c275_1 run fu (G fr 0) (G fr 1) (G fr 5) σ)))))) (subC [] b275) ([x0, x1] ++ padA (67 - 2)) σ k275 = c275 run fu x0 x1 σ := by kernel_rfl

theorem ok275 {run : RunT} (hrun : RunOK X0 run) (fu : Nat) (x0 x1 : AV) (σ : Store) : CallOK X0 275 [x0, x1] σ (c275 run fu x0 x1 σ) :=
  KOK.body (fn := Tryz.f275) (c := subC [] b275) (by kernel_rfl) (by kernel_rfl) (by show 2 ≤ 67; decide) (KOK.whole env0 hrun (eq275 run fu x0 x1 σ) ⟨trivial, ⟨⟨trivial, ⟨⟨trivial, trivial⟩, trivial⟩⟩, ⟨trivial, ⟨(ok275_2 hrun fu), (ok275_1 hrun fu)⟩⟩⟩⟩)

-- pub-paratext/pub/rscmarkdown.parseLinkRefDef

noncomputable def b278 : Code := match Tryz.f278.body with | some c => c | none => .skip

noncomputable def k278 : Kont R := retK Tryz.prog [.tmp 4, .tmp 5]

noncomputable def c278_6 (run : RunT) (fu : Nat) (x6 : AV) (σ : Store) : Tr R :=
  .ret (.tup [x6, (.bool true)], σ)

theorem eq278_6 (run : RunT) (fu : Nat) (x6 : AV) (σ : Store) : codeK X0 run (.seq .leaf .leaf) (subC [true, true, true, true, true, true, true, true, true, true, true, true, true, true, true, true, true, true, true, true] b278) (frS 0 200 [(6, x6)]) σ k278 = c278_6 run fu x6 σ := by kernel_rfl

theorem ok278_6 {run : RunT} (hrun : RunOK X0 run) (fu : Nat) : ∀ fr σ, KOK X0 200 (subC [true, true, true, true, true, true, true, true, true, true, true, true, true, true, true, true, true, true, true, true] b278) fr σ ((fun fr σ => c278_6 run fu (G fr 6) σ) fr σ) k278 := fun fr σ =>
  KOK.piece env0 hrun [6] (eq278_6 run fu (G fr 6) σ) ⟨trivial, trivial⟩

noncomputable def c278_5 (run : RunT) (fu : Nat) (x0 x6 x7 x10 x13 x14 x15 : AV) (σ : Store) : Tr R :=
  calK run 114 [x7] σ fun x185 σ1 =>
  invK X0 run x0 "pub-paratext/pub/rscmarkdown.link" [x185] σ1 fun x188 σ2 =>
  eqOK (nilEq nilP) x188 .nilp fun x189 =>
  ifK x189 (
  bldK [.nils, (.str []), (.str []), (.int .u8 0), (.bool false)] [(1, 1, x10), (2, 1, x13), (3, 1, x14), (4, 1, x15)] fun x196 =>
  boxK σ2 277 x196 fun x197 σ3 =>
  invK X0 run x0 "pub-paratext/pub/rscmarkdown.defineLink" [x185, x197] σ3 fun x198 σ4 =>
  c278_6 run fu x6 σ4) (
  c278_6 run fu x6 σ2)

theorem eq278_5 (run : RunT) (fu : Nat) (x0 x6 x7 x10 x13 x14 x15 : AV) (σ : Store) : codeK X0 run (.seq .leaf (.seq (.seq .leaf (.cond .leaf .leaf)) (.sub (fun fr σ => c278_6 run fu (G fr 6) σ)))) (subC [true, true, true, true, true, true, true, true, true, true, true, true, true, true, true, true, true, true] b278) (frS 0 200 [(0, x0), (6, x6), (7, x7), (10, x10), (13, x13), (14, x14), (15, x15)]) σ k278 = c278_5 run fu x0 x6 x7 x10 x13 x14 x15 σ := by kernel_rfl

theorem ok278_5 {run : RunT} (hrun : RunOK X0 run) (fu : Nat) : ∀ fr σ, KOK X0 200 (subC [true, true, true, true, true, true, true, true, true, true, true, true, true, true, true, true, true, true] b278) fr σ ((fun fr σ => c278_5 run fu (G fr 0) (G fr 6) (G fr 7) (G fr 10) (G fr 13) (G fr 14) (G fr 15) σ) fr σ) k278 := fun fr σ =>
  KOK.piece env0 hrun [0, 6, 7, 10, 13, 14, 15] (eq278_5 run fu (G fr 0) (G fr 6) (G fr 7) (G fr 10) (G fr 13) (G fr 14) (G fr 15) σ) ⟨trivial, ⟨⟨trivial, ⟨trivial, trivial⟩⟩, (ok278_6 hrun fu)⟩⟩

noncomputable def c278_4 (run : RunT) (fu : Nat) (x0 x1 x6 x7 x10 x13 x14 x15 : AV) (σ : Store) : Tr R :=
  lenSK x1 fun x170 =>
  cmpK .lss x6 x170 fun x171 =>
  grdK x171 true σ (fun f => f x1 σ) fun x173 σ1 =>
  grdK x171 true σ1 (fun f => f x6 σ1) fun x174 σ2 =>
  grdK x171 true σ2 (fun f => idxSK x173 x174 fun v => f v σ2) fun x175 σ3 =>
  grdK x171 true σ3 (fun f => cmpK .neq x175 (.int .u8 10) fun v => f v σ3) fun x176 σ4 =>
  pickK x171 x176 (.bool false) fun x177 =>
  ifK x177 (
  .ret (.tup [(.int .i64 0), (.bool false)], σ4)) (
  lenSK x1 fun x180 =>
  cmpK .lss x6 x180 fun x181 =>
  ifK x181 (
  addK x6 (.int .i64 1) fun x183 =>
  c278_5 run fu x0 x183 x7 x10 x13 x14 x15 σ4) (
  c278_5 run fu x0 x6 x7 x10 x13 x14 x15 σ4))

theorem eq278_4 (run : RunT) (fu : Nat) (x0 x1 x6 x7 x10 x13 x14 x15 : AV) (σ : Store) : codeK X0 run (.seq (.seq .leaf (.cond (.seq .leaf .leaf) .leaf)) (.seq (.seq .leaf (.cond .leaf .leaf)) (.sub (fun fr σ => c278_5 run fu (G fr 0) (G fr 6) (G fr 7) (G fr 10) (G fr 13) (G fr 14) (G fr 15) σ)))) (subC [true, true, true, true, true, true, true, true, true, true, true, true, true, true, true, true] b278) (frS 0 200 [(0, x0), (1, x1), (6, x6), (7, x7), (10, x10), (13, x13), (14, x14), (15, x15)]) σ k278 = c278_4 run fu x0 x1 x6 x7 x10 x13 x14 x15 σ := by kernel_rfl

theorem ok278_4 {run : RunT} (hrun : RunOK X0 run) (fu : Nat) : ∀ fr σ, KOK X0 200 (subC [true, true, true, true, true, true, true, true, true, true, true, true, true, true, true, true] b278) fr σ ((fun fr σ => c278_4 run fu (G fr 0) (G fr 1) (G fr 6) (G fr 7) (G fr 10) (G fr 13) (G fr 14) (G fr 15) σ) fr σ) k278 := fun fr σ =>
  KOK.piece env0 hrun [0, 1, 6, 7, 10, 13, 14, 15] (eq278_4 run fu (G fr 0) (G fr 1) (G fr 6) (G fr 7) (G fr 10) (G fr 13) (G fr 14) (G fr 15) σ) ⟨⟨trivial, ⟨⟨trivial, trivial⟩, trivial⟩⟩, ⟨⟨trivial, ⟨trivial, trivial⟩⟩, (ok278_5 hrun fu)⟩⟩

noncomputable def c278_9 (run : RunT) (fu : Nat) (x0 x1 x6 x7 x10 x15 x16 x17 : AV) (σ : Store) : Tr R :=
  c278_4 run fu x0 x1 x6 x7 x10 x16 x17 x15 σ

theorem eq278_9 (run : RunT) (fu : Nat) (x0 x1 x6 x7 x10 x15 x16 x17 : AV) (σ : Store) : codeK X0 run (.seq .leaf .leaf) (subC [true, true, true, true, true, true, true, true, true, true, true, true, true, true, true, false, true, false, true, true, true, false, true, true, false, true, true] b278) (frS 0 200 [(0, x0), (1, x1), (6, x6), (7, x7), (10, x10), (15, x15), (16, x16), (17, x17)]) σ (thenK (fun fr σ => c278_4 run fu (G fr 0) (G fr 1) (G fr 6) (G fr 7) (G fr 10) (G fr 13) (G fr 14) (G fr 15) σ) k278) = c278_9 run fu x0 x1 x6 x7 x10 x15 x16 x17 σ := by kernel_rfl

theorem ok278_9 {run : RunT} (hrun : RunOK X0 run) (fu : Nat) : ∀ fr σ, KOK X0 200 (subC [true, true, true, true, true, true, true, true, true, true, true, true, true, true, true, false, true, false, true, true, true, false, true, true, false, true, true] b278) fr σ ((fun fr σ => c278_9 run fu (G fr 0) (G fr 1) (G fr 6) (G fr 7) (G fr 10) (G fr 15) (G fr 16) (G fr 17) σ) fr σ) (thenK (fun fr σ => c278_4 run fu (G fr 0) (G fr 1) (G fr 6) (G fr 7) (G fr 10) (G fr 13) (G fr 14) (G fr 15) σ) k278) := fun fr σ =>
  KOK.piece env0 hrun [0, 1, 6, 7, 10, 15, 16, 17] (eq278_9 run fu (G fr 0) (G fr 1) (G fr 6) (G fr 7) (G fr 10) (G fr 15) (G fr 16) (G fr 17) σ) ⟨trivial, trivial⟩

noncomputable def c278_8 (run : RunT) (fu : Nat) (x0 x1 x6 x7 x10 x13 x14 x15 x16 x17 x18 : AV) (σ : Store) : Tr R :=
  lenSK x1 fun x155 =>
  cmpK .geq x18 x155 fun x156 =>
  grdK x156 false σ (fun f => f x1 σ) fun x158 σ1 =>
  grdK x156 false σ1 (fun f => f x18 σ1) fun x159 σ2 =>
  grdK x156 false σ2 (fun f => idxSK x158 x159 fun v => f v σ2) fun x160 σ3 =>
  grdK x156 false σ3 (fun f => cmpK .eql x160 (.int .u8 10) fun v => f v σ3) fun x161 σ4 =>
  pickK x156 (.bool true) x161 fun x162 =>
  ifK x162 (
  eqSK x16 (.str []) fun x165 =>
  ifK x165 (
  c278_9 run fu x0 x1 x18 x7 x10 (.bool true) x16 x17 σ4) (
  c278_9 run fu x0 x1 x18 x7 x10 x15 x16 x17 σ4)) (
  c278_4 run fu x0 x1 x6 x7 x10 x13 x14 x15 σ4)

theorem eq278_8 (run : RunT) (fu : Nat) (x0 x1 x6 x7 x10 x13 x14 x15 x16 x17 x18 : AV) (σ : Store) : codeK X0 run (.seq .leaf (.cond (.seq .leaf (.seq (.seq .leaf (.cond .leaf .leaf)) (.sub (fun fr σ => c278_9 run fu (G fr 0) (G fr 1) (G fr 6) (G fr 7) (G fr 10) (G fr 15) (G fr 16) (G fr 17) σ)))) .leaf)) (subC [true, true, true, true, true, true, true, true, true, true, true, true, true, true, true, false, true, false, true, true, true, false, true] b278) (frS 0 200 [(0, x0), (1, x1), (6, x6), (7, x7), (10, x10), (13, x13), (14, x14), (15, x15), (16, x16), (17, x17), (18, x18)]) σ (thenK (fun fr σ => c278_4 run fu (G fr 0) (G fr 1) (G fr 6) (G fr 7) (G fr 10) (G fr 13) (G fr 14) (G fr 15) σ) k278) = c278_8 run fu x0 x1 x6 x7 x10 x13 x14 x15 x16 x17 x18 σ := by kernel_rfl

theorem ok278_8 {run : RunT} (hrun : RunOK X0 run) (fu : Nat) : ∀ fr σ, KOK X0 200 (subC [true, true, true, true, true, true, true, true, true, true, true, true, true, true, true, false, true, false, true, true, true, false, true] b278) fr σ ((fun fr σ => c278_8 run fu (G fr 0) (G fr 1) (G fr 6) (G fr 7) (G fr 10) (G fr 13) (G fr 14) (G fr 15) (G fr 16) (G fr 17) (G fr 18) σ) fr σ) (thenK (fun fr σ => c278_4 run fu (G fr 0) (G fr 1) (G fr 6) (G fr 7) (G fr 10) (G fr 13) (G fr 14) (G fr 15) σ) k278) := fun fr σ =>
  KOK.piece env0 hrun [0, 1, 6, 7, 10, 13, 14, 15, 16, 17, 18] (eq278_8 run fu (G fr 0) (G fr 1) (G fr 6) (G fr 7) (G fr 10) (G fr 13) (G fr 14) (G fr 15) (G fr 16) (G fr 17) (G fr 18) σ) ⟨trivial, ⟨⟨trivial, ⟨⟨trivial, ⟨trivial, trivial⟩⟩, (ok278_9 hrun fu)⟩⟩, trivial⟩⟩

noncomputable def c278_10b (run : RunT) (fu : Nat) (s10 : W11) (x0 x1 x6 x7 x10 x13 x14 x15 x16 x17 x18 : AV) (σ : Store) : Tr R :=
  lenSK x1 fun x137 =>
  cmpK .lss x18 x137 fun x138 =>
  grdK x138 true σ (fun f => f x1 σ) fun x140 σ1 =>
  grdK x138 true σ1 (fun f => f x18 σ1) fun x141 σ2 =>
  grdK x138 true σ2 (fun f => idxSK x140 x141 fun v => f v σ2) fun x142 σ3 =>
  grdK x138 true σ3 (fun f => cmpK .eql x142 (.int .u8 32) fun v => f v σ3) fun x143 σ4 =>
  grdK x138 true σ4 (fun f => f x143 σ4) fun x144 σ5 =>
  grdK x144 false σ5 (fun f => f x1 σ5) fun x145 σ6 =>
  grdK x144 false σ6 (fun f => f x18 σ6) fun x146 σ7 =>
  grdK x144 false σ7 (fun f => idxSK x145 x146 fun v => f v σ7) fun x147 σ8 =>
  grdK x144 false σ8 (fun f => cmpK .eql x147 (.int .u8 9) fun v => f v σ8) fun x148 σ9 =>
  grdK x138 true σ9 (fun f => pickK x144 (.bool true) x148 fun v => f v σ9) fun x149 σ10 =>
  pickK x138 x149 (.bool false) fun x150 =>
  ifK x150 (
  addK x18 (.int .i64 1) fun x152 =>
  s10 x0 x1 x6 x7 x10 x13 x14 x15 x16 x17 x152 σ10) (
  c278_8 run fu x0 x1 x6 x7 x10 x13 x14 x15 x16 x17 x18 σ10)

noncomputable def c278_10 (run : RunT) (fu : Nat) : Nat → W11
  | 0 => fun _ _ _ _ _ _ _ _ _ _ _ _ => .fail
  | m + 1 => c278_10b run fu (c278_10 run fu m)

theorem eq278_10 (run : RunT) (fu : Nat) (s10 : W11) (x0 x1 x6 x7 x10 x13 x14 x15 x16 x17 x18 : AV) (σ : Store) : codeK X0 run (.seq (.seq .leaf (.cond .leaf .leaf)) (.block .leaf)) (subC [true, true, true, true, true, true, true, true, true, true, true, true, true, true, true, false, true, false, true, true, true, false, false, false, false] b278) (frS 0 200 [(0, x0), (1, x1), (6, x6), (7, x7), (10, x10), (13, x13), (14, x14), (15, x15), (16, x16), (17, x17), (18, x18)]) σ (thenK (fun fr σ => s10 (G fr 0) (G fr 1) (G fr 6) (G fr 7) (G fr 10) (G fr 13) (G fr 14) (G fr 15) (G fr 16) (G fr 17) (G fr 18) σ) (blockK 4 (thenK (fun fr σ => c278_8 run fu (G fr 0) (G fr 1) (G fr 6) (G fr 7) (G fr 10) (G fr 13) (G fr 14) (G fr 15) (G fr 16) (G fr 17) (G fr 18) σ) (thenK (fun fr σ => c278_4 run fu (G fr 0) (G fr 1) (G fr 6) (G fr 7) (G fr 10) (G fr 13) (G fr 14) (G fr 15) σ) k278)))) = c278_10b run fu s10 x0 x1 x6 x7 x10 x13 x14 x15 x16 x17 x18 σ := by kernel_rfl

theorem owed278_10 {run : RunT} (hrun : RunOK X0 run) (fu : Nat) (s10 : W11) : Owes X0 run 200 (.seq (.seq .leaf (.cond .leaf .leaf)) (.block .leaf)) (subC [true, true, true, true, true, true, true, true, true, true, true, true, true, true, true, false, true, false, true, true, true, false, false, false, false] b278) (thenK (fun fr σ => s10 (G fr 0) (G fr 1) (G fr 6) (G fr 7) (G fr 10) (G fr 13) (G fr 14) (G fr 15) (G fr 16) (G fr 17) (G fr 18) σ) (blockK 4 (thenK (fun fr σ => c278_8 run fu (G fr 0) (G fr 1) (G fr 6) (G fr 7) (G fr 10) (G fr 13) (G fr 14) (G fr 15) (G fr 16) (G fr 17) (G fr 18) σ) (thenK (fun fr σ => c278_4 run fu (G fr 0) (G fr 1) (G fr 6) (G fr 7) (G fr 10) (G fr 13) (G fr 14) (G fr 15) σ) k278)))) :=
  ⟨⟨trivial, ⟨trivial, trivial⟩⟩, trivial⟩

theorem ok278_10 {run : RunT} (hrun : RunOK X0 run) (fu : Nat) : ∀ fr σ, KOK X0 200 (subC [true, true, true, true, true, true, true, true, true, true, true, true, true, true, true, false, true, false, true, true, true, false, false, false] b278) fr σ ((fun fr σ => c278_10 run fu fu (G fr 0) (G fr 1) (G fr 6) (G fr 7) (G fr 10) (G fr 13) (G fr 14) (G fr 15) (G fr 16) (G fr 17) (G fr 18) σ) fr σ) (blockK 4 (thenK (fun fr σ => c278_8 run fu (G fr 0) (G fr 1) (G fr 6) (G fr 7) (G fr 10) (G fr 13) (G fr 14) (G fr 15) (G fr 16) (G fr 17) (G fr 18) σ) (thenK (fun fr σ => c278_4 run fu (G fr 0) (G fr 1) (G fr 6) (G fr 7) (G fr 10) (G fr 13) (G fr 14) (G fr 15) σ) k278))) := by
  have h := KOK.loop (X := X0) (N := 200) (b := (subC [true, true, true, true, true, true, true, true, true, true, true, true, true, true, true, false, true, false, true, true, true, false, false, false, false] b278)) (k := (blockK 4 (thenK (fun fr σ => c278_8 run fu (G fr 0) (G fr 1) (G fr 6) (G fr 7) (G fr 10) (G fr 13) (G fr 14) (G fr 15) (G fr 16) (G fr 17) (G fr 18) σ) (thenK (fun fr σ => c278_4 run fu (G fr 0) (G fr 1) (G fr 6) (G fr 7) (G fr 10) (G fr 13) (G fr 14) (G fr 15) σ) k278)))) (u := fun m fr σ => c278_10 run fu m (G fr 0) (G fr 1) (G fr 6) (G fr 7) (G fr 10) (G fr 13) (G fr 14) (G fr 15) (G fr 16) (G fr 17) (G fr 18) σ) (fun _ _ => rfl) (fun m fr σ => KOK.piece env0 hrun [0, 1, 6, 7, 10, 13, 14, 15, 16, 17, 18] (eq278_10 run fu (c278_10 run fu m) (G fr 0) (G fr 1) (G fr 6) (G fr 7) (G fr 10) (G fr 13) (G fr 14) (G fr 15) (G fr 16) (G fr 17) (G fr 18) σ) (owed278_10 hrun fu (c278_10 run fu m)))
  exact fun fr σ => h fu fr σ

noncomputable def c278_7 (run : RunT) (fu : Nat) (x0 x1 x6 x7 x10 x12 x13 x14 x15 : AV) (σ : Store) : Tr R :=
  calK run 112 [x1, x12] σ fun x129 σ1 =>
  extK x129 0 fun x130 =>
  extK x129 1 fun x131 =>
  extK x129 2 fun x132 =>
  extK x129 3 fun x133 =>
  ifK x133 (
  c278_10 run fu fu x0 x1 x6 x7 x10 x13 x14 x15 x130 x131 x132 σ1) (
  c278_4 run fu x0 x1 x6 x7 x10 x13 x14 x15 σ1)

theorem eq278_7 (run : RunT) (fu : Nat) (x0 x1 x6 x7 x10 x12 x13 x14 x15 : AV) (σ : Store) : codeK X0 run (.seq .leaf (.seq .leaf (.cond (.seq (.block (.sub (fun fr σ => c278_10 run fu fu (G fr 0) (G fr 1) (G fr 6) (G fr 7) (G fr 10) (G fr 13) (G fr 14) (G fr 15) (G fr 16) (G fr 17) (G fr 18) σ))) (.sub (fun fr σ => c278_8 run fu (G fr 0) (G fr 1) (G fr 6) (G fr 7) (G fr 10) (G fr 13) (G fr 14) (G fr 15) (G fr 16) (G fr 17) (G fr 18) σ))) .leaf))) (subC [true, true, true, true, true, true, true, true, true, true, true, true, true, true, true, false, true, false, true] b278) (frS 0 200 [(0, x0), (1, x1), (6, x6), (7, x7), (10, x10), (12, x12), (13, x13), (14, x14), (15, x15)]) σ (thenK (fun fr σ => c278_4 run fu (G fr 0) (G fr 1) (G fr 6) (G fr 7) (G fr 10) (G fr 13) (G fr 14) (G fr 15) σ) k278) = c278_7 run fu x0 x1 x6 x7 x10 x12 x13 x14 x15 σ := by kernel_rfl

theorem ok278_7 {run : RunT} (hrun : RunOK X0 run) (fu : Nat) : ∀ fr σ, KOK X0 200 (subC [true, true, true, true, true, true, true, true, true, true, true, true, true, true, true, false, true, false, true] b278) fr σ ((fun fr σ => c278_7 run fu (G fr 0) (G fr 1) (G fr 6) (G fr 7) (G fr 10) (G fr 12) (G fr 13) (G fr 14) (G fr 15) σ) fr σ) (thenK (fun fr σ => c278_4 run fu (G fr 0) (G fr 1) (G fr 6) (G fr 7) (G fr 10) (G fr 13) (G fr 14) (G fr 15) σ) k278) := fun fr σ =>
  KOK.piece env0 hrun [0, 1, 6, 7, 10, 12, 13, 14, 15] (eq278_7 run fu (G fr 0) (G fr 1) (G fr 6) (G fr 7) (G fr 10) (G fr 12) (G fr 13) (G fr 14) (G fr 15) σ) ⟨trivial, ⟨trivial, ⟨⟨(ok278_10 hrun fu), (ok278_8 hrun fu)⟩, trivial⟩⟩⟩

noncomputable def c278_11b (run : RunT) (fu : Nat) (s11 : W9) (x0 x1 x6 x7 x10 x12 x13 x14 x15 : AV) (σ : Store) : Tr R :=
  lenSK x1 fun x110 =>
  cmpK .lss x12 x110 fun x111 =>
  grdK x111 true σ (fun f => f x1 σ) fun x113 σ1 =>
  grdK x111 true σ1 (fun f => f x12 σ1) fun x114 σ2 =>
  grdK x111 true σ2 (fun f => idxSK x113 x114 fun v => f v σ2) fun x115 σ3 =>
  grdK x111 true σ3 (fun f => cmpK .eql x115 (.int .u8 32) fun v => f v σ3) fun x116 σ4 =>
  grdK x111 true σ4 (fun f => f x116 σ4) fun x117 σ5 =>
  grdK x117 false σ5 (fun f => f x1 σ5) fun x118 σ6 =>
  grdK x117 false σ6 (fun f => f x12 σ6) fun x119 σ7 =>
  grdK x117 false σ7 (fun f => idxSK x118 x119 fun v => f v σ7) fun x120 σ8 =>
  grdK x117 false σ8 (fun f => cmpK .eql x120 (.int .u8 9) fun v => f v σ8) fun x121 σ9 =>
  grdK x111 true σ9 (fun f => pickK x117 (.bool true) x121 fun v => f v σ9) fun x122 σ10 =>
  pickK x111 x122 (.bool false) fun x123 =>
  ifK x123 (
  addK x12 (.int .i64 1) fun x125 =>
  s11 x0 x1 x6 x7 x10 x125 x13 x14 x15 σ10) (
  c278_7 run fu x0 x1 x6 x7 x10 x12 x13 x14 x15 σ10)

noncomputable def c278_11 (run : RunT) (fu : Nat) : Nat → W9
  | 0 => fun _ _ _ _ _ _ _ _ _ _ => .fail
  | m + 1 => c278_11b run fu (c278_11 run fu m)

theorem eq278_11 (run : RunT) (fu : Nat) (s11 : W9) (x0 x1 x6 x7 x10 x12 x13 x14 x15 : AV) (σ : Store) : codeK X0 run (.seq (.seq .leaf (.cond .leaf .leaf)) (.block .leaf)) (subC [true, true, true, true, true, true, true, true, true, true, true, true, true, true, true, false, true, false, false, false, false] b278) (frS 0 200 [(0, x0), (1, x1), (6, x6), (7, x7), (10, x10), (12, x12), (13, x13), (14, x14), (15, x15)]) σ (thenK (fun fr σ => s11 (G fr 0) (G fr 1) (G fr 6) (G fr 7) (G fr 10) (G fr 12) (G fr 13) (G fr 14) (G fr 15) σ) (blockK 2 (thenK (fun fr σ => c278_7 run fu (G fr 0) (G fr 1) (G fr 6) (G fr 7) (G fr 10) (G fr 12) (G fr 13) (G fr 14) (G fr 15) σ) (thenK (fun fr σ => c278_4 run fu (G fr 0) (G fr 1) (G fr 6) (G fr 7) (G fr 10) (G fr 13) (G fr 14) (G fr 15) σ) k278)))) = c278_11b run fu s11 x0 x1 x6 x7 x10 x12 x13 x14 x15 σ := by kernel_rfl

theorem owed278_11 {run : RunT} (hrun : RunOK X0 run) (fu : Nat) (s11 : W9) : Owes X0 run 200 (.seq (.seq .leaf (.cond .leaf .leaf)) (.block .leaf)) (subC [true, true, true, true, true, true, true, true, true, true, true, true, true, true, true, false, true, false, false, false, false] b278) (thenK (fun fr σ => s11 (G fr 0) (G fr 1) (G fr 6) (G fr 7) (G fr 10) (G fr 12) (G fr 13) (G fr 14) (G fr 15) σ) (blockK 2 (thenK (fun fr σ => c278_7 run fu (G fr 0) (G fr 1) (G fr 6) (G fr 7) (G fr 10) (G fr 12) (G fr 13) (G fr 14) (G fr 15) σ) (thenK (fun fr σ => c278_4 run fu (G fr 0) (G fr 1) (G fr 6) (G fr 7) (G fr 10) (G fr 13) (G fr 14) (G fr 15) σ) k278)))) :=
  ⟨⟨trivial, ⟨trivial, trivial⟩⟩, trivial⟩

theorem ok278_11 {run : RunT} (hrun : RunOK X0 run) (fu : Nat) : ∀ fr σ, KOK X0 200 (subC [true, true, true, true, true, true, true, true, true, true, true, true, true, true, true, false, true, false, false, false] b278) fr σ ((fun fr σ => c278_11 run fu fu (G fr 0) (G fr 1) (G fr 6) (G fr 7) (G fr 10) (G fr 12) (G fr 13) (G fr 14) (G fr 15) σ) fr σ) (blockK 2 (thenK (fun fr σ => c278_7 run fu (G fr 0) (G fr 1) (G fr 6) (G fr 7) (G fr 10) (G fr 12) (G fr 13) (G fr 14) (G fr 15) σ) (thenK (fun fr σ => c278_4 run fu (G fr 0) (G fr 1) (G fr 6) (G fr 7) (G fr 10) (G fr 13) (G fr 14) (G fr 15) σ) k278))) := by
  have h := KOK.loop (X := X0) (N := 200) (b := (subC [true, true, true, true, true, true, true, true, true, true, true, true, true, true, true, false, true, false, false, false, false] b278)) (k := (blockK 2 (thenK (fun fr σ => c278_7 run fu (G fr 0) (G fr 1) (G fr 6) (G fr 7) (G fr 10) (G fr 12) (G fr 13) (G fr 14) (G fr 15) σ) (thenK (fun fr σ => c278_4 run fu (G fr 0) (G fr 1) (G fr 6) (G fr 7) (G fr 10) (G fr 13) (G fr 14) (G fr 15) σ) k278)))) (u := fun m fr σ => c278_11 run fu m (G fr 0) (G fr 1) (G fr 6) (G fr 7) (G fr 10) (G fr 12) (G fr 13) (G fr 14) (G fr 15) σ) (fun _ _ => rfl) (fun m fr σ => KOK.piece env0 hrun [0, 1, 6, 7, 10, 12, 13, 14, 15] (eq278_11 run fu (c278_11 run fu m) (G fr 0) (G fr 1) (G fr 6) (G fr 7) (G fr 10) (G fr 12) (G fr 13) (G fr 14) (G fr 15) σ) (owed278_11 hrun fu (c278_11 run fu m)))
  exact fun fr σ => h fu fr σ

noncomputable def c278_3 (run : RunT) (fu : Nat) (x0 x1 x6 x7 x10 x11 x12 : AV) (σ : Store) : Tr R :=
  ifK x11 (
  c278_11 run fu fu x0 x1 x6 x7 x10 x12 (.str []) (.int .u8 0) (.bool false) σ) (
  c278_4 run fu x0 x1 x6 x7 x10 (.str []) (.int .u8 0) (.bool false) σ)

theorem eq278_3 (run : RunT) (fu : Nat) (x0 x1 x6 x7 x10 x11 x12 : AV) (σ : Store) : codeK X0 run (.seq .leaf (.seq .leaf (.seq .leaf (.seq (.seq .leaf (.cond (.seq (.block (.sub (fun fr σ => c278_11 run fu fu (G fr 0) (G fr 1) (G fr 6) (G fr 7) (G fr 10) (G fr 12) (G fr 13) (G fr 14) (G fr 15) σ))) (.sub (fun fr σ => c278_7 run fu (G fr 0) (G fr 1) (G fr 6) (G fr 7) (G fr 10) (G fr 12) (G fr 13) (G fr 14) (G fr 15) σ))) .leaf)) (.sub (fun fr σ => c278_4 run fu (G fr 0) (G fr 1) (G fr 6) (G fr 7) (G fr 10) (G fr 13) (G fr 14) (G fr 15) σ)))))) (subC [true, true, true, true, true, true, true, true, true, true, true, true] b278) (frS 0 200 [(0, x0), (1, x1), (6, x6), (7, x7), (10, x10), (11, x11), (12, x12)]) σ k278 = c278_3 run fu x0 x1 x6 x7 x10 x11 x12 σ := by kernel_rfl

theorem ok278_3 {run : RunT} (hrun : RunOK X0 run) (fu : Nat) : ∀ fr σ, KOK X0 200 (subC [true, true, true, true, true, true, true, true, true, true, true, true] b278) fr σ ((fun fr σ => c278_3 run fu (G fr 0) (G fr 1) (G fr 6) (G fr 7) (G fr 10) (G fr 11) (G fr 12) σ) fr σ) k278 := fun fr σ =>
  KOK.piece env0 hrun [0, 1, 6, 7, 10, 11, 12] (eq278_3 run fu (G fr 0) (G fr 1) (G fr 6) (G fr 7) (G fr 10) (G fr 11) (G fr 12) σ) ⟨trivial, ⟨trivial, ⟨trivial, ⟨⟨trivial, ⟨⟨(ok278_11 hrun fu), (ok278_7 hrun fu)⟩, trivial⟩⟩, (ok278_4 hrun fu)⟩⟩⟩⟩

noncomputable def c278_2 (run : RunT) (fu : Nat) (x0 x1 x6 x7 x10 x11 : AV) (σ : Store) : Tr R :=
  lenSK x1 fun x93 =>
  cmpK .geq x6 x93 fun x94 =>
  grdK x94 false σ (fun f => f x1 σ) fun x96 σ1 =>
  grdK x94 false σ1 (fun f => f x6 σ1) fun x97 σ2 =>
  grdK x94 false σ2 (fun f => idxSK x96 x97 fun v => f v σ2) fun x98 σ3 =>
  grdK x94 false σ3 (fun f => cmpK .eql x98 (.int .u8 10) fun v => f v σ3) fun x99 σ4 =>
  pickK x94 (.bool true) x99 fun x100 =>
  ifK x100 (
  lenSK x1 fun x103 =>
  cmpK .lss x6 x103 fun x104 =>
  ifK x104 (
  addK x6 (.int .i64 1) fun x106 =>
  c278_3 run fu x0 x1 x6 x7 x10 (.bool true) x106 σ4) (
  c278_3 run fu x0 x1 x6 x7 x10 (.bool true) x6 σ4)) (
  c278_3 run fu x0 x1 x6 x7 x10 x11 x6 σ4)

theorem eq278_2 (run : RunT) (fu : Nat) (x0 x1 x6 x7 x10 x11 : AV) (σ : Store) : codeK X0 run (.seq .leaf (.seq (.seq .leaf (.cond (.seq .leaf (.seq .leaf (.cond .leaf .leaf))) .leaf)) (.sub (fun fr σ => c278_3 run fu (G fr 0) (G fr 1) (G fr 6) (G fr 7) (G fr 10) (G fr 11) (G fr 12) σ)))) (subC [true, true, true, true, true, true, true, true, true, true] b278) (frS 0 200 [(0, x0), (1, x1), (6, x6), (7, x7), (10, x10), (11, x11)]) σ k278 = c278_2 run fu x0 x1 x6 x7 x10 x11 σ := by kernel_rfl

theorem ok278_2 {run : RunT} (hrun : RunOK X0 run) (fu : Nat) : ∀ fr σ, KOK X0 200 (subC [true, true, true, true, true, true, true, true, true, true] b278) fr σ ((fun fr σ => c278_2 run fu (G fr 0) (G fr 1) (G fr 6) (G fr 7) (G fr 10) (G fr 11) σ) fr σ) k278 := fun fr σ =>
  KOK.piece env0 hrun [0, 1, 6, 7, 10, 11] (eq278_2 run fu (G fr 0) (G fr 1) (G fr 6) (G fr 7) (G fr 10) (G fr 11) σ) ⟨trivial, ⟨⟨trivial, ⟨⟨trivial, ⟨trivial, ⟨trivial, trivial⟩⟩⟩, trivial⟩⟩, (ok278_3 hrun fu)⟩⟩

noncomputable def c278_12b (run : RunT) (fu : Nat) (s12 : W6) (x0 x1 x6 x7 x10 x11 : AV) (σ : Store) : Tr R :=
  lenSK x1 fun x74 =>
  cmpK .lss x6 x74 fun x75 =>
  grdK x75 true σ (fun f => f x1 σ) fun x77 σ1 =>
  grdK x75 true σ1 (fun f => f x6 σ1) fun x78 σ2 =>
  grdK x75 true σ2 (fun f => idxSK x77 x78 fun v => f v σ2) fun x79 σ3 =>
  grdK x75 true σ3 (fun f => cmpK .eql x79 (.int .u8 32) fun v => f v σ3) fun x80 σ4 =>
  grdK x75 true σ4 (fun f => f x80 σ4) fun x81 σ5 =>
  grdK x81 false σ5 (fun f => f x1 σ5) fun x82 σ6 =>
  grdK x81 false σ6 (fun f => f x6 σ6) fun x83 σ7 =>
  grdK x81 false σ7 (fun f => idxSK x82 x83 fun v => f v σ7) fun x84 σ8 =>
  grdK x81 false σ8 (fun f => cmpK .eql x84 (.int .u8 9) fun v => f v σ8) fun x85 σ9 =>
  grdK x75 true σ9 (fun f => pickK x81 (.bool true) x85 fun v => f v σ9) fun x86 σ10 =>
  pickK x75 x86 (.bool false) fun x87 =>
  ifK x87 (
  addK x6 (.int .i64 1) fun x89 =>
  s12 x0 x1 x89 x7 x10 (.bool true) σ10) (
  c278_2 run fu x0 x1 x6 x7 x10 x11 σ10)

noncomputable def c278_12 (run : RunT) (fu : Nat) : Nat → W6
  | 0 => fun _ _ _ _ _ _ _ => .fail
  | m + 1 => c278_12b run fu (c278_12 run fu m)

theorem eq278_12 (run : RunT) (fu : Nat) (s12 : W6) (x0 x1 x6 x7 x10 x11 : AV) (σ : Store) : codeK X0 run (.seq (.seq .leaf (.cond .leaf .leaf)) (.block (.seq .leaf .leaf))) (subC [true, true, true, true, true, true, true, true, true, false, false, false] b278) (frS 0 200 [(0, x0), (1, x1), (6, x6), (7, x7), (10, x10), (11, x11)]) σ (thenK (fun fr σ => s12 (G fr 0) (G fr 1) (G fr 6) (G fr 7) (G fr 10) (G fr 11) σ) (blockK 0 (thenK (fun fr σ => c278_2 run fu (G fr 0) (G fr 1) (G fr 6) (G fr 7) (G fr 10) (G fr 11) σ) k278))) = c278_12b run fu s12 x0 x1 x6 x7 x10 x11 σ := by kernel_rfl

theorem owed278_12 {run : RunT} (hrun : RunOK X0 run) (fu : Nat) (s12 : W6) : Owes X0 run 200 (.seq (.seq .leaf (.cond .leaf .leaf)) (.block (.seq .leaf .leaf))) (subC [true, true, true, true, true, true, true, true, true, false, false, false] b278) (thenK (fun fr σ => s12 (G fr 0) (G fr 1) (G fr 6) (G fr 7) (G fr 10) (G fr 11) σ) (blockK 0 (thenK (fun fr σ => c278_2 run fu (G fr 0) (G fr 1) (G fr 6) (G fr 7) (G fr 10) (G fr 11) σ) k278))) :=
  ⟨⟨trivial, ⟨trivial, trivial⟩⟩, ⟨trivial, trivial⟩⟩

theorem ok278_12 {run : RunT} (hrun : RunOK X0 run) (fu : Nat) : ∀ fr σ, KOK X0 200 (subC [true, true, true, true, true, true, true, true, true, false, false] b278) fr σ ((fun fr σ => c278_12 run fu fu (G fr 0) (G fr 1) (G fr 6) (G fr 7) (G fr 10) (G fr 11) σ) fr σ) (blockK 0 (thenK (fun fr σ => c278_2 run fu (G fr 0) (G fr 1) (G fr 6) (G fr 7) (G fr 10) (G fr 11) σ) k278)) := by
  have h := KOK.loop (X := X0) (N := 200) (b := (subC [true, true, true, true, true, true, true, true, true, false, false, false] b278)) (k := (blockK 0 (thenK (fun fr σ => c278_2 run fu (G fr 0) (G fr 1) (G fr 6) (G fr 7) (G fr 10) (G fr 11) σ) k278))) (u := fun m fr σ => c278_12 run fu m (G fr 0) (G fr 1) (G fr 6) (G fr 7) (G fr 10) (G fr 11) σ) (fun _ _ => rfl) (fun m fr σ => KOK.piece env0 hrun [0, 1, 6, 7, 10, 11] (eq278_12 run fu (c278_12 run fu m) (G fr 0) (G fr 1) (G fr 6) (G fr 7) (G fr 10) (G fr 11) σ) (owed278_12 hrun fu (c278_12 run fu m)))
  exact fun fr σ => h fu fr σ

noncomputable def c278_1 (run : RunT) (fu : Nat) (x0 x1 x6 x7 x10 : AV) (σ : Store) : Tr R :=
  c278_12 run fu fu x0 x1 x6 x7 x10 (.bool false) σ

theorem eq278_1 (run : RunT) (fu : Nat) (x0 x1 x6 x7 x10 : AV) (σ : Store) : codeK X0 run (.seq .leaf (.seq (.block (.sub (fun fr σ => c278_12 run fu fu (G fr 0) (G fr 1) (G fr 6) (G fr 7) (G fr 10) (G fr 11) σ))) (.sub (fun fr σ => c278_2 run fu (G fr 0) (G fr 1) (G fr 6) (G fr 7) (G fr 10) (G fr 11) σ)))) (subC [true, true, true, true, true, true, true, true] b278) (frS 0 200 [(0, x0), (1, x1), (6, x6), (7, x7), (10, x10)]) σ k278 = c278_1 run fu x0 x1 x6 x7 x10 σ := by kernel_rfl

theorem ok278_1 {run : RunT} (hrun : RunOK X0 run) (fu : Nat) : ∀ fr σ, KOK X0 200 (subC [true, true, true, true, true, true, true, true] b278) fr σ ((fun fr σ => c278_1 run fu (G fr 0) (G fr 1) (G fr 6) (G fr 7) (G fr 10) σ) fr σ) k278 := fun fr σ =>
  KOK.piece env0 hrun [0, 1, 6, 7, 10] (eq278_1 run fu (G fr 0) (G fr 1) (G fr 6) (G fr 7) (G fr 10) σ) ⟨trivial, ⟨(ok278_12 hrun fu), (ok278_2 hrun fu)⟩⟩

noncomputable def c278_13 (run : RunT) (fu : Nat) (σ : Store) : Tr R :=
  .ret (.tup [(.int .i64 0), (.bool false)], σ)

theorem eq278_13 (run : RunT) (fu : Nat) (σ : Store) : codeK X0 run (.seq .leaf .leaf) (subC [true, true, true, true, true, true, true, false, true, false, true] b278) (frS 0 200 []) σ (thenK (fun fr σ => c278_1 run fu (G fr 0) (G fr 1) (G fr 6) (G fr 7) (G fr 10) σ) k278) = c278_13 run fu σ := by kernel_rfl

theorem ok278_13 {run : RunT} (hrun : RunOK X0 run) (fu : Nat) : ∀ fr σ, KOK X0 200 (subC [true, true, true, true, true, true, true, false, true, false, true] b278) fr σ ((fun fr σ => c278_13 run fu σ) fr σ) (thenK (fun fr σ => c278_1 run fu (G fr 0) (G fr 1) (G fr 6) (G fr 7) (G fr 10) σ) k278) := fun fr σ =>
  KOK.piece env0 hrun [] (eq278_13 run fu σ) ⟨trivial, trivial⟩

noncomputable def c278 (run : RunT) (fu : Nat) (x0 x1 : AV) (σ : Store) : Tr R :=
  calK run 110 [x1, (.int .i64 0)] σ fun x21 σ1 =>
  tasK (some .nilp) 110 false x0 fun x24 =>
  calK run 113 [x24, x1, x21] σ1 fun x27 σ2 =>
  extK x27 0 fun x28 =>
  extK x27 1 fun x29 =>
  extK x27 2 fun x30 =>
  notK x30 fun x32 =>
  grdK x32 false σ2 (fun f => f x29 σ2) fun x34 σ3 =>
  grdK x32 false σ3 (fun f => f x1 σ3) fun x35 σ4 =>
  grdK x32 false σ4 (fun f => lenSK x35 fun v => f v σ4) fun x36 σ5 =>
  grdK x32 false σ5 (fun f => cmpK .geq x34 x36 fun v => f v σ5) fun x37 σ6 =>
  pickK x32 (.bool true) x37 fun x38 =>
  grdK x38 false σ6 (fun f => f x1 σ6) fun x40 σ7 =>
  grdK x38 false σ7 (fun f => f x29 σ7) fun x41 σ8 =>
  grdK x38 false σ8 (fun f => idxSK x40 x41 fun v => f v σ8) fun x42 σ9 =>
  grdK x38 false σ9 (fun f => cmpK .neq x42 (.int .u8 58) fun v => f v σ9) fun x43 σ10 =>
  pickK x38 (.bool true) x43 fun x44 =>
  ifK x44 (
  .ret (.tup [(.int .i64 0), (.bool false)], σ10)) (
  addK x29 (.int .i64 1) fun x47 =>
  calK run 110 [x1, x47] σ10 fun x48 σ11 =>
  sliceSK x1 (some x48) none fun x51 =>
  calK run 111 [x1, x48] σ11 fun x55 σ12 =>
  extK x55 0 fun x56 =>
  extK x55 1 fun x57 =>
  extK x55 2 fun x58 =>
  notK x58 fun x60 =>
  ifK x60 (
  neSK x51 (.str []) fun x62 =>
  grdK x62 true σ12 (fun f => f x51 σ12) fun x64 σ13 =>
  grdK x62 true σ13 (fun f => idxSK x64 (.int .i64 0) fun v => f v σ13) fun x65 σ14 =>
  grdK x62 true σ14 (fun f => cmpK .eql x65 (.int .u8 60) fun v => f v σ14) fun x66 σ15 =>
  pickK x62 x66 (.bool false) fun x67 =>
  ifK x67 (
  tasK (some .nilp) 110 false x0 fun x69 =>
  nchkK x69 fun x70 =>
  addrK x70 6 fun x71 =>
  st1K σ15 x71 (.bool true) fun _ σ16 =>
  c278_13 run fu σ16) (
  c278_13 run fu σ15)) (
  c278_1 run fu x0 x1 x57 x28 x56 σ12))

theorem eq278 (run : RunT) (fu : Nat) (x0 x1 : AV) (σ : Store) : codeK X0 run (.seq .leaf (.seq .leaf (.seq .leaf (.seq (.seq .leaf (.cond (.seq .leaf .leaf) .leaf)) (.seq .leaf (.seq .leaf (.seq .leaf (.seq (.seq .leaf (.cond (.seq (.seq .leaf (.cond .leaf .leaf)) (.sub (fun fr σ => c278_13 run fu σ))) .leaf)) (.sub (fun fr σ => c278_1 run fu (G fr 0) (G fr 1) (G fr 6) (G fr 7) (G fr 10) σ)))))))))) (subC [] b278) ([x0, x1] ++ padA (200 - 2)) σ k278 = c278 run fu x0 x1 σ := by kernel_rfl

theorem ok278 {run : RunT} (hrun : RunOK X0 run) (fu : Nat) (x0 x1 : AV) (σ : Store) : CallOK X0 278 [x0, x1] σ (c278 run fu x0 x1 σ) :=
  KOK.body (fn := Tryz.f278) (c := subC [] b278) (by kernel_rfl) (by kernel_rfl) (by show 2 ≤ 200; decide) (KOK.whole env0 hrun (eq278 run fu x0 x1 σ) ⟨trivial, ⟨trivial, ⟨trivial, ⟨⟨trivial, ⟨⟨trivial, trivial⟩, trivial⟩⟩, ⟨trivial, ⟨trivial, ⟨trivial, ⟨⟨trivial, ⟨⟨⟨trivial, ⟨trivial, trivial⟩⟩, (ok278_13 hrun fu)⟩, trivial⟩⟩, (ok278_1 hrun fu)⟩⟩⟩⟩⟩⟩⟩⟩)

end Go.Proofs.YtfmgdjkcdmjloaaGreatDoor
