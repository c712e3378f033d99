/- Functions of the program, told as Lean functions of abstract values and stores, each with its proof. -/
import Derived.Test.YtfmgdjkcdmjloaaGreatDoorSyX
import Derived.Test.YtfmgdjkcdmjloaaGreatDoorSyRe
import Derived.Test.YtfmgdjkcdmjloaaGreatDoorSyAb
set_option linter.unusedVariables false
set_option linter.unusedSimpArgs false
namespace Go.Proofs.YtfmgdjkcdmjloaaGreatDoor
open Go.AM
-- pub-paratext/pub/rscmarkdown.parseAutoLinkURI

noncomputable def b97 : Code := match Tryz.f97.body with | some c => c | none => .skip

noncomputable def k97 : Kont R := retK Tryz.prog [.tmp 4, .tmp 5, .tmp 6]

noncomputable def c97_2 (run : RunT) (fu : Nat) (x0 x1 x7 : AV) (σ : Store) : Tr R :=
  lenSK x0 fun x90 =>
  cmpK .geq x7 x90 fun x91 =>
  grdK x91 false σ (fun f => f x0 σ) fun x93 σ1 =>
  grdK x91 false σ1 (fun f => f x7 σ1) fun x94 σ2 =>
  grdK x91 false σ2 (fun f => idxSK x93 x94 fun v => f v σ2) fun x95 σ3 =>
  grdK x91 false σ3 (fun f => cmpK .neq x95 (.int .u8 62) fun v => f v σ3) fun x96 σ4 =>
  pickK x91 (.bool true) x96 fun x97 =>
  ifK x97 (
  .ret (.tup [.nili, (.int .i64 0), (.bool false)], σ4)) (
  addK x1 (.int .i64 1) fun x100 =>
  sliceSK x0 (some x100) (some x7) fun x102 =>
  bldK [(.str []), (.str [])] [(0, 1, x102), (1, 1, x102)] fun x105 =>
  boxK σ4 519 x105 fun x106 σ5 =>
  addK x7 (.int .i64 1) fun x109 =>
  .ret (.tup [(.iface 257 x106), x109, (.bool true)], σ5))

theorem eq97_2 (run : RunT) (fu : Nat) (x0 x1 x7 : AV) (σ : Store) : codeK X0 run (.seq (.seq .leaf (.cond (.seq .leaf .leaf) .leaf)) (.seq .leaf (.seq .leaf .leaf))) (subC [true, true, true, true, true, true, true, true] b97) (frS 0 110 [(0, x0), (1, x1), (7, x7)]) σ k97 = c97_2 run fu x0 x1 x7 σ := by kernel_rfl

theorem ok97_2 {run : RunT} (hrun : RunOK X0 run) (fu : Nat) : ∀ fr σ, KOK X0 110 (subC [true, true, true, true, true, true, true, true] b97) fr σ ((fun fr σ => c97_2 run fu (G fr 0) (G fr 1) (G fr 7) σ) fr σ) k97 := fun fr σ =>
  KOK.piece env0 hrun [0, 1, 7] (eq97_2 run fu (G fr 0) (G fr 1) (G fr 7) σ) ⟨⟨trivial, ⟨⟨trivial, trivial⟩, trivial⟩⟩, ⟨trivial, ⟨trivial, trivial⟩⟩⟩

noncomputable def c97_3b (run : RunT) (fu : Nat) (s3 : W3) (x0 x1 x7 : AV) (σ : Store) : Tr R :=
  lenSK x0 fun x78 =>
  cmpK .lss x7 x78 fun x79 =>
  grdK x79 true σ (fun f => f x0 σ) fun x81 σ1 =>
  grdK x79 true σ1 (fun f => f x7 σ1) fun x82 σ2 =>
  grdK x79 true σ2 (fun f => idxSK x81 x82 fun v => f v σ2) fun x83 σ3 =>
  grdK x79 true σ3 (fun f => calK run 145 [x83] σ3 f) fun x84 σ4 =>
  pickK x79 x84 (.bool false) fun x85 =>
  ifK x85 (
  addK x7 (.int .i64 1) fun x87 =>
  s3 x0 x1 x87 σ4) (
  c97_2 run fu x0 x1 x7 σ4)

noncomputable def c97_3 (run : RunT) (fu : Nat) : Nat → W3
  | 0 => fun _ _ _ _ => .fail
  | m + 1 => c97_3b run fu (c97_3 run fu m)

theorem eq97_3 (run : RunT) (fu : Nat) (s3 : W3) (x0 x1 x7 : AV) (σ : Store) : codeK X0 run (.seq (.seq .leaf (.cond .leaf .leaf)) (.block .leaf)) (subC [true, true, true, true, true, true, true, false, false, false] b97) (frS 0 110 [(0, x0), (1, x1), (7, x7)]) σ (thenK (fun fr σ => s3 (G fr 0) (G fr 1) (G fr 7) σ) (blockK 2 (thenK (fun fr σ => c97_2 run fu (G fr 0) (G fr 1) (G fr 7) σ) k97))) = c97_3b run fu s3 x0 x1 x7 σ := by kernel_rfl

theorem owed97_3 {run : RunT} (hrun : RunOK X0 run) (fu : Nat) (s3 : W3) : Owes X0 run 110 (.seq (.seq .leaf (.cond .leaf .leaf)) (.block .leaf)) (subC [true, true, true, true, true, true, true, false, false, false] b97) (thenK (fun fr σ => s3 (G fr 0) (G fr 1) (G fr 7) σ) (blockK 2 (thenK (fun fr σ => c97_2 run fu (G fr 0) (G fr 1) (G fr 7) σ) k97))) :=
  ⟨⟨trivial, ⟨trivial, trivial⟩⟩, trivial⟩

theorem ok97_3 {run : RunT} (hrun : RunOK X0 run) (fu : Nat) : ∀ fr σ, KOK X0 110 (subC [true, true, true, true, true, true, true, false, false] b97) fr σ ((fun fr σ => c97_3 run fu fu (G fr 0) (G fr 1) (G fr 7) σ) fr σ) (blockK 2 (thenK (fun fr σ => c97_2 run fu (G fr 0) (G fr 1) (G fr 7) σ) k97)) := by
  have h := KOK.loop (X := X0) (N := 110) (b := (subC [true, true, true, true, true, true, true, false, false, false] b97)) (k := (blockK 2 (thenK (fun fr σ => c97_2 run fu (G fr 0) (G fr 1) (G fr 7) σ) k97))) (u := fun m fr σ => c97_3 run fu m (G fr 0) (G fr 1) (G fr 7) σ) (fun _ _ => rfl) (fun m fr σ => KOK.piece env0 hrun [0, 1, 7] (eq97_3 run fu (c97_3 run fu m) (G fr 0) (G fr 1) (G fr 7) σ) (owed97_3 hrun fu (c97_3 run fu m)))
  exact fun fr σ => h fu fr σ

noncomputable def c97_1 (run : RunT) (fu : Nat) (x0 x1 x7 : AV) (σ : Store) : Tr R :=
  addK x1 (.int .i64 1) fun x52 =>
  subK x7 x52 fun x53 =>
  cmpK .lss x53 (.int .i64 2) fun x54 =>
  grdK x54 false σ (fun f => f x7 σ) fun x56 σ1 =>
  grdK x54 false σ1 (fun f => f x1 σ1) fun x57 σ2 =>
  grdK x54 false σ2 (fun f => addK x57 (.int .i64 1) fun v => f v σ2) fun x58 σ3 =>
  grdK x54 false σ3 (fun f => subK x56 x58 fun v => f v σ3) fun x59 σ4 =>
  grdK x54 false σ4 (fun f => cmpK .gtr x59 (.int .i64 32) fun v => f v σ4) fun x60 σ5 =>
  pickK x54 (.bool true) x60 fun x61 =>
  grdK x61 false σ5 (fun f => f x7 σ5) fun x63 σ6 =>
  grdK x61 false σ6 (fun f => f x0 σ6) fun x64 σ7 =>
  grdK x61 false σ7 (fun f => lenSK x64 fun v => f v σ7) fun x65 σ8 =>
  grdK x61 false σ8 (fun f => cmpK .geq x63 x65 fun v => f v σ8) fun x66 σ9 =>
  pickK x61 (.bool true) x66 fun x67 =>
  grdK x67 false σ9 (fun f => f x0 σ9) fun x69 σ10 =>
  grdK x67 false σ10 (fun f => f x7 σ10) fun x70 σ11 =>
  grdK x67 false σ11 (fun f => idxSK x69 x70 fun v => f v σ11) fun x71 σ12 =>
  grdK x67 false σ12 (fun f => cmpK .neq x71 (.int .u8 58) fun v => f v σ12) fun x72 σ13 =>
  pickK x67 (.bool true) x72 fun x73 =>
  ifK x73 (
  .ret (.tup [.nili, (.int .i64 0), (.bool false)], σ13)) (
  addK x7 (.int .i64 1) fun x75 =>
  c97_3 run fu fu x0 x1 x75 σ13)

theorem eq97_1 (run : RunT) (fu : Nat) (x0 x1 x7 : AV) (σ : Store) : codeK X0 run (.seq (.seq .leaf (.cond (.seq .leaf .leaf) .leaf)) (.seq .leaf (.seq (.block (.sub (fun fr σ => c97_3 run fu fu (G fr 0) (G fr 1) (G fr 7) σ))) (.sub (fun fr σ => c97_2 run fu (G fr 0) (G fr 1) (G fr 7) σ))))) (subC [true, true, true, true, true] b97) (frS 0 110 [(0, x0), (1, x1), (7, x7)]) σ k97 = c97_1 run fu x0 x1 x7 σ := by kernel_rfl

theorem ok97_1 {run : RunT} (hrun : RunOK X0 run) (fu : Nat) : ∀ fr σ, KOK X0 110 (subC [true, true, true, true, true] b97) fr σ ((fun fr σ => c97_1 run fu (G fr 0) (G fr 1) (G fr 7) σ) fr σ) k97 := fun fr σ =>
  KOK.piece env0 hrun [0, 1, 7] (eq97_1 run fu (G fr 0) (G fr 1) (G fr 7) σ) ⟨⟨trivial, ⟨⟨trivial, trivial⟩, trivial⟩⟩, ⟨trivial, ⟨(ok97_3 hrun fu), (ok97_2 hrun fu)⟩⟩⟩

noncomputable def c97_4b (run : RunT) (fu : Nat) (s4 : W3) (x0 x1 x7 : AV) (σ : Store) : Tr R :=
  lenSK x0 fun x33 =>
  cmpK .lss x7 x33 fun x34 =>
  grdK x34 true σ (fun f => f x0 σ) fun x36 σ1 =>
  grdK x34 true σ1 (fun f => f x7 σ1) fun x37 σ2 =>
  grdK x34 true σ2 (fun f => idxSK x36 x37 fun v => f v σ2) fun x38 σ3 =>
  grdK x34 true σ3 (fun f => calK run 144 [x38] σ3 f) fun x39 σ4 =>
  pickK x34 x39 (.bool false) fun x40 =>
  grdK x40 true σ4 (fun f => f x7 σ4) fun x42 σ5 =>
  grdK x40 true σ5 (fun f => f x1 σ5) fun x43 σ6 =>
  grdK x40 true σ6 (fun f => addK x43 (.int .i64 1) fun v => f v σ6) fun x44 σ7 =>
  grdK x40 true σ7 (fun f => subK x42 x44 fun v => f v σ7) fun x45 σ8 =>
  grdK x40 true σ8 (fun f => cmpK .leq x45 (.int .i64 32) fun v => f v σ8) fun x46 σ9 =>
  pickK x40 x46 (.bool false) fun x47 =>
  ifK x47 (
  addK x7 (.int .i64 1) fun x49 =>
  s4 x0 x1 x49 σ9) (
  c97_1 run fu x0 x1 x7 σ9)

noncomputable def c97_4 (run : RunT) (fu : Nat) : Nat → W3
  | 0 => fun _ _ _ _ => .fail
  | m + 1 => c97_4b run fu (c97_4 run fu m)

theorem eq97_4 (run : RunT) (fu : Nat) (s4 : W3) (x0 x1 x7 : AV) (σ : Store) : codeK X0 run (.seq (.seq .leaf (.cond .leaf .leaf)) (.block .leaf)) (subC [true, true, true, true, false, false, false] b97) (frS 0 110 [(0, x0), (1, x1), (7, x7)]) σ (thenK (fun fr σ => s4 (G fr 0) (G fr 1) (G fr 7) σ) (blockK 0 (thenK (fun fr σ => c97_1 run fu (G fr 0) (G fr 1) (G fr 7) σ) k97))) = c97_4b run fu s4 x0 x1 x7 σ := by kernel_rfl

theorem owed97_4 {run : RunT} (hrun : RunOK X0 run) (fu : Nat) (s4 : W3) : Owes X0 run 110 (.seq (.seq .leaf (.cond .leaf .leaf)) (.block .leaf)) (subC [true, true, true, true, false, false, false] b97) (thenK (fun fr σ => s4 (G fr 0) (G fr 1) (G fr 7) σ) (blockK 0 (thenK (fun fr σ => c97_1 run fu (G fr 0) (G fr 1) (G fr 7) σ) k97))) :=
  ⟨⟨trivial, ⟨trivial, trivial⟩⟩, trivial⟩

theorem ok97_4 {run : RunT} (hrun : RunOK X0 run) (fu : Nat) : ∀ fr σ, KOK X0 110 (subC [true, true, true, true, false, false] b97) fr σ ((fun fr σ => c97_4 run fu fu (G fr 0) (G fr 1) (G fr 7) σ) fr σ) (blockK 0 (thenK (fun fr σ => c97_1 run fu (G fr 0) (G fr 1) (G fr 7) σ) k97)) := by
  have h := KOK.loop (X := X0) (N := 110) (b := (subC [true, true, true, true, false, false, false] b97)) (k := (blockK 0 (thenK (fun fr σ => c97_1 run fu (G fr 0) (G fr 1) (G fr 7) σ) k97))) (u := fun m fr σ => c97_4 run fu m (G fr 0) (G fr 1) (G fr 7) σ) (fun _ _ => rfl) (fun m fr σ => KOK.piece env0 hrun [0, 1, 7] (eq97_4 run fu (c97_4 run fu m) (G fr 0) (G fr 1) (G fr 7) σ) (owed97_4 hrun fu (c97_4 run fu m)))
  exact fun fr σ => h fu fr σ

noncomputable def c97 (run : RunT) (fu : Nat) (x0 x1 : AV) (σ : Store) : Tr R :=
  addK x1 (.int .i64 1) fun x11 =>
  lenSK x0 fun x13 =>
  cmpK .geq x11 x13 fun x14 =>
  grdK x14 false σ (fun f => f x0 σ) fun x16 σ1 =>
  grdK x14 false σ1 (fun f => f x1 σ1) fun x17 σ2 =>
  grdK x14 false σ2 (fun f => idxSK x16 x17 fun v => f v σ2) fun x18 σ3 =>
  grdK x14 false σ3 (fun f => cmpK .neq x18 (.int .u8 60) fun v => f v σ3) fun x19 σ4 =>
  pickK x14 (.bool true) x19 fun x20 =>
  grdK x20 false σ4 (fun f => f x0 σ4) fun x22 σ5 =>
  grdK x20 false σ5 (fun f => f x1 σ5) fun x23 σ6 =>
  grdK x20 false σ6 (fun f => addK x23 (.int .i64 1) fun v => f v σ6) fun x24 σ7 =>
  grdK x20 false σ7 (fun f => idxSK x22 x24 fun v => f v σ7) fun x25 σ8 =>
  grdK x20 false σ8 (fun f => calK run 138 [x25] σ8 f) fun x26 σ9 =>
  grdK x20 false σ9 (fun f => notK x26 fun v => f v σ9) fun x27 σ10 =>
  pickK x20 (.bool true) x27 fun x28 =>
  ifK x28 (
  .ret (.tup [.nili, (.int .i64 0), (.bool false)], σ10)) (
  addK x1 (.int .i64 1) fun x30 =>
  c97_4 run fu fu x0 x1 x30 σ10)

theorem eq97 (run : RunT) (fu : Nat) (x0 x1 : AV) (σ : Store) : codeK X0 run (.seq .leaf (.seq .leaf (.seq (.seq .leaf (.cond (.seq .leaf .leaf) .leaf)) (.seq .leaf (.seq (.block (.sub (fun fr σ => c97_4 run fu fu (G fr 0) (G fr 1) (G fr 7) σ))) (.sub (fun fr σ => c97_1 run fu (G fr 0) (G fr 1) (G fr 7) σ))))))) (subC [] b97) ([x0, x1] ++ padA (110 - 2)) σ k97 = c97 run fu x0 x1 σ := by kernel_rfl

theorem ok97 {run : RunT} (hrun : RunOK X0 run) (fu : Nat) (x0 x1 : AV) (σ : Store) : CallOK X0 97 [x0, x1] σ (c97 run fu x0 x1 σ) :=
  KOK.body (fn := Tryz.f97) (c := subC [] b97) (by kernel_rfl) (by kernel_rfl) (by show 2 ≤ 110; decide) (KOK.whole env0 hrun (eq97 run fu x0 x1 σ) ⟨trivial, ⟨trivial, ⟨⟨trivial, ⟨⟨trivial, trivial⟩, trivial⟩⟩, ⟨trivial, ⟨(ok97_4 hrun fu), (ok97_1 hrun fu)⟩⟩⟩⟩⟩)

-- pub-paratext/pub/rscmarkdown.isLetterDigit

noncomputable def b126 : Code := match Tryz.f126.body with | some c => c | none => .skip

noncomputable def k126 : Kont R := retK Tryz.prog [.tmp 2]

noncomputable def c126 (run : RunT) (fu : Nat) (x0 : AV) (σ : Store) : Tr R :=
  cmpK .leq (.int .u8 65) x0 fun x4 =>
  grdK x4 true σ (fun f => f x0 σ) fun x6 σ1 =>
  grdK x4 true σ1 (fun f => cmpK .leq x6 (.int .u8 90) fun v => f v σ1) fun x7 σ2 =>
  pickK x4 x7 (.bool false) fun x8 =>
  grdK x8 false σ2 (fun f => f x0 σ2) fun x10 σ3 =>
  grdK x8 false σ3 (fun f => cmpK .leq (.int .u8 97) x10 fun v => f v σ3) fun x11 σ4 =>
  grdK x8 false σ4 (fun f => f x11 σ4) fun x12 σ5 =>
  grdK x12 true σ5 (fun f => f x0 σ5) fun x13 σ6 =>
  grdK x12 true σ6 (fun f => cmpK .leq x13 (.int .u8 122) fun v => f v σ6) fun x14 σ7 =>
  grdK x8 false σ7 (fun f => pickK x12 x14 (.bool false) fun v => f v σ7) fun x15 σ8 =>
  pickK x8 (.bool true) x15 fun x16 =>
  grdK x16 false σ8 (fun f => f x0 σ8) fun x18 σ9 =>
  grdK x16 false σ9 (fun f => cmpK .leq (.int .u8 48) x18 fun v => f v σ9) fun x19 σ10 =>
  grdK x16 false σ10 (fun f => f x19 σ10) fun x20 σ11 =>
  grdK x20 true σ11 (fun f => f x0 σ11) fun x21 σ12 =>
  grdK x20 true σ12 (fun f => cmpK .leq x21 (.int .u8 57) fun v => f v σ12) fun x22 σ13 =>
  grdK x16 false σ13 (fun f => pickK x20 x22 (.bool false) fun v => f v σ13) fun x23 σ14 =>
  pickK x16 (.bool true) x23 fun x24 =>
  .ret (x24, σ14)

theorem eq126 (run : RunT) (fu : Nat) (x0 : AV) (σ : Store) : codeK X0 run (.seq .leaf (.seq .leaf .leaf)) (subC [] b126) ([x0] ++ padA (25 - 1)) σ k126 = c126 run fu x0 σ := by kernel_rfl

theorem ok126 {run : RunT} (hrun : RunOK X0 run) (fu : Nat) (x0 : AV) (σ : Store) : CallOK X0 126 [x0] σ (c126 run fu x0 σ) :=
  KOK.body (fn := Tryz.f126) (c := subC [] b126) (by kernel_rfl) (by kernel_rfl) (by show 1 ≤ 25; decide) (KOK.whole env0 hrun (eq126 run fu x0 σ) ⟨trivial, ⟨trivial, trivial⟩⟩)

-- pub-paratext/pub/rscmarkdown.isLetter

noncomputable def b138 : Code := match Tryz.f138.body with | some c => c | none => .skip

noncomputable def k138 : Kont R := retK Tryz.prog [.tmp 2]

noncomputable def c138 (run : RunT) (fu : Nat) (x0 : AV) (σ : Store) : Tr R :=
  cmpK .leq (.int .u8 65) x0 fun x4 =>
  grdK x4 true σ (fun f => f x0 σ) fun x6 σ1 =>
  grdK x4 true σ1 (fun f => cmpK .leq x6 (.int .u8 90) fun v => f v σ1) fun x7 σ2 =>
  pickK x4 x7 (.bool false) fun x8 =>
  grdK x8 false σ2 (fun f => f x0 σ2) fun x10 σ3 =>
  grdK x8 false σ3 (fun f => cmpK .leq (.int .u8 97) x10 fun v => f v σ3) fun x11 σ4 =>
  grdK x8 false σ4 (fun f => f x11 σ4) fun x12 σ5 =>
  grdK x12 true σ5 (fun f => f x0 σ5) fun x13 σ6 =>
  grdK x12 true σ6 (fun f => cmpK .leq x13 (.int .u8 122) fun v => f v σ6) fun x14 σ7 =>
  grdK x8 false σ7 (fun f => pickK x12 x14 (.bool false) fun v => f v σ7) fun x15 σ8 =>
  pickK x8 (.bool true) x15 fun x16 =>
  .ret (x16, σ8)

theorem eq138 (run : RunT) (fu : Nat) (x0 : AV) (σ : Store) : codeK X0 run (.seq .leaf (.seq .leaf .leaf)) (subC [] b138) ([x0] ++ padA (17 - 1)) σ k138 = c138 run fu x0 σ := by kernel_rfl

theorem ok138 {run : RunT} (hrun : RunOK X0 run) (fu : Nat) (x0 : AV) (σ : Store) : CallOK X0 138 [x0] σ (c138 run fu x0 σ) :=
  KOK.body (fn := Tryz.f138) (c := subC [] b138) (by kernel_rfl) (by kernel_rfl) (by show 1 ≤ 17; decide) (KOK.whole env0 hrun (eq138 run fu x0 σ) ⟨trivial, ⟨trivial, trivial⟩⟩)

-- pub-paratext/pub/rscmarkdown.isScheme

noncomputable def b144 : Code := match Tryz.f144.body with | some c => c | none => .skip

noncomputable def k144 : Kont R := retK Tryz.prog [.tmp 2]

noncomputable def c144 (run : RunT) (fu : Nat) (x0 : AV) (σ : Store) : Tr R :=
  calK run 126 [x0] σ fun x4 σ1 =>
  grdK x4 false σ1 (fun f => f x0 σ1) fun x6 σ2 =>
  grdK x4 false σ2 (fun f => cmpK .eql x6 (.int .u8 43) fun v => f v σ2) fun x7 σ3 =>
  pickK x4 (.bool true) x7 fun x8 =>
  grdK x8 false σ3 (fun f => f x0 σ3) fun x10 σ4 =>
  grdK x8 false σ4 (fun f => cmpK .eql x10 (.int .u8 46) fun v => f v σ4) fun x11 σ5 =>
  pickK x8 (.bool true) x11 fun x12 =>
  grdK x12 false σ5 (fun f => f x0 σ5) fun x14 σ6 =>
  grdK x12 false σ6 (fun f => cmpK .eql x14 (.int .u8 45) fun v => f v σ6) fun x15 σ7 =>
  pickK x12 (.bool true) x15 fun x16 =>
  .ret (x16, σ7)

theorem eq144 (run : RunT) (fu : Nat) (x0 : AV) (σ : Store) : codeK X0 run (.seq .leaf (.seq .leaf .leaf)) (subC [] b144) ([x0] ++ padA (17 - 1)) σ k144 = c144 run fu x0 σ := by kernel_rfl

theorem ok144 {run : RunT} (hrun : RunOK X0 run) (fu : Nat) (x0 : AV) (σ : Store) : CallOK X0 144 [x0] σ (c144 run fu x0 σ) :=
  KOK.body (fn := Tryz.f144) (c := subC [] b144) (by kernel_rfl) (by kernel_rfl) (by show 1 ≤ 17; decide) (KOK.whole env0 hrun (eq144 run fu x0 σ) ⟨trivial, ⟨trivial, trivial⟩⟩)

-- pub-paratext/pub/rscmarkdown.skipDomainElem

noncomputable def b147 : Code := match Tryz.f147.body with | some c => c | none => .skip

noncomputable def k147 : Kont R := retK Tryz.prog [.tmp 2, .tmp 3]

noncomputable def c147_1 (run : RunT) (fu : Nat) (x0 x4 : AV) (σ : Store) : Tr R :=
  cmpK .gtr x4 (.int .i64 63) fun x31 =>
  grdK x31 false σ (fun f => f x0 σ) fun x33 σ1 =>
  grdK x31 false σ1 (fun f => f x4 σ1) fun x34 σ2 =>
  grdK x31 false σ2 (fun f => subK x34 (.int .i64 1) fun v => f v σ2) fun x35 σ3 =>
  grdK x31 false σ3 (fun f => idxSK x33 x35 fun v => f v σ3) fun x36 σ4 =>
  grdK x31 false σ4 (fun f => calK run 126 [x36] σ4 f) fun x37 σ5 =>
  grdK x31 false σ5 (fun f => notK x37 fun v => f v σ5) fun x38 σ6 =>
  pickK x31 (.bool true) x38 fun x39 =>
  ifK x39 (
  .ret (.tup [(.int .i64 0), (.bool false)], σ6)) (
  .ret (.tup [x4, (.bool true)], σ6))

theorem eq147_1 (run : RunT) (fu : Nat) (x0 x4 : AV) (σ : Store) : codeK X0 run (.seq (.seq .leaf (.cond (.seq .leaf .leaf) .leaf)) (.seq .leaf .leaf)) (subC [true, true, true, true] b147) (frS 0 41 [(0, x0), (4, x4)]) σ k147 = c147_1 run fu x0 x4 σ := by kernel_rfl

theorem ok147_1 {run : RunT} (hrun : RunOK X0 run) (fu : Nat) : ∀ fr σ, KOK X0 41 (subC [true, true, true, true] b147) fr σ ((fun fr σ => c147_1 run fu (G fr 0) (G fr 4) σ) fr σ) k147 := fun fr σ =>
  KOK.piece env0 hrun [0, 4] (eq147_1 run fu (G fr 0) (G fr 4) σ) ⟨⟨trivial, ⟨⟨trivial, trivial⟩, trivial⟩⟩, ⟨trivial, trivial⟩⟩

noncomputable def c147_2b (run : RunT) (fu : Nat) (s2 : W2) (x0 x4 : AV) (σ : Store) : Tr R :=
  lenSK x0 fun x16 =>
  cmpK .lss x4 x16 fun x17 =>
  grdK x17 true σ (fun f => f x0 σ) fun x19 σ1 =>
  grdK x17 true σ1 (fun f => f x4 σ1) fun x20 σ2 =>
  grdK x17 true σ2 (fun f => idxSK x19 x20 fun v => f v σ2) fun x21 σ3 =>
  grdK x17 true σ3 (fun f => calK run 180 [x21] σ3 f) fun x22 σ4 =>
  pickK x17 x22 (.bool false) fun x23 =>
  grdK x23 true σ4 (fun f => f x4 σ4) fun x25 σ5 =>
  grdK x23 true σ5 (fun f => cmpK .leq x25 (.int .i64 63) fun v => f v σ5) fun x26 σ6 =>
  pickK x23 x26 (.bool false) fun x27 =>
  ifK x27 (
  addK x4 (.int .i64 1) fun x29 =>
  s2 x0 x29 σ6) (
  c147_1 run fu x0 x4 σ6)

noncomputable def c147_2 (run : RunT) (fu : Nat) : Nat → W2
  | 0 => fun _ _ _ => .fail
  | m + 1 => c147_2b run fu (c147_2 run fu m)

theorem eq147_2 (run : RunT) (fu : Nat) (s2 : W2) (x0 x4 : AV) (σ : Store) : codeK X0 run (.seq (.seq .leaf (.cond .leaf .leaf)) (.block .leaf)) (subC [true, true, true, false, false, false] b147) (frS 0 41 [(0, x0), (4, x4)]) σ (thenK (fun fr σ => s2 (G fr 0) (G fr 4) σ) (blockK 0 (thenK (fun fr σ => c147_1 run fu (G fr 0) (G fr 4) σ) k147))) = c147_2b run fu s2 x0 x4 σ := by kernel_rfl

theorem owed147_2 {run : RunT} (hrun : RunOK X0 run) (fu : Nat) (s2 : W2) : Owes X0 run 41 (.seq (.seq .leaf (.cond .leaf .leaf)) (.block .leaf)) (subC [true, true, true, false, false, false] b147) (thenK (fun fr σ => s2 (G fr 0) (G fr 4) σ) (blockK 0 (thenK (fun fr σ => c147_1 run fu (G fr 0) (G fr 4) σ) k147))) :=
  ⟨⟨trivial, ⟨trivial, trivial⟩⟩, trivial⟩

theorem ok147_2 {run : RunT} (hrun : RunOK X0 run) (fu : Nat) : ∀ fr σ, KOK X0 41 (subC [true, true, true, false, false] b147) fr σ ((fun fr σ => c147_2 run fu fu (G fr 0) (G fr 4) σ) fr σ) (blockK 0 (thenK (fun fr σ => c147_1 run fu (G fr 0) (G fr 4) σ) k147)) := by
  have h := KOK.loop (X := X0) (N := 41) (b := (subC [true, true, true, false, false, false] b147)) (k := (blockK 0 (thenK (fun fr σ => c147_1 run fu (G fr 0) (G fr 4) σ) k147))) (u := fun m fr σ => c147_2 run fu m (G fr 0) (G fr 4) σ) (fun _ _ => rfl) (fun m fr σ => KOK.piece env0 hrun [0, 4] (eq147_2 run fu (c147_2 run fu m) (G fr 0) (G fr 4) σ) (owed147_2 hrun fu (c147_2 run fu m)))
  exact fun fr σ => h fu fr σ

noncomputable def c147 (run : RunT) (fu : Nat) (x0 : AV) (σ : Store) : Tr R :=
  lenSK x0 fun x6 =>
  cmpK .lss x6 (.int .i64 1) fun x7 =>
  grdK x7 false σ (fun f => f x0 σ) fun x9 σ1 =>
  grdK x7 false σ1 (fun f => idxSK x9 (.int .i64 0) fun v => f v σ1) fun x10 σ2 =>
  grdK x7 false σ2 (fun f => calK run 126 [x10] σ2 f) fun x11 σ3 =>
  grdK x7 false σ3 (fun f => notK x11 fun v => f v σ3) fun x12 σ4 =>
  pickK x7 (.bool true) x12 fun x13 =>
  ifK x13 (
  .ret (.tup [(.int .i64 0), (.bool false)], σ4)) (
  c147_2 run fu fu x0 (.int .i64 1) σ4)

theorem eq147 (run : RunT) (fu : Nat) (x0 : AV) (σ : Store) : codeK X0 run (.seq .leaf (.seq (.seq .leaf (.cond (.seq .leaf .leaf) .leaf)) (.seq .leaf (.seq (.block (.sub (fun fr σ => c147_2 run fu fu (G fr 0) (G fr 4) σ))) (.sub (fun fr σ => c147_1 run fu (G fr 0) (G fr 4) σ)))))) (subC [] b147) ([x0] ++ padA (41 - 1)) σ k147 = c147 run fu x0 σ := by kernel_rfl

theorem ok147 {run : RunT} (hrun : RunOK X0 run) (fu : Nat) (x0 : AV) (σ : Store) : CallOK X0 147 [x0] σ (c147 run fu x0 σ) :=
  KOK.body (fn := Tryz.f147) (c := subC [] b147) (by kernel_rfl) (by kernel_rfl) (by show 1 ≤ 41; decide) (KOK.whole env0 hrun (eq147 run fu x0 σ) ⟨trivial, ⟨⟨trivial, ⟨⟨trivial, trivial⟩, trivial⟩⟩, ⟨trivial, ⟨(ok147_2 hrun fu), (ok147_1 hrun fu)⟩⟩⟩⟩)

-- pub-paratext/pub/rscmarkdown.parseHTMLOpenTag

noncomputable def b148 : Code := match Tryz.f148.body with | some c => c | none => .skip

noncomputable def k148 : Kont R := retK Tryz.prog [.tmp 6, .tmp 7, .tmp 8]

noncomputable def c148_1 (run : RunT) (fu : Nat) (σ : Store) : Tr R :=
  .ret (.tup [.nili, (.int .i64 0), (.bool false)], σ)

theorem eq148_1 (run : RunT) (fu : Nat) (σ : Store) : codeK X0 run (.seq .leaf .leaf) (subC [true, true, true] b148) (frS 0 131 []) σ k148 = c148_1 run fu σ := by kernel_rfl

theorem ok148_1 {run : RunT} (hrun : RunOK X0 run) (fu : Nat) : ∀ fr σ, KOK X0 131 (subC [true, true, true] b148) fr σ ((fun fr σ => c148_1 run fu σ) fr σ) k148 := fun fr σ =>
  KOK.piece env0 hrun [] (eq148_1 run fu σ) ⟨trivial, trivial⟩

noncomputable def c148_5 (run : RunT) (fu : Nat) (x1 x2 x10 : AV) (σ : Store) : Tr R :=
  lenSK x1 fun x113 =>
  cmpK .lss x10 x113 fun x114 =>
  grdK x114 true σ (fun f => f x1 σ) fun x116 σ1 =>
  grdK x114 true σ1 (fun f => f x10 σ1) fun x117 σ2 =>
  grdK x114 true σ2 (fun f => idxSK x116 x117 fun v => f v σ2) fun x118 σ3 =>
  grdK x114 true σ3 (fun f => cmpK .eql x118 (.int .u8 62) fun v => f v σ3) fun x119 σ4 =>
  pickK x114 x119 (.bool false) fun x120 =>
  ifK x120 (
  addK x10 (.int .i64 1) fun x124 =>
  sliceSK x1 (some x2) (some x124) fun x125 =>
  bldK [(.str [])] [(0, 1, x125)] fun x126 =>
  boxK σ4 565 x126 fun x127 σ5 =>
  addK x10 (.int .i64 1) fun x130 =>
  .ret (.tup [(.iface 281 x127), x130, (.bool true)], σ5)) (
  c148_1 run fu σ4)

theorem eq148_5 (run : RunT) (fu : Nat) (x1 x2 x10 : AV) (σ : Store) : codeK X0 run (.seq .leaf (.cond (.seq .leaf .leaf) .leaf)) (subC [true, true, false, true, true, false, true, true, true, true, true, true] b148) (frS 0 131 [(1, x1), (2, x2), (10, x10)]) σ (thenK (fun fr σ => c148_1 run fu σ) k148) = c148_5 run fu x1 x2 x10 σ := by kernel_rfl

theorem ok148_5 {run : RunT} (hrun : RunOK X0 run) (fu : Nat) : ∀ fr σ, KOK X0 131 (subC [true, true, false, true, true, false, true, true, true, true, true, true] b148) fr σ ((fun fr σ => c148_5 run fu (G fr 1) (G fr 2) (G fr 10) σ) fr σ) (thenK (fun fr σ => c148_1 run fu σ) k148) := fun fr σ =>
  KOK.piece env0 hrun [1, 2, 10] (eq148_5 run fu (G fr 1) (G fr 2) (G fr 10) σ) ⟨trivial, ⟨⟨trivial, trivial⟩, trivial⟩⟩

noncomputable def c148_4 (run : RunT) (fu : Nat) (x1 x2 x15 : AV) (σ : Store) : Tr R :=
  lenSK x1 fun x101 =>
  cmpK .lss x15 x101 fun x102 =>
  grdK x102 true σ (fun f => f x1 σ) fun x104 σ1 =>
  grdK x102 true σ1 (fun f => f x15 σ1) fun x105 σ2 =>
  grdK x102 true σ2 (fun f => idxSK x104 x105 fun v => f v σ2) fun x106 σ3 =>
  grdK x102 true σ3 (fun f => cmpK .eql x106 (.int .u8 47) fun v => f v σ3) fun x107 σ4 =>
  pickK x102 x107 (.bool false) fun x108 =>
  ifK x108 (
  addK x15 (.int .i64 1) fun x110 =>
  c148_5 run fu x1 x2 x110 σ4) (
  c148_5 run fu x1 x2 x15 σ4)

theorem eq148_4 (run : RunT) (fu : Nat) (x1 x2 x15 : AV) (σ : Store) : codeK X0 run (.seq .leaf (.seq (.seq .leaf (.cond .leaf .leaf)) (.sub (fun fr σ => c148_5 run fu (G fr 1) (G fr 2) (G fr 10) σ)))) (subC [true, true, false, true, true, false, true, true, true, true] b148) (frS 0 131 [(1, x1), (2, x2), (15, x15)]) σ (thenK (fun fr σ => c148_1 run fu σ) k148) = c148_4 run fu x1 x2 x15 σ := by kernel_rfl

theorem ok148_4 {run : RunT} (hrun : RunOK X0 run) (fu : Nat) : ∀ fr σ, KOK X0 131 (subC [true, true, false, true, true, false, true, true, true, true] b148) fr σ ((fun fr σ => c148_4 run fu (G fr 1) (G fr 2) (G fr 15) σ) fr σ) (thenK (fun fr σ => c148_1 run fu σ) k148) := fun fr σ =>
  KOK.piece env0 hrun [1, 2, 15] (eq148_4 run fu (G fr 1) (G fr 2) (G fr 15) σ) ⟨trivial, ⟨⟨trivial, ⟨trivial, trivial⟩⟩, (ok148_5 hrun fu)⟩⟩

noncomputable def c148_3 (run : RunT) (fu : Nat) (x0 x1 x2 x10 : AV) (σ : Store) : Tr R :=
  calK run 110 [x1, x10] σ fun x91 σ1 =>
  cmpK .neq x91 x10 fun x94 =>
  ifK x94 (
  nchkK x0 fun x96 =>
  addrK x96 6 fun x97 =>
  st1K σ1 x97 (.bool true) fun _ σ2 =>
  c148_4 run fu x1 x2 x91 σ2) (
  c148_4 run fu x1 x2 x91 σ1)

theorem eq148_3 (run : RunT) (fu : Nat) (x0 x1 x2 x10 : AV) (σ : Store) : codeK X0 run (.seq .leaf (.seq (.seq .leaf (.cond .leaf .leaf)) (.sub (fun fr σ => c148_4 run fu (G fr 1) (G fr 2) (G fr 15) σ)))) (subC [true, true, false, true, true, false, true, true] b148) (frS 0 131 [(0, x0), (1, x1), (2, x2), (10, x10)]) σ (thenK (fun fr σ => c148_1 run fu σ) k148) = c148_3 run fu x0 x1 x2 x10 σ := by kernel_rfl

theorem ok148_3 {run : RunT} (hrun : RunOK X0 run) (fu : Nat) : ∀ fr σ, KOK X0 131 (subC [true, true, false, true, true, false, true, true] b148) fr σ ((fun fr σ => c148_3 run fu (G fr 0) (G fr 1) (G fr 2) (G fr 10) σ) fr σ) (thenK (fun fr σ => c148_1 run fu σ) k148) := fun fr σ =>
  KOK.piece env0 hrun [0, 1, 2, 10] (eq148_3 run fu (G fr 0) (G fr 1) (G fr 2) (G fr 10) σ) ⟨trivial, ⟨⟨trivial, ⟨trivial, trivial⟩⟩, (ok148_4 hrun fu)⟩⟩

noncomputable def c148_6b (run : RunT) (fu : Nat) (s6 : W4) (x0 x1 x2 x10 : AV) (σ : Store) : Tr R :=
  lenSK x1 fun x46 =>
  cmpK .geq x10 x46 fun x47 =>
  grdK x47 false σ (fun f => f x1 σ) fun x49 σ1 =>
  grdK x47 false σ1 (fun f => f x10 σ1) fun x50 σ2 =>
  grdK x47 false σ2 (fun f => idxSK x49 x50 fun v => f v σ2) fun x51 σ3 =>
  grdK x47 false σ3 (fun f => cmpK .neq x51 (.int .u8 32) fun v => f v σ3) fun x52 σ4 =>
  grdK x47 false σ4 (fun f => f x52 σ4) fun x53 σ5 =>
  grdK x53 true σ5 (fun f => f x1 σ5) fun x54 σ6 =>
  grdK x53 true σ6 (fun f => f x10 σ6) fun x55 σ7 =>
  grdK x53 true σ7 (fun f => idxSK x54 x55 fun v => f v σ7) fun x56 σ8 =>
  grdK x53 true σ8 (fun f => cmpK .neq x56 (.int .u8 9) fun v => f v σ8) fun x57 σ9 =>
  grdK x47 false σ9 (fun f => pickK x53 x57 (.bool false) fun v => f v σ9) fun x58 σ10 =>
  grdK x47 false σ10 (fun f => f x58 σ10) fun x59 σ11 =>
  grdK x59 true σ11 (fun f => f x1 σ11) fun x60 σ12 =>
  grdK x59 true σ12 (fun f => f x10 σ12) fun x61 σ13 =>
  grdK x59 true σ13 (fun f => idxSK x60 x61 fun v => f v σ13) fun x62 σ14 =>
  grdK x59 true σ14 (fun f => cmpK .neq x62 (.int .u8 10) fun v => f v σ14) fun x63 σ15 =>
  grdK x47 false σ15 (fun f => pickK x59 x63 (.bool false) fun v => f v σ15) fun x64 σ16 =>
  grdK x47 false σ16 (fun f => f x64 σ16) fun x65 σ17 =>
  grdK x65 true σ17 (fun f => f x1 σ17) fun x66 σ18 =>
  grdK x65 true σ18 (fun f => f x10 σ18) fun x67 σ19 =>
  grdK x65 true σ19 (fun f => idxSK x66 x67 fun v => f v σ19) fun x68 σ20 =>
  grdK x65 true σ20 (fun f => cmpK .neq x68 (.int .u8 47) fun v => f v σ20) fun x69 σ21 =>
  grdK x47 false σ21 (fun f => pickK x65 x69 (.bool false) fun v => f v σ21) fun x70 σ22 =>
  grdK x47 false σ22 (fun f => f x70 σ22) fun x71 σ23 =>
  grdK x71 true σ23 (fun f => f x1 σ23) fun x72 σ24 =>
  grdK x71 true σ24 (fun f => f x10 σ24) fun x73 σ25 =>
  grdK x71 true σ25 (fun f => idxSK x72 x73 fun v => f v σ25) fun x74 σ26 =>
  grdK x71 true σ26 (fun f => cmpK .neq x74 (.int .u8 62) fun v => f v σ26) fun x75 σ27 =>
  grdK x47 false σ27 (fun f => pickK x71 x75 (.bool false) fun v => f v σ27) fun x76 σ28 =>
  pickK x47 (.bool true) x76 fun x77 =>
  ifK x77 (
  .ret (.tup [.nili, (.int .i64 0), (.bool false)], σ28)) (
  calK run 182 [x0, x1, x10] σ28 fun x82 σ29 =>
  extK x82 0 fun x83 =>
  extK x82 1 fun x84 =>
  extK x82 2 fun x85 =>
  notK x85 fun x87 =>
  ifK x87 (
  c148_3 run fu x0 x1 x2 x10 σ29) (
  s6 x0 x1 x2 x84 σ29))

noncomputable def c148_6 (run : RunT) (fu : Nat) : Nat → W4
  | 0 => fun _ _ _ _ _ => .fail
  | m + 1 => c148_6b run fu (c148_6 run fu m)

theorem eq148_6 (run : RunT) (fu : Nat) (s6 : W4) (x0 x1 x2 x10 : AV) (σ : Store) : codeK X0 run (.block (.seq (.seq .leaf (.cond (.seq .leaf .leaf) .leaf)) (.seq .leaf (.seq (.seq .leaf (.cond .leaf .leaf)) .leaf)))) (subC [true, true, false, true, true, false, true, false, false, false] b148) (frS 0 131 [(0, x0), (1, x1), (2, x2), (10, x10)]) σ (thenK (fun fr σ => s6 (G fr 0) (G fr 1) (G fr 2) (G fr 10) σ) (blockK 1 (thenK (fun fr σ => c148_3 run fu (G fr 0) (G fr 1) (G fr 2) (G fr 10) σ) (thenK (fun fr σ => c148_1 run fu σ) k148)))) = c148_6b run fu s6 x0 x1 x2 x10 σ := by kernel_rfl

theorem owed148_6 {run : RunT} (hrun : RunOK X0 run) (fu : Nat) (s6 : W4) : Owes X0 run 131 (.block (.seq (.seq .leaf (.cond (.seq .leaf .leaf) .leaf)) (.seq .leaf (.seq (.seq .leaf (.cond .leaf .leaf)) .leaf)))) (subC [true, true, false, true, true, false, true, false, false, false] b148) (thenK (fun fr σ => s6 (G fr 0) (G fr 1) (G fr 2) (G fr 10) σ) (blockK 1 (thenK (fun fr σ => c148_3 run fu (G fr 0) (G fr 1) (G fr 2) (G fr 10) σ) (thenK (fun fr σ => c148_1 run fu σ) k148)))) :=
  ⟨⟨trivial, ⟨⟨trivial, trivial⟩, trivial⟩⟩, ⟨trivial, ⟨⟨trivial, ⟨trivial, trivial⟩⟩, trivial⟩⟩⟩

theorem ok148_6 {run : RunT} (hrun : RunOK X0 run) (fu : Nat) : ∀ fr σ, KOK X0 131 (subC [true, true, false, true, true, false, true, false, false] b148) fr σ ((fun fr σ => c148_6 run fu fu (G fr 0) (G fr 1) (G fr 2) (G fr 10) σ) fr σ) (blockK 1 (thenK (fun fr σ => c148_3 run fu (G fr 0) (G fr 1) (G fr 2) (G fr 10) σ) (thenK (fun fr σ => c148_1 run fu σ) k148))) := by
  have h := KOK.loop (X := X0) (N := 131) (b := (subC [true, true, false, true, true, false, true, false, false, false] b148)) (k := (blockK 1 (thenK (fun fr σ => c148_3 run fu (G fr 0) (G fr 1) (G fr 2) (G fr 10) σ) (thenK (fun fr σ => c148_1 run fu σ) k148)))) (u := fun m fr σ => c148_6 run fu m (G fr 0) (G fr 1) (G fr 2) (G fr 10) σ) (fun _ _ => rfl) (fun m fr σ => KOK.piece env0 hrun [0, 1, 2, 10] (eq148_6 run fu (c148_6 run fu m) (G fr 0) (G fr 1) (G fr 2) (G fr 10) σ) (owed148_6 hrun fu (c148_6 run fu m)))
  exact fun fr σ => h fu fr σ

noncomputable def c148_2 (run : RunT) (fu : Nat) (x0 x1 x2 x10 : AV) (σ : Store) : Tr R :=
  c148_6 run fu fu x0 x1 x2 x10 σ

theorem eq148_2 (run : RunT) (fu : Nat) (x0 x1 x2 x10 : AV) (σ : Store) : codeK X0 run (.seq (.block (.sub (fun fr σ => c148_6 run fu fu (G fr 0) (G fr 1) (G fr 2) (G fr 10) σ))) (.sub (fun fr σ => c148_3 run fu (G fr 0) (G fr 1) (G fr 2) (G fr 10) σ))) (subC [true, true, false, true, true, false, true] b148) (frS 0 131 [(0, x0), (1, x1), (2, x2), (10, x10)]) σ (thenK (fun fr σ => c148_1 run fu σ) k148) = c148_2 run fu x0 x1 x2 x10 σ := by kernel_rfl

theorem ok148_2 {run : RunT} (hrun : RunOK X0 run) (fu : Nat) : ∀ fr σ, KOK X0 131 (subC [true, true, false, true, true, false, true] b148) fr σ ((fun fr σ => c148_2 run fu (G fr 0) (G fr 1) (G fr 2) (G fr 10) σ) fr σ) (thenK (fun fr σ => c148_1 run fu σ) k148) := fun fr σ =>
  KOK.piece env0 hrun [0, 1, 2, 10] (eq148_2 run fu (G fr 0) (G fr 1) (G fr 2) (G fr 10) σ) ⟨(ok148_6 hrun fu), (ok148_3 hrun fu)⟩

noncomputable def c148_7 (run : RunT) (fu : Nat) (x0 x1 x2 x10 x36 : AV) (σ : Store) : Tr R :=
  ifK x36 (
  nchkK x0 fun x42 =>
  addrK x42 6 fun x43 =>
  st1K σ x43 (.bool true) fun _ σ1 =>
  c148_2 run fu x0 x1 x2 x10 σ1) (
  c148_2 run fu x0 x1 x2 x10 σ)

theorem eq148_7 (run : RunT) (fu : Nat) (x0 x1 x2 x10 x36 : AV) (σ : Store) : codeK X0 run (.cond .leaf .leaf) (subC [true, true, false, true, true, false, false, true, false, true] b148) (frS 0 131 [(0, x0), (1, x1), (2, x2), (10, x10), (36, x36)]) σ (blockK 0 (thenK (fun fr σ => c148_2 run fu (G fr 0) (G fr 1) (G fr 2) (G fr 10) σ) (thenK (fun fr σ => c148_1 run fu σ) k148))) = c148_7 run fu x0 x1 x2 x10 x36 σ := by kernel_rfl

theorem ok148_7 {run : RunT} (hrun : RunOK X0 run) (fu : Nat) : ∀ fr σ, KOK X0 131 (subC [true, true, false, true, true, false, false, true, false, true] b148) fr σ ((fun fr σ => c148_7 run fu (G fr 0) (G fr 1) (G fr 2) (G fr 10) (G fr 36) σ) fr σ) (blockK 0 (thenK (fun fr σ => c148_2 run fu (G fr 0) (G fr 1) (G fr 2) (G fr 10) σ) (thenK (fun fr σ => c148_1 run fu σ) k148))) := fun fr σ =>
  KOK.piece env0 hrun [0, 1, 2, 10, 36] (eq148_7 run fu (G fr 0) (G fr 1) (G fr 2) (G fr 10) (G fr 36) σ) ⟨trivial, trivial⟩

noncomputable def c148 (run : RunT) (fu : Nat) (x0 x1 x2 : AV) (σ : Store) : Tr R :=
  lenSK x1 fun x18 =>
  cmpK .geq x2 x18 fun x19 =>
  grdK x19 false σ (fun f => f x1 σ) fun x21 σ1 =>
  grdK x19 false σ1 (fun f => f x2 σ1) fun x22 σ2 =>
  grdK x19 false σ2 (fun f => idxSK x21 x22 fun v => f v σ2) fun x23 σ3 =>
  grdK x19 false σ3 (fun f => cmpK .neq x23 (.int .u8 60) fun v => f v σ3) fun x24 σ4 =>
  pickK x19 (.bool true) x24 fun x25 =>
  ifK x25 (
  .ret (.tup [.nili, (.int .i64 0), (.bool false)], σ4)) (
  addK x2 (.int .i64 1) fun x29 =>
  calK run 181 [x1, x29] σ4 fun x30 σ5 =>
  extK x30 0 fun x31 =>
  extK x30 1 fun x32 =>
  extK x30 2 fun x33 =>
  ifK x33 (
  eqSK x31 (.str [112, 114, 101]) fun x37 =>
  ifK x37 (
  c148_7 run fu x0 x1 x2 x32 x37 σ5) (
  eqSK x31 (.str [115, 99, 114, 105, 112, 116]) fun x38 =>
  ifK x38 (
  c148_7 run fu x0 x1 x2 x32 x38 σ5) (
  eqSK x31 (.str [115, 116, 121, 108, 101]) fun x39 =>
  ifK x39 (
  c148_7 run fu x0 x1 x2 x32 x39 σ5) (
  eqSK x31 (.str [116, 101, 120, 116, 97, 114, 101, 97]) fun x40 =>
  c148_7 run fu x0 x1 x2 x32 x40 σ5)))) (
  c148_1 run fu σ5))

theorem eq148 (run : RunT) (fu : Nat) (x0 x1 x2 : AV) (σ : Store) : codeK X0 run (.seq .leaf (.seq (.seq .leaf (.cond (.seq .leaf .leaf) .leaf)) (.seq (.seq .leaf (.seq .leaf (.cond (.seq (.seq .leaf (.block (.seq (.seq .leaf (.cond .leaf (.seq .leaf (.cond .leaf (.seq .leaf (.cond .leaf .leaf)))))) (.sub (fun fr σ => c148_7 run fu (G fr 0) (G fr 1) (G fr 2) (G fr 10) (G fr 36) σ))))) (.sub (fun fr σ => c148_2 run fu (G fr 0) (G fr 1) (G fr 2) (G fr 10) σ))) .leaf))) (.sub (fun fr σ => c148_1 run fu σ))))) (subC [] b148) ([x0, x1, x2] ++ padA (131 - 3)) σ k148 = c148 run fu x0 x1 x2 σ := by kernel_rfl

theorem ok148 {run : RunT} (hrun : RunOK X0 run) (fu : Nat) (x0 x1 x2 : AV) (σ : Store) : CallOK X0 148 [x0, x1, x2] σ (c148 run fu x0 x1 x2 σ) :=
  KOK.body (fn := Tryz.f148) (c := subC [] b148) (by kernel_rfl) (by kernel_rfl) (by show 3 ≤ 131; decide) (KOK.whole env0 hrun (eq148 run fu x0 x1 x2 σ) ⟨trivial, ⟨⟨trivial, ⟨⟨trivial, trivial⟩, trivial⟩⟩, ⟨⟨trivial, ⟨trivial, ⟨⟨⟨trivial, ⟨⟨trivial, ⟨trivial, ⟨trivial, ⟨trivial, ⟨trivial, ⟨trivial, trivial⟩⟩⟩⟩⟩⟩, (ok148_7 hrun fu)⟩⟩, (ok148_2 hrun fu)⟩, trivial⟩⟩⟩, (ok148_1 hrun fu)⟩⟩⟩)

-- pub-paratext/pub/rscmarkdown.isLDH

noncomputable def b180 : Code := match Tryz.f180.body with | some c => c | none => .skip

noncomputable def k180 : Kont R := retK Tryz.prog [.tmp 2]

noncomputable def c180 (run : RunT) (fu : Nat) (x0 : AV) (σ : Store) : Tr R :=
  calK run 126 [x0] σ fun x4 σ1 =>
  grdK x4 false σ1 (fun f => f x0 σ1) fun x6 σ2 =>
  grdK x4 false σ2 (fun f => cmpK .eql x6 (.int .u8 45) fun v => f v σ2) fun x7 σ3 =>
  pickK x4 (.bool true) x7 fun x8 =>
  .ret (x8, σ3)

theorem eq180 (run : RunT) (fu : Nat) (x0 : AV) (σ : Store) : codeK X0 run (.seq .leaf (.seq .leaf .leaf)) (subC [] b180) ([x0] ++ padA (9 - 1)) σ k180 = c180 run fu x0 σ := by kernel_rfl

theorem ok180 {run : RunT} (hrun : RunOK X0 run) (fu : Nat) (x0 : AV) (σ : Store) : CallOK X0 180 [x0] σ (c180 run fu x0 σ) :=
  KOK.body (fn := Tryz.f180) (c := subC [] b180) (by kernel_rfl) (by kernel_rfl) (by show 1 ≤ 9; decide) (KOK.whole env0 hrun (eq180 run fu x0 σ) ⟨trivial, ⟨trivial, trivial⟩⟩)

-- pub-paratext/pub/rscmarkdown.parseTagName

noncomputable def b181 : Code := match Tryz.f181.body with | some c => c | none => .skip

noncomputable def k181 : Kont R := retK Tryz.prog [.tmp 4, .tmp 5, .tmp 6]

noncomputable def c181_1 (run : RunT) (fu : Nat) (σ : Store) : Tr R :=
  .ret (.tup [(.str []), (.int .i64 0), (.bool false)], σ)

theorem eq181_1 (run : RunT) (fu : Nat) (σ : Store) : codeK X0 run (.seq .leaf .leaf) (subC [true, true] b181) (frS 0 37 []) σ k181 = c181_1 run fu σ := by kernel_rfl

theorem ok181_1 {run : RunT} (hrun : RunOK X0 run) (fu : Nat) : ∀ fr σ, KOK X0 37 (subC [true, true] b181) fr σ ((fun fr σ => c181_1 run fu σ) fr σ) k181 := fun fr σ =>
  KOK.piece env0 hrun [] (eq181_1 run fu σ) ⟨trivial, trivial⟩

noncomputable def c181_2 (run : RunT) (fu : Nat) (x0 x1 x7 : AV) (σ : Store) : Tr R :=
  sliceSK x0 (some x1) (some x7) fun x35 =>
  .ret (.tup [x35, x7, (.bool true)], σ)

theorem eq181_2 (run : RunT) (fu : Nat) (x0 x1 x7 : AV) (σ : Store) : codeK X0 run (.seq .leaf .leaf) (subC [true, false, true, false, true, true] b181) (frS 0 37 [(0, x0), (1, x1), (7, x7)]) σ (thenK (fun fr σ => c181_1 run fu σ) k181) = c181_2 run fu x0 x1 x7 σ := by kernel_rfl

theorem ok181_2 {run : RunT} (hrun : RunOK X0 run) (fu : Nat) : ∀ fr σ, KOK X0 37 (subC [true, false, true, false, true, true] b181) fr σ ((fun fr σ => c181_2 run fu (G fr 0) (G fr 1) (G fr 7) σ) fr σ) (thenK (fun fr σ => c181_1 run fu σ) k181) := fun fr σ =>
  KOK.piece env0 hrun [0, 1, 7] (eq181_2 run fu (G fr 0) (G fr 1) (G fr 7) σ) ⟨trivial, trivial⟩

noncomputable def c181_3b (run : RunT) (fu : Nat) (s3 : W3) (x0 x1 x7 : AV) (σ : Store) : Tr R :=
  lenSK x0 fun x22 =>
  cmpK .lss x7 x22 fun x23 =>
  grdK x23 true σ (fun f => f x0 σ) fun x25 σ1 =>
  grdK x23 true σ1 (fun f => f x7 σ1) fun x26 σ2 =>
  grdK x23 true σ2 (fun f => idxSK x25 x26 fun v => f v σ2) fun x27 σ3 =>
  grdK x23 true σ3 (fun f => calK run 180 [x27] σ3 f) fun x28 σ4 =>
  pickK x23 x28 (.bool false) fun x29 =>
  ifK x29 (
  addK x7 (.int .i64 1) fun x31 =>
  s3 x0 x1 x31 σ4) (
  c181_2 run fu x0 x1 x7 σ4)

noncomputable def c181_3 (run : RunT) (fu : Nat) : Nat → W3
  | 0 => fun _ _ _ _ => .fail
  | m + 1 => c181_3b run fu (c181_3 run fu m)

theorem eq181_3 (run : RunT) (fu : Nat) (s3 : W3) (x0 x1 x7 : AV) (σ : Store) : codeK X0 run (.seq (.seq .leaf (.cond .leaf .leaf)) (.block .leaf)) (subC [true, false, true, false, true, false, false, false] b181) (frS 0 37 [(0, x0), (1, x1), (7, x7)]) σ (thenK (fun fr σ => s3 (G fr 0) (G fr 1) (G fr 7) σ) (blockK 0 (thenK (fun fr σ => c181_2 run fu (G fr 0) (G fr 1) (G fr 7) σ) (thenK (fun fr σ => c181_1 run fu σ) k181)))) = c181_3b run fu s3 x0 x1 x7 σ := by kernel_rfl

theorem owed181_3 {run : RunT} (hrun : RunOK X0 run) (fu : Nat) (s3 : W3) : Owes X0 run 37 (.seq (.seq .leaf (.cond .leaf .leaf)) (.block .leaf)) (subC [true, false, true, false, true, false, false, false] b181) (thenK (fun fr σ => s3 (G fr 0) (G fr 1) (G fr 7) σ) (blockK 0 (thenK (fun fr σ => c181_2 run fu (G fr 0) (G fr 1) (G fr 7) σ) (thenK (fun fr σ => c181_1 run fu σ) k181)))) :=
  ⟨⟨trivial, ⟨trivial, trivial⟩⟩, trivial⟩

theorem ok181_3 {run : RunT} (hrun : RunOK X0 run) (fu : Nat) : ∀ fr σ, KOK X0 37 (subC [true, false, true, false, true, false, false] b181) fr σ ((fun fr σ => c181_3 run fu fu (G fr 0) (G fr 1) (G fr 7) σ) fr σ) (blockK 0 (thenK (fun fr σ => c181_2 run fu (G fr 0) (G fr 1) (G fr 7) σ) (thenK (fun fr σ => c181_1 run fu σ) k181))) := by
  have h := KOK.loop (X := X0) (N := 37) (b := (subC [true, false, true, false, true, false, false, false] b181)) (k := (blockK 0 (thenK (fun fr σ => c181_2 run fu (G fr 0) (G fr 1) (G fr 7) σ) (thenK (fun fr σ => c181_1 run fu σ) k181)))) (u := fun m fr σ => c181_3 run fu m (G fr 0) (G fr 1) (G fr 7) σ) (fun _ _ => rfl) (fun m fr σ => KOK.piece env0 hrun [0, 1, 7] (eq181_3 run fu (c181_3 run fu m) (G fr 0) (G fr 1) (G fr 7) σ) (owed181_3 hrun fu (c181_3 run fu m)))
  exact fun fr σ => h fu fr σ

noncomputable def c181 (run : RunT) (fu : Nat) (x0 x1 : AV) (σ : Store) : Tr R :=
  lenSK x0 fun x10 =>
  cmpK .lss x1 x10 fun x11 =>
  grdK x11 true σ (fun f => f x0 σ) fun x13 σ1 =>
  grdK x11 true σ1 (fun f => f x1 σ1) fun x14 σ2 =>
  grdK x11 true σ2 (fun f => idxSK x13 x14 fun v => f v σ2) fun x15 σ3 =>
  grdK x11 true σ3 (fun f => calK run 138 [x15] σ3 f) fun x16 σ4 =>
  pickK x11 x16 (.bool false) fun x17 =>
  ifK x17 (
  addK x1 (.int .i64 1) fun x19 =>
  c181_3 run fu fu x0 x1 x19 σ4) (
  c181_1 run fu σ4)

theorem eq181 (run : RunT) (fu : Nat) (x0 x1 : AV) (σ : Store) : codeK X0 run (.seq .leaf (.seq (.seq .leaf (.cond (.seq .leaf (.seq (.block (.sub (fun fr σ => c181_3 run fu fu (G fr 0) (G fr 1) (G fr 7) σ))) (.sub (fun fr σ => c181_2 run fu (G fr 0) (G fr 1) (G fr 7) σ)))) .leaf)) (.sub (fun fr σ => c181_1 run fu σ)))) (subC [] b181) ([x0, x1] ++ padA (37 - 2)) σ k181 = c181 run fu x0 x1 σ := by kernel_rfl

theorem ok181 {run : RunT} (hrun : RunOK X0 run) (fu : Nat) (x0 x1 : AV) (σ : Store) : CallOK X0 181 [x0, x1] σ (c181 run fu x0 x1 σ) :=
  KOK.body (fn := Tryz.f181) (c := subC [] b181) (by kernel_rfl) (by kernel_rfl) (by show 2 ≤ 37; decide) (KOK.whole env0 hrun (eq181 run fu x0 x1 σ) ⟨trivial, ⟨⟨trivial, ⟨⟨trivial, ⟨(ok181_3 hrun fu), (ok181_2 hrun fu)⟩⟩, trivial⟩⟩, (ok181_1 hrun fu)⟩⟩)

end Go.Proofs.YtfmgdjkcdmjloaaGreatDoor
