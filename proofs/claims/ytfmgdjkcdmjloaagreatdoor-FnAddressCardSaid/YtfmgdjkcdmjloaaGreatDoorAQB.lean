/- Functions of the program, told as Lean functions of abstract values and stores, each with its proof. -/
import Derived.Test.YtfmgdjkcdmjloaaGreatDoorSyX
import Derived.Test.YtfmgdjkcdmjloaaGreatDoorSyRe
import Derived.Test.YtfmgdjkcdmjloaaGreatDoorSyAb
set_option linter.unusedVariables false
set_option linter.unusedSimpArgs false
namespace Go.Proofs.YtfmgdjkcdmjloaaGreatDoor
open Go.AM
-- pub-paratext/pub/rscmarkdown.parseAutoLinkEmail

noncomputable def b98 : Code := match Tryz.f98.body with | some c => c | none => .skip

noncomputable def k98 : Kont R := retK Tryz.prog [.tmp 4, .tmp 5, .tmp 6]

noncomputable def c98_2 (run : RunT) (fu : Nat) (x0 x1 x7 : AV) (σ : Store) : Tr R :=
  addK x1 (.int .i64 1) fun x91 =>
  sliceSK x0 (some x91) (some x7) fun x93 =>
  catK (.str [109, 97, 105, 108, 116, 111, 58]) x93 fun x96 =>
  bldK [(.str []), (.str [])] [(0, 1, x93), (1, 1, x96)] fun x97 =>
  boxK σ 519 x97 fun x98 σ1 =>
  addK x7 (.int .i64 1) fun x101 =>
  .ret (.tup [(.iface 257 x98), x101, (.bool true)], σ1)

theorem eq98_2 (run : RunT) (fu : Nat) (x0 x1 x7 : AV) (σ : Store) : codeK X0 run (.seq .leaf (.seq .leaf .leaf)) (subC [true, true, true, true, true, true, true] b98) (frS 0 102 [(0, x0), (1, x1), (7, x7)]) σ k98 = c98_2 run fu x0 x1 x7 σ := by kernel_rfl

theorem ok98_2 {run : RunT} (hrun : RunOK X0 run) (fu : Nat) : ∀ fr σ, KOK X0 102 (subC [true, true, true, true, true, true, true] b98) fr σ ((fun fr σ => c98_2 run fu (G fr 0) (G fr 1) (G fr 7) σ) fr σ) k98 := fun fr σ =>
  KOK.piece env0 hrun [0, 1, 7] (eq98_2 run fu (G fr 0) (G fr 1) (G fr 7) σ) ⟨trivial, ⟨trivial, trivial⟩⟩

noncomputable def c98_3b (run : RunT) (fu : Nat) (s3 : W3) (x0 x1 x7 : AV) (σ : Store) : Tr R :=
  addK x7 (.int .i64 1) fun x56 =>
  sliceSK x0 (some x56) none fun x60 =>
  calK run 147 [x60] σ fun x61 σ1 =>
  extK x61 0 fun x62 =>
  extK x61 1 fun x63 =>
  notK x63 fun x65 =>
  ifK x65 (
  .ret (.tup [.nili, (.int .i64 0), (.bool false)], σ1)) (
  addK x56 x62 fun x68 =>
  lenSK x0 fun x71 =>
  cmpK .geq x68 x71 fun x72 =>
  grdK x72 false σ1 (fun f => f x0 σ1) fun x74 σ2 =>
  grdK x72 false σ2 (fun f => f x68 σ2) fun x75 σ3 =>
  grdK x72 false σ3 (fun f => idxSK x74 x75 fun v => f v σ3) fun x76 σ4 =>
  grdK x72 false σ4 (fun f => cmpK .neq x76 (.int .u8 46) fun v => f v σ4) fun x77 σ5 =>
  grdK x72 false σ5 (fun f => f x77 σ5) fun x78 σ6 =>
  grdK x78 true σ6 (fun f => f x0 σ6) fun x79 σ7 =>
  grdK x78 true σ7 (fun f => f x68 σ7) fun x80 σ8 =>
  grdK x78 true σ8 (fun f => idxSK x79 x80 fun v => f v σ8) fun x81 σ9 =>
  grdK x78 true σ9 (fun f => cmpK .neq x81 (.int .u8 62) fun v => f v σ9) fun x82 σ10 =>
  grdK x72 false σ10 (fun f => pickK x78 x82 (.bool false) fun v => f v σ10) fun x83 σ11 =>
  pickK x72 (.bool true) x83 fun x84 =>
  ifK x84 (
  .ret (.tup [.nili, (.int .i64 0), (.bool false)], σ11)) (
  idxSK x0 x68 fun x87 =>
  cmpK .eql x87 (.int .u8 62) fun x88 =>
  ifK x88 (
  c98_2 run fu x0 x1 x68 σ11) (
  s3 x0 x1 x68 σ11)))

noncomputable def c98_3 (run : RunT) (fu : Nat) : Nat → W3
  | 0 => fun _ _ _ _ => .fail
  | m + 1 => c98_3b run fu (c98_3 run fu m)

theorem eq98_3 (run : RunT) (fu : Nat) (s3 : W3) (x0 x1 x7 : AV) (σ : Store) : codeK X0 run (.block (.seq .leaf (.seq .leaf (.seq (.seq .leaf (.cond (.seq .leaf .leaf) .leaf)) (.seq .leaf (.seq (.seq .leaf (.cond (.seq .leaf .leaf) .leaf)) (.seq .leaf (.cond .leaf .leaf)))))))) (subC [true, true, true, true, true, true, false, false, false] b98) (frS 0 102 [(0, x0), (1, x1), (7, x7)]) σ (thenK (fun fr σ => s3 (G fr 0) (G fr 1) (G fr 7) σ) (blockK 2 (thenK (fun fr σ => c98_2 run fu (G fr 0) (G fr 1) (G fr 7) σ) k98))) = c98_3b run fu s3 x0 x1 x7 σ := by kernel_rfl

theorem owed98_3 {run : RunT} (hrun : RunOK X0 run) (fu : Nat) (s3 : W3) : Owes X0 run 102 (.block (.seq .leaf (.seq .leaf (.seq (.seq .leaf (.cond (.seq .leaf .leaf) .leaf)) (.seq .leaf (.seq (.seq .leaf (.cond (.seq .leaf .leaf) .leaf)) (.seq .leaf (.cond .leaf .leaf)))))))) (subC [true, true, true, true, true, true, false, false, false] b98) (thenK (fun fr σ => s3 (G fr 0) (G fr 1) (G fr 7) σ) (blockK 2 (thenK (fun fr σ => c98_2 run fu (G fr 0) (G fr 1) (G fr 7) σ) k98))) :=
  ⟨trivial, ⟨trivial, ⟨⟨trivial, ⟨⟨trivial, trivial⟩, trivial⟩⟩, ⟨trivial, ⟨⟨trivial, ⟨⟨trivial, trivial⟩, trivial⟩⟩, ⟨trivial, ⟨trivial, trivial⟩⟩⟩⟩⟩⟩⟩

theorem ok98_3 {run : RunT} (hrun : RunOK X0 run) (fu : Nat) : ∀ fr σ, KOK X0 102 (subC [true, true, true, true, true, true, false, false] b98) fr σ ((fun fr σ => c98_3 run fu fu (G fr 0) (G fr 1) (G fr 7) σ) fr σ) (blockK 2 (thenK (fun fr σ => c98_2 run fu (G fr 0) (G fr 1) (G fr 7) σ) k98)) := by
  have h := KOK.loop (X := X0) (N := 102) (b := (subC [true, true, true, true, true, true, false, false, false] b98)) (k := (blockK 2 (thenK (fun fr σ => c98_2 run fu (G fr 0) (G fr 1) (G fr 7) σ) k98))) (u := fun m fr σ => c98_3 run fu m (G fr 0) (G fr 1) (G fr 7) σ) (fun _ _ => rfl) (fun m fr σ => KOK.piece env0 hrun [0, 1, 7] (eq98_3 run fu (c98_3 run fu m) (G fr 0) (G fr 1) (G fr 7) σ) (owed98_3 hrun fu (c98_3 run fu m)))
  exact fun fr σ => h fu fr σ

noncomputable def c98_3x (run : RunT) (fu : Nat) (s3 : W3) (x0 x1 x7 : AV) (σ : Store) : Tr R :=
  addK x7 (.int .i64 1) fun x56 =>
  sliceSK x0 (some x56) none fun x60 =>
  calK run 147 [x60] σ fun x61 σ1 =>
  extK x61 0 fun x62 =>
  extK x61 1 fun x63 =>
  notK x63 fun x65 =>
  ifK x65 (
  .fail) (
  addK x56 x62 fun x68 =>
  lenSK x0 fun x71 =>
  cmpK .geq x68 x71 fun x72 =>
  grdK x72 false σ1 (fun f => f x0 σ1) fun x74 σ2 =>
  grdK x72 false σ2 (fun f => f x68 σ2) fun x75 σ3 =>
  grdK x72 false σ3 (fun f => idxSK x74 x75 fun v => f v σ3) fun x76 σ4 =>
  grdK x72 false σ4 (fun f => cmpK .neq x76 (.int .u8 46) fun v => f v σ4) fun x77 σ5 =>
  grdK x72 false σ5 (fun f => f x77 σ5) fun x78 σ6 =>
  grdK x78 true σ6 (fun f => f x0 σ6) fun x79 σ7 =>
  grdK x78 true σ7 (fun f => f x68 σ7) fun x80 σ8 =>
  grdK x78 true σ8 (fun f => idxSK x79 x80 fun v => f v σ8) fun x81 σ9 =>
  grdK x78 true σ9 (fun f => cmpK .neq x81 (.int .u8 62) fun v => f v σ9) fun x82 σ10 =>
  grdK x72 false σ10 (fun f => pickK x78 x82 (.bool false) fun v => f v σ10) fun x83 σ11 =>
  pickK x72 (.bool true) x83 fun x84 =>
  ifK x84 (
  .fail) (
  idxSK x0 x68 fun x87 =>
  cmpK .eql x87 (.int .u8 62) fun x88 =>
  ifK x88 (
  .fail) (
  s3 x0 x1 x68 σ11)))

theorem eq98_3x (run : RunT) (fu : Nat) (s3 : W3) (x0 x1 x7 : AV) (σ : Store) : codeK X0 run (.block (.seq .leaf (.seq .leaf (.seq (.seq .leaf (.cond (.seq .leaf .leaf) .leaf)) (.seq .leaf (.seq (.seq .leaf (.cond (.seq .leaf .leaf) .leaf)) (.seq .leaf (.cond .leaf .leaf)))))))) (subC [true, true, true, true, true, true, false, false, false] b98) (frS 0 102 [(0, x0), (1, x1), (7, x7)]) σ (thenK (fun fr σ => s3 (G fr 0) (G fr 1) (G fr 7) σ) failK) = c98_3x run fu s3 x0 x1 x7 σ := by kernel_rfl

theorem owed98_3x {run : RunT} (hrun : RunOK X0 run) (fu : Nat) (s3 : W3) : Owes X0 run 102 (.block (.seq .leaf (.seq .leaf (.seq (.seq .leaf (.cond (.seq .leaf .leaf) .leaf)) (.seq .leaf (.seq (.seq .leaf (.cond (.seq .leaf .leaf) .leaf)) (.seq .leaf (.cond .leaf .leaf)))))))) (subC [true, true, true, true, true, true, false, false, false] b98) (thenK (fun fr σ => s3 (G fr 0) (G fr 1) (G fr 7) σ) failK) :=
  ⟨trivial, ⟨trivial, ⟨⟨trivial, ⟨⟨trivial, trivial⟩, trivial⟩⟩, ⟨trivial, ⟨⟨trivial, ⟨⟨trivial, trivial⟩, trivial⟩⟩, ⟨trivial, ⟨trivial, trivial⟩⟩⟩⟩⟩⟩⟩

noncomputable def c98_3s (run : RunT) (fu : Nat) : Nat → List AV → Store → Tr R :=
  sweepU (planOf none 0 2 [] [] [] []) (fun s2 xs σ => c98_3b run fu (fun y0 y1 y7 σ => s2 [y0, y1, y7] σ) (xs.getD 0 .any) (xs.getD 1 .any) (xs.getD 2 .any) σ) (fun s2 xs σ => c98_3x run fu (fun y0 y1 y7 σ => s2 [y0, y1, y7] σ) (xs.getD 0 .any) (xs.getD 1 .any) (xs.getD 2 .any) σ)

theorem ok98_3s {run : RunT} (hrun : RunOK X0 run) (fu : Nat) : ∀ fr σ, KOK X0 102 (subC [true, true, true, true, true, true, false, false] b98) fr σ ((fun fr σ => c98_3s run fu fu [fr.getD 0 .any, fr.getD 1 .any, fr.getD 7 .any] σ) fr σ) (blockK 2 (thenK (fun fr σ => c98_2 run fu (G fr 0) (G fr 1) (G fr 7) σ) k98)) := by
  have h := KOK.sweep (X := X0) (N := 102) (b := (subC [true, true, true, true, true, true, false, false, false] b98)) (k := (blockK 2 (thenK (fun fr σ => c98_2 run fu (G fr 0) (G fr 1) (G fr 7) σ) k98))) (js := [0, 1, 7]) (body := (fun s2 xs σ => c98_3b run fu (fun y0 y1 y7 σ => s2 [y0, y1, y7] σ) (xs.getD 0 .any) (xs.getD 1 .any) (xs.getD 2 .any) σ)) (bodyx := (fun s2 xs σ => c98_3x run fu (fun y0 y1 y7 σ => s2 [y0, y1, y7] σ) (xs.getD 0 .any) (xs.getD 1 .any) (xs.getD 2 .any) σ)) rfl (planOf none 0 2 [] [] [] []) (fun s2 fr σ => KOK.piece env0 hrun [0, 1, 7] (eq98_3 run fu (fun y0 y1 y7 σ => s2 [y0, y1, y7] σ) (G fr 0) (G fr 1) (G fr 7) σ) (owed98_3 hrun fu (fun y0 y1 y7 σ => s2 [y0, y1, y7] σ))) (fun s2 fr σ => KOK.piece env0 hrun [0, 1, 7] (eq98_3x run fu (fun y0 y1 y7 σ => s2 [y0, y1, y7] σ) (G fr 0) (G fr 1) (G fr 7) σ) (owed98_3x hrun fu (fun y0 y1 y7 σ => s2 [y0, y1, y7] σ)))
  exact fun fr σ => h fu fr σ

noncomputable def c98_1 (run : RunT) (fu : Nat) (x0 x1 x7 : AV) (σ : Store) : Tr R :=
  lenSK x0 fun x47 =>
  cmpK .geq x7 x47 fun x48 =>
  grdK x48 false σ (fun f => f x0 σ) fun x50 σ1 =>
  grdK x48 false σ1 (fun f => f x7 σ1) fun x51 σ2 =>
  grdK x48 false σ2 (fun f => idxSK x50 x51 fun v => f v σ2) fun x52 σ3 =>
  grdK x48 false σ3 (fun f => cmpK .neq x52 (.int .u8 64) fun v => f v σ3) fun x53 σ4 =>
  pickK x48 (.bool true) x53 fun x54 =>
  ifK x54 (
  .ret (.tup [.nili, (.int .i64 0), (.bool false)], σ4)) (
  c98_3s run fu fu [x0, x1, x7] σ4)

theorem eq98_1 (run : RunT) (fu : Nat) (x0 x1 x7 : AV) (σ : Store) : codeK X0 run (.seq (.seq .leaf (.cond (.seq .leaf .leaf) .leaf)) (.seq (.block (.sub (fun fr σ => c98_3s run fu fu [fr.getD 0 .any, fr.getD 1 .any, fr.getD 7 .any] σ))) (.sub (fun fr σ => c98_2 run fu (G fr 0) (G fr 1) (G fr 7) σ)))) (subC [true, true, true, true, true] b98) (frS 0 102 [(0, x0), (1, x1), (7, x7)]) σ k98 = c98_1 run fu x0 x1 x7 σ := by kernel_rfl

theorem ok98_1 {run : RunT} (hrun : RunOK X0 run) (fu : Nat) : ∀ fr σ, KOK X0 102 (subC [true, true, true, true, true] b98) fr σ ((fun fr σ => c98_1 run fu (G fr 0) (G fr 1) (G fr 7) σ) fr σ) k98 := fun fr σ =>
  KOK.piece env0 hrun [0, 1, 7] (eq98_1 run fu (G fr 0) (G fr 1) (G fr 7) σ) ⟨⟨trivial, ⟨⟨trivial, trivial⟩, trivial⟩⟩, ⟨(ok98_3s hrun fu), (ok98_2 hrun fu)⟩⟩

noncomputable def c98_4b (run : RunT) (fu : Nat) (s4 : W3) (x0 x1 x7 : AV) (σ : Store) : Tr R :=
  lenSK x0 fun x35 =>
  cmpK .lss x7 x35 fun x36 =>
  grdK x36 true σ (fun f => f x0 σ) fun x38 σ1 =>
  grdK x36 true σ1 (fun f => f x7 σ1) fun x39 σ2 =>
  grdK x36 true σ2 (fun f => idxSK x38 x39 fun v => f v σ2) fun x40 σ3 =>
  grdK x36 true σ3 (fun f => calK run 146 [x40] σ3 f) fun x41 σ4 =>
  pickK x36 x41 (.bool false) fun x42 =>
  ifK x42 (
  addK x7 (.int .i64 1) fun x44 =>
  s4 x0 x1 x44 σ4) (
  c98_1 run fu x0 x1 x7 σ4)

noncomputable def c98_4 (run : RunT) (fu : Nat) : Nat → W3
  | 0 => fun _ _ _ _ => .fail
  | m + 1 => c98_4b run fu (c98_4 run fu m)

theorem eq98_4 (run : RunT) (fu : Nat) (s4 : W3) (x0 x1 x7 : AV) (σ : Store) : codeK X0 run (.seq (.seq .leaf (.cond .leaf .leaf)) (.block .leaf)) (subC [true, true, true, true, false, false, false] b98) (frS 0 102 [(0, x0), (1, x1), (7, x7)]) σ (thenK (fun fr σ => s4 (G fr 0) (G fr 1) (G fr 7) σ) (blockK 0 (thenK (fun fr σ => c98_1 run fu (G fr 0) (G fr 1) (G fr 7) σ) k98))) = c98_4b run fu s4 x0 x1 x7 σ := by kernel_rfl

theorem owed98_4 {run : RunT} (hrun : RunOK X0 run) (fu : Nat) (s4 : W3) : Owes X0 run 102 (.seq (.seq .leaf (.cond .leaf .leaf)) (.block .leaf)) (subC [true, true, true, true, false, false, false] b98) (thenK (fun fr σ => s4 (G fr 0) (G fr 1) (G fr 7) σ) (blockK 0 (thenK (fun fr σ => c98_1 run fu (G fr 0) (G fr 1) (G fr 7) σ) k98))) :=
  ⟨⟨trivial, ⟨trivial, trivial⟩⟩, trivial⟩

theorem ok98_4 {run : RunT} (hrun : RunOK X0 run) (fu : Nat) : ∀ fr σ, KOK X0 102 (subC [true, true, true, true, false, false] b98) fr σ ((fun fr σ => c98_4 run fu fu (G fr 0) (G fr 1) (G fr 7) σ) fr σ) (blockK 0 (thenK (fun fr σ => c98_1 run fu (G fr 0) (G fr 1) (G fr 7) σ) k98)) := by
  have h := KOK.loop (X := X0) (N := 102) (b := (subC [true, true, true, true, false, false, false] b98)) (k := (blockK 0 (thenK (fun fr σ => c98_1 run fu (G fr 0) (G fr 1) (G fr 7) σ) k98))) (u := fun m fr σ => c98_4 run fu m (G fr 0) (G fr 1) (G fr 7) σ) (fun _ _ => rfl) (fun m fr σ => KOK.piece env0 hrun [0, 1, 7] (eq98_4 run fu (c98_4 run fu m) (G fr 0) (G fr 1) (G fr 7) σ) (owed98_4 hrun fu (c98_4 run fu m)))
  exact fun fr σ => h fu fr σ

noncomputable def c98_4x (run : RunT) (fu : Nat) (s4 : W3) (x0 x1 x7 : AV) (σ : Store) : Tr R :=
  lenSK x0 fun x35 =>
  cmpK .lss x7 x35 fun x36 =>
  grdK x36 true σ (fun f => f x0 σ) fun x38 σ1 =>
  grdK x36 true σ1 (fun f => f x7 σ1) fun x39 σ2 =>
  grdK x36 true σ2 (fun f => idxSK x38 x39 fun v => f v σ2) fun x40 σ3 =>
  grdK x36 true σ3 (fun f => calK run 146 [x40] σ3 f) fun x41 σ4 =>
  pickK x36 x41 (.bool false) fun x42 =>
  ifK x42 (
  addK x7 (.int .i64 1) fun x44 =>
  s4 x0 x1 x44 σ4) (
  .fail)

theorem eq98_4x (run : RunT) (fu : Nat) (s4 : W3) (x0 x1 x7 : AV) (σ : Store) : codeK X0 run (.seq (.seq .leaf (.cond .leaf .leaf)) (.block .leaf)) (subC [true, true, true, true, false, false, false] b98) (frS 0 102 [(0, x0), (1, x1), (7, x7)]) σ (thenK (fun fr σ => s4 (G fr 0) (G fr 1) (G fr 7) σ) failK) = c98_4x run fu s4 x0 x1 x7 σ := by kernel_rfl

theorem owed98_4x {run : RunT} (hrun : RunOK X0 run) (fu : Nat) (s4 : W3) : Owes X0 run 102 (.seq (.seq .leaf (.cond .leaf .leaf)) (.block .leaf)) (subC [true, true, true, true, false, false, false] b98) (thenK (fun fr σ => s4 (G fr 0) (G fr 1) (G fr 7) σ) failK) :=
  ⟨⟨trivial, ⟨trivial, trivial⟩⟩, trivial⟩

noncomputable def c98_4s (run : RunT) (fu : Nat) : Nat → List AV → Store → Tr R :=
  sweepU (planOf none 0 2 [] [] [] []) (fun s2 xs σ => c98_4b run fu (fun y0 y1 y7 σ => s2 [y0, y1, y7] σ) (xs.getD 0 .any) (xs.getD 1 .any) (xs.getD 2 .any) σ) (fun s2 xs σ => c98_4x run fu (fun y0 y1 y7 σ => s2 [y0, y1, y7] σ) (xs.getD 0 .any) (xs.getD 1 .any) (xs.getD 2 .any) σ)

theorem ok98_4s {run : RunT} (hrun : RunOK X0 run) (fu : Nat) : ∀ fr σ, KOK X0 102 (subC [true, true, true, true, false, false] b98) fr σ ((fun fr σ => c98_4s run fu fu [fr.getD 0 .any, fr.getD 1 .any, fr.getD 7 .any] σ) fr σ) (blockK 0 (thenK (fun fr σ => c98_1 run fu (G fr 0) (G fr 1) (G fr 7) σ) k98)) := by
  have h := KOK.sweep (X := X0) (N := 102) (b := (subC [true, true, true, true, false, false, false] b98)) (k := (blockK 0 (thenK (fun fr σ => c98_1 run fu (G fr 0) (G fr 1) (G fr 7) σ) k98))) (js := [0, 1, 7]) (body := (fun s2 xs σ => c98_4b run fu (fun y0 y1 y7 σ => s2 [y0, y1, y7] σ) (xs.getD 0 .any) (xs.getD 1 .any) (xs.getD 2 .any) σ)) (bodyx := (fun s2 xs σ => c98_4x run fu (fun y0 y1 y7 σ => s2 [y0, y1, y7] σ) (xs.getD 0 .any) (xs.getD 1 .any) (xs.getD 2 .any) σ)) rfl (planOf none 0 2 [] [] [] []) (fun s2 fr σ => KOK.piece env0 hrun [0, 1, 7] (eq98_4 run fu (fun y0 y1 y7 σ => s2 [y0, y1, y7] σ) (G fr 0) (G fr 1) (G fr 7) σ) (owed98_4 hrun fu (fun y0 y1 y7 σ => s2 [y0, y1, y7] σ))) (fun s2 fr σ => KOK.piece env0 hrun [0, 1, 7] (eq98_4x run fu (fun y0 y1 y7 σ => s2 [y0, y1, y7] σ) (G fr 0) (G fr 1) (G fr 7) σ) (owed98_4x hrun fu (fun y0 y1 y7 σ => s2 [y0, y1, y7] σ)))
  exact fun fr σ => h fu fr σ

noncomputable def c98 (run : RunT) (fu : Nat) (x0 x1 : AV) (σ : Store) : Tr R :=
  addK x1 (.int .i64 1) fun x13 =>
  lenSK x0 fun x15 =>
  cmpK .geq x13 x15 fun x16 =>
  grdK x16 false σ (fun f => f x0 σ) fun x18 σ1 =>
  grdK x16 false σ1 (fun f => f x1 σ1) fun x19 σ2 =>
  grdK x16 false σ2 (fun f => idxSK x18 x19 fun v => f v σ2) fun x20 σ3 =>
  grdK x16 false σ3 (fun f => cmpK .neq x20 (.int .u8 60) fun v => f v σ3) fun x21 σ4 =>
  pickK x16 (.bool true) x21 fun x22 =>
  grdK x22 false σ4 (fun f => f x0 σ4) fun x24 σ5 =>
  grdK x22 false σ5 (fun f => f x1 σ5) fun x25 σ6 =>
  grdK x22 false σ6 (fun f => addK x25 (.int .i64 1) fun v => f v σ6) fun x26 σ7 =>
  grdK x22 false σ7 (fun f => idxSK x24 x26 fun v => f v σ7) fun x27 σ8 =>
  grdK x22 false σ8 (fun f => calK run 146 [x27] σ8 f) fun x28 σ9 =>
  grdK x22 false σ9 (fun f => notK x28 fun v => f v σ9) fun x29 σ10 =>
  pickK x22 (.bool true) x29 fun x30 =>
  ifK x30 (
  .ret (.tup [.nili, (.int .i64 0), (.bool false)], σ10)) (
  addK x1 (.int .i64 1) fun x32 =>
  c98_4s run fu fu [x0, x1, x32] σ10)

theorem eq98 (run : RunT) (fu : Nat) (x0 x1 : AV) (σ : Store) : codeK X0 run (.seq .leaf (.seq .leaf (.seq (.seq .leaf (.cond (.seq .leaf .leaf) .leaf)) (.seq .leaf (.seq (.block (.sub (fun fr σ => c98_4s run fu fu [fr.getD 0 .any, fr.getD 1 .any, fr.getD 7 .any] σ))) (.sub (fun fr σ => c98_1 run fu (G fr 0) (G fr 1) (G fr 7) σ))))))) (subC [] b98) ([x0, x1] ++ padA (102 - 2)) σ k98 = c98 run fu x0 x1 σ := by kernel_rfl

theorem ok98 {run : RunT} (hrun : RunOK X0 run) (fu : Nat) (x0 x1 : AV) (σ : Store) : CallOK X0 98 [x0, x1] σ (c98 run fu x0 x1 σ) :=
  KOK.body (fn := Tryz.f98) (c := subC [] b98) (by kernel_rfl) (by kernel_rfl) (by show 2 ≤ 102; decide) (KOK.whole env0 hrun (eq98 run fu x0 x1 σ) ⟨trivial, ⟨trivial, ⟨⟨trivial, ⟨⟨trivial, trivial⟩, trivial⟩⟩, ⟨trivial, ⟨(ok98_4s hrun fu), (ok98_1 hrun fu)⟩⟩⟩⟩⟩)

-- pub-paratext/pub/rscmarkdown.skipSpace

noncomputable def b110 : Code := match Tryz.f110.body with | some c => c | none => .skip

noncomputable def k110 : Kont R := retK Tryz.prog [.tmp 4]

noncomputable def c110_1 (run : RunT) (fu : Nat) (x1 : AV) (σ : Store) : Tr R :=
  .ret (x1, σ)

theorem eq110_1 (run : RunT) (fu : Nat) (x1 : AV) (σ : Store) : codeK X0 run (.seq .leaf .leaf) (subC [true, true] b110) (frS 0 30 [(1, x1)]) σ k110 = c110_1 run fu x1 σ := by kernel_rfl

theorem ok110_1 {run : RunT} (hrun : RunOK X0 run) (fu : Nat) : ∀ fr σ, KOK X0 30 (subC [true, true] b110) fr σ ((fun fr σ => c110_1 run fu (G fr 1) σ) fr σ) k110 := fun fr σ =>
  KOK.piece env0 hrun [1] (eq110_1 run fu (G fr 1) σ) ⟨trivial, trivial⟩

noncomputable def c110_2b (run : RunT) (fu : Nat) (s2 : W2) (x0 x1 : AV) (σ : Store) : Tr R :=
  lenSK x0 fun x7 =>
  cmpK .lss x1 x7 fun x8 =>
  grdK x8 true σ (fun f => f x0 σ) fun x10 σ1 =>
  grdK x8 true σ1 (fun f => f x1 σ1) fun x11 σ2 =>
  grdK x8 true σ2 (fun f => idxSK x10 x11 fun v => f v σ2) fun x12 σ3 =>
  grdK x8 true σ3 (fun f => cmpK .eql x12 (.int .u8 32) fun v => f v σ3) fun x13 σ4 =>
  grdK x8 true σ4 (fun f => f x13 σ4) fun x14 σ5 =>
  grdK x14 false σ5 (fun f => f x0 σ5) fun x15 σ6 =>
  grdK x14 false σ6 (fun f => f x1 σ6) fun x16 σ7 =>
  grdK x14 false σ7 (fun f => idxSK x15 x16 fun v => f v σ7) fun x17 σ8 =>
  grdK x14 false σ8 (fun f => cmpK .eql x17 (.int .u8 9) fun v => f v σ8) fun x18 σ9 =>
  grdK x8 true σ9 (fun f => pickK x14 (.bool true) x18 fun v => f v σ9) fun x19 σ10 =>
  grdK x8 true σ10 (fun f => f x19 σ10) fun x20 σ11 =>
  grdK x20 false σ11 (fun f => f x0 σ11) fun x21 σ12 =>
  grdK x20 false σ12 (fun f => f x1 σ12) fun x22 σ13 =>
  grdK x20 false σ13 (fun f => idxSK x21 x22 fun v => f v σ13) fun x23 σ14 =>
  grdK x20 false σ14 (fun f => cmpK .eql x23 (.int .u8 10) fun v => f v σ14) fun x24 σ15 =>
  grdK x8 true σ15 (fun f => pickK x20 (.bool true) x24 fun v => f v σ15) fun x25 σ16 =>
  pickK x8 x25 (.bool false) fun x26 =>
  ifK x26 (
  addK x1 (.int .i64 1) fun x28 =>
  s2 x0 x28 σ16) (
  c110_1 run fu x1 σ16)

noncomputable def c110_2 (run : RunT) (fu : Nat) : Nat → W2
  | 0 => fun _ _ _ => .fail
  | m + 1 => c110_2b run fu (c110_2 run fu m)

theorem eq110_2 (run : RunT) (fu : Nat) (s2 : W2) (x0 x1 : AV) (σ : Store) : codeK X0 run (.seq (.seq .leaf (.cond .leaf .leaf)) (.block .leaf)) (subC [true, false, false, false] b110) (frS 0 30 [(0, x0), (1, x1)]) σ (thenK (fun fr σ => s2 (G fr 0) (G fr 1) σ) (blockK 0 (thenK (fun fr σ => c110_1 run fu (G fr 1) σ) k110))) = c110_2b run fu s2 x0 x1 σ := by kernel_rfl

theorem owed110_2 {run : RunT} (hrun : RunOK X0 run) (fu : Nat) (s2 : W2) : Owes X0 run 30 (.seq (.seq .leaf (.cond .leaf .leaf)) (.block .leaf)) (subC [true, false, false, false] b110) (thenK (fun fr σ => s2 (G fr 0) (G fr 1) σ) (blockK 0 (thenK (fun fr σ => c110_1 run fu (G fr 1) σ) k110))) :=
  ⟨⟨trivial, ⟨trivial, trivial⟩⟩, trivial⟩

theorem ok110_2 {run : RunT} (hrun : RunOK X0 run) (fu : Nat) : ∀ fr σ, KOK X0 30 (subC [true, false, false] b110) fr σ ((fun fr σ => c110_2 run fu fu (G fr 0) (G fr 1) σ) fr σ) (blockK 0 (thenK (fun fr σ => c110_1 run fu (G fr 1) σ) k110)) := by
  have h := KOK.loop (X := X0) (N := 30) (b := (subC [true, false, false, false] b110)) (k := (blockK 0 (thenK (fun fr σ => c110_1 run fu (G fr 1) σ) k110))) (u := fun m fr σ => c110_2 run fu m (G fr 0) (G fr 1) σ) (fun _ _ => rfl) (fun m fr σ => KOK.piece env0 hrun [0, 1] (eq110_2 run fu (c110_2 run fu m) (G fr 0) (G fr 1) σ) (owed110_2 hrun fu (c110_2 run fu m)))
  exact fun fr σ => h fu fr σ

noncomputable def c110 (run : RunT) (fu : Nat) (x0 x1 : AV) (σ : Store) : Tr R :=
  c110_2 run fu fu x0 x1 σ

theorem eq110 (run : RunT) (fu : Nat) (x0 x1 : AV) (σ : Store) : codeK X0 run (.seq .leaf (.seq (.block (.sub (fun fr σ => c110_2 run fu fu (G fr 0) (G fr 1) σ))) (.sub (fun fr σ => c110_1 run fu (G fr 1) σ)))) (subC [] b110) ([x0, x1] ++ padA (30 - 2)) σ k110 = c110 run fu x0 x1 σ := by kernel_rfl

theorem ok110 {run : RunT} (hrun : RunOK X0 run) (fu : Nat) (x0 x1 : AV) (σ : Store) : CallOK X0 110 [x0, x1] σ (c110 run fu x0 x1 σ) :=
  KOK.body (fn := Tryz.f110) (c := subC [] b110) (by kernel_rfl) (by kernel_rfl) (by show 2 ≤ 30; decide) (KOK.whole env0 hrun (eq110 run fu x0 x1 σ) ⟨trivial, ⟨(ok110_2 hrun fu), (ok110_1 hrun fu)⟩⟩)

-- pub-paratext/pub/rscmarkdown.parseLinkLabel

noncomputable def b113 : Code := match Tryz.f113.body with | some c => c | none => .skip

noncomputable def k113 : Kont R := retK Tryz.prog [.tmp 6, .tmp 7, .tmp 8]

noncomputable def c113_1 (run : RunT) (fu : Nat) (σ : Store) : Tr R :=
  .ret (.tup [(.str []), (.int .i64 0), (.bool false)], σ)

theorem eq113_1 (run : RunT) (fu : Nat) (σ : Store) : codeK X0 run (.seq .leaf .leaf) (subC [true, true, true, true] b113) (frS 0 69 []) σ k113 = c113_1 run fu σ := by kernel_rfl

theorem ok113_1 {run : RunT} (hrun : RunOK X0 run) (fu : Nat) : ∀ fr σ, KOK X0 69 (subC [true, true, true, true] b113) fr σ ((fun fr σ => c113_1 run fu σ) fr σ) k113 := fun fr σ =>
  KOK.piece env0 hrun [] (eq113_1 run fu σ) ⟨trivial, trivial⟩

noncomputable def c113_3 (run : RunT) (fu : Nat) (s2 : W4) (x0 x1 x2 x9 : AV) (σ : Store) : Tr R :=
  addK x9 (.int .i64 1) fun x28 =>
  s2 x0 x1 x2 x28 σ

theorem eq113_3 (run : RunT) (fu : Nat) (s2 : W4) (x0 x1 x2 x9 : AV) (σ : Store) : codeK X0 run .leaf (subC [true, true, true, false, false, false, true, true] b113) (frS 0 69 [(0, x0), (1, x1), (2, x2), (9, x9)]) σ (thenK (fun fr σ => s2 (G fr 0) (G fr 1) (G fr 2) (G fr 9) σ) (blockK 0 (thenK (fun fr σ => c113_1 run fu σ) k113))) = c113_3 run fu s2 x0 x1 x2 x9 σ := by kernel_rfl

theorem ok113_3 {run : RunT} (hrun : RunOK X0 run) (fu : Nat) (s2 : W4) : ∀ fr σ, KOK X0 69 (subC [true, true, true, false, false, false, true, true] b113) fr σ ((fun fr σ => c113_3 run fu s2 (G fr 0) (G fr 1) (G fr 2) (G fr 9) σ) fr σ) (thenK (fun fr σ => s2 (G fr 0) (G fr 1) (G fr 2) (G fr 9) σ) (blockK 0 (thenK (fun fr σ => c113_1 run fu σ) k113))) := fun fr σ =>
  KOK.piece env0 hrun [0, 1, 2, 9] (eq113_3 run fu s2 (G fr 0) (G fr 1) (G fr 2) (G fr 9) σ) trivial

noncomputable def c113_2b (run : RunT) (fu : Nat) (s2 : W4) (x0 x1 x2 x9 : AV) (σ : Store) : Tr R :=
  lenSK x1 fun x25 =>
  cmpK .lss x9 x25 fun x26 =>
  ifK x26 (
  idxSK x1 x9 fun x31 =>
  cmpK .eql x31 (.int .u8 93) fun x32 =>
  ifK x32 (
  addK x2 (.int .i64 1) fun x35 =>
  subK x9 x35 fun x36 =>
  cmpK .gtr x36 (.int .i64 999) fun x37 =>
  ifK x37 (
  nchkK x0 fun x39 =>
  addrK x39 6 fun x40 =>
  st1K σ x40 (.bool true) fun _ σ1 =>
  c113_1 run fu σ1) (
  addK x2 (.int .i64 1) fun x43 =>
  sliceSK x1 (some x43) (some x9) fun x45 =>
  calK run 163 [x45] σ fun x46 σ2 =>
  neSK x46 (.str []) fun x48 =>
  ifK x48 (
  addK x9 (.int .i64 1) fun x51 =>
  .ret (.tup [x46, x51, (.bool true)], σ2)) (
  c113_1 run fu σ2))) (
  idxSK x1 x9 fun x54 =>
  cmpK .eql x54 (.int .u8 91) fun x55 =>
  ifK x55 (
  c113_1 run fu σ) (
  idxSK x1 x9 fun x58 =>
  cmpK .eql x58 (.int .u8 92) fun x59 =>
  grdK x59 true σ (fun f => f x9 σ) fun x61 σ3 =>
  grdK x59 true σ3 (fun f => addK x61 (.int .i64 1) fun v => f v σ3) fun x62 σ4 =>
  grdK x59 true σ4 (fun f => f x1 σ4) fun x63 σ5 =>
  grdK x59 true σ5 (fun f => lenSK x63 fun v => f v σ5) fun x64 σ6 =>
  grdK x59 true σ6 (fun f => cmpK .lss x62 x64 fun v => f v σ6) fun x65 σ7 =>
  pickK x59 x65 (.bool false) fun x66 =>
  ifK x66 (
  addK x9 (.int .i64 1) fun x68 =>
  c113_3 run fu s2 x0 x1 x2 x68 σ7) (
  c113_3 run fu s2 x0 x1 x2 x9 σ7)))) (
  c113_1 run fu σ)

noncomputable def c113_2 (run : RunT) (fu : Nat) : Nat → W4
  | 0 => fun _ _ _ _ _ => .fail
  | m + 1 => c113_2b run fu (c113_2 run fu m)

theorem eq113_2 (run : RunT) (fu : Nat) (s2 : W4) (x0 x1 x2 x9 : AV) (σ : Store) : codeK X0 run (.seq (.seq .leaf (.cond .leaf .leaf)) (.seq (.block (.seq (.seq .leaf (.cond (.seq (.seq .leaf (.cond (.seq .leaf .leaf) .leaf)) (.seq (.seq .leaf (.seq .leaf (.cond (.seq .leaf .leaf) .leaf))) .leaf)) .leaf)) (.seq (.seq .leaf (.cond .leaf .leaf)) (.seq .leaf (.cond .leaf .leaf))))) (.sub (fun fr σ => c113_3 run fu s2 (G fr 0) (G fr 1) (G fr 2) (G fr 9) σ)))) (subC [true, true, true, false, false, false] b113) (frS 0 69 [(0, x0), (1, x1), (2, x2), (9, x9)]) σ (thenK (fun fr σ => s2 (G fr 0) (G fr 1) (G fr 2) (G fr 9) σ) (blockK 0 (thenK (fun fr σ => c113_1 run fu σ) k113))) = c113_2b run fu s2 x0 x1 x2 x9 σ := by kernel_rfl

theorem owed113_2 {run : RunT} (hrun : RunOK X0 run) (fu : Nat) (s2 : W4) : Owes X0 run 69 (.seq (.seq .leaf (.cond .leaf .leaf)) (.seq (.block (.seq (.seq .leaf (.cond (.seq (.seq .leaf (.cond (.seq .leaf .leaf) .leaf)) (.seq (.seq .leaf (.seq .leaf (.cond (.seq .leaf .leaf) .leaf))) .leaf)) .leaf)) (.seq (.seq .leaf (.cond .leaf .leaf)) (.seq .leaf (.cond .leaf .leaf))))) (.sub (fun fr σ => c113_3 run fu s2 (G fr 0) (G fr 1) (G fr 2) (G fr 9) σ)))) (subC [true, true, true, false, false, false] b113) (thenK (fun fr σ => s2 (G fr 0) (G fr 1) (G fr 2) (G fr 9) σ) (blockK 0 (thenK (fun fr σ => c113_1 run fu σ) k113))) :=
  ⟨⟨trivial, ⟨trivial, trivial⟩⟩, ⟨⟨⟨trivial, ⟨⟨⟨trivial, ⟨⟨trivial, trivial⟩, trivial⟩⟩, ⟨⟨trivial, ⟨trivial, ⟨⟨trivial, trivial⟩, trivial⟩⟩⟩, trivial⟩⟩, trivial⟩⟩, ⟨⟨trivial, ⟨trivial, trivial⟩⟩, ⟨trivial, ⟨trivial, trivial⟩⟩⟩⟩, (ok113_3 hrun fu s2)⟩⟩

theorem ok113_2 {run : RunT} (hrun : RunOK X0 run) (fu : Nat) : ∀ fr σ, KOK X0 69 (subC [true, true, true, false, false] b113) fr σ ((fun fr σ => c113_2 run fu fu (G fr 0) (G fr 1) (G fr 2) (G fr 9) σ) fr σ) (blockK 0 (thenK (fun fr σ => c113_1 run fu σ) k113)) := by
  have h := KOK.loop (X := X0) (N := 69) (b := (subC [true, true, true, false, false, false] b113)) (k := (blockK 0 (thenK (fun fr σ => c113_1 run fu σ) k113))) (u := fun m fr σ => c113_2 run fu m (G fr 0) (G fr 1) (G fr 2) (G fr 9) σ) (fun _ _ => rfl) (fun m fr σ => KOK.piece env0 hrun [0, 1, 2, 9] (eq113_2 run fu (c113_2 run fu m) (G fr 0) (G fr 1) (G fr 2) (G fr 9) σ) (owed113_2 hrun fu (c113_2 run fu m)))
  exact fun fr σ => h fu fr σ

noncomputable def c113 (run : RunT) (fu : Nat) (x0 x1 x2 : AV) (σ : Store) : Tr R :=
  lenSK x1 fun x13 =>
  cmpK .geq x2 x13 fun x14 =>
  grdK x14 false σ (fun f => f x1 σ) fun x16 σ1 =>
  grdK x14 false σ1 (fun f => f x2 σ1) fun x17 σ2 =>
  grdK x14 false σ2 (fun f => idxSK x16 x17 fun v => f v σ2) fun x18 σ3 =>
  grdK x14 false σ3 (fun f => cmpK .neq x18 (.int .u8 91) fun v => f v σ3) fun x19 σ4 =>
  pickK x14 (.bool true) x19 fun x20 =>
  ifK x20 (
  .ret (.tup [(.str []), (.int .i64 0), (.bool false)], σ4)) (
  addK x2 (.int .i64 1) fun x22 =>
  c113_2 run fu fu x0 x1 x2 x22 σ4)

theorem eq113 (run : RunT) (fu : Nat) (x0 x1 x2 : AV) (σ : Store) : codeK X0 run (.seq .leaf (.seq (.seq .leaf (.cond (.seq .leaf .leaf) .leaf)) (.seq .leaf (.seq (.block (.sub (fun fr σ => c113_2 run fu fu (G fr 0) (G fr 1) (G fr 2) (G fr 9) σ))) (.sub (fun fr σ => c113_1 run fu σ)))))) (subC [] b113) ([x0, x1, x2] ++ padA (69 - 3)) σ k113 = c113 run fu x0 x1 x2 σ := by kernel_rfl

theorem ok113 {run : RunT} (hrun : RunOK X0 run) (fu : Nat) (x0 x1 x2 : AV) (σ : Store) : CallOK X0 113 [x0, x1, x2] σ (c113 run fu x0 x1 x2 σ) :=
  KOK.body (fn := Tryz.f113) (c := subC [] b113) (by kernel_rfl) (by kernel_rfl) (by show 3 ≤ 69; decide) (KOK.whole env0 hrun (eq113 run fu x0 x1 x2 σ) ⟨trivial, ⟨⟨trivial, ⟨⟨trivial, trivial⟩, trivial⟩⟩, ⟨trivial, ⟨(ok113_2 hrun fu), (ok113_1 hrun fu)⟩⟩⟩⟩)

-- pub-paratext/pub/rscmarkdown.toPlain

noncomputable def b117 : Code := match Tryz.f117.body with | some c => c | none => .skip

noncomputable def k117 : Kont R := retK Tryz.prog [.tmp 2]

noncomputable def c117 (run : RunT) (fu : Nat) (x0 : AV) (σ : Store) : Tr R :=
  tasK (some .nilp) 150 true x0 fun x7 =>
  extK x7 1 fun x8 =>
  extK x7 0 fun x9 =>
  ifK x8 (
  .ret (x9, σ)) (
  tasK (some .nilp) 185 true x0 fun x11 =>
  extK x11 1 fun x12 =>
  extK x11 0 fun x13 =>
  ifK x12 (
  nchkK x13 fun x15 =>
  addrK x15 0 fun x16 =>
  .ret (x16, σ)) (
  tasK (some .nilp) 128 true x0 fun x17 =>
  extK x17 1 fun x18 =>
  extK x17 0 fun x19 =>
  ifK x18 (
  nchkK x19 fun x21 =>
  addrK x21 0 fun x22 =>
  .ret (x22, σ)) (
  .ret (.nilp, σ))))

theorem eq117 (run : RunT) (fu : Nat) (x0 : AV) (σ : Store) : codeK X0 run (.seq .leaf (.seq (.seq .leaf (.block (.seq .leaf (.cond (.seq .leaf (.seq .leaf .leaf)) (.seq .leaf (.cond (.seq .leaf (.seq .leaf .leaf)) (.seq .leaf (.cond (.seq .leaf (.seq .leaf .leaf)) .leaf)))))))) (.seq .leaf .leaf))) (subC [] b117) ([x0] ++ padA (23 - 1)) σ k117 = c117 run fu x0 σ := by kernel_rfl

theorem ok117 {run : RunT} (hrun : RunOK X0 run) (fu : Nat) (x0 : AV) (σ : Store) : CallOK X0 117 [x0] σ (c117 run fu x0 σ) :=
  KOK.body (fn := Tryz.f117) (c := subC [] b117) (by kernel_rfl) (by kernel_rfl) (by show 1 ≤ 23; decide) (KOK.whole env0 hrun (eq117 run fu x0 σ) ⟨trivial, ⟨⟨trivial, ⟨trivial, ⟨⟨trivial, ⟨trivial, trivial⟩⟩, ⟨trivial, ⟨⟨trivial, ⟨trivial, trivial⟩⟩, ⟨trivial, ⟨⟨trivial, ⟨trivial, trivial⟩⟩, trivial⟩⟩⟩⟩⟩⟩⟩, ⟨trivial, trivial⟩⟩⟩)

-- pub-paratext/pub/rscmarkdown.trimQuote

noncomputable def b120 : Code := match Tryz.f120.body with | some c => c | none => .skip

noncomputable def k120 : Kont R := retK Tryz.prog [.cell 2 100, .tmp 3]

noncomputable def c120 (run : RunT) (fu : Nat) (x0 : AV) (σ : Store) : Tr R :=
  boxK σ 201 x0 fun x1 σ1 =>
  newK σ1 201 [(.int .i64 0), (.int .i64 0), (.int .i64 0), (.str []), (.int .u8 0)] fun x2 σ2 =>
  ldNK σ2 x1 5 fun x5 =>
  newK σ2 201 [(.int .i64 0), (.int .i64 0), (.int .i64 0), (.str []), (.int .u8 0)] fun x4 σ3 =>
  stNK σ3 x4 5 x5 fun _ σ4 =>
  calK run 139 [x4, (.int .i64 0), (.int .i64 3), (.bool false)] σ4 fun x6 σ5 =>
  calK run 168 [x4, (.int .u8 62)] σ5 fun x7 σ6 =>
  notK x7 fun x8 =>
  ifK x8 (
  ldNK σ6 x1 5 fun x9 =>
  stNK σ6 x2 5 x9 fun _ σ7 =>
  ldNK σ7 x2 5 fun v8 =>
  .ret (.tup [v8, (.bool false)], σ7)) (
  calK run 139 [x4, (.int .i64 0), (.int .i64 1), (.bool true)] σ6 fun x10 σ9 =>
  ldNK σ9 x4 5 fun x11 =>
  stNK σ9 x2 5 x11 fun _ σ10 =>
  ldNK σ10 x2 5 fun v11 =>
  .ret (.tup [v11, (.bool true)], σ10))

theorem eq120 (run : RunT) (fu : Nat) (x0 : AV) (σ : Store) : codeK X0 run (.seq .leaf (.seq .leaf (.seq .leaf (.seq (.seq .leaf (.cond (.seq .leaf .leaf) .leaf)) (.seq .leaf (.seq .leaf .leaf)))))) (subC [] b120) ([x0] ++ padA (12 - 1)) σ k120 = c120 run fu x0 σ := by kernel_rfl

theorem ok120 {run : RunT} (hrun : RunOK X0 run) (fu : Nat) (x0 : AV) (σ : Store) : CallOK X0 120 [x0] σ (c120 run fu x0 σ) :=
  KOK.body (fn := Tryz.f120) (c := subC [] b120) (by kernel_rfl) (by kernel_rfl) (by show 1 ≤ 12; decide) (KOK.whole env0 hrun (eq120 run fu x0 σ) ⟨trivial, ⟨trivial, ⟨trivial, ⟨⟨trivial, ⟨⟨trivial, trivial⟩, trivial⟩⟩, ⟨trivial, ⟨trivial, trivial⟩⟩⟩⟩⟩⟩)

-- (*pub-paratext/pub/rscmarkdown.line).trimHeading

noncomputable def b121 : Code := match Tryz.f121.body with | some c => c | none => .skip

noncomputable def k121 : Kont R := retK Tryz.prog [.tmp 4]

noncomputable def c121_1 (run : RunT) (fu : Nat) (x0 x1 x5 x6 : AV) (σ : Store) : Tr R :=
  calK run 139 [x5, (.int .i64 1), (.int .i64 1), (.bool true)] σ fun x20 σ1 =>
  notK x20 fun x21 =>
  ifK x21 (
  .ret ((.bool false), σ1)) (
  nchkK x1 fun x24 =>
  st1K σ1 x24 x6 fun _ σ2 =>
  ldNK σ2 x5 5 fun x26 =>
  nchkK x0 fun x27 =>
  stNK σ2 x27 5 x26 fun _ σ3 =>
  .ret ((.bool true), σ3))

theorem eq121_1 (run : RunT) (fu : Nat) (x0 x1 x5 x6 : AV) (σ : Store) : codeK X0 run (.seq (.seq .leaf (.cond (.seq .leaf .leaf) .leaf)) (.seq .leaf (.seq .leaf (.seq .leaf .leaf)))) (subC [true, true, true, true, true, true] b121) (frS 0 28 [(0, x0), (1, x1), (5, x5), (6, x6)]) σ k121 = c121_1 run fu x0 x1 x5 x6 σ := by kernel_rfl

theorem ok121_1 {run : RunT} (hrun : RunOK X0 run) (fu : Nat) : ∀ fr σ, KOK X0 28 (subC [true, true, true, true, true, true] b121) fr σ ((fun fr σ => c121_1 run fu (G fr 0) (G fr 1) (G fr 5) (G fr 6) σ) fr σ) k121 := fun fr σ =>
  KOK.piece env0 hrun [0, 1, 5, 6] (eq121_1 run fu (G fr 0) (G fr 1) (G fr 5) (G fr 6) σ) ⟨⟨trivial, ⟨⟨trivial, trivial⟩, trivial⟩⟩, ⟨trivial, ⟨trivial, ⟨trivial, trivial⟩⟩⟩⟩

noncomputable def c121_2b (run : RunT) (fu : Nat) (s2 : W4) (x0 x1 x5 x6 : AV) (σ : Store) : Tr R :=
  cmpK .lss x6 (.int .i64 6) fun x14 =>
  grdK x14 true σ (fun f => calK run 168 [x5, (.int .u8 35)] σ f) fun x16 σ1 =>
  pickK x14 x16 (.bool false) fun x17 =>
  ifK x17 (
  addK x6 (.int .i64 1) fun x19 =>
  s2 x0 x1 x5 x19 σ1) (
  c121_1 run fu x0 x1 x5 x6 σ1)

noncomputable def c121_2 (run : RunT) (fu : Nat) : Nat → W4
  | 0 => fun _ _ _ _ _ => .fail
  | m + 1 => c121_2b run fu (c121_2 run fu m)

theorem eq121_2 (run : RunT) (fu : Nat) (s2 : W4) (x0 x1 x5 x6 : AV) (σ : Store) : codeK X0 run (.seq (.seq .leaf (.cond .leaf .leaf)) (.block .leaf)) (subC [true, true, true, true, true, false, false, false] b121) (frS 0 28 [(0, x0), (1, x1), (5, x5), (6, x6)]) σ (thenK (fun fr σ => s2 (G fr 0) (G fr 1) (G fr 5) (G fr 6) σ) (blockK 0 (thenK (fun fr σ => c121_1 run fu (G fr 0) (G fr 1) (G fr 5) (G fr 6) σ) k121))) = c121_2b run fu s2 x0 x1 x5 x6 σ := by kernel_rfl

theorem owed121_2 {run : RunT} (hrun : RunOK X0 run) (fu : Nat) (s2 : W4) : Owes X0 run 28 (.seq (.seq .leaf (.cond .leaf .leaf)) (.block .leaf)) (subC [true, true, true, true, true, false, false, false] b121) (thenK (fun fr σ => s2 (G fr 0) (G fr 1) (G fr 5) (G fr 6) σ) (blockK 0 (thenK (fun fr σ => c121_1 run fu (G fr 0) (G fr 1) (G fr 5) (G fr 6) σ) k121))) :=
  ⟨⟨trivial, ⟨trivial, trivial⟩⟩, trivial⟩

theorem ok121_2 {run : RunT} (hrun : RunOK X0 run) (fu : Nat) : ∀ fr σ, KOK X0 28 (subC [true, true, true, true, true, false, false] b121) fr σ ((fun fr σ => c121_2 run fu fu (G fr 0) (G fr 1) (G fr 5) (G fr 6) σ) fr σ) (blockK 0 (thenK (fun fr σ => c121_1 run fu (G fr 0) (G fr 1) (G fr 5) (G fr 6) σ) k121)) := by
  have h := KOK.loop (X := X0) (N := 28) (b := (subC [true, true, true, true, true, false, false, false] b121)) (k := (blockK 0 (thenK (fun fr σ => c121_1 run fu (G fr 0) (G fr 1) (G fr 5) (G fr 6) σ) k121))) (u := fun m fr σ => c121_2 run fu m (G fr 0) (G fr 1) (G fr 5) (G fr 6) σ) (fun _ _ => rfl) (fun m fr σ => KOK.piece env0 hrun [0, 1, 5, 6] (eq121_2 run fu (c121_2 run fu m) (G fr 0) (G fr 1) (G fr 5) (G fr 6) σ) (owed121_2 hrun fu (c121_2 run fu m)))
  exact fun fr σ => h fu fr σ

noncomputable def c121 (run : RunT) (fu : Nat) (x0 x1 : AV) (σ : Store) : Tr R :=
  nchkK x0 fun x8 =>
  ldNK σ x8 5 fun x9 =>
  newK σ 201 [(.int .i64 0), (.int .i64 0), (.int .i64 0), (.str []), (.int .u8 0)] fun x5 σ1 =>
  stNK σ1 x5 5 x9 fun _ σ2 =>
  calK run 139 [x5, (.int .i64 0), (.int .i64 3), (.bool false)] σ2 fun x10 σ3 =>
  calK run 168 [x5, (.int .u8 35)] σ3 fun x11 σ4 =>
  notK x11 fun x12 =>
  ifK x12 (
  .ret ((.bool false), σ4)) (
  c121_2 run fu fu x0 x1 x5 (.int .i64 1) σ4)

theorem eq121 (run : RunT) (fu : Nat) (x0 x1 : AV) (σ : Store) : codeK X0 run (.seq .leaf (.seq .leaf (.seq .leaf (.seq (.seq .leaf (.cond (.seq .leaf .leaf) .leaf)) (.seq .leaf (.seq (.block (.sub (fun fr σ => c121_2 run fu fu (G fr 0) (G fr 1) (G fr 5) (G fr 6) σ))) (.sub (fun fr σ => c121_1 run fu (G fr 0) (G fr 1) (G fr 5) (G fr 6) σ)))))))) (subC [] b121) ([x0, x1] ++ padA (28 - 2)) σ k121 = c121 run fu x0 x1 σ := by kernel_rfl

theorem ok121 {run : RunT} (hrun : RunOK X0 run) (fu : Nat) (x0 x1 : AV) (σ : Store) : CallOK X0 121 [x0, x1] σ (c121 run fu x0 x1 σ) :=
  KOK.body (fn := Tryz.f121) (c := subC [] b121) (by kernel_rfl) (by kernel_rfl) (by show 2 ≤ 28; decide) (KOK.whole env0 hrun (eq121 run fu x0 x1 σ) ⟨trivial, ⟨trivial, ⟨trivial, ⟨⟨trivial, ⟨⟨trivial, trivial⟩, trivial⟩⟩, ⟨trivial, ⟨(ok121_2 hrun fu), (ok121_1 hrun fu)⟩⟩⟩⟩⟩⟩)

-- (*pub-paratext/pub/rscmarkdown.line).string

noncomputable def b122 : Code := match Tryz.f122.body with | some c => c | none => .skip

noncomputable def k122 : Kont R := retK Tryz.prog [.tmp 2]

noncomputable def c122 (run : RunT) (fu : Nat) (x0 : AV) (σ : Store) : Tr R :=
  nchkK x0 fun x4 =>
  addrK x4 0 fun x5 =>
  ld1K σ x5 fun x6 =>
  cmpK .eql x6 (.int .i64 0) fun x8 =>
  ifK x8 (
  nchkK x0 fun x10 =>
  addrK x10 3 fun x11 =>
  ld1K σ x11 fun x12 =>
  nchkK x0 fun x14 =>
  addrK x14 1 fun x15 =>
  ld1K σ x15 fun x16 =>
  sliceSK x12 (some x16) none fun x17 =>
  .ret (x17, σ)) (
  cmpK .eql x6 (.int .i64 1) fun x19 =>
  ifK x19 (
  nchkK x0 fun x21 =>
  addrK x21 3 fun x22 =>
  ld1K σ x22 fun x23 =>
  nchkK x0 fun x25 =>
  addrK x25 1 fun x26 =>
  ld1K σ x26 fun x27 =>
  sliceSK x23 (some x27) none fun x28 =>
  catK (.str [32]) x28 fun x29 =>
  .ret (x29, σ)) (
  cmpK .eql x6 (.int .i64 2) fun x31 =>
  ifK x31 (
  nchkK x0 fun x33 =>
  addrK x33 3 fun x34 =>
  ld1K σ x34 fun x35 =>
  nchkK x0 fun x37 =>
  addrK x37 1 fun x38 =>
  ld1K σ x38 fun x39 =>
  sliceSK x35 (some x39) none fun x40 =>
  catK (.str [32, 32]) x40 fun x41 =>
  .ret (x41, σ)) (
  cmpK .eql x6 (.int .i64 3) fun x43 =>
  ifK x43 (
  nchkK x0 fun x45 =>
  addrK x45 3 fun x46 =>
  ld1K σ x46 fun x47 =>
  nchkK x0 fun x49 =>
  addrK x49 1 fun x50 =>
  ld1K σ x50 fun x51 =>
  sliceSK x47 (some x51) none fun x52 =>
  catK (.str [32, 32, 32]) x52 fun x53 =>
  .ret (x53, σ)) (
  .fail))))

theorem eq122 (run : RunT) (fu : Nat) (x0 : AV) (σ : Store) : codeK X0 run (.seq .leaf (.seq (.seq .leaf (.block (.seq .leaf (.cond (.seq .leaf .leaf) (.seq .leaf (.cond (.seq .leaf .leaf) (.seq .leaf (.cond (.seq .leaf .leaf) (.seq .leaf (.cond (.seq .leaf .leaf) .leaf)))))))))) .leaf)) (subC [] b122) ([x0] ++ padA (55 - 1)) σ k122 = c122 run fu x0 σ := by kernel_rfl

theorem ok122 {run : RunT} (hrun : RunOK X0 run) (fu : Nat) (x0 : AV) (σ : Store) : CallOK X0 122 [x0] σ (c122 run fu x0 σ) :=
  KOK.body (fn := Tryz.f122) (c := subC [] b122) (by kernel_rfl) (by kernel_rfl) (by show 1 ≤ 55; decide) (KOK.whole env0 hrun (eq122 run fu x0 σ) ⟨trivial, ⟨⟨trivial, ⟨trivial, ⟨⟨trivial, trivial⟩, ⟨trivial, ⟨⟨trivial, trivial⟩, ⟨trivial, ⟨⟨trivial, trivial⟩, ⟨trivial, ⟨⟨trivial, trivial⟩, trivial⟩⟩⟩⟩⟩⟩⟩⟩⟩, trivial⟩⟩)

-- (*pub-paratext/pub/rscmarkdown.parseState).newText

noncomputable def b128 : Code := match Tryz.f128.body with | some c => c | none => .skip

noncomputable def k128 : Kont R := retK Tryz.prog [.tmp 6]

noncomputable def c128 (run : RunT) (fu : Nat) (x0 x1 x2 : AV) (σ : Store) : Tr R :=
  boxK σ 209 x1 fun x4 σ1 =>
  ldNK σ1 x4 2 fun x8 =>
  bldK [(.int .i64 0), (.int .i64 0), .nils, (.str [])] [(0, 2, x8), (3, 1, x2)] fun x10 =>
  boxK σ1 213 x10 fun x11 σ2 =>
  nchkK x0 fun x14 =>
  addrK x14 11 fun x15 =>
  ld1K σ2 x15 fun x16 =>
  opt (fillK [.nilp] [(0, 1, x11)]) fun cs => newSK σ2 203 cs 1 1 fun x18 σ3 =>
  appK 101 1 8 σ3 x16 x18 fun x19 σ4 =>
  nchkK x0 fun x20 =>
  addrK x20 11 fun x21 =>
  st1K σ4 x21 x19 fun _ σ5 =>
  .ret (x11, σ5)

theorem eq128 (run : RunT) (fu : Nat) (x0 x1 x2 : AV) (σ : Store) : codeK X0 run (.seq .leaf (.seq .leaf (.seq .leaf (.seq .leaf .leaf)))) (subC [] b128) ([x0, x1, x2] ++ padA (23 - 3)) σ k128 = c128 run fu x0 x1 x2 σ := by kernel_rfl

theorem ok128 {run : RunT} (hrun : RunOK X0 run) (fu : Nat) (x0 x1 x2 : AV) (σ : Store) : CallOK X0 128 [x0, x1, x2] σ (c128 run fu x0 x1 x2 σ) :=
  KOK.body (fn := Tryz.f128) (c := subC [] b128) (by kernel_rfl) (by kernel_rfl) (by show 3 ≤ 23; decide) (KOK.whole env0 hrun (eq128 run fu x0 x1 x2 σ) ⟨trivial, ⟨trivial, ⟨trivial, ⟨trivial, trivial⟩⟩⟩⟩)

-- (*pub-paratext/pub/rscmarkdown.parseState).nextB

noncomputable def b129 : Code := match Tryz.f129.body with | some c => c | none => .skip

noncomputable def k129 : Kont R := retK Tryz.prog [.tmp 2]

noncomputable def c129 (run : RunT) (fu : Nat) (x0 : AV) (σ : Store) : Tr R :=
  nchkK x0 fun x4 =>
  addrK x4 5 fun x5 =>
  ld1K σ x5 fun x6 =>
  addK x6 (.int .i64 1) fun x7 =>
  nchkK x0 fun x9 =>
  addrK x9 4 fun x10 =>
  ld1K σ x10 fun x11 =>
  lenLK x11 fun x12 =>
  cmpK .lss x7 x12 fun x13 =>
  ifK x13 (
  nchkK x0 fun x15 =>
  addrK x15 4 fun x16 =>
  ld1K σ x16 fun x17 =>
  nchkK x0 fun x19 =>
  addrK x19 5 fun x20 =>
  ld1K σ x20 fun x21 =>
  addK x21 (.int .i64 1) fun x22 =>
  idxK 4 x17 x22 fun x23 =>
  addrK x23 0 fun x24 =>
  ld1K σ x24 fun x25 =>
  .ret (x25, σ)) (
  .ret (.nili, σ))

theorem eq129 (run : RunT) (fu : Nat) (x0 : AV) (σ : Store) : codeK X0 run (.seq .leaf (.seq (.seq .leaf (.cond (.seq .leaf .leaf) .leaf)) (.seq .leaf .leaf))) (subC [] b129) ([x0] ++ padA (26 - 1)) σ k129 = c129 run fu x0 σ := by kernel_rfl

theorem ok129 {run : RunT} (hrun : RunOK X0 run) (fu : Nat) (x0 : AV) (σ : Store) : CallOK X0 129 [x0] σ (c129 run fu x0 σ) :=
  KOK.body (fn := Tryz.f129) (c := subC [] b129) (by kernel_rfl) (by kernel_rfl) (by show 1 ≤ 26; decide) (KOK.whole env0 hrun (eq129 run fu x0 σ) ⟨trivial, ⟨⟨trivial, ⟨⟨trivial, trivial⟩, trivial⟩⟩, ⟨trivial, trivial⟩⟩⟩)

-- pub-paratext/pub/rscmarkdown.isHR

noncomputable def b133 : Code := match Tryz.f133.body with | some c => c | none => .skip

noncomputable def k133 : Kont R := retK Tryz.prog [.tmp 2]

noncomputable def c133_1 (run : RunT) (fu : Nat) (σ : Store) : Tr R :=
  .ret ((.bool false), σ)

theorem eq133_1 (run : RunT) (fu : Nat) (σ : Store) : codeK X0 run (.seq .leaf .leaf) (subC [true, true, true, true] b133) (frS 0 23 []) σ k133 = c133_1 run fu σ := by kernel_rfl

theorem ok133_1 {run : RunT} (hrun : RunOK X0 run) (fu : Nat) : ∀ fr σ, KOK X0 23 (subC [true, true, true, true] b133) fr σ ((fun fr σ => c133_1 run fu σ) fr σ) k133 := fun fr σ =>
  KOK.piece env0 hrun [] (eq133_1 run fu σ) ⟨trivial, trivial⟩

noncomputable def c133_3 (run : RunT) (fu : Nat) (x3 : AV) (σ : Store) : Tr R :=
  calK run 172 [x3] σ fun x22 σ1 =>
  .ret (x22, σ1)

theorem eq133_3 (run : RunT) (fu : Nat) (x3 : AV) (σ : Store) : codeK X0 run (.seq .leaf .leaf) (subC [true, true, true, false, true, true, false, true, false, true] b133) (frS 0 23 [(3, x3)]) σ (blockK 0 (thenK (fun fr σ => c133_1 run fu σ) k133)) = c133_3 run fu x3 σ := by kernel_rfl

theorem ok133_3 {run : RunT} (hrun : RunOK X0 run) (fu : Nat) : ∀ fr σ, KOK X0 23 (subC [true, true, true, false, true, true, false, true, false, true] b133) fr σ ((fun fr σ => c133_3 run fu (G fr 3) σ) fr σ) (blockK 0 (thenK (fun fr σ => c133_1 run fu σ) k133)) := fun fr σ =>
  KOK.piece env0 hrun [3] (eq133_3 run fu (G fr 3) σ) ⟨trivial, trivial⟩

noncomputable def c133_4b (run : RunT) (fu : Nat) (s4 : W3) (x3 x4 x5 : AV) (σ : Store) : Tr R :=
  calK run 168 [x3, x4] σ fun x17 σ1 =>
  notK x17 fun x18 =>
  ifK x18 (
  cmpK .geq x5 (.int .i64 3) fun x20 =>
  ifK x20 (
  c133_3 run fu x3 σ1) (
  .ret ((.bool false), σ1))) (
  calK run 171 [x3] σ1 fun x21 σ2 =>
  addK x5 (.int .i64 1) fun x15 =>
  s4 x3 x4 x15 σ2)

noncomputable def c133_4 (run : RunT) (fu : Nat) : Nat → W3
  | 0 => fun _ _ _ _ => .fail
  | m + 1 => c133_4b run fu (c133_4 run fu m)

theorem eq133_4 (run : RunT) (fu : Nat) (s4 : W3) (x3 x4 x5 : AV) (σ : Store) : codeK X0 run (.seq (.block (.seq (.seq .leaf (.cond (.seq (.seq .leaf (.cond .leaf .leaf)) (.seq .leaf .leaf)) .leaf)) .leaf)) .leaf) (subC [true, true, true, false, true, true, false, true, false, false, true, false, false] b133) (frS 0 23 [(3, x3), (4, x4), (5, x5)]) σ (thenK (fun fr σ => s4 (G fr 3) (G fr 4) (G fr 5) σ) (blockK 1 (thenK (fun fr σ => c133_3 run fu (G fr 3) σ) (blockK 0 (thenK (fun fr σ => c133_1 run fu σ) k133))))) = c133_4b run fu s4 x3 x4 x5 σ := by kernel_rfl

theorem owed133_4 {run : RunT} (hrun : RunOK X0 run) (fu : Nat) (s4 : W3) : Owes X0 run 23 (.seq (.block (.seq (.seq .leaf (.cond (.seq (.seq .leaf (.cond .leaf .leaf)) (.seq .leaf .leaf)) .leaf)) .leaf)) .leaf) (subC [true, true, true, false, true, true, false, true, false, false, true, false, false] b133) (thenK (fun fr σ => s4 (G fr 3) (G fr 4) (G fr 5) σ) (blockK 1 (thenK (fun fr σ => c133_3 run fu (G fr 3) σ) (blockK 0 (thenK (fun fr σ => c133_1 run fu σ) k133))))) :=
  ⟨⟨⟨trivial, ⟨⟨⟨trivial, ⟨trivial, trivial⟩⟩, ⟨trivial, trivial⟩⟩, trivial⟩⟩, trivial⟩, trivial⟩

theorem ok133_4 {run : RunT} (hrun : RunOK X0 run) (fu : Nat) : ∀ fr σ, KOK X0 23 (subC [true, true, true, false, true, true, false, true, false, false, true, false] b133) fr σ ((fun fr σ => c133_4 run fu fu (G fr 3) (G fr 4) (G fr 5) σ) fr σ) (blockK 1 (thenK (fun fr σ => c133_3 run fu (G fr 3) σ) (blockK 0 (thenK (fun fr σ => c133_1 run fu σ) k133)))) := by
  have h := KOK.loop (X := X0) (N := 23) (b := (subC [true, true, true, false, true, true, false, true, false, false, true, false, false] b133)) (k := (blockK 1 (thenK (fun fr σ => c133_3 run fu (G fr 3) σ) (blockK 0 (thenK (fun fr σ => c133_1 run fu σ) k133))))) (u := fun m fr σ => c133_4 run fu m (G fr 3) (G fr 4) (G fr 5) σ) (fun _ _ => rfl) (fun m fr σ => KOK.piece env0 hrun [3, 4, 5] (eq133_4 run fu (c133_4 run fu m) (G fr 3) (G fr 4) (G fr 5) σ) (owed133_4 hrun fu (c133_4 run fu m)))
  exact fun fr σ => h fu fr σ

noncomputable def c133_2 (run : RunT) (fu : Nat) (x3 x4 x10 : AV) (σ : Store) : Tr R :=
  ifK x10 (
  c133_4 run fu fu x3 x4 (.int .i64 0) σ) (
  c133_1 run fu σ)

theorem eq133_2 (run : RunT) (fu : Nat) (x3 x4 x10 : AV) (σ : Store) : codeK X0 run (.cond (.seq (.seq .leaf (.block (.sub (fun fr σ => c133_4 run fu fu (G fr 3) (G fr 4) (G fr 5) σ)))) (.sub (fun fr σ => c133_3 run fu (G fr 3) σ))) .leaf) (subC [true, true, true, false, true, true, false, true] b133) (frS 0 23 [(3, x3), (4, x4), (10, x10)]) σ (blockK 0 (thenK (fun fr σ => c133_1 run fu σ) k133)) = c133_2 run fu x3 x4 x10 σ := by kernel_rfl

theorem ok133_2 {run : RunT} (hrun : RunOK X0 run) (fu : Nat) : ∀ fr σ, KOK X0 23 (subC [true, true, true, false, true, true, false, true] b133) fr σ ((fun fr σ => c133_2 run fu (G fr 3) (G fr 4) (G fr 10) σ) fr σ) (blockK 0 (thenK (fun fr σ => c133_1 run fu σ) k133)) := fun fr σ =>
  KOK.piece env0 hrun [3, 4, 10] (eq133_2 run fu (G fr 3) (G fr 4) (G fr 10) σ) ⟨⟨⟨trivial, (ok133_4 hrun fu)⟩, (ok133_3 hrun fu)⟩, trivial⟩

noncomputable def c133 (run : RunT) (fu : Nat) (x0 : AV) (σ : Store) : Tr R :=
  boxK σ 201 x0 fun x1 σ1 =>
  ldNK σ1 x1 5 fun x6 =>
  newK σ1 201 [(.int .i64 0), (.int .i64 0), (.int .i64 0), (.str []), (.int .u8 0)] fun x3 σ2 =>
  stNK σ2 x3 5 x6 fun _ σ3 =>
  calK run 139 [x3, (.int .i64 0), (.int .i64 3), (.bool false)] σ3 fun x7 σ4 =>
  calK run 170 [x3] σ4 fun x8 σ5 =>
  cmpK .eql x8 (.int .u8 45) fun x11 =>
  ifK x11 (
  c133_2 run fu x3 x8 x11 σ5) (
  cmpK .eql x8 (.int .u8 95) fun x12 =>
  ifK x12 (
  c133_2 run fu x3 x8 x12 σ5) (
  cmpK .eql x8 (.int .u8 42) fun x13 =>
  c133_2 run fu x3 x8 x13 σ5))

theorem eq133 (run : RunT) (fu : Nat) (x0 : AV) (σ : Store) : codeK X0 run (.seq .leaf (.seq .leaf (.seq .leaf (.seq (.seq .leaf (.seq .leaf (.block (.seq (.seq .leaf (.cond .leaf (.seq .leaf (.cond .leaf .leaf)))) (.sub (fun fr σ => c133_2 run fu (G fr 3) (G fr 4) (G fr 10) σ)))))) (.sub (fun fr σ => c133_1 run fu σ)))))) (subC [] b133) ([x0] ++ padA (23 - 1)) σ k133 = c133 run fu x0 σ := by kernel_rfl

theorem ok133 {run : RunT} (hrun : RunOK X0 run) (fu : Nat) (x0 : AV) (σ : Store) : CallOK X0 133 [x0] σ (c133 run fu x0 σ) :=
  KOK.body (fn := Tryz.f133) (c := subC [] b133) (by kernel_rfl) (by kernel_rfl) (by show 1 ≤ 23; decide) (KOK.whole env0 hrun (eq133 run fu x0 σ) ⟨trivial, ⟨trivial, ⟨trivial, ⟨⟨trivial, ⟨trivial, ⟨⟨trivial, ⟨trivial, ⟨trivial, ⟨trivial, trivial⟩⟩⟩⟩, (ok133_2 hrun fu)⟩⟩⟩, (ok133_1 hrun fu)⟩⟩⟩⟩)

-- (*pub-paratext/pub/rscmarkdown.parseState).curB

noncomputable def b134 : Code := match Tryz.f134.body with | some c => c | none => .skip

noncomputable def k134 : Kont R := retK Tryz.prog [.tmp 2]

noncomputable def c134 (run : RunT) (fu : Nat) (x0 : AV) (σ : Store) : Tr R :=
  nchkK x0 fun x4 =>
  addrK x4 5 fun x5 =>
  ld1K σ x5 fun x6 =>
  nchkK x0 fun x8 =>
  addrK x8 4 fun x9 =>
  ld1K σ x9 fun x10 =>
  lenLK x10 fun x11 =>
  cmpK .lss x6 x11 fun x12 =>
  ifK x12 (
  nchkK x0 fun x14 =>
  addrK x14 4 fun x15 =>
  ld1K σ x15 fun x16 =>
  nchkK x0 fun x18 =>
  addrK x18 5 fun x19 =>
  ld1K σ x19 fun x20 =>
  idxK 4 x16 x20 fun x21 =>
  addrK x21 0 fun x22 =>
  ld1K σ x22 fun x23 =>
  .ret (x23, σ)) (
  .ret (.nili, σ))

theorem eq134 (run : RunT) (fu : Nat) (x0 : AV) (σ : Store) : codeK X0 run (.seq .leaf (.seq (.seq .leaf (.cond (.seq .leaf .leaf) .leaf)) (.seq .leaf .leaf))) (subC [] b134) ([x0] ++ padA (24 - 1)) σ k134 = c134 run fu x0 σ := by kernel_rfl

theorem ok134 {run : RunT} (hrun : RunOK X0 run) (fu : Nat) (x0 : AV) (σ : Store) : CallOK X0 134 [x0] σ (c134 run fu x0 σ) :=
  KOK.body (fn := Tryz.f134) (c := subC [] b134) (by kernel_rfl) (by kernel_rfl) (by show 1 ≤ 24; decide) (KOK.whole env0 hrun (eq134 run fu x0 σ) ⟨trivial, ⟨⟨trivial, ⟨⟨trivial, trivial⟩, trivial⟩⟩, ⟨trivial, trivial⟩⟩⟩)

-- (*pub-paratext/pub/rscmarkdown.parseState).startListItem

noncomputable def b135 : Code := match Tryz.f135.body with | some c => c | none => .skip

noncomputable def k135 : Kont R := retK Tryz.prog [.tmp 4]

noncomputable def c135_6 (run : RunT) (fu : Nat) (x2 x5 x6 x15 : AV) (σ : Store) : Tr R :=
  .fail

theorem eq135_6 (run : RunT) (fu : Nat) (x2 x5 x6 x15 : AV) (σ : Store) : codeK X0 run (.seq .leaf .leaf) (subC [true, false, true, true, true, true, true, true, true, true, true, true, true, true, true, true, true, true] b135) (frS 0 181 [(2, x2), (5, x5), (6, x6), (15, x15)]) σ (noGotoK k135) = c135_6 run fu x2 x5 x6 x15 σ := by kernel_rfl

theorem ok135_6 {run : RunT} (hrun : RunOK X0 run) (fu : Nat) : ∀ fr σ, KOK X0 181 (subC [true, false, true, true, true, true, true, true, true, true, true, true, true, true, true, true, true, true] b135) fr σ ((fun fr σ => c135_6 run fu (G fr 2) (G fr 5) (G fr 6) (G fr 15) σ) fr σ) (noGotoK k135) := fun fr σ =>
  KOK.piece env0 hrun [2, 5, 6, 15] (eq135_6 run fu (G fr 2) (G fr 5) (G fr 6) (G fr 15) σ) ⟨trivial, trivial⟩

noncomputable def c135_5 (run : RunT) (fu : Nat) (x2 x5 x6 x8 x9 x15 : AV) (σ : Store) : Tr R :=
  ld1K σ x15 fun x126 =>
  eqOK (nilEq nilP) x126 .nilp fun x127 =>
  grdK x127 false σ (fun f => ld1K σ x15 fun v => f v σ) fun x129 σ1 =>
  grdK x127 false σ1 (fun f => nchkK x129 fun v => f v σ1) fun x130 σ2 =>
  grdK x127 false σ2 (fun f => addrK x130 0 fun v => f v σ2) fun x131 σ3 =>
  grdK x127 false σ3 (fun f => ld1K σ3 x131 fun v => f v σ3) fun x132 σ4 =>
  grdK x127 false σ4 (fun f => f x8 σ4) fun x133 σ5 =>
  grdK x127 false σ5 (fun f => fitsK .i32 x133 fun v => f v σ5) fun x134 σ6 =>
  grdK x127 false σ6 (fun f => cmpK .neq x132 x134 fun v => f v σ6) fun x135 σ7 =>
  pickK x127 (.bool true) x135 fun x136 =>
  ifK x136 (
  ld1K σ7 x15 fun x137 =>
  eqOK (nilEq nilP) x137 .nilp fun x138 =>
  grdK x138 true σ7 (fun f => ld1K σ7 x2 fun v => f v σ7) fun x140 σ8 =>
  grdK x138 true σ8 (fun f => calK run 89 [x140] σ8 f) fun x141 σ9 =>
  grdK x138 true σ9 (fun f => neOK (nilEq nilP) x141 .nilp fun v => f v σ9) fun x142 σ10 =>
  pickK x138 x142 (.bool false) fun x143 =>
  grdK x143 true σ10 (fun f => calK run 56 [x5] σ10 f) fun x145 σ11 =>
  grdK x143 true σ11 (fun f => f x145 σ11) fun x146 σ12 =>
  grdK x146 false σ12 (fun f => f x8 σ12) fun x147 σ13 =>
  grdK x146 false σ13 (fun f => cmpK .eql x147 (.int .u8 46) fun v => f v σ13) fun x148 σ14 =>
  grdK x146 false σ14 (fun f => f x148 σ14) fun x149 σ15 =>
  grdK x149 false σ15 (fun f => f x8 σ15) fun x150 σ16 =>
  grdK x149 false σ16 (fun f => cmpK .eql x150 (.int .u8 41) fun v => f v σ16) fun x151 σ17 =>
  grdK x146 false σ17 (fun f => pickK x149 (.bool true) x151 fun v => f v σ17) fun x152 σ18 =>
  grdK x146 false σ18 (fun f => f x152 σ18) fun x153 σ19 =>
  grdK x153 true σ19 (fun f => f x9 σ19) fun x154 σ20 =>
  grdK x153 true σ20 (fun f => cmpK .neq x154 (.int .i64 1) fun v => f v σ20) fun x155 σ21 =>
  grdK x146 false σ21 (fun f => pickK x153 x155 (.bool false) fun v => f v σ21) fun x156 σ22 =>
  grdK x143 true σ22 (fun f => pickK x146 (.bool true) x156 fun v => f v σ22) fun x157 σ23 =>
  pickK x143 x157 (.bool false) fun x158 =>
  ifK x158 (
  ld1K σ23 x2 fun x159 =>
  nchkK x159 fun x160 =>
  addrK x160 6 fun x161 =>
  st1K σ23 x161 (.bool true) fun _ σ24 =>
  .ret ((.bool false), σ24)) (
  fitsK .i32 x8 fun x163 =>
  bldK [(.int .i32 0), (.int .i64 0), (.bool false), .nilp, .nilf] [(0, 1, x163), (1, 1, x9)] fun x165 =>
  boxK σ23 485 x165 fun x166 σ25 =>
  st1K σ25 x15 x166 fun _ σ26 =>
  ld1K σ26 x2 fun x167 =>
  ld1K σ26 x15 fun x168 =>
  calK run 49 [x167, (.iface 237 x168)] σ26 fun x170 σ27 =>
  c135_6 run fu x2 x5 x6 x15 σ27)) (
  c135_6 run fu x2 x5 x6 x15 σ7)

theorem eq135_5 (run : RunT) (fu : Nat) (x2 x5 x6 x8 x9 x15 : AV) (σ : Store) : codeK X0 run (.seq (.seq .leaf (.cond (.seq (.seq .leaf (.cond (.seq .leaf (.seq .leaf .leaf)) .leaf)) (.seq .leaf .leaf)) .leaf)) (.sub (fun fr σ => c135_6 run fu (G fr 2) (G fr 5) (G fr 6) (G fr 15) σ))) (subC [true, false, true, true, true, true, true, true, true, true, true, true, true, true, true, true, true] b135) (frS 0 181 [(2, x2), (5, x5), (6, x6), (8, x8), (9, x9), (15, x15)]) σ (noGotoK k135) = c135_5 run fu x2 x5 x6 x8 x9 x15 σ := by kernel_rfl

theorem ok135_5 {run : RunT} (hrun : RunOK X0 run) (fu : Nat) : ∀ fr σ, KOK X0 181 (subC [true, false, true, true, true, true, true, true, true, true, true, true, true, true, true, true, true] b135) fr σ ((fun fr σ => c135_5 run fu (G fr 2) (G fr 5) (G fr 6) (G fr 8) (G fr 9) (G fr 15) σ) fr σ) (noGotoK k135) := fun fr σ =>
  KOK.piece env0 hrun [2, 5, 6, 8, 9, 15] (eq135_5 run fu (G fr 2) (G fr 5) (G fr 6) (G fr 8) (G fr 9) (G fr 15) σ) ⟨⟨trivial, ⟨⟨⟨trivial, ⟨⟨trivial, ⟨trivial, trivial⟩⟩, trivial⟩⟩, ⟨trivial, trivial⟩⟩, trivial⟩⟩, (ok135_6 hrun fu)⟩

noncomputable def c135_4 (run : RunT) (fu : Nat) (x2 x5 x6 x8 x9 : AV) (σ : Store) : Tr R :=
  newK σ 475 [.nilp] fun x15 σ1 =>
  ld1K σ1 x2 fun x119 =>
  calK run 129 [x119] σ1 fun x120 σ2 =>
  tasK (some .nilp) 237 true x120 fun x121 =>
  extK x121 0 fun x122 =>
  extK x121 1 fun x123 =>
  ifK x123 (
  st1K σ2 x15 x122 fun _ σ3 =>
  c135_5 run fu x2 x5 x6 x8 x9 x15 σ3) (
  c135_5 run fu x2 x5 x6 x8 x9 x15 σ2)

theorem eq135_4 (run : RunT) (fu : Nat) (x2 x5 x6 x8 x9 : AV) (σ : Store) : codeK X0 run (.seq .leaf (.seq (.seq .leaf (.seq .leaf (.cond .leaf .leaf))) (.sub (fun fr σ => c135_5 run fu (G fr 2) (G fr 5) (G fr 6) (G fr 8) (G fr 9) (G fr 15) σ)))) (subC [true, false, true, true, true, true, true, true, true, true, true, true, true, true, true] b135) (frS 0 181 [(2, x2), (5, x5), (6, x6), (8, x8), (9, x9)]) σ (noGotoK k135) = c135_4 run fu x2 x5 x6 x8 x9 σ := by kernel_rfl

theorem ok135_4 {run : RunT} (hrun : RunOK X0 run) (fu : Nat) : ∀ fr σ, KOK X0 181 (subC [true, false, true, true, true, true, true, true, true, true, true, true, true, true, true] b135) fr σ ((fun fr σ => c135_4 run fu (G fr 2) (G fr 5) (G fr 6) (G fr 8) (G fr 9) σ) fr σ) (noGotoK k135) := fun fr σ =>
  KOK.piece env0 hrun [2, 5, 6, 8, 9] (eq135_4 run fu (G fr 2) (G fr 5) (G fr 6) (G fr 8) (G fr 9) σ) ⟨trivial, ⟨⟨trivial, ⟨trivial, ⟨trivial, trivial⟩⟩⟩, (ok135_5 hrun fu)⟩⟩

noncomputable def c135_3 (run : RunT) (fu : Nat) (x2 x5 x6 x8 x9 x12 x13 : AV) (σ : Store) : Tr R :=
  calK run 139 [x12, (.int .i64 1), (.int .i64 1), (.bool true)] σ fun x112 σ1 =>
  notK x112 fun x113 =>
  ifK x113 (
  addK x6 x13 fun x116 =>
  ldNK σ1 x12 5 fun x117 =>
  stNK σ1 x5 5 x117 fun _ σ2 =>
  c135_4 run fu x2 x5 x116 x8 x9 σ2) (
  c135_4 run fu x2 x5 x6 x8 x9 σ1)

theorem eq135_3 (run : RunT) (fu : Nat) (x2 x5 x6 x8 x9 x12 x13 : AV) (σ : Store) : codeK X0 run (.seq (.seq .leaf (.cond (.seq .leaf .leaf) .leaf)) (.sub (fun fr σ => c135_4 run fu (G fr 2) (G fr 5) (G fr 6) (G fr 8) (G fr 9) σ))) (subC [true, false, true, true, true, true, true, true, true, true, true, true, true, true] b135) (frS 0 181 [(2, x2), (5, x5), (6, x6), (8, x8), (9, x9), (12, x12), (13, x13)]) σ (noGotoK k135) = c135_3 run fu x2 x5 x6 x8 x9 x12 x13 σ := by kernel_rfl

theorem ok135_3 {run : RunT} (hrun : RunOK X0 run) (fu : Nat) : ∀ fr σ, KOK X0 181 (subC [true, false, true, true, true, true, true, true, true, true, true, true, true, true] b135) fr σ ((fun fr σ => c135_3 run fu (G fr 2) (G fr 5) (G fr 6) (G fr 8) (G fr 9) (G fr 12) (G fr 13) σ) fr σ) (noGotoK k135) := fun fr σ =>
  KOK.piece env0 hrun [2, 5, 6, 8, 9, 12, 13] (eq135_3 run fu (G fr 2) (G fr 5) (G fr 6) (G fr 8) (G fr 9) (G fr 12) (G fr 13) σ) ⟨⟨trivial, ⟨⟨trivial, trivial⟩, trivial⟩⟩, (ok135_4 hrun fu)⟩

noncomputable def c135_7b (run : RunT) (fu : Nat) (s7 : W8) (x2 x5 x6 x8 x9 x12 x13 x14 : AV) (σ : Store) : Tr R :=
  cmpK .lss x14 (.int .i64 3) fun x104 =>
  grdK x104 true σ (fun f => calK run 139 [x12, (.int .i64 1), (.int .i64 1), (.bool false)] σ f) fun x106 σ1 =>
  pickK x104 x106 (.bool false) fun x107 =>
  ifK x107 (
  addK x13 (.int .i64 1) fun x111 =>
  addK x14 (.int .i64 1) fun x109 =>
  s7 x2 x5 x6 x8 x9 x12 x111 x109 σ1) (
  c135_3 run fu x2 x5 x6 x8 x9 x12 x13 σ1)

noncomputable def c135_7 (run : RunT) (fu : Nat) : Nat → W8
  | 0 => fun _ _ _ _ _ _ _ _ _ => .fail
  | m + 1 => c135_7b run fu (c135_7 run fu m)

theorem eq135_7 (run : RunT) (fu : Nat) (s7 : W8) (x2 x5 x6 x8 x9 x12 x13 x14 : AV) (σ : Store) : codeK X0 run (.seq (.seq .leaf (.cond .leaf .leaf)) (.seq (.block .leaf) .leaf)) (subC [true, false, true, true, true, true, true, true, true, true, true, true, true, false, true, false, false] b135) (frS 0 181 [(2, x2), (5, x5), (6, x6), (8, x8), (9, x9), (12, x12), (13, x13), (14, x14)]) σ (thenK (fun fr σ => s7 (G fr 2) (G fr 5) (G fr 6) (G fr 8) (G fr 9) (G fr 12) (G fr 13) (G fr 14) σ) (blockK 5 (thenK (fun fr σ => c135_3 run fu (G fr 2) (G fr 5) (G fr 6) (G fr 8) (G fr 9) (G fr 12) (G fr 13) σ) (noGotoK k135)))) = c135_7b run fu s7 x2 x5 x6 x8 x9 x12 x13 x14 σ := by kernel_rfl

theorem owed135_7 {run : RunT} (hrun : RunOK X0 run) (fu : Nat) (s7 : W8) : Owes X0 run 181 (.seq (.seq .leaf (.cond .leaf .leaf)) (.seq (.block .leaf) .leaf)) (subC [true, false, true, true, true, true, true, true, true, true, true, true, true, false, true, false, false] b135) (thenK (fun fr σ => s7 (G fr 2) (G fr 5) (G fr 6) (G fr 8) (G fr 9) (G fr 12) (G fr 13) (G fr 14) σ) (blockK 5 (thenK (fun fr σ => c135_3 run fu (G fr 2) (G fr 5) (G fr 6) (G fr 8) (G fr 9) (G fr 12) (G fr 13) σ) (noGotoK k135)))) :=
  ⟨⟨trivial, ⟨trivial, trivial⟩⟩, ⟨trivial, trivial⟩⟩

theorem ok135_7 {run : RunT} (hrun : RunOK X0 run) (fu : Nat) : ∀ fr σ, KOK X0 181 (subC [true, false, true, true, true, true, true, true, true, true, true, true, true, false, true, false] b135) fr σ ((fun fr σ => c135_7 run fu fu (G fr 2) (G fr 5) (G fr 6) (G fr 8) (G fr 9) (G fr 12) (G fr 13) (G fr 14) σ) fr σ) (blockK 5 (thenK (fun fr σ => c135_3 run fu (G fr 2) (G fr 5) (G fr 6) (G fr 8) (G fr 9) (G fr 12) (G fr 13) σ) (noGotoK k135))) := by
  have h := KOK.loop (X := X0) (N := 181) (b := (subC [true, false, true, true, true, true, true, true, true, true, true, true, true, false, true, false, false] b135)) (k := (blockK 5 (thenK (fun fr σ => c135_3 run fu (G fr 2) (G fr 5) (G fr 6) (G fr 8) (G fr 9) (G fr 12) (G fr 13) σ) (noGotoK k135)))) (u := fun m fr σ => c135_7 run fu m (G fr 2) (G fr 5) (G fr 6) (G fr 8) (G fr 9) (G fr 12) (G fr 13) (G fr 14) σ) (fun _ _ => rfl) (fun m fr σ => KOK.piece env0 hrun [2, 5, 6, 8, 9, 12, 13, 14] (eq135_7 run fu (c135_7 run fu m) (G fr 2) (G fr 5) (G fr 6) (G fr 8) (G fr 9) (G fr 12) (G fr 13) (G fr 14) σ) (owed135_7 hrun fu (c135_7 run fu m)))
  exact fun fr σ => h fu fr σ

noncomputable def c135_2 (run : RunT) (fu : Nat) (x2 x5 x6 x8 x9 : AV) (σ : Store) : Tr R :=
  calK run 139 [x5, (.int .i64 1), (.int .i64 1), (.bool true)] σ fun x98 σ1 =>
  notK x98 fun x99 =>
  ifK x99 (
  .ret ((.bool false), σ1)) (
  addK x6 (.int .i64 1) fun x101 =>
  ldNK σ1 x5 5 fun x102 =>
  newK σ1 201 [(.int .i64 0), (.int .i64 0), (.int .i64 0), (.str []), (.int .u8 0)] fun x12 σ2 =>
  stNK σ2 x12 5 x102 fun _ σ3 =>
  c135_7 run fu fu x2 x5 x101 x8 x9 x12 (.int .i64 0) (.int .i64 0) σ3)

theorem eq135_2 (run : RunT) (fu : Nat) (x2 x5 x6 x8 x9 : AV) (σ : Store) : codeK X0 run (.seq (.seq .leaf (.cond (.seq .leaf .leaf) .leaf)) (.seq .leaf (.seq .leaf (.seq .leaf (.seq (.seq .leaf (.block (.sub (fun fr σ => c135_7 run fu fu (G fr 2) (G fr 5) (G fr 6) (G fr 8) (G fr 9) (G fr 12) (G fr 13) (G fr 14) σ)))) (.sub (fun fr σ => c135_3 run fu (G fr 2) (G fr 5) (G fr 6) (G fr 8) (G fr 9) (G fr 12) (G fr 13) σ))))))) (subC [true, false, true, true, true, true, true, true, true] b135) (frS 0 181 [(2, x2), (5, x5), (6, x6), (8, x8), (9, x9)]) σ (noGotoK k135) = c135_2 run fu x2 x5 x6 x8 x9 σ := by kernel_rfl

theorem ok135_2 {run : RunT} (hrun : RunOK X0 run) (fu : Nat) : ∀ fr σ, KOK X0 181 (subC [true, false, true, true, true, true, true, true, true] b135) fr σ ((fun fr σ => c135_2 run fu (G fr 2) (G fr 5) (G fr 6) (G fr 8) (G fr 9) σ) fr σ) (noGotoK k135) := fun fr σ =>
  KOK.piece env0 hrun [2, 5, 6, 8, 9] (eq135_2 run fu (G fr 2) (G fr 5) (G fr 6) (G fr 8) (G fr 9) σ) ⟨⟨trivial, ⟨⟨trivial, trivial⟩, trivial⟩⟩, ⟨trivial, ⟨trivial, ⟨trivial, ⟨⟨trivial, (ok135_7 hrun fu)⟩, (ok135_3 hrun fu)⟩⟩⟩⟩⟩

noncomputable def c135_10b (run : RunT) (fu : Nat) (s10 : W5) (x2 x5 x6 x9 x10 : AV) (σ : Store) : Tr R :=
  addrK x5 3 fun x56 =>
  ld1K σ x56 fun x57 =>
  lenSK x57 fun x58 =>
  cmpK .geq x10 x58 fun x59 =>
  ifK x59 (
  .ret ((.bool false), σ)) (
  addrK x5 3 fun x60 =>
  ld1K σ x60 fun x61 =>
  idxSK x61 x10 fun x63 =>
  cmpK .eql x63 (.int .u8 46) fun x65 =>
  grdK x65 false σ (fun f => f x63 σ) fun x67 σ1 =>
  grdK x65 false σ1 (fun f => cmpK .eql x67 (.int .u8 41) fun v => f v σ1) fun x68 σ2 =>
  pickK x65 (.bool true) x68 fun x69 =>
  ifK x69 (
  addK x10 (.int .i64 1) fun x72 =>
  addrK x5 1 fun x75 =>
  ld1K σ2 x75 fun x76 =>
  subK x72 x76 fun x77 =>
  addK x6 x77 fun x78 =>
  addrK x5 1 fun x80 =>
  st1K σ2 x80 x72 fun _ σ3 =>
  c135_2 run fu x2 x5 x78 x63 x9 σ3) (
  cmpK .lss x63 (.int .u8 48) fun x82 =>
  grdK x82 false σ2 (fun f => f x63 σ2) fun x84 σ4 =>
  grdK x82 false σ4 (fun f => cmpK .lss (.int .u8 57) x84 fun v => f v σ4) fun x85 σ5 =>
  pickK x82 (.bool true) x85 fun x86 =>
  ifK x86 (
  .ret ((.bool false), σ5)) (
  addrK x5 1 fun x88 =>
  ld1K σ5 x88 fun x89 =>
  subK x10 x89 fun x90 =>
  cmpK .geq x90 (.int .i64 9) fun x91 =>
  ifK x91 (
  .ret ((.bool false), σ5)) (
  mulK x9 (.int .i64 10) fun x93 =>
  fitsK .i64 x63 fun x95 =>
  addK x93 x95 fun x96 =>
  subK x96 (.int .i64 48) fun x97 =>
  addK x10 (.int .i64 1) fun x54 =>
  s10 x2 x5 x6 x97 x54 σ5))))

noncomputable def c135_10 (run : RunT) (fu : Nat) : Nat → W5
  | 0 => fun _ _ _ _ _ _ => .fail
  | m + 1 => c135_10b run fu (c135_10 run fu m)

theorem eq135_10 (run : RunT) (fu : Nat) (s10 : W5) (x2 x5 x6 x9 x10 : AV) (σ : Store) : codeK X0 run (.seq (.block (.seq (.seq .leaf (.cond (.seq .leaf .leaf) .leaf)) (.seq .leaf (.seq (.seq .leaf (.cond (.seq .leaf (.seq .leaf (.seq .leaf (.seq .leaf .leaf)))) .leaf)) (.seq (.seq .leaf (.cond (.seq .leaf .leaf) .leaf)) (.seq (.seq .leaf (.cond (.seq .leaf .leaf) .leaf)) .leaf)))))) .leaf) (subC [true, false, true, true, true, true, true, true, false, true, false, true, true, true, false, true, false, false] b135) (frS 0 181 [(2, x2), (5, x5), (6, x6), (9, x9), (10, x10)]) σ (thenK (fun fr σ => s10 (G fr 2) (G fr 5) (G fr 6) (G fr 9) (G fr 10) σ) (blockK 3 (blockK 2 (thenK (fun fr σ => c135_2 run fu (G fr 2) (G fr 5) (G fr 6) (G fr 8) (G fr 9) σ) (noGotoK k135))))) = c135_10b run fu s10 x2 x5 x6 x9 x10 σ := by kernel_rfl

theorem owed135_10 {run : RunT} (hrun : RunOK X0 run) (fu : Nat) (s10 : W5) : Owes X0 run 181 (.seq (.block (.seq (.seq .leaf (.cond (.seq .leaf .leaf) .leaf)) (.seq .leaf (.seq (.seq .leaf (.cond (.seq .leaf (.seq .leaf (.seq .leaf (.seq .leaf .leaf)))) .leaf)) (.seq (.seq .leaf (.cond (.seq .leaf .leaf) .leaf)) (.seq (.seq .leaf (.cond (.seq .leaf .leaf) .leaf)) .leaf)))))) .leaf) (subC [true, false, true, true, true, true, true, true, false, true, false, true, true, true, false, true, false, false] b135) (thenK (fun fr σ => s10 (G fr 2) (G fr 5) (G fr 6) (G fr 9) (G fr 10) σ) (blockK 3 (blockK 2 (thenK (fun fr σ => c135_2 run fu (G fr 2) (G fr 5) (G fr 6) (G fr 8) (G fr 9) σ) (noGotoK k135))))) :=
  ⟨⟨⟨trivial, ⟨⟨trivial, trivial⟩, trivial⟩⟩, ⟨trivial, ⟨⟨trivial, ⟨⟨trivial, ⟨trivial, ⟨trivial, ⟨trivial, trivial⟩⟩⟩⟩, trivial⟩⟩, ⟨⟨trivial, ⟨⟨trivial, trivial⟩, trivial⟩⟩, ⟨⟨trivial, ⟨⟨trivial, trivial⟩, trivial⟩⟩, trivial⟩⟩⟩⟩⟩, trivial⟩

theorem ok135_10 {run : RunT} (hrun : RunOK X0 run) (fu : Nat) : ∀ fr σ, KOK X0 181 (subC [true, false, true, true, true, true, true, true, false, true, false, true, true, true, false, true, false] b135) fr σ ((fun fr σ => c135_10 run fu fu (G fr 2) (G fr 5) (G fr 6) (G fr 9) (G fr 10) σ) fr σ) (blockK 3 (blockK 2 (thenK (fun fr σ => c135_2 run fu (G fr 2) (G fr 5) (G fr 6) (G fr 8) (G fr 9) σ) (noGotoK k135)))) := by
  have h := KOK.loop (X := X0) (N := 181) (b := (subC [true, false, true, true, true, true, true, true, false, true, false, true, true, true, false, true, false, false] b135)) (k := (blockK 3 (blockK 2 (thenK (fun fr σ => c135_2 run fu (G fr 2) (G fr 5) (G fr 6) (G fr 8) (G fr 9) σ) (noGotoK k135))))) (u := fun m fr σ => c135_10 run fu m (G fr 2) (G fr 5) (G fr 6) (G fr 9) (G fr 10) σ) (fun _ _ => rfl) (fun m fr σ => KOK.piece env0 hrun [2, 5, 6, 9, 10] (eq135_10 run fu (c135_10 run fu m) (G fr 2) (G fr 5) (G fr 6) (G fr 9) (G fr 10) σ) (owed135_10 hrun fu (c135_10 run fu m)))
  exact fun fr σ => h fu fr σ

noncomputable def c135_10x (run : RunT) (fu : Nat) (s10 : W5) (x2 x5 x6 x9 x10 : AV) (σ : Store) : Tr R :=
  addrK x5 3 fun x56 =>
  ld1K σ x56 fun x57 =>
  lenSK x57 fun x58 =>
  cmpK .geq x10 x58 fun x59 =>
  ifK x59 (
  .fail) (
  addrK x5 3 fun x60 =>
  ld1K σ x60 fun x61 =>
  idxSK x61 x10 fun x63 =>
  cmpK .eql x63 (.int .u8 46) fun x65 =>
  grdK x65 false σ (fun f => f x63 σ) fun x67 σ1 =>
  grdK x65 false σ1 (fun f => cmpK .eql x67 (.int .u8 41) fun v => f v σ1) fun x68 σ2 =>
  pickK x65 (.bool true) x68 fun x69 =>
  ifK x69 (
  addK x10 (.int .i64 1) fun x72 =>
  addrK x5 1 fun x75 =>
  ld1K σ2 x75 fun x76 =>
  subK x72 x76 fun x77 =>
  addK x6 x77 fun x78 =>
  addrK x5 1 fun x80 =>
  st1K σ2 x80 x72 fun _ σ3 =>
  .fail) (
  cmpK .lss x63 (.int .u8 48) fun x82 =>
  grdK x82 false σ2 (fun f => f x63 σ2) fun x84 σ4 =>
  grdK x82 false σ4 (fun f => cmpK .lss (.int .u8 57) x84 fun v => f v σ4) fun x85 σ5 =>
  pickK x82 (.bool true) x85 fun x86 =>
  ifK x86 (
  .fail) (
  addrK x5 1 fun x88 =>
  ld1K σ5 x88 fun x89 =>
  subK x10 x89 fun x90 =>
  cmpK .geq x90 (.int .i64 9) fun x91 =>
  ifK x91 (
  .fail) (
  mulK x9 (.int .i64 10) fun x93 =>
  fitsK .i64 x63 fun x95 =>
  addK x93 x95 fun x96 =>
  subK x96 (.int .i64 48) fun x97 =>
  addK x10 (.int .i64 1) fun x54 =>
  s10 x2 x5 x6 x97 x54 σ5))))

theorem eq135_10x (run : RunT) (fu : Nat) (s10 : W5) (x2 x5 x6 x9 x10 : AV) (σ : Store) : codeK X0 run (.seq (.block (.seq (.seq .leaf (.cond (.seq .leaf .leaf) .leaf)) (.seq .leaf (.seq (.seq .leaf (.cond (.seq .leaf (.seq .leaf (.seq .leaf (.seq .leaf .leaf)))) .leaf)) (.seq (.seq .leaf (.cond (.seq .leaf .leaf) .leaf)) (.seq (.seq .leaf (.cond (.seq .leaf .leaf) .leaf)) .leaf)))))) .leaf) (subC [true, false, true, true, true, true, true, true, false, true, false, true, true, true, false, true, false, false] b135) (frS 0 181 [(2, x2), (5, x5), (6, x6), (9, x9), (10, x10)]) σ (thenK (fun fr σ => s10 (G fr 2) (G fr 5) (G fr 6) (G fr 9) (G fr 10) σ) failK) = c135_10x run fu s10 x2 x5 x6 x9 x10 σ := by kernel_rfl

theorem owed135_10x {run : RunT} (hrun : RunOK X0 run) (fu : Nat) (s10 : W5) : Owes X0 run 181 (.seq (.block (.seq (.seq .leaf (.cond (.seq .leaf .leaf) .leaf)) (.seq .leaf (.seq (.seq .leaf (.cond (.seq .leaf (.seq .leaf (.seq .leaf (.seq .leaf .leaf)))) .leaf)) (.seq (.seq .leaf (.cond (.seq .leaf .leaf) .leaf)) (.seq (.seq .leaf (.cond (.seq .leaf .leaf) .leaf)) .leaf)))))) .leaf) (subC [true, false, true, true, true, true, true, true, false, true, false, true, true, true, false, true, false, false] b135) (thenK (fun fr σ => s10 (G fr 2) (G fr 5) (G fr 6) (G fr 9) (G fr 10) σ) failK) :=
  ⟨⟨⟨trivial, ⟨⟨trivial, trivial⟩, trivial⟩⟩, ⟨trivial, ⟨⟨trivial, ⟨⟨trivial, ⟨trivial, ⟨trivial, ⟨trivial, trivial⟩⟩⟩⟩, trivial⟩⟩, ⟨⟨trivial, ⟨⟨trivial, trivial⟩, trivial⟩⟩, ⟨⟨trivial, ⟨⟨trivial, trivial⟩, trivial⟩⟩, trivial⟩⟩⟩⟩⟩, trivial⟩

noncomputable def c135_10s (run : RunT) (fu : Nat) : Nat → List AV → Store → Tr R :=
  sweepU (planOf (some 1) 103 4 [] [] [3] []) (fun s2 xs σ => c135_10b run fu (fun y2 y5 y6 y9 y10 σ => s2 [y2, y5, y6, y9, y10] σ) (xs.getD 0 .any) (xs.getD 1 .any) (xs.getD 2 .any) (xs.getD 3 .any) (xs.getD 4 .any) σ) (fun s2 xs σ => c135_10x run fu (fun y2 y5 y6 y9 y10 σ => s2 [y2, y5, y6, y9, y10] σ) (xs.getD 0 .any) (xs.getD 1 .any) (xs.getD 2 .any) (xs.getD 3 .any) (xs.getD 4 .any) σ)

theorem ok135_10s {run : RunT} (hrun : RunOK X0 run) (fu : Nat) : ∀ fr σ, KOK X0 181 (subC [true, false, true, true, true, true, true, true, false, true, false, true, true, true, false, true, false] b135) fr σ ((fun fr σ => c135_10s run fu fu [fr.getD 2 .any, fr.getD 5 .any, fr.getD 6 .any, fr.getD 9 .any, fr.getD 10 .any] σ) fr σ) (blockK 3 (blockK 2 (thenK (fun fr σ => c135_2 run fu (G fr 2) (G fr 5) (G fr 6) (G fr 8) (G fr 9) σ) (noGotoK k135)))) := by
  have h := KOK.sweep (X := X0) (N := 181) (b := (subC [true, false, true, true, true, true, true, true, false, true, false, true, true, true, false, true, false, false] b135)) (k := (blockK 3 (blockK 2 (thenK (fun fr σ => c135_2 run fu (G fr 2) (G fr 5) (G fr 6) (G fr 8) (G fr 9) σ) (noGotoK k135))))) (js := [2, 5, 6, 9, 10]) (body := (fun s2 xs σ => c135_10b run fu (fun y2 y5 y6 y9 y10 σ => s2 [y2, y5, y6, y9, y10] σ) (xs.getD 0 .any) (xs.getD 1 .any) (xs.getD 2 .any) (xs.getD 3 .any) (xs.getD 4 .any) σ)) (bodyx := (fun s2 xs σ => c135_10x run fu (fun y2 y5 y6 y9 y10 σ => s2 [y2, y5, y6, y9, y10] σ) (xs.getD 0 .any) (xs.getD 1 .any) (xs.getD 2 .any) (xs.getD 3 .any) (xs.getD 4 .any) σ)) rfl (planOf (some 1) 103 4 [] [] [3] []) (fun s2 fr σ => KOK.piece env0 hrun [2, 5, 6, 9, 10] (eq135_10 run fu (fun y2 y5 y6 y9 y10 σ => s2 [y2, y5, y6, y9, y10] σ) (G fr 2) (G fr 5) (G fr 6) (G fr 9) (G fr 10) σ) (owed135_10 hrun fu (fun y2 y5 y6 y9 y10 σ => s2 [y2, y5, y6, y9, y10] σ))) (fun s2 fr σ => KOK.piece env0 hrun [2, 5, 6, 9, 10] (eq135_10x run fu (fun y2 y5 y6 y9 y10 σ => s2 [y2, y5, y6, y9, y10] σ) (G fr 2) (G fr 5) (G fr 6) (G fr 9) (G fr 10) σ) (owed135_10x hrun fu (fun y2 y5 y6 y9 y10 σ => s2 [y2, y5, y6, y9, y10] σ)))
  exact fun fr σ => h fu fr σ

noncomputable def c135_9 (run : RunT) (fu : Nat) (x2 x5 x6 x9 x40 : AV) (σ : Store) : Tr R :=
  ifK x40 (
  addrK x5 1 fun x51 =>
  ld1K σ x51 fun x52 =>
  c135_10s run fu fu [x2, x5, x6, x9, x52] σ) (
  .ret ((.bool false), σ))

theorem eq135_9 (run : RunT) (fu : Nat) (x2 x5 x6 x9 x40 : AV) (σ : Store) : codeK X0 run (.cond (.seq .leaf (.block (.sub (fun fr σ => c135_10s run fu fu [fr.getD 2 .any, fr.getD 5 .any, fr.getD 6 .any, fr.getD 9 .any, fr.getD 10 .any] σ)))) (.seq .leaf .leaf)) (subC [true, false, true, true, true, true, true, true, false, true, false, true, true, true] b135) (frS 0 181 [(2, x2), (5, x5), (6, x6), (9, x9), (40, x40)]) σ (blockK 2 (thenK (fun fr σ => c135_2 run fu (G fr 2) (G fr 5) (G fr 6) (G fr 8) (G fr 9) σ) (noGotoK k135))) = c135_9 run fu x2 x5 x6 x9 x40 σ := by kernel_rfl

theorem ok135_9 {run : RunT} (hrun : RunOK X0 run) (fu : Nat) : ∀ fr σ, KOK X0 181 (subC [true, false, true, true, true, true, true, true, false, true, false, true, true, true] b135) fr σ ((fun fr σ => c135_9 run fu (G fr 2) (G fr 5) (G fr 6) (G fr 9) (G fr 40) σ) fr σ) (blockK 2 (thenK (fun fr σ => c135_2 run fu (G fr 2) (G fr 5) (G fr 6) (G fr 8) (G fr 9) σ) (noGotoK k135))) := fun fr σ =>
  KOK.piece env0 hrun [2, 5, 6, 9, 40] (eq135_9 run fu (G fr 2) (G fr 5) (G fr 6) (G fr 9) (G fr 40) σ) ⟨⟨trivial, (ok135_10s hrun fu)⟩, ⟨trivial, trivial⟩⟩

noncomputable def c135_8 (run : RunT) (fu : Nat) (x2 x5 x6 x8 x9 x31 x32 : AV) (σ : Store) : Tr R :=
  ifK x32 (
  calK run 168 [x5, x8] σ fun x37 σ1 =>
  addK x6 (.int .i64 1) fun x39 =>
  c135_2 run fu x2 x5 x39 x8 x9 σ1) (
  cmpK .eql x31 (.int .u8 48) fun x41 =>
  ifK x41 (
  c135_9 run fu x2 x5 x6 x9 x41 σ) (
  cmpK .eql x31 (.int .u8 49) fun x42 =>
  ifK x42 (
  c135_9 run fu x2 x5 x6 x9 x42 σ) (
  cmpK .eql x31 (.int .u8 50) fun x43 =>
  ifK x43 (
  c135_9 run fu x2 x5 x6 x9 x43 σ) (
  cmpK .eql x31 (.int .u8 51) fun x44 =>
  ifK x44 (
  c135_9 run fu x2 x5 x6 x9 x44 σ) (
  cmpK .eql x31 (.int .u8 52) fun x45 =>
  ifK x45 (
  c135_9 run fu x2 x5 x6 x9 x45 σ) (
  cmpK .eql x31 (.int .u8 53) fun x46 =>
  ifK x46 (
  c135_9 run fu x2 x5 x6 x9 x46 σ) (
  cmpK .eql x31 (.int .u8 54) fun x47 =>
  ifK x47 (
  c135_9 run fu x2 x5 x6 x9 x47 σ) (
  cmpK .eql x31 (.int .u8 55) fun x48 =>
  ifK x48 (
  c135_9 run fu x2 x5 x6 x9 x48 σ) (
  cmpK .eql x31 (.int .u8 56) fun x49 =>
  ifK x49 (
  c135_9 run fu x2 x5 x6 x9 x49 σ) (
  cmpK .eql x31 (.int .u8 57) fun x50 =>
  c135_9 run fu x2 x5 x6 x9 x50 σ))))))))))

theorem eq135_8 (run : RunT) (fu : Nat) (x2 x5 x6 x8 x9 x31 x32 : AV) (σ : Store) : codeK X0 run (.cond (.seq .leaf .leaf) (.seq (.seq .leaf (.cond .leaf (.seq .leaf (.cond .leaf (.seq .leaf (.cond .leaf (.seq .leaf (.cond .leaf (.seq .leaf (.cond .leaf (.seq .leaf (.cond .leaf (.seq .leaf (.cond .leaf (.seq .leaf (.cond .leaf (.seq .leaf (.cond .leaf .leaf)))))))))))))))))) (.sub (fun fr σ => c135_9 run fu (G fr 2) (G fr 5) (G fr 6) (G fr 9) (G fr 40) σ)))) (subC [true, false, true, true, true, true, true, true, false, true, false, true] b135) (frS 0 181 [(2, x2), (5, x5), (6, x6), (8, x8), (9, x9), (31, x31), (32, x32)]) σ (blockK 2 (thenK (fun fr σ => c135_2 run fu (G fr 2) (G fr 5) (G fr 6) (G fr 8) (G fr 9) σ) (noGotoK k135))) = c135_8 run fu x2 x5 x6 x8 x9 x31 x32 σ := by kernel_rfl

theorem ok135_8 {run : RunT} (hrun : RunOK X0 run) (fu : Nat) : ∀ fr σ, KOK X0 181 (subC [true, false, true, true, true, true, true, true, false, true, false, true] b135) fr σ ((fun fr σ => c135_8 run fu (G fr 2) (G fr 5) (G fr 6) (G fr 8) (G fr 9) (G fr 31) (G fr 32) σ) fr σ) (blockK 2 (thenK (fun fr σ => c135_2 run fu (G fr 2) (G fr 5) (G fr 6) (G fr 8) (G fr 9) σ) (noGotoK k135))) := fun fr σ =>
  KOK.piece env0 hrun [2, 5, 6, 8, 9, 31, 32] (eq135_8 run fu (G fr 2) (G fr 5) (G fr 6) (G fr 8) (G fr 9) (G fr 31) (G fr 32) σ) ⟨⟨trivial, trivial⟩, ⟨⟨trivial, ⟨trivial, ⟨trivial, ⟨trivial, ⟨trivial, ⟨trivial, ⟨trivial, ⟨trivial, ⟨trivial, ⟨trivial, ⟨trivial, ⟨trivial, ⟨trivial, ⟨trivial, ⟨trivial, ⟨trivial, ⟨trivial, ⟨trivial, trivial⟩⟩⟩⟩⟩⟩⟩⟩⟩⟩⟩⟩⟩⟩⟩⟩⟩⟩, (ok135_9 hrun fu)⟩⟩

noncomputable def c135_1 (run : RunT) (fu : Nat) (x2 x5 x6 : AV) (σ : Store) : Tr R :=
  calK run 170 [x5] σ fun x30 σ1 =>
  cmpK .eql x30 (.int .u8 45) fun x33 =>
  ifK x33 (
  c135_8 run fu x2 x5 x6 x30 (.int .i64 0) x30 x33 σ1) (
  cmpK .eql x30 (.int .u8 42) fun x34 =>
  ifK x34 (
  c135_8 run fu x2 x5 x6 x30 (.int .i64 0) x30 x34 σ1) (
  cmpK .eql x30 (.int .u8 43) fun x35 =>
  c135_8 run fu x2 x5 x6 x30 (.int .i64 0) x30 x35 σ1))

theorem eq135_1 (run : RunT) (fu : Nat) (x2 x5 x6 : AV) (σ : Store) : codeK X0 run (.seq .leaf (.seq .leaf (.seq .leaf (.seq (.seq .leaf (.block (.seq (.seq .leaf (.cond .leaf (.seq .leaf (.cond .leaf .leaf)))) (.sub (fun fr σ => c135_8 run fu (G fr 2) (G fr 5) (G fr 6) (G fr 8) (G fr 9) (G fr 31) (G fr 32) σ))))) (.sub (fun fr σ => c135_2 run fu (G fr 2) (G fr 5) (G fr 6) (G fr 8) (G fr 9) σ)))))) (subC [true, false, true, true, true] b135) (frS 0 181 [(2, x2), (5, x5), (6, x6)]) σ (noGotoK k135) = c135_1 run fu x2 x5 x6 σ := by kernel_rfl

theorem ok135_1 {run : RunT} (hrun : RunOK X0 run) (fu : Nat) : ∀ fr σ, KOK X0 181 (subC [true, false, true, true, true] b135) fr σ ((fun fr σ => c135_1 run fu (G fr 2) (G fr 5) (G fr 6) σ) fr σ) (noGotoK k135) := fun fr σ =>
  KOK.piece env0 hrun [2, 5, 6] (eq135_1 run fu (G fr 2) (G fr 5) (G fr 6) σ) ⟨trivial, ⟨trivial, ⟨trivial, ⟨⟨trivial, ⟨⟨trivial, ⟨trivial, ⟨trivial, ⟨trivial, trivial⟩⟩⟩⟩, (ok135_8 hrun fu)⟩⟩, (ok135_2 hrun fu)⟩⟩⟩⟩

noncomputable def c135_11b (run : RunT) (fu : Nat) (s11 : W4) (x2 x5 x6 x7 : AV) (σ : Store) : Tr R :=
  cmpK .lss x7 (.int .i64 3) fun x23 =>
  ifK x23 (
  calK run 139 [x5, (.int .i64 1), (.int .i64 1), (.bool false)] σ fun x26 σ1 =>
  notK x26 fun x27 =>
  ifK x27 (
  c135_1 run fu x2 x5 x6 σ1) (
  addK x6 (.int .i64 1) fun x29 =>
  addK x7 (.int .i64 1) fun x25 =>
  s11 x2 x5 x29 x25 σ1)) (
  c135_1 run fu x2 x5 x6 σ)

noncomputable def c135_11 (run : RunT) (fu : Nat) : Nat → W4
  | 0 => fun _ _ _ _ _ => .fail
  | m + 1 => c135_11b run fu (c135_11 run fu m)

theorem eq135_11 (run : RunT) (fu : Nat) (s11 : W4) (x2 x5 x6 x7 : AV) (σ : Store) : codeK X0 run (.seq (.seq .leaf (.cond .leaf .leaf)) (.seq (.block (.seq (.seq .leaf (.cond .leaf .leaf)) .leaf)) .leaf)) (subC [true, false, true, true, false, true, false, false] b135) (frS 0 181 [(2, x2), (5, x5), (6, x6), (7, x7)]) σ (thenK (fun fr σ => s11 (G fr 2) (G fr 5) (G fr 6) (G fr 7) σ) (blockK 0 (thenK (fun fr σ => c135_1 run fu (G fr 2) (G fr 5) (G fr 6) σ) (noGotoK k135)))) = c135_11b run fu s11 x2 x5 x6 x7 σ := by kernel_rfl

theorem owed135_11 {run : RunT} (hrun : RunOK X0 run) (fu : Nat) (s11 : W4) : Owes X0 run 181 (.seq (.seq .leaf (.cond .leaf .leaf)) (.seq (.block (.seq (.seq .leaf (.cond .leaf .leaf)) .leaf)) .leaf)) (subC [true, false, true, true, false, true, false, false] b135) (thenK (fun fr σ => s11 (G fr 2) (G fr 5) (G fr 6) (G fr 7) σ) (blockK 0 (thenK (fun fr σ => c135_1 run fu (G fr 2) (G fr 5) (G fr 6) σ) (noGotoK k135)))) :=
  ⟨⟨trivial, ⟨trivial, trivial⟩⟩, ⟨⟨⟨trivial, ⟨trivial, trivial⟩⟩, trivial⟩, trivial⟩⟩

theorem ok135_11 {run : RunT} (hrun : RunOK X0 run) (fu : Nat) : ∀ fr σ, KOK X0 181 (subC [true, false, true, true, false, true, false] b135) fr σ ((fun fr σ => c135_11 run fu fu (G fr 2) (G fr 5) (G fr 6) (G fr 7) σ) fr σ) (blockK 0 (thenK (fun fr σ => c135_1 run fu (G fr 2) (G fr 5) (G fr 6) σ) (noGotoK k135))) := by
  have h := KOK.loop (X := X0) (N := 181) (b := (subC [true, false, true, true, false, true, false, false] b135)) (k := (blockK 0 (thenK (fun fr σ => c135_1 run fu (G fr 2) (G fr 5) (G fr 6) σ) (noGotoK k135)))) (u := fun m fr σ => c135_11 run fu m (G fr 2) (G fr 5) (G fr 6) (G fr 7) σ) (fun _ _ => rfl) (fun m fr σ => KOK.piece env0 hrun [2, 5, 6, 7] (eq135_11 run fu (c135_11 run fu m) (G fr 2) (G fr 5) (G fr 6) (G fr 7) σ) (owed135_11 hrun fu (c135_11 run fu m)))
  exact fun fr σ => h fu fr σ

noncomputable def c135 (run : RunT) (fu : Nat) (x0 x1 : AV) (σ : Store) : Tr R :=
  boxK σ 221 x0 fun x2 σ1 =>
  nchkK x1 fun x20 =>
  ldNK σ1 x20 5 fun x21 =>
  newK σ1 201 [(.int .i64 0), (.int .i64 0), (.int .i64 0), (.str []), (.int .u8 0)] fun x5 σ2 =>
  stNK σ2 x5 5 x21 fun _ σ3 =>
  c135_11 run fu fu x2 x5 (.int .i64 0) (.int .i64 0) σ3

theorem eq135 (run : RunT) (fu : Nat) (x0 x1 : AV) (σ : Store) : codeK X0 run (.seq .leaf (.scope (.seq .leaf (.seq .leaf (.seq (.seq .leaf (.block (.sub (fun fr σ => c135_11 run fu fu (G fr 2) (G fr 5) (G fr 6) (G fr 7) σ)))) (.sub (fun fr σ => c135_1 run fu (G fr 2) (G fr 5) (G fr 6) σ))))))) (subC [] b135) ([x0, x1] ++ padA (181 - 2)) σ k135 = c135 run fu x0 x1 σ := by kernel_rfl

theorem ok135 {run : RunT} (hrun : RunOK X0 run) (fu : Nat) (x0 x1 : AV) (σ : Store) : CallOK X0 135 [x0, x1] σ (c135 run fu x0 x1 σ) :=
  KOK.body (fn := Tryz.f135) (c := subC [] b135) (by kernel_rfl) (by kernel_rfl) (by show 2 ≤ 181; decide) (KOK.whole env0 hrun (eq135 run fu x0 x1 σ) ⟨trivial, ⟨trivial, ⟨trivial, ⟨⟨trivial, (ok135_11 hrun fu)⟩, (ok135_1 hrun fu)⟩⟩⟩⟩)

-- (*pub-paratext/pub/rscmarkdown.parseState).startHTML

noncomputable def b136 : Code := match Tryz.f136.body with | some c => c | none => .skip

noncomputable def k136 : Kont R := retK Tryz.prog [.tmp 4]

noncomputable def c136_3 (run : RunT) (fu : Nat) (s1 : W5) (σ : Store) : Tr R :=
  .ret ((.bool false), σ)

theorem eq136_3 (run : RunT) (fu : Nat) (s1 : W5) (σ : Store) : codeK X0 run (.seq .leaf .leaf) (subC [true, true, true] (lblC 0 (subC [true, false] b136))) (frS 0 368 []) σ (scopeK (subC [true, false] b136) (lblU 0 (fun fr σ => s1 (G fr 0) (G fr 1) (G fr 6) (G fr 9) (G fr 10) σ)) k136) = c136_3 run fu s1 σ := by kernel_rfl

theorem ok136_3 {run : RunT} (hrun : RunOK X0 run) (fu : Nat) (s1 : W5) : ∀ fr σ, KOK X0 368 (subC [true, true, true] (lblC 0 (subC [true, false] b136))) fr σ ((fun fr σ => c136_3 run fu s1 σ) fr σ) (scopeK (subC [true, false] b136) (lblU 0 (fun fr σ => s1 (G fr 0) (G fr 1) (G fr 6) (G fr 9) (G fr 10) σ)) k136) := fun fr σ =>
  KOK.piece env0 hrun [] (eq136_3 run fu s1 σ) ⟨trivial, trivial⟩

noncomputable def c136_4 (run : RunT) (fu : Nat) (s1 : W5) (x0 x1 x6 : AV) (σ : Store) : Tr R :=
  calK run 149 [x0, x6, (.int .i64 0)] σ fun x338 σ1 =>
  extK x338 0 fun x339 =>
  extK x338 1 fun x340 =>
  extK x338 2 fun x341 =>
  grdK x341 true σ1 (fun f => f x6 σ1) fun x344 σ2 =>
  grdK x341 true σ2 (fun f => f x340 σ2) fun x345 σ3 =>
  grdK x341 true σ3 (fun f => calK run 110 [x344, x345] σ3 f) fun x346 σ4 =>
  grdK x341 true σ4 (fun f => f x6 σ4) fun x347 σ5 =>
  grdK x341 true σ5 (fun f => lenSK x347 fun v => f v σ5) fun x348 σ6 =>
  grdK x341 true σ6 (fun f => cmpK .eql x346 x348 fun v => f v σ6) fun x349 σ7 =>
  pickK x341 x349 (.bool false) fun x350 =>
  ifK x350 (
  bldK [(.bool false), .nils, .nilf] [(0, 1, (.bool true))] fun x351 =>
  boxK σ7 559 x351 fun x352 σ8 =>
  calK run 49 [x0, (.iface 277 x352)] σ8 fun x356 σ9 =>
  nchkK x352 fun x359 =>
  addrK x359 1 fun x360 =>
  ld1K σ9 x360 fun x361 =>
  calK run 122 [x1] σ9 fun x363 σ10 =>
  opt (fillK [(.str [])] [(0, 1, x363)]) fun cs => newSK σ10 19 cs 1 1 fun x364 σ11 =>
  appK 9 1 16 σ11 x361 x364 fun x365 σ12 =>
  nchkK x352 fun x366 =>
  addrK x366 1 fun x367 =>
  st1K σ12 x367 x365 fun _ σ13 =>
  ld1K σ10 x360 fun v14 =>
  must (AV.beq v14 x361) (
  ld1K σ11 x360 fun v15 =>
  must (AV.beq v15 x361) (
  .ret ((.bool true), σ13)))) (
  c136_3 run fu s1 σ7)

theorem eq136_4 (run : RunT) (fu : Nat) (s1 : W5) (x0 x1 x6 : AV) (σ : Store) : codeK X0 run (.seq .leaf (.seq .leaf (.cond (.seq .leaf (.seq .leaf (.seq .leaf (.seq .leaf .leaf)))) .leaf))) (subC [true, true, false, true, false, true] (lblC 0 (subC [true, false] b136))) (frS 0 368 [(0, x0), (1, x1), (6, x6)]) σ (thenK (fun fr σ => c136_3 run fu s1 σ) (scopeK (subC [true, false] b136) (lblU 0 (fun fr σ => s1 (G fr 0) (G fr 1) (G fr 6) (G fr 9) (G fr 10) σ)) k136)) = c136_4 run fu s1 x0 x1 x6 σ := by kernel_rfl

theorem ok136_4 {run : RunT} (hrun : RunOK X0 run) (fu : Nat) (s1 : W5) : ∀ fr σ, KOK X0 368 (subC [true, true, false, true, false, true] (lblC 0 (subC [true, false] b136))) fr σ ((fun fr σ => c136_4 run fu s1 (G fr 0) (G fr 1) (G fr 6) σ) fr σ) (thenK (fun fr σ => c136_3 run fu s1 σ) (scopeK (subC [true, false] b136) (lblU 0 (fun fr σ => s1 (G fr 0) (G fr 1) (G fr 6) (G fr 9) (G fr 10) σ)) k136)) := fun fr σ =>
  KOK.piece env0 hrun [0, 1, 6] (eq136_4 run fu s1 (G fr 0) (G fr 1) (G fr 6) σ) ⟨trivial, ⟨trivial, ⟨⟨trivial, ⟨trivial, ⟨trivial, ⟨trivial, trivial⟩⟩⟩⟩, trivial⟩⟩⟩

noncomputable def c136_5 (run : RunT) (fu : Nat) (s1 : W5) (x0 x1 : AV) (σ : Store) : Tr R :=
  bldK [(.bool false), .nils, .nilf] [(0, 1, (.bool true))] fun x318 =>
  boxK σ 559 x318 fun x319 σ1 =>
  calK run 49 [x0, (.iface 277 x319)] σ1 fun x323 σ2 =>
  nchkK x319 fun x326 =>
  addrK x326 1 fun x327 =>
  ld1K σ2 x327 fun x328 =>
  calK run 122 [x1] σ2 fun x330 σ3 =>
  opt (fillK [(.str [])] [(0, 1, x330)]) fun cs => newSK σ3 19 cs 1 1 fun x331 σ4 =>
  appK 9 1 16 σ4 x328 x331 fun x332 σ5 =>
  nchkK x319 fun x333 =>
  addrK x333 1 fun x334 =>
  st1K σ5 x334 x332 fun _ σ6 =>
  ld1K σ3 x327 fun v7 =>
  must (AV.beq v7 x328) (
  ld1K σ4 x327 fun v8 =>
  must (AV.beq v8 x328) (
  .ret ((.bool true), σ6)))

theorem eq136_5 (run : RunT) (fu : Nat) (s1 : W5) (x0 x1 : AV) (σ : Store) : codeK X0 run (.seq .leaf (.seq .leaf (.seq .leaf (.seq .leaf .leaf)))) (subC [true, true, false, true, false, false, true, true, false, true] (lblC 0 (subC [true, false] b136))) (frS 0 368 [(0, x0), (1, x1)]) σ (thenK (fun fr σ => c136_4 run fu s1 (G fr 0) (G fr 1) (G fr 6) σ) (thenK (fun fr σ => c136_3 run fu s1 σ) (scopeK (subC [true, false] b136) (lblU 0 (fun fr σ => s1 (G fr 0) (G fr 1) (G fr 6) (G fr 9) (G fr 10) σ)) k136))) = c136_5 run fu s1 x0 x1 σ := by kernel_rfl

theorem ok136_5 {run : RunT} (hrun : RunOK X0 run) (fu : Nat) (s1 : W5) : ∀ fr σ, KOK X0 368 (subC [true, true, false, true, false, false, true, true, false, true] (lblC 0 (subC [true, false] b136))) fr σ ((fun fr σ => c136_5 run fu s1 (G fr 0) (G fr 1) σ) fr σ) (thenK (fun fr σ => c136_4 run fu s1 (G fr 0) (G fr 1) (G fr 6) σ) (thenK (fun fr σ => c136_3 run fu s1 σ) (scopeK (subC [true, false] b136) (lblU 0 (fun fr σ => s1 (G fr 0) (G fr 1) (G fr 6) (G fr 9) (G fr 10) σ)) k136))) := fun fr σ =>
  KOK.piece env0 hrun [0, 1] (eq136_5 run fu s1 (G fr 0) (G fr 1) σ) ⟨trivial, ⟨trivial, ⟨trivial, ⟨trivial, trivial⟩⟩⟩⟩

noncomputable def c136_2 (run : RunT) (fu : Nat) (s1 : W5) (x0 x1 x6 : AV) (σ : Store) : Tr R :=
  calK run 89 [x0] σ fun x293 σ1 =>
  eqOK (nilEq nilP) x293 .nilp fun x294 =>
  ifK x294 (
  calK run 148 [x0, x6, (.int .i64 0)] σ1 fun x298 σ2 =>
  extK x298 0 fun x299 =>
  extK x298 1 fun x300 =>
  extK x298 2 fun x301 =>
  grdK x301 true σ2 (fun f => f x6 σ2) fun x304 σ3 =>
  grdK x301 true σ3 (fun f => f x300 σ3) fun x305 σ4 =>
  grdK x301 true σ4 (fun f => calK run 110 [x304, x305] σ4 f) fun x306 σ5 =>
  grdK x301 true σ5 (fun f => f x6 σ5) fun x307 σ6 =>
  grdK x301 true σ6 (fun f => lenSK x307 fun v => f v σ6) fun x308 σ7 =>
  grdK x301 true σ7 (fun f => cmpK .eql x306 x308 fun v => f v σ7) fun x309 σ8 =>
  pickK x301 x309 (.bool false) fun x310 =>
  ifK x310 (
  lenSK x6 fun x313 =>
  cmpK .neq x300 x313 fun x314 =>
  ifK x314 (
  nchkK x0 fun x316 =>
  addrK x316 6 fun x317 =>
  st1K σ8 x317 (.bool true) fun _ σ9 =>
  c136_5 run fu s1 x0 x1 σ9) (
  c136_5 run fu s1 x0 x1 σ8)) (
  c136_4 run fu s1 x0 x1 x6 σ8)) (
  c136_3 run fu s1 σ1)

theorem eq136_2 (run : RunT) (fu : Nat) (s1 : W5) (x0 x1 x6 : AV) (σ : Store) : codeK X0 run (.seq (.seq .leaf (.cond (.seq (.seq .leaf (.seq .leaf (.cond (.seq (.seq .leaf (.cond .leaf .leaf)) (.sub (fun fr σ => c136_5 run fu s1 (G fr 0) (G fr 1) σ))) .leaf))) (.sub (fun fr σ => c136_4 run fu s1 (G fr 0) (G fr 1) (G fr 6) σ))) .leaf)) (.sub (fun fr σ => c136_3 run fu s1 σ))) (subC [true, true] (lblC 0 (subC [true, false] b136))) (frS 0 368 [(0, x0), (1, x1), (6, x6)]) σ (scopeK (subC [true, false] b136) (lblU 0 (fun fr σ => s1 (G fr 0) (G fr 1) (G fr 6) (G fr 9) (G fr 10) σ)) k136) = c136_2 run fu s1 x0 x1 x6 σ := by kernel_rfl

theorem ok136_2 {run : RunT} (hrun : RunOK X0 run) (fu : Nat) (s1 : W5) : ∀ fr σ, KOK X0 368 (subC [true, true] (lblC 0 (subC [true, false] b136))) fr σ ((fun fr σ => c136_2 run fu s1 (G fr 0) (G fr 1) (G fr 6) σ) fr σ) (scopeK (subC [true, false] b136) (lblU 0 (fun fr σ => s1 (G fr 0) (G fr 1) (G fr 6) (G fr 9) (G fr 10) σ)) k136) := fun fr σ =>
  KOK.piece env0 hrun [0, 1, 6] (eq136_2 run fu s1 (G fr 0) (G fr 1) (G fr 6) σ) ⟨⟨trivial, ⟨⟨⟨trivial, ⟨trivial, ⟨⟨⟨trivial, ⟨trivial, trivial⟩⟩, (ok136_5 hrun fu s1)⟩, trivial⟩⟩⟩, (ok136_4 hrun fu s1)⟩, trivial⟩⟩, (ok136_3 hrun fu s1)⟩

noncomputable def c136_7 (run : RunT) (fu : Nat) (s1 : W5) (σ : Store) : Tr R :=
  .ret ((.bool true), σ)

theorem eq136_7 (run : RunT) (fu : Nat) (s1 : W5) (σ : Store) : codeK X0 run (.seq .leaf .leaf) (subC [true, false, true, false, true, false, true, false, true, true, true, true] (lblC 0 (subC [true, false] b136))) (frS 0 368 []) σ (blockK 6 (thenK (fun fr σ => c136_2 run fu s1 (G fr 0) (G fr 1) (G fr 6) σ) (scopeK (subC [true, false] b136) (lblU 0 (fun fr σ => s1 (G fr 0) (G fr 1) (G fr 6) (G fr 9) (G fr 10) σ)) k136))) = c136_7 run fu s1 σ := by kernel_rfl

theorem ok136_7 {run : RunT} (hrun : RunOK X0 run) (fu : Nat) (s1 : W5) : ∀ fr σ, KOK X0 368 (subC [true, false, true, false, true, false, true, false, true, true, true, true] (lblC 0 (subC [true, false] b136))) fr σ ((fun fr σ => c136_7 run fu s1 σ) fr σ) (blockK 6 (thenK (fun fr σ => c136_2 run fu s1 (G fr 0) (G fr 1) (G fr 6) σ) (scopeK (subC [true, false] b136) (lblU 0 (fun fr σ => s1 (G fr 0) (G fr 1) (G fr 6) (G fr 9) (G fr 10) σ)) k136))) := fun fr σ =>
  KOK.piece env0 hrun [] (eq136_7 run fu s1 σ) ⟨trivial, trivial⟩

noncomputable def c136_6 (run : RunT) (fu : Nat) (s1 : W5) (x0 x1 x6 x266 : AV) (σ : Store) : Tr R :=
  ifK x266 (
  bldK [(.bool false), .nils, .nilf] [(2, 1, (.fn (.func 176) [] []))] fun x271 =>
  boxK σ 559 x271 fun x272 σ1 =>
  calK run 49 [x0, (.iface 277 x272)] σ1 fun x276 σ2 =>
  nchkK x272 fun x279 =>
  addrK x279 1 fun x280 =>
  ld1K σ2 x280 fun x281 =>
  calK run 122 [x1] σ2 fun x283 σ3 =>
  opt (fillK [(.str [])] [(0, 1, x283)]) fun cs => newSK σ3 19 cs 1 1 fun x284 σ4 =>
  appK 9 1 16 σ4 x281 x284 fun x285 σ5 =>
  nchkK x272 fun x286 =>
  addrK x286 1 fun x287 =>
  st1K σ5 x287 x285 fun _ σ6 =>
  ld1K σ3 x280 fun v7 =>
  must (AV.beq v7 x281) (
  ld1K σ4 x280 fun v8 =>
  must (AV.beq v8 x281) (
  calK run 176 [x6] σ6 fun x289 σ9 =>
  ifK x289 (
  calK run 59 [x0] σ9 fun x291 σ10 =>
  c136_7 run fu s1 σ10) (
  c136_7 run fu s1 σ9)))) (
  c136_2 run fu s1 x0 x1 x6 σ)

theorem eq136_6 (run : RunT) (fu : Nat) (s1 : W5) (x0 x1 x6 x266 : AV) (σ : Store) : codeK X0 run (.cond (.seq .leaf (.seq .leaf (.seq .leaf (.seq (.seq .leaf (.cond .leaf .leaf)) (.sub (fun fr σ => c136_7 run fu s1 σ)))))) .leaf) (subC [true, false, true, false, true, false, true] (lblC 0 (subC [true, false] b136))) (frS 0 368 [(0, x0), (1, x1), (6, x6), (266, x266)]) σ (blockK 6 (thenK (fun fr σ => c136_2 run fu s1 (G fr 0) (G fr 1) (G fr 6) σ) (scopeK (subC [true, false] b136) (lblU 0 (fun fr σ => s1 (G fr 0) (G fr 1) (G fr 6) (G fr 9) (G fr 10) σ)) k136))) = c136_6 run fu s1 x0 x1 x6 x266 σ := by kernel_rfl

theorem ok136_6 {run : RunT} (hrun : RunOK X0 run) (fu : Nat) (s1 : W5) : ∀ fr σ, KOK X0 368 (subC [true, false, true, false, true, false, true] (lblC 0 (subC [true, false] b136))) fr σ ((fun fr σ => c136_6 run fu s1 (G fr 0) (G fr 1) (G fr 6) (G fr 266) σ) fr σ) (blockK 6 (thenK (fun fr σ => c136_2 run fu s1 (G fr 0) (G fr 1) (G fr 6) σ) (scopeK (subC [true, false] b136) (lblU 0 (fun fr σ => s1 (G fr 0) (G fr 1) (G fr 6) (G fr 9) (G fr 10) σ)) k136))) := fun fr σ =>
  KOK.piece env0 hrun [0, 1, 6, 266] (eq136_6 run fu s1 (G fr 0) (G fr 1) (G fr 6) (G fr 266) σ) ⟨⟨trivial, ⟨trivial, ⟨trivial, ⟨⟨trivial, ⟨trivial, trivial⟩⟩, (ok136_7 hrun fu s1)⟩⟩⟩⟩, trivial⟩

noncomputable def c136_1Lb (run : RunT) (fu : Nat) (s1 : W5) (x0 x1 x6 x9 x10 : AV) (σ : Store) : Tr R :=
  lenSK x6 fun x233 =>
  cmpK .gtr x233 (.int .i64 1) fun x234 =>
  grdK x234 true σ (fun f => f x6 σ) fun x236 σ1 =>
  grdK x234 true σ1 (fun f => idxSK x236 (.int .i64 1) fun v => f v σ1) fun x237 σ2 =>
  grdK x234 true σ2 (fun f => cmpK .neq x237 (.int .u8 47) fun v => f v σ2) fun x238 σ3 =>
  pickK x234 x238 (.bool false) fun x239 =>
  grdK x239 true σ3 (fun f => f x9 σ3) fun x241 σ4 =>
  grdK x239 true σ4 (fun f => f x6 σ4) fun x242 σ5 =>
  grdK x239 true σ5 (fun f => lenSK x242 fun v => f v σ5) fun x243 σ6 =>
  grdK x239 true σ6 (fun f => cmpK .geq x241 x243 fun v => f v σ6) fun x244 σ7 =>
  grdK x239 true σ7 (fun f => f x244 σ7) fun x245 σ8 =>
  grdK x245 false σ8 (fun f => f x6 σ8) fun x246 σ9 =>
  grdK x245 false σ9 (fun f => f x9 σ9) fun x247 σ10 =>
  grdK x245 false σ10 (fun f => idxSK x246 x247 fun v => f v σ10) fun x248 σ11 =>
  grdK x245 false σ11 (fun f => cmpK .eql x248 (.int .u8 32) fun v => f v σ11) fun x249 σ12 =>
  grdK x239 true σ12 (fun f => pickK x245 (.bool true) x249 fun v => f v σ12) fun x250 σ13 =>
  grdK x239 true σ13 (fun f => f x250 σ13) fun x251 σ14 =>
  grdK x251 false σ14 (fun f => f x6 σ14) fun x252 σ15 =>
  grdK x251 false σ15 (fun f => f x9 σ15) fun x253 σ16 =>
  grdK x251 false σ16 (fun f => idxSK x252 x253 fun v => f v σ16) fun x254 σ17 =>
  grdK x251 false σ17 (fun f => cmpK .eql x254 (.int .u8 9) fun v => f v σ17) fun x255 σ18 =>
  grdK x239 true σ18 (fun f => pickK x251 (.bool true) x255 fun v => f v σ18) fun x256 σ19 =>
  grdK x239 true σ19 (fun f => f x256 σ19) fun x257 σ20 =>
  grdK x257 false σ20 (fun f => f x6 σ20) fun x258 σ21 =>
  grdK x257 false σ21 (fun f => f x9 σ21) fun x259 σ22 =>
  grdK x257 false σ22 (fun f => idxSK x258 x259 fun v => f v σ22) fun x260 σ23 =>
  grdK x257 false σ23 (fun f => cmpK .eql x260 (.int .u8 62) fun v => f v σ23) fun x261 σ24 =>
  grdK x239 true σ24 (fun f => pickK x257 (.bool true) x261 fun v => f v σ24) fun x262 σ25 =>
  pickK x239 x262 (.bool false) fun x263 =>
  ifK x263 (
  b2sK σ25 x10 fun x265 =>
  eqSK x265 (.str [112, 114, 101]) fun x267 =>
  ifK x267 (
  c136_6 run fu s1 x0 x1 x6 x267 σ25) (
  eqSK x265 (.str [115, 99, 114, 105, 112, 116]) fun x268 =>
  ifK x268 (
  c136_6 run fu s1 x0 x1 x6 x268 σ25) (
  eqSK x265 (.str [115, 116, 121, 108, 101]) fun x269 =>
  ifK x269 (
  c136_6 run fu s1 x0 x1 x6 x269 σ25) (
  eqSK x265 (.str [116, 101, 120, 116, 97, 114, 101, 97]) fun x270 =>
  c136_6 run fu s1 x0 x1 x6 x270 σ25)))) (
  c136_2 run fu s1 x0 x1 x6 σ25)

noncomputable def c136_1L (run : RunT) (fu : Nat) : Nat → W5
  | 0 => fun _ _ _ _ _ _ => .fail
  | m + 1 => c136_1Lb run fu (c136_1L run fu m)

theorem eq136_1L (run : RunT) (fu : Nat) (s1 : W5) (x0 x1 x6 x9 x10 : AV) (σ : Store) : codeK X0 run (.seq .leaf (.seq (.seq .leaf (.cond (.seq .leaf (.block (.seq (.seq .leaf (.cond .leaf (.seq .leaf (.cond .leaf (.seq .leaf (.cond .leaf .leaf)))))) (.sub (fun fr σ => c136_6 run fu s1 (G fr 0) (G fr 1) (G fr 6) (G fr 266) σ))))) .leaf)) (.sub (fun fr σ => c136_2 run fu s1 (G fr 0) (G fr 1) (G fr 6) σ)))) (subC [] (lblC 0 (subC [true, false] b136))) (frS 0 368 [(0, x0), (1, x1), (6, x6), (9, x9), (10, x10)]) σ (scopeK (subC [true, false] b136) (lblU 0 (fun fr σ => s1 (G fr 0) (G fr 1) (G fr 6) (G fr 9) (G fr 10) σ)) k136) = c136_1Lb run fu s1 x0 x1 x6 x9 x10 σ := by kernel_rfl

theorem owed136_1L {run : RunT} (hrun : RunOK X0 run) (fu : Nat) (s1 : W5) : Owes X0 run 368 (.seq .leaf (.seq (.seq .leaf (.cond (.seq .leaf (.block (.seq (.seq .leaf (.cond .leaf (.seq .leaf (.cond .leaf (.seq .leaf (.cond .leaf .leaf)))))) (.sub (fun fr σ => c136_6 run fu s1 (G fr 0) (G fr 1) (G fr 6) (G fr 266) σ))))) .leaf)) (.sub (fun fr σ => c136_2 run fu s1 (G fr 0) (G fr 1) (G fr 6) σ)))) (subC [] (lblC 0 (subC [true, false] b136))) (scopeK (subC [true, false] b136) (lblU 0 (fun fr σ => s1 (G fr 0) (G fr 1) (G fr 6) (G fr 9) (G fr 10) σ)) k136) :=
  ⟨trivial, ⟨⟨trivial, ⟨⟨trivial, ⟨⟨trivial, ⟨trivial, ⟨trivial, ⟨trivial, ⟨trivial, ⟨trivial, trivial⟩⟩⟩⟩⟩⟩, (ok136_6 hrun fu s1)⟩⟩, trivial⟩⟩, (ok136_2 hrun fu s1)⟩⟩

noncomputable def c136_13 (run : RunT) (fu : Nat) (x0 x1 : AV) (σ : Store) : Tr R :=
  bldK [(.bool false), .nils, .nilf] [(0, 1, (.bool true))] fun x215 =>
  boxK σ 559 x215 fun x216 σ1 =>
  calK run 49 [x0, (.iface 277 x216)] σ1 fun x220 σ2 =>
  nchkK x216 fun x223 =>
  addrK x223 1 fun x224 =>
  ld1K σ2 x224 fun x225 =>
  calK run 122 [x1] σ2 fun x227 σ3 =>
  opt (fillK [(.str [])] [(0, 1, x227)]) fun cs => newSK σ3 19 cs 1 1 fun x228 σ4 =>
  appK 9 1 16 σ4 x225 x228 fun x229 σ5 =>
  nchkK x216 fun x230 =>
  addrK x230 1 fun x231 =>
  st1K σ5 x231 x229 fun _ σ6 =>
  ld1K σ3 x224 fun v7 =>
  must (AV.beq v7 x225) (
  ld1K σ4 x224 fun v8 =>
  must (AV.beq v8 x225) (
  .ret ((.bool true), σ6)))

theorem eq136_13 (run : RunT) (fu : Nat) (x0 x1 : AV) (σ : Store) : codeK X0 run (.seq (.seq .leaf (.seq .leaf (.seq .leaf (.seq .leaf .leaf)))) .leaf) (subC [true, false, true, true, true, true, true, true, true, true, true, true, true, true, true, true, true] b136) (frS 0 368 [(0, x0), (1, x1)]) σ (scopeK (subC [true, false] b136) (lblU 0 (fun fr σ => c136_1L run fu fu (G fr 0) (G fr 1) (G fr 6) (G fr 9) (G fr 10) σ)) k136) = c136_13 run fu x0 x1 σ := by kernel_rfl

theorem ok136_13 {run : RunT} (hrun : RunOK X0 run) (fu : Nat) : ∀ fr σ, KOK X0 368 (subC [true, false, true, true, true, true, true, true, true, true, true, true, true, true, true, true, true] b136) fr σ ((fun fr σ => c136_13 run fu (G fr 0) (G fr 1) σ) fr σ) (scopeK (subC [true, false] b136) (lblU 0 (fun fr σ => c136_1L run fu fu (G fr 0) (G fr 1) (G fr 6) (G fr 9) (G fr 10) σ)) k136) := fun fr σ =>
  KOK.piece env0 hrun [0, 1] (eq136_13 run fu (G fr 0) (G fr 1) σ) ⟨⟨trivial, ⟨trivial, ⟨trivial, ⟨trivial, trivial⟩⟩⟩⟩, trivial⟩

noncomputable def c136_14 (run : RunT) (fu : Nat) (x0 x1 x6 x9 x10 x14 : AV) (σ : Store) : Tr R :=
  notK x14 fun x214 =>
  ifK x214 (
  c136_1L run fu fu x0 x1 x6 x9 x10 σ) (
  c136_13 run fu x0 x1 σ)

theorem eq136_14 (run : RunT) (fu : Nat) (x0 x1 x6 x9 x10 x14 : AV) (σ : Store) : codeK X0 run (.seq .leaf (.cond .leaf .leaf)) (subC [true, false, true, true, true, true, true, true, true, true, true, true, true, true, true, true, false, true, true, true] b136) (frS 0 368 [(0, x0), (1, x1), (6, x6), (9, x9), (10, x10), (14, x14)]) σ (thenK (fun fr σ => c136_13 run fu (G fr 0) (G fr 1) σ) (scopeK (subC [true, false] b136) (lblU 0 (fun fr σ => c136_1L run fu fu (G fr 0) (G fr 1) (G fr 6) (G fr 9) (G fr 10) σ)) k136)) = c136_14 run fu x0 x1 x6 x9 x10 x14 σ := by kernel_rfl

theorem ok136_14 {run : RunT} (hrun : RunOK X0 run) (fu : Nat) : ∀ fr σ, KOK X0 368 (subC [true, false, true, true, true, true, true, true, true, true, true, true, true, true, true, true, false, true, true, true] b136) fr σ ((fun fr σ => c136_14 run fu (G fr 0) (G fr 1) (G fr 6) (G fr 9) (G fr 10) (G fr 14) σ) fr σ) (thenK (fun fr σ => c136_13 run fu (G fr 0) (G fr 1) σ) (scopeK (subC [true, false] b136) (lblU 0 (fun fr σ => c136_1L run fu fu (G fr 0) (G fr 1) (G fr 6) (G fr 9) (G fr 10) σ)) k136)) := fun fr σ =>
  KOK.piece env0 hrun [0, 1, 6, 9, 10, 14] (eq136_14 run fu (G fr 0) (G fr 1) (G fr 6) (G fr 9) (G fr 10) (G fr 14) σ) ⟨trivial, ⟨trivial, trivial⟩⟩

noncomputable def c136_16 (run : RunT) (fu : Nat) (s15 : W11) (x0 x1 x6 x9 x10 x12 x13 x14 x184 x185 x186 : AV) (σ : Store) : Tr R :=
  addK x186 (.int .i64 1) fun x212 =>
  s15 x0 x1 x6 x9 x10 x12 x13 x14 x184 x185 x212 σ

theorem eq136_16 (run : RunT) (fu : Nat) (s15 : W11) (x0 x1 x6 x9 x10 x12 x13 x14 x184 x185 x186 : AV) (σ : Store) : codeK X0 run .leaf (subC [true, false, true, true, true, true, true, true, true, true, true, true, true, true, true, true, false, true, true, false, true, false, false, true, true, true] b136) (frS 0 368 [(0, x0), (1, x1), (6, x6), (9, x9), (10, x10), (12, x12), (13, x13), (14, x14), (184, x184), (185, x185), (186, x186)]) σ (thenK (fun fr σ => s15 (G fr 0) (G fr 1) (G fr 6) (G fr 9) (G fr 10) (G fr 12) (G fr 13) (G fr 14) (G fr 184) (G fr 185) (G fr 186) σ) (blockK 4 (thenK (fun fr σ => c136_14 run fu (G fr 0) (G fr 1) (G fr 6) (G fr 9) (G fr 10) (G fr 14) σ) (thenK (fun fr σ => c136_13 run fu (G fr 0) (G fr 1) σ) (scopeK (subC [true, false] b136) (lblU 0 (fun fr σ => c136_1L run fu fu (G fr 0) (G fr 1) (G fr 6) (G fr 9) (G fr 10) σ)) k136))))) = c136_16 run fu s15 x0 x1 x6 x9 x10 x12 x13 x14 x184 x185 x186 σ := by kernel_rfl

theorem ok136_16 {run : RunT} (hrun : RunOK X0 run) (fu : Nat) (s15 : W11) : ∀ fr σ, KOK X0 368 (subC [true, false, true, true, true, true, true, true, true, true, true, true, true, true, true, true, false, true, true, false, true, false, false, true, true, true] b136) fr σ ((fun fr σ => c136_16 run fu s15 (G fr 0) (G fr 1) (G fr 6) (G fr 9) (G fr 10) (G fr 12) (G fr 13) (G fr 14) (G fr 184) (G fr 185) (G fr 186) σ) fr σ) (thenK (fun fr σ => s15 (G fr 0) (G fr 1) (G fr 6) (G fr 9) (G fr 10) (G fr 12) (G fr 13) (G fr 14) (G fr 184) (G fr 185) (G fr 186) σ) (blockK 4 (thenK (fun fr σ => c136_14 run fu (G fr 0) (G fr 1) (G fr 6) (G fr 9) (G fr 10) (G fr 14) σ) (thenK (fun fr σ => c136_13 run fu (G fr 0) (G fr 1) σ) (scopeK (subC [true, false] b136) (lblU 0 (fun fr σ => c136_1L run fu fu (G fr 0) (G fr 1) (G fr 6) (G fr 9) (G fr 10) σ)) k136))))) := fun fr σ =>
  KOK.piece env0 hrun [0, 1, 6, 9, 10, 12, 13, 14, 184, 185, 186] (eq136_16 run fu s15 (G fr 0) (G fr 1) (G fr 6) (G fr 9) (G fr 10) (G fr 12) (G fr 13) (G fr 14) (G fr 184) (G fr 185) (G fr 186) σ) trivial

noncomputable def c136_17 (run : RunT) (fu : Nat) (s15 : W11) (x0 x1 x6 x9 x10 : AV) (σ : Store) : Tr R :=
  c136_14 run fu x0 x1 x6 x9 x10 (.bool true) σ

theorem eq136_17 (run : RunT) (fu : Nat) (s15 : W11) (x0 x1 x6 x9 x10 : AV) (σ : Store) : codeK X0 run (.seq .leaf .leaf) (subC [true, false, true, true, true, true, true, true, true, true, true, true, true, true, true, true, false, true, true, false, true, false, false, true, true, false, false, true, true, false, true] b136) (frS 0 368 [(0, x0), (1, x1), (6, x6), (9, x9), (10, x10)]) σ (blockK 5 (thenK (fun fr σ => c136_16 run fu s15 (G fr 0) (G fr 1) (G fr 6) (G fr 9) (G fr 10) (G fr 12) (G fr 13) (G fr 14) (G fr 184) (G fr 185) (G fr 186) σ) (thenK (fun fr σ => s15 (G fr 0) (G fr 1) (G fr 6) (G fr 9) (G fr 10) (G fr 12) (G fr 13) (G fr 14) (G fr 184) (G fr 185) (G fr 186) σ) (blockK 4 (thenK (fun fr σ => c136_14 run fu (G fr 0) (G fr 1) (G fr 6) (G fr 9) (G fr 10) (G fr 14) σ) (thenK (fun fr σ => c136_13 run fu (G fr 0) (G fr 1) σ) (scopeK (subC [true, false] b136) (lblU 0 (fun fr σ => c136_1L run fu fu (G fr 0) (G fr 1) (G fr 6) (G fr 9) (G fr 10) σ)) k136))))))) = c136_17 run fu s15 x0 x1 x6 x9 x10 σ := by kernel_rfl

theorem ok136_17 {run : RunT} (hrun : RunOK X0 run) (fu : Nat) (s15 : W11) : ∀ fr σ, KOK X0 368 (subC [true, false, true, true, true, true, true, true, true, true, true, true, true, true, true, true, false, true, true, false, true, false, false, true, true, false, false, true, true, false, true] b136) fr σ ((fun fr σ => c136_17 run fu s15 (G fr 0) (G fr 1) (G fr 6) (G fr 9) (G fr 10) σ) fr σ) (blockK 5 (thenK (fun fr σ => c136_16 run fu s15 (G fr 0) (G fr 1) (G fr 6) (G fr 9) (G fr 10) (G fr 12) (G fr 13) (G fr 14) (G fr 184) (G fr 185) (G fr 186) σ) (thenK (fun fr σ => s15 (G fr 0) (G fr 1) (G fr 6) (G fr 9) (G fr 10) (G fr 12) (G fr 13) (G fr 14) (G fr 184) (G fr 185) (G fr 186) σ) (blockK 4 (thenK (fun fr σ => c136_14 run fu (G fr 0) (G fr 1) (G fr 6) (G fr 9) (G fr 10) (G fr 14) σ) (thenK (fun fr σ => c136_13 run fu (G fr 0) (G fr 1) σ) (scopeK (subC [true, false] b136) (lblU 0 (fun fr σ => c136_1L run fu fu (G fr 0) (G fr 1) (G fr 6) (G fr 9) (G fr 10) σ)) k136))))))) := fun fr σ =>
  KOK.piece env0 hrun [0, 1, 6, 9, 10] (eq136_17 run fu s15 (G fr 0) (G fr 1) (G fr 6) (G fr 9) (G fr 10) σ) ⟨trivial, trivial⟩

noncomputable def c136_15b (run : RunT) (fu : Nat) (s15 : W11) (x0 x1 x6 x9 x10 x12 x13 x14 x184 x185 x186 : AV) (σ : Store) : Tr R :=
  cmpK .lss x186 x185 fun x187 =>
  ifK x187 (
  idxK 1 x184 x186 fun x188 =>
  ld1K σ x188 fun x189 =>
  idxSK x189 (.int .i64 0) fun x191 =>
  cmpK .eql x191 x13 fun x193 =>
  grdK x193 true σ (fun f => f x189 σ) fun x195 σ1 =>
  grdK x193 true σ1 (fun f => lenSK x195 fun v => f v σ1) fun x196 σ2 =>
  grdK x193 true σ2 (fun f => f x10 σ2) fun x197 σ3 =>
  grdK x193 true σ3 (fun f => lenLK x197 fun v => f v σ3) fun x198 σ4 =>
  grdK x193 true σ4 (fun f => cmpK .eql x196 x198 fun v => f v σ4) fun x199 σ5 =>
  pickK x193 x199 (.bool false) fun x200 =>
  grdK x200 true σ5 (fun f => f x189 σ5) fun x202 σ6 =>
  grdK x200 true σ6 (fun f => f x10 σ6) fun x203 σ7 =>
  grdK x200 true σ7 (fun f => b2sK σ7 x203 fun v => f v σ7) fun x204 σ8 =>
  grdK x200 true σ8 (fun f => eqSK x202 x204 fun v => f v σ8) fun x205 σ9 =>
  pickK x200 x205 (.bool false) fun x206 =>
  ifK x206 (
  cmpK .eql x12 (.int .u8 9) fun x208 =>
  ifK x208 (
  nchkK x0 fun x210 =>
  addrK x210 6 fun x211 =>
  st1K σ9 x211 (.bool true) fun _ σ10 =>
  c136_17 run fu s15 x0 x1 x6 x9 x10 σ10) (
  c136_17 run fu s15 x0 x1 x6 x9 x10 σ9)) (
  c136_16 run fu s15 x0 x1 x6 x9 x10 x12 x13 x14 x184 x185 x186 σ9)) (
  c136_14 run fu x0 x1 x6 x9 x10 x14 σ)

noncomputable def c136_15 (run : RunT) (fu : Nat) : Nat → W11
  | 0 => fun _ _ _ _ _ _ _ _ _ _ _ _ => .fail
  | m + 1 => c136_15b run fu (c136_15 run fu m)

theorem eq136_15 (run : RunT) (fu : Nat) (s15 : W11) (x0 x1 x6 x9 x10 x12 x13 x14 x184 x185 x186 : AV) (σ : Store) : codeK X0 run (.seq .leaf (.seq (.cond .leaf .leaf) (.seq (.block (.seq .leaf (.seq .leaf (.cond (.seq (.seq .leaf (.cond .leaf .leaf)) (.sub (fun fr σ => c136_17 run fu s15 (G fr 0) (G fr 1) (G fr 6) (G fr 9) (G fr 10) σ))) .leaf)))) (.sub (fun fr σ => c136_16 run fu s15 (G fr 0) (G fr 1) (G fr 6) (G fr 9) (G fr 10) (G fr 12) (G fr 13) (G fr 14) (G fr 184) (G fr 185) (G fr 186) σ))))) (subC [true, false, true, true, true, true, true, true, true, true, true, true, true, true, true, true, false, true, true, false, true, false, false] b136) (frS 0 368 [(0, x0), (1, x1), (6, x6), (9, x9), (10, x10), (12, x12), (13, x13), (14, x14), (184, x184), (185, x185), (186, x186)]) σ (thenK (fun fr σ => s15 (G fr 0) (G fr 1) (G fr 6) (G fr 9) (G fr 10) (G fr 12) (G fr 13) (G fr 14) (G fr 184) (G fr 185) (G fr 186) σ) (blockK 4 (thenK (fun fr σ => c136_14 run fu (G fr 0) (G fr 1) (G fr 6) (G fr 9) (G fr 10) (G fr 14) σ) (thenK (fun fr σ => c136_13 run fu (G fr 0) (G fr 1) σ) (scopeK (subC [true, false] b136) (lblU 0 (fun fr σ => c136_1L run fu fu (G fr 0) (G fr 1) (G fr 6) (G fr 9) (G fr 10) σ)) k136))))) = c136_15b run fu s15 x0 x1 x6 x9 x10 x12 x13 x14 x184 x185 x186 σ := by kernel_rfl

theorem owed136_15 {run : RunT} (hrun : RunOK X0 run) (fu : Nat) (s15 : W11) : Owes X0 run 368 (.seq .leaf (.seq (.cond .leaf .leaf) (.seq (.block (.seq .leaf (.seq .leaf (.cond (.seq (.seq .leaf (.cond .leaf .leaf)) (.sub (fun fr σ => c136_17 run fu s15 (G fr 0) (G fr 1) (G fr 6) (G fr 9) (G fr 10) σ))) .leaf)))) (.sub (fun fr σ => c136_16 run fu s15 (G fr 0) (G fr 1) (G fr 6) (G fr 9) (G fr 10) (G fr 12) (G fr 13) (G fr 14) (G fr 184) (G fr 185) (G fr 186) σ))))) (subC [true, false, true, true, true, true, true, true, true, true, true, true, true, true, true, true, false, true, true, false, true, false, false] b136) (thenK (fun fr σ => s15 (G fr 0) (G fr 1) (G fr 6) (G fr 9) (G fr 10) (G fr 12) (G fr 13) (G fr 14) (G fr 184) (G fr 185) (G fr 186) σ) (blockK 4 (thenK (fun fr σ => c136_14 run fu (G fr 0) (G fr 1) (G fr 6) (G fr 9) (G fr 10) (G fr 14) σ) (thenK (fun fr σ => c136_13 run fu (G fr 0) (G fr 1) σ) (scopeK (subC [true, false] b136) (lblU 0 (fun fr σ => c136_1L run fu fu (G fr 0) (G fr 1) (G fr 6) (G fr 9) (G fr 10) σ)) k136))))) :=
  ⟨trivial, ⟨⟨trivial, trivial⟩, ⟨⟨trivial, ⟨trivial, ⟨⟨⟨trivial, ⟨trivial, trivial⟩⟩, (ok136_17 hrun fu s15)⟩, trivial⟩⟩⟩, (ok136_16 hrun fu s15)⟩⟩⟩

theorem ok136_15 {run : RunT} (hrun : RunOK X0 run) (fu : Nat) : ∀ fr σ, KOK X0 368 (subC [true, false, true, true, true, true, true, true, true, true, true, true, true, true, true, true, false, true, true, false, true, false] b136) fr σ ((fun fr σ => c136_15 run fu fu (G fr 0) (G fr 1) (G fr 6) (G fr 9) (G fr 10) (G fr 12) (G fr 13) (G fr 14) (G fr 184) (G fr 185) (G fr 186) σ) fr σ) (blockK 4 (thenK (fun fr σ => c136_14 run fu (G fr 0) (G fr 1) (G fr 6) (G fr 9) (G fr 10) (G fr 14) σ) (thenK (fun fr σ => c136_13 run fu (G fr 0) (G fr 1) σ) (scopeK (subC [true, false] b136) (lblU 0 (fun fr σ => c136_1L run fu fu (G fr 0) (G fr 1) (G fr 6) (G fr 9) (G fr 10) σ)) k136)))) := by
  have h := KOK.loop (X := X0) (N := 368) (b := (subC [true, false, true, true, true, true, true, true, true, true, true, true, true, true, true, true, false, true, true, false, true, false, false] b136)) (k := (blockK 4 (thenK (fun fr σ => c136_14 run fu (G fr 0) (G fr 1) (G fr 6) (G fr 9) (G fr 10) (G fr 14) σ) (thenK (fun fr σ => c136_13 run fu (G fr 0) (G fr 1) σ) (scopeK (subC [true, false] b136) (lblU 0 (fun fr σ => c136_1L run fu fu (G fr 0) (G fr 1) (G fr 6) (G fr 9) (G fr 10) σ)) k136))))) (u := fun m fr σ => c136_15 run fu m (G fr 0) (G fr 1) (G fr 6) (G fr 9) (G fr 10) (G fr 12) (G fr 13) (G fr 14) (G fr 184) (G fr 185) (G fr 186) σ) (fun _ _ => rfl) (fun m fr σ => KOK.piece env0 hrun [0, 1, 6, 9, 10, 12, 13, 14, 184, 185, 186] (eq136_15 run fu (c136_15 run fu m) (G fr 0) (G fr 1) (G fr 6) (G fr 9) (G fr 10) (G fr 12) (G fr 13) (G fr 14) (G fr 184) (G fr 185) (G fr 186) σ) (owed136_15 hrun fu (c136_15 run fu m)))
  exact fun fr σ => h fu fr σ

noncomputable def c136_18 (run : RunT) (fu : Nat) (s15 : W11) (x0 x1 x6 x9 x10 x12 x13 x14 x184 x185 x186 : AV) (σ : Store) : Tr R :=
  addK x186 (.int .i64 1) fun x212 =>
  s15 x0 x1 x6 x9 x10 x12 x13 x14 x184 x185 x212 σ

theorem eq136_18 (run : RunT) (fu : Nat) (s15 : W11) (x0 x1 x6 x9 x10 x12 x13 x14 x184 x185 x186 : AV) (σ : Store) : codeK X0 run .leaf (subC [true, false, true, true, true, true, true, true, true, true, true, true, true, true, true, true, false, true, true, false, true, false, false, true, true, true] b136) (frS 0 368 [(0, x0), (1, x1), (6, x6), (9, x9), (10, x10), (12, x12), (13, x13), (14, x14), (184, x184), (185, x185), (186, x186)]) σ (thenK (fun fr σ => s15 (G fr 0) (G fr 1) (G fr 6) (G fr 9) (G fr 10) (G fr 12) (G fr 13) (G fr 14) (G fr 184) (G fr 185) (G fr 186) σ) failK) = c136_18 run fu s15 x0 x1 x6 x9 x10 x12 x13 x14 x184 x185 x186 σ := by kernel_rfl

theorem ok136_18 {run : RunT} (hrun : RunOK X0 run) (fu : Nat) (s15 : W11) : ∀ fr σ, KOK X0 368 (subC [true, false, true, true, true, true, true, true, true, true, true, true, true, true, true, true, false, true, true, false, true, false, false, true, true, true] b136) fr σ ((fun fr σ => c136_18 run fu s15 (G fr 0) (G fr 1) (G fr 6) (G fr 9) (G fr 10) (G fr 12) (G fr 13) (G fr 14) (G fr 184) (G fr 185) (G fr 186) σ) fr σ) (thenK (fun fr σ => s15 (G fr 0) (G fr 1) (G fr 6) (G fr 9) (G fr 10) (G fr 12) (G fr 13) (G fr 14) (G fr 184) (G fr 185) (G fr 186) σ) failK) := fun fr σ =>
  KOK.piece env0 hrun [0, 1, 6, 9, 10, 12, 13, 14, 184, 185, 186] (eq136_18 run fu s15 (G fr 0) (G fr 1) (G fr 6) (G fr 9) (G fr 10) (G fr 12) (G fr 13) (G fr 14) (G fr 184) (G fr 185) (G fr 186) σ) trivial

noncomputable def c136_19 (run : RunT) (fu : Nat) (s15 : W11) (x0 x1 x6 x9 x10 : AV) (σ : Store) : Tr R :=
  .fail

theorem eq136_19 (run : RunT) (fu : Nat) (s15 : W11) (x0 x1 x6 x9 x10 : AV) (σ : Store) : codeK X0 run (.seq .leaf .leaf) (subC [true, false, true, true, true, true, true, true, true, true, true, true, true, true, true, true, false, true, true, false, true, false, false, true, true, false, false, true, true, false, true] b136) (frS 0 368 [(0, x0), (1, x1), (6, x6), (9, x9), (10, x10)]) σ (blockK 5 (thenK (fun fr σ => c136_18 run fu s15 (G fr 0) (G fr 1) (G fr 6) (G fr 9) (G fr 10) (G fr 12) (G fr 13) (G fr 14) (G fr 184) (G fr 185) (G fr 186) σ) (thenK (fun fr σ => s15 (G fr 0) (G fr 1) (G fr 6) (G fr 9) (G fr 10) (G fr 12) (G fr 13) (G fr 14) (G fr 184) (G fr 185) (G fr 186) σ) failK))) = c136_19 run fu s15 x0 x1 x6 x9 x10 σ := by kernel_rfl

theorem ok136_19 {run : RunT} (hrun : RunOK X0 run) (fu : Nat) (s15 : W11) : ∀ fr σ, KOK X0 368 (subC [true, false, true, true, true, true, true, true, true, true, true, true, true, true, true, true, false, true, true, false, true, false, false, true, true, false, false, true, true, false, true] b136) fr σ ((fun fr σ => c136_19 run fu s15 (G fr 0) (G fr 1) (G fr 6) (G fr 9) (G fr 10) σ) fr σ) (blockK 5 (thenK (fun fr σ => c136_18 run fu s15 (G fr 0) (G fr 1) (G fr 6) (G fr 9) (G fr 10) (G fr 12) (G fr 13) (G fr 14) (G fr 184) (G fr 185) (G fr 186) σ) (thenK (fun fr σ => s15 (G fr 0) (G fr 1) (G fr 6) (G fr 9) (G fr 10) (G fr 12) (G fr 13) (G fr 14) (G fr 184) (G fr 185) (G fr 186) σ) failK))) := fun fr σ =>
  KOK.piece env0 hrun [0, 1, 6, 9, 10] (eq136_19 run fu s15 (G fr 0) (G fr 1) (G fr 6) (G fr 9) (G fr 10) σ) ⟨trivial, trivial⟩

noncomputable def c136_15x (run : RunT) (fu : Nat) (s15 : W11) (x0 x1 x6 x9 x10 x12 x13 x14 x184 x185 x186 : AV) (σ : Store) : Tr R :=
  cmpK .lss x186 x185 fun x187 =>
  ifK x187 (
  idxK 1 x184 x186 fun x188 =>
  ld1K σ x188 fun x189 =>
  idxSK x189 (.int .i64 0) fun x191 =>
  cmpK .eql x191 x13 fun x193 =>
  grdK x193 true σ (fun f => f x189 σ) fun x195 σ1 =>
  grdK x193 true σ1 (fun f => lenSK x195 fun v => f v σ1) fun x196 σ2 =>
  grdK x193 true σ2 (fun f => f x10 σ2) fun x197 σ3 =>
  grdK x193 true σ3 (fun f => lenLK x197 fun v => f v σ3) fun x198 σ4 =>
  grdK x193 true σ4 (fun f => cmpK .eql x196 x198 fun v => f v σ4) fun x199 σ5 =>
  pickK x193 x199 (.bool false) fun x200 =>
  grdK x200 true σ5 (fun f => f x189 σ5) fun x202 σ6 =>
  grdK x200 true σ6 (fun f => f x10 σ6) fun x203 σ7 =>
  grdK x200 true σ7 (fun f => b2sK σ7 x203 fun v => f v σ7) fun x204 σ8 =>
  grdK x200 true σ8 (fun f => eqSK x202 x204 fun v => f v σ8) fun x205 σ9 =>
  pickK x200 x205 (.bool false) fun x206 =>
  ifK x206 (
  cmpK .eql x12 (.int .u8 9) fun x208 =>
  ifK x208 (
  nchkK x0 fun x210 =>
  addrK x210 6 fun x211 =>
  st1K σ9 x211 (.bool true) fun _ σ10 =>
  c136_19 run fu s15 x0 x1 x6 x9 x10 σ10) (
  c136_19 run fu s15 x0 x1 x6 x9 x10 σ9)) (
  c136_18 run fu s15 x0 x1 x6 x9 x10 x12 x13 x14 x184 x185 x186 σ9)) (
  .fail)

theorem eq136_15x (run : RunT) (fu : Nat) (s15 : W11) (x0 x1 x6 x9 x10 x12 x13 x14 x184 x185 x186 : AV) (σ : Store) : codeK X0 run (.seq .leaf (.seq (.cond .leaf .leaf) (.seq (.block (.seq .leaf (.seq .leaf (.cond (.seq (.seq .leaf (.cond .leaf .leaf)) (.sub (fun fr σ => c136_19 run fu s15 (G fr 0) (G fr 1) (G fr 6) (G fr 9) (G fr 10) σ))) .leaf)))) (.sub (fun fr σ => c136_18 run fu s15 (G fr 0) (G fr 1) (G fr 6) (G fr 9) (G fr 10) (G fr 12) (G fr 13) (G fr 14) (G fr 184) (G fr 185) (G fr 186) σ))))) (subC [true, false, true, true, true, true, true, true, true, true, true, true, true, true, true, true, false, true, true, false, true, false, false] b136) (frS 0 368 [(0, x0), (1, x1), (6, x6), (9, x9), (10, x10), (12, x12), (13, x13), (14, x14), (184, x184), (185, x185), (186, x186)]) σ (thenK (fun fr σ => s15 (G fr 0) (G fr 1) (G fr 6) (G fr 9) (G fr 10) (G fr 12) (G fr 13) (G fr 14) (G fr 184) (G fr 185) (G fr 186) σ) failK) = c136_15x run fu s15 x0 x1 x6 x9 x10 x12 x13 x14 x184 x185 x186 σ := by kernel_rfl

theorem owed136_15x {run : RunT} (hrun : RunOK X0 run) (fu : Nat) (s15 : W11) : Owes X0 run 368 (.seq .leaf (.seq (.cond .leaf .leaf) (.seq (.block (.seq .leaf (.seq .leaf (.cond (.seq (.seq .leaf (.cond .leaf .leaf)) (.sub (fun fr σ => c136_19 run fu s15 (G fr 0) (G fr 1) (G fr 6) (G fr 9) (G fr 10) σ))) .leaf)))) (.sub (fun fr σ => c136_18 run fu s15 (G fr 0) (G fr 1) (G fr 6) (G fr 9) (G fr 10) (G fr 12) (G fr 13) (G fr 14) (G fr 184) (G fr 185) (G fr 186) σ))))) (subC [true, false, true, true, true, true, true, true, true, true, true, true, true, true, true, true, false, true, true, false, true, false, false] b136) (thenK (fun fr σ => s15 (G fr 0) (G fr 1) (G fr 6) (G fr 9) (G fr 10) (G fr 12) (G fr 13) (G fr 14) (G fr 184) (G fr 185) (G fr 186) σ) failK) :=
  ⟨trivial, ⟨⟨trivial, trivial⟩, ⟨⟨trivial, ⟨trivial, ⟨⟨⟨trivial, ⟨trivial, trivial⟩⟩, (ok136_19 hrun fu s15)⟩, trivial⟩⟩⟩, (ok136_18 hrun fu s15)⟩⟩⟩

noncomputable def c136_15s (run : RunT) (fu : Nat) : Nat → List AV → Store → Tr R :=
  sweepW 4 5 (sweepR (planOf none 2 3 [] [] [] [4]) (planR 4 0 5) (fun s2 xs σ => c136_15b run fu (fun y0 y1 y6 y9 y10 y12 y13 y14 y184 y185 y186 σ => s2 [y0, y1, y6, y9, y10, y12, y13, y14, y184, y185, y186] σ) (xs.getD 0 .any) (xs.getD 1 .any) (xs.getD 2 .any) (xs.getD 3 .any) (xs.getD 4 .any) (xs.getD 5 .any) (xs.getD 6 .any) (xs.getD 7 .any) (xs.getD 8 .any) (xs.getD 9 .any) (xs.getD 10 .any) σ) (fun s2 xs σ => c136_15x run fu (fun y0 y1 y6 y9 y10 y12 y13 y14 y184 y185 y186 σ => s2 [y0, y1, y6, y9, y10, y12, y13, y14, y184, y185, y186] σ) (xs.getD 0 .any) (xs.getD 1 .any) (xs.getD 2 .any) (xs.getD 3 .any) (xs.getD 4 .any) (xs.getD 5 .any) (xs.getD 6 .any) (xs.getD 7 .any) (xs.getD 8 .any) (xs.getD 9 .any) (xs.getD 10 .any) σ))

theorem ok136_15s {run : RunT} (hrun : RunOK X0 run) (fu : Nat) : ∀ fr σ, KOK X0 368 (subC [true, false, true, true, true, true, true, true, true, true, true, true, true, true, true, true, false, true, true, false, true, false] b136) fr σ ((fun fr σ => c136_15s run fu fu [fr.getD 0 .any, fr.getD 1 .any, fr.getD 6 .any, fr.getD 9 .any, fr.getD 10 .any, fr.getD 12 .any, fr.getD 13 .any, fr.getD 14 .any, fr.getD 184 .any, fr.getD 185 .any, fr.getD 186 .any] σ) fr σ) (blockK 4 (thenK (fun fr σ => c136_14 run fu (G fr 0) (G fr 1) (G fr 6) (G fr 9) (G fr 10) (G fr 14) σ) (thenK (fun fr σ => c136_13 run fu (G fr 0) (G fr 1) σ) (scopeK (subC [true, false] b136) (lblU 0 (fun fr σ => c136_1L run fu fu (G fr 0) (G fr 1) (G fr 6) (G fr 9) (G fr 10) σ)) k136)))) := by
  have h := KOK.sweepW rfl 4 5 (KOK.sweepRow (X := X0) (N := 368) (b := (subC [true, false, true, true, true, true, true, true, true, true, true, true, true, true, true, true, false, true, true, false, true, false, false] b136)) (k := (blockK 4 (thenK (fun fr σ => c136_14 run fu (G fr 0) (G fr 1) (G fr 6) (G fr 9) (G fr 10) (G fr 14) σ) (thenK (fun fr σ => c136_13 run fu (G fr 0) (G fr 1) σ) (scopeK (subC [true, false] b136) (lblU 0 (fun fr σ => c136_1L run fu fu (G fr 0) (G fr 1) (G fr 6) (G fr 9) (G fr 10) σ)) k136))))) (js := [0, 1, 6, 9, 10, 12, 13, 14, 184, 185, 186]) (body := (fun s2 xs σ => c136_15b run fu (fun y0 y1 y6 y9 y10 y12 y13 y14 y184 y185 y186 σ => s2 [y0, y1, y6, y9, y10, y12, y13, y14, y184, y185, y186] σ) (xs.getD 0 .any) (xs.getD 1 .any) (xs.getD 2 .any) (xs.getD 3 .any) (xs.getD 4 .any) (xs.getD 5 .any) (xs.getD 6 .any) (xs.getD 7 .any) (xs.getD 8 .any) (xs.getD 9 .any) (xs.getD 10 .any) σ)) (bodyx := (fun s2 xs σ => c136_15x run fu (fun y0 y1 y6 y9 y10 y12 y13 y14 y184 y185 y186 σ => s2 [y0, y1, y6, y9, y10, y12, y13, y14, y184, y185, y186] σ) (xs.getD 0 .any) (xs.getD 1 .any) (xs.getD 2 .any) (xs.getD 3 .any) (xs.getD 4 .any) (xs.getD 5 .any) (xs.getD 6 .any) (xs.getD 7 .any) (xs.getD 8 .any) (xs.getD 9 .any) (xs.getD 10 .any) σ)) rfl (planOf none 2 3 [] [] [] [4]) (planR 4 0 5) (fun s2 fr σ => KOK.piece env0 hrun [0, 1, 6, 9, 10, 12, 13, 14, 184, 185, 186] (eq136_15 run fu (fun y0 y1 y6 y9 y10 y12 y13 y14 y184 y185 y186 σ => s2 [y0, y1, y6, y9, y10, y12, y13, y14, y184, y185, y186] σ) (G fr 0) (G fr 1) (G fr 6) (G fr 9) (G fr 10) (G fr 12) (G fr 13) (G fr 14) (G fr 184) (G fr 185) (G fr 186) σ) (owed136_15 hrun fu (fun y0 y1 y6 y9 y10 y12 y13 y14 y184 y185 y186 σ => s2 [y0, y1, y6, y9, y10, y12, y13, y14, y184, y185, y186] σ))) (fun s2 fr σ => KOK.piece env0 hrun [0, 1, 6, 9, 10, 12, 13, 14, 184, 185, 186] (eq136_15x run fu (fun y0 y1 y6 y9 y10 y12 y13 y14 y184 y185 y186 σ => s2 [y0, y1, y6, y9, y10, y12, y13, y14, y184, y185, y186] σ) (G fr 0) (G fr 1) (G fr 6) (G fr 9) (G fr 10) (G fr 12) (G fr 13) (G fr 14) (G fr 184) (G fr 185) (G fr 186) σ) (owed136_15x hrun fu (fun y0 y1 y6 y9 y10 y12 y13 y14 y184 y185 y186 σ => s2 [y0, y1, y6, y9, y10, y12, y13, y14, y184, y185, y186] σ))))
  exact fun fr σ => h fu fr σ

noncomputable def c136_12 (run : RunT) (fu : Nat) (x0 x1 x6 x9 x10 x12 : AV) (σ : Store) : Tr R :=
  lenLK x10 fun x179 =>
  cmpK .eql x179 (.int .i64 0) fun x180 =>
  ifK x180 (
  c136_1L run fu fu x0 x1 x6 x9 x10 σ) (
  idxK 1 x10 (.int .i64 0) fun x182 =>
  ld1K σ x182 fun x183 =>
  calK run 175 [] σ fun x184 σ1 =>
  lenLK x184 fun x185 =>
  c136_15s run fu fu [x0, x1, x6, x9, x10, x12, x183, (.bool false), x184, x185, (.int .i64 0)] σ1)

theorem eq136_12 (run : RunT) (fu : Nat) (x0 x1 x6 x9 x10 x12 : AV) (σ : Store) : codeK X0 run (.seq (.seq .leaf (.cond .leaf .leaf)) (.seq (.seq .leaf (.seq .leaf (.seq (.seq .leaf (.block (.sub (fun fr σ => c136_15s run fu fu [fr.getD 0 .any, fr.getD 1 .any, fr.getD 6 .any, fr.getD 9 .any, fr.getD 10 .any, fr.getD 12 .any, fr.getD 13 .any, fr.getD 14 .any, fr.getD 184 .any, fr.getD 185 .any, fr.getD 186 .any] σ)))) (.sub (fun fr σ => c136_14 run fu (G fr 0) (G fr 1) (G fr 6) (G fr 9) (G fr 10) (G fr 14) σ))))) (.sub (fun fr σ => c136_13 run fu (G fr 0) (G fr 1) σ)))) (subC [true, false, true, true, true, true, true, true, true, true, true, true, true, true, true] b136) (frS 0 368 [(0, x0), (1, x1), (6, x6), (9, x9), (10, x10), (12, x12)]) σ (scopeK (subC [true, false] b136) (lblU 0 (fun fr σ => c136_1L run fu fu (G fr 0) (G fr 1) (G fr 6) (G fr 9) (G fr 10) σ)) k136) = c136_12 run fu x0 x1 x6 x9 x10 x12 σ := by kernel_rfl

theorem ok136_12 {run : RunT} (hrun : RunOK X0 run) (fu : Nat) : ∀ fr σ, KOK X0 368 (subC [true, false, true, true, true, true, true, true, true, true, true, true, true, true, true] b136) fr σ ((fun fr σ => c136_12 run fu (G fr 0) (G fr 1) (G fr 6) (G fr 9) (G fr 10) (G fr 12) σ) fr σ) (scopeK (subC [true, false] b136) (lblU 0 (fun fr σ => c136_1L run fu fu (G fr 0) (G fr 1) (G fr 6) (G fr 9) (G fr 10) σ)) k136) := fun fr σ =>
  KOK.piece env0 hrun [0, 1, 6, 9, 10, 12] (eq136_12 run fu (G fr 0) (G fr 1) (G fr 6) (G fr 9) (G fr 10) (G fr 12) σ) ⟨⟨trivial, ⟨trivial, trivial⟩⟩, ⟨⟨trivial, ⟨trivial, ⟨⟨trivial, (ok136_15s hrun fu)⟩, (ok136_14 hrun fu)⟩⟩⟩, (ok136_13 hrun fu)⟩⟩

noncomputable def c136_20 (run : RunT) (fu : Nat) (x0 x1 x6 x9 x10 x12 x156 x157 : AV) (σ : Store) : Tr R :=
  ifK x157 (
  idxSK x6 x9 fun x163 =>
  c136_12 run fu x0 x1 x6 x9 x10 x163 σ) (
  cmpK .eql x156 (.int .u8 47) fun x165 =>
  ifK x165 (
  addK x9 (.int .i64 1) fun x167 =>
  lenSK x6 fun x169 =>
  cmpK .geq x167 x169 fun x170 =>
  grdK x170 false σ (fun f => f x6 σ) fun x172 σ1 =>
  grdK x170 false σ1 (fun f => f x9 σ1) fun x173 σ2 =>
  grdK x170 false σ2 (fun f => addK x173 (.int .i64 1) fun v => f v σ2) fun x174 σ3 =>
  grdK x170 false σ3 (fun f => idxSK x172 x174 fun v => f v σ3) fun x175 σ4 =>
  grdK x170 false σ4 (fun f => cmpK .neq x175 (.int .u8 62) fun v => f v σ4) fun x176 σ5 =>
  pickK x170 (.bool true) x176 fun x177 =>
  ifK x177 (
  c136_1L run fu fu x0 x1 x6 x9 x10 σ5) (
  c136_12 run fu x0 x1 x6 x9 x10 x12 σ5)) (
  c136_1L run fu fu x0 x1 x6 x9 x10 σ))

theorem eq136_20 (run : RunT) (fu : Nat) (x0 x1 x6 x9 x10 x12 x156 x157 : AV) (σ : Store) : codeK X0 run (.cond .leaf (.seq .leaf (.cond (.seq .leaf (.cond .leaf .leaf)) .leaf))) (subC [true, false, true, true, true, true, true, true, true, true, true, true, true, true, false, true, false, true, false, true] b136) (frS 0 368 [(0, x0), (1, x1), (6, x6), (9, x9), (10, x10), (12, x12), (156, x156), (157, x157)]) σ (blockK 3 (thenK (fun fr σ => c136_12 run fu (G fr 0) (G fr 1) (G fr 6) (G fr 9) (G fr 10) (G fr 12) σ) (scopeK (subC [true, false] b136) (lblU 0 (fun fr σ => c136_1L run fu fu (G fr 0) (G fr 1) (G fr 6) (G fr 9) (G fr 10) σ)) k136))) = c136_20 run fu x0 x1 x6 x9 x10 x12 x156 x157 σ := by kernel_rfl

theorem ok136_20 {run : RunT} (hrun : RunOK X0 run) (fu : Nat) : ∀ fr σ, KOK X0 368 (subC [true, false, true, true, true, true, true, true, true, true, true, true, true, true, false, true, false, true, false, true] b136) fr σ ((fun fr σ => c136_20 run fu (G fr 0) (G fr 1) (G fr 6) (G fr 9) (G fr 10) (G fr 12) (G fr 156) (G fr 157) σ) fr σ) (blockK 3 (thenK (fun fr σ => c136_12 run fu (G fr 0) (G fr 1) (G fr 6) (G fr 9) (G fr 10) (G fr 12) σ) (scopeK (subC [true, false] b136) (lblU 0 (fun fr σ => c136_1L run fu fu (G fr 0) (G fr 1) (G fr 6) (G fr 9) (G fr 10) σ)) k136))) := fun fr σ =>
  KOK.piece env0 hrun [0, 1, 6, 9, 10, 12, 156, 157] (eq136_20 run fu (G fr 0) (G fr 1) (G fr 6) (G fr 9) (G fr 10) (G fr 12) (G fr 156) (G fr 157) σ) ⟨trivial, ⟨trivial, ⟨⟨trivial, ⟨trivial, trivial⟩⟩, trivial⟩⟩⟩

noncomputable def c136_11 (run : RunT) (fu : Nat) (x0 x1 x6 x9 x10 : AV) (σ : Store) : Tr R :=
  lenSK x6 fun x152 =>
  cmpK .lss x9 x152 fun x153 =>
  ifK x153 (
  idxSK x6 x9 fun x156 =>
  cmpK .eql x156 (.int .u8 32) fun x158 =>
  ifK x158 (
  c136_20 run fu x0 x1 x6 x9 x10 (.int .u8 0) x156 x158 σ) (
  cmpK .eql x156 (.int .u8 9) fun x159 =>
  ifK x159 (
  c136_20 run fu x0 x1 x6 x9 x10 (.int .u8 0) x156 x159 σ) (
  cmpK .eql x156 (.int .u8 62) fun x160 =>
  c136_20 run fu x0 x1 x6 x9 x10 (.int .u8 0) x156 x160 σ))) (
  c136_12 run fu x0 x1 x6 x9 x10 (.int .u8 0) σ)

theorem eq136_11 (run : RunT) (fu : Nat) (x0 x1 x6 x9 x10 : AV) (σ : Store) : codeK X0 run (.seq .leaf (.seq (.seq .leaf (.cond (.seq .leaf (.block (.seq (.seq .leaf (.cond .leaf (.seq .leaf (.cond .leaf .leaf)))) (.sub (fun fr σ => c136_20 run fu (G fr 0) (G fr 1) (G fr 6) (G fr 9) (G fr 10) (G fr 12) (G fr 156) (G fr 157) σ))))) .leaf)) (.sub (fun fr σ => c136_12 run fu (G fr 0) (G fr 1) (G fr 6) (G fr 9) (G fr 10) (G fr 12) σ)))) (subC [true, false, true, true, true, true, true, true, true, true, true, true, true] b136) (frS 0 368 [(0, x0), (1, x1), (6, x6), (9, x9), (10, x10)]) σ (scopeK (subC [true, false] b136) (lblU 0 (fun fr σ => c136_1L run fu fu (G fr 0) (G fr 1) (G fr 6) (G fr 9) (G fr 10) σ)) k136) = c136_11 run fu x0 x1 x6 x9 x10 σ := by kernel_rfl

theorem ok136_11 {run : RunT} (hrun : RunOK X0 run) (fu : Nat) : ∀ fr σ, KOK X0 368 (subC [true, false, true, true, true, true, true, true, true, true, true, true, true] b136) fr σ ((fun fr σ => c136_11 run fu (G fr 0) (G fr 1) (G fr 6) (G fr 9) (G fr 10) σ) fr σ) (scopeK (subC [true, false] b136) (lblU 0 (fun fr σ => c136_1L run fu fu (G fr 0) (G fr 1) (G fr 6) (G fr 9) (G fr 10) σ)) k136) := fun fr σ =>
  KOK.piece env0 hrun [0, 1, 6, 9, 10] (eq136_11 run fu (G fr 0) (G fr 1) (G fr 6) (G fr 9) (G fr 10) σ) ⟨trivial, ⟨⟨trivial, ⟨⟨trivial, ⟨⟨trivial, ⟨trivial, ⟨trivial, ⟨trivial, trivial⟩⟩⟩⟩, (ok136_20 hrun fu)⟩⟩, trivial⟩⟩, (ok136_12 hrun fu)⟩⟩

noncomputable def c136_22 (run : RunT) (fu : Nat) (s21 : W5) (x0 x1 x6 x9 x10 : AV) (σ : Store) : Tr R :=
  addK x9 (.int .i64 1) fun x118 =>
  s21 x0 x1 x6 x118 x10 σ

theorem eq136_22 (run : RunT) (fu : Nat) (s21 : W5) (x0 x1 x6 x9 x10 : AV) (σ : Store) : codeK X0 run .leaf (subC [true, false, true, true, true, true, true, true, true, true, true, true, false, false, false, true, true] b136) (frS 0 368 [(0, x0), (1, x1), (6, x6), (9, x9), (10, x10)]) σ (thenK (fun fr σ => s21 (G fr 0) (G fr 1) (G fr 6) (G fr 9) (G fr 10) σ) (blockK 1 (thenK (fun fr σ => c136_11 run fu (G fr 0) (G fr 1) (G fr 6) (G fr 9) (G fr 10) σ) (scopeK (subC [true, false] b136) (lblU 0 (fun fr σ => c136_1L run fu fu (G fr 0) (G fr 1) (G fr 6) (G fr 9) (G fr 10) σ)) k136)))) = c136_22 run fu s21 x0 x1 x6 x9 x10 σ := by kernel_rfl

theorem ok136_22 {run : RunT} (hrun : RunOK X0 run) (fu : Nat) (s21 : W5) : ∀ fr σ, KOK X0 368 (subC [true, false, true, true, true, true, true, true, true, true, true, true, false, false, false, true, true] b136) fr σ ((fun fr σ => c136_22 run fu s21 (G fr 0) (G fr 1) (G fr 6) (G fr 9) (G fr 10) σ) fr σ) (thenK (fun fr σ => s21 (G fr 0) (G fr 1) (G fr 6) (G fr 9) (G fr 10) σ) (blockK 1 (thenK (fun fr σ => c136_11 run fu (G fr 0) (G fr 1) (G fr 6) (G fr 9) (G fr 10) σ) (scopeK (subC [true, false] b136) (lblU 0 (fun fr σ => c136_1L run fu fu (G fr 0) (G fr 1) (G fr 6) (G fr 9) (G fr 10) σ)) k136)))) := fun fr σ =>
  KOK.piece env0 hrun [0, 1, 6, 9, 10] (eq136_22 run fu s21 (G fr 0) (G fr 1) (G fr 6) (G fr 9) (G fr 10) σ) trivial

noncomputable def c136_23 (run : RunT) (fu : Nat) (s21 : W5) (x0 x1 x6 x9 x10 x11 : AV) (σ : Store) : Tr R :=
  cmpK .leq (.int .u8 97) x11 fun x131 =>
  grdK x131 true σ (fun f => f x11 σ) fun x133 σ1 =>
  grdK x131 true σ1 (fun f => cmpK .leq x133 (.int .u8 122) fun v => f v σ1) fun x134 σ2 =>
  pickK x131 x134 (.bool false) fun x135 =>
  notK x135 fun x136 =>
  grdK x136 true σ2 (fun f => f x11 σ2) fun x138 σ3 =>
  grdK x136 true σ3 (fun f => cmpK .leq (.int .u8 48) x138 fun v => f v σ3) fun x139 σ4 =>
  grdK x136 true σ4 (fun f => f x139 σ4) fun x140 σ5 =>
  grdK x140 true σ5 (fun f => f x11 σ5) fun x141 σ6 =>
  grdK x140 true σ6 (fun f => cmpK .leq x141 (.int .u8 57) fun v => f v σ6) fun x142 σ7 =>
  grdK x136 true σ7 (fun f => pickK x140 x142 (.bool false) fun v => f v σ7) fun x143 σ8 =>
  grdK x136 true σ8 (fun f => notK x143 fun v => f v σ8) fun x144 σ9 =>
  pickK x136 x144 (.bool false) fun x145 =>
  ifK x145 (
  c136_11 run fu x0 x1 x6 x9 x10 σ9) (
  opt (fillK [(.int .u8 0)] [(0, 1, x11)]) fun cs => newSK σ9 11 cs 1 1 fun x148 σ10 =>
  appK 5 1 1 σ10 x10 x148 fun x149 σ11 =>
  c136_22 run fu s21 x0 x1 x6 x9 x149 σ11)

theorem eq136_23 (run : RunT) (fu : Nat) (s21 : W5) (x0 x1 x6 x9 x10 x11 : AV) (σ : Store) : codeK X0 run (.seq (.seq .leaf (.cond .leaf .leaf)) .leaf) (subC [true, false, true, true, true, true, true, true, true, true, true, true, false, false, false, true, false, false, true, true] b136) (frS 0 368 [(0, x0), (1, x1), (6, x6), (9, x9), (10, x10), (11, x11)]) σ (blockK 2 (thenK (fun fr σ => c136_22 run fu s21 (G fr 0) (G fr 1) (G fr 6) (G fr 9) (G fr 10) σ) (thenK (fun fr σ => s21 (G fr 0) (G fr 1) (G fr 6) (G fr 9) (G fr 10) σ) (blockK 1 (thenK (fun fr σ => c136_11 run fu (G fr 0) (G fr 1) (G fr 6) (G fr 9) (G fr 10) σ) (scopeK (subC [true, false] b136) (lblU 0 (fun fr σ => c136_1L run fu fu (G fr 0) (G fr 1) (G fr 6) (G fr 9) (G fr 10) σ)) k136)))))) = c136_23 run fu s21 x0 x1 x6 x9 x10 x11 σ := by kernel_rfl

theorem ok136_23 {run : RunT} (hrun : RunOK X0 run) (fu : Nat) (s21 : W5) : ∀ fr σ, KOK X0 368 (subC [true, false, true, true, true, true, true, true, true, true, true, true, false, false, false, true, false, false, true, true] b136) fr σ ((fun fr σ => c136_23 run fu s21 (G fr 0) (G fr 1) (G fr 6) (G fr 9) (G fr 10) (G fr 11) σ) fr σ) (blockK 2 (thenK (fun fr σ => c136_22 run fu s21 (G fr 0) (G fr 1) (G fr 6) (G fr 9) (G fr 10) σ) (thenK (fun fr σ => s21 (G fr 0) (G fr 1) (G fr 6) (G fr 9) (G fr 10) σ) (blockK 1 (thenK (fun fr σ => c136_11 run fu (G fr 0) (G fr 1) (G fr 6) (G fr 9) (G fr 10) σ) (scopeK (subC [true, false] b136) (lblU 0 (fun fr σ => c136_1L run fu fu (G fr 0) (G fr 1) (G fr 6) (G fr 9) (G fr 10) σ)) k136)))))) := fun fr σ =>
  KOK.piece env0 hrun [0, 1, 6, 9, 10, 11] (eq136_23 run fu s21 (G fr 0) (G fr 1) (G fr 6) (G fr 9) (G fr 10) (G fr 11) σ) ⟨⟨trivial, ⟨trivial, trivial⟩⟩, trivial⟩

noncomputable def c136_21b (run : RunT) (fu : Nat) (s21 : W5) (x0 x1 x6 x9 x10 : AV) (σ : Store) : Tr R :=
  lenSK x6 fun x110 =>
  cmpK .lss x9 x110 fun x111 =>
  grdK x111 true σ (fun f => f x10 σ) fun x113 σ1 =>
  grdK x111 true σ1 (fun f => lenLK x113 fun v => f v σ1) fun x114 σ2 =>
  grdK x111 true σ2 (fun f => cmpK .lss x114 (.int .i64 16) fun v => f v σ2) fun x115 σ3 =>
  pickK x111 x115 (.bool false) fun x116 =>
  ifK x116 (
  idxSK x6 x9 fun x121 =>
  cmpK .leq (.int .u8 65) x121 fun x123 =>
  grdK x123 true σ3 (fun f => f x121 σ3) fun x125 σ4 =>
  grdK x123 true σ4 (fun f => cmpK .leq x125 (.int .u8 90) fun v => f v σ4) fun x126 σ5 =>
  pickK x123 x126 (.bool false) fun x127 =>
  ifK x127 (
  addK x121 (.int .u8 32) fun x129 =>
  c136_23 run fu s21 x0 x1 x6 x9 x10 x129 σ5) (
  c136_23 run fu s21 x0 x1 x6 x9 x10 x121 σ5)) (
  c136_11 run fu x0 x1 x6 x9 x10 σ3)

noncomputable def c136_21 (run : RunT) (fu : Nat) : Nat → W5
  | 0 => fun _ _ _ _ _ _ => .fail
  | m + 1 => c136_21b run fu (c136_21 run fu m)

theorem eq136_21 (run : RunT) (fu : Nat) (s21 : W5) (x0 x1 x6 x9 x10 : AV) (σ : Store) : codeK X0 run (.seq (.seq .leaf (.cond .leaf .leaf)) (.seq (.block (.seq .leaf (.seq (.seq .leaf (.cond .leaf .leaf)) (.sub (fun fr σ => c136_23 run fu s21 (G fr 0) (G fr 1) (G fr 6) (G fr 9) (G fr 10) (G fr 11) σ))))) (.sub (fun fr σ => c136_22 run fu s21 (G fr 0) (G fr 1) (G fr 6) (G fr 9) (G fr 10) σ)))) (subC [true, false, true, true, true, true, true, true, true, true, true, true, false, false, false] b136) (frS 0 368 [(0, x0), (1, x1), (6, x6), (9, x9), (10, x10)]) σ (thenK (fun fr σ => s21 (G fr 0) (G fr 1) (G fr 6) (G fr 9) (G fr 10) σ) (blockK 1 (thenK (fun fr σ => c136_11 run fu (G fr 0) (G fr 1) (G fr 6) (G fr 9) (G fr 10) σ) (scopeK (subC [true, false] b136) (lblU 0 (fun fr σ => c136_1L run fu fu (G fr 0) (G fr 1) (G fr 6) (G fr 9) (G fr 10) σ)) k136)))) = c136_21b run fu s21 x0 x1 x6 x9 x10 σ := by kernel_rfl

theorem owed136_21 {run : RunT} (hrun : RunOK X0 run) (fu : Nat) (s21 : W5) : Owes X0 run 368 (.seq (.seq .leaf (.cond .leaf .leaf)) (.seq (.block (.seq .leaf (.seq (.seq .leaf (.cond .leaf .leaf)) (.sub (fun fr σ => c136_23 run fu s21 (G fr 0) (G fr 1) (G fr 6) (G fr 9) (G fr 10) (G fr 11) σ))))) (.sub (fun fr σ => c136_22 run fu s21 (G fr 0) (G fr 1) (G fr 6) (G fr 9) (G fr 10) σ)))) (subC [true, false, true, true, true, true, true, true, true, true, true, true, false, false, false] b136) (thenK (fun fr σ => s21 (G fr 0) (G fr 1) (G fr 6) (G fr 9) (G fr 10) σ) (blockK 1 (thenK (fun fr σ => c136_11 run fu (G fr 0) (G fr 1) (G fr 6) (G fr 9) (G fr 10) σ) (scopeK (subC [true, false] b136) (lblU 0 (fun fr σ => c136_1L run fu fu (G fr 0) (G fr 1) (G fr 6) (G fr 9) (G fr 10) σ)) k136)))) :=
  ⟨⟨trivial, ⟨trivial, trivial⟩⟩, ⟨⟨trivial, ⟨⟨trivial, ⟨trivial, trivial⟩⟩, (ok136_23 hrun fu s21)⟩⟩, (ok136_22 hrun fu s21)⟩⟩

theorem ok136_21 {run : RunT} (hrun : RunOK X0 run) (fu : Nat) : ∀ fr σ, KOK X0 368 (subC [true, false, true, true, true, true, true, true, true, true, true, true, false, false] b136) fr σ ((fun fr σ => c136_21 run fu fu (G fr 0) (G fr 1) (G fr 6) (G fr 9) (G fr 10) σ) fr σ) (blockK 1 (thenK (fun fr σ => c136_11 run fu (G fr 0) (G fr 1) (G fr 6) (G fr 9) (G fr 10) σ) (scopeK (subC [true, false] b136) (lblU 0 (fun fr σ => c136_1L run fu fu (G fr 0) (G fr 1) (G fr 6) (G fr 9) (G fr 10) σ)) k136))) := by
  have h := KOK.loop (X := X0) (N := 368) (b := (subC [true, false, true, true, true, true, true, true, true, true, true, true, false, false, false] b136)) (k := (blockK 1 (thenK (fun fr σ => c136_11 run fu (G fr 0) (G fr 1) (G fr 6) (G fr 9) (G fr 10) σ) (scopeK (subC [true, false] b136) (lblU 0 (fun fr σ => c136_1L run fu fu (G fr 0) (G fr 1) (G fr 6) (G fr 9) (G fr 10) σ)) k136)))) (u := fun m fr σ => c136_21 run fu m (G fr 0) (G fr 1) (G fr 6) (G fr 9) (G fr 10) σ) (fun _ _ => rfl) (fun m fr σ => KOK.piece env0 hrun [0, 1, 6, 9, 10] (eq136_21 run fu (c136_21 run fu m) (G fr 0) (G fr 1) (G fr 6) (G fr 9) (G fr 10) σ) (owed136_21 hrun fu (c136_21 run fu m)))
  exact fun fr σ => h fu fr σ

noncomputable def c136_24 (run : RunT) (fu : Nat) (s21 : W5) (x0 x1 x6 x9 x10 : AV) (σ : Store) : Tr R :=
  addK x9 (.int .i64 1) fun x118 =>
  s21 x0 x1 x6 x118 x10 σ

theorem eq136_24 (run : RunT) (fu : Nat) (s21 : W5) (x0 x1 x6 x9 x10 : AV) (σ : Store) : codeK X0 run .leaf (subC [true, false, true, true, true, true, true, true, true, true, true, true, false, false, false, true, true] b136) (frS 0 368 [(0, x0), (1, x1), (6, x6), (9, x9), (10, x10)]) σ (thenK (fun fr σ => s21 (G fr 0) (G fr 1) (G fr 6) (G fr 9) (G fr 10) σ) failK) = c136_24 run fu s21 x0 x1 x6 x9 x10 σ := by kernel_rfl

theorem ok136_24 {run : RunT} (hrun : RunOK X0 run) (fu : Nat) (s21 : W5) : ∀ fr σ, KOK X0 368 (subC [true, false, true, true, true, true, true, true, true, true, true, true, false, false, false, true, true] b136) fr σ ((fun fr σ => c136_24 run fu s21 (G fr 0) (G fr 1) (G fr 6) (G fr 9) (G fr 10) σ) fr σ) (thenK (fun fr σ => s21 (G fr 0) (G fr 1) (G fr 6) (G fr 9) (G fr 10) σ) failK) := fun fr σ =>
  KOK.piece env0 hrun [0, 1, 6, 9, 10] (eq136_24 run fu s21 (G fr 0) (G fr 1) (G fr 6) (G fr 9) (G fr 10) σ) trivial

noncomputable def c136_25 (run : RunT) (fu : Nat) (s21 : W5) (x0 x1 x6 x9 x10 x11 : AV) (σ : Store) : Tr R :=
  cmpK .leq (.int .u8 97) x11 fun x131 =>
  grdK x131 true σ (fun f => f x11 σ) fun x133 σ1 =>
  grdK x131 true σ1 (fun f => cmpK .leq x133 (.int .u8 122) fun v => f v σ1) fun x134 σ2 =>
  pickK x131 x134 (.bool false) fun x135 =>
  notK x135 fun x136 =>
  grdK x136 true σ2 (fun f => f x11 σ2) fun x138 σ3 =>
  grdK x136 true σ3 (fun f => cmpK .leq (.int .u8 48) x138 fun v => f v σ3) fun x139 σ4 =>
  grdK x136 true σ4 (fun f => f x139 σ4) fun x140 σ5 =>
  grdK x140 true σ5 (fun f => f x11 σ5) fun x141 σ6 =>
  grdK x140 true σ6 (fun f => cmpK .leq x141 (.int .u8 57) fun v => f v σ6) fun x142 σ7 =>
  grdK x136 true σ7 (fun f => pickK x140 x142 (.bool false) fun v => f v σ7) fun x143 σ8 =>
  grdK x136 true σ8 (fun f => notK x143 fun v => f v σ8) fun x144 σ9 =>
  pickK x136 x144 (.bool false) fun x145 =>
  ifK x145 (
  .fail) (
  opt (fillK [(.int .u8 0)] [(0, 1, x11)]) fun cs => newSK σ9 11 cs 1 1 fun x148 σ10 =>
  appK 5 1 1 σ10 x10 x148 fun x149 σ11 =>
  c136_24 run fu s21 x0 x1 x6 x9 x149 σ11)

theorem eq136_25 (run : RunT) (fu : Nat) (s21 : W5) (x0 x1 x6 x9 x10 x11 : AV) (σ : Store) : codeK X0 run (.seq (.seq .leaf (.cond .leaf .leaf)) .leaf) (subC [true, false, true, true, true, true, true, true, true, true, true, true, false, false, false, true, false, false, true, true] b136) (frS 0 368 [(0, x0), (1, x1), (6, x6), (9, x9), (10, x10), (11, x11)]) σ (blockK 2 (thenK (fun fr σ => c136_24 run fu s21 (G fr 0) (G fr 1) (G fr 6) (G fr 9) (G fr 10) σ) (thenK (fun fr σ => s21 (G fr 0) (G fr 1) (G fr 6) (G fr 9) (G fr 10) σ) failK))) = c136_25 run fu s21 x0 x1 x6 x9 x10 x11 σ := by kernel_rfl

theorem ok136_25 {run : RunT} (hrun : RunOK X0 run) (fu : Nat) (s21 : W5) : ∀ fr σ, KOK X0 368 (subC [true, false, true, true, true, true, true, true, true, true, true, true, false, false, false, true, false, false, true, true] b136) fr σ ((fun fr σ => c136_25 run fu s21 (G fr 0) (G fr 1) (G fr 6) (G fr 9) (G fr 10) (G fr 11) σ) fr σ) (blockK 2 (thenK (fun fr σ => c136_24 run fu s21 (G fr 0) (G fr 1) (G fr 6) (G fr 9) (G fr 10) σ) (thenK (fun fr σ => s21 (G fr 0) (G fr 1) (G fr 6) (G fr 9) (G fr 10) σ) failK))) := fun fr σ =>
  KOK.piece env0 hrun [0, 1, 6, 9, 10, 11] (eq136_25 run fu s21 (G fr 0) (G fr 1) (G fr 6) (G fr 9) (G fr 10) (G fr 11) σ) ⟨⟨trivial, ⟨trivial, trivial⟩⟩, trivial⟩

noncomputable def c136_21x (run : RunT) (fu : Nat) (s21 : W5) (x0 x1 x6 x9 x10 : AV) (σ : Store) : Tr R :=
  lenSK x6 fun x110 =>
  cmpK .lss x9 x110 fun x111 =>
  grdK x111 true σ (fun f => f x10 σ) fun x113 σ1 =>
  grdK x111 true σ1 (fun f => lenLK x113 fun v => f v σ1) fun x114 σ2 =>
  grdK x111 true σ2 (fun f => cmpK .lss x114 (.int .i64 16) fun v => f v σ2) fun x115 σ3 =>
  pickK x111 x115 (.bool false) fun x116 =>
  ifK x116 (
  idxSK x6 x9 fun x121 =>
  cmpK .leq (.int .u8 65) x121 fun x123 =>
  grdK x123 true σ3 (fun f => f x121 σ3) fun x125 σ4 =>
  grdK x123 true σ4 (fun f => cmpK .leq x125 (.int .u8 90) fun v => f v σ4) fun x126 σ5 =>
  pickK x123 x126 (.bool false) fun x127 =>
  ifK x127 (
  addK x121 (.int .u8 32) fun x129 =>
  c136_25 run fu s21 x0 x1 x6 x9 x10 x129 σ5) (
  c136_25 run fu s21 x0 x1 x6 x9 x10 x121 σ5)) (
  .fail)

theorem eq136_21x (run : RunT) (fu : Nat) (s21 : W5) (x0 x1 x6 x9 x10 : AV) (σ : Store) : codeK X0 run (.seq (.seq .leaf (.cond .leaf .leaf)) (.seq (.block (.seq .leaf (.seq (.seq .leaf (.cond .leaf .leaf)) (.sub (fun fr σ => c136_25 run fu s21 (G fr 0) (G fr 1) (G fr 6) (G fr 9) (G fr 10) (G fr 11) σ))))) (.sub (fun fr σ => c136_24 run fu s21 (G fr 0) (G fr 1) (G fr 6) (G fr 9) (G fr 10) σ)))) (subC [true, false, true, true, true, true, true, true, true, true, true, true, false, false, false] b136) (frS 0 368 [(0, x0), (1, x1), (6, x6), (9, x9), (10, x10)]) σ (thenK (fun fr σ => s21 (G fr 0) (G fr 1) (G fr 6) (G fr 9) (G fr 10) σ) failK) = c136_21x run fu s21 x0 x1 x6 x9 x10 σ := by kernel_rfl

theorem owed136_21x {run : RunT} (hrun : RunOK X0 run) (fu : Nat) (s21 : W5) : Owes X0 run 368 (.seq (.seq .leaf (.cond .leaf .leaf)) (.seq (.block (.seq .leaf (.seq (.seq .leaf (.cond .leaf .leaf)) (.sub (fun fr σ => c136_25 run fu s21 (G fr 0) (G fr 1) (G fr 6) (G fr 9) (G fr 10) (G fr 11) σ))))) (.sub (fun fr σ => c136_24 run fu s21 (G fr 0) (G fr 1) (G fr 6) (G fr 9) (G fr 10) σ)))) (subC [true, false, true, true, true, true, true, true, true, true, true, true, false, false, false] b136) (thenK (fun fr σ => s21 (G fr 0) (G fr 1) (G fr 6) (G fr 9) (G fr 10) σ) failK) :=
  ⟨⟨trivial, ⟨trivial, trivial⟩⟩, ⟨⟨trivial, ⟨⟨trivial, ⟨trivial, trivial⟩⟩, (ok136_25 hrun fu s21)⟩⟩, (ok136_24 hrun fu s21)⟩⟩

noncomputable def c136_21s (run : RunT) (fu : Nat) : Nat → List AV → Store → Tr R :=
  sweepW 4 5 (sweepR (planOf none 2 3 [] [] [] [4]) (planR 4 0 5) (fun s2 xs σ => c136_21b run fu (fun y0 y1 y6 y9 y10 σ => s2 [y0, y1, y6, y9, y10] σ) (xs.getD 0 .any) (xs.getD 1 .any) (xs.getD 2 .any) (xs.getD 3 .any) (xs.getD 4 .any) σ) (fun s2 xs σ => c136_21x run fu (fun y0 y1 y6 y9 y10 σ => s2 [y0, y1, y6, y9, y10] σ) (xs.getD 0 .any) (xs.getD 1 .any) (xs.getD 2 .any) (xs.getD 3 .any) (xs.getD 4 .any) σ))

theorem ok136_21s {run : RunT} (hrun : RunOK X0 run) (fu : Nat) : ∀ fr σ, KOK X0 368 (subC [true, false, true, true, true, true, true, true, true, true, true, true, false, false] b136) fr σ ((fun fr σ => c136_21s run fu fu [fr.getD 0 .any, fr.getD 1 .any, fr.getD 6 .any, fr.getD 9 .any, fr.getD 10 .any] σ) fr σ) (blockK 1 (thenK (fun fr σ => c136_11 run fu (G fr 0) (G fr 1) (G fr 6) (G fr 9) (G fr 10) σ) (scopeK (subC [true, false] b136) (lblU 0 (fun fr σ => c136_1L run fu fu (G fr 0) (G fr 1) (G fr 6) (G fr 9) (G fr 10) σ)) k136))) := by
  have h := KOK.sweepW rfl 4 5 (KOK.sweepRow (X := X0) (N := 368) (b := (subC [true, false, true, true, true, true, true, true, true, true, true, true, false, false, false] b136)) (k := (blockK 1 (thenK (fun fr σ => c136_11 run fu (G fr 0) (G fr 1) (G fr 6) (G fr 9) (G fr 10) σ) (scopeK (subC [true, false] b136) (lblU 0 (fun fr σ => c136_1L run fu fu (G fr 0) (G fr 1) (G fr 6) (G fr 9) (G fr 10) σ)) k136)))) (js := [0, 1, 6, 9, 10]) (body := (fun s2 xs σ => c136_21b run fu (fun y0 y1 y6 y9 y10 σ => s2 [y0, y1, y6, y9, y10] σ) (xs.getD 0 .any) (xs.getD 1 .any) (xs.getD 2 .any) (xs.getD 3 .any) (xs.getD 4 .any) σ)) (bodyx := (fun s2 xs σ => c136_21x run fu (fun y0 y1 y6 y9 y10 σ => s2 [y0, y1, y6, y9, y10] σ) (xs.getD 0 .any) (xs.getD 1 .any) (xs.getD 2 .any) (xs.getD 3 .any) (xs.getD 4 .any) σ)) rfl (planOf none 2 3 [] [] [] [4]) (planR 4 0 5) (fun s2 fr σ => KOK.piece env0 hrun [0, 1, 6, 9, 10] (eq136_21 run fu (fun y0 y1 y6 y9 y10 σ => s2 [y0, y1, y6, y9, y10] σ) (G fr 0) (G fr 1) (G fr 6) (G fr 9) (G fr 10) σ) (owed136_21 hrun fu (fun y0 y1 y6 y9 y10 σ => s2 [y0, y1, y6, y9, y10] σ))) (fun s2 fr σ => KOK.piece env0 hrun [0, 1, 6, 9, 10] (eq136_21x run fu (fun y0 y1 y6 y9 y10 σ => s2 [y0, y1, y6, y9, y10] σ) (G fr 0) (G fr 1) (G fr 6) (G fr 9) (G fr 10) σ) (owed136_21x hrun fu (fun y0 y1 y6 y9 y10 σ => s2 [y0, y1, y6, y9, y10] σ))))
  exact fun fr σ => h fu fr σ

noncomputable def c136_10 (run : RunT) (fu : Nat) (x0 x1 x6 x9 : AV) (σ : Store) : Tr R :=
  genK (makeSliceA Tryz.prog σ 34 (.int .i64 0) (.int .i64 16)) fun x107 σ1 =>
  c136_21s run fu fu [x0, x1, x6, x9, x107] σ1

theorem eq136_10 (run : RunT) (fu : Nat) (x0 x1 x6 x9 : AV) (σ : Store) : codeK X0 run (.seq .leaf (.seq (.block (.sub (fun fr σ => c136_21s run fu fu [fr.getD 0 .any, fr.getD 1 .any, fr.getD 6 .any, fr.getD 9 .any, fr.getD 10 .any] σ))) (.sub (fun fr σ => c136_11 run fu (G fr 0) (G fr 1) (G fr 6) (G fr 9) (G fr 10) σ)))) (subC [true, false, true, true, true, true, true, true, true, true, true] b136) (frS 0 368 [(0, x0), (1, x1), (6, x6), (9, x9)]) σ (scopeK (subC [true, false] b136) (lblU 0 (fun fr σ => c136_1L run fu fu (G fr 0) (G fr 1) (G fr 6) (G fr 9) (G fr 10) σ)) k136) = c136_10 run fu x0 x1 x6 x9 σ := by kernel_rfl

theorem ok136_10 {run : RunT} (hrun : RunOK X0 run) (fu : Nat) : ∀ fr σ, KOK X0 368 (subC [true, false, true, true, true, true, true, true, true, true, true] b136) fr σ ((fun fr σ => c136_10 run fu (G fr 0) (G fr 1) (G fr 6) (G fr 9) σ) fr σ) (scopeK (subC [true, false] b136) (lblU 0 (fun fr σ => c136_1L run fu fu (G fr 0) (G fr 1) (G fr 6) (G fr 9) (G fr 10) σ)) k136) := fun fr σ =>
  KOK.piece env0 hrun [0, 1, 6, 9] (eq136_10 run fu (G fr 0) (G fr 1) (G fr 6) (G fr 9) σ) ⟨trivial, ⟨(ok136_21s hrun fu), (ok136_11 hrun fu)⟩⟩

noncomputable def c136_9 (run : RunT) (fu : Nat) (x0 x1 x6 : AV) (σ : Store) : Tr R :=
  lenSK x6 fun x97 =>
  cmpK .lss (.int .i64 1) x97 fun x98 =>
  grdK x98 true σ (fun f => f x6 σ) fun x100 σ1 =>
  grdK x98 true σ1 (fun f => f (.int .i64 1) σ1) fun x101 σ2 =>
  grdK x98 true σ2 (fun f => idxSK x100 x101 fun v => f v σ2) fun x102 σ3 =>
  grdK x98 true σ3 (fun f => cmpK .eql x102 (.int .u8 47) fun v => f v σ3) fun x103 σ4 =>
  pickK x98 x103 (.bool false) fun x104 =>
  ifK x104 (
  addK (.int .i64 1) (.int .i64 1) fun x106 =>
  c136_10 run fu x0 x1 x6 x106 σ4) (
  c136_10 run fu x0 x1 x6 (.int .i64 1) σ4)

theorem eq136_9 (run : RunT) (fu : Nat) (x0 x1 x6 : AV) (σ : Store) : codeK X0 run (.seq .leaf (.seq (.seq .leaf (.cond .leaf .leaf)) (.sub (fun fr σ => c136_10 run fu (G fr 0) (G fr 1) (G fr 6) (G fr 9) σ)))) (subC [true, false, true, true, true, true, true, true, true] b136) (frS 0 368 [(0, x0), (1, x1), (6, x6)]) σ (scopeK (subC [true, false] b136) (lblU 0 (fun fr σ => c136_1L run fu fu (G fr 0) (G fr 1) (G fr 6) (G fr 9) (G fr 10) σ)) k136) = c136_9 run fu x0 x1 x6 σ := by kernel_rfl

theorem ok136_9 {run : RunT} (hrun : RunOK X0 run) (fu : Nat) : ∀ fr σ, KOK X0 368 (subC [true, false, true, true, true, true, true, true, true] b136) fr σ ((fun fr σ => c136_9 run fu (G fr 0) (G fr 1) (G fr 6) σ) fr σ) (scopeK (subC [true, false] b136) (lblU 0 (fun fr σ => c136_1L run fu fu (G fr 0) (G fr 1) (G fr 6) (G fr 9) (G fr 10) σ)) k136) := fun fr σ =>
  KOK.piece env0 hrun [0, 1, 6] (eq136_9 run fu (G fr 0) (G fr 1) (G fr 6) σ) ⟨trivial, ⟨⟨trivial, ⟨trivial, trivial⟩⟩, (ok136_10 hrun fu)⟩⟩

noncomputable def c136_26 (run : RunT) (fu : Nat) (σ : Store) : Tr R :=
  .ret ((.bool true), σ)

theorem eq136_26 (run : RunT) (fu : Nat) (σ : Store) : codeK X0 run (.seq .leaf .leaf) (subC [true, false, true, true, true, true, true, true, false, true, false, true, true, true, true] b136) (frS 0 368 []) σ (thenK (fun fr σ => c136_9 run fu (G fr 0) (G fr 1) (G fr 6) σ) (scopeK (subC [true, false] b136) (lblU 0 (fun fr σ => c136_1L run fu fu (G fr 0) (G fr 1) (G fr 6) (G fr 9) (G fr 10) σ)) k136)) = c136_26 run fu σ := by kernel_rfl

theorem ok136_26 {run : RunT} (hrun : RunOK X0 run) (fu : Nat) : ∀ fr σ, KOK X0 368 (subC [true, false, true, true, true, true, true, true, false, true, false, true, true, true, true] b136) fr σ ((fun fr σ => c136_26 run fu σ) fr σ) (thenK (fun fr σ => c136_9 run fu (G fr 0) (G fr 1) (G fr 6) σ) (scopeK (subC [true, false] b136) (lblU 0 (fun fr σ => c136_1L run fu fu (G fr 0) (G fr 1) (G fr 6) (G fr 9) (G fr 10) σ)) k136)) := fun fr σ =>
  KOK.piece env0 hrun [] (eq136_26 run fu σ) ⟨trivial, trivial⟩

noncomputable def c136_8 (run : RunT) (fu : Nat) (x0 x1 x6 x7 : AV) (σ : Store) : Tr R :=
  ld1K σ x7 fun x67 =>
  neSK x67 (.str []) fun x68 =>
  ifK x68 (
  bldK [(.bool false), .nils, .nilf] [(2, 1, (.fn (.func 174) [] [x7]))] fun x70 =>
  boxK σ 559 x70 fun x71 σ1 =>
  calK run 49 [x0, (.iface 277 x71)] σ1 fun x75 σ2 =>
  nchkK x71 fun x78 =>
  addrK x78 1 fun x79 =>
  ld1K σ2 x79 fun x80 =>
  calK run 122 [x1] σ2 fun x82 σ3 =>
  opt (fillK [(.str [])] [(0, 1, x82)]) fun cs => newSK σ3 19 cs 1 1 fun x83 σ4 =>
  appK 9 1 16 σ4 x80 x83 fun x84 σ5 =>
  nchkK x71 fun x85 =>
  addrK x85 1 fun x86 =>
  st1K σ5 x86 x84 fun _ σ6 =>
  ld1K σ3 x79 fun v7 =>
  must (AV.beq v7 x80) (
  ld1K σ4 x79 fun v8 =>
  must (AV.beq v8 x80) (
  nchkK x71 fun x88 =>
  addrK x88 2 fun x89 =>
  ld1K σ6 x89 fun x90 =>
  dynK X0 run x90 [x6] σ6 fun x92 σ9 =>
  ifK x92 (
  calK run 59 [x0] σ9 fun x94 σ10 =>
  c136_26 run fu σ10) (
  c136_26 run fu σ9)))) (
  c136_9 run fu x0 x1 x6 σ)

theorem eq136_8 (run : RunT) (fu : Nat) (x0 x1 x6 x7 : AV) (σ : Store) : codeK X0 run (.seq (.seq .leaf (.cond (.seq .leaf (.seq .leaf (.seq .leaf (.seq (.seq .leaf (.cond .leaf .leaf)) (.sub (fun fr σ => c136_26 run fu σ)))))) .leaf)) (.sub (fun fr σ => c136_9 run fu (G fr 0) (G fr 1) (G fr 6) σ))) (subC [true, false, true, true, true, true, true, true] b136) (frS 0 368 [(0, x0), (1, x1), (6, x6), (7, x7)]) σ (scopeK (subC [true, false] b136) (lblU 0 (fun fr σ => c136_1L run fu fu (G fr 0) (G fr 1) (G fr 6) (G fr 9) (G fr 10) σ)) k136) = c136_8 run fu x0 x1 x6 x7 σ := by kernel_rfl

theorem ok136_8 {run : RunT} (hrun : RunOK X0 run) (fu : Nat) : ∀ fr σ, KOK X0 368 (subC [true, false, true, true, true, true, true, true] b136) fr σ ((fun fr σ => c136_8 run fu (G fr 0) (G fr 1) (G fr 6) (G fr 7) σ) fr σ) (scopeK (subC [true, false] b136) (lblU 0 (fun fr σ => c136_1L run fu fu (G fr 0) (G fr 1) (G fr 6) (G fr 9) (G fr 10) σ)) k136) := fun fr σ =>
  KOK.piece env0 hrun [0, 1, 6, 7] (eq136_8 run fu (G fr 0) (G fr 1) (G fr 6) (G fr 7) σ) ⟨⟨trivial, ⟨⟨trivial, ⟨trivial, ⟨trivial, ⟨⟨trivial, ⟨trivial, trivial⟩⟩, (ok136_26 hrun fu)⟩⟩⟩⟩, trivial⟩⟩, (ok136_9 hrun fu)⟩

noncomputable def c136_27 (run : RunT) (fu : Nat) (x0 x1 x6 x7 : AV) (σ : Store) : Tr R :=
  st1K σ x7 (.str [62]) fun _ σ1 =>
  c136_8 run fu x0 x1 x6 x7 σ1

theorem eq136_27 (run : RunT) (fu : Nat) (x0 x1 x6 x7 : AV) (σ : Store) : codeK X0 run .leaf (subC [true, false, true, true, true, true, true, false, false, true, true, true, true, true, true, true, false, true] b136) (frS 0 368 [(0, x0), (1, x1), (6, x6), (7, x7)]) σ (blockK 0 (thenK (fun fr σ => c136_8 run fu (G fr 0) (G fr 1) (G fr 6) (G fr 7) σ) (scopeK (subC [true, false] b136) (lblU 0 (fun fr σ => c136_1L run fu fu (G fr 0) (G fr 1) (G fr 6) (G fr 9) (G fr 10) σ)) k136))) = c136_27 run fu x0 x1 x6 x7 σ := by kernel_rfl

theorem ok136_27 {run : RunT} (hrun : RunOK X0 run) (fu : Nat) : ∀ fr σ, KOK X0 368 (subC [true, false, true, true, true, true, true, false, false, true, true, true, true, true, true, true, false, true] b136) fr σ ((fun fr σ => c136_27 run fu (G fr 0) (G fr 1) (G fr 6) (G fr 7) σ) fr σ) (blockK 0 (thenK (fun fr σ => c136_8 run fu (G fr 0) (G fr 1) (G fr 6) (G fr 7) σ) (scopeK (subC [true, false] b136) (lblU 0 (fun fr σ => c136_1L run fu fu (G fr 0) (G fr 1) (G fr 6) (G fr 9) (G fr 10) σ)) k136))) := fun fr σ =>
  KOK.piece env0 hrun [0, 1, 6, 7] (eq136_27 run fu (G fr 0) (G fr 1) (G fr 6) (G fr 7) σ) trivial

noncomputable def c136_1 (run : RunT) (fu : Nat) (x0 x1 : AV) (σ : Store) : Tr R :=
  nchkK x1 fun x28 =>
  ldNK σ x28 5 fun x29 =>
  newK σ 201 [(.int .i64 0), (.int .i64 0), (.int .i64 0), (.str []), (.int .u8 0)] fun x5 σ1 =>
  stNK σ1 x5 5 x29 fun _ σ2 =>
  calK run 139 [x5, (.int .i64 0), (.int .i64 3), (.bool false)] σ2 fun x30 σ3 =>
  calK run 170 [x5] σ3 fun x31 σ4 =>
  cmpK .neq x31 (.int .u8 60) fun x32 =>
  ifK x32 (
  .ret ((.bool false), σ4)) (
  calK run 122 [x5] σ4 fun x33 σ5 =>
  newK σ5 19 [(.str [])] fun x7 σ6 =>
  calK run 31 [x33, (.str [60, 33, 45, 45])] σ6 fun x36 σ7 =>
  ifK x36 (
  st1K σ7 x7 (.str [45, 45, 62]) fun _ σ8 =>
  c136_8 run fu x0 x1 x33 x7 σ8) (
  calK run 31 [x33, (.str [60, 63])] σ7 fun x39 σ9 =>
  ifK x39 (
  st1K σ9 x7 (.str [63, 62]) fun _ σ10 =>
  c136_8 run fu x0 x1 x33 x7 σ10) (
  calK run 31 [x33, (.str [60, 33, 91, 67, 68, 65, 84, 65, 91])] σ9 fun x42 σ11 =>
  ifK x42 (
  st1K σ11 x7 (.str [93, 93, 62]) fun _ σ12 =>
  c136_8 run fu x0 x1 x33 x7 σ12) (
  calK run 31 [x33, (.str [60, 33])] σ11 fun x45 σ13 =>
  grdK x45 true σ13 (fun f => f x33 σ13) fun x47 σ14 =>
  grdK x45 true σ14 (fun f => lenSK x47 fun v => f v σ14) fun x48 σ15 =>
  grdK x45 true σ15 (fun f => cmpK .geq x48 (.int .i64 3) fun v => f v σ15) fun x49 σ16 =>
  pickK x45 x49 (.bool false) fun x50 =>
  grdK x50 true σ16 (fun f => f x33 σ16) fun x52 σ17 =>
  grdK x50 true σ17 (fun f => idxSK x52 (.int .i64 2) fun v => f v σ17) fun x53 σ18 =>
  grdK x50 true σ18 (fun f => calK run 138 [x53] σ18 f) fun x54 σ19 =>
  pickK x50 x54 (.bool false) fun x55 =>
  ifK x55 (
  idxSK x33 (.int .i64 2) fun x57 =>
  cmpK .leq (.int .u8 97) x57 fun x58 =>
  grdK x58 true σ19 (fun f => f x33 σ19) fun x60 σ20 =>
  grdK x58 true σ20 (fun f => idxSK x60 (.int .i64 2) fun v => f v σ20) fun x61 σ21 =>
  grdK x58 true σ21 (fun f => cmpK .leq x61 (.int .u8 122) fun v => f v σ21) fun x62 σ22 =>
  pickK x58 x62 (.bool false) fun x63 =>
  ifK x63 (
  nchkK x0 fun x65 =>
  addrK x65 6 fun x66 =>
  st1K σ22 x66 (.bool true) fun _ σ23 =>
  c136_27 run fu x0 x1 x33 x7 σ23) (
  c136_27 run fu x0 x1 x33 x7 σ22)) (
  c136_8 run fu x0 x1 x33 x7 σ19)))))

theorem eq136_1 (run : RunT) (fu : Nat) (x0 x1 : AV) (σ : Store) : codeK X0 run (.seq .leaf (.seq .leaf (.seq (.seq .leaf (.cond (.seq .leaf .leaf) .leaf)) (.seq .leaf (.seq .leaf (.seq (.block (.seq .leaf (.cond .leaf (.seq .leaf (.cond .leaf (.seq .leaf (.cond .leaf (.seq .leaf (.cond (.seq (.seq .leaf (.cond .leaf .leaf)) (.sub (fun fr σ => c136_27 run fu (G fr 0) (G fr 1) (G fr 6) (G fr 7) σ))) .leaf))))))))) (.sub (fun fr σ => c136_8 run fu (G fr 0) (G fr 1) (G fr 6) (G fr 7) σ)))))))) (subC [true, false] b136) (frS 0 368 [(0, x0), (1, x1)]) σ (scopeK (subC [true, false] b136) (lblU 0 (fun fr σ => c136_1L run fu fu (G fr 0) (G fr 1) (G fr 6) (G fr 9) (G fr 10) σ)) k136) = c136_1 run fu x0 x1 σ := by kernel_rfl

theorem ok136_1 {run : RunT} (hrun : RunOK X0 run) (fu : Nat) : ∀ fr σ, KOK X0 368 (subC [true] b136) fr σ ((fun fr σ => c136_1 run fu (G fr 0) (G fr 1) σ) fr σ) k136 := fun fr σ =>
  KOK.scope1 (X := X0) (N := 368) (b := (subC [true, false] b136)) (k := k136) 0 (u := fun m fr σ => c136_1L run fu m (G fr 0) (G fr 1) (G fr 6) (G fr 9) (G fr 10) σ) (fun _ _ => rfl) (fun m fr σ => KOK.piece env0 hrun [0, 1, 6, 9, 10] (eq136_1L run fu (c136_1L run fu m) (G fr 0) (G fr 1) (G fr 6) (G fr 9) (G fr 10) σ) (owed136_1L hrun fu (c136_1L run fu m))) fu
    (KOK.piece env0 hrun [0, 1] (eq136_1 run fu (G fr 0) (G fr 1) σ) ⟨trivial, ⟨trivial, ⟨⟨trivial, ⟨⟨trivial, trivial⟩, trivial⟩⟩, ⟨trivial, ⟨trivial, ⟨⟨trivial, ⟨trivial, ⟨trivial, ⟨trivial, ⟨trivial, ⟨trivial, ⟨trivial, ⟨⟨⟨trivial, ⟨trivial, trivial⟩⟩, (ok136_27 hrun fu)⟩, trivial⟩⟩⟩⟩⟩⟩⟩⟩, (ok136_8 hrun fu)⟩⟩⟩⟩⟩⟩)

noncomputable def c136 (run : RunT) (fu : Nat) (x0 x1 : AV) (σ : Store) : Tr R :=
  c136_1 run fu x0 x1 σ

theorem eq136 (run : RunT) (fu : Nat) (x0 x1 : AV) (σ : Store) : codeK X0 run (.seq .leaf (.sub (fun fr σ => c136_1 run fu (G fr 0) (G fr 1) σ))) (subC [] b136) ([x0, x1] ++ padA (368 - 2)) σ k136 = c136 run fu x0 x1 σ := by kernel_rfl

theorem ok136 {run : RunT} (hrun : RunOK X0 run) (fu : Nat) (x0 x1 : AV) (σ : Store) : CallOK X0 136 [x0, x1] σ (c136 run fu x0 x1 σ) :=
  KOK.body (fn := Tryz.f136) (c := subC [] b136) (by kernel_rfl) (by kernel_rfl) (by show 2 ≤ 368; decide) (KOK.whole env0 hrun (eq136 run fu x0 x1 σ) ⟨trivial, (ok136_1 hrun fu)⟩)

-- (*pub-paratext/pub/rscmarkdown.line).trimFence

noncomputable def b137 : Code := match Tryz.f137.body with | some c => c | none => .skip

noncomputable def k137 : Kont R := retK Tryz.prog [.tmp 8]

noncomputable def c137_2 (run : RunT) (fu : Nat) (σ : Store) : Tr R :=
  .ret ((.bool false), σ)

theorem eq137_2 (run : RunT) (fu : Nat) (σ : Store) : codeK X0 run (.seq .leaf .leaf) (subC [true, true, true, true, true] b137) (frS 0 69 []) σ k137 = c137_2 run fu σ := by kernel_rfl

theorem ok137_2 {run : RunT} (hrun : RunOK X0 run) (fu : Nat) : ∀ fr σ, KOK X0 69 (subC [true, true, true, true, true] b137) fr σ ((fun fr σ => c137_2 run fu σ) fr σ) k137 := fun fr σ =>
  KOK.piece env0 hrun [] (eq137_2 run fu σ) ⟨trivial, trivial⟩

noncomputable def c137_4 (run : RunT) (fu : Nat) (x0 x1 x2 x9 x10 x11 x12 : AV) (σ : Store) : Tr R :=
  bldK [] [] fun x47 =>
  calK run 177 [x9] σ fun x48 σ1 =>
  calK run 162 [x47, x48] σ1 fun x49 σ2 =>
  cmpK .eql x10 (.int .u8 96) fun x51 =>
  grdK x51 true σ2 (fun f => f x49 σ2) fun x53 σ3 =>
  grdK x51 true σ3 (fun f => calK run 47 [x53, (.str [96])] σ3 f) fun x54 σ4 =>
  pickK x51 x54 (.bool false) fun x55 =>
  ifK x55 (
  .ret ((.bool false), σ4)) (
  calK run 60 [x49] σ4 fun x57 σ5 =>
  nchkK x2 fun x60 =>
  st1K σ5 x60 x57 fun _ σ6 =>
  sliceSK x11 none (some x12) fun x64 =>
  nchkK x1 fun x65 =>
  st1K σ6 x65 x64 fun _ σ7 =>
  bldK [(.int .i64 0), (.int .i64 0), (.int .i64 0), (.str []), (.int .u8 0)] [] fun x67 =>
  nchkK x0 fun x68 =>
  stNK σ7 x68 5 x67 fun _ σ8 =>
  .ret ((.bool true), σ8))

theorem eq137_4 (run : RunT) (fu : Nat) (x0 x1 x2 x9 x10 x11 x12 : AV) (σ : Store) : codeK X0 run (.seq .leaf (.seq (.seq .leaf (.cond (.seq .leaf .leaf) .leaf)) (.seq .leaf (.seq .leaf (.seq .leaf (.seq .leaf (.seq .leaf .leaf))))))) (subC [true, true, true, true, false, true, true, false, true, false, true, true, true] b137) (frS 0 69 [(0, x0), (1, x1), (2, x2), (9, x9), (10, x10), (11, x11), (12, x12)]) σ (blockK 2 (thenK (fun fr σ => c137_2 run fu σ) k137)) = c137_4 run fu x0 x1 x2 x9 x10 x11 x12 σ := by kernel_rfl

theorem ok137_4 {run : RunT} (hrun : RunOK X0 run) (fu : Nat) : ∀ fr σ, KOK X0 69 (subC [true, true, true, true, false, true, true, false, true, false, true, true, true] b137) fr σ ((fun fr σ => c137_4 run fu (G fr 0) (G fr 1) (G fr 2) (G fr 9) (G fr 10) (G fr 11) (G fr 12) σ) fr σ) (blockK 2 (thenK (fun fr σ => c137_2 run fu σ) k137)) := fun fr σ =>
  KOK.piece env0 hrun [0, 1, 2, 9, 10, 11, 12] (eq137_4 run fu (G fr 0) (G fr 1) (G fr 2) (G fr 9) (G fr 10) (G fr 11) (G fr 12) σ) ⟨trivial, ⟨⟨trivial, ⟨⟨trivial, trivial⟩, trivial⟩⟩, ⟨trivial, ⟨trivial, ⟨trivial, ⟨trivial, ⟨trivial, trivial⟩⟩⟩⟩⟩⟩⟩

noncomputable def c137_5b (run : RunT) (fu : Nat) (s5 : W8) (x0 x1 x2 x9 x10 x11 x12 x13 : AV) (σ : Store) : Tr R :=
  calK run 168 [x9, x10] σ fun x41 σ1 =>
  notK x41 fun x42 =>
  ifK x42 (
  cmpK .geq x13 (.int .i64 3) fun x44 =>
  ifK x44 (
  c137_4 run fu x0 x1 x2 x9 x10 x11 x12 σ1) (
  .ret ((.bool false), σ1))) (
  addK x12 (.int .i64 1) fun x46 =>
  addK x13 (.int .i64 1) fun x39 =>
  s5 x0 x1 x2 x9 x10 x11 x46 x39 σ1)

noncomputable def c137_5 (run : RunT) (fu : Nat) : Nat → W8
  | 0 => fun _ _ _ _ _ _ _ _ _ => .fail
  | m + 1 => c137_5b run fu (c137_5 run fu m)

theorem eq137_5 (run : RunT) (fu : Nat) (s5 : W8) (x0 x1 x2 x9 x10 x11 x12 x13 : AV) (σ : Store) : codeK X0 run (.seq (.block (.seq (.seq .leaf (.cond (.seq (.seq .leaf (.cond .leaf .leaf)) (.seq .leaf .leaf)) .leaf)) .leaf)) .leaf) (subC [true, true, true, true, false, true, true, false, true, false, true, true, false, true, false, false] b137) (frS 0 69 [(0, x0), (1, x1), (2, x2), (9, x9), (10, x10), (11, x11), (12, x12), (13, x13)]) σ (thenK (fun fr σ => s5 (G fr 0) (G fr 1) (G fr 2) (G fr 9) (G fr 10) (G fr 11) (G fr 12) (G fr 13) σ) (blockK 3 (thenK (fun fr σ => c137_4 run fu (G fr 0) (G fr 1) (G fr 2) (G fr 9) (G fr 10) (G fr 11) (G fr 12) σ) (blockK 2 (thenK (fun fr σ => c137_2 run fu σ) k137))))) = c137_5b run fu s5 x0 x1 x2 x9 x10 x11 x12 x13 σ := by kernel_rfl

theorem owed137_5 {run : RunT} (hrun : RunOK X0 run) (fu : Nat) (s5 : W8) : Owes X0 run 69 (.seq (.block (.seq (.seq .leaf (.cond (.seq (.seq .leaf (.cond .leaf .leaf)) (.seq .leaf .leaf)) .leaf)) .leaf)) .leaf) (subC [true, true, true, true, false, true, true, false, true, false, true, true, false, true, false, false] b137) (thenK (fun fr σ => s5 (G fr 0) (G fr 1) (G fr 2) (G fr 9) (G fr 10) (G fr 11) (G fr 12) (G fr 13) σ) (blockK 3 (thenK (fun fr σ => c137_4 run fu (G fr 0) (G fr 1) (G fr 2) (G fr 9) (G fr 10) (G fr 11) (G fr 12) σ) (blockK 2 (thenK (fun fr σ => c137_2 run fu σ) k137))))) :=
  ⟨⟨⟨trivial, ⟨⟨⟨trivial, ⟨trivial, trivial⟩⟩, ⟨trivial, trivial⟩⟩, trivial⟩⟩, trivial⟩, trivial⟩

theorem ok137_5 {run : RunT} (hrun : RunOK X0 run) (fu : Nat) : ∀ fr σ, KOK X0 69 (subC [true, true, true, true, false, true, true, false, true, false, true, true, false, true, false] b137) fr σ ((fun fr σ => c137_5 run fu fu (G fr 0) (G fr 1) (G fr 2) (G fr 9) (G fr 10) (G fr 11) (G fr 12) (G fr 13) σ) fr σ) (blockK 3 (thenK (fun fr σ => c137_4 run fu (G fr 0) (G fr 1) (G fr 2) (G fr 9) (G fr 10) (G fr 11) (G fr 12) σ) (blockK 2 (thenK (fun fr σ => c137_2 run fu σ) k137)))) := by
  have h := KOK.loop (X := X0) (N := 69) (b := (subC [true, true, true, true, false, true, true, false, true, false, true, true, false, true, false, false] b137)) (k := (blockK 3 (thenK (fun fr σ => c137_4 run fu (G fr 0) (G fr 1) (G fr 2) (G fr 9) (G fr 10) (G fr 11) (G fr 12) σ) (blockK 2 (thenK (fun fr σ => c137_2 run fu σ) k137))))) (u := fun m fr σ => c137_5 run fu m (G fr 0) (G fr 1) (G fr 2) (G fr 9) (G fr 10) (G fr 11) (G fr 12) (G fr 13) σ) (fun _ _ => rfl) (fun m fr σ => KOK.piece env0 hrun [0, 1, 2, 9, 10, 11, 12, 13] (eq137_5 run fu (c137_5 run fu m) (G fr 0) (G fr 1) (G fr 2) (G fr 9) (G fr 10) (G fr 11) (G fr 12) (G fr 13) σ) (owed137_5 hrun fu (c137_5 run fu m)))
  exact fun fr σ => h fu fr σ

noncomputable def c137_3 (run : RunT) (fu : Nat) (x0 x1 x2 x9 x10 x34 : AV) (σ : Store) : Tr R :=
  ifK x34 (
  calK run 122 [x9] σ fun x37 σ1 =>
  c137_5 run fu fu x0 x1 x2 x9 x10 x37 (.int .i64 0) (.int .i64 0) σ1) (
  c137_2 run fu σ)

theorem eq137_3 (run : RunT) (fu : Nat) (x0 x1 x2 x9 x10 x34 : AV) (σ : Store) : codeK X0 run (.cond (.seq .leaf (.seq .leaf (.seq (.seq .leaf (.block (.sub (fun fr σ => c137_5 run fu fu (G fr 0) (G fr 1) (G fr 2) (G fr 9) (G fr 10) (G fr 11) (G fr 12) (G fr 13) σ)))) (.sub (fun fr σ => c137_4 run fu (G fr 0) (G fr 1) (G fr 2) (G fr 9) (G fr 10) (G fr 11) (G fr 12) σ))))) .leaf) (subC [true, true, true, true, false, true, true, false, true] b137) (frS 0 69 [(0, x0), (1, x1), (2, x2), (9, x9), (10, x10), (34, x34)]) σ (blockK 2 (thenK (fun fr σ => c137_2 run fu σ) k137)) = c137_3 run fu x0 x1 x2 x9 x10 x34 σ := by kernel_rfl

theorem ok137_3 {run : RunT} (hrun : RunOK X0 run) (fu : Nat) : ∀ fr σ, KOK X0 69 (subC [true, true, true, true, false, true, true, false, true] b137) fr σ ((fun fr σ => c137_3 run fu (G fr 0) (G fr 1) (G fr 2) (G fr 9) (G fr 10) (G fr 34) σ) fr σ) (blockK 2 (thenK (fun fr σ => c137_2 run fu σ) k137)) := fun fr σ =>
  KOK.piece env0 hrun [0, 1, 2, 9, 10, 34] (eq137_3 run fu (G fr 0) (G fr 1) (G fr 2) (G fr 9) (G fr 10) (G fr 34) σ) ⟨⟨trivial, ⟨trivial, ⟨⟨trivial, (ok137_5 hrun fu)⟩, (ok137_4 hrun fu)⟩⟩⟩, trivial⟩

noncomputable def c137_1 (run : RunT) (fu : Nat) (x0 x1 x2 x9 : AV) (σ : Store) : Tr R :=
  calK run 170 [x9] σ fun x32 σ1 =>
  cmpK .eql x32 (.int .u8 96) fun x35 =>
  ifK x35 (
  c137_3 run fu x0 x1 x2 x9 x32 x35 σ1) (
  cmpK .eql x32 (.int .u8 126) fun x36 =>
  c137_3 run fu x0 x1 x2 x9 x32 x36 σ1)

theorem eq137_1 (run : RunT) (fu : Nat) (x0 x1 x2 x9 : AV) (σ : Store) : codeK X0 run (.seq (.seq .leaf (.seq .leaf (.block (.seq (.seq .leaf (.cond .leaf .leaf)) (.sub (fun fr σ => c137_3 run fu (G fr 0) (G fr 1) (G fr 2) (G fr 9) (G fr 10) (G fr 34) σ)))))) (.sub (fun fr σ => c137_2 run fu σ))) (subC [true, true, true, true] b137) (frS 0 69 [(0, x0), (1, x1), (2, x2), (9, x9)]) σ k137 = c137_1 run fu x0 x1 x2 x9 σ := by kernel_rfl

theorem ok137_1 {run : RunT} (hrun : RunOK X0 run) (fu : Nat) : ∀ fr σ, KOK X0 69 (subC [true, true, true, true] b137) fr σ ((fun fr σ => c137_1 run fu (G fr 0) (G fr 1) (G fr 2) (G fr 9) σ) fr σ) k137 := fun fr σ =>
  KOK.piece env0 hrun [0, 1, 2, 9] (eq137_1 run fu (G fr 0) (G fr 1) (G fr 2) (G fr 9) σ) ⟨⟨trivial, ⟨trivial, ⟨⟨trivial, ⟨trivial, trivial⟩⟩, (ok137_3 hrun fu)⟩⟩⟩, (ok137_2 hrun fu)⟩

noncomputable def c137_6b (run : RunT) (fu : Nat) (s6 : W5) (x0 x1 x2 x3 x9 : AV) (σ : Store) : Tr R :=
  nchkK x3 fun x21 =>
  ld1K σ x21 fun x22 =>
  cmpK .lss x22 (.int .i64 3) fun x23 =>
  grdK x23 true σ (fun f => calK run 139 [x9, (.int .i64 1), (.int .i64 1), (.bool false)] σ f) fun x25 σ1 =>
  pickK x23 x25 (.bool false) fun x26 =>
  ifK x26 (
  nchkK x3 fun x28 =>
  ld1K σ1 x28 fun x29 =>
  addK x29 (.int .i64 1) fun x30 =>
  nchkK x3 fun x31 =>
  st1K σ1 x31 x30 fun _ σ2 =>
  s6 x0 x1 x2 x3 x9 σ2) (
  c137_1 run fu x0 x1 x2 x9 σ1)

noncomputable def c137_6 (run : RunT) (fu : Nat) : Nat → W5
  | 0 => fun _ _ _ _ _ _ => .fail
  | m + 1 => c137_6b run fu (c137_6 run fu m)

theorem eq137_6 (run : RunT) (fu : Nat) (s6 : W5) (x0 x1 x2 x3 x9 : AV) (σ : Store) : codeK X0 run (.seq (.seq .leaf (.cond .leaf .leaf)) (.block .leaf)) (subC [true, true, true, false, false, false] b137) (frS 0 69 [(0, x0), (1, x1), (2, x2), (3, x3), (9, x9)]) σ (thenK (fun fr σ => s6 (G fr 0) (G fr 1) (G fr 2) (G fr 3) (G fr 9) σ) (blockK 0 (thenK (fun fr σ => c137_1 run fu (G fr 0) (G fr 1) (G fr 2) (G fr 9) σ) k137))) = c137_6b run fu s6 x0 x1 x2 x3 x9 σ := by kernel_rfl

theorem owed137_6 {run : RunT} (hrun : RunOK X0 run) (fu : Nat) (s6 : W5) : Owes X0 run 69 (.seq (.seq .leaf (.cond .leaf .leaf)) (.block .leaf)) (subC [true, true, true, false, false, false] b137) (thenK (fun fr σ => s6 (G fr 0) (G fr 1) (G fr 2) (G fr 3) (G fr 9) σ) (blockK 0 (thenK (fun fr σ => c137_1 run fu (G fr 0) (G fr 1) (G fr 2) (G fr 9) σ) k137))) :=
  ⟨⟨trivial, ⟨trivial, trivial⟩⟩, trivial⟩

theorem ok137_6 {run : RunT} (hrun : RunOK X0 run) (fu : Nat) : ∀ fr σ, KOK X0 69 (subC [true, true, true, false, false] b137) fr σ ((fun fr σ => c137_6 run fu fu (G fr 0) (G fr 1) (G fr 2) (G fr 3) (G fr 9) σ) fr σ) (blockK 0 (thenK (fun fr σ => c137_1 run fu (G fr 0) (G fr 1) (G fr 2) (G fr 9) σ) k137)) := by
  have h := KOK.loop (X := X0) (N := 69) (b := (subC [true, true, true, false, false, false] b137)) (k := (blockK 0 (thenK (fun fr σ => c137_1 run fu (G fr 0) (G fr 1) (G fr 2) (G fr 9) σ) k137))) (u := fun m fr σ => c137_6 run fu m (G fr 0) (G fr 1) (G fr 2) (G fr 3) (G fr 9) σ) (fun _ _ => rfl) (fun m fr σ => KOK.piece env0 hrun [0, 1, 2, 3, 9] (eq137_6 run fu (c137_6 run fu m) (G fr 0) (G fr 1) (G fr 2) (G fr 3) (G fr 9) σ) (owed137_6 hrun fu (c137_6 run fu m)))
  exact fun fr σ => h fu fr σ

noncomputable def c137 (run : RunT) (fu : Nat) (x0 x1 x2 x3 : AV) (σ : Store) : Tr R :=
  nchkK x0 fun x16 =>
  ldNK σ x16 5 fun x17 =>
  newK σ 201 [(.int .i64 0), (.int .i64 0), (.int .i64 0), (.str []), (.int .u8 0)] fun x9 σ1 =>
  stNK σ1 x9 5 x17 fun _ σ2 =>
  nchkK x3 fun x19 =>
  st1K σ2 x19 (.int .i64 0) fun _ σ3 =>
  c137_6 run fu fu x0 x1 x2 x3 x9 σ3

theorem eq137 (run : RunT) (fu : Nat) (x0 x1 x2 x3 : AV) (σ : Store) : codeK X0 run (.seq .leaf (.seq .leaf (.seq .leaf (.seq (.block (.sub (fun fr σ => c137_6 run fu fu (G fr 0) (G fr 1) (G fr 2) (G fr 3) (G fr 9) σ))) (.sub (fun fr σ => c137_1 run fu (G fr 0) (G fr 1) (G fr 2) (G fr 9) σ)))))) (subC [] b137) ([x0, x1, x2, x3] ++ padA (69 - 4)) σ k137 = c137 run fu x0 x1 x2 x3 σ := by kernel_rfl

theorem ok137 {run : RunT} (hrun : RunOK X0 run) (fu : Nat) (x0 x1 x2 x3 : AV) (σ : Store) : CallOK X0 137 [x0, x1, x2, x3] σ (c137 run fu x0 x1 x2 x3 σ) :=
  KOK.body (fn := Tryz.f137) (c := subC [] b137) (by kernel_rfl) (by kernel_rfl) (by show 4 ≤ 69; decide) (KOK.whole env0 hrun (eq137 run fu x0 x1 x2 x3 σ) ⟨trivial, ⟨trivial, ⟨trivial, ⟨(ok137_6 hrun fu), (ok137_1 hrun fu)⟩⟩⟩⟩)

-- (*pub-paratext/pub/rscmarkdown.line).trimSpace

noncomputable def b139 : Code := match Tryz.f139.body with | some c => c | none => .skip

noncomputable def k139 : Kont R := retK Tryz.prog [.tmp 8]

noncomputable def c139_1 (run : RunT) (fu : Nat) (x0 x9 : AV) (σ : Store) : Tr R :=
  ldNK σ x9 5 fun x74 =>
  nchkK x0 fun x75 =>
  stNK σ x75 5 x74 fun _ σ1 =>
  .ret ((.bool true), σ1)

theorem eq139_1 (run : RunT) (fu : Nat) (x0 x9 : AV) (σ : Store) : codeK X0 run (.seq .leaf (.seq .leaf .leaf)) (subC [true, true, true] b139) (frS 0 76 [(0, x0), (9, x9)]) σ k139 = c139_1 run fu x0 x9 σ := by kernel_rfl

theorem ok139_1 {run : RunT} (hrun : RunOK X0 run) (fu : Nat) : ∀ fr σ, KOK X0 76 (subC [true, true, true] b139) fr σ ((fun fr σ => c139_1 run fu (G fr 0) (G fr 9) σ) fr σ) k139 := fun fr σ =>
  KOK.piece env0 hrun [0, 9] (eq139_1 run fu (G fr 0) (G fr 9) σ) ⟨trivial, ⟨trivial, trivial⟩⟩

noncomputable def c139_3 (run : RunT) (fu : Nat) (s2 : W6) (x0 x1 x2 x3 x9 x10 : AV) (σ : Store) : Tr R :=
  addK x10 (.int .i64 1) fun x18 =>
  s2 x0 x1 x2 x3 x9 x18 σ

theorem eq139_3 (run : RunT) (fu : Nat) (s2 : W6) (x0 x1 x2 x3 x9 x10 : AV) (σ : Store) : codeK X0 run .leaf (subC [true, true, false, true, false, false, true, true] b139) (frS 0 76 [(0, x0), (1, x1), (2, x2), (3, x3), (9, x9), (10, x10)]) σ (thenK (fun fr σ => s2 (G fr 0) (G fr 1) (G fr 2) (G fr 3) (G fr 9) (G fr 10) σ) (blockK 0 (thenK (fun fr σ => c139_1 run fu (G fr 0) (G fr 9) σ) k139))) = c139_3 run fu s2 x0 x1 x2 x3 x9 x10 σ := by kernel_rfl

theorem ok139_3 {run : RunT} (hrun : RunOK X0 run) (fu : Nat) (s2 : W6) : ∀ fr σ, KOK X0 76 (subC [true, true, false, true, false, false, true, true] b139) fr σ ((fun fr σ => c139_3 run fu s2 (G fr 0) (G fr 1) (G fr 2) (G fr 3) (G fr 9) (G fr 10) σ) fr σ) (thenK (fun fr σ => s2 (G fr 0) (G fr 1) (G fr 2) (G fr 3) (G fr 9) (G fr 10) σ) (blockK 0 (thenK (fun fr σ => c139_1 run fu (G fr 0) (G fr 9) σ) k139))) := fun fr σ =>
  KOK.piece env0 hrun [0, 1, 2, 3, 9, 10] (eq139_3 run fu s2 (G fr 0) (G fr 1) (G fr 2) (G fr 3) (G fr 9) (G fr 10) σ) trivial

noncomputable def c139_4 (run : RunT) (fu : Nat) (s2 : W6) (x0 x1 x9 x10 : AV) (σ : Store) : Tr R :=
  cmpK .geq x10 x1 fun x72 =>
  ifK x72 (
  c139_1 run fu x0 x9 σ) (
  .ret ((.bool false), σ))

theorem eq139_4 (run : RunT) (fu : Nat) (s2 : W6) (x0 x1 x9 x10 : AV) (σ : Store) : codeK X0 run (.seq (.seq .leaf (.cond .leaf .leaf)) (.seq .leaf .leaf)) (subC [true, true, false, true, false, false, true, false, false, true, true, true] b139) (frS 0 76 [(0, x0), (1, x1), (9, x9), (10, x10)]) σ (blockK 1 (thenK (fun fr σ => c139_3 run fu s2 (G fr 0) (G fr 1) (G fr 2) (G fr 3) (G fr 9) (G fr 10) σ) (thenK (fun fr σ => s2 (G fr 0) (G fr 1) (G fr 2) (G fr 3) (G fr 9) (G fr 10) σ) (blockK 0 (thenK (fun fr σ => c139_1 run fu (G fr 0) (G fr 9) σ) k139))))) = c139_4 run fu s2 x0 x1 x9 x10 σ := by kernel_rfl

theorem ok139_4 {run : RunT} (hrun : RunOK X0 run) (fu : Nat) (s2 : W6) : ∀ fr σ, KOK X0 76 (subC [true, true, false, true, false, false, true, false, false, true, true, true] b139) fr σ ((fun fr σ => c139_4 run fu s2 (G fr 0) (G fr 1) (G fr 9) (G fr 10) σ) fr σ) (blockK 1 (thenK (fun fr σ => c139_3 run fu s2 (G fr 0) (G fr 1) (G fr 2) (G fr 3) (G fr 9) (G fr 10) σ) (thenK (fun fr σ => s2 (G fr 0) (G fr 1) (G fr 2) (G fr 3) (G fr 9) (G fr 10) σ) (blockK 0 (thenK (fun fr σ => c139_1 run fu (G fr 0) (G fr 9) σ) k139))))) := fun fr σ =>
  KOK.piece env0 hrun [0, 1, 9, 10] (eq139_4 run fu s2 (G fr 0) (G fr 1) (G fr 9) (G fr 10) σ) ⟨⟨trivial, ⟨trivial, trivial⟩⟩, ⟨trivial, trivial⟩⟩

noncomputable def c139_2b (run : RunT) (fu : Nat) (s2 : W6) (x0 x1 x2 x3 x9 x10 : AV) (σ : Store) : Tr R :=
  cmpK .lss x10 x2 fun x16 =>
  ifK x16 (
  addrK x9 0 fun x19 =>
  ld1K σ x19 fun x20 =>
  cmpK .gtr x20 (.int .i64 0) fun x21 =>
  ifK x21 (
  addrK x9 0 fun x22 =>
  ld1K σ x22 fun x23 =>
  subK x23 (.int .i64 1) fun x24 =>
  addrK x9 0 fun x25 =>
  st1K σ x25 x24 fun _ σ1 =>
  c139_3 run fu s2 x0 x1 x2 x3 x9 x10 σ1) (
  addrK x9 1 fun x26 =>
  ld1K σ x26 fun x27 =>
  addrK x9 3 fun x28 =>
  ld1K σ x28 fun x29 =>
  lenSK x29 fun x30 =>
  cmpK .geq x27 x30 fun x31 =>
  grdK x31 true σ (fun f => f x3 σ) fun x33 σ2 =>
  pickK x31 x33 (.bool false) fun x34 =>
  ifK x34 (
  c139_3 run fu s2 x0 x1 x2 x3 x9 x10 σ2) (
  addrK x9 1 fun x35 =>
  ld1K σ2 x35 fun x36 =>
  addrK x9 3 fun x37 =>
  ld1K σ2 x37 fun x38 =>
  lenSK x38 fun x39 =>
  cmpK .lss x36 x39 fun x40 =>
  ifK x40 (
  addrK x9 3 fun x41 =>
  ld1K σ2 x41 fun x42 =>
  addrK x9 1 fun x43 =>
  ld1K σ2 x43 fun x44 =>
  idxSK x42 x44 fun x45 =>
  cmpK .eql x45 (.int .u8 9) fun x47 =>
  ifK x47 (
  addrK x9 1 fun x48 =>
  ld1K σ2 x48 fun x49 =>
  addrK x9 2 fun x50 =>
  ld1K σ2 x50 fun x51 =>
  subK x49 x51 fun x52 =>
  bitK Tryz.prog .and x52 (.int .i64 3) fun x53 =>
  subK (.int .i64 4) x53 fun x54 =>
  subK x54 (.int .i64 1) fun x55 =>
  addrK x9 0 fun x56 =>
  st1K σ2 x56 x55 fun _ σ3 =>
  addrK x9 1 fun x57 =>
  ld1K σ3 x57 fun x58 =>
  addK x58 (.int .i64 1) fun x59 =>
  addrK x9 1 fun x60 =>
  st1K σ3 x60 x59 fun _ σ4 =>
  addrK x9 1 fun x61 =>
  ld1K σ4 x61 fun x62 =>
  addrK x9 2 fun x63 =>
  st1K σ4 x63 x62 fun _ σ5 =>
  c139_3 run fu s2 x0 x1 x2 x3 x9 x10 σ5) (
  cmpK .eql x45 (.int .u8 32) fun x65 =>
  ifK x65 (
  addrK x9 1 fun x66 =>
  ld1K σ2 x66 fun x67 =>
  addK x67 (.int .i64 1) fun x68 =>
  addrK x9 1 fun x69 =>
  st1K σ2 x69 x68 fun _ σ6 =>
  c139_3 run fu s2 x0 x1 x2 x3 x9 x10 σ6) (
  c139_4 run fu s2 x0 x1 x9 x10 σ2))) (
  c139_4 run fu s2 x0 x1 x9 x10 σ2)))) (
  c139_1 run fu x0 x9 σ)

noncomputable def c139_2 (run : RunT) (fu : Nat) : Nat → W6
  | 0 => fun _ _ _ _ _ _ _ => .fail
  | m + 1 => c139_2b run fu (c139_2 run fu m)

theorem eq139_2 (run : RunT) (fu : Nat) (s2 : W6) (x0 x1 x2 x3 x9 x10 : AV) (σ : Store) : codeK X0 run (.seq (.seq .leaf (.cond .leaf .leaf)) (.seq (.block (.seq (.seq .leaf (.cond (.seq .leaf .leaf) .leaf)) (.seq (.seq .leaf (.cond .leaf .leaf)) (.seq (.seq .leaf (.cond (.seq .leaf (.block (.seq .leaf (.cond (.seq .leaf (.seq .leaf (.seq .leaf .leaf))) (.seq .leaf (.cond (.seq .leaf .leaf) .leaf)))))) .leaf)) (.sub (fun fr σ => c139_4 run fu s2 (G fr 0) (G fr 1) (G fr 9) (G fr 10) σ)))))) (.sub (fun fr σ => c139_3 run fu s2 (G fr 0) (G fr 1) (G fr 2) (G fr 3) (G fr 9) (G fr 10) σ)))) (subC [true, true, false, true, false, false] b139) (frS 0 76 [(0, x0), (1, x1), (2, x2), (3, x3), (9, x9), (10, x10)]) σ (thenK (fun fr σ => s2 (G fr 0) (G fr 1) (G fr 2) (G fr 3) (G fr 9) (G fr 10) σ) (blockK 0 (thenK (fun fr σ => c139_1 run fu (G fr 0) (G fr 9) σ) k139))) = c139_2b run fu s2 x0 x1 x2 x3 x9 x10 σ := by kernel_rfl

theorem owed139_2 {run : RunT} (hrun : RunOK X0 run) (fu : Nat) (s2 : W6) : Owes X0 run 76 (.seq (.seq .leaf (.cond .leaf .leaf)) (.seq (.block (.seq (.seq .leaf (.cond (.seq .leaf .leaf) .leaf)) (.seq (.seq .leaf (.cond .leaf .leaf)) (.seq (.seq .leaf (.cond (.seq .leaf (.block (.seq .leaf (.cond (.seq .leaf (.seq .leaf (.seq .leaf .leaf))) (.seq .leaf (.cond (.seq .leaf .leaf) .leaf)))))) .leaf)) (.sub (fun fr σ => c139_4 run fu s2 (G fr 0) (G fr 1) (G fr 9) (G fr 10) σ)))))) (.sub (fun fr σ => c139_3 run fu s2 (G fr 0) (G fr 1) (G fr 2) (G fr 3) (G fr 9) (G fr 10) σ)))) (subC [true, true, false, true, false, false] b139) (thenK (fun fr σ => s2 (G fr 0) (G fr 1) (G fr 2) (G fr 3) (G fr 9) (G fr 10) σ) (blockK 0 (thenK (fun fr σ => c139_1 run fu (G fr 0) (G fr 9) σ) k139))) :=
  ⟨⟨trivial, ⟨trivial, trivial⟩⟩, ⟨⟨⟨trivial, ⟨⟨trivial, trivial⟩, trivial⟩⟩, ⟨⟨trivial, ⟨trivial, trivial⟩⟩, ⟨⟨trivial, ⟨⟨trivial, ⟨trivial, ⟨⟨trivial, ⟨trivial, ⟨trivial, trivial⟩⟩⟩, ⟨trivial, ⟨⟨trivial, trivial⟩, trivial⟩⟩⟩⟩⟩, trivial⟩⟩, (ok139_4 hrun fu s2)⟩⟩⟩, (ok139_3 hrun fu s2)⟩⟩

theorem ok139_2 {run : RunT} (hrun : RunOK X0 run) (fu : Nat) : ∀ fr σ, KOK X0 76 (subC [true, true, false, true, false] b139) fr σ ((fun fr σ => c139_2 run fu fu (G fr 0) (G fr 1) (G fr 2) (G fr 3) (G fr 9) (G fr 10) σ) fr σ) (blockK 0 (thenK (fun fr σ => c139_1 run fu (G fr 0) (G fr 9) σ) k139)) := by
  have h := KOK.loop (X := X0) (N := 76) (b := (subC [true, true, false, true, false, false] b139)) (k := (blockK 0 (thenK (fun fr σ => c139_1 run fu (G fr 0) (G fr 9) σ) k139))) (u := fun m fr σ => c139_2 run fu m (G fr 0) (G fr 1) (G fr 2) (G fr 3) (G fr 9) (G fr 10) σ) (fun _ _ => rfl) (fun m fr σ => KOK.piece env0 hrun [0, 1, 2, 3, 9, 10] (eq139_2 run fu (c139_2 run fu m) (G fr 0) (G fr 1) (G fr 2) (G fr 3) (G fr 9) (G fr 10) σ) (owed139_2 hrun fu (c139_2 run fu m)))
  exact fun fr σ => h fu fr σ

noncomputable def c139 (run : RunT) (fu : Nat) (x0 x1 x2 x3 : AV) (σ : Store) : Tr R :=
  nchkK x0 fun x12 =>
  ldNK σ x12 5 fun x13 =>
  newK σ 201 [(.int .i64 0), (.int .i64 0), (.int .i64 0), (.str []), (.int .u8 0)] fun x9 σ1 =>
  stNK σ1 x9 5 x13 fun _ σ2 =>
  c139_2 run fu fu x0 x1 x2 x3 x9 (.int .i64 0) σ2

theorem eq139 (run : RunT) (fu : Nat) (x0 x1 x2 x3 : AV) (σ : Store) : codeK X0 run (.seq .leaf (.seq .leaf (.seq (.seq .leaf (.block (.sub (fun fr σ => c139_2 run fu fu (G fr 0) (G fr 1) (G fr 2) (G fr 3) (G fr 9) (G fr 10) σ)))) (.sub (fun fr σ => c139_1 run fu (G fr 0) (G fr 9) σ))))) (subC [] b139) ([x0, x1, x2, x3] ++ padA (76 - 4)) σ k139 = c139 run fu x0 x1 x2 x3 σ := by kernel_rfl

theorem ok139 {run : RunT} (hrun : RunOK X0 run) (fu : Nat) (x0 x1 x2 x3 : AV) (σ : Store) : CallOK X0 139 [x0, x1, x2, x3] σ (c139 run fu x0 x1 x2 x3 σ) :=
  KOK.body (fn := Tryz.f139) (c := subC [] b139) (by kernel_rfl) (by kernel_rfl) (by show 4 ≤ 76; decide) (KOK.whole env0 hrun (eq139 run fu x0 x1 x2 x3 σ) ⟨trivial, ⟨trivial, ⟨⟨trivial, (ok139_2 hrun fu)⟩, (ok139_1 hrun fu)⟩⟩⟩)

-- pub-paratext/pub/rscmarkdown.isUser

noncomputable def b146 : Code := match Tryz.f146.body with | some c => c | none => .skip

noncomputable def k146 : Kont R := retK Tryz.prog [.tmp 2]

noncomputable def c146_1 (run : RunT) (fu : Nat) (σ : Store) : Tr R :=
  .ret ((.bool false), σ)

theorem eq146_1 (run : RunT) (fu : Nat) (σ : Store) : codeK X0 run (.seq .leaf .leaf) (subC [true, true, true, true] b146) (frS 0 18 []) σ k146 = c146_1 run fu σ := by kernel_rfl

theorem ok146_1 {run : RunT} (hrun : RunOK X0 run) (fu : Nat) : ∀ fr σ, KOK X0 18 (subC [true, true, true, true] b146) fr σ ((fun fr σ => c146_1 run fu σ) fr σ) k146 := fun fr σ =>
  KOK.piece env0 hrun [] (eq146_1 run fu σ) ⟨trivial, trivial⟩

noncomputable def c146_2b (run : RunT) (fu : Nat) (s2 : W3) (x0 x3 x4 : AV) (σ : Store) : Tr R :=
  lenSK x3 fun x9 =>
  cmpK .lss x4 x9 fun x10 =>
  ifK x10 (
  idxSK x3 x4 fun x16 =>
  cmpK .eql x0 x16 fun x17 =>
  ifK x17 (
  .ret ((.bool true), σ)) (
  addK x4 (.int .i64 1) fun x12 =>
  s2 x0 x3 x12 σ)) (
  c146_1 run fu σ)

noncomputable def c146_2 (run : RunT) (fu : Nat) : Nat → W3
  | 0 => fun _ _ _ _ => .fail
  | m + 1 => c146_2b run fu (c146_2 run fu m)

theorem eq146_2 (run : RunT) (fu : Nat) (s2 : W3) (x0 x3 x4 : AV) (σ : Store) : codeK X0 run (.seq (.seq .leaf (.cond .leaf .leaf)) (.seq (.block (.seq .leaf (.cond (.seq .leaf .leaf) .leaf))) .leaf)) (subC [true, true, true, false, true, false, false] b146) (frS 0 18 [(0, x0), (3, x3), (4, x4)]) σ (thenK (fun fr σ => s2 (G fr 0) (G fr 3) (G fr 4) σ) (blockK 0 (thenK (fun fr σ => c146_1 run fu σ) k146))) = c146_2b run fu s2 x0 x3 x4 σ := by kernel_rfl

theorem owed146_2 {run : RunT} (hrun : RunOK X0 run) (fu : Nat) (s2 : W3) : Owes X0 run 18 (.seq (.seq .leaf (.cond .leaf .leaf)) (.seq (.block (.seq .leaf (.cond (.seq .leaf .leaf) .leaf))) .leaf)) (subC [true, true, true, false, true, false, false] b146) (thenK (fun fr σ => s2 (G fr 0) (G fr 3) (G fr 4) σ) (blockK 0 (thenK (fun fr σ => c146_1 run fu σ) k146))) :=
  ⟨⟨trivial, ⟨trivial, trivial⟩⟩, ⟨⟨trivial, ⟨⟨trivial, trivial⟩, trivial⟩⟩, trivial⟩⟩

theorem ok146_2 {run : RunT} (hrun : RunOK X0 run) (fu : Nat) : ∀ fr σ, KOK X0 18 (subC [true, true, true, false, true, false] b146) fr σ ((fun fr σ => c146_2 run fu fu (G fr 0) (G fr 3) (G fr 4) σ) fr σ) (blockK 0 (thenK (fun fr σ => c146_1 run fu σ) k146)) := by
  have h := KOK.loop (X := X0) (N := 18) (b := (subC [true, true, true, false, true, false, false] b146)) (k := (blockK 0 (thenK (fun fr σ => c146_1 run fu σ) k146))) (u := fun m fr σ => c146_2 run fu m (G fr 0) (G fr 3) (G fr 4) σ) (fun _ _ => rfl) (fun m fr σ => KOK.piece env0 hrun [0, 3, 4] (eq146_2 run fu (c146_2 run fu m) (G fr 0) (G fr 3) (G fr 4) σ) (owed146_2 hrun fu (c146_2 run fu m)))
  exact fun fr σ => h fu fr σ

noncomputable def c146 (run : RunT) (fu : Nat) (x0 : AV) (σ : Store) : Tr R :=
  calK run 126 [x0] σ fun x6 σ1 =>
  ifK x6 (
  .ret ((.bool true), σ1)) (
  c146_2 run fu fu x0 (.str [46, 33, 35, 36, 37, 38, 39, 42, 43, 47, 61, 63, 94, 95, 96, 123, 124, 125, 126, 45]) (.int .i64 0) σ1)

theorem eq146 (run : RunT) (fu : Nat) (x0 : AV) (σ : Store) : codeK X0 run (.seq .leaf (.seq (.seq .leaf (.cond (.seq .leaf .leaf) .leaf)) (.seq .leaf (.seq (.seq .leaf (.block (.sub (fun fr σ => c146_2 run fu fu (G fr 0) (G fr 3) (G fr 4) σ)))) (.sub (fun fr σ => c146_1 run fu σ)))))) (subC [] b146) ([x0] ++ padA (18 - 1)) σ k146 = c146 run fu x0 σ := by kernel_rfl

theorem ok146 {run : RunT} (hrun : RunOK X0 run) (fu : Nat) (x0 : AV) (σ : Store) : CallOK X0 146 [x0] σ (c146 run fu x0 σ) :=
  KOK.body (fn := Tryz.f146) (c := subC [] b146) (by kernel_rfl) (by kernel_rfl) (by show 1 ≤ 18; decide) (KOK.whole env0 hrun (eq146 run fu x0 σ) ⟨trivial, ⟨⟨trivial, ⟨⟨trivial, trivial⟩, trivial⟩⟩, ⟨trivial, ⟨⟨trivial, (ok146_2 hrun fu)⟩, (ok146_1 hrun fu)⟩⟩⟩⟩)

-- pub-paratext/pub/rscmarkdown.parseHTMLClosingTag

noncomputable def b149 : Code := match Tryz.f149.body with | some c => c | none => .skip

noncomputable def k149 : Kont R := retK Tryz.prog [.tmp 6, .tmp 7, .tmp 8]

noncomputable def c149_2 (run : RunT) (fu : Nat) (σ : Store) : Tr R :=
  .ret (.tup [.nili, (.int .i64 0), (.bool false)], σ)

theorem eq149_2 (run : RunT) (fu : Nat) (σ : Store) : codeK X0 run (.seq .leaf .leaf) (subC [true, true, true, true] b149) (frS 0 72 []) σ k149 = c149_2 run fu σ := by kernel_rfl

theorem ok149_2 {run : RunT} (hrun : RunOK X0 run) (fu : Nat) : ∀ fr σ, KOK X0 72 (subC [true, true, true, true] b149) fr σ ((fun fr σ => c149_2 run fu σ) fr σ) k149 := fun fr σ =>
  KOK.piece env0 hrun [] (eq149_2 run fu σ) ⟨trivial, trivial⟩

noncomputable def c149_1 (run : RunT) (fu : Nat) (x1 x2 : AV) (σ : Store) : Tr R :=
  addK x2 (.int .i64 2) fun x43 =>
  calK run 181 [x1, x43] σ fun x44 σ1 =>
  extK x44 0 fun x45 =>
  extK x44 1 fun x46 =>
  extK x44 2 fun x47 =>
  ifK x47 (
  calK run 110 [x1, x46] σ1 fun x51 σ2 =>
  lenSK x1 fun x54 =>
  cmpK .lss x51 x54 fun x55 =>
  grdK x55 true σ2 (fun f => f x1 σ2) fun x57 σ3 =>
  grdK x55 true σ3 (fun f => f x51 σ3) fun x58 σ4 =>
  grdK x55 true σ4 (fun f => idxSK x57 x58 fun v => f v σ4) fun x59 σ5 =>
  grdK x55 true σ5 (fun f => cmpK .eql x59 (.int .u8 62) fun v => f v σ5) fun x60 σ6 =>
  pickK x55 x60 (.bool false) fun x61 =>
  ifK x61 (
  addK x51 (.int .i64 1) fun x65 =>
  sliceSK x1 (some x2) (some x65) fun x66 =>
  bldK [(.str [])] [(0, 1, x66)] fun x67 =>
  boxK σ6 565 x67 fun x68 σ7 =>
  addK x51 (.int .i64 1) fun x71 =>
  .ret (.tup [(.iface 281 x68), x71, (.bool true)], σ7)) (
  c149_2 run fu σ6)) (
  c149_2 run fu σ1)

theorem eq149_1 (run : RunT) (fu : Nat) (x1 x2 : AV) (σ : Store) : codeK X0 run (.seq (.seq .leaf (.seq .leaf (.cond (.seq .leaf (.seq .leaf (.cond (.seq .leaf .leaf) .leaf))) .leaf))) (.sub (fun fr σ => c149_2 run fu σ))) (subC [true, true, true] b149) (frS 0 72 [(1, x1), (2, x2)]) σ k149 = c149_1 run fu x1 x2 σ := by kernel_rfl

theorem ok149_1 {run : RunT} (hrun : RunOK X0 run) (fu : Nat) : ∀ fr σ, KOK X0 72 (subC [true, true, true] b149) fr σ ((fun fr σ => c149_1 run fu (G fr 1) (G fr 2) σ) fr σ) k149 := fun fr σ =>
  KOK.piece env0 hrun [1, 2] (eq149_1 run fu (G fr 1) (G fr 2) σ) ⟨⟨trivial, ⟨trivial, ⟨⟨trivial, ⟨trivial, ⟨⟨trivial, trivial⟩, trivial⟩⟩⟩, trivial⟩⟩⟩, (ok149_2 hrun fu)⟩

noncomputable def c149 (run : RunT) (fu : Nat) (x0 x1 x2 : AV) (σ : Store) : Tr R :=
  addK x2 (.int .i64 2) fun x13 =>
  lenSK x1 fun x15 =>
  cmpK .geq x13 x15 fun x16 =>
  grdK x16 false σ (fun f => f x1 σ) fun x18 σ1 =>
  grdK x16 false σ1 (fun f => f x2 σ1) fun x19 σ2 =>
  grdK x16 false σ2 (fun f => idxSK x18 x19 fun v => f v σ2) fun x20 σ3 =>
  grdK x16 false σ3 (fun f => cmpK .neq x20 (.int .u8 60) fun v => f v σ3) fun x21 σ4 =>
  pickK x16 (.bool true) x21 fun x22 =>
  grdK x22 false σ4 (fun f => f x1 σ4) fun x24 σ5 =>
  grdK x22 false σ5 (fun f => f x2 σ5) fun x25 σ6 =>
  grdK x22 false σ6 (fun f => addK x25 (.int .i64 1) fun v => f v σ6) fun x26 σ7 =>
  grdK x22 false σ7 (fun f => idxSK x24 x26 fun v => f v σ7) fun x27 σ8 =>
  grdK x22 false σ8 (fun f => cmpK .neq x27 (.int .u8 47) fun v => f v σ8) fun x28 σ9 =>
  pickK x22 (.bool true) x28 fun x29 =>
  ifK x29 (
  .ret (.tup [.nili, (.int .i64 0), (.bool false)], σ9)) (
  addK x2 (.int .i64 2) fun x32 =>
  calK run 110 [x1, x32] σ9 fun x33 σ10 =>
  addK x2 (.int .i64 2) fun x35 =>
  cmpK .neq x33 x35 fun x36 =>
  ifK x36 (
  nchkK x0 fun x38 =>
  addrK x38 6 fun x39 =>
  st1K σ10 x39 (.bool true) fun _ σ11 =>
  c149_1 run fu x1 x2 σ11) (
  c149_1 run fu x1 x2 σ10))

theorem eq149 (run : RunT) (fu : Nat) (x0 x1 x2 : AV) (σ : Store) : codeK X0 run (.seq .leaf (.seq (.seq .leaf (.cond (.seq .leaf .leaf) .leaf)) (.seq (.seq .leaf (.cond .leaf .leaf)) (.sub (fun fr σ => c149_1 run fu (G fr 1) (G fr 2) σ))))) (subC [] b149) ([x0, x1, x2] ++ padA (72 - 3)) σ k149 = c149 run fu x0 x1 x2 σ := by kernel_rfl

theorem ok149 {run : RunT} (hrun : RunOK X0 run) (fu : Nat) (x0 x1 x2 : AV) (σ : Store) : CallOK X0 149 [x0, x1, x2] σ (c149 run fu x0 x1 x2 σ) :=
  KOK.body (fn := Tryz.f149) (c := subC [] b149) (by kernel_rfl) (by kernel_rfl) (by show 3 ≤ 72; decide) (KOK.whole env0 hrun (eq149 run fu x0 x1 x2 σ) ⟨trivial, ⟨⟨trivial, ⟨⟨trivial, trivial⟩, trivial⟩⟩, ⟨⟨trivial, ⟨trivial, trivial⟩⟩, (ok149_1 hrun fu)⟩⟩⟩)

-- strings.Join

noncomputable def b164 : Code := match Tryz.f164.body with | some c => c | none => .skip

noncomputable def k164 : Kont R := retK Tryz.prog [.tmp 4]

noncomputable def c164_3 (run : RunT) (fu : Nat) (x8 : AV) (σ : Store) : Tr R :=
  calK run 20 [x8] σ fun x74 σ1 =>
  .ret (x74, σ1)

theorem eq164_3 (run : RunT) (fu : Nat) (x8 : AV) (σ : Store) : codeK X0 run (.seq .leaf .leaf) (subC [true, true, true, true, true, true, true, true, true] b164) (frS 0 75 [(8, x8)]) σ k164 = c164_3 run fu x8 σ := by kernel_rfl

theorem ok164_3 {run : RunT} (hrun : RunOK X0 run) (fu : Nat) : ∀ fr σ, KOK X0 75 (subC [true, true, true, true, true, true, true, true, true] b164) fr σ ((fun fr σ => c164_3 run fu (G fr 8) σ) fr σ) k164 := fun fr σ =>
  KOK.piece env0 hrun [8] (eq164_3 run fu (G fr 8) σ) ⟨trivial, trivial⟩

noncomputable def c164_4b (run : RunT) (fu : Nat) (s4 : W5) (x1 x8 x63 x64 x65 : AV) (σ : Store) : Tr R :=
  cmpK .lss x65 x64 fun x66 =>
  ifK x66 (
  idxK 1 x63 x65 fun x67 =>
  ld1K σ x67 fun x68 =>
  calK run 29 [x8, x1] σ fun x70 σ1 =>
  calK run 29 [x8, x68] σ1 fun x72 σ2 =>
  addK x65 (.int .i64 1) fun x73 =>
  s4 x1 x8 x63 x64 x73 σ2) (
  c164_3 run fu x8 σ)

noncomputable def c164_4 (run : RunT) (fu : Nat) : Nat → W5
  | 0 => fun _ _ _ _ _ _ => .fail
  | m + 1 => c164_4b run fu (c164_4 run fu m)

theorem eq164_4 (run : RunT) (fu : Nat) (s4 : W5) (x1 x8 x63 x64 x65 : AV) (σ : Store) : codeK X0 run (.seq .leaf (.seq (.cond .leaf .leaf) (.seq (.block (.seq .leaf (.seq .leaf .leaf))) .leaf))) (subC [true, true, true, true, true, true, true, true, false, true, false, false] b164) (frS 0 75 [(1, x1), (8, x8), (63, x63), (64, x64), (65, x65)]) σ (thenK (fun fr σ => s4 (G fr 1) (G fr 8) (G fr 63) (G fr 64) (G fr 65) σ) (blockK 3 (thenK (fun fr σ => c164_3 run fu (G fr 8) σ) k164))) = c164_4b run fu s4 x1 x8 x63 x64 x65 σ := by kernel_rfl

theorem owed164_4 {run : RunT} (hrun : RunOK X0 run) (fu : Nat) (s4 : W5) : Owes X0 run 75 (.seq .leaf (.seq (.cond .leaf .leaf) (.seq (.block (.seq .leaf (.seq .leaf .leaf))) .leaf))) (subC [true, true, true, true, true, true, true, true, false, true, false, false] b164) (thenK (fun fr σ => s4 (G fr 1) (G fr 8) (G fr 63) (G fr 64) (G fr 65) σ) (blockK 3 (thenK (fun fr σ => c164_3 run fu (G fr 8) σ) k164))) :=
  ⟨trivial, ⟨⟨trivial, trivial⟩, ⟨⟨trivial, ⟨trivial, trivial⟩⟩, trivial⟩⟩⟩

theorem ok164_4 {run : RunT} (hrun : RunOK X0 run) (fu : Nat) : ∀ fr σ, KOK X0 75 (subC [true, true, true, true, true, true, true, true, false, true, false] b164) fr σ ((fun fr σ => c164_4 run fu fu (G fr 1) (G fr 8) (G fr 63) (G fr 64) (G fr 65) σ) fr σ) (blockK 3 (thenK (fun fr σ => c164_3 run fu (G fr 8) σ) k164)) := by
  have h := KOK.loop (X := X0) (N := 75) (b := (subC [true, true, true, true, true, true, true, true, false, true, false, false] b164)) (k := (blockK 3 (thenK (fun fr σ => c164_3 run fu (G fr 8) σ) k164))) (u := fun m fr σ => c164_4 run fu m (G fr 1) (G fr 8) (G fr 63) (G fr 64) (G fr 65) σ) (fun _ _ => rfl) (fun m fr σ => KOK.piece env0 hrun [1, 8, 63, 64, 65] (eq164_4 run fu (c164_4 run fu m) (G fr 1) (G fr 8) (G fr 63) (G fr 64) (G fr 65) σ) (owed164_4 hrun fu (c164_4 run fu m)))
  exact fun fr σ => h fu fr σ

noncomputable def c164_2 (run : RunT) (fu : Nat) (x0 x1 x5 : AV) (σ : Store) : Tr R :=
  newK σ 73 [.nilp, .nils] fun x8 σ1 =>
  calK run 32 [x8, x5] σ1 fun x57 σ2 =>
  idxK 1 x0 (.int .i64 0) fun x59 =>
  ld1K σ2 x59 fun x60 =>
  calK run 29 [x8, x60] σ2 fun x61 σ3 =>
  sliceLK Tryz.prog σ3 158 x0 (some (.int .i64 1)) none fun x63 =>
  lenLK x63 fun x64 =>
  c164_4 run fu fu x1 x8 x63 x64 (.int .i64 0) σ3

theorem eq164_2 (run : RunT) (fu : Nat) (x0 x1 x5 : AV) (σ : Store) : codeK X0 run (.seq .leaf (.seq .leaf (.seq .leaf (.seq (.seq .leaf (.block (.sub (fun fr σ => c164_4 run fu fu (G fr 1) (G fr 8) (G fr 63) (G fr 64) (G fr 65) σ)))) (.sub (fun fr σ => c164_3 run fu (G fr 8) σ)))))) (subC [true, true, true, true, true] b164) (frS 0 75 [(0, x0), (1, x1), (5, x5)]) σ k164 = c164_2 run fu x0 x1 x5 σ := by kernel_rfl

theorem ok164_2 {run : RunT} (hrun : RunOK X0 run) (fu : Nat) : ∀ fr σ, KOK X0 75 (subC [true, true, true, true, true] b164) fr σ ((fun fr σ => c164_2 run fu (G fr 0) (G fr 1) (G fr 5) σ) fr σ) k164 := fun fr σ =>
  KOK.piece env0 hrun [0, 1, 5] (eq164_2 run fu (G fr 0) (G fr 1) (G fr 5) σ) ⟨trivial, ⟨trivial, ⟨trivial, ⟨⟨trivial, (ok164_4 hrun fu)⟩, (ok164_3 hrun fu)⟩⟩⟩⟩

noncomputable def c164_6 (run : RunT) (fu : Nat) (s5 : W6) (x0 x1 x5 x39 x40 x41 : AV) (σ : Store) : Tr R :=
  addK x41 (.int .i64 1) fun x55 =>
  s5 x0 x1 x5 x39 x40 x55 σ

theorem eq164_6 (run : RunT) (fu : Nat) (s5 : W6) (x0 x1 x5 x39 x40 x41 : AV) (σ : Store) : codeK X0 run .leaf (subC [true, true, true, true, false, true, false, false, true, true, true] b164) (frS 0 75 [(0, x0), (1, x1), (5, x5), (39, x39), (40, x40), (41, x41)]) σ (thenK (fun fr σ => s5 (G fr 0) (G fr 1) (G fr 5) (G fr 39) (G fr 40) (G fr 41) σ) (blockK 1 (thenK (fun fr σ => c164_2 run fu (G fr 0) (G fr 1) (G fr 5) σ) k164))) = c164_6 run fu s5 x0 x1 x5 x39 x40 x41 σ := by kernel_rfl

theorem ok164_6 {run : RunT} (hrun : RunOK X0 run) (fu : Nat) (s5 : W6) : ∀ fr σ, KOK X0 75 (subC [true, true, true, true, false, true, false, false, true, true, true] b164) fr σ ((fun fr σ => c164_6 run fu s5 (G fr 0) (G fr 1) (G fr 5) (G fr 39) (G fr 40) (G fr 41) σ) fr σ) (thenK (fun fr σ => s5 (G fr 0) (G fr 1) (G fr 5) (G fr 39) (G fr 40) (G fr 41) σ) (blockK 1 (thenK (fun fr σ => c164_2 run fu (G fr 0) (G fr 1) (G fr 5) σ) k164))) := fun fr σ =>
  KOK.piece env0 hrun [0, 1, 5, 39, 40, 41] (eq164_6 run fu s5 (G fr 0) (G fr 1) (G fr 5) (G fr 39) (G fr 40) (G fr 41) σ) trivial

noncomputable def c164_7 (run : RunT) (fu : Nat) (s5 : W6) (x0 x1 x5 x7 x39 x40 x41 : AV) (σ : Store) : Tr R :=
  lenSK x7 fun x53 =>
  addK x5 x53 fun x54 =>
  c164_6 run fu s5 x0 x1 x54 x39 x40 x41 σ

theorem eq164_7 (run : RunT) (fu : Nat) (s5 : W6) (x0 x1 x5 x7 x39 x40 x41 : AV) (σ : Store) : codeK X0 run .leaf (subC [true, true, true, true, false, true, false, false, true, true, false, false, true, true] b164) (frS 0 75 [(0, x0), (1, x1), (5, x5), (7, x7), (39, x39), (40, x40), (41, x41)]) σ (blockK 2 (thenK (fun fr σ => c164_6 run fu s5 (G fr 0) (G fr 1) (G fr 5) (G fr 39) (G fr 40) (G fr 41) σ) (thenK (fun fr σ => s5 (G fr 0) (G fr 1) (G fr 5) (G fr 39) (G fr 40) (G fr 41) σ) (blockK 1 (thenK (fun fr σ => c164_2 run fu (G fr 0) (G fr 1) (G fr 5) σ) k164))))) = c164_7 run fu s5 x0 x1 x5 x7 x39 x40 x41 σ := by kernel_rfl

theorem ok164_7 {run : RunT} (hrun : RunOK X0 run) (fu : Nat) (s5 : W6) : ∀ fr σ, KOK X0 75 (subC [true, true, true, true, false, true, false, false, true, true, false, false, true, true] b164) fr σ ((fun fr σ => c164_7 run fu s5 (G fr 0) (G fr 1) (G fr 5) (G fr 7) (G fr 39) (G fr 40) (G fr 41) σ) fr σ) (blockK 2 (thenK (fun fr σ => c164_6 run fu s5 (G fr 0) (G fr 1) (G fr 5) (G fr 39) (G fr 40) (G fr 41) σ) (thenK (fun fr σ => s5 (G fr 0) (G fr 1) (G fr 5) (G fr 39) (G fr 40) (G fr 41) σ) (blockK 1 (thenK (fun fr σ => c164_2 run fu (G fr 0) (G fr 1) (G fr 5) σ) k164))))) := fun fr σ =>
  KOK.piece env0 hrun [0, 1, 5, 7, 39, 40, 41] (eq164_7 run fu s5 (G fr 0) (G fr 1) (G fr 5) (G fr 7) (G fr 39) (G fr 40) (G fr 41) σ) trivial

noncomputable def c164_5b (run : RunT) (fu : Nat) (s5 : W6) (x0 x1 x5 x39 x40 x41 : AV) (σ : Store) : Tr R :=
  cmpK .lss x41 x40 fun x42 =>
  ifK x42 (
  idxK 1 x39 x41 fun x43 =>
  ld1K σ x43 fun x44 =>
  lenSK x44 fun x46 =>
  subK (.int .i64 9223372036854775807) x5 fun x48 =>
  cmpK .gtr x46 x48 fun x49 =>
  ifK x49 (
  .fail) (
  c164_7 run fu s5 x0 x1 x5 x44 x39 x40 x41 σ)) (
  c164_2 run fu x0 x1 x5 σ)

noncomputable def c164_5 (run : RunT) (fu : Nat) : Nat → W6
  | 0 => fun _ _ _ _ _ _ _ => .fail
  | m + 1 => c164_5b run fu (c164_5 run fu m)

theorem eq164_5 (run : RunT) (fu : Nat) (s5 : W6) (x0 x1 x5 x39 x40 x41 : AV) (σ : Store) : codeK X0 run (.seq .leaf (.seq (.cond .leaf .leaf) (.seq (.block (.seq .leaf (.seq (.seq .leaf (.cond .leaf .leaf)) (.sub (fun fr σ => c164_7 run fu s5 (G fr 0) (G fr 1) (G fr 5) (G fr 7) (G fr 39) (G fr 40) (G fr 41) σ))))) (.sub (fun fr σ => c164_6 run fu s5 (G fr 0) (G fr 1) (G fr 5) (G fr 39) (G fr 40) (G fr 41) σ))))) (subC [true, true, true, true, false, true, false, false] b164) (frS 0 75 [(0, x0), (1, x1), (5, x5), (39, x39), (40, x40), (41, x41)]) σ (thenK (fun fr σ => s5 (G fr 0) (G fr 1) (G fr 5) (G fr 39) (G fr 40) (G fr 41) σ) (blockK 1 (thenK (fun fr σ => c164_2 run fu (G fr 0) (G fr 1) (G fr 5) σ) k164))) = c164_5b run fu s5 x0 x1 x5 x39 x40 x41 σ := by kernel_rfl

theorem owed164_5 {run : RunT} (hrun : RunOK X0 run) (fu : Nat) (s5 : W6) : Owes X0 run 75 (.seq .leaf (.seq (.cond .leaf .leaf) (.seq (.block (.seq .leaf (.seq (.seq .leaf (.cond .leaf .leaf)) (.sub (fun fr σ => c164_7 run fu s5 (G fr 0) (G fr 1) (G fr 5) (G fr 7) (G fr 39) (G fr 40) (G fr 41) σ))))) (.sub (fun fr σ => c164_6 run fu s5 (G fr 0) (G fr 1) (G fr 5) (G fr 39) (G fr 40) (G fr 41) σ))))) (subC [true, true, true, true, false, true, false, false] b164) (thenK (fun fr σ => s5 (G fr 0) (G fr 1) (G fr 5) (G fr 39) (G fr 40) (G fr 41) σ) (blockK 1 (thenK (fun fr σ => c164_2 run fu (G fr 0) (G fr 1) (G fr 5) σ) k164))) :=
  ⟨trivial, ⟨⟨trivial, trivial⟩, ⟨⟨trivial, ⟨⟨trivial, ⟨trivial, trivial⟩⟩, (ok164_7 hrun fu s5)⟩⟩, (ok164_6 hrun fu s5)⟩⟩⟩

theorem ok164_5 {run : RunT} (hrun : RunOK X0 run) (fu : Nat) : ∀ fr σ, KOK X0 75 (subC [true, true, true, true, false, true, false] b164) fr σ ((fun fr σ => c164_5 run fu fu (G fr 0) (G fr 1) (G fr 5) (G fr 39) (G fr 40) (G fr 41) σ) fr σ) (blockK 1 (thenK (fun fr σ => c164_2 run fu (G fr 0) (G fr 1) (G fr 5) σ) k164)) := by
  have h := KOK.loop (X := X0) (N := 75) (b := (subC [true, true, true, true, false, true, false, false] b164)) (k := (blockK 1 (thenK (fun fr σ => c164_2 run fu (G fr 0) (G fr 1) (G fr 5) σ) k164))) (u := fun m fr σ => c164_5 run fu m (G fr 0) (G fr 1) (G fr 5) (G fr 39) (G fr 40) (G fr 41) σ) (fun _ _ => rfl) (fun m fr σ => KOK.piece env0 hrun [0, 1, 5, 39, 40, 41] (eq164_5 run fu (c164_5 run fu m) (G fr 0) (G fr 1) (G fr 5) (G fr 39) (G fr 40) (G fr 41) σ) (owed164_5 hrun fu (c164_5 run fu m)))
  exact fun fr σ => h fu fr σ

noncomputable def c164_1 (run : RunT) (fu : Nat) (x0 x1 x5 : AV) (σ : Store) : Tr R :=
  lenLK x0 fun x40 =>
  c164_5 run fu fu x0 x1 x5 x0 x40 (.int .i64 0) σ

theorem eq164_1 (run : RunT) (fu : Nat) (x0 x1 x5 : AV) (σ : Store) : codeK X0 run (.seq (.seq .leaf (.block (.sub (fun fr σ => c164_5 run fu fu (G fr 0) (G fr 1) (G fr 5) (G fr 39) (G fr 40) (G fr 41) σ)))) (.sub (fun fr σ => c164_2 run fu (G fr 0) (G fr 1) (G fr 5) σ))) (subC [true, true, true, true] b164) (frS 0 75 [(0, x0), (1, x1), (5, x5)]) σ k164 = c164_1 run fu x0 x1 x5 σ := by kernel_rfl

theorem ok164_1 {run : RunT} (hrun : RunOK X0 run) (fu : Nat) : ∀ fr σ, KOK X0 75 (subC [true, true, true, true] b164) fr σ ((fun fr σ => c164_1 run fu (G fr 0) (G fr 1) (G fr 5) σ) fr σ) k164 := fun fr σ =>
  KOK.piece env0 hrun [0, 1, 5] (eq164_1 run fu (G fr 0) (G fr 1) (G fr 5) σ) ⟨⟨trivial, (ok164_5 hrun fu)⟩, (ok164_2 hrun fu)⟩

noncomputable def c164_8 (run : RunT) (fu : Nat) (x0 x1 x5 : AV) (σ : Store) : Tr R :=
  lenSK x1 fun x33 =>
  lenLK x0 fun x35 =>
  subK x35 (.int .i64 1) fun x36 =>
  mulK x33 x36 fun x37 =>
  addK x5 x37 fun x38 =>
  c164_1 run fu x0 x1 x38 σ

theorem eq164_8 (run : RunT) (fu : Nat) (x0 x1 x5 : AV) (σ : Store) : codeK X0 run .leaf (subC [true, true, true, false, true, false, true] b164) (frS 0 75 [(0, x0), (1, x1), (5, x5)]) σ (thenK (fun fr σ => c164_1 run fu (G fr 0) (G fr 1) (G fr 5) σ) k164) = c164_8 run fu x0 x1 x5 σ := by kernel_rfl

theorem ok164_8 {run : RunT} (hrun : RunOK X0 run) (fu : Nat) : ∀ fr σ, KOK X0 75 (subC [true, true, true, false, true, false, true] b164) fr σ ((fun fr σ => c164_8 run fu (G fr 0) (G fr 1) (G fr 5) σ) fr σ) (thenK (fun fr σ => c164_1 run fu (G fr 0) (G fr 1) (G fr 5) σ) k164) := fun fr σ =>
  KOK.piece env0 hrun [0, 1, 5] (eq164_8 run fu (G fr 0) (G fr 1) (G fr 5) σ) trivial

noncomputable def c164 (run : RunT) (fu : Nat) (x0 x1 : AV) (σ : Store) : Tr R :=
  lenLK x0 fun x12 =>
  cmpK .eql x12 (.int .i64 0) fun x14 =>
  ifK x14 (
  .ret ((.str []), σ)) (
  cmpK .eql x12 (.int .i64 1) fun x16 =>
  ifK x16 (
  idxK 1 x0 (.int .i64 0) fun x18 =>
  ld1K σ x18 fun x19 =>
  .ret (x19, σ)) (
  lenSK x1 fun x21 =>
  cmpK .gtr x21 (.int .i64 0) fun x22 =>
  ifK x22 (
  lenSK x1 fun x24 =>
  lenLK x0 fun x26 =>
  subK x26 (.int .i64 1) fun x27 =>
  quoK (.int .i64 9223372036854775807) x27 fun x28 =>
  cmpK .geq x24 x28 fun x29 =>
  ifK x29 (
  .fail) (
  c164_8 run fu x0 x1 (.int .i64 0) σ)) (
  c164_1 run fu x0 x1 (.int .i64 0) σ)))

theorem eq164 (run : RunT) (fu : Nat) (x0 x1 : AV) (σ : Store) : codeK X0 run (.seq .leaf (.seq (.seq .leaf (.block (.seq .leaf (.cond (.seq .leaf .leaf) (.seq .leaf (.cond (.seq .leaf .leaf) .leaf)))))) (.seq .leaf (.seq (.seq .leaf (.cond (.seq (.seq .leaf (.cond .leaf .leaf)) (.sub (fun fr σ => c164_8 run fu (G fr 0) (G fr 1) (G fr 5) σ))) .leaf)) (.sub (fun fr σ => c164_1 run fu (G fr 0) (G fr 1) (G fr 5) σ)))))) (subC [] b164) ([x0, x1] ++ padA (75 - 2)) σ k164 = c164 run fu x0 x1 σ := by kernel_rfl

theorem ok164 {run : RunT} (hrun : RunOK X0 run) (fu : Nat) (x0 x1 : AV) (σ : Store) : CallOK X0 164 [x0, x1] σ (c164 run fu x0 x1 σ) :=
  KOK.body (fn := Tryz.f164) (c := subC [] b164) (by kernel_rfl) (by kernel_rfl) (by show 2 ≤ 75; decide) (KOK.whole env0 hrun (eq164 run fu x0 x1 σ) ⟨trivial, ⟨⟨trivial, ⟨trivial, ⟨⟨trivial, trivial⟩, ⟨trivial, ⟨⟨trivial, trivial⟩, trivial⟩⟩⟩⟩⟩, ⟨trivial, ⟨⟨trivial, ⟨⟨⟨trivial, ⟨trivial, trivial⟩⟩, (ok164_8 hrun fu)⟩, trivial⟩⟩, (ok164_1 hrun fu)⟩⟩⟩⟩)

-- (*pub-paratext/pub/rscmarkdown.line).trim

noncomputable def b168 : Code := match Tryz.f168.body with | some c => c | none => .skip

noncomputable def k168 : Kont R := retK Tryz.prog [.tmp 4]

noncomputable def c168 (run : RunT) (fu : Nat) (x0 x1 : AV) (σ : Store) : Tr R :=
  nchkK x0 fun x6 =>
  addrK x6 0 fun x7 =>
  ld1K σ x7 fun x8 =>
  cmpK .gtr x8 (.int .i64 0) fun x9 =>
  ifK x9 (
  cmpK .eql x1 (.int .u8 32) fun x11 =>
  ifK x11 (
  nchkK x0 fun x13 =>
  addrK x13 0 fun x14 =>
  ld1K σ x14 fun x15 =>
  subK x15 (.int .i64 1) fun x16 =>
  nchkK x0 fun x17 =>
  addrK x17 0 fun x18 =>
  st1K σ x18 x16 fun _ σ1 =>
  .ret ((.bool true), σ1)) (
  .ret ((.bool false), σ))) (
  nchkK x0 fun x20 =>
  addrK x20 1 fun x21 =>
  ld1K σ x21 fun x22 =>
  nchkK x0 fun x24 =>
  addrK x24 3 fun x25 =>
  ld1K σ x25 fun x26 =>
  lenSK x26 fun x27 =>
  cmpK .lss x22 x27 fun x28 =>
  grdK x28 true σ (fun f => f x0 σ) fun x30 σ2 =>
  grdK x28 true σ2 (fun f => nchkK x30 fun v => f v σ2) fun x31 σ3 =>
  grdK x28 true σ3 (fun f => addrK x31 3 fun v => f v σ3) fun x32 σ4 =>
  grdK x28 true σ4 (fun f => ld1K σ4 x32 fun v => f v σ4) fun x33 σ5 =>
  grdK x28 true σ5 (fun f => f x0 σ5) fun x34 σ6 =>
  grdK x28 true σ6 (fun f => nchkK x34 fun v => f v σ6) fun x35 σ7 =>
  grdK x28 true σ7 (fun f => addrK x35 1 fun v => f v σ7) fun x36 σ8 =>
  grdK x28 true σ8 (fun f => ld1K σ8 x36 fun v => f v σ8) fun x37 σ9 =>
  grdK x28 true σ9 (fun f => idxSK x33 x37 fun v => f v σ9) fun x38 σ10 =>
  grdK x28 true σ10 (fun f => f x1 σ10) fun x39 σ11 =>
  grdK x28 true σ11 (fun f => cmpK .eql x38 x39 fun v => f v σ11) fun x40 σ12 =>
  pickK x28 x40 (.bool false) fun x41 =>
  ifK x41 (
  nchkK x0 fun x43 =>
  addrK x43 1 fun x44 =>
  ld1K σ12 x44 fun x45 =>
  addK x45 (.int .i64 1) fun x46 =>
  nchkK x0 fun x47 =>
  addrK x47 1 fun x48 =>
  st1K σ12 x48 x46 fun _ σ13 =>
  .ret ((.bool true), σ13)) (
  .ret ((.bool false), σ12)))

theorem eq168 (run : RunT) (fu : Nat) (x0 x1 : AV) (σ : Store) : codeK X0 run (.seq .leaf (.seq (.seq .leaf (.cond (.seq (.seq .leaf (.cond (.seq .leaf (.seq .leaf .leaf)) .leaf)) (.seq .leaf .leaf)) .leaf)) (.seq (.seq .leaf (.cond (.seq .leaf (.seq .leaf .leaf)) .leaf)) (.seq .leaf .leaf)))) (subC [] b168) ([x0, x1] ++ padA (49 - 2)) σ k168 = c168 run fu x0 x1 σ := by kernel_rfl

theorem ok168 {run : RunT} (hrun : RunOK X0 run) (fu : Nat) (x0 x1 : AV) (σ : Store) : CallOK X0 168 [x0, x1] σ (c168 run fu x0 x1 σ) :=
  KOK.body (fn := Tryz.f168) (c := subC [] b168) (by kernel_rfl) (by kernel_rfl) (by show 2 ≤ 49; decide) (KOK.whole env0 hrun (eq168 run fu x0 x1 σ) ⟨trivial, ⟨⟨trivial, ⟨⟨⟨trivial, ⟨⟨trivial, ⟨trivial, trivial⟩⟩, trivial⟩⟩, ⟨trivial, trivial⟩⟩, trivial⟩⟩, ⟨⟨trivial, ⟨⟨trivial, ⟨trivial, trivial⟩⟩, trivial⟩⟩, ⟨trivial, trivial⟩⟩⟩⟩)

-- (*pub-paratext/pub/rscmarkdown.line).peek

noncomputable def b170 : Code := match Tryz.f170.body with | some c => c | none => .skip

noncomputable def k170 : Kont R := retK Tryz.prog [.tmp 2]

noncomputable def c170 (run : RunT) (fu : Nat) (x0 : AV) (σ : Store) : Tr R :=
  nchkK x0 fun x4 =>
  addrK x4 0 fun x5 =>
  ld1K σ x5 fun x6 =>
  cmpK .gtr x6 (.int .i64 0) fun x7 =>
  ifK x7 (
  .ret ((.int .u8 32), σ)) (
  nchkK x0 fun x9 =>
  addrK x9 1 fun x10 =>
  ld1K σ x10 fun x11 =>
  nchkK x0 fun x13 =>
  addrK x13 3 fun x14 =>
  ld1K σ x14 fun x15 =>
  lenSK x15 fun x16 =>
  cmpK .geq x11 x16 fun x17 =>
  ifK x17 (
  .ret ((.int .u8 0), σ)) (
  nchkK x0 fun x19 =>
  addrK x19 3 fun x20 =>
  ld1K σ x20 fun x21 =>
  nchkK x0 fun x23 =>
  addrK x23 1 fun x24 =>
  ld1K σ x24 fun x25 =>
  idxSK x21 x25 fun x26 =>
  .ret (x26, σ)))

theorem eq170 (run : RunT) (fu : Nat) (x0 : AV) (σ : Store) : codeK X0 run (.seq .leaf (.seq (.seq .leaf (.cond (.seq .leaf .leaf) .leaf)) (.seq (.seq .leaf (.cond (.seq .leaf .leaf) .leaf)) (.seq .leaf .leaf)))) (subC [] b170) ([x0] ++ padA (27 - 1)) σ k170 = c170 run fu x0 σ := by kernel_rfl

theorem ok170 {run : RunT} (hrun : RunOK X0 run) (fu : Nat) (x0 : AV) (σ : Store) : CallOK X0 170 [x0] σ (c170 run fu x0 σ) :=
  KOK.body (fn := Tryz.f170) (c := subC [] b170) (by kernel_rfl) (by kernel_rfl) (by show 1 ≤ 27; decide) (KOK.whole env0 hrun (eq170 run fu x0 σ) ⟨trivial, ⟨⟨trivial, ⟨⟨trivial, trivial⟩, trivial⟩⟩, ⟨⟨trivial, ⟨⟨trivial, trivial⟩, trivial⟩⟩, ⟨trivial, trivial⟩⟩⟩⟩)

-- (*pub-paratext/pub/rscmarkdown.Document).PrintHTML

noncomputable def b232 : Code := match Tryz.f232.body with | some c => c | none => .skip

noncomputable def k232 : Kont R := retK Tryz.prog []

noncomputable def c232_1b (run : RunT) (fu : Nat) (s1 : W4) (x1 x9 x10 x11 : AV) (σ : Store) : Tr R :=
  cmpK .lss x11 x10 fun x12 =>
  ifK x12 (
  idxK 1 x9 x11 fun x13 =>
  ld1K σ x13 fun x14 =>
  invK X0 run x14 "PrintHTML" [x1] σ fun x17 σ1 =>
  addK x11 (.int .i64 1) fun x18 =>
  s1 x1 x9 x10 x18 σ1) (
  .ret (.tup [], σ))

noncomputable def c232_1 (run : RunT) (fu : Nat) : Nat → W4
  | 0 => fun _ _ _ _ _ => .fail
  | m + 1 => c232_1b run fu (c232_1 run fu m)

theorem eq232_1 (run : RunT) (fu : Nat) (s1 : W4) (x1 x9 x10 x11 : AV) (σ : Store) : codeK X0 run (.seq .leaf (.seq (.cond .leaf .leaf) (.seq (.block (.seq .leaf .leaf)) .leaf))) (subC [true, false, false] b232) (frS 0 19 [(1, x1), (9, x9), (10, x10), (11, x11)]) σ (thenK (fun fr σ => s1 (G fr 1) (G fr 9) (G fr 10) (G fr 11) σ) (blockK 0 k232)) = c232_1b run fu s1 x1 x9 x10 x11 σ := by kernel_rfl

theorem owed232_1 {run : RunT} (hrun : RunOK X0 run) (fu : Nat) (s1 : W4) : Owes X0 run 19 (.seq .leaf (.seq (.cond .leaf .leaf) (.seq (.block (.seq .leaf .leaf)) .leaf))) (subC [true, false, false] b232) (thenK (fun fr σ => s1 (G fr 1) (G fr 9) (G fr 10) (G fr 11) σ) (blockK 0 k232)) :=
  ⟨trivial, ⟨⟨trivial, trivial⟩, ⟨⟨trivial, trivial⟩, trivial⟩⟩⟩

theorem ok232_1 {run : RunT} (hrun : RunOK X0 run) (fu : Nat) : ∀ fr σ, KOK X0 19 (subC [true, false] b232) fr σ ((fun fr σ => c232_1 run fu fu (G fr 1) (G fr 9) (G fr 10) (G fr 11) σ) fr σ) (blockK 0 k232) := by
  have h := KOK.loop (X := X0) (N := 19) (b := (subC [true, false, false] b232)) (k := (blockK 0 k232)) (u := fun m fr σ => c232_1 run fu m (G fr 1) (G fr 9) (G fr 10) (G fr 11) σ) (fun _ _ => rfl) (fun m fr σ => KOK.piece env0 hrun [1, 9, 10, 11] (eq232_1 run fu (c232_1 run fu m) (G fr 1) (G fr 9) (G fr 10) (G fr 11) σ) (owed232_1 hrun fu (c232_1 run fu m)))
  exact fun fr σ => h fu fr σ

noncomputable def c232 (run : RunT) (fu : Nat) (x0 x1 : AV) (σ : Store) : Tr R :=
  nchkK x0 fun x7 =>
  addrK x7 2 fun x8 =>
  ld1K σ x8 fun x9 =>
  lenLK x9 fun x10 =>
  c232_1 run fu fu x1 x9 x10 (.int .i64 0) σ

theorem eq232 (run : RunT) (fu : Nat) (x0 x1 : AV) (σ : Store) : codeK X0 run (.seq .leaf (.block (.sub (fun fr σ => c232_1 run fu fu (G fr 1) (G fr 9) (G fr 10) (G fr 11) σ)))) (subC [] b232) ([x0, x1] ++ padA (19 - 2)) σ k232 = c232 run fu x0 x1 σ := by kernel_rfl

theorem ok232 {run : RunT} (hrun : RunOK X0 run) (fu : Nat) (x0 x1 : AV) (σ : Store) : CallOK X0 232 [x0, x1] σ (c232 run fu x0 x1 σ) :=
  KOK.body (fn := Tryz.f232) (c := subC [] b232) (by kernel_rfl) (by kernel_rfl) (by show 2 ≤ 19; decide) (KOK.whole env0 hrun (eq232 run fu x0 x1 σ) ⟨trivial, (ok232_1 hrun fu)⟩)

-- (*pub-paratext/pub/rscmarkdown.rootBuilder).build

noncomputable def b234 : Code := match Tryz.f234.body with | some c => c | none => .skip

noncomputable def k234 : Kont R := retK Tryz.prog [.tmp 4]

noncomputable def c234 (run : RunT) (fu : Nat) (x0 x1 : AV) (σ : Store) : Tr R :=
  invK X0 run x1 "pub-paratext/pub/rscmarkdown.pos" [] σ fun x6 σ1 =>
  invK X0 run x1 "pub-paratext/pub/rscmarkdown.blocks" [] σ1 fun x8 σ2 =>
  tasK (some .nilp) 110 false x1 fun x10 =>
  nchkK x10 fun x11 =>
  addrK x11 2 fun x12 =>
  ld1K σ2 x12 fun x13 =>
  bldK [(.int .i64 0), (.int .i64 0), .nils, .nilm] [(0, 2, x6), (2, 1, x8), (3, 1, x13)] fun x14 =>
  boxK σ2 669 x14 fun x15 σ3 =>
  ld1K σ x12 fun v4 =>
  must (AV.beq v4 x13) (
  ld1K σ1 x12 fun v5 =>
  must (AV.beq v5 x13) (
  .ret ((.iface 48 x15), σ3)))

theorem eq234 (run : RunT) (fu : Nat) (x0 x1 : AV) (σ : Store) : codeK X0 run (.seq .leaf (.seq .leaf .leaf)) (subC [] b234) ([x0, x1] ++ padA (17 - 2)) σ k234 = c234 run fu x0 x1 σ := by kernel_rfl

theorem ok234 {run : RunT} (hrun : RunOK X0 run) (fu : Nat) (x0 x1 : AV) (σ : Store) : CallOK X0 234 [x0, x1] σ (c234 run fu x0 x1 σ) :=
  KOK.body (fn := Tryz.f234) (c := subC [] b234) (by kernel_rfl) (by kernel_rfl) (by show 2 ≤ 17; decide) (KOK.whole env0 hrun (eq234 run fu x0 x1 σ) ⟨trivial, ⟨trivial, trivial⟩⟩)

-- (*pub-paratext/pub/rscmarkdown.Text).PrintHTML

noncomputable def b236 : Code := match Tryz.f236.body with | some c => c | none => .skip

noncomputable def k236 : Kont R := retK Tryz.prog []

noncomputable def c236_1b (run : RunT) (fu : Nat) (s1 : W4) (x1 x9 x10 x11 : AV) (σ : Store) : Tr R :=
  cmpK .lss x11 x10 fun x12 =>
  ifK x12 (
  idxK 1 x9 x11 fun x13 =>
  ld1K σ x13 fun x14 =>
  invK X0 run x14 "PrintHTML" [x1] σ fun x17 σ1 =>
  addK x11 (.int .i64 1) fun x18 =>
  s1 x1 x9 x10 x18 σ1) (
  .ret (.tup [], σ))

noncomputable def c236_1 (run : RunT) (fu : Nat) : Nat → W4
  | 0 => fun _ _ _ _ _ => .fail
  | m + 1 => c236_1b run fu (c236_1 run fu m)

theorem eq236_1 (run : RunT) (fu : Nat) (s1 : W4) (x1 x9 x10 x11 : AV) (σ : Store) : codeK X0 run (.seq .leaf (.seq (.cond .leaf .leaf) (.seq (.block (.seq .leaf .leaf)) .leaf))) (subC [true, false, false] b236) (frS 0 19 [(1, x1), (9, x9), (10, x10), (11, x11)]) σ (thenK (fun fr σ => s1 (G fr 1) (G fr 9) (G fr 10) (G fr 11) σ) (blockK 0 k236)) = c236_1b run fu s1 x1 x9 x10 x11 σ := by kernel_rfl

theorem owed236_1 {run : RunT} (hrun : RunOK X0 run) (fu : Nat) (s1 : W4) : Owes X0 run 19 (.seq .leaf (.seq (.cond .leaf .leaf) (.seq (.block (.seq .leaf .leaf)) .leaf))) (subC [true, false, false] b236) (thenK (fun fr σ => s1 (G fr 1) (G fr 9) (G fr 10) (G fr 11) σ) (blockK 0 k236)) :=
  ⟨trivial, ⟨⟨trivial, trivial⟩, ⟨⟨trivial, trivial⟩, trivial⟩⟩⟩

theorem ok236_1 {run : RunT} (hrun : RunOK X0 run) (fu : Nat) : ∀ fr σ, KOK X0 19 (subC [true, false] b236) fr σ ((fun fr σ => c236_1 run fu fu (G fr 1) (G fr 9) (G fr 10) (G fr 11) σ) fr σ) (blockK 0 k236) := by
  have h := KOK.loop (X := X0) (N := 19) (b := (subC [true, false, false] b236)) (k := (blockK 0 k236)) (u := fun m fr σ => c236_1 run fu m (G fr 1) (G fr 9) (G fr 10) (G fr 11) σ) (fun _ _ => rfl) (fun m fr σ => KOK.piece env0 hrun [1, 9, 10, 11] (eq236_1 run fu (c236_1 run fu m) (G fr 1) (G fr 9) (G fr 10) (G fr 11) σ) (owed236_1 hrun fu (c236_1 run fu m)))
  exact fun fr σ => h fu fr σ

noncomputable def c236 (run : RunT) (fu : Nat) (x0 x1 : AV) (σ : Store) : Tr R :=
  nchkK x0 fun x7 =>
  addrK x7 2 fun x8 =>
  ld1K σ x8 fun x9 =>
  lenLK x9 fun x10 =>
  c236_1 run fu fu x1 x9 x10 (.int .i64 0) σ

theorem eq236 (run : RunT) (fu : Nat) (x0 x1 : AV) (σ : Store) : codeK X0 run (.seq .leaf (.block (.sub (fun fr σ => c236_1 run fu fu (G fr 1) (G fr 9) (G fr 10) (G fr 11) σ)))) (subC [] b236) ([x0, x1] ++ padA (19 - 2)) σ k236 = c236 run fu x0 x1 σ := by kernel_rfl

theorem ok236 {run : RunT} (hrun : RunOK X0 run) (fu : Nat) (x0 x1 : AV) (σ : Store) : CallOK X0 236 [x0, x1] σ (c236 run fu x0 x1 σ) :=
  KOK.body (fn := Tryz.f236) (c := subC [] b236) (by kernel_rfl) (by kernel_rfl) (by show 2 ≤ 19; decide) (KOK.whole env0 hrun (eq236 run fu x0 x1 σ) ⟨trivial, (ok236_1 hrun fu)⟩)

-- (*pub-paratext/pub/rscmarkdown.parseState).blocks

noncomputable def b246 : Code := match Tryz.f246.body with | some c => c | none => .skip

noncomputable def k246 : Kont R := retK Tryz.prog [.tmp 2]

noncomputable def c246 (run : RunT) (fu : Nat) (x0 : AV) (σ : Store) : Tr R :=
  nchkK x0 fun x5 =>
  addrK x5 4 fun x6 =>
  ld1K σ x6 fun x7 =>
  nchkK x0 fun x9 =>
  addrK x9 4 fun x10 =>
  ld1K σ x10 fun x11 =>
  lenLK x11 fun x12 =>
  subK x12 (.int .i64 1) fun x13 =>
  idxK 4 x7 x13 fun x14 =>
  nchkK x14 fun x16 =>
  addrK x16 1 fun x17 =>
  ld1K σ x17 fun x18 =>
  .ret (x18, σ)

theorem eq246 (run : RunT) (fu : Nat) (x0 : AV) (σ : Store) : codeK X0 run (.seq .leaf (.seq .leaf (.seq .leaf .leaf))) (subC [] b246) ([x0] ++ padA (19 - 1)) σ k246 = c246 run fu x0 σ := by kernel_rfl

theorem ok246 {run : RunT} (hrun : RunOK X0 run) (fu : Nat) (x0 : AV) (σ : Store) : CallOK X0 246 [x0] σ (c246 run fu x0 σ) :=
  KOK.body (fn := Tryz.f246) (c := subC [] b246) (by kernel_rfl) (by kernel_rfl) (by show 1 ≤ 19; decide) (KOK.whole env0 hrun (eq246 run fu x0 σ) ⟨trivial, ⟨trivial, ⟨trivial, trivial⟩⟩⟩)

-- (*pub-paratext/pub/rscmarkdown.parseState).pos

noncomputable def b247 : Code := match Tryz.f247.body with | some c => c | none => .skip

noncomputable def k247 : Kont R := retK Tryz.prog [.cell 2 104]

noncomputable def c247 (run : RunT) (fu : Nat) (x0 : AV) (σ : Store) : Tr R :=
  newK σ 209 [(.int .i64 0), (.int .i64 0)] fun x2 σ1 =>
  nchkK x0 fun x5 =>
  addrK x5 4 fun x6 =>
  ld1K σ1 x6 fun x7 =>
  nchkK x0 fun x9 =>
  addrK x9 4 fun x10 =>
  ld1K σ1 x10 fun x11 =>
  lenLK x11 fun x12 =>
  subK x12 (.int .i64 1) fun x13 =>
  idxK 4 x7 x13 fun x14 =>
  nchkK x14 fun x16 =>
  addrK x16 2 fun x17 =>
  ldNK σ1 x17 2 fun x18 =>
  stNK σ1 x2 2 x18 fun _ σ2 =>
  ldNK σ2 x2 2 fun v3 =>
  .ret (v3, σ2)

theorem eq247 (run : RunT) (fu : Nat) (x0 : AV) (σ : Store) : codeK X0 run (.seq .leaf (.seq .leaf (.seq .leaf .leaf))) (subC [] b247) ([x0] ++ padA (19 - 1)) σ k247 = c247 run fu x0 σ := by kernel_rfl

theorem ok247 {run : RunT} (hrun : RunOK X0 run) (fu : Nat) (x0 : AV) (σ : Store) : CallOK X0 247 [x0] σ (c247 run fu x0 σ) :=
  KOK.body (fn := Tryz.f247) (c := subC [] b247) (by kernel_rfl) (by kernel_rfl) (by show 1 ≤ 19; decide) (KOK.whole env0 hrun (eq247 run fu x0 σ) ⟨trivial, ⟨trivial, ⟨trivial, trivial⟩⟩⟩)

-- pub-paratext/pub/rscmarkdown.htmlEscaper

noncomputable def b252 : Code := match Tryz.f252.body with | some c => c | none => .skip

noncomputable def k252 : Kont R := retK Tryz.prog [.tmp 0]

noncomputable def c252 (run : RunT) (fu : Nat) (σ : Store) : Tr R :=
  opt (fillK [(.str []), (.str []), (.str []), (.str []), (.str []), (.str []), (.str []), (.str [])] [(0, 1, (.str [34])), (1, 1, (.str [38, 113, 117, 111, 116, 59])), (2, 1, (.str [38])), (3, 1, (.str [38, 97, 109, 112, 59])), (4, 1, (.str [60])), (5, 1, (.str [38, 108, 116, 59])), (6, 1, (.str [62])), (7, 1, (.str [38, 103, 116, 59]))]) fun cs => newSK σ 19 cs 8 1 fun x1 σ1 =>
  .ret (x1, σ1)

theorem eq252 (run : RunT) (fu : Nat) (σ : Store) : codeK X0 run (.seq .leaf (.seq .leaf .leaf)) (subC [] b252) ([] ++ padA (2 - 0)) σ k252 = c252 run fu σ := by kernel_rfl

theorem ok252 {run : RunT} (hrun : RunOK X0 run) (fu : Nat) (σ : Store) : CallOK X0 252 [] σ (c252 run fu σ) :=
  KOK.body (fn := Tryz.f252) (c := subC [] b252) (by kernel_rfl) (by kernel_rfl) (by show 0 ≤ 2; decide) (KOK.whole env0 hrun (eq252 run fu σ) ⟨trivial, ⟨trivial, trivial⟩⟩)

-- pub-paratext/pub/rscmarkdown.htmlLinkEscaper

noncomputable def b259 : Code := match Tryz.f259.body with | some c => c | none => .skip

noncomputable def k259 : Kont R := retK Tryz.prog [.tmp 0]

noncomputable def c259 (run : RunT) (fu : Nat) (σ : Store) : Tr R :=
  opt (fillK [(.str []), (.str []), (.str []), (.str []), (.str []), (.str []), (.str []), (.str []), (.str []), (.str []), (.str []), (.str []), (.str []), (.str []), (.str []), (.str []), (.str []), (.str []), (.str []), (.str []), (.str []), (.str []), (.str []), (.str []), (.str []), (.str []), (.str []), (.str []), (.str []), (.str []), (.str []), (.str []), (.str []), (.str []), (.str []), (.str []), (.str []), (.str []), (.str []), (.str []), (.str []), (.str []), (.str []), (.str []), (.str []), (.str []), (.str []), (.str []), (.str []), (.str []), (.str []), (.str []), (.str []), (.str []), (.str []), (.str []), (.str []), (.str []), (.str []), (.str []), (.str []), (.str []), (.str []), (.str []), (.str []), (.str []), (.str []), (.str []), (.str []), (.str []), (.str []), (.str []), (.str []), (.str []), (.str []), (.str []), (.str []), (.str []), (.str []), (.str []), (.str []), (.str []), (.str []), (.str []), (.str []), (.str []), (.str []), (.str []), (.str []), (.str []), (.str []), (.str []), (.str []), (.str []), (.str []), (.str []), (.str []), (.str []), (.str []), (.str []), (.str []), (.str []), (.str []), (.str []), (.str []), (.str []), (.str []), (.str []), (.str []), (.str []), (.str []), (.str []), (.str []), (.str []), (.str []), (.str []), (.str []), (.str []), (.str []), (.str []), (.str []), (.str []), (.str []), (.str []), (.str []), (.str []), (.str []), (.str []), (.str []), (.str []), (.str []), (.str []), (.str []), (.str []), (.str []), (.str []), (.str []), (.str []), (.str []), (.str []), (.str []), (.str []), (.str []), (.str []), (.str []), (.str []), (.str []), (.str []), (.str []), (.str []), (.str []), (.str []), (.str []), (.str []), (.str []), (.str []), (.str []), (.str []), (.str []), (.str []), (.str []), (.str []), (.str []), (.str []), (.str []), (.str []), (.str []), (.str []), (.str []), (.str []), (.str []), (.str []), (.str []), (.str []), (.str []), (.str []), (.str []), (.str []), (.str []), (.str []), (.str []), (.str []), (.str []), (.str []), (.str []), (.str []), (.str []), (.str []), (.str []), (.str []), (.str []), (.str []), (.str []), (.str []), (.str []), (.str []), (.str []), (.str []), (.str []), (.str []), (.str []), (.str []), (.str []), (.str []), (.str []), (.str []), (.str []), (.str []), (.str []), (.str []), (.str []), (.str []), (.str []), (.str []), (.str []), (.str []), (.str []), (.str []), (.str []), (.str []), (.str []), (.str []), (.str []), (.str []), (.str []), (.str []), (.str []), (.str []), (.str []), (.str []), (.str []), (.str []), (.str []), (.str []), (.str []), (.str []), (.str []), (.str []), (.str []), (.str []), (.str []), (.str []), (.str []), (.str []), (.str []), (.str []), (.str []), (.str []), (.str []), (.str []), (.str []), (.str []), (.str []), (.str []), (.str []), (.str []), (.str []), (.str []), (.str []), (.str []), (.str []), (.str []), (.str []), (.str []), (.str []), (.str []), (.str []), (.str []), (.str []), (.str []), (.str []), (.str []), (.str []), (.str []), (.str []), (.str []), (.str []), (.str []), (.str []), (.str []), (.str []), (.str []), (.str []), (.str []), (.str []), (.str []), (.str []), (.str []), (.str []), (.str []), (.str []), (.str []), (.str []), (.str []), (.str []), (.str []), (.str []), (.str []), (.str []), (.str []), (.str []), (.str []), (.str []), (.str []), (.str []), (.str []), (.str []), (.str []), (.str []), (.str []), (.str []), (.str []), (.str []), (.str []), (.str []), (.str []), (.str []), (.str []), (.str []), (.str []), (.str []), (.str []), (.str []), (.str []), (.str []), (.str []), (.str []), (.str []), (.str []), (.str []), (.str []), (.str []), (.str []), (.str []), (.str []), (.str []), (.str []), (.str []), (.str []), (.str [])] [(0, 1, (.str [34])), (1, 1, (.str [37, 50, 50])), (2, 1, (.str [38])), (3, 1, (.str [38, 97, 109, 112, 59])), (4, 1, (.str [60])), (5, 1, (.str [37, 51, 67])), (6, 1, (.str [62])), (7, 1, (.str [37, 51, 69])), (8, 1, (.str [92])), (9, 1, (.str [37, 53, 67])), (10, 1, (.str [32])), (11, 1, (.str [37, 50, 48])), (12, 1, (.str [96])), (13, 1, (.str [37, 54, 48])), (14, 1, (.str [91])), (15, 1, (.str [37, 53, 66])), (16, 1, (.str [93])), (17, 1, (.str [37, 53, 68])), (18, 1, (.str [94])), (19, 1, (.str [37, 53, 69])), (20, 1, (.str [123])), (21, 1, (.str [37, 55, 66])), (22, 1, (.str [125])), (23, 1, (.str [37, 55, 68])), (24, 1, (.str [0])), (25, 1, (.str [37, 48, 48])), (26, 1, (.str [1])), (27, 1, (.str [37, 48, 49])), (28, 1, (.str [2])), (29, 1, (.str [37, 48, 50])), (30, 1, (.str [3])), (31, 1, (.str [37, 48, 51])), (32, 1, (.str [4])), (33, 1, (.str [37, 48, 52])), (34, 1, (.str [5])), (35, 1, (.str [37, 48, 53])), (36, 1, (.str [6])), (37, 1, (.str [37, 48, 54])), (38, 1, (.str [7])), (39, 1, (.str [37, 48, 55])), (40, 1, (.str [8])), (41, 1, (.str [37, 48, 56])), (42, 1, (.str [11])), (43, 1, (.str [37, 48, 66])), (44, 1, (.str [12])), (45, 1, (.str [37, 48, 67])), (46, 1, (.str [14])), (47, 1, (.str [37, 48, 69])), (48, 1, (.str [15])), (49, 1, (.str [37, 48, 70])), (50, 1, (.str [16])), (51, 1, (.str [37, 49, 48])), (52, 1, (.str [17])), (53, 1, (.str [37, 49, 49])), (54, 1, (.str [18])), (55, 1, (.str [37, 49, 50])), (56, 1, (.str [19])), (57, 1, (.str [37, 49, 51])), (58, 1, (.str [20])), (59, 1, (.str [37, 49, 52])), (60, 1, (.str [21])), (61, 1, (.str [37, 49, 53])), (62, 1, (.str [22])), (63, 1, (.str [37, 49, 54])), (64, 1, (.str [23])), (65, 1, (.str [37, 49, 55])), (66, 1, (.str [24])), (67, 1, (.str [37, 49, 56])), (68, 1, (.str [25])), (69, 1, (.str [37, 49, 57])), (70, 1, (.str [26])), (71, 1, (.str [37, 49, 65])), (72, 1, (.str [27])), (73, 1, (.str [37, 49, 66])), (74, 1, (.str [28])), (75, 1, (.str [37, 49, 67])), (76, 1, (.str [29])), (77, 1, (.str [37, 49, 68])), (78, 1, (.str [30])), (79, 1, (.str [37, 49, 69])), (80, 1, (.str [31])), (81, 1, (.str [37, 49, 70])), (82, 1, (.str [127])), (83, 1, (.str [37, 55, 70])), (84, 1, (.str [128])), (85, 1, (.str [37, 56, 48])), (86, 1, (.str [129])), (87, 1, (.str [37, 56, 49])), (88, 1, (.str [130])), (89, 1, (.str [37, 56, 50])), (90, 1, (.str [131])), (91, 1, (.str [37, 56, 51])), (92, 1, (.str [132])), (93, 1, (.str [37, 56, 52])), (94, 1, (.str [133])), (95, 1, (.str [37, 56, 53])), (96, 1, (.str [134])), (97, 1, (.str [37, 56, 54])), (98, 1, (.str [135])), (99, 1, (.str [37, 56, 55])), (100, 1, (.str [136])), (101, 1, (.str [37, 56, 56])), (102, 1, (.str [137])), (103, 1, (.str [37, 56, 57])), (104, 1, (.str [138])), (105, 1, (.str [37, 56, 65])), (106, 1, (.str [139])), (107, 1, (.str [37, 56, 66])), (108, 1, (.str [140])), (109, 1, (.str [37, 56, 67])), (110, 1, (.str [141])), (111, 1, (.str [37, 56, 68])), (112, 1, (.str [142])), (113, 1, (.str [37, 56, 69])), (114, 1, (.str [143])), (115, 1, (.str [37, 56, 70])), (116, 1, (.str [144])), (117, 1, (.str [37, 57, 48])), (118, 1, (.str [145])), (119, 1, (.str [37, 57, 49])), (120, 1, (.str [146])), (121, 1, (.str [37, 57, 50])), (122, 1, (.str [147])), (123, 1, (.str [37, 57, 51])), (124, 1, (.str [148])), (125, 1, (.str [37, 57, 52])), (126, 1, (.str [149])), (127, 1, (.str [37, 57, 53])), (128, 1, (.str [150])), (129, 1, (.str [37, 57, 54])), (130, 1, (.str [151])), (131, 1, (.str [37, 57, 55])), (132, 1, (.str [152])), (133, 1, (.str [37, 57, 56])), (134, 1, (.str [153])), (135, 1, (.str [37, 57, 57])), (136, 1, (.str [154])), (137, 1, (.str [37, 57, 65])), (138, 1, (.str [155])), (139, 1, (.str [37, 57, 66])), (140, 1, (.str [156])), (141, 1, (.str [37, 57, 67])), (142, 1, (.str [157])), (143, 1, (.str [37, 57, 68])), (144, 1, (.str [158])), (145, 1, (.str [37, 57, 69])), (146, 1, (.str [159])), (147, 1, (.str [37, 57, 70])), (148, 1, (.str [160])), (149, 1, (.str [37, 65, 48])), (150, 1, (.str [161])), (151, 1, (.str [37, 65, 49])), (152, 1, (.str [162])), (153, 1, (.str [37, 65, 50])), (154, 1, (.str [163])), (155, 1, (.str [37, 65, 51])), (156, 1, (.str [164])), (157, 1, (.str [37, 65, 52])), (158, 1, (.str [165])), (159, 1, (.str [37, 65, 53])), (160, 1, (.str [166])), (161, 1, (.str [37, 65, 54])), (162, 1, (.str [167])), (163, 1, (.str [37, 65, 55])), (164, 1, (.str [168])), (165, 1, (.str [37, 65, 56])), (166, 1, (.str [169])), (167, 1, (.str [37, 65, 57])), (168, 1, (.str [170])), (169, 1, (.str [37, 65, 65])), (170, 1, (.str [171])), (171, 1, (.str [37, 65, 66])), (172, 1, (.str [172])), (173, 1, (.str [37, 65, 67])), (174, 1, (.str [173])), (175, 1, (.str [37, 65, 68])), (176, 1, (.str [174])), (177, 1, (.str [37, 65, 69])), (178, 1, (.str [175])), (179, 1, (.str [37, 65, 70])), (180, 1, (.str [176])), (181, 1, (.str [37, 66, 48])), (182, 1, (.str [177])), (183, 1, (.str [37, 66, 49])), (184, 1, (.str [178])), (185, 1, (.str [37, 66, 50])), (186, 1, (.str [179])), (187, 1, (.str [37, 66, 51])), (188, 1, (.str [180])), (189, 1, (.str [37, 66, 52])), (190, 1, (.str [181])), (191, 1, (.str [37, 66, 53])), (192, 1, (.str [182])), (193, 1, (.str [37, 66, 54])), (194, 1, (.str [183])), (195, 1, (.str [37, 66, 55])), (196, 1, (.str [184])), (197, 1, (.str [37, 66, 56])), (198, 1, (.str [185])), (199, 1, (.str [37, 66, 57])), (200, 1, (.str [186])), (201, 1, (.str [37, 66, 65])), (202, 1, (.str [187])), (203, 1, (.str [37, 66, 66])), (204, 1, (.str [188])), (205, 1, (.str [37, 66, 67])), (206, 1, (.str [189])), (207, 1, (.str [37, 66, 68])), (208, 1, (.str [190])), (209, 1, (.str [37, 66, 69])), (210, 1, (.str [191])), (211, 1, (.str [37, 66, 70])), (212, 1, (.str [192])), (213, 1, (.str [37, 67, 48])), (214, 1, (.str [193])), (215, 1, (.str [37, 67, 49])), (216, 1, (.str [194])), (217, 1, (.str [37, 67, 50])), (218, 1, (.str [195])), (219, 1, (.str [37, 67, 51])), (220, 1, (.str [196])), (221, 1, (.str [37, 67, 52])), (222, 1, (.str [197])), (223, 1, (.str [37, 67, 53])), (224, 1, (.str [198])), (225, 1, (.str [37, 67, 54])), (226, 1, (.str [199])), (227, 1, (.str [37, 67, 55])), (228, 1, (.str [200])), (229, 1, (.str [37, 67, 56])), (230, 1, (.str [201])), (231, 1, (.str [37, 67, 57])), (232, 1, (.str [202])), (233, 1, (.str [37, 67, 65])), (234, 1, (.str [203])), (235, 1, (.str [37, 67, 66])), (236, 1, (.str [204])), (237, 1, (.str [37, 67, 67])), (238, 1, (.str [205])), (239, 1, (.str [37, 67, 68])), (240, 1, (.str [206])), (241, 1, (.str [37, 67, 69])), (242, 1, (.str [207])), (243, 1, (.str [37, 67, 70])), (244, 1, (.str [208])), (245, 1, (.str [37, 68, 48])), (246, 1, (.str [209])), (247, 1, (.str [37, 68, 49])), (248, 1, (.str [210])), (249, 1, (.str [37, 68, 50])), (250, 1, (.str [211])), (251, 1, (.str [37, 68, 51])), (252, 1, (.str [212])), (253, 1, (.str [37, 68, 52])), (254, 1, (.str [213])), (255, 1, (.str [37, 68, 53])), (256, 1, (.str [214])), (257, 1, (.str [37, 68, 54])), (258, 1, (.str [215])), (259, 1, (.str [37, 68, 55])), (260, 1, (.str [216])), (261, 1, (.str [37, 68, 56])), (262, 1, (.str [217])), (263, 1, (.str [37, 68, 57])), (264, 1, (.str [218])), (265, 1, (.str [37, 68, 65])), (266, 1, (.str [219])), (267, 1, (.str [37, 68, 66])), (268, 1, (.str [220])), (269, 1, (.str [37, 68, 67])), (270, 1, (.str [221])), (271, 1, (.str [37, 68, 68])), (272, 1, (.str [222])), (273, 1, (.str [37, 68, 69])), (274, 1, (.str [223])), (275, 1, (.str [37, 68, 70])), (276, 1, (.str [224])), (277, 1, (.str [37, 69, 48])), (278, 1, (.str [225])), (279, 1, (.str [37, 69, 49])), (280, 1, (.str [226])), (281, 1, (.str [37, 69, 50])), (282, 1, (.str [227])), (283, 1, (.str [37, 69, 51])), (284, 1, (.str [228])), (285, 1, (.str [37, 69, 52])), (286, 1, (.str [229])), (287, 1, (.str [37, 69, 53])), (288, 1, (.str [230])), (289, 1, (.str [37, 69, 54])), (290, 1, (.str [231])), (291, 1, (.str [37, 69, 55])), (292, 1, (.str [232])), (293, 1, (.str [37, 69, 56])), (294, 1, (.str [233])), (295, 1, (.str [37, 69, 57])), (296, 1, (.str [234])), (297, 1, (.str [37, 69, 65])), (298, 1, (.str [235])), (299, 1, (.str [37, 69, 66])), (300, 1, (.str [236])), (301, 1, (.str [37, 69, 67])), (302, 1, (.str [237])), (303, 1, (.str [37, 69, 68])), (304, 1, (.str [238])), (305, 1, (.str [37, 69, 69])), (306, 1, (.str [239])), (307, 1, (.str [37, 69, 70])), (308, 1, (.str [240])), (309, 1, (.str [37, 70, 48])), (310, 1, (.str [241])), (311, 1, (.str [37, 70, 49])), (312, 1, (.str [242])), (313, 1, (.str [37, 70, 50])), (314, 1, (.str [243])), (315, 1, (.str [37, 70, 51])), (316, 1, (.str [244])), (317, 1, (.str [37, 70, 52])), (318, 1, (.str [245])), (319, 1, (.str [37, 70, 53])), (320, 1, (.str [246])), (321, 1, (.str [37, 70, 54])), (322, 1, (.str [247])), (323, 1, (.str [37, 70, 55])), (324, 1, (.str [248])), (325, 1, (.str [37, 70, 56])), (326, 1, (.str [249])), (327, 1, (.str [37, 70, 57])), (328, 1, (.str [250])), (329, 1, (.str [37, 70, 65])), (330, 1, (.str [251])), (331, 1, (.str [37, 70, 66])), (332, 1, (.str [252])), (333, 1, (.str [37, 70, 67])), (334, 1, (.str [253])), (335, 1, (.str [37, 70, 68])), (336, 1, (.str [254])), (337, 1, (.str [37, 70, 69])), (338, 1, (.str [255])), (339, 1, (.str [37, 70, 70]))]) fun cs => newSK σ 19 cs 340 1 fun x1 σ1 =>
  .ret (x1, σ1)

theorem eq259 (run : RunT) (fu : Nat) (σ : Store) : codeK X0 run (.seq .leaf (.seq .leaf .leaf)) (subC [] b259) ([] ++ padA (2 - 0)) σ k259 = c259 run fu σ := by kernel_rfl

theorem ok259 {run : RunT} (hrun : RunOK X0 run) (fu : Nat) (σ : Store) : CallOK X0 259 [] σ (c259 run fu σ) :=
  KOK.body (fn := Tryz.f259) (c := subC [] b259) (by kernel_rfl) (by kernel_rfl) (by show 0 ≤ 2; decide) (KOK.whole env0 hrun (eq259 run fu σ) ⟨trivial, ⟨trivial, trivial⟩⟩)

-- (pub-paratext/pub/rscmarkdown.zzPairs).Replace

noncomputable def b260 : Code := match Tryz.f260.body with | some c => c | none => .skip

noncomputable def k260 : Kont R := retK Tryz.prog [.tmp 4]

noncomputable def c260 (run : RunT) (fu : Nat) (x0 x1 : AV) (σ : Store) : Tr R :=
  newK σ 135 [.nils, (.int .i64 0), (.int .i8 0)] fun x5 σ1 =>
  calK run 253 [x0, x5, x1] σ1 fun x8 σ2 =>
  calK run 37 [x5] σ2 fun x9 σ3 =>
  .ret (x9, σ3)

theorem eq260 (run : RunT) (fu : Nat) (x0 x1 : AV) (σ : Store) : codeK X0 run (.seq .leaf (.seq .leaf (.seq .leaf (.seq .leaf .leaf)))) (subC [] b260) ([x0, x1] ++ padA (10 - 2)) σ k260 = c260 run fu x0 x1 σ := by kernel_rfl

theorem ok260 {run : RunT} (hrun : RunOK X0 run) (fu : Nat) (x0 x1 : AV) (σ : Store) : CallOK X0 260 [x0, x1] σ (c260 run fu x0 x1 σ) :=
  KOK.body (fn := Tryz.f260) (c := subC [] b260) (by kernel_rfl) (by kernel_rfl) (by show 2 ≤ 10; decide) (KOK.whole env0 hrun (eq260 run fu x0 x1 σ) ⟨trivial, ⟨trivial, ⟨trivial, ⟨trivial, trivial⟩⟩⟩⟩)

-- (*pub-paratext/pub/rscmarkdown.Paragraph).PrintHTML

noncomputable def b269 : Code := match Tryz.f269.body with | some c => c | none => .skip

noncomputable def k269 : Kont R := retK Tryz.prog []

noncomputable def c269 (run : RunT) (fu : Nat) (x0 x1 : AV) (σ : Store) : Tr R :=
  calK run 240 [x1, (.str [60, 112, 62])] σ fun x5 σ1 =>
  nchkK x0 fun x7 =>
  addrK x7 2 fun x8 =>
  ld1K σ1 x8 fun x9 =>
  calK run 236 [x9, x1] σ1 fun x11 σ2 =>
  calK run 240 [x1, (.str [60, 47, 112, 62, 10])] σ2 fun x13 σ3 =>
  .ret (.tup [], σ3)

theorem eq269 (run : RunT) (fu : Nat) (x0 x1 : AV) (σ : Store) : codeK X0 run (.seq .leaf (.seq .leaf .leaf)) (subC [] b269) ([x0, x1] ++ padA (14 - 2)) σ k269 = c269 run fu x0 x1 σ := by kernel_rfl

theorem ok269 {run : RunT} (hrun : RunOK X0 run) (fu : Nat) (x0 x1 : AV) (σ : Store) : CallOK X0 269 [x0, x1] σ (c269 run fu x0 x1 σ) :=
  KOK.body (fn := Tryz.f269) (c := subC [] b269) (by kernel_rfl) (by kernel_rfl) (by show 2 ≤ 14; decide) (KOK.whole env0 hrun (eq269 run fu x0 x1 σ) ⟨trivial, ⟨trivial, trivial⟩⟩)

-- (*pub-paratext/pub/rscmarkdown.paraBuilder).build

noncomputable def b275 : Code := match Tryz.f275.body with | some c => c | none => .skip

noncomputable def k275 : Kont R := retK Tryz.prog [.tmp 4]

noncomputable def c275_1 (run : RunT) (fu : Nat) (x0 x1 x5 : AV) (σ : Store) : Tr R :=
  eqSK x5 (.str []) fun x41 =>
  ifK x41 (
  invK X0 run x1 "pub-paratext/pub/rscmarkdown.pos" [] σ fun x43 σ1 =>
  bldK [(.int .i64 0), (.int .i64 0)] [(0, 2, x43)] fun x44 =>
  boxK σ1 701 x44 fun x45 σ2 =>
  .ret ((.iface 348 x45), σ2)) (
  invK X0 run x1 "pub-paratext/pub/rscmarkdown.pos" [] σ fun x48 σ3 =>
  newK σ3 209 [(.int .i64 0), (.int .i64 0)] fun x8 σ4 =>
  stNK σ4 x8 2 x48 fun _ σ5 =>
  addrK x8 0 fun x49 =>
  ld1K σ5 x49 fun x50 =>
  nchkK x0 fun x52 =>
  addrK x52 0 fun x53 =>
  ld1K σ5 x53 fun x54 =>
  lenLK x54 fun x55 =>
  addK x50 x55 fun x56 =>
  subK x56 (.int .i64 1) fun x57 =>
  addrK x8 1 fun x58 =>
  st1K σ5 x58 x57 fun _ σ6 =>
  ldNK σ6 x8 2 fun x59 =>
  ldNK σ6 x8 2 fun x61 =>
  invK X0 run x1 "pub-paratext/pub/rscmarkdown.newText" [x61, x5] σ6 fun x63 σ7 =>
  bldK [(.int .i64 0), (.int .i64 0), .nilp] [(0, 2, x59), (2, 1, x63)] fun x64 =>
  boxK σ7 299 x64 fun x65 σ8 =>
  ldNK σ7 x8 2 fun v9 =>
  must (AV.beq v9 x59) (
  .ret ((.iface 147 x65), σ8)))

theorem eq275_1 (run : RunT) (fu : Nat) (x0 x1 x5 : AV) (σ : Store) : codeK X0 run (.seq (.seq .leaf (.cond (.seq .leaf .leaf) .leaf)) (.seq .leaf (.seq .leaf (.seq .leaf .leaf)))) (subC [true, true, true, true] b275) (frS 0 67 [(0, x0), (1, x1), (5, x5)]) σ k275 = c275_1 run fu x0 x1 x5 σ := by kernel_rfl

theorem ok275_1 {run : RunT} (hrun : RunOK X0 run) (fu : Nat) : ∀ fr σ, KOK X0 67 (subC [true, true, true, true] b275) fr σ ((fun fr σ => c275_1 run fu (G fr 0) (G fr 1) (G fr 5) σ) fr σ) k275 := fun fr σ =>
  KOK.piece env0 hrun [0, 1, 5] (eq275_1 run fu (G fr 0) (G fr 1) (G fr 5) σ) ⟨⟨trivial, ⟨⟨trivial, trivial⟩, trivial⟩⟩, ⟨trivial, ⟨trivial, ⟨trivial, trivial⟩⟩⟩⟩

noncomputable def c275_2b (run : RunT) (fu : Nat) (s2 : W3) (x0 x1 x5 : AV) (σ : Store) : Tr R :=
  neSK x5 (.str []) fun x26 =>
  ifK x26 (
  calK run 278 [x1, x5] σ fun x30 σ1 =>
  extK x30 0 fun x31 =>
  extK x30 1 fun x32 =>
  notK x32 fun x34 =>
  ifK x34 (
  c275_1 run fu x0 x1 x5 σ1) (
  calK run 110 [x5, x31] σ1 fun x38 σ2 =>
  sliceSK x5 (some x38) none fun x39 =>
  s2 x0 x1 x39 σ2)) (
  c275_1 run fu x0 x1 x5 σ)

noncomputable def c275_2 (run : RunT) (fu : Nat) : Nat → W3
  | 0 => fun _ _ _ _ => .fail
  | m + 1 => c275_2b run fu (c275_2 run fu m)

theorem eq275_2 (run : RunT) (fu : Nat) (s2 : W3) (x0 x1 x5 : AV) (σ : Store) : codeK X0 run (.seq (.seq .leaf (.cond .leaf .leaf)) (.block (.seq .leaf (.seq (.seq .leaf (.cond .leaf .leaf)) .leaf)))) (subC [true, true, true, false, false, false] b275) (frS 0 67 [(0, x0), (1, x1), (5, x5)]) σ (thenK (fun fr σ => s2 (G fr 0) (G fr 1) (G fr 5) σ) (blockK 0 (thenK (fun fr σ => c275_1 run fu (G fr 0) (G fr 1) (G fr 5) σ) k275))) = c275_2b run fu s2 x0 x1 x5 σ := by kernel_rfl

theorem owed275_2 {run : RunT} (hrun : RunOK X0 run) (fu : Nat) (s2 : W3) : Owes X0 run 67 (.seq (.seq .leaf (.cond .leaf .leaf)) (.block (.seq .leaf (.seq (.seq .leaf (.cond .leaf .leaf)) .leaf)))) (subC [true, true, true, false, false, false] b275) (thenK (fun fr σ => s2 (G fr 0) (G fr 1) (G fr 5) σ) (blockK 0 (thenK (fun fr σ => c275_1 run fu (G fr 0) (G fr 1) (G fr 5) σ) k275))) :=
  ⟨⟨trivial, ⟨trivial, trivial⟩⟩, ⟨trivial, ⟨⟨trivial, ⟨trivial, trivial⟩⟩, trivial⟩⟩⟩

theorem ok275_2 {run : RunT} (hrun : RunOK X0 run) (fu : Nat) : ∀ fr σ, KOK X0 67 (subC [true, true, true, false, false] b275) fr σ ((fun fr σ => c275_2 run fu fu (G fr 0) (G fr 1) (G fr 5) σ) fr σ) (blockK 0 (thenK (fun fr σ => c275_1 run fu (G fr 0) (G fr 1) (G fr 5) σ) k275)) := by
  have h := KOK.loop (X := X0) (N := 67) (b := (subC [true, true, true, false, false, false] b275)) (k := (blockK 0 (thenK (fun fr σ => c275_1 run fu (G fr 0) (G fr 1) (G fr 5) σ) k275))) (u := fun m fr σ => c275_2 run fu m (G fr 0) (G fr 1) (G fr 5) σ) (fun _ _ => rfl) (fun m fr σ => KOK.piece env0 hrun [0, 1, 5] (eq275_2 run fu (c275_2 run fu m) (G fr 0) (G fr 1) (G fr 5) σ) (owed275_2 hrun fu (c275_2 run fu m)))
  exact fun fr σ => h fu fr σ

noncomputable def c275 (run : RunT) (fu : Nat) (x0 x1 : AV) (σ : Store) : Tr R :=
  nchkK x0 fun x10 =>
  addrK x10 1 fun x11 =>
  ld1K σ x11 fun x12 =>
  neOK (nilEq nilP) x12 .nilp fun x13 =>
  ifK x13 (
  nchkK x0 fun x15 =>
  addrK x15 1 fun x16 =>
  ld1K σ x16 fun x17 =>
  calK run 277 [x17, x1] σ fun x19 σ1 =>
  .ret (x19, σ1)) (
  nchkK x0 fun x21 =>
  addrK x21 0 fun x22 =>
  ld1K σ x22 fun x23 =>
  calK run 164 [x23, (.str [10])] σ fun x24 σ2 =>
  c275_2 run fu fu x0 x1 x24 σ2)

theorem eq275 (run : RunT) (fu : Nat) (x0 x1 : AV) (σ : Store) : codeK X0 run (.seq .leaf (.seq (.seq .leaf (.cond (.seq .leaf .leaf) .leaf)) (.seq .leaf (.seq (.block (.sub (fun fr σ => c275_2 run fu fu (G fr 0) (G fr 1) (G fr 5) σ))) (.sub (fun fr σ => c275_1 run fu (G fr 0) (G fr 1) (G fr 5) σ)))))) (subC [] b275) ([x0, x1] ++ padA (67 - 2)) σ k275 = c275 run fu x0 x1 σ := by kernel_rfl

theorem ok275 {run : RunT} (hrun : RunOK X0 run) (fu : Nat) (x0 x1 : AV) (σ : Store) : CallOK X0 275 [x0, x1] σ (c275 run fu x0 x1 σ) :=
  KOK.body (fn := Tryz.f275) (c := subC [] b275) (by kernel_rfl) (by kernel_rfl) (by show 2 ≤ 67; decide) (KOK.whole env0 hrun (eq275 run fu x0 x1 σ) ⟨trivial, ⟨⟨trivial, ⟨⟨trivial, trivial⟩, trivial⟩⟩, ⟨trivial, ⟨(ok275_2 hrun fu), (ok275_1 hrun fu)⟩⟩⟩⟩)

end Go.Proofs.YtfmgdjkcdmjloaaGreatDoor
