/- Functions of the program, told as Lean functions of abstract values and stores, each with its proof. -/
import Derived.Test.YtfmgdjkcdmjloaaGreatDoorSnX
import Derived.Test.YtfmgdjkcdmjloaaGreatDoorSnNc
import Derived.Test.YtfmgdjkcdmjloaaGreatDoorSnAb
set_option linter.unusedVariables false
set_option linter.unusedSimpArgs false
namespace Go.Proofs.YtfmgdjkcdmjloaaGreatDoor
open Go.AM
-- pub-paratext/laws.only

noncomputable def b11 : Code := match Tryz.f11.body with | some c => c | none => .skip

noncomputable def k11 : Kont R := retK Tryz.prog [.tmp 6]

noncomputable def c11_1 (run : RunT) (fu : Nat) (σ : Store) : Tr R :=
  .ret ((.bool true), σ)

theorem eq11_1 (run : RunT) (fu : Nat) (σ : Store) : codeK X0 run (.seq .leaf .leaf) (subC [true, true, true] b11) (frS 0 24 []) σ k11 = c11_1 run fu σ := by kernel_rfl

theorem ok11_1 {run : RunT} (hrun : RunOK X0 run) (fu : Nat) : ∀ fr σ, KOK X0 24 (subC [true, true, true] b11) fr σ ((fun fr σ => c11_1 run fu σ) fr σ) k11 := fun fr σ =>
  KOK.piece env0 hrun [] (eq11_1 run fu σ) ⟨trivial, trivial⟩

noncomputable def c11_2b (run : RunT) (fu : Nat) (s2 : W4) (x0 x1 x13 x14 : AV) (σ : Store) : Tr R :=
  cmpK .lss x14 x13 fun x15 =>
  ifK x15 (
  idxSK x0 x14 fun x20 =>
  calK run 24 [x1, x20] σ fun x21 σ1 =>
  cmpK .lss x21 (.int .i64 0) fun x22 =>
  ifK x22 (
  .ret ((.bool false), σ1)) (
  addK x14 (.int .i64 1) fun x23 =>
  s2 x0 x1 x13 x23 σ1)) (
  c11_1 run fu σ)

noncomputable def c11_2 (run : RunT) (fu : Nat) : Nat → W4
  | 0 => fun _ _ _ _ _ => .fail
  | m + 1 => c11_2b run fu (c11_2 run fu m)

theorem eq11_2 (run : RunT) (fu : Nat) (s2 : W4) (x0 x1 x13 x14 : AV) (σ : Store) : codeK X0 run (.seq .leaf (.seq (.cond .leaf .leaf) (.seq (.block (.seq .leaf (.seq .leaf (.cond (.seq .leaf .leaf) .leaf)))) .leaf))) (subC [true, true, false, true, false, false] b11) (frS 0 24 [(0, x0), (1, x1), (13, x13), (14, x14)]) σ (thenK (fun fr σ => s2 (G fr 0) (G fr 1) (G fr 13) (G fr 14) σ) (blockK 0 (thenK (fun fr σ => c11_1 run fu σ) k11))) = c11_2b run fu s2 x0 x1 x13 x14 σ := by kernel_rfl

theorem owed11_2 {run : RunT} (hrun : RunOK X0 run) (fu : Nat) (s2 : W4) : Owes X0 run 24 (.seq .leaf (.seq (.cond .leaf .leaf) (.seq (.block (.seq .leaf (.seq .leaf (.cond (.seq .leaf .leaf) .leaf)))) .leaf))) (subC [true, true, false, true, false, false] b11) (thenK (fun fr σ => s2 (G fr 0) (G fr 1) (G fr 13) (G fr 14) σ) (blockK 0 (thenK (fun fr σ => c11_1 run fu σ) k11))) :=
  ⟨trivial, ⟨⟨trivial, trivial⟩, ⟨⟨trivial, ⟨trivial, ⟨⟨trivial, trivial⟩, trivial⟩⟩⟩, trivial⟩⟩⟩

theorem ok11_2 {run : RunT} (hrun : RunOK X0 run) (fu : Nat) : ∀ fr σ, KOK X0 24 (subC [true, true, false, true, false] b11) fr σ ((fun fr σ => c11_2 run fu fu (G fr 0) (G fr 1) (G fr 13) (G fr 14) σ) fr σ) (blockK 0 (thenK (fun fr σ => c11_1 run fu σ) k11)) := by
  have h := KOK.loop (X := X0) (N := 24) (b := (subC [true, true, false, true, false, false] b11)) (k := (blockK 0 (thenK (fun fr σ => c11_1 run fu σ) k11))) (u := fun m fr σ => c11_2 run fu m (G fr 0) (G fr 1) (G fr 13) (G fr 14) σ) (fun _ _ => rfl) (fun m fr σ => KOK.piece env0 hrun [0, 1, 13, 14] (eq11_2 run fu (c11_2 run fu m) (G fr 0) (G fr 1) (G fr 13) (G fr 14) σ) (owed11_2 hrun fu (c11_2 run fu m)))
  exact fun fr σ => h fu fr σ

noncomputable def c11 (run : RunT) (fu : Nat) (x0 x1 x2 : AV) (σ : Store) : Tr R :=
  lenSK x0 fun x9 =>
  cmpK .gtr x9 x2 fun x11 =>
  ifK x11 (
  .ret ((.bool false), σ)) (
  lenSK x0 fun x13 =>
  c11_2 run fu fu x0 x1 x13 (.int .i64 0) σ)

theorem eq11 (run : RunT) (fu : Nat) (x0 x1 x2 : AV) (σ : Store) : codeK X0 run (.seq .leaf (.seq (.seq .leaf (.cond (.seq .leaf .leaf) .leaf)) (.seq (.seq .leaf (.block (.sub (fun fr σ => c11_2 run fu fu (G fr 0) (G fr 1) (G fr 13) (G fr 14) σ)))) (.sub (fun fr σ => c11_1 run fu σ))))) (subC [] b11) ([x0, x1, x2] ++ padA (24 - 3)) σ k11 = c11 run fu x0 x1 x2 σ := by kernel_rfl

theorem ok11 {run : RunT} (hrun : RunOK X0 run) (fu : Nat) (x0 x1 x2 : AV) (σ : Store) : CallOK X0 11 [x0, x1, x2] σ (c11 run fu x0 x1 x2 σ) :=
  KOK.body (fn := Tryz.f11) (c := subC [] b11) (by kernel_rfl) (by kernel_rfl) (by show 3 ≤ 24; decide) (KOK.whole env0 hrun (eq11 run fu x0 x1 x2 σ) ⟨trivial, ⟨⟨trivial, ⟨⟨trivial, trivial⟩, trivial⟩⟩, ⟨⟨trivial, (ok11_2 hrun fu)⟩, (ok11_1 hrun fu)⟩⟩⟩)

-- pub-paratext/pub/rscmarkdown.zzContains

noncomputable def b47 : Code := match Tryz.f47.body with | some c => c | none => .skip

noncomputable def k47 : Kont R := retK Tryz.prog [.tmp 4]

noncomputable def c47 (run : RunT) (fu : Nat) (x0 x1 : AV) (σ : Store) : Tr R :=
  calK run 50 [x0, x1] σ fun x7 σ1 =>
  cmpK .geq x7 (.int .i64 0) fun x8 =>
  .ret (x8, σ1)

theorem eq47 (run : RunT) (fu : Nat) (x0 x1 : AV) (σ : Store) : codeK X0 run (.seq .leaf (.seq .leaf .leaf)) (subC [] b47) ([x0, x1] ++ padA (9 - 2)) σ k47 = c47 run fu x0 x1 σ := by kernel_rfl

theorem ok47 {run : RunT} (hrun : RunOK X0 run) (fu : Nat) (x0 x1 : AV) (σ : Store) : CallOK X0 47 [x0, x1] σ (c47 run fu x0 x1 σ) :=
  KOK.body (fn := Tryz.f47) (c := subC [] b47) (by kernel_rfl) (by kernel_rfl) (by show 2 ≤ 9; decide) (KOK.whole env0 hrun (eq47 run fu x0 x1 σ) ⟨trivial, ⟨trivial, trivial⟩⟩)

-- pub-paratext/pub/rscmarkdown.zzIndex

noncomputable def b50 : Code := match Tryz.f50.body with | some c => c | none => .skip

noncomputable def k50 : Kont R := retK Tryz.prog [.tmp 4]

noncomputable def c50_1 (run : RunT) (fu : Nat) (σ : Store) : Tr R :=
  .ret ((.int .i64 (-1)), σ)

theorem eq50_1 (run : RunT) (fu : Nat) (σ : Store) : codeK X0 run (.seq .leaf .leaf) (subC [true, true] b50) (frS 0 25 []) σ k50 = c50_1 run fu σ := by kernel_rfl

theorem ok50_1 {run : RunT} (hrun : RunOK X0 run) (fu : Nat) : ∀ fr σ, KOK X0 25 (subC [true, true] b50) fr σ ((fun fr σ => c50_1 run fu σ) fr σ) k50 := fun fr σ =>
  KOK.piece env0 hrun [] (eq50_1 run fu σ) ⟨trivial, trivial⟩

noncomputable def c50_2b (run : RunT) (fu : Nat) (s2 : W3) (x0 x1 x5 : AV) (σ : Store) : Tr R :=
  lenSK x1 fun x8 =>
  addK x5 x8 fun x9 =>
  lenSK x0 fun x11 =>
  cmpK .leq x9 x11 fun x12 =>
  ifK x12 (
  lenSK x1 fun x19 =>
  addK x5 x19 fun x20 =>
  sliceSK x0 (some x5) (some x20) fun x21 =>
  eqSK x21 x1 fun x23 =>
  ifK x23 (
  .ret (x5, σ)) (
  addK x5 (.int .i64 1) fun x14 =>
  s2 x0 x1 x14 σ)) (
  c50_1 run fu σ)

noncomputable def c50_2 (run : RunT) (fu : Nat) : Nat → W3
  | 0 => fun _ _ _ _ => .fail
  | m + 1 => c50_2b run fu (c50_2 run fu m)

theorem eq50_2 (run : RunT) (fu : Nat) (s2 : W3) (x0 x1 x5 : AV) (σ : Store) : codeK X0 run (.seq (.seq .leaf (.cond .leaf .leaf)) (.seq (.block (.seq .leaf (.cond (.seq .leaf .leaf) .leaf))) .leaf)) (subC [true, false, true, false, false] b50) (frS 0 25 [(0, x0), (1, x1), (5, x5)]) σ (thenK (fun fr σ => s2 (G fr 0) (G fr 1) (G fr 5) σ) (blockK 0 (thenK (fun fr σ => c50_1 run fu σ) k50))) = c50_2b run fu s2 x0 x1 x5 σ := by kernel_rfl

theorem owed50_2 {run : RunT} (hrun : RunOK X0 run) (fu : Nat) (s2 : W3) : Owes X0 run 25 (.seq (.seq .leaf (.cond .leaf .leaf)) (.seq (.block (.seq .leaf (.cond (.seq .leaf .leaf) .leaf))) .leaf)) (subC [true, false, true, false, false] b50) (thenK (fun fr σ => s2 (G fr 0) (G fr 1) (G fr 5) σ) (blockK 0 (thenK (fun fr σ => c50_1 run fu σ) k50))) :=
  ⟨⟨trivial, ⟨trivial, trivial⟩⟩, ⟨⟨trivial, ⟨⟨trivial, trivial⟩, trivial⟩⟩, trivial⟩⟩

theorem ok50_2 {run : RunT} (hrun : RunOK X0 run) (fu : Nat) : ∀ fr σ, KOK X0 25 (subC [true, false, true, false] b50) fr σ ((fun fr σ => c50_2 run fu fu (G fr 0) (G fr 1) (G fr 5) σ) fr σ) (blockK 0 (thenK (fun fr σ => c50_1 run fu σ) k50)) := by
  have h := KOK.loop (X := X0) (N := 25) (b := (subC [true, false, true, false, false] b50)) (k := (blockK 0 (thenK (fun fr σ => c50_1 run fu σ) k50))) (u := fun m fr σ => c50_2 run fu m (G fr 0) (G fr 1) (G fr 5) σ) (fun _ _ => rfl) (fun m fr σ => KOK.piece env0 hrun [0, 1, 5] (eq50_2 run fu (c50_2 run fu m) (G fr 0) (G fr 1) (G fr 5) σ) (owed50_2 hrun fu (c50_2 run fu m)))
  exact fun fr σ => h fu fr σ

noncomputable def c50 (run : RunT) (fu : Nat) (x0 x1 : AV) (σ : Store) : Tr R :=
  c50_2 run fu fu x0 x1 (.int .i64 0) σ

theorem eq50 (run : RunT) (fu : Nat) (x0 x1 : AV) (σ : Store) : codeK X0 run (.seq .leaf (.seq (.seq .leaf (.block (.sub (fun fr σ => c50_2 run fu fu (G fr 0) (G fr 1) (G fr 5) σ)))) (.sub (fun fr σ => c50_1 run fu σ)))) (subC [] b50) ([x0, x1] ++ padA (25 - 2)) σ k50 = c50 run fu x0 x1 σ := by kernel_rfl

theorem ok50 {run : RunT} (hrun : RunOK X0 run) (fu : Nat) (x0 x1 : AV) (σ : Store) : CallOK X0 50 [x0, x1] σ (c50 run fu x0 x1 σ) :=
  KOK.body (fn := Tryz.f50) (c := subC [] b50) (by kernel_rfl) (by kernel_rfl) (by show 2 ≤ 25; decide) (KOK.whole env0 hrun (eq50 run fu x0 x1 σ) ⟨trivial, ⟨⟨trivial, (ok50_2 hrun fu)⟩, (ok50_1 hrun fu)⟩⟩)

-- pub-paratext/pub/rscmarkdown.trimSpaceTab

noncomputable def b60 : Code := match Tryz.f60.body with | some c => c | none => .skip

noncomputable def k60 : Kont R := retK Tryz.prog [.tmp 2]

noncomputable def c60_2 (run : RunT) (fu : Nat) (x0 x4 : AV) (σ : Store) : Tr R :=
  sliceSK x0 none (some x4) fun x48 =>
  .ret (x48, σ)

theorem eq60_2 (run : RunT) (fu : Nat) (x0 x4 : AV) (σ : Store) : codeK X0 run (.seq .leaf .leaf) (subC [true, true, true, true, true, true] b60) (frS 0 49 [(0, x0), (4, x4)]) σ k60 = c60_2 run fu x0 x4 σ := by kernel_rfl

theorem ok60_2 {run : RunT} (hrun : RunOK X0 run) (fu : Nat) : ∀ fr σ, KOK X0 49 (subC [true, true, true, true, true, true] b60) fr σ ((fun fr σ => c60_2 run fu (G fr 0) (G fr 4) σ) fr σ) k60 := fun fr σ =>
  KOK.piece env0 hrun [0, 4] (eq60_2 run fu (G fr 0) (G fr 4) σ) ⟨trivial, trivial⟩

noncomputable def c60_3b (run : RunT) (fu : Nat) (s3 : W2) (x0 x4 : AV) (σ : Store) : Tr R :=
  cmpK .gtr x4 (.int .i64 0) fun x29 =>
  grdK x29 true σ (fun f => f x0 σ) fun x31 σ1 =>
  grdK x29 true σ1 (fun f => f x4 σ1) fun x32 σ2 =>
  grdK x29 true σ2 (fun f => subK x32 (.int .i64 1) fun v => f v σ2) fun x33 σ3 =>
  grdK x29 true σ3 (fun f => idxSK x31 x33 fun v => f v σ3) fun x34 σ4 =>
  grdK x29 true σ4 (fun f => cmpK .eql x34 (.int .u8 32) fun v => f v σ4) fun x35 σ5 =>
  grdK x29 true σ5 (fun f => f x35 σ5) fun x36 σ6 =>
  grdK x36 false σ6 (fun f => f x0 σ6) fun x37 σ7 =>
  grdK x36 false σ7 (fun f => f x4 σ7) fun x38 σ8 =>
  grdK x36 false σ8 (fun f => subK x38 (.int .i64 1) fun v => f v σ8) fun x39 σ9 =>
  grdK x36 false σ9 (fun f => idxSK x37 x39 fun v => f v σ9) fun x40 σ10 =>
  grdK x36 false σ10 (fun f => cmpK .eql x40 (.int .u8 9) fun v => f v σ10) fun x41 σ11 =>
  grdK x29 true σ11 (fun f => pickK x36 (.bool true) x41 fun v => f v σ11) fun x42 σ12 =>
  pickK x29 x42 (.bool false) fun x43 =>
  ifK x43 (
  subK x4 (.int .i64 1) fun x45 =>
  s3 x0 x45 σ12) (
  c60_2 run fu x0 x4 σ12)

noncomputable def c60_3 (run : RunT) (fu : Nat) : Nat → W2
  | 0 => fun _ _ _ => .fail
  | m + 1 => c60_3b run fu (c60_3 run fu m)

theorem eq60_3 (run : RunT) (fu : Nat) (s3 : W2) (x0 x4 : AV) (σ : Store) : codeK X0 run (.seq (.seq .leaf (.cond .leaf .leaf)) (.block .leaf)) (subC [true, true, true, true, true, false, false, false] b60) (frS 0 49 [(0, x0), (4, x4)]) σ (thenK (fun fr σ => s3 (G fr 0) (G fr 4) σ) (blockK 2 (thenK (fun fr σ => c60_2 run fu (G fr 0) (G fr 4) σ) k60))) = c60_3b run fu s3 x0 x4 σ := by kernel_rfl

theorem owed60_3 {run : RunT} (hrun : RunOK X0 run) (fu : Nat) (s3 : W2) : Owes X0 run 49 (.seq (.seq .leaf (.cond .leaf .leaf)) (.block .leaf)) (subC [true, true, true, true, true, false, false, false] b60) (thenK (fun fr σ => s3 (G fr 0) (G fr 4) σ) (blockK 2 (thenK (fun fr σ => c60_2 run fu (G fr 0) (G fr 4) σ) k60))) :=
  ⟨⟨trivial, ⟨trivial, trivial⟩⟩, trivial⟩

theorem ok60_3 {run : RunT} (hrun : RunOK X0 run) (fu : Nat) : ∀ fr σ, KOK X0 49 (subC [true, true, true, true, true, false, false] b60) fr σ ((fun fr σ => c60_3 run fu fu (G fr 0) (G fr 4) σ) fr σ) (blockK 2 (thenK (fun fr σ => c60_2 run fu (G fr 0) (G fr 4) σ) k60)) := by
  have h := KOK.loop (X := X0) (N := 49) (b := (subC [true, true, true, true, true, false, false, false] b60)) (k := (blockK 2 (thenK (fun fr σ => c60_2 run fu (G fr 0) (G fr 4) σ) k60))) (u := fun m fr σ => c60_3 run fu m (G fr 0) (G fr 4) σ) (fun _ _ => rfl) (fun m fr σ => KOK.piece env0 hrun [0, 4] (eq60_3 run fu (c60_3 run fu m) (G fr 0) (G fr 4) σ) (owed60_3 hrun fu (c60_3 run fu m)))
  exact fun fr σ => h fu fr σ

noncomputable def c60_1 (run : RunT) (fu : Nat) (x0 x3 : AV) (σ : Store) : Tr R :=
  sliceSK x0 (some x3) none fun x25 =>
  lenSK x25 fun x27 =>
  c60_3 run fu fu x25 x27 σ

theorem eq60_1 (run : RunT) (fu : Nat) (x0 x3 : AV) (σ : Store) : codeK X0 run (.seq .leaf (.seq .leaf (.seq (.block (.sub (fun fr σ => c60_3 run fu fu (G fr 0) (G fr 4) σ))) (.sub (fun fr σ => c60_2 run fu (G fr 0) (G fr 4) σ))))) (subC [true, true, true] b60) (frS 0 49 [(0, x0), (3, x3)]) σ k60 = c60_1 run fu x0 x3 σ := by kernel_rfl

theorem ok60_1 {run : RunT} (hrun : RunOK X0 run) (fu : Nat) : ∀ fr σ, KOK X0 49 (subC [true, true, true] b60) fr σ ((fun fr σ => c60_1 run fu (G fr 0) (G fr 3) σ) fr σ) k60 := fun fr σ =>
  KOK.piece env0 hrun [0, 3] (eq60_1 run fu (G fr 0) (G fr 3) σ) ⟨trivial, ⟨trivial, ⟨(ok60_3 hrun fu), (ok60_2 hrun fu)⟩⟩⟩

noncomputable def c60_4b (run : RunT) (fu : Nat) (s4 : W2) (x0 x3 : AV) (σ : Store) : Tr R :=
  lenSK x0 fun x7 =>
  cmpK .lss x3 x7 fun x8 =>
  grdK x8 true σ (fun f => f x0 σ) fun x10 σ1 =>
  grdK x8 true σ1 (fun f => f x3 σ1) fun x11 σ2 =>
  grdK x8 true σ2 (fun f => idxSK x10 x11 fun v => f v σ2) fun x12 σ3 =>
  grdK x8 true σ3 (fun f => cmpK .eql x12 (.int .u8 32) fun v => f v σ3) fun x13 σ4 =>
  grdK x8 true σ4 (fun f => f x13 σ4) fun x14 σ5 =>
  grdK x14 false σ5 (fun f => f x0 σ5) fun x15 σ6 =>
  grdK x14 false σ6 (fun f => f x3 σ6) fun x16 σ7 =>
  grdK x14 false σ7 (fun f => idxSK x15 x16 fun v => f v σ7) fun x17 σ8 =>
  grdK x14 false σ8 (fun f => cmpK .eql x17 (.int .u8 9) fun v => f v σ8) fun x18 σ9 =>
  grdK x8 true σ9 (fun f => pickK x14 (.bool true) x18 fun v => f v σ9) fun x19 σ10 =>
  pickK x8 x19 (.bool false) fun x20 =>
  ifK x20 (
  addK x3 (.int .i64 1) fun x22 =>
  s4 x0 x22 σ10) (
  c60_1 run fu x0 x3 σ10)

noncomputable def c60_4 (run : RunT) (fu : Nat) : Nat → W2
  | 0 => fun _ _ _ => .fail
  | m + 1 => c60_4b run fu (c60_4 run fu m)

theorem eq60_4 (run : RunT) (fu : Nat) (s4 : W2) (x0 x3 : AV) (σ : Store) : codeK X0 run (.seq (.seq .leaf (.cond .leaf .leaf)) (.block .leaf)) (subC [true, true, false, false, false] b60) (frS 0 49 [(0, x0), (3, x3)]) σ (thenK (fun fr σ => s4 (G fr 0) (G fr 3) σ) (blockK 0 (thenK (fun fr σ => c60_1 run fu (G fr 0) (G fr 3) σ) k60))) = c60_4b run fu s4 x0 x3 σ := by kernel_rfl

theorem owed60_4 {run : RunT} (hrun : RunOK X0 run) (fu : Nat) (s4 : W2) : Owes X0 run 49 (.seq (.seq .leaf (.cond .leaf .leaf)) (.block .leaf)) (subC [true, true, false, false, false] b60) (thenK (fun fr σ => s4 (G fr 0) (G fr 3) σ) (blockK 0 (thenK (fun fr σ => c60_1 run fu (G fr 0) (G fr 3) σ) k60))) :=
  ⟨⟨trivial, ⟨trivial, trivial⟩⟩, trivial⟩

theorem ok60_4 {run : RunT} (hrun : RunOK X0 run) (fu : Nat) : ∀ fr σ, KOK X0 49 (subC [true, true, false, false] b60) fr σ ((fun fr σ => c60_4 run fu fu (G fr 0) (G fr 3) σ) fr σ) (blockK 0 (thenK (fun fr σ => c60_1 run fu (G fr 0) (G fr 3) σ) k60)) := by
  have h := KOK.loop (X := X0) (N := 49) (b := (subC [true, true, false, false, false] b60)) (k := (blockK 0 (thenK (fun fr σ => c60_1 run fu (G fr 0) (G fr 3) σ) k60))) (u := fun m fr σ => c60_4 run fu m (G fr 0) (G fr 3) σ) (fun _ _ => rfl) (fun m fr σ => KOK.piece env0 hrun [0, 3] (eq60_4 run fu (c60_4 run fu m) (G fr 0) (G fr 3) σ) (owed60_4 hrun fu (c60_4 run fu m)))
  exact fun fr σ => h fu fr σ

noncomputable def c60 (run : RunT) (fu : Nat) (x0 : AV) (σ : Store) : Tr R :=
  c60_4 run fu fu x0 (.int .i64 0) σ

theorem eq60 (run : RunT) (fu : Nat) (x0 : AV) (σ : Store) : codeK X0 run (.seq .leaf (.seq .leaf (.seq (.block (.sub (fun fr σ => c60_4 run fu fu (G fr 0) (G fr 3) σ))) (.sub (fun fr σ => c60_1 run fu (G fr 0) (G fr 3) σ))))) (subC [] b60) ([x0] ++ padA (49 - 1)) σ k60 = c60 run fu x0 σ := by kernel_rfl

theorem ok60 {run : RunT} (hrun : RunOK X0 run) (fu : Nat) (x0 : AV) (σ : Store) : CallOK X0 60 [x0] σ (c60 run fu x0 σ) :=
  KOK.body (fn := Tryz.f60) (c := subC [] b60) (by kernel_rfl) (by kernel_rfl) (by show 1 ≤ 49; decide) (KOK.whole env0 hrun (eq60 run fu x0 σ) ⟨trivial, ⟨trivial, ⟨(ok60_4 hrun fu), (ok60_1 hrun fu)⟩⟩⟩)

-- (pub-paratext/pub/rscmarkdown.zzPairs).WriteString

noncomputable def b253 : Code := match Tryz.f253.body with | some c => c | none => .skip

noncomputable def k253 : Kont R := retK Tryz.prog []

noncomputable def c253_2 (run : RunT) (fu : Nat) (s1 : W4) (x0 x1 x2 x6 : AV) (σ : Store) : Tr R :=
  addK x6 (.int .i64 1) fun x13 =>
  s1 x0 x1 x2 x13 σ

theorem eq253_2 (run : RunT) (fu : Nat) (s1 : W4) (x0 x1 x2 x6 : AV) (σ : Store) : codeK X0 run .leaf (subC [false, true, true, false, false, true, true] b253) (frS 0 41 [(0, x0), (1, x1), (2, x2), (6, x6)]) σ (thenK (fun fr σ => s1 (G fr 0) (G fr 1) (G fr 2) (G fr 6) σ) (blockK 0 (noGotoK k253))) = c253_2 run fu s1 x0 x1 x2 x6 σ := by kernel_rfl

theorem ok253_2 {run : RunT} (hrun : RunOK X0 run) (fu : Nat) (s1 : W4) : ∀ fr σ, KOK X0 41 (subC [false, true, true, false, false, true, true] b253) fr σ ((fun fr σ => c253_2 run fu s1 (G fr 0) (G fr 1) (G fr 2) (G fr 6) σ) fr σ) (thenK (fun fr σ => s1 (G fr 0) (G fr 1) (G fr 2) (G fr 6) σ) (blockK 0 (noGotoK k253))) := fun fr σ =>
  KOK.piece env0 hrun [0, 1, 2, 6] (eq253_2 run fu s1 (G fr 0) (G fr 1) (G fr 2) (G fr 6) σ) trivial

noncomputable def c253_3 (run : RunT) (fu : Nat) (s1 : W4) (x0 x1 x2 x6 : AV) (σ : Store) : Tr R :=
  idxSK x2 x6 fun x39 =>
  calK run 254 [x1, x39] σ fun x40 σ1 =>
  c253_2 run fu s1 x0 x1 x2 x6 σ1

theorem eq253_3 (run : RunT) (fu : Nat) (s1 : W4) (x0 x1 x2 x6 : AV) (σ : Store) : codeK X0 run .leaf (subC [false, true, true, false, false, true, false, false, true] b253) (frS 0 41 [(0, x0), (1, x1), (2, x2), (6, x6)]) σ (blockK 1 (thenK (fun fr σ => c253_2 run fu s1 (G fr 0) (G fr 1) (G fr 2) (G fr 6) σ) (thenK (fun fr σ => s1 (G fr 0) (G fr 1) (G fr 2) (G fr 6) σ) (blockK 0 (noGotoK k253))))) = c253_3 run fu s1 x0 x1 x2 x6 σ := by kernel_rfl

theorem ok253_3 {run : RunT} (hrun : RunOK X0 run) (fu : Nat) (s1 : W4) : ∀ fr σ, KOK X0 41 (subC [false, true, true, false, false, true, false, false, true] b253) fr σ ((fun fr σ => c253_3 run fu s1 (G fr 0) (G fr 1) (G fr 2) (G fr 6) σ) fr σ) (blockK 1 (thenK (fun fr σ => c253_2 run fu s1 (G fr 0) (G fr 1) (G fr 2) (G fr 6) σ) (thenK (fun fr σ => s1 (G fr 0) (G fr 1) (G fr 2) (G fr 6) σ) (blockK 0 (noGotoK k253))))) := fun fr σ =>
  KOK.piece env0 hrun [0, 1, 2, 6] (eq253_3 run fu s1 (G fr 0) (G fr 1) (G fr 2) (G fr 6) σ) trivial

noncomputable def c253_4b (run : RunT) (fu : Nat) (s1 : W4) (s4 : W5) (x0 x1 x2 x6 x7 : AV) (σ : Store) : Tr R :=
  lenLK x0 fun x16 =>
  cmpK .lss x7 x16 fun x17 =>
  ifK x17 (
  idxSK x2 x6 fun x22 =>
  idxK 1 x0 x7 fun x25 =>
  ld1K σ x25 fun x26 =>
  idxSK x26 (.int .i64 0) fun x27 =>
  cmpK .eql x22 x27 fun x28 =>
  ifK x28 (
  addK x7 (.int .i64 1) fun x32 =>
  idxK 1 x0 x32 fun x33 =>
  ld1K σ x33 fun x34 =>
  calK run 240 [x1, x34] σ fun x35 σ1 =>
  c253_2 run fu s1 x0 x1 x2 x6 σ1) (
  addK x7 (.int .i64 2) fun x19 =>
  s4 x0 x1 x2 x6 x19 σ)) (
  c253_3 run fu s1 x0 x1 x2 x6 σ)

noncomputable def c253_4 (run : RunT) (fu : Nat) (s1 : W4) : Nat → W5
  | 0 => fun _ _ _ _ _ _ => .fail
  | m + 1 => c253_4b run fu s1 (c253_4 run fu s1 m)

theorem eq253_4 (run : RunT) (fu : Nat) (s1 : W4) (s4 : W5) (x0 x1 x2 x6 x7 : AV) (σ : Store) : codeK X0 run (.seq (.seq .leaf (.cond .leaf .leaf)) (.seq (.block (.seq .leaf (.cond (.seq .leaf .leaf) .leaf))) .leaf)) (subC [false, true, true, false, false, true, false, false, false, true, false, false] b253) (frS 0 41 [(0, x0), (1, x1), (2, x2), (6, x6), (7, x7)]) σ (thenK (fun fr σ => s4 (G fr 0) (G fr 1) (G fr 2) (G fr 6) (G fr 7) σ) (blockK 2 (thenK (fun fr σ => c253_3 run fu s1 (G fr 0) (G fr 1) (G fr 2) (G fr 6) σ) (blockK 1 (thenK (fun fr σ => c253_2 run fu s1 (G fr 0) (G fr 1) (G fr 2) (G fr 6) σ) (thenK (fun fr σ => s1 (G fr 0) (G fr 1) (G fr 2) (G fr 6) σ) (blockK 0 (noGotoK k253)))))))) = c253_4b run fu s1 s4 x0 x1 x2 x6 x7 σ := by kernel_rfl

theorem owed253_4 {run : RunT} (hrun : RunOK X0 run) (fu : Nat) (s1 : W4) (s4 : W5) : Owes X0 run 41 (.seq (.seq .leaf (.cond .leaf .leaf)) (.seq (.block (.seq .leaf (.cond (.seq .leaf .leaf) .leaf))) .leaf)) (subC [false, true, true, false, false, true, false, false, false, true, false, false] b253) (thenK (fun fr σ => s4 (G fr 0) (G fr 1) (G fr 2) (G fr 6) (G fr 7) σ) (blockK 2 (thenK (fun fr σ => c253_3 run fu s1 (G fr 0) (G fr 1) (G fr 2) (G fr 6) σ) (blockK 1 (thenK (fun fr σ => c253_2 run fu s1 (G fr 0) (G fr 1) (G fr 2) (G fr 6) σ) (thenK (fun fr σ => s1 (G fr 0) (G fr 1) (G fr 2) (G fr 6) σ) (blockK 0 (noGotoK k253)))))))) :=
  ⟨⟨trivial, ⟨trivial, trivial⟩⟩, ⟨⟨trivial, ⟨⟨trivial, trivial⟩, trivial⟩⟩, trivial⟩⟩

theorem ok253_4 {run : RunT} (hrun : RunOK X0 run) (fu : Nat) (s1 : W4) : ∀ fr σ, KOK X0 41 (subC [false, true, true, false, false, true, false, false, false, true, false] b253) fr σ ((fun fr σ => c253_4 run fu s1 fu (G fr 0) (G fr 1) (G fr 2) (G fr 6) (G fr 7) σ) fr σ) (blockK 2 (thenK (fun fr σ => c253_3 run fu s1 (G fr 0) (G fr 1) (G fr 2) (G fr 6) σ) (blockK 1 (thenK (fun fr σ => c253_2 run fu s1 (G fr 0) (G fr 1) (G fr 2) (G fr 6) σ) (thenK (fun fr σ => s1 (G fr 0) (G fr 1) (G fr 2) (G fr 6) σ) (blockK 0 (noGotoK k253))))))) := by
  have h := KOK.loop (X := X0) (N := 41) (b := (subC [false, true, true, false, false, true, false, false, false, true, false, false] b253)) (k := (blockK 2 (thenK (fun fr σ => c253_3 run fu s1 (G fr 0) (G fr 1) (G fr 2) (G fr 6) σ) (blockK 1 (thenK (fun fr σ => c253_2 run fu s1 (G fr 0) (G fr 1) (G fr 2) (G fr 6) σ) (thenK (fun fr σ => s1 (G fr 0) (G fr 1) (G fr 2) (G fr 6) σ) (blockK 0 (noGotoK k253)))))))) (u := fun m fr σ => c253_4 run fu s1 m (G fr 0) (G fr 1) (G fr 2) (G fr 6) (G fr 7) σ) (fun _ _ => rfl) (fun m fr σ => KOK.piece env0 hrun [0, 1, 2, 6, 7] (eq253_4 run fu s1 (c253_4 run fu s1 m) (G fr 0) (G fr 1) (G fr 2) (G fr 6) (G fr 7) σ) (owed253_4 hrun fu s1 (c253_4 run fu s1 m)))
  exact fun fr σ => h fu fr σ

noncomputable def c253_1b (run : RunT) (fu : Nat) (s1 : W4) (x0 x1 x2 x6 : AV) (σ : Store) : Tr R :=
  lenSK x2 fun x10 =>
  cmpK .lss x6 x10 fun x11 =>
  ifK x11 (
  c253_4 run fu s1 fu x0 x1 x2 x6 (.int .i64 0) σ) (
  .ret (.tup [], σ))

noncomputable def c253_1 (run : RunT) (fu : Nat) : Nat → W4
  | 0 => fun _ _ _ _ _ => .fail
  | m + 1 => c253_1b run fu (c253_1 run fu m)

theorem eq253_1 (run : RunT) (fu : Nat) (s1 : W4) (x0 x1 x2 x6 : AV) (σ : Store) : codeK X0 run (.seq (.seq .leaf (.cond .leaf .leaf)) (.seq (.block (.seq (.seq .leaf (.block (.sub (fun fr σ => c253_4 run fu s1 fu (G fr 0) (G fr 1) (G fr 2) (G fr 6) (G fr 7) σ)))) (.sub (fun fr σ => c253_3 run fu s1 (G fr 0) (G fr 1) (G fr 2) (G fr 6) σ)))) (.sub (fun fr σ => c253_2 run fu s1 (G fr 0) (G fr 1) (G fr 2) (G fr 6) σ)))) (subC [false, true, true, false, false] b253) (frS 0 41 [(0, x0), (1, x1), (2, x2), (6, x6)]) σ (thenK (fun fr σ => s1 (G fr 0) (G fr 1) (G fr 2) (G fr 6) σ) (blockK 0 (noGotoK k253))) = c253_1b run fu s1 x0 x1 x2 x6 σ := by kernel_rfl

theorem owed253_1 {run : RunT} (hrun : RunOK X0 run) (fu : Nat) (s1 : W4) : Owes X0 run 41 (.seq (.seq .leaf (.cond .leaf .leaf)) (.seq (.block (.seq (.seq .leaf (.block (.sub (fun fr σ => c253_4 run fu s1 fu (G fr 0) (G fr 1) (G fr 2) (G fr 6) (G fr 7) σ)))) (.sub (fun fr σ => c253_3 run fu s1 (G fr 0) (G fr 1) (G fr 2) (G fr 6) σ)))) (.sub (fun fr σ => c253_2 run fu s1 (G fr 0) (G fr 1) (G fr 2) (G fr 6) σ)))) (subC [false, true, true, false, false] b253) (thenK (fun fr σ => s1 (G fr 0) (G fr 1) (G fr 2) (G fr 6) σ) (blockK 0 (noGotoK k253))) :=
  ⟨⟨trivial, ⟨trivial, trivial⟩⟩, ⟨⟨⟨trivial, (ok253_4 hrun fu s1)⟩, (ok253_3 hrun fu s1)⟩, (ok253_2 hrun fu s1)⟩⟩

theorem ok253_1 {run : RunT} (hrun : RunOK X0 run) (fu : Nat) : ∀ fr σ, KOK X0 41 (subC [false, true, true, false] b253) fr σ ((fun fr σ => c253_1 run fu fu (G fr 0) (G fr 1) (G fr 2) (G fr 6) σ) fr σ) (blockK 0 (noGotoK k253)) := by
  have h := KOK.loop (X := X0) (N := 41) (b := (subC [false, true, true, false, false] b253)) (k := (blockK 0 (noGotoK k253))) (u := fun m fr σ => c253_1 run fu m (G fr 0) (G fr 1) (G fr 2) (G fr 6) σ) (fun _ _ => rfl) (fun m fr σ => KOK.piece env0 hrun [0, 1, 2, 6] (eq253_1 run fu (c253_1 run fu m) (G fr 0) (G fr 1) (G fr 2) (G fr 6) σ) (owed253_1 hrun fu (c253_1 run fu m)))
  exact fun fr σ => h fu fr σ

noncomputable def c253 (run : RunT) (fu : Nat) (x0 x1 x2 : AV) (σ : Store) : Tr R :=
  c253_1 run fu fu x0 x1 x2 (.int .i64 0) σ

theorem eq253 (run : RunT) (fu : Nat) (x0 x1 x2 : AV) (σ : Store) : codeK X0 run (.scope (.seq .leaf (.seq .leaf (.block (.sub (fun fr σ => c253_1 run fu fu (G fr 0) (G fr 1) (G fr 2) (G fr 6) σ)))))) (subC [] b253) ([x0, x1, x2] ++ padA (41 - 3)) σ k253 = c253 run fu x0 x1 x2 σ := by kernel_rfl

theorem ok253 {run : RunT} (hrun : RunOK X0 run) (fu : Nat) (x0 x1 x2 : AV) (σ : Store) : CallOK X0 253 [x0, x1, x2] σ (c253 run fu x0 x1 x2 σ) :=
  KOK.body (fn := Tryz.f253) (c := subC [] b253) (by kernel_rfl) (by kernel_rfl) (by show 3 ≤ 41; decide) (KOK.whole env0 hrun (eq253 run fu x0 x1 x2 σ) ⟨trivial, ⟨trivial, (ok253_1 hrun fu)⟩⟩)

end Go.Proofs.YtfmgdjkcdmjloaaGreatDoor
