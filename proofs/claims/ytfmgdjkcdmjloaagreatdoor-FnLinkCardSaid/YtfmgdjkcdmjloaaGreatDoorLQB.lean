/- Functions of the program, told as Lean functions of abstract values and stores, each with its proof. -/
import Derived.Test.YtfmgdjkcdmjloaaGreatDoorSzX
import Derived.Test.YtfmgdjkcdmjloaaGreatDoorSzRe
import Derived.Test.YtfmgdjkcdmjloaaGreatDoorSzAb
set_option linter.unusedVariables false
set_option linter.unusedSimpArgs false
namespace Go.Proofs.YtfmgdjkcdmjloaaGreatDoor
open Go.AM
-- (*pub-paratext/pub/rscmarkdown.parseState).mergePlain

noncomputable def b78 : Code := match Tryz.f78.body with | some c => c | none => .skip

noncomputable def k78 : Kont R := retK Tryz.prog [.tmp 4]

noncomputable def c78_1 (run : RunT) (fu : Nat) (x5 : AV) (σ : Store) : Tr R :=
  .ret (x5, σ)

theorem eq78_1 (run : RunT) (fu : Nat) (x5 : AV) (σ : Store) : codeK X0 run (.seq .leaf .leaf) (subC [true, true, true, true] b78) (frS 0 50 [(5, x5)]) σ k78 = c78_1 run fu x5 σ := by kernel_rfl

theorem ok78_1 {run : RunT} (hrun : RunOK X0 run) (fu : Nat) : ∀ fr σ, KOK X0 50 (subC [true, true, true, true] b78) fr σ ((fun fr σ => c78_1 run fu (G fr 5) σ) fr σ) k78 := fun fr σ =>
  KOK.piece env0 hrun [5] (eq78_1 run fu (G fr 5) σ) ⟨trivial, trivial⟩

noncomputable def c78_3 (run : RunT) (fu : Nat) (s2 : W4) (x1 x5 x6 x7 : AV) (σ : Store) : Tr R :=
  addK x7 (.int .i64 1) fun x11 =>
  s2 x1 x5 x6 x11 σ

theorem eq78_3 (run : RunT) (fu : Nat) (s2 : W4) (x1 x5 x6 x7 : AV) (σ : Store) : codeK X0 run .leaf (subC [true, true, true, false, true, false, false, true] b78) (frS 0 50 [(1, x1), (5, x5), (6, x6), (7, x7)]) σ (thenK (fun fr σ => s2 (G fr 1) (G fr 5) (G fr 6) (G fr 7) σ) (blockK 0 (thenK (fun fr σ => c78_1 run fu (G fr 5) σ) k78))) = c78_3 run fu s2 x1 x5 x6 x7 σ := by kernel_rfl

theorem ok78_3 {run : RunT} (hrun : RunOK X0 run) (fu : Nat) (s2 : W4) : ∀ fr σ, KOK X0 50 (subC [true, true, true, false, true, false, false, true] b78) fr σ ((fun fr σ => c78_3 run fu s2 (G fr 1) (G fr 5) (G fr 6) (G fr 7) σ) fr σ) (thenK (fun fr σ => s2 (G fr 1) (G fr 5) (G fr 6) (G fr 7) σ) (blockK 0 (thenK (fun fr σ => c78_1 run fu (G fr 5) σ) k78))) := fun fr σ =>
  KOK.piece env0 hrun [1, 5, 6, 7] (eq78_3 run fu s2 (G fr 1) (G fr 5) (G fr 6) (G fr 7) σ) trivial

noncomputable def c78_4 (run : RunT) (fu : Nat) (s2 : W4) (x1 x5 x7 : AV) (σ : Store) : Tr R :=
  lenLK x1 fun x38 =>
  cmpK .geq x7 x38 fun x39 =>
  ifK x39 (
  c78_1 run fu x5 σ) (
  idxK 1 x1 x7 fun x43 =>
  ld1K σ x43 fun x44 =>
  opt (fillK [.nili] [(0, 1, x44)]) fun cs => newSK σ 253 cs 1 1 fun x45 σ1 =>
  appK 126 1 16 σ1 x5 x45 fun x46 σ2 =>
  addK x7 (.int .i64 1) fun x48 =>
  c78_3 run fu s2 x1 x46 x48 x7 σ2)

theorem eq78_4 (run : RunT) (fu : Nat) (s2 : W4) (x1 x5 x7 : AV) (σ : Store) : codeK X0 run (.seq (.seq .leaf (.cond .leaf .leaf)) (.seq .leaf .leaf)) (subC [true, true, true, false, true, false, false, false, false, true, true] b78) (frS 0 50 [(1, x1), (5, x5), (7, x7)]) σ (blockK 1 (thenK (fun fr σ => c78_3 run fu s2 (G fr 1) (G fr 5) (G fr 6) (G fr 7) σ) (thenK (fun fr σ => s2 (G fr 1) (G fr 5) (G fr 6) (G fr 7) σ) (blockK 0 (thenK (fun fr σ => c78_1 run fu (G fr 5) σ) k78))))) = c78_4 run fu s2 x1 x5 x7 σ := by kernel_rfl

theorem ok78_4 {run : RunT} (hrun : RunOK X0 run) (fu : Nat) (s2 : W4) : ∀ fr σ, KOK X0 50 (subC [true, true, true, false, true, false, false, false, false, true, true] b78) fr σ ((fun fr σ => c78_4 run fu s2 (G fr 1) (G fr 5) (G fr 7) σ) fr σ) (blockK 1 (thenK (fun fr σ => c78_3 run fu s2 (G fr 1) (G fr 5) (G fr 6) (G fr 7) σ) (thenK (fun fr σ => s2 (G fr 1) (G fr 5) (G fr 6) (G fr 7) σ) (blockK 0 (thenK (fun fr σ => c78_1 run fu (G fr 5) σ) k78))))) := fun fr σ =>
  KOK.piece env0 hrun [1, 5, 7] (eq78_4 run fu s2 (G fr 1) (G fr 5) (G fr 7) σ) ⟨⟨trivial, ⟨trivial, trivial⟩⟩, ⟨trivial, trivial⟩⟩

noncomputable def c78_2b (run : RunT) (fu : Nat) (s2 : W4) (x1 x5 x6 x7 : AV) (σ : Store) : Tr R :=
  lenLK x1 fun x14 =>
  cmpK .lss x7 x14 fun x15 =>
  grdK x15 true σ (fun f => f x1 σ) fun x17 σ1 =>
  grdK x15 true σ1 (fun f => f x7 σ1) fun x18 σ2 =>
  grdK x15 true σ2 (fun f => idxK 1 x17 x18 fun v => f v σ2) fun x19 σ3 =>
  grdK x15 true σ3 (fun f => ld1K σ3 x19 fun v => f v σ3) fun x20 σ4 =>
  grdK x15 true σ4 (fun f => calK run 117 [x20] σ4 f) fun x21 σ5 =>
  grdK x15 true σ5 (fun f => neOK (nilEq nilP) x21 .nilp fun v => f v σ5) fun x22 σ6 =>
  pickK x15 x22 (.bool false) fun x23 =>
  ifK x23 (
  .fail) (
  cmpK .lss x6 x7 fun x26 =>
  ifK x26 (
  .fail) (
  c78_4 run fu s2 x1 x5 x7 σ6))

noncomputable def c78_2 (run : RunT) (fu : Nat) : Nat → W4
  | 0 => fun _ _ _ _ _ => .fail
  | m + 1 => c78_2b run fu (c78_2 run fu m)

theorem eq78_2 (run : RunT) (fu : Nat) (s2 : W4) (x1 x5 x6 x7 : AV) (σ : Store) : codeK X0 run (.seq (.block (.seq (.seq .leaf (.cond (.sub deadK) .leaf)) (.seq (.seq .leaf (.cond (.sub deadK) .leaf)) (.sub (fun fr σ => c78_4 run fu s2 (G fr 1) (G fr 5) (G fr 7) σ))))) (.sub (fun fr σ => c78_3 run fu s2 (G fr 1) (G fr 5) (G fr 6) (G fr 7) σ))) (subC [true, true, true, false, true, false, false] b78) (frS 0 50 [(1, x1), (5, x5), (6, x6), (7, x7)]) σ (thenK (fun fr σ => s2 (G fr 1) (G fr 5) (G fr 6) (G fr 7) σ) (blockK 0 (thenK (fun fr σ => c78_1 run fu (G fr 5) σ) k78))) = c78_2b run fu s2 x1 x5 x6 x7 σ := by kernel_rfl

theorem owed78_2 {run : RunT} (hrun : RunOK X0 run) (fu : Nat) (s2 : W4) : Owes X0 run 50 (.seq (.block (.seq (.seq .leaf (.cond (.sub deadK) .leaf)) (.seq (.seq .leaf (.cond (.sub deadK) .leaf)) (.sub (fun fr σ => c78_4 run fu s2 (G fr 1) (G fr 5) (G fr 7) σ))))) (.sub (fun fr σ => c78_3 run fu s2 (G fr 1) (G fr 5) (G fr 6) (G fr 7) σ))) (subC [true, true, true, false, true, false, false] b78) (thenK (fun fr σ => s2 (G fr 1) (G fr 5) (G fr 6) (G fr 7) σ) (blockK 0 (thenK (fun fr σ => c78_1 run fu (G fr 5) σ) k78))) :=
  ⟨⟨⟨trivial, ⟨KOK.dead, trivial⟩⟩, ⟨⟨trivial, ⟨KOK.dead, trivial⟩⟩, (ok78_4 hrun fu s2)⟩⟩, (ok78_3 hrun fu s2)⟩

theorem ok78_2 {run : RunT} (hrun : RunOK X0 run) (fu : Nat) : ∀ fr σ, KOK X0 50 (subC [true, true, true, false, true, false] b78) fr σ ((fun fr σ => c78_2 run fu fu (G fr 1) (G fr 5) (G fr 6) (G fr 7) σ) fr σ) (blockK 0 (thenK (fun fr σ => c78_1 run fu (G fr 5) σ) k78)) := by
  have h := KOK.loop (X := X0) (N := 50) (b := (subC [true, true, true, false, true, false, false] b78)) (k := (blockK 0 (thenK (fun fr σ => c78_1 run fu (G fr 5) σ) k78))) (u := fun m fr σ => c78_2 run fu m (G fr 1) (G fr 5) (G fr 6) (G fr 7) σ) (fun _ _ => rfl) (fun m fr σ => KOK.piece env0 hrun [1, 5, 6, 7] (eq78_2 run fu (c78_2 run fu m) (G fr 1) (G fr 5) (G fr 6) (G fr 7) σ) (owed78_2 hrun fu (c78_2 run fu m)))
  exact fun fr σ => h fu fr σ

noncomputable def c78 (run : RunT) (fu : Nat) (x0 x1 : AV) (σ : Store) : Tr R :=
  sliceLK Tryz.prog σ 84 x1 none (some (.int .i64 0)) fun x9 =>
  c78_2 run fu fu x1 x9 (.int .i64 0) (.int .i64 0) σ

theorem eq78 (run : RunT) (fu : Nat) (x0 x1 : AV) (σ : Store) : codeK X0 run (.seq .leaf (.seq .leaf (.seq .leaf (.seq (.seq .leaf (.block (.sub (fun fr σ => c78_2 run fu fu (G fr 1) (G fr 5) (G fr 6) (G fr 7) σ)))) (.sub (fun fr σ => c78_1 run fu (G fr 5) σ)))))) (subC [] b78) ([x0, x1] ++ padA (50 - 2)) σ k78 = c78 run fu x0 x1 σ := by kernel_rfl

theorem ok78 {run : RunT} (hrun : RunOK X0 run) (fu : Nat) (x0 x1 : AV) (σ : Store) : CallOK X0 78 [x0, x1] σ (c78 run fu x0 x1 σ) :=
  KOK.body (fn := Tryz.f78) (c := subC [] b78) (by kernel_rfl) (by kernel_rfl) (by show 2 ≤ 50; decide) (KOK.whole env0 hrun (eq78 run fu x0 x1 σ) ⟨trivial, ⟨trivial, ⟨trivial, ⟨⟨trivial, (ok78_2 hrun fu)⟩, (ok78_1 hrun fu)⟩⟩⟩⟩)

-- (*pub-paratext/pub/rscmarkdown.parseState).autoLinkText

noncomputable def b79 : Code := match Tryz.f79.body with | some c => c | none => .skip

noncomputable def k79 : Kont R := retK Tryz.prog [.tmp 4]

noncomputable def c79 (run : RunT) (fu : Nat) (x0 x1 : AV) (σ : Store) : Tr R :=
  nchkK x0 fun x14 =>
  addrK x14 0 fun x15 =>
  ld1K σ x15 fun x16 =>
  nchkK x16 fun x17 =>
  addrK x17 3 fun x18 =>
  ld1K σ x18 fun x19 =>
  notK x19 fun x20 =>
  ifK x20 (
  .ret (x1, σ)) (
  .fail)

theorem eq79 (run : RunT) (fu : Nat) (x0 x1 : AV) (σ : Store) : codeK X0 run (.seq .leaf (.seq (.seq .leaf (.cond (.seq .leaf .leaf) (.sub deadK))) .leaf)) (subC [] b79) ([x0, x1] ++ padA (98 - 2)) σ k79 = c79 run fu x0 x1 σ := by kernel_rfl

theorem ok79 {run : RunT} (hrun : RunOK X0 run) (fu : Nat) (x0 x1 : AV) (σ : Store) : CallOK X0 79 [x0, x1] σ (c79 run fu x0 x1 σ) :=
  KOK.body (fn := Tryz.f79) (c := subC [] b79) (by kernel_rfl) (by kernel_rfl) (by show 2 ≤ 98; decide) (KOK.whole env0 hrun (eq79 run fu x0 x1 σ) ⟨trivial, ⟨⟨trivial, ⟨⟨trivial, trivial⟩, KOK.dead⟩⟩, trivial⟩⟩)

-- pub-paratext/pub/rscmarkdown.trimLeftSpaceTab

noncomputable def b80 : Code := match Tryz.f80.body with | some c => c | none => .skip

noncomputable def k80 : Kont R := retK Tryz.prog [.tmp 2]

noncomputable def c80_1 (run : RunT) (fu : Nat) (x0 x3 : AV) (σ : Store) : Tr R :=
  sliceSK x0 (some x3) none fun x24 =>
  .ret (x24, σ)

theorem eq80_1 (run : RunT) (fu : Nat) (x0 x3 : AV) (σ : Store) : codeK X0 run (.seq .leaf .leaf) (subC [true, true, true] b80) (frS 0 25 [(0, x0), (3, x3)]) σ k80 = c80_1 run fu x0 x3 σ := by kernel_rfl

theorem ok80_1 {run : RunT} (hrun : RunOK X0 run) (fu : Nat) : ∀ fr σ, KOK X0 25 (subC [true, true, true] b80) fr σ ((fun fr σ => c80_1 run fu (G fr 0) (G fr 3) σ) fr σ) k80 := fun fr σ =>
  KOK.piece env0 hrun [0, 3] (eq80_1 run fu (G fr 0) (G fr 3) σ) ⟨trivial, trivial⟩

noncomputable def c80_2b (run : RunT) (fu : Nat) (s2 : W2) (x0 x3 : AV) (σ : Store) : Tr R :=
  lenSK x0 fun x6 =>
  cmpK .lss x3 x6 fun x7 =>
  grdK x7 true σ (fun f => f x0 σ) fun x9 σ1 =>
  grdK x7 true σ1 (fun f => f x3 σ1) fun x10 σ2 =>
  grdK x7 true σ2 (fun f => idxSK x9 x10 fun v => f v σ2) fun x11 σ3 =>
  grdK x7 true σ3 (fun f => cmpK .eql x11 (.int .u8 32) fun v => f v σ3) fun x12 σ4 =>
  grdK x7 true σ4 (fun f => f x12 σ4) fun x13 σ5 =>
  grdK x13 false σ5 (fun f => f x0 σ5) fun x14 σ6 =>
  grdK x13 false σ6 (fun f => f x3 σ6) fun x15 σ7 =>
  grdK x13 false σ7 (fun f => idxSK x14 x15 fun v => f v σ7) fun x16 σ8 =>
  grdK x13 false σ8 (fun f => cmpK .eql x16 (.int .u8 9) fun v => f v σ8) fun x17 σ9 =>
  grdK x7 true σ9 (fun f => pickK x13 (.bool true) x17 fun v => f v σ9) fun x18 σ10 =>
  pickK x7 x18 (.bool false) fun x19 =>
  ifK x19 (
  .fail) (
  c80_1 run fu x0 x3 σ10)

noncomputable def c80_2 (run : RunT) (fu : Nat) : Nat → W2
  | 0 => fun _ _ _ => .fail
  | m + 1 => c80_2b run fu (c80_2 run fu m)

theorem eq80_2 (run : RunT) (fu : Nat) (s2 : W2) (x0 x3 : AV) (σ : Store) : codeK X0 run (.seq (.seq .leaf (.cond (.sub deadK) .leaf)) .leaf) (subC [true, true, false, false, false] b80) (frS 0 25 [(0, x0), (3, x3)]) σ (thenK (fun fr σ => s2 (G fr 0) (G fr 3) σ) (blockK 0 (thenK (fun fr σ => c80_1 run fu (G fr 0) (G fr 3) σ) k80))) = c80_2b run fu s2 x0 x3 σ := by kernel_rfl

theorem owed80_2 {run : RunT} (hrun : RunOK X0 run) (fu : Nat) (s2 : W2) : Owes X0 run 25 (.seq (.seq .leaf (.cond (.sub deadK) .leaf)) .leaf) (subC [true, true, false, false, false] b80) (thenK (fun fr σ => s2 (G fr 0) (G fr 3) σ) (blockK 0 (thenK (fun fr σ => c80_1 run fu (G fr 0) (G fr 3) σ) k80))) :=
  ⟨⟨trivial, ⟨KOK.dead, trivial⟩⟩, trivial⟩

theorem ok80_2 {run : RunT} (hrun : RunOK X0 run) (fu : Nat) : ∀ fr σ, KOK X0 25 (subC [true, true, false, false] b80) fr σ ((fun fr σ => c80_2 run fu fu (G fr 0) (G fr 3) σ) fr σ) (blockK 0 (thenK (fun fr σ => c80_1 run fu (G fr 0) (G fr 3) σ) k80)) := by
  have h := KOK.loop (X := X0) (N := 25) (b := (subC [true, true, false, false, false] b80)) (k := (blockK 0 (thenK (fun fr σ => c80_1 run fu (G fr 0) (G fr 3) σ) k80))) (u := fun m fr σ => c80_2 run fu m (G fr 0) (G fr 3) σ) (fun _ _ => rfl) (fun m fr σ => KOK.piece env0 hrun [0, 3] (eq80_2 run fu (c80_2 run fu m) (G fr 0) (G fr 3) σ) (owed80_2 hrun fu (c80_2 run fu m)))
  exact fun fr σ => h fu fr σ

noncomputable def c80 (run : RunT) (fu : Nat) (x0 : AV) (σ : Store) : Tr R :=
  c80_2 run fu fu x0 (.int .i64 0) σ

theorem eq80 (run : RunT) (fu : Nat) (x0 : AV) (σ : Store) : codeK X0 run (.seq .leaf (.seq .leaf (.seq (.block (.sub (fun fr σ => c80_2 run fu fu (G fr 0) (G fr 3) σ))) (.sub (fun fr σ => c80_1 run fu (G fr 0) (G fr 3) σ))))) (subC [] b80) ([x0] ++ padA (25 - 1)) σ k80 = c80 run fu x0 σ := by kernel_rfl

theorem ok80 {run : RunT} (hrun : RunOK X0 run) (fu : Nat) (x0 : AV) (σ : Store) : CallOK X0 80 [x0] σ (c80 run fu x0 σ) :=
  KOK.body (fn := Tryz.f80) (c := subC [] b80) (by kernel_rfl) (by kernel_rfl) (by show 1 ≤ 25; decide) (KOK.whole env0 hrun (eq80 run fu x0 σ) ⟨trivial, ⟨trivial, ⟨(ok80_2 hrun fu), (ok80_1 hrun fu)⟩⟩⟩)

-- pub-paratext/pub/rscmarkdown.newQuote

noncomputable def b81 : Code := match Tryz.f81.body with | some c => c | none => .skip

noncomputable def k81 : Kont R := retK Tryz.prog [.cell 4 100, .tmp 5]

noncomputable def c81 (run : RunT) (fu : Nat) (x0 x1 : AV) (σ : Store) : Tr R :=
  boxK σ 201 x1 fun x3 σ1 =>
  newK σ1 201 [(.int .i64 0), (.int .i64 0), (.int .i64 0), (.str []), (.int .u8 0)] fun x4 σ2 =>
  ldNK σ2 x3 5 fun x9 =>
  calK run 120 [x9] σ2 fun x10 σ3 =>
  extK x10 0 fun x11 =>
  extK x10 1 fun x12 =>
  newK σ3 201 [(.int .i64 0), (.int .i64 0), (.int .i64 0), (.str []), (.int .u8 0)] fun x6 σ4 =>
  stNK σ4 x6 5 x11 fun _ σ5 =>
  ifK x12 (
  .fail) (
  ldNK σ5 x3 5 fun x19 =>
  stNK σ5 x4 5 x19 fun _ σ6 =>
  ldNK σ6 x4 5 fun v7 =>
  .ret (.tup [v7, (.bool false)], σ6))

theorem eq81 (run : RunT) (fu : Nat) (x0 x1 : AV) (σ : Store) : codeK X0 run (.seq .leaf (.seq (.seq .leaf (.seq .leaf (.cond (.sub deadK) .leaf))) (.seq .leaf .leaf))) (subC [] b81) ([x0, x1] ++ padA (20 - 2)) σ k81 = c81 run fu x0 x1 σ := by kernel_rfl

theorem ok81 {run : RunT} (hrun : RunOK X0 run) (fu : Nat) (x0 x1 : AV) (σ : Store) : CallOK X0 81 [x0, x1] σ (c81 run fu x0 x1 σ) :=
  KOK.body (fn := Tryz.f81) (c := subC [] b81) (by kernel_rfl) (by kernel_rfl) (by show 2 ≤ 20; decide) (KOK.whole env0 hrun (eq81 run fu x0 x1 σ) ⟨trivial, ⟨⟨trivial, ⟨trivial, ⟨KOK.dead, trivial⟩⟩⟩, ⟨trivial, trivial⟩⟩⟩)

-- pub-paratext/pub/rscmarkdown.newATXHeading

noncomputable def b82 : Code := match Tryz.f82.body with | some c => c | none => .skip

noncomputable def k82 : Kont R := retK Tryz.prog [.cell 4 100, .tmp 5]

noncomputable def c82_1 (run : RunT) (fu : Nat) (x3 x4 : AV) (σ : Store) : Tr R :=
  ldNK σ x3 5 fun x81 =>
  stNK σ x4 5 x81 fun _ σ1 =>
  ldNK σ1 x4 5 fun v2 =>
  .ret (.tup [v2, (.bool false)], σ1)

theorem eq82_1 (run : RunT) (fu : Nat) (x3 x4 : AV) (σ : Store) : codeK X0 run (.seq .leaf .leaf) (subC [true, true, true, true] b82) (frS 0 82 [(3, x3), (4, x4)]) σ k82 = c82_1 run fu x3 x4 σ := by kernel_rfl

theorem ok82_1 {run : RunT} (hrun : RunOK X0 run) (fu : Nat) : ∀ fr σ, KOK X0 82 (subC [true, true, true, true] b82) fr σ ((fun fr σ => c82_1 run fu (G fr 3) (G fr 4) σ) fr σ) k82 := fun fr σ =>
  KOK.piece env0 hrun [3, 4] (eq82_1 run fu (G fr 3) (G fr 4) σ) ⟨trivial, trivial⟩

noncomputable def c82 (run : RunT) (fu : Nat) (x0 x1 : AV) (σ : Store) : Tr R :=
  boxK σ 201 x1 fun x3 σ1 =>
  newK σ1 201 [(.int .i64 0), (.int .i64 0), (.int .i64 0), (.str []), (.int .u8 0)] fun x4 σ2 =>
  ldNK σ2 x3 5 fun x14 =>
  newK σ2 201 [(.int .i64 0), (.int .i64 0), (.int .i64 0), (.str []), (.int .u8 0)] fun x6 σ3 =>
  stNK σ3 x6 5 x14 fun _ σ4 =>
  newK σ4 7 [(.int .i64 0)] fun x7 σ5 =>
  calK run 121 [x6, x7] σ5 fun x15 σ6 =>
  ifK x15 (
  .fail) (
  c82_1 run fu x3 x4 σ6)

theorem eq82 (run : RunT) (fu : Nat) (x0 x1 : AV) (σ : Store) : codeK X0 run (.seq .leaf (.seq .leaf (.seq .leaf (.seq (.seq .leaf (.cond (.sub deadK) .leaf)) (.sub (fun fr σ => c82_1 run fu (G fr 3) (G fr 4) σ)))))) (subC [] b82) ([x0, x1] ++ padA (82 - 2)) σ k82 = c82 run fu x0 x1 σ := by kernel_rfl

theorem ok82 {run : RunT} (hrun : RunOK X0 run) (fu : Nat) (x0 x1 : AV) (σ : Store) : CallOK X0 82 [x0, x1] σ (c82 run fu x0 x1 σ) :=
  KOK.body (fn := Tryz.f82) (c := subC [] b82) (by kernel_rfl) (by kernel_rfl) (by show 2 ≤ 82; decide) (KOK.whole env0 hrun (eq82 run fu x0 x1 σ) ⟨trivial, ⟨trivial, ⟨trivial, ⟨⟨trivial, ⟨KOK.dead, trivial⟩⟩, (ok82_1 hrun fu)⟩⟩⟩⟩)

-- pub-paratext/pub/rscmarkdown.newSetextHeading

noncomputable def b83 : Code := match Tryz.f83.body with | some c => c | none => .skip

noncomputable def k83 : Kont R := retK Tryz.prog [.cell 4 100, .tmp 5]

noncomputable def c83 (run : RunT) (fu : Nat) (x0 x1 : AV) (σ : Store) : Tr R :=
  boxK σ 201 x1 fun x3 σ1 =>
  newK σ1 201 [(.int .i64 0), (.int .i64 0), (.int .i64 0), (.str []), (.int .u8 0)] fun x4 σ2 =>
  newK σ2 7 [(.int .i64 0)] fun x6 σ3 =>
  ldNK σ3 x3 5 fun x10 =>
  newK σ3 201 [(.int .i64 0), (.int .i64 0), (.int .i64 0), (.str []), (.int .u8 0)] fun x7 σ4 =>
  stNK σ4 x7 5 x10 fun _ σ5 =>
  calK run 129 [x0] σ5 fun x12 σ6 =>
  calK run 89 [x0] σ6 fun x14 σ7 =>
  eqOK (eqIfc Tryz.prog false) x12 (.iface 156 x14) fun x16 =>
  grdK x16 true σ7 (fun f => calK run 130 [x7, x6] σ7 f) fun x18 σ8 =>
  pickK x16 x18 (.bool false) fun x19 =>
  ifK x19 (
  .fail) (
  ldNK σ8 x3 5 fun x54 =>
  stNK σ8 x4 5 x54 fun _ σ9 =>
  ldNK σ9 x4 5 fun v10 =>
  .ret (.tup [v10, (.bool false)], σ9))

theorem eq83 (run : RunT) (fu : Nat) (x0 x1 : AV) (σ : Store) : codeK X0 run (.seq .leaf (.seq .leaf (.seq .leaf (.seq (.seq .leaf (.cond (.sub deadK) .leaf)) (.seq .leaf .leaf))))) (subC [] b83) ([x0, x1] ++ padA (55 - 2)) σ k83 = c83 run fu x0 x1 σ := by kernel_rfl

theorem ok83 {run : RunT} (hrun : RunOK X0 run) (fu : Nat) (x0 x1 : AV) (σ : Store) : CallOK X0 83 [x0, x1] σ (c83 run fu x0 x1 σ) :=
  KOK.body (fn := Tryz.f83) (c := subC [] b83) (by kernel_rfl) (by kernel_rfl) (by show 2 ≤ 55; decide) (KOK.whole env0 hrun (eq83 run fu x0 x1 σ) ⟨trivial, ⟨trivial, ⟨trivial, ⟨⟨trivial, ⟨KOK.dead, trivial⟩⟩, ⟨trivial, trivial⟩⟩⟩⟩⟩)

-- pub-paratext/pub/rscmarkdown.newHR

noncomputable def b84 : Code := match Tryz.f84.body with | some c => c | none => .skip

noncomputable def k84 : Kont R := retK Tryz.prog [.cell 4 100, .tmp 5]

noncomputable def c84 (run : RunT) (fu : Nat) (x0 x1 : AV) (σ : Store) : Tr R :=
  boxK σ 201 x1 fun x3 σ1 =>
  newK σ1 201 [(.int .i64 0), (.int .i64 0), (.int .i64 0), (.str []), (.int .u8 0)] fun x4 σ2 =>
  ldNK σ2 x3 5 fun x6 =>
  calK run 133 [x6] σ2 fun x7 σ3 =>
  ifK x7 (
  .fail) (
  ldNK σ3 x3 5 fun x24 =>
  stNK σ3 x4 5 x24 fun _ σ4 =>
  ldNK σ4 x4 5 fun v5 =>
  .ret (.tup [v5, (.bool false)], σ4))

theorem eq84 (run : RunT) (fu : Nat) (x0 x1 : AV) (σ : Store) : codeK X0 run (.seq .leaf (.seq (.seq .leaf (.cond (.sub deadK) .leaf)) (.seq .leaf .leaf))) (subC [] b84) ([x0, x1] ++ padA (25 - 2)) σ k84 = c84 run fu x0 x1 σ := by kernel_rfl

theorem ok84 {run : RunT} (hrun : RunOK X0 run) (fu : Nat) (x0 x1 : AV) (σ : Store) : CallOK X0 84 [x0, x1] σ (c84 run fu x0 x1 σ) :=
  KOK.body (fn := Tryz.f84) (c := subC [] b84) (by kernel_rfl) (by kernel_rfl) (by show 2 ≤ 25; decide) (KOK.whole env0 hrun (eq84 run fu x0 x1 σ) ⟨trivial, ⟨⟨trivial, ⟨KOK.dead, trivial⟩⟩, ⟨trivial, trivial⟩⟩⟩)

-- pub-paratext/pub/rscmarkdown.newListItem

noncomputable def b85 : Code := match Tryz.f85.body with | some c => c | none => .skip

noncomputable def k85 : Kont R := retK Tryz.prog [.cell 4 100, .tmp 5]

noncomputable def c85 (run : RunT) (fu : Nat) (x0 x1 : AV) (σ : Store) : Tr R :=
  boxK σ 201 x1 fun x3 σ1 =>
  newK σ1 201 [(.int .i64 0), (.int .i64 0), (.int .i64 0), (.str []), (.int .u8 0)] fun x4 σ2 =>
  calK run 134 [x0] σ2 fun x10 σ3 =>
  tasK (some .nilp) 237 true x10 fun x11 =>
  extK x11 0 fun x12 =>
  extK x11 1 fun x13 =>
  grdK x13 true σ3 (fun f => f x12 σ3) fun x16 σ4 =>
  grdK x13 true σ4 (fun f => nchkK x16 fun v => f v σ4) fun x17 σ5 =>
  grdK x13 true σ5 (fun f => addrK x17 4 fun v => f v σ5) fun x18 σ6 =>
  grdK x13 true σ6 (fun f => ld1K σ6 x18 fun v => f v σ6) fun x19 σ7 =>
  grdK x13 true σ7 (fun f => neOK (nilEq nilF) x19 .nilf fun v => f v σ7) fun x20 σ8 =>
  pickK x13 x20 (.bool false) fun x21 =>
  ifK x21 (
  .fail) (
  calK run 135 [x0, x3] σ8 fun x32 σ9 =>
  ifK x32 (
  .fail) (
  ldNK σ9 x3 5 fun x34 =>
  stNK σ9 x4 5 x34 fun _ σ10 =>
  ldNK σ10 x4 5 fun v11 =>
  .ret (.tup [v11, (.bool false)], σ10)))

theorem eq85 (run : RunT) (fu : Nat) (x0 x1 : AV) (σ : Store) : codeK X0 run (.seq .leaf (.seq (.seq .leaf (.seq .leaf (.cond (.sub deadK) .leaf))) (.seq (.seq .leaf (.cond (.sub deadK) .leaf)) (.seq .leaf .leaf)))) (subC [] b85) ([x0, x1] ++ padA (35 - 2)) σ k85 = c85 run fu x0 x1 σ := by kernel_rfl

theorem ok85 {run : RunT} (hrun : RunOK X0 run) (fu : Nat) (x0 x1 : AV) (σ : Store) : CallOK X0 85 [x0, x1] σ (c85 run fu x0 x1 σ) :=
  KOK.body (fn := Tryz.f85) (c := subC [] b85) (by kernel_rfl) (by kernel_rfl) (by show 2 ≤ 35; decide) (KOK.whole env0 hrun (eq85 run fu x0 x1 σ) ⟨trivial, ⟨⟨trivial, ⟨trivial, ⟨KOK.dead, trivial⟩⟩⟩, ⟨⟨trivial, ⟨KOK.dead, trivial⟩⟩, ⟨trivial, trivial⟩⟩⟩⟩)

-- pub-paratext/pub/rscmarkdown.newHTML

noncomputable def b86 : Code := match Tryz.f86.body with | some c => c | none => .skip

noncomputable def k86 : Kont R := retK Tryz.prog [.cell 4 100, .tmp 5]

noncomputable def c86 (run : RunT) (fu : Nat) (x0 x1 : AV) (σ : Store) : Tr R :=
  boxK σ 201 x1 fun x3 σ1 =>
  newK σ1 201 [(.int .i64 0), (.int .i64 0), (.int .i64 0), (.str []), (.int .u8 0)] fun x4 σ2 =>
  ldNK σ2 x3 5 fun x7 =>
  newK σ2 201 [(.int .i64 0), (.int .i64 0), (.int .i64 0), (.str []), (.int .u8 0)] fun x6 σ3 =>
  stNK σ3 x6 5 x7 fun _ σ4 =>
  calK run 136 [x0, x6] σ4 fun x9 σ5 =>
  ifK x9 (
  .fail) (
  ldNK σ5 x3 5 fun x11 =>
  stNK σ5 x4 5 x11 fun _ σ6 =>
  ldNK σ6 x4 5 fun v7 =>
  .ret (.tup [v7, (.bool false)], σ6))

theorem eq86 (run : RunT) (fu : Nat) (x0 x1 : AV) (σ : Store) : codeK X0 run (.seq .leaf (.seq .leaf (.seq (.seq .leaf (.cond (.sub deadK) .leaf)) (.seq .leaf .leaf)))) (subC [] b86) ([x0, x1] ++ padA (12 - 2)) σ k86 = c86 run fu x0 x1 σ := by kernel_rfl

theorem ok86 {run : RunT} (hrun : RunOK X0 run) (fu : Nat) (x0 x1 : AV) (σ : Store) : CallOK X0 86 [x0, x1] σ (c86 run fu x0 x1 σ) :=
  KOK.body (fn := Tryz.f86) (c := subC [] b86) (by kernel_rfl) (by kernel_rfl) (by show 2 ≤ 12; decide) (KOK.whole env0 hrun (eq86 run fu x0 x1 σ) ⟨trivial, ⟨trivial, ⟨⟨trivial, ⟨KOK.dead, trivial⟩⟩, ⟨trivial, trivial⟩⟩⟩⟩)

-- pub-paratext/pub/rscmarkdown.newFence

noncomputable def b87 : Code := match Tryz.f87.body with | some c => c | none => .skip

noncomputable def k87 : Kont R := retK Tryz.prog [.cell 4 100, .tmp 5]

noncomputable def c87_1 (run : RunT) (fu : Nat) (x3 x4 : AV) (σ : Store) : Tr R :=
  ldNK σ x3 5 fun x56 =>
  stNK σ x4 5 x56 fun _ σ1 =>
  ldNK σ1 x4 5 fun v2 =>
  .ret (.tup [v2, (.bool false)], σ1)

theorem eq87_1 (run : RunT) (fu : Nat) (x3 x4 : AV) (σ : Store) : codeK X0 run (.seq .leaf .leaf) (subC [true, true, true, true, true] b87) (frS 0 57 [(3, x3), (4, x4)]) σ k87 = c87_1 run fu x3 x4 σ := by kernel_rfl

theorem ok87_1 {run : RunT} (hrun : RunOK X0 run) (fu : Nat) : ∀ fr σ, KOK X0 57 (subC [true, true, true, true, true] b87) fr σ ((fun fr σ => c87_1 run fu (G fr 3) (G fr 4) σ) fr σ) k87 := fun fr σ =>
  KOK.piece env0 hrun [3, 4] (eq87_1 run fu (G fr 3) (G fr 4) σ) ⟨trivial, trivial⟩

noncomputable def c87 (run : RunT) (fu : Nat) (x0 x1 : AV) (σ : Store) : Tr R :=
  boxK σ 201 x1 fun x3 σ1 =>
  newK σ1 201 [(.int .i64 0), (.int .i64 0), (.int .i64 0), (.str []), (.int .u8 0)] fun x4 σ2 =>
  newK σ2 19 [(.str [])] fun x6 σ3 =>
  newK σ3 19 [(.str [])] fun x7 σ4 =>
  newK σ4 7 [(.int .i64 0)] fun x8 σ5 =>
  ldNK σ5 x3 5 fun x12 =>
  newK σ5 201 [(.int .i64 0), (.int .i64 0), (.int .i64 0), (.str []), (.int .u8 0)] fun x9 σ6 =>
  stNK σ6 x9 5 x12 fun _ σ7 =>
  calK run 137 [x9, x6, x7, x8] σ7 fun x13 σ8 =>
  ifK x13 (
  .fail) (
  c87_1 run fu x3 x4 σ8)

theorem eq87 (run : RunT) (fu : Nat) (x0 x1 : AV) (σ : Store) : codeK X0 run (.seq .leaf (.seq .leaf (.seq .leaf (.seq .leaf (.seq (.seq .leaf (.cond (.sub deadK) .leaf)) (.sub (fun fr σ => c87_1 run fu (G fr 3) (G fr 4) σ))))))) (subC [] b87) ([x0, x1] ++ padA (57 - 2)) σ k87 = c87 run fu x0 x1 σ := by kernel_rfl

theorem ok87 {run : RunT} (hrun : RunOK X0 run) (fu : Nat) (x0 x1 : AV) (σ : Store) : CallOK X0 87 [x0, x1] σ (c87 run fu x0 x1 σ) :=
  KOK.body (fn := Tryz.f87) (c := subC [] b87) (by kernel_rfl) (by kernel_rfl) (by show 2 ≤ 57; decide) (KOK.whole env0 hrun (eq87 run fu x0 x1 σ) ⟨trivial, ⟨trivial, ⟨trivial, ⟨trivial, ⟨⟨trivial, ⟨KOK.dead, trivial⟩⟩, (ok87_1 hrun fu)⟩⟩⟩⟩⟩)

-- pub-paratext/pub/rscmarkdown.newPre

noncomputable def b88 : Code := match Tryz.f88.body with | some c => c | none => .skip

noncomputable def k88 : Kont R := retK Tryz.prog [.cell 4 100, .tmp 5]

noncomputable def c88 (run : RunT) (fu : Nat) (x0 x1 : AV) (σ : Store) : Tr R :=
  boxK σ 201 x1 fun x3 σ1 =>
  newK σ1 201 [(.int .i64 0), (.int .i64 0), (.int .i64 0), (.str []), (.int .u8 0)] fun x4 σ2 =>
  ldNK σ2 x3 5 fun x8 =>
  newK σ2 201 [(.int .i64 0), (.int .i64 0), (.int .i64 0), (.str []), (.int .u8 0)] fun x6 σ3 =>
  stNK σ3 x6 5 x8 fun _ σ4 =>
  calK run 89 [x0] σ4 fun x10 σ5 =>
  eqOK (nilEq nilP) x10 .nilp fun x11 =>
  grdK x11 true σ5 (fun f => calK run 139 [x6, (.int .i64 4), (.int .i64 4), (.bool false)] σ5 f) fun x13 σ6 =>
  pickK x11 x13 (.bool false) fun x14 =>
  grdK x14 true σ6 (fun f => calK run 56 [x6] σ6 f) fun x16 σ7 =>
  grdK x14 true σ7 (fun f => notK x16 fun v => f v σ7) fun x17 σ8 =>
  pickK x14 x17 (.bool false) fun x18 =>
  ifK x18 (
  .fail) (
  ldNK σ8 x3 5 fun x48 =>
  stNK σ8 x4 5 x48 fun _ σ9 =>
  ldNK σ9 x4 5 fun v10 =>
  .ret (.tup [v10, (.bool false)], σ9))

theorem eq88 (run : RunT) (fu : Nat) (x0 x1 : AV) (σ : Store) : codeK X0 run (.seq .leaf (.seq .leaf (.seq (.seq .leaf (.cond (.sub deadK) .leaf)) (.seq .leaf .leaf)))) (subC [] b88) ([x0, x1] ++ padA (49 - 2)) σ k88 = c88 run fu x0 x1 σ := by kernel_rfl

theorem ok88 {run : RunT} (hrun : RunOK X0 run) (fu : Nat) (x0 x1 : AV) (σ : Store) : CallOK X0 88 [x0, x1] σ (c88 run fu x0 x1 σ) :=
  KOK.body (fn := Tryz.f88) (c := subC [] b88) (by kernel_rfl) (by kernel_rfl) (by show 2 ≤ 49; decide) (KOK.whole env0 hrun (eq88 run fu x0 x1 σ) ⟨trivial, ⟨trivial, ⟨⟨trivial, ⟨KOK.dead, trivial⟩⟩, ⟨trivial, trivial⟩⟩⟩⟩)

-- (*pub-paratext/pub/rscmarkdown.parseState).para

noncomputable def b89 : Code := match Tryz.f89.body with | some c => c | none => .skip

noncomputable def k89 : Kont R := retK Tryz.prog [.tmp 2]

noncomputable def c89 (run : RunT) (fu : Nat) (x0 : AV) (σ : Store) : Tr R :=
  nchkK x0 fun x7 =>
  addrK x7 4 fun x8 =>
  ld1K σ x8 fun x9 =>
  nchkK x0 fun x11 =>
  addrK x11 4 fun x12 =>
  ld1K σ x12 fun x13 =>
  lenLK x13 fun x14 =>
  subK x14 (.int .i64 1) fun x15 =>
  idxK 4 x9 x15 fun x16 =>
  addrK x16 0 fun x17 =>
  ld1K σ x17 fun x18 =>
  tasK (some .nilp) 156 true x18 fun x19 =>
  extK x19 0 fun x20 =>
  extK x19 1 fun x21 =>
  ifK x21 (
  .fail) (
  .ret (.nilp, σ))

theorem eq89 (run : RunT) (fu : Nat) (x0 : AV) (σ : Store) : codeK X0 run (.seq .leaf (.seq (.seq .leaf (.seq .leaf (.cond (.sub deadK) .leaf))) (.seq .leaf .leaf))) (subC [] b89) ([x0] ++ padA (24 - 1)) σ k89 = c89 run fu x0 σ := by kernel_rfl

theorem ok89 {run : RunT} (hrun : RunOK X0 run) (fu : Nat) (x0 : AV) (σ : Store) : CallOK X0 89 [x0] σ (c89 run fu x0 σ) :=
  KOK.body (fn := Tryz.f89) (c := subC [] b89) (by kernel_rfl) (by kernel_rfl) (by show 1 ≤ 24; decide) (KOK.whole env0 hrun (eq89 run fu x0 σ) ⟨trivial, ⟨⟨trivial, ⟨trivial, ⟨KOK.dead, trivial⟩⟩⟩, ⟨trivial, trivial⟩⟩⟩)

-- (*pub-paratext/pub/rscmarkdown.line).trimSpaceString

noncomputable def b90 : Code := match Tryz.f90.body with | some c => c | none => .skip

noncomputable def k90 : Kont R := retK Tryz.prog [.tmp 2]

noncomputable def c90 (run : RunT) (fu : Nat) (x0 : AV) (σ : Store) : Tr R :=
  nchkK x0 fun x4 =>
  addrK x4 3 fun x5 =>
  ld1K σ x5 fun x6 =>
  nchkK x0 fun x8 =>
  addrK x8 1 fun x9 =>
  ld1K σ x9 fun x10 =>
  sliceSK x6 (some x10) none fun x11 =>
  calK run 80 [x11] σ fun x12 σ1 =>
  .ret (x12, σ1)

theorem eq90 (run : RunT) (fu : Nat) (x0 : AV) (σ : Store) : codeK X0 run (.seq .leaf (.seq .leaf .leaf)) (subC [] b90) ([x0] ++ padA (13 - 1)) σ k90 = c90 run fu x0 σ := by kernel_rfl

theorem ok90 {run : RunT} (hrun : RunOK X0 run) (fu : Nat) (x0 : AV) (σ : Store) : CallOK X0 90 [x0] σ (c90 run fu x0 σ) :=
  KOK.body (fn := Tryz.f90) (c := subC [] b90) (by kernel_rfl) (by kernel_rfl) (by show 1 ≤ 13; decide) (KOK.whole env0 hrun (eq90 run fu x0 σ) ⟨trivial, ⟨trivial, trivial⟩⟩)

-- pub-paratext/pub/rscmarkdown.isPunct

noncomputable def b95 : Code := match Tryz.f95.body with | some c => c | none => .skip

noncomputable def k95 : Kont R := retK Tryz.prog [.tmp 2]

noncomputable def c95 (run : RunT) (fu : Nat) (x0 : AV) (σ : Store) : Tr R :=
  cmpK .leq (.int .u8 33) x0 fun x4 =>
  grdK x4 true σ (fun f => f x0 σ) fun x6 σ1 =>
  grdK x4 true σ1 (fun f => cmpK .leq x6 (.int .u8 47) fun v => f v σ1) fun x7 σ2 =>
  pickK x4 x7 (.bool false) fun x8 =>
  grdK x8 false σ2 (fun f => f x0 σ2) fun x10 σ3 =>
  grdK x8 false σ3 (fun f => cmpK .leq (.int .u8 58) x10 fun v => f v σ3) fun x11 σ4 =>
  grdK x8 false σ4 (fun f => f x11 σ4) fun x12 σ5 =>
  grdK x12 true σ5 (fun f => f x0 σ5) fun x13 σ6 =>
  grdK x12 true σ6 (fun f => cmpK .leq x13 (.int .u8 64) fun v => f v σ6) fun x14 σ7 =>
  grdK x8 false σ7 (fun f => pickK x12 x14 (.bool false) fun v => f v σ7) fun x15 σ8 =>
  pickK x8 (.bool true) x15 fun x16 =>
  grdK x16 false σ8 (fun f => f x0 σ8) fun x18 σ9 =>
  grdK x16 false σ9 (fun f => cmpK .leq (.int .u8 91) x18 fun v => f v σ9) fun x19 σ10 =>
  grdK x16 false σ10 (fun f => f x19 σ10) fun x20 σ11 =>
  grdK x20 true σ11 (fun f => f x0 σ11) fun x21 σ12 =>
  grdK x20 true σ12 (fun f => cmpK .leq x21 (.int .u8 96) fun v => f v σ12) fun x22 σ13 =>
  grdK x16 false σ13 (fun f => pickK x20 x22 (.bool false) fun v => f v σ13) fun x23 σ14 =>
  pickK x16 (.bool true) x23 fun x24 =>
  grdK x24 false σ14 (fun f => f x0 σ14) fun x26 σ15 =>
  grdK x24 false σ15 (fun f => cmpK .leq (.int .u8 123) x26 fun v => f v σ15) fun x27 σ16 =>
  grdK x24 false σ16 (fun f => f x27 σ16) fun x28 σ17 =>
  grdK x28 true σ17 (fun f => f x0 σ17) fun x29 σ18 =>
  grdK x28 true σ18 (fun f => cmpK .leq x29 (.int .u8 126) fun v => f v σ18) fun x30 σ19 =>
  grdK x24 false σ19 (fun f => pickK x28 x30 (.bool false) fun v => f v σ19) fun x31 σ20 =>
  pickK x24 (.bool true) x31 fun x32 =>
  .ret (x32, σ20)

theorem eq95 (run : RunT) (fu : Nat) (x0 : AV) (σ : Store) : codeK X0 run (.seq .leaf (.seq .leaf .leaf)) (subC [] b95) ([x0] ++ padA (33 - 1)) σ k95 = c95 run fu x0 σ := by kernel_rfl

theorem ok95 {run : RunT} (hrun : RunOK X0 run) (fu : Nat) (x0 : AV) (σ : Store) : CallOK X0 95 [x0] σ (c95 run fu x0 σ) :=
  KOK.body (fn := Tryz.f95) (c := subC [] b95) (by kernel_rfl) (by kernel_rfl) (by show 1 ≤ 33; decide) (KOK.whole env0 hrun (eq95 run fu x0 σ) ⟨trivial, ⟨trivial, trivial⟩⟩)

-- pub-paratext/pub/rscmarkdown.htmlEntity

noncomputable def b108 : Code := match Tryz.f108.body with | some c => c | none => .skip

noncomputable def k108 : Kont R := retK Tryz.prog [.tmp 2, .tmp 3]

noncomputable def c108_1 (run : RunT) (fu : Nat) (σ : Store) : Tr R :=
  .ret (.tup [(.str []), (.bool false)], σ)

theorem eq108_1 (run : RunT) (fu : Nat) (σ : Store) : codeK X0 run (.seq .leaf .leaf) (subC [true, true] b108) (frS 0 19 []) σ k108 = c108_1 run fu σ := by kernel_rfl

theorem ok108_1 {run : RunT} (hrun : RunOK X0 run) (fu : Nat) : ∀ fr σ, KOK X0 19 (subC [true, true] b108) fr σ ((fun fr σ => c108_1 run fu σ) fr σ) k108 := fun fr σ =>
  KOK.piece env0 hrun [] (eq108_1 run fu σ) ⟨trivial, trivial⟩

noncomputable def c108_2b (run : RunT) (fu : Nat) (s2 : W2) (x0 x4 : AV) (σ : Store) : Tr R :=
  cmpK .lss x4 (.int .i64 12) fun x6 =>
  ifK x6 (
  idxArrK 12 2 (.ref g1 0) x4 fun x10 =>
  idxArrK 2 1 x10 (.int .i64 0) fun x11 =>
  ld1K σ x11 fun x12 =>
  eqSK x12 x0 fun x14 =>
  ifK x14 (
  idxArrK 12 2 (.ref g1 0) x4 fun x16 =>
  idxArrK 2 1 x16 (.int .i64 1) fun x17 =>
  ld1K σ x17 fun x18 =>
  .ret (.tup [x18, (.bool true)], σ)) (
  addK x4 (.int .i64 1) fun x8 =>
  s2 x0 x8 σ)) (
  c108_1 run fu σ)

noncomputable def c108_2 (run : RunT) (fu : Nat) : Nat → W2
  | 0 => fun _ _ _ => .fail
  | m + 1 => c108_2b run fu (c108_2 run fu m)

theorem eq108_2 (run : RunT) (fu : Nat) (s2 : W2) (x0 x4 : AV) (σ : Store) : codeK X0 run (.seq (.seq .leaf (.cond .leaf .leaf)) (.seq (.block (.seq .leaf (.cond (.seq .leaf .leaf) .leaf))) .leaf)) (subC [true, false, true, false, false] b108) (frS 0 19 [(0, x0), (4, x4)]) σ (thenK (fun fr σ => s2 (G fr 0) (G fr 4) σ) (blockK 0 (thenK (fun fr σ => c108_1 run fu σ) k108))) = c108_2b run fu s2 x0 x4 σ := by kernel_rfl

theorem owed108_2 {run : RunT} (hrun : RunOK X0 run) (fu : Nat) (s2 : W2) : Owes X0 run 19 (.seq (.seq .leaf (.cond .leaf .leaf)) (.seq (.block (.seq .leaf (.cond (.seq .leaf .leaf) .leaf))) .leaf)) (subC [true, false, true, false, false] b108) (thenK (fun fr σ => s2 (G fr 0) (G fr 4) σ) (blockK 0 (thenK (fun fr σ => c108_1 run fu σ) k108))) :=
  ⟨⟨trivial, ⟨trivial, trivial⟩⟩, ⟨⟨trivial, ⟨⟨trivial, trivial⟩, trivial⟩⟩, trivial⟩⟩

theorem ok108_2 {run : RunT} (hrun : RunOK X0 run) (fu : Nat) : ∀ fr σ, KOK X0 19 (subC [true, false, true, false] b108) fr σ ((fun fr σ => c108_2 run fu fu (G fr 0) (G fr 4) σ) fr σ) (blockK 0 (thenK (fun fr σ => c108_1 run fu σ) k108)) := by
  have h := KOK.loop (X := X0) (N := 19) (b := (subC [true, false, true, false, false] b108)) (k := (blockK 0 (thenK (fun fr σ => c108_1 run fu σ) k108))) (u := fun m fr σ => c108_2 run fu m (G fr 0) (G fr 4) σ) (fun _ _ => rfl) (fun m fr σ => KOK.piece env0 hrun [0, 4] (eq108_2 run fu (c108_2 run fu m) (G fr 0) (G fr 4) σ) (owed108_2 hrun fu (c108_2 run fu m)))
  exact fun fr σ => h fu fr σ

noncomputable def c108 (run : RunT) (fu : Nat) (x0 : AV) (σ : Store) : Tr R :=
  c108_2 run fu fu x0 (.int .i64 0) σ

theorem eq108 (run : RunT) (fu : Nat) (x0 : AV) (σ : Store) : codeK X0 run (.seq .leaf (.seq (.seq .leaf (.block (.sub (fun fr σ => c108_2 run fu fu (G fr 0) (G fr 4) σ)))) (.sub (fun fr σ => c108_1 run fu σ)))) (subC [] b108) ([x0] ++ padA (19 - 1)) σ k108 = c108 run fu x0 σ := by kernel_rfl

theorem ok108 {run : RunT} (hrun : RunOK X0 run) (fu : Nat) (x0 : AV) (σ : Store) : CallOK X0 108 [x0] σ (c108 run fu x0 σ) :=
  KOK.body (fn := Tryz.f108) (c := subC [] b108) (by kernel_rfl) (by kernel_rfl) (by show 1 ≤ 19; decide) (KOK.whole env0 hrun (eq108 run fu x0 σ) ⟨trivial, ⟨⟨trivial, (ok108_2 hrun fu)⟩, (ok108_1 hrun fu)⟩⟩)

-- pub-paratext/pub/rscmarkdown.skipSpace

noncomputable def b110 : Code := match Tryz.f110.body with | some c => c | none => .skip

noncomputable def k110 : Kont R := retK Tryz.prog [.tmp 4]

noncomputable def c110_1 (run : RunT) (fu : Nat) (x1 : AV) (σ : Store) : Tr R :=
  .ret (x1, σ)

theorem eq110_1 (run : RunT) (fu : Nat) (x1 : AV) (σ : Store) : codeK X0 run (.seq .leaf .leaf) (subC [true, true] b110) (frS 0 30 [(1, x1)]) σ k110 = c110_1 run fu x1 σ := by kernel_rfl

theorem ok110_1 {run : RunT} (hrun : RunOK X0 run) (fu : Nat) : ∀ fr σ, KOK X0 30 (subC [true, true] b110) fr σ ((fun fr σ => c110_1 run fu (G fr 1) σ) fr σ) k110 := fun fr σ =>
  KOK.piece env0 hrun [1] (eq110_1 run fu (G fr 1) σ) ⟨trivial, trivial⟩

noncomputable def c110_2b (run : RunT) (fu : Nat) (s2 : W2) (x0 x1 : AV) (σ : Store) : Tr R :=
  lenSK x0 fun x7 =>
  cmpK .lss x1 x7 fun x8 =>
  grdK x8 true σ (fun f => f x0 σ) fun x10 σ1 =>
  grdK x8 true σ1 (fun f => f x1 σ1) fun x11 σ2 =>
  grdK x8 true σ2 (fun f => idxSK x10 x11 fun v => f v σ2) fun x12 σ3 =>
  grdK x8 true σ3 (fun f => cmpK .eql x12 (.int .u8 32) fun v => f v σ3) fun x13 σ4 =>
  grdK x8 true σ4 (fun f => f x13 σ4) fun x14 σ5 =>
  grdK x14 false σ5 (fun f => f x0 σ5) fun x15 σ6 =>
  grdK x14 false σ6 (fun f => f x1 σ6) fun x16 σ7 =>
  grdK x14 false σ7 (fun f => idxSK x15 x16 fun v => f v σ7) fun x17 σ8 =>
  grdK x14 false σ8 (fun f => cmpK .eql x17 (.int .u8 9) fun v => f v σ8) fun x18 σ9 =>
  grdK x8 true σ9 (fun f => pickK x14 (.bool true) x18 fun v => f v σ9) fun x19 σ10 =>
  grdK x8 true σ10 (fun f => f x19 σ10) fun x20 σ11 =>
  grdK x20 false σ11 (fun f => f x0 σ11) fun x21 σ12 =>
  grdK x20 false σ12 (fun f => f x1 σ12) fun x22 σ13 =>
  grdK x20 false σ13 (fun f => idxSK x21 x22 fun v => f v σ13) fun x23 σ14 =>
  grdK x20 false σ14 (fun f => cmpK .eql x23 (.int .u8 10) fun v => f v σ14) fun x24 σ15 =>
  grdK x8 true σ15 (fun f => pickK x20 (.bool true) x24 fun v => f v σ15) fun x25 σ16 =>
  pickK x8 x25 (.bool false) fun x26 =>
  ifK x26 (
  addK x1 (.int .i64 1) fun x28 =>
  s2 x0 x28 σ16) (
  c110_1 run fu x1 σ16)

noncomputable def c110_2 (run : RunT) (fu : Nat) : Nat → W2
  | 0 => fun _ _ _ => .fail
  | m + 1 => c110_2b run fu (c110_2 run fu m)

theorem eq110_2 (run : RunT) (fu : Nat) (s2 : W2) (x0 x1 : AV) (σ : Store) : codeK X0 run (.seq (.seq .leaf (.cond .leaf .leaf)) (.block .leaf)) (subC [true, false, false, false] b110) (frS 0 30 [(0, x0), (1, x1)]) σ (thenK (fun fr σ => s2 (G fr 0) (G fr 1) σ) (blockK 0 (thenK (fun fr σ => c110_1 run fu (G fr 1) σ) k110))) = c110_2b run fu s2 x0 x1 σ := by kernel_rfl

theorem owed110_2 {run : RunT} (hrun : RunOK X0 run) (fu : Nat) (s2 : W2) : Owes X0 run 30 (.seq (.seq .leaf (.cond .leaf .leaf)) (.block .leaf)) (subC [true, false, false, false] b110) (thenK (fun fr σ => s2 (G fr 0) (G fr 1) σ) (blockK 0 (thenK (fun fr σ => c110_1 run fu (G fr 1) σ) k110))) :=
  ⟨⟨trivial, ⟨trivial, trivial⟩⟩, trivial⟩

theorem ok110_2 {run : RunT} (hrun : RunOK X0 run) (fu : Nat) : ∀ fr σ, KOK X0 30 (subC [true, false, false] b110) fr σ ((fun fr σ => c110_2 run fu fu (G fr 0) (G fr 1) σ) fr σ) (blockK 0 (thenK (fun fr σ => c110_1 run fu (G fr 1) σ) k110)) := by
  have h := KOK.loop (X := X0) (N := 30) (b := (subC [true, false, false, false] b110)) (k := (blockK 0 (thenK (fun fr σ => c110_1 run fu (G fr 1) σ) k110))) (u := fun m fr σ => c110_2 run fu m (G fr 0) (G fr 1) σ) (fun _ _ => rfl) (fun m fr σ => KOK.piece env0 hrun [0, 1] (eq110_2 run fu (c110_2 run fu m) (G fr 0) (G fr 1) σ) (owed110_2 hrun fu (c110_2 run fu m)))
  exact fun fr σ => h fu fr σ

noncomputable def c110 (run : RunT) (fu : Nat) (x0 x1 : AV) (σ : Store) : Tr R :=
  c110_2 run fu fu x0 x1 σ

theorem eq110 (run : RunT) (fu : Nat) (x0 x1 : AV) (σ : Store) : codeK X0 run (.seq .leaf (.seq (.block (.sub (fun fr σ => c110_2 run fu fu (G fr 0) (G fr 1) σ))) (.sub (fun fr σ => c110_1 run fu (G fr 1) σ)))) (subC [] b110) ([x0, x1] ++ padA (30 - 2)) σ k110 = c110 run fu x0 x1 σ := by kernel_rfl

theorem ok110 {run : RunT} (hrun : RunOK X0 run) (fu : Nat) (x0 x1 : AV) (σ : Store) : CallOK X0 110 [x0, x1] σ (c110 run fu x0 x1 σ) :=
  KOK.body (fn := Tryz.f110) (c := subC [] b110) (by kernel_rfl) (by kernel_rfl) (by show 2 ≤ 30; decide) (KOK.whole env0 hrun (eq110 run fu x0 x1 σ) ⟨trivial, ⟨(ok110_2 hrun fu), (ok110_1 hrun fu)⟩⟩)

-- pub-paratext/pub/rscmarkdown.parseLinkDest

noncomputable def b111 : Code := match Tryz.f111.body with | some c => c | none => .skip

noncomputable def k111 : Kont R := retK Tryz.prog [.tmp 4, .tmp 5, .tmp 6]

noncomputable def c111_2 (run : RunT) (fu : Nat) (x0 x1 x9 : AV) (σ : Store) : Tr R :=
  sliceSK x0 (some x1) (some x9) fun x107 =>
  calK run 161 [x107] σ fun x109 σ1 =>
  .ret (.tup [x109, x9, (.bool true)], σ1)

theorem eq111_2 (run : RunT) (fu : Nat) (x0 x1 x9 : AV) (σ : Store) : codeK X0 run (.seq .leaf (.seq .leaf .leaf)) (subC [true, false, true, true, true, true, true, true] b111) (frS 0 111 [(0, x0), (1, x1), (9, x9)]) σ (noGotoK k111) = c111_2 run fu x0 x1 x9 σ := by kernel_rfl

theorem ok111_2 {run : RunT} (hrun : RunOK X0 run) (fu : Nat) : ∀ fr σ, KOK X0 111 (subC [true, false, true, true, true, true, true, true] b111) fr σ ((fun fr σ => c111_2 run fu (G fr 0) (G fr 1) (G fr 9) σ) fr σ) (noGotoK k111) := fun fr σ =>
  KOK.piece env0 hrun [0, 1, 9] (eq111_2 run fu (G fr 0) (G fr 1) (G fr 9) σ) ⟨trivial, ⟨trivial, trivial⟩⟩

noncomputable def c111_4 (run : RunT) (fu : Nat) (s3 : W4) (x0 x1 x8 x9 : AV) (σ : Store) : Tr R :=
  addK x9 (.int .i64 1) fun x63 =>
  s3 x0 x1 x8 x63 σ

theorem eq111_4 (run : RunT) (fu : Nat) (s3 : W4) (x0 x1 x8 x9 : AV) (σ : Store) : codeK X0 run .leaf (subC [true, false, true, true, true, true, true, false, false, false, true, true] b111) (frS 0 111 [(0, x0), (1, x1), (8, x8), (9, x9)]) σ (thenK (fun fr σ => s3 (G fr 0) (G fr 1) (G fr 8) (G fr 9) σ) (blockK 2 (thenK (fun fr σ => c111_2 run fu (G fr 0) (G fr 1) (G fr 9) σ) (noGotoK k111)))) = c111_4 run fu s3 x0 x1 x8 x9 σ := by kernel_rfl

theorem ok111_4 {run : RunT} (hrun : RunOK X0 run) (fu : Nat) (s3 : W4) : ∀ fr σ, KOK X0 111 (subC [true, false, true, true, true, true, true, false, false, false, true, true] b111) fr σ ((fun fr σ => c111_4 run fu s3 (G fr 0) (G fr 1) (G fr 8) (G fr 9) σ) fr σ) (thenK (fun fr σ => s3 (G fr 0) (G fr 1) (G fr 8) (G fr 9) σ) (blockK 2 (thenK (fun fr σ => c111_2 run fu (G fr 0) (G fr 1) (G fr 9) σ) (noGotoK k111)))) := fun fr σ =>
  KOK.piece env0 hrun [0, 1, 8, 9] (eq111_4 run fu s3 (G fr 0) (G fr 1) (G fr 8) (G fr 9) σ) trivial

noncomputable def c111_5 (run : RunT) (fu : Nat) (s3 : W4) (x0 x1 x8 x9 x100 : AV) (σ : Store) : Tr R :=
  ifK x100 (
  c111_2 run fu x0 x1 x9 σ) (
  c111_4 run fu s3 x0 x1 x8 x9 σ)

theorem eq111_5 (run : RunT) (fu : Nat) (s3 : W4) (x0 x1 x8 x9 x100 : AV) (σ : Store) : codeK X0 run (.cond .leaf .leaf) (subC [true, false, true, true, true, true, true, false, false, false, true, false, false, true, false, true, true, true, true, true, true, true] b111) (frS 0 111 [(0, x0), (1, x1), (8, x8), (9, x9), (100, x100)]) σ (blockK 4 (blockK 3 (thenK (fun fr σ => c111_4 run fu s3 (G fr 0) (G fr 1) (G fr 8) (G fr 9) σ) (thenK (fun fr σ => s3 (G fr 0) (G fr 1) (G fr 8) (G fr 9) σ) (blockK 2 (thenK (fun fr σ => c111_2 run fu (G fr 0) (G fr 1) (G fr 9) σ) (noGotoK k111))))))) = c111_5 run fu s3 x0 x1 x8 x9 x100 σ := by kernel_rfl

theorem ok111_5 {run : RunT} (hrun : RunOK X0 run) (fu : Nat) (s3 : W4) : ∀ fr σ, KOK X0 111 (subC [true, false, true, true, true, true, true, false, false, false, true, false, false, true, false, true, true, true, true, true, true, true] b111) fr σ ((fun fr σ => c111_5 run fu s3 (G fr 0) (G fr 1) (G fr 8) (G fr 9) (G fr 100) σ) fr σ) (blockK 4 (blockK 3 (thenK (fun fr σ => c111_4 run fu s3 (G fr 0) (G fr 1) (G fr 8) (G fr 9) σ) (thenK (fun fr σ => s3 (G fr 0) (G fr 1) (G fr 8) (G fr 9) σ) (blockK 2 (thenK (fun fr σ => c111_2 run fu (G fr 0) (G fr 1) (G fr 9) σ) (noGotoK k111))))))) := fun fr σ =>
  KOK.piece env0 hrun [0, 1, 8, 9, 100] (eq111_5 run fu s3 (G fr 0) (G fr 1) (G fr 8) (G fr 9) (G fr 100) σ) ⟨trivial, trivial⟩

noncomputable def c111_3b (run : RunT) (fu : Nat) (s3 : W4) (x0 x1 x8 x9 : AV) (σ : Store) : Tr R :=
  lenSK x0 fun x60 =>
  cmpK .lss x9 x60 fun x61 =>
  ifK x61 (
  idxSK x0 x9 fun x66 =>
  cmpK .eql x66 (.int .u8 40) fun x68 =>
  ifK x68 (
  addK x8 (.int .i64 1) fun x70 =>
  cmpK .gtr x70 (.int .i64 32) fun x72 =>
  ifK x72 (
  .ret (.tup [(.str []), (.int .i64 0), (.bool false)], σ)) (
  c111_4 run fu s3 x0 x1 x70 x9 σ)) (
  cmpK .eql x66 (.int .u8 41) fun x74 =>
  ifK x74 (
  cmpK .eql x8 (.int .i64 0) fun x76 =>
  ifK x76 (
  c111_2 run fu x0 x1 x9 σ) (
  subK x8 (.int .i64 1) fun x78 =>
  c111_4 run fu s3 x0 x1 x78 x9 σ)) (
  cmpK .eql x66 (.int .u8 92) fun x80 =>
  ifK x80 (
  addK x9 (.int .i64 1) fun x82 =>
  lenSK x0 fun x84 =>
  cmpK .lss x82 x84 fun x85 =>
  ifK x85 (
  addK x9 (.int .i64 1) fun x88 =>
  idxSK x0 x88 fun x89 =>
  cmpK .eql x89 (.int .u8 32) fun x90 =>
  grdK x90 false σ (fun f => f x0 σ) fun x92 σ1 =>
  grdK x90 false σ1 (fun f => f x9 σ1) fun x93 σ2 =>
  grdK x90 false σ2 (fun f => addK x93 (.int .i64 1) fun v => f v σ2) fun x94 σ3 =>
  grdK x90 false σ3 (fun f => idxSK x92 x94 fun v => f v σ3) fun x95 σ4 =>
  grdK x90 false σ4 (fun f => cmpK .eql x95 (.int .u8 9) fun v => f v σ4) fun x96 σ5 =>
  pickK x90 (.bool true) x96 fun x97 =>
  ifK x97 (
  .ret (.tup [(.str []), (.int .i64 0), (.bool false)], σ5)) (
  addK x9 (.int .i64 1) fun x99 =>
  c111_4 run fu s3 x0 x1 x8 x99 σ5)) (
  c111_4 run fu s3 x0 x1 x8 x9 σ)) (
  cmpK .eql x66 (.int .u8 32) fun x101 =>
  ifK x101 (
  c111_5 run fu s3 x0 x1 x8 x9 x101 σ) (
  cmpK .eql x66 (.int .u8 9) fun x102 =>
  ifK x102 (
  c111_5 run fu s3 x0 x1 x8 x9 x102 σ) (
  cmpK .eql x66 (.int .u8 10) fun x103 =>
  c111_5 run fu s3 x0 x1 x8 x9 x103 σ)))))) (
  c111_2 run fu x0 x1 x9 σ)

noncomputable def c111_3 (run : RunT) (fu : Nat) : Nat → W4
  | 0 => fun _ _ _ _ _ => .fail
  | m + 1 => c111_3b run fu (c111_3 run fu m)

theorem eq111_3 (run : RunT) (fu : Nat) (s3 : W4) (x0 x1 x8 x9 : AV) (σ : Store) : codeK X0 run (.seq (.seq .leaf (.cond .leaf .leaf)) (.seq (.block (.seq .leaf (.block (.seq .leaf (.cond (.seq .leaf (.seq .leaf (.cond (.seq .leaf .leaf) .leaf))) (.seq .leaf (.cond (.seq (.seq .leaf (.cond .leaf .leaf)) .leaf) (.seq .leaf (.cond (.seq .leaf (.cond (.seq (.seq .leaf (.cond (.seq .leaf .leaf) .leaf)) .leaf) .leaf)) (.seq (.seq .leaf (.cond .leaf (.seq .leaf (.cond .leaf .leaf)))) (.sub (fun fr σ => c111_5 run fu s3 (G fr 0) (G fr 1) (G fr 8) (G fr 9) (G fr 100) σ)))))))))))) (.sub (fun fr σ => c111_4 run fu s3 (G fr 0) (G fr 1) (G fr 8) (G fr 9) σ)))) (subC [true, false, true, true, true, true, true, false, false, false] b111) (frS 0 111 [(0, x0), (1, x1), (8, x8), (9, x9)]) σ (thenK (fun fr σ => s3 (G fr 0) (G fr 1) (G fr 8) (G fr 9) σ) (blockK 2 (thenK (fun fr σ => c111_2 run fu (G fr 0) (G fr 1) (G fr 9) σ) (noGotoK k111)))) = c111_3b run fu s3 x0 x1 x8 x9 σ := by kernel_rfl

theorem owed111_3 {run : RunT} (hrun : RunOK X0 run) (fu : Nat) (s3 : W4) : Owes X0 run 111 (.seq (.seq .leaf (.cond .leaf .leaf)) (.seq (.block (.seq .leaf (.block (.seq .leaf (.cond (.seq .leaf (.seq .leaf (.cond (.seq .leaf .leaf) .leaf))) (.seq .leaf (.cond (.seq (.seq .leaf (.cond .leaf .leaf)) .leaf) (.seq .leaf (.cond (.seq .leaf (.cond (.seq (.seq .leaf (.cond (.seq .leaf .leaf) .leaf)) .leaf) .leaf)) (.seq (.seq .leaf (.cond .leaf (.seq .leaf (.cond .leaf .leaf)))) (.sub (fun fr σ => c111_5 run fu s3 (G fr 0) (G fr 1) (G fr 8) (G fr 9) (G fr 100) σ)))))))))))) (.sub (fun fr σ => c111_4 run fu s3 (G fr 0) (G fr 1) (G fr 8) (G fr 9) σ)))) (subC [true, false, true, true, true, true, true, false, false, false] b111) (thenK (fun fr σ => s3 (G fr 0) (G fr 1) (G fr 8) (G fr 9) σ) (blockK 2 (thenK (fun fr σ => c111_2 run fu (G fr 0) (G fr 1) (G fr 9) σ) (noGotoK k111)))) :=
  ⟨⟨trivial, ⟨trivial, trivial⟩⟩, ⟨⟨trivial, ⟨trivial, ⟨⟨trivial, ⟨trivial, ⟨⟨trivial, trivial⟩, trivial⟩⟩⟩, ⟨trivial, ⟨⟨⟨trivial, ⟨trivial, trivial⟩⟩, trivial⟩, ⟨trivial, ⟨⟨trivial, ⟨⟨⟨trivial, ⟨⟨trivial, trivial⟩, trivial⟩⟩, trivial⟩, trivial⟩⟩, ⟨⟨trivial, ⟨trivial, ⟨trivial, ⟨trivial, trivial⟩⟩⟩⟩, (ok111_5 hrun fu s3)⟩⟩⟩⟩⟩⟩⟩⟩, (ok111_4 hrun fu s3)⟩⟩

theorem ok111_3 {run : RunT} (hrun : RunOK X0 run) (fu : Nat) : ∀ fr σ, KOK X0 111 (subC [true, false, true, true, true, true, true, false, false] b111) fr σ ((fun fr σ => c111_3 run fu fu (G fr 0) (G fr 1) (G fr 8) (G fr 9) σ) fr σ) (blockK 2 (thenK (fun fr σ => c111_2 run fu (G fr 0) (G fr 1) (G fr 9) σ) (noGotoK k111))) := by
  have h := KOK.loop (X := X0) (N := 111) (b := (subC [true, false, true, true, true, true, true, false, false, false] b111)) (k := (blockK 2 (thenK (fun fr σ => c111_2 run fu (G fr 0) (G fr 1) (G fr 9) σ) (noGotoK k111)))) (u := fun m fr σ => c111_3 run fu m (G fr 0) (G fr 1) (G fr 8) (G fr 9) σ) (fun _ _ => rfl) (fun m fr σ => KOK.piece env0 hrun [0, 1, 8, 9] (eq111_3 run fu (c111_3 run fu m) (G fr 0) (G fr 1) (G fr 8) (G fr 9) σ) (owed111_3 hrun fu (c111_3 run fu m)))
  exact fun fr σ => h fu fr σ

noncomputable def c111_1 (run : RunT) (fu : Nat) (x0 x1 : AV) (σ : Store) : Tr R :=
  c111_3 run fu fu x0 x1 (.int .i64 0) x1 σ

theorem eq111_1 (run : RunT) (fu : Nat) (x0 x1 : AV) (σ : Store) : codeK X0 run (.seq .leaf (.seq .leaf (.seq .leaf (.seq (.block (.sub (fun fr σ => c111_3 run fu fu (G fr 0) (G fr 1) (G fr 8) (G fr 9) σ))) (.sub (fun fr σ => c111_2 run fu (G fr 0) (G fr 1) (G fr 9) σ)))))) (subC [true, false, true, true] b111) (frS 0 111 [(0, x0), (1, x1)]) σ (noGotoK k111) = c111_1 run fu x0 x1 σ := by kernel_rfl

theorem ok111_1 {run : RunT} (hrun : RunOK X0 run) (fu : Nat) : ∀ fr σ, KOK X0 111 (subC [true, false, true, true] b111) fr σ ((fun fr σ => c111_1 run fu (G fr 0) (G fr 1) σ) fr σ) (noGotoK k111) := fun fr σ =>
  KOK.piece env0 hrun [0, 1] (eq111_1 run fu (G fr 0) (G fr 1) σ) ⟨trivial, ⟨trivial, ⟨trivial, ⟨(ok111_3 hrun fu), (ok111_2 hrun fu)⟩⟩⟩⟩

noncomputable def c111_7 (run : RunT) (fu : Nat) (s6 : W3) (x0 x1 x7 : AV) (σ : Store) : Tr R :=
  addK x7 (.int .i64 1) fun x22 =>
  s6 x0 x1 x22 σ

theorem eq111_7 (run : RunT) (fu : Nat) (s6 : W3) (x0 x1 x7 : AV) (σ : Store) : codeK X0 run .leaf (subC [true, false, true, false, true, false, true, false, false, true] b111) (frS 0 111 [(0, x0), (1, x1), (7, x7)]) σ (thenK (fun fr σ => s6 (G fr 0) (G fr 1) (G fr 7) σ) (blockK 0 (thenK (fun fr σ => c111_1 run fu (G fr 0) (G fr 1) σ) (noGotoK k111)))) = c111_7 run fu s6 x0 x1 x7 σ := by kernel_rfl

theorem ok111_7 {run : RunT} (hrun : RunOK X0 run) (fu : Nat) (s6 : W3) : ∀ fr σ, KOK X0 111 (subC [true, false, true, false, true, false, true, false, false, true] b111) fr σ ((fun fr σ => c111_7 run fu s6 (G fr 0) (G fr 1) (G fr 7) σ) fr σ) (thenK (fun fr σ => s6 (G fr 0) (G fr 1) (G fr 7) σ) (blockK 0 (thenK (fun fr σ => c111_1 run fu (G fr 0) (G fr 1) σ) (noGotoK k111)))) := fun fr σ =>
  KOK.piece env0 hrun [0, 1, 7] (eq111_7 run fu s6 (G fr 0) (G fr 1) (G fr 7) σ) trivial

noncomputable def c111_6b (run : RunT) (fu : Nat) (s6 : W3) (x0 x1 x7 : AV) (σ : Store) : Tr R :=
  lenSK x0 fun x25 =>
  cmpK .geq x7 x25 fun x26 =>
  grdK x26 false σ (fun f => f x0 σ) fun x28 σ1 =>
  grdK x26 false σ1 (fun f => f x7 σ1) fun x29 σ2 =>
  grdK x26 false σ2 (fun f => idxSK x28 x29 fun v => f v σ2) fun x30 σ3 =>
  grdK x26 false σ3 (fun f => cmpK .eql x30 (.int .u8 10) fun v => f v σ3) fun x31 σ4 =>
  pickK x26 (.bool true) x31 fun x32 =>
  grdK x32 false σ4 (fun f => f x0 σ4) fun x34 σ5 =>
  grdK x32 false σ5 (fun f => f x7 σ5) fun x35 σ6 =>
  grdK x32 false σ6 (fun f => idxSK x34 x35 fun v => f v σ6) fun x36 σ7 =>
  grdK x32 false σ7 (fun f => cmpK .eql x36 (.int .u8 60) fun v => f v σ7) fun x37 σ8 =>
  pickK x32 (.bool true) x37 fun x38 =>
  ifK x38 (
  .ret (.tup [(.str []), (.int .i64 0), (.bool false)], σ8)) (
  idxSK x0 x7 fun x41 =>
  cmpK .eql x41 (.int .u8 62) fun x42 =>
  ifK x42 (
  addK x1 (.int .i64 1) fun x45 =>
  sliceSK x0 (some x45) (some x7) fun x47 =>
  calK run 161 [x47] σ8 fun x48 σ9 =>
  addK x7 (.int .i64 1) fun x50 =>
  .ret (.tup [x48, x50, (.bool true)], σ9)) (
  idxSK x0 x7 fun x53 =>
  cmpK .eql x53 (.int .u8 92) fun x54 =>
  ifK x54 (
  addK x7 (.int .i64 1) fun x56 =>
  c111_7 run fu s6 x0 x1 x56 σ8) (
  c111_7 run fu s6 x0 x1 x7 σ8)))

noncomputable def c111_6 (run : RunT) (fu : Nat) : Nat → W3
  | 0 => fun _ _ _ _ => .fail
  | m + 1 => c111_6b run fu (c111_6 run fu m)

theorem eq111_6 (run : RunT) (fu : Nat) (s6 : W3) (x0 x1 x7 : AV) (σ : Store) : codeK X0 run (.seq (.block (.seq (.seq .leaf (.cond (.seq .leaf .leaf) .leaf)) (.seq (.seq .leaf (.cond (.seq .leaf .leaf) .leaf)) (.seq .leaf (.cond .leaf .leaf))))) (.sub (fun fr σ => c111_7 run fu s6 (G fr 0) (G fr 1) (G fr 7) σ))) (subC [true, false, true, false, true, false, true, false, false] b111) (frS 0 111 [(0, x0), (1, x1), (7, x7)]) σ (thenK (fun fr σ => s6 (G fr 0) (G fr 1) (G fr 7) σ) (blockK 0 (thenK (fun fr σ => c111_1 run fu (G fr 0) (G fr 1) σ) (noGotoK k111)))) = c111_6b run fu s6 x0 x1 x7 σ := by kernel_rfl

theorem owed111_6 {run : RunT} (hrun : RunOK X0 run) (fu : Nat) (s6 : W3) : Owes X0 run 111 (.seq (.block (.seq (.seq .leaf (.cond (.seq .leaf .leaf) .leaf)) (.seq (.seq .leaf (.cond (.seq .leaf .leaf) .leaf)) (.seq .leaf (.cond .leaf .leaf))))) (.sub (fun fr σ => c111_7 run fu s6 (G fr 0) (G fr 1) (G fr 7) σ))) (subC [true, false, true, false, true, false, true, false, false] b111) (thenK (fun fr σ => s6 (G fr 0) (G fr 1) (G fr 7) σ) (blockK 0 (thenK (fun fr σ => c111_1 run fu (G fr 0) (G fr 1) σ) (noGotoK k111)))) :=
  ⟨⟨⟨trivial, ⟨⟨trivial, trivial⟩, trivial⟩⟩, ⟨⟨trivial, ⟨⟨trivial, trivial⟩, trivial⟩⟩, ⟨trivial, ⟨trivial, trivial⟩⟩⟩⟩, (ok111_7 hrun fu s6)⟩

theorem ok111_6 {run : RunT} (hrun : RunOK X0 run) (fu : Nat) : ∀ fr σ, KOK X0 111 (subC [true, false, true, false, true, false, true, false] b111) fr σ ((fun fr σ => c111_6 run fu fu (G fr 0) (G fr 1) (G fr 7) σ) fr σ) (blockK 0 (thenK (fun fr σ => c111_1 run fu (G fr 0) (G fr 1) σ) (noGotoK k111))) := by
  have h := KOK.loop (X := X0) (N := 111) (b := (subC [true, false, true, false, true, false, true, false, false] b111)) (k := (blockK 0 (thenK (fun fr σ => c111_1 run fu (G fr 0) (G fr 1) σ) (noGotoK k111)))) (u := fun m fr σ => c111_6 run fu m (G fr 0) (G fr 1) (G fr 7) σ) (fun _ _ => rfl) (fun m fr σ => KOK.piece env0 hrun [0, 1, 7] (eq111_6 run fu (c111_6 run fu m) (G fr 0) (G fr 1) (G fr 7) σ) (owed111_6 hrun fu (c111_6 run fu m)))
  exact fun fr σ => h fu fr σ

noncomputable def c111_8 (run : RunT) (fu : Nat) (s6 : W3) (x0 x1 x7 : AV) (σ : Store) : Tr R :=
  addK x7 (.int .i64 1) fun x22 =>
  s6 x0 x1 x22 σ

theorem eq111_8 (run : RunT) (fu : Nat) (s6 : W3) (x0 x1 x7 : AV) (σ : Store) : codeK X0 run .leaf (subC [true, false, true, false, true, false, true, false, false, true] b111) (frS 0 111 [(0, x0), (1, x1), (7, x7)]) σ (thenK (fun fr σ => s6 (G fr 0) (G fr 1) (G fr 7) σ) failK) = c111_8 run fu s6 x0 x1 x7 σ := by kernel_rfl

theorem ok111_8 {run : RunT} (hrun : RunOK X0 run) (fu : Nat) (s6 : W3) : ∀ fr σ, KOK X0 111 (subC [true, false, true, false, true, false, true, false, false, true] b111) fr σ ((fun fr σ => c111_8 run fu s6 (G fr 0) (G fr 1) (G fr 7) σ) fr σ) (thenK (fun fr σ => s6 (G fr 0) (G fr 1) (G fr 7) σ) failK) := fun fr σ =>
  KOK.piece env0 hrun [0, 1, 7] (eq111_8 run fu s6 (G fr 0) (G fr 1) (G fr 7) σ) trivial

noncomputable def c111_6x (run : RunT) (fu : Nat) (s6 : W3) (x0 x1 x7 : AV) (σ : Store) : Tr R :=
  lenSK x0 fun x25 =>
  cmpK .geq x7 x25 fun x26 =>
  grdK x26 false σ (fun f => f x0 σ) fun x28 σ1 =>
  grdK x26 false σ1 (fun f => f x7 σ1) fun x29 σ2 =>
  grdK x26 false σ2 (fun f => idxSK x28 x29 fun v => f v σ2) fun x30 σ3 =>
  grdK x26 false σ3 (fun f => cmpK .eql x30 (.int .u8 10) fun v => f v σ3) fun x31 σ4 =>
  pickK x26 (.bool true) x31 fun x32 =>
  grdK x32 false σ4 (fun f => f x0 σ4) fun x34 σ5 =>
  grdK x32 false σ5 (fun f => f x7 σ5) fun x35 σ6 =>
  grdK x32 false σ6 (fun f => idxSK x34 x35 fun v => f v σ6) fun x36 σ7 =>
  grdK x32 false σ7 (fun f => cmpK .eql x36 (.int .u8 60) fun v => f v σ7) fun x37 σ8 =>
  pickK x32 (.bool true) x37 fun x38 =>
  ifK x38 (
  .fail) (
  idxSK x0 x7 fun x41 =>
  cmpK .eql x41 (.int .u8 62) fun x42 =>
  ifK x42 (
  addK x1 (.int .i64 1) fun x45 =>
  sliceSK x0 (some x45) (some x7) fun x47 =>
  calK run 161 [x47] σ8 fun x48 σ9 =>
  addK x7 (.int .i64 1) fun x50 =>
  .fail) (
  idxSK x0 x7 fun x53 =>
  cmpK .eql x53 (.int .u8 92) fun x54 =>
  ifK x54 (
  addK x7 (.int .i64 1) fun x56 =>
  c111_8 run fu s6 x0 x1 x56 σ8) (
  c111_8 run fu s6 x0 x1 x7 σ8)))

theorem eq111_6x (run : RunT) (fu : Nat) (s6 : W3) (x0 x1 x7 : AV) (σ : Store) : codeK X0 run (.seq (.block (.seq (.seq .leaf (.cond (.seq .leaf .leaf) .leaf)) (.seq (.seq .leaf (.cond (.seq .leaf .leaf) .leaf)) (.seq .leaf (.cond .leaf .leaf))))) (.sub (fun fr σ => c111_8 run fu s6 (G fr 0) (G fr 1) (G fr 7) σ))) (subC [true, false, true, false, true, false, true, false, false] b111) (frS 0 111 [(0, x0), (1, x1), (7, x7)]) σ (thenK (fun fr σ => s6 (G fr 0) (G fr 1) (G fr 7) σ) failK) = c111_6x run fu s6 x0 x1 x7 σ := by kernel_rfl

theorem owed111_6x {run : RunT} (hrun : RunOK X0 run) (fu : Nat) (s6 : W3) : Owes X0 run 111 (.seq (.block (.seq (.seq .leaf (.cond (.seq .leaf .leaf) .leaf)) (.seq (.seq .leaf (.cond (.seq .leaf .leaf) .leaf)) (.seq .leaf (.cond .leaf .leaf))))) (.sub (fun fr σ => c111_8 run fu s6 (G fr 0) (G fr 1) (G fr 7) σ))) (subC [true, false, true, false, true, false, true, false, false] b111) (thenK (fun fr σ => s6 (G fr 0) (G fr 1) (G fr 7) σ) failK) :=
  ⟨⟨⟨trivial, ⟨⟨trivial, trivial⟩, trivial⟩⟩, ⟨⟨trivial, ⟨⟨trivial, trivial⟩, trivial⟩⟩, ⟨trivial, ⟨trivial, trivial⟩⟩⟩⟩, (ok111_8 hrun fu s6)⟩

noncomputable def c111_6s (run : RunT) (fu : Nat) : Nat → List AV → Store → Tr R :=
  sweepU (planOf none 0 2 [] [] [] []) (fun t2 xs σ => c111_6b run fu (fun y0 y1 y7 σ => t2 [y0, y1, y7] σ) (xs.getD 0 .any) (xs.getD 1 .any) (xs.getD 2 .any) σ) (fun t2 xs σ => c111_6x run fu (fun y0 y1 y7 σ => t2 [y0, y1, y7] σ) (xs.getD 0 .any) (xs.getD 1 .any) (xs.getD 2 .any) σ)

theorem ok111_6s {run : RunT} (hrun : RunOK X0 run) (fu : Nat) : ∀ fr σ, KOK X0 111 (subC [true, false, true, false, true, false, true, false] b111) fr σ ((fun fr σ => c111_6s run fu fu [fr.getD 0 .any, fr.getD 1 .any, fr.getD 7 .any] σ) fr σ) (blockK 0 (thenK (fun fr σ => c111_1 run fu (G fr 0) (G fr 1) σ) (noGotoK k111))) := by
  have h := KOK.sweep (X := X0) (N := 111) (b := (subC [true, false, true, false, true, false, true, false, false] b111)) (k := (blockK 0 (thenK (fun fr σ => c111_1 run fu (G fr 0) (G fr 1) σ) (noGotoK k111)))) (js := [0, 1, 7]) (body := (fun t2 xs σ => c111_6b run fu (fun y0 y1 y7 σ => t2 [y0, y1, y7] σ) (xs.getD 0 .any) (xs.getD 1 .any) (xs.getD 2 .any) σ)) (bodyx := (fun t2 xs σ => c111_6x run fu (fun y0 y1 y7 σ => t2 [y0, y1, y7] σ) (xs.getD 0 .any) (xs.getD 1 .any) (xs.getD 2 .any) σ)) rfl (planOf none 0 2 [] [] [] []) (fun t2 fr σ => KOK.piece env0 hrun [0, 1, 7] (eq111_6 run fu (fun y0 y1 y7 σ => t2 [y0, y1, y7] σ) (G fr 0) (G fr 1) (G fr 7) σ) (owed111_6 hrun fu (fun y0 y1 y7 σ => t2 [y0, y1, y7] σ))) (fun t2 fr σ => KOK.piece env0 hrun [0, 1, 7] (eq111_6x run fu (fun y0 y1 y7 σ => t2 [y0, y1, y7] σ) (G fr 0) (G fr 1) (G fr 7) σ) (owed111_6x hrun fu (fun y0 y1 y7 σ => t2 [y0, y1, y7] σ)))
  exact fun fr σ => h fu fr σ

noncomputable def c111 (run : RunT) (fu : Nat) (x0 x1 : AV) (σ : Store) : Tr R :=
  lenSK x0 fun x13 =>
  cmpK .geq x1 x13 fun x14 =>
  ifK x14 (
  .ret (.tup [(.str []), (.int .i64 0), (.bool false)], σ)) (
  idxSK x0 x1 fun x17 =>
  cmpK .eql x17 (.int .u8 60) fun x18 =>
  ifK x18 (
  addK x1 (.int .i64 1) fun x20 =>
  c111_6s run fu fu [x0, x1, x20] σ) (
  c111_1 run fu x0 x1 σ))

theorem eq111 (run : RunT) (fu : Nat) (x0 x1 : AV) (σ : Store) : codeK X0 run (.seq .leaf (.scope (.seq (.seq .leaf (.cond (.seq .leaf .leaf) .leaf)) (.seq (.seq .leaf (.cond (.seq .leaf (.block (.sub (fun fr σ => c111_6s run fu fu [fr.getD 0 .any, fr.getD 1 .any, fr.getD 7 .any] σ)))) .leaf)) (.sub (fun fr σ => c111_1 run fu (G fr 0) (G fr 1) σ)))))) (subC [] b111) ([x0, x1] ++ padA (111 - 2)) σ k111 = c111 run fu x0 x1 σ := by kernel_rfl

theorem ok111 {run : RunT} (hrun : RunOK X0 run) (fu : Nat) (x0 x1 : AV) (σ : Store) : CallOK X0 111 [x0, x1] σ (c111 run fu x0 x1 σ) :=
  KOK.body (fn := Tryz.f111) (c := subC [] b111) (by kernel_rfl) (by kernel_rfl) (by show 2 ≤ 111; decide) (KOK.whole env0 hrun (eq111 run fu x0 x1 σ) ⟨trivial, ⟨⟨trivial, ⟨⟨trivial, trivial⟩, trivial⟩⟩, ⟨⟨trivial, ⟨⟨trivial, (ok111_6s hrun fu)⟩, trivial⟩⟩, (ok111_1 hrun fu)⟩⟩⟩)

-- pub-paratext/pub/rscmarkdown.parseLinkTitle

noncomputable def b112 : Code := match Tryz.f112.body with | some c => c | none => .skip

noncomputable def k112 : Kont R := retK Tryz.prog [.tmp 4, .tmp 5, .tmp 6, .tmp 7]

noncomputable def c112_1 (run : RunT) (fu : Nat) (σ : Store) : Tr R :=
  .ret (.tup [(.str []), (.int .u8 0), (.int .i64 0), (.bool false)], σ)

theorem eq112_1 (run : RunT) (fu : Nat) (σ : Store) : codeK X0 run (.seq .leaf .leaf) (subC [true, true] b112) (frS 0 83 []) σ k112 = c112_1 run fu σ := by kernel_rfl

theorem ok112_1 {run : RunT} (hrun : RunOK X0 run) (fu : Nat) : ∀ fr σ, KOK X0 83 (subC [true, true] b112) fr σ ((fun fr σ => c112_1 run fu σ) fr σ) k112 := fun fr σ =>
  KOK.piece env0 hrun [] (eq112_1 run fu σ) ⟨trivial, trivial⟩

noncomputable def c112_4 (run : RunT) (fu : Nat) (s3 : W4) (x0 x1 x8 x9 : AV) (σ : Store) : Tr R :=
  addK x9 (.int .i64 1) fun x45 =>
  s3 x0 x1 x8 x45 σ

theorem eq112_4 (run : RunT) (fu : Nat) (s3 : W4) (x0 x1 x8 x9 : AV) (σ : Store) : codeK X0 run .leaf (subC [true, false, true, false, true, true, true, false, false, true, true] b112) (frS 0 83 [(0, x0), (1, x1), (8, x8), (9, x9)]) σ (thenK (fun fr σ => s3 (G fr 0) (G fr 1) (G fr 8) (G fr 9) σ) (blockK 0 (thenK (fun fr σ => c112_1 run fu σ) k112))) = c112_4 run fu s3 x0 x1 x8 x9 σ := by kernel_rfl

theorem ok112_4 {run : RunT} (hrun : RunOK X0 run) (fu : Nat) (s3 : W4) : ∀ fr σ, KOK X0 83 (subC [true, false, true, false, true, true, true, false, false, true, true] b112) fr σ ((fun fr σ => c112_4 run fu s3 (G fr 0) (G fr 1) (G fr 8) (G fr 9) σ) fr σ) (thenK (fun fr σ => s3 (G fr 0) (G fr 1) (G fr 8) (G fr 9) σ) (blockK 0 (thenK (fun fr σ => c112_1 run fu σ) k112))) := fun fr σ =>
  KOK.piece env0 hrun [0, 1, 8, 9] (eq112_4 run fu s3 (G fr 0) (G fr 1) (G fr 8) (G fr 9) σ) trivial

noncomputable def c112_3b (run : RunT) (fu : Nat) (s3 : W4) (x0 x1 x8 x9 : AV) (σ : Store) : Tr R :=
  lenSK x0 fun x42 =>
  cmpK .lss x9 x42 fun x43 =>
  ifK x43 (
  idxSK x0 x9 fun x48 =>
  cmpK .eql x48 x8 fun x50 =>
  ifK x50 (
  addK x1 (.int .i64 1) fun x53 =>
  sliceSK x0 (some x53) (some x9) fun x55 =>
  bldK [] [] fun x56 =>
  calK run 162 [x56, x55] σ fun x58 σ1 =>
  addK x9 (.int .i64 1) fun x61 =>
  .ret (.tup [x58, x8, x61, (.bool true)], σ1)) (
  idxSK x0 x9 fun x64 =>
  cmpK .eql x64 (.int .u8 40) fun x65 =>
  grdK x65 true σ (fun f => f x8 σ) fun x67 σ2 =>
  grdK x65 true σ2 (fun f => cmpK .eql x67 (.int .u8 41) fun v => f v σ2) fun x68 σ3 =>
  pickK x65 x68 (.bool false) fun x69 =>
  ifK x69 (
  c112_1 run fu σ3) (
  idxSK x0 x9 fun x72 =>
  cmpK .eql x72 (.int .u8 92) fun x73 =>
  grdK x73 true σ3 (fun f => f x9 σ3) fun x75 σ4 =>
  grdK x73 true σ4 (fun f => addK x75 (.int .i64 1) fun v => f v σ4) fun x76 σ5 =>
  grdK x73 true σ5 (fun f => f x0 σ5) fun x77 σ6 =>
  grdK x73 true σ6 (fun f => lenSK x77 fun v => f v σ6) fun x78 σ7 =>
  grdK x73 true σ7 (fun f => cmpK .lss x76 x78 fun v => f v σ7) fun x79 σ8 =>
  pickK x73 x79 (.bool false) fun x80 =>
  ifK x80 (
  addK x9 (.int .i64 1) fun x82 =>
  c112_4 run fu s3 x0 x1 x8 x82 σ8) (
  c112_4 run fu s3 x0 x1 x8 x9 σ8)))) (
  c112_1 run fu σ)

noncomputable def c112_3 (run : RunT) (fu : Nat) : Nat → W4
  | 0 => fun _ _ _ _ _ => .fail
  | m + 1 => c112_3b run fu (c112_3 run fu m)

theorem eq112_3 (run : RunT) (fu : Nat) (s3 : W4) (x0 x1 x8 x9 : AV) (σ : Store) : codeK X0 run (.seq (.seq .leaf (.cond .leaf .leaf)) (.seq (.block (.seq (.seq .leaf (.cond (.seq .leaf (.seq .leaf .leaf)) .leaf)) (.seq (.seq .leaf (.cond .leaf .leaf)) (.seq .leaf (.cond .leaf .leaf))))) (.sub (fun fr σ => c112_4 run fu s3 (G fr 0) (G fr 1) (G fr 8) (G fr 9) σ)))) (subC [true, false, true, false, true, true, true, false, false] b112) (frS 0 83 [(0, x0), (1, x1), (8, x8), (9, x9)]) σ (thenK (fun fr σ => s3 (G fr 0) (G fr 1) (G fr 8) (G fr 9) σ) (blockK 0 (thenK (fun fr σ => c112_1 run fu σ) k112))) = c112_3b run fu s3 x0 x1 x8 x9 σ := by kernel_rfl

theorem owed112_3 {run : RunT} (hrun : RunOK X0 run) (fu : Nat) (s3 : W4) : Owes X0 run 83 (.seq (.seq .leaf (.cond .leaf .leaf)) (.seq (.block (.seq (.seq .leaf (.cond (.seq .leaf (.seq .leaf .leaf)) .leaf)) (.seq (.seq .leaf (.cond .leaf .leaf)) (.seq .leaf (.cond .leaf .leaf))))) (.sub (fun fr σ => c112_4 run fu s3 (G fr 0) (G fr 1) (G fr 8) (G fr 9) σ)))) (subC [true, false, true, false, true, true, true, false, false] b112) (thenK (fun fr σ => s3 (G fr 0) (G fr 1) (G fr 8) (G fr 9) σ) (blockK 0 (thenK (fun fr σ => c112_1 run fu σ) k112))) :=
  ⟨⟨trivial, ⟨trivial, trivial⟩⟩, ⟨⟨⟨trivial, ⟨⟨trivial, ⟨trivial, trivial⟩⟩, trivial⟩⟩, ⟨⟨trivial, ⟨trivial, trivial⟩⟩, ⟨trivial, ⟨trivial, trivial⟩⟩⟩⟩, (ok112_4 hrun fu s3)⟩⟩

theorem ok112_3 {run : RunT} (hrun : RunOK X0 run) (fu : Nat) : ∀ fr σ, KOK X0 83 (subC [true, false, true, false, true, true, true, false] b112) fr σ ((fun fr σ => c112_3 run fu fu (G fr 0) (G fr 1) (G fr 8) (G fr 9) σ) fr σ) (blockK 0 (thenK (fun fr σ => c112_1 run fu σ) k112)) := by
  have h := KOK.loop (X := X0) (N := 83) (b := (subC [true, false, true, false, true, true, true, false, false] b112)) (k := (blockK 0 (thenK (fun fr σ => c112_1 run fu σ) k112))) (u := fun m fr σ => c112_3 run fu m (G fr 0) (G fr 1) (G fr 8) (G fr 9) σ) (fun _ _ => rfl) (fun m fr σ => KOK.piece env0 hrun [0, 1, 8, 9] (eq112_3 run fu (c112_3 run fu m) (G fr 0) (G fr 1) (G fr 8) (G fr 9) σ) (owed112_3 hrun fu (c112_3 run fu m)))
  exact fun fr σ => h fu fr σ

noncomputable def c112_5 (run : RunT) (fu : Nat) (s3 : W4) (x0 x1 x8 x9 : AV) (σ : Store) : Tr R :=
  addK x9 (.int .i64 1) fun x45 =>
  s3 x0 x1 x8 x45 σ

theorem eq112_5 (run : RunT) (fu : Nat) (s3 : W4) (x0 x1 x8 x9 : AV) (σ : Store) : codeK X0 run .leaf (subC [true, false, true, false, true, true, true, false, false, true, true] b112) (frS 0 83 [(0, x0), (1, x1), (8, x8), (9, x9)]) σ (thenK (fun fr σ => s3 (G fr 0) (G fr 1) (G fr 8) (G fr 9) σ) failK) = c112_5 run fu s3 x0 x1 x8 x9 σ := by kernel_rfl

theorem ok112_5 {run : RunT} (hrun : RunOK X0 run) (fu : Nat) (s3 : W4) : ∀ fr σ, KOK X0 83 (subC [true, false, true, false, true, true, true, false, false, true, true] b112) fr σ ((fun fr σ => c112_5 run fu s3 (G fr 0) (G fr 1) (G fr 8) (G fr 9) σ) fr σ) (thenK (fun fr σ => s3 (G fr 0) (G fr 1) (G fr 8) (G fr 9) σ) failK) := fun fr σ =>
  KOK.piece env0 hrun [0, 1, 8, 9] (eq112_5 run fu s3 (G fr 0) (G fr 1) (G fr 8) (G fr 9) σ) trivial

noncomputable def c112_3x (run : RunT) (fu : Nat) (s3 : W4) (x0 x1 x8 x9 : AV) (σ : Store) : Tr R :=
  lenSK x0 fun x42 =>
  cmpK .lss x9 x42 fun x43 =>
  ifK x43 (
  idxSK x0 x9 fun x48 =>
  cmpK .eql x48 x8 fun x50 =>
  ifK x50 (
  addK x1 (.int .i64 1) fun x53 =>
  sliceSK x0 (some x53) (some x9) fun x55 =>
  bldK [] [] fun x56 =>
  calK run 162 [x56, x55] σ fun x58 σ1 =>
  addK x9 (.int .i64 1) fun x61 =>
  .fail) (
  idxSK x0 x9 fun x64 =>
  cmpK .eql x64 (.int .u8 40) fun x65 =>
  grdK x65 true σ (fun f => f x8 σ) fun x67 σ2 =>
  grdK x65 true σ2 (fun f => cmpK .eql x67 (.int .u8 41) fun v => f v σ2) fun x68 σ3 =>
  pickK x65 x68 (.bool false) fun x69 =>
  ifK x69 (
  .fail) (
  idxSK x0 x9 fun x72 =>
  cmpK .eql x72 (.int .u8 92) fun x73 =>
  grdK x73 true σ3 (fun f => f x9 σ3) fun x75 σ4 =>
  grdK x73 true σ4 (fun f => addK x75 (.int .i64 1) fun v => f v σ4) fun x76 σ5 =>
  grdK x73 true σ5 (fun f => f x0 σ5) fun x77 σ6 =>
  grdK x73 true σ6 (fun f => lenSK x77 fun v => f v σ6) fun x78 σ7 =>
  grdK x73 true σ7 (fun f => cmpK .lss x76 x78 fun v => f v σ7) fun x79 σ8 =>
  pickK x73 x79 (.bool false) fun x80 =>
  ifK x80 (
  addK x9 (.int .i64 1) fun x82 =>
  c112_5 run fu s3 x0 x1 x8 x82 σ8) (
  c112_5 run fu s3 x0 x1 x8 x9 σ8)))) (
  .fail)

theorem eq112_3x (run : RunT) (fu : Nat) (s3 : W4) (x0 x1 x8 x9 : AV) (σ : Store) : codeK X0 run (.seq (.seq .leaf (.cond .leaf .leaf)) (.seq (.block (.seq (.seq .leaf (.cond (.seq .leaf (.seq .leaf .leaf)) .leaf)) (.seq (.seq .leaf (.cond .leaf .leaf)) (.seq .leaf (.cond .leaf .leaf))))) (.sub (fun fr σ => c112_5 run fu s3 (G fr 0) (G fr 1) (G fr 8) (G fr 9) σ)))) (subC [true, false, true, false, true, true, true, false, false] b112) (frS 0 83 [(0, x0), (1, x1), (8, x8), (9, x9)]) σ (thenK (fun fr σ => s3 (G fr 0) (G fr 1) (G fr 8) (G fr 9) σ) failK) = c112_3x run fu s3 x0 x1 x8 x9 σ := by kernel_rfl

theorem owed112_3x {run : RunT} (hrun : RunOK X0 run) (fu : Nat) (s3 : W4) : Owes X0 run 83 (.seq (.seq .leaf (.cond .leaf .leaf)) (.seq (.block (.seq (.seq .leaf (.cond (.seq .leaf (.seq .leaf .leaf)) .leaf)) (.seq (.seq .leaf (.cond .leaf .leaf)) (.seq .leaf (.cond .leaf .leaf))))) (.sub (fun fr σ => c112_5 run fu s3 (G fr 0) (G fr 1) (G fr 8) (G fr 9) σ)))) (subC [true, false, true, false, true, true, true, false, false] b112) (thenK (fun fr σ => s3 (G fr 0) (G fr 1) (G fr 8) (G fr 9) σ) failK) :=
  ⟨⟨trivial, ⟨trivial, trivial⟩⟩, ⟨⟨⟨trivial, ⟨⟨trivial, ⟨trivial, trivial⟩⟩, trivial⟩⟩, ⟨⟨trivial, ⟨trivial, trivial⟩⟩, ⟨trivial, ⟨trivial, trivial⟩⟩⟩⟩, (ok112_5 hrun fu s3)⟩⟩

noncomputable def c112_3s (run : RunT) (fu : Nat) : Nat → List AV → Store → Tr R :=
  sweepU (planOf none 0 3 [] [] [] []) (fun t2 xs σ => c112_3b run fu (fun y0 y1 y8 y9 σ => t2 [y0, y1, y8, y9] σ) (xs.getD 0 .any) (xs.getD 1 .any) (xs.getD 2 .any) (xs.getD 3 .any) σ) (fun t2 xs σ => c112_3x run fu (fun y0 y1 y8 y9 σ => t2 [y0, y1, y8, y9] σ) (xs.getD 0 .any) (xs.getD 1 .any) (xs.getD 2 .any) (xs.getD 3 .any) σ)

theorem ok112_3s {run : RunT} (hrun : RunOK X0 run) (fu : Nat) : ∀ fr σ, KOK X0 83 (subC [true, false, true, false, true, true, true, false] b112) fr σ ((fun fr σ => c112_3s run fu fu [fr.getD 0 .any, fr.getD 1 .any, fr.getD 8 .any, fr.getD 9 .any] σ) fr σ) (blockK 0 (thenK (fun fr σ => c112_1 run fu σ) k112)) := by
  have h := KOK.sweep (X := X0) (N := 83) (b := (subC [true, false, true, false, true, true, true, false, false] b112)) (k := (blockK 0 (thenK (fun fr σ => c112_1 run fu σ) k112))) (js := [0, 1, 8, 9]) (body := (fun t2 xs σ => c112_3b run fu (fun y0 y1 y8 y9 σ => t2 [y0, y1, y8, y9] σ) (xs.getD 0 .any) (xs.getD 1 .any) (xs.getD 2 .any) (xs.getD 3 .any) σ)) (bodyx := (fun t2 xs σ => c112_3x run fu (fun y0 y1 y8 y9 σ => t2 [y0, y1, y8, y9] σ) (xs.getD 0 .any) (xs.getD 1 .any) (xs.getD 2 .any) (xs.getD 3 .any) σ)) rfl (planOf none 0 3 [] [] [] []) (fun t2 fr σ => KOK.piece env0 hrun [0, 1, 8, 9] (eq112_3 run fu (fun y0 y1 y8 y9 σ => t2 [y0, y1, y8, y9] σ) (G fr 0) (G fr 1) (G fr 8) (G fr 9) σ) (owed112_3 hrun fu (fun y0 y1 y8 y9 σ => t2 [y0, y1, y8, y9] σ))) (fun t2 fr σ => KOK.piece env0 hrun [0, 1, 8, 9] (eq112_3x run fu (fun y0 y1 y8 y9 σ => t2 [y0, y1, y8, y9] σ) (G fr 0) (G fr 1) (G fr 8) (G fr 9) σ) (owed112_3x hrun fu (fun y0 y1 y8 y9 σ => t2 [y0, y1, y8, y9] σ)))
  exact fun fr σ => h fu fr σ

noncomputable def c112_2 (run : RunT) (fu : Nat) (x0 x1 x8 : AV) (σ : Store) : Tr R :=
  addK x1 (.int .i64 1) fun x39 =>
  c112_3s run fu fu [x0, x1, x8, x39] σ

theorem eq112_2 (run : RunT) (fu : Nat) (x0 x1 x8 : AV) (σ : Store) : codeK X0 run (.seq .leaf (.block (.sub (fun fr σ => c112_3s run fu fu [fr.getD 0 .any, fr.getD 1 .any, fr.getD 8 .any, fr.getD 9 .any] σ)))) (subC [true, false, true, false, true, true] b112) (frS 0 83 [(0, x0), (1, x1), (8, x8)]) σ (thenK (fun fr σ => c112_1 run fu σ) k112) = c112_2 run fu x0 x1 x8 σ := by kernel_rfl

theorem ok112_2 {run : RunT} (hrun : RunOK X0 run) (fu : Nat) : ∀ fr σ, KOK X0 83 (subC [true, false, true, false, true, true] b112) fr σ ((fun fr σ => c112_2 run fu (G fr 0) (G fr 1) (G fr 8) σ) fr σ) (thenK (fun fr σ => c112_1 run fu σ) k112) := fun fr σ =>
  KOK.piece env0 hrun [0, 1, 8] (eq112_2 run fu (G fr 0) (G fr 1) (G fr 8) σ) ⟨trivial, (ok112_3s hrun fu)⟩

noncomputable def c112 (run : RunT) (fu : Nat) (x0 x1 : AV) (σ : Store) : Tr R :=
  lenSK x0 fun x13 =>
  cmpK .lss x1 x13 fun x14 =>
  grdK x14 true σ (fun f => f x0 σ) fun x16 σ1 =>
  grdK x14 true σ1 (fun f => f x1 σ1) fun x17 σ2 =>
  grdK x14 true σ2 (fun f => idxSK x16 x17 fun v => f v σ2) fun x18 σ3 =>
  grdK x14 true σ3 (fun f => cmpK .eql x18 (.int .u8 34) fun v => f v σ3) fun x19 σ4 =>
  grdK x14 true σ4 (fun f => f x19 σ4) fun x20 σ5 =>
  grdK x20 false σ5 (fun f => f x0 σ5) fun x21 σ6 =>
  grdK x20 false σ6 (fun f => f x1 σ6) fun x22 σ7 =>
  grdK x20 false σ7 (fun f => idxSK x21 x22 fun v => f v σ7) fun x23 σ8 =>
  grdK x20 false σ8 (fun f => cmpK .eql x23 (.int .u8 39) fun v => f v σ8) fun x24 σ9 =>
  grdK x14 true σ9 (fun f => pickK x20 (.bool true) x24 fun v => f v σ9) fun x25 σ10 =>
  grdK x14 true σ10 (fun f => f x25 σ10) fun x26 σ11 =>
  grdK x26 false σ11 (fun f => f x0 σ11) fun x27 σ12 =>
  grdK x26 false σ12 (fun f => f x1 σ12) fun x28 σ13 =>
  grdK x26 false σ13 (fun f => idxSK x27 x28 fun v => f v σ13) fun x29 σ14 =>
  grdK x26 false σ14 (fun f => cmpK .eql x29 (.int .u8 40) fun v => f v σ14) fun x30 σ15 =>
  grdK x14 true σ15 (fun f => pickK x26 (.bool true) x30 fun v => f v σ15) fun x31 σ16 =>
  pickK x14 x31 (.bool false) fun x32 =>
  ifK x32 (
  idxSK x0 x1 fun x35 =>
  cmpK .eql x35 (.int .u8 40) fun x37 =>
  ifK x37 (
  c112_2 run fu x0 x1 (.int .u8 41) σ16) (
  c112_2 run fu x0 x1 x35 σ16)) (
  c112_1 run fu σ16)

theorem eq112 (run : RunT) (fu : Nat) (x0 x1 : AV) (σ : Store) : codeK X0 run (.seq .leaf (.seq (.seq .leaf (.cond (.seq .leaf (.seq (.seq .leaf (.cond .leaf .leaf)) (.sub (fun fr σ => c112_2 run fu (G fr 0) (G fr 1) (G fr 8) σ)))) .leaf)) (.sub (fun fr σ => c112_1 run fu σ)))) (subC [] b112) ([x0, x1] ++ padA (83 - 2)) σ k112 = c112 run fu x0 x1 σ := by kernel_rfl

theorem ok112 {run : RunT} (hrun : RunOK X0 run) (fu : Nat) (x0 x1 : AV) (σ : Store) : CallOK X0 112 [x0, x1] σ (c112 run fu x0 x1 σ) :=
  KOK.body (fn := Tryz.f112) (c := subC [] b112) (by kernel_rfl) (by kernel_rfl) (by show 2 ≤ 83; decide) (KOK.whole env0 hrun (eq112 run fu x0 x1 σ) ⟨trivial, ⟨⟨trivial, ⟨⟨trivial, ⟨⟨trivial, ⟨trivial, trivial⟩⟩, (ok112_2 hrun fu)⟩⟩, trivial⟩⟩, (ok112_1 hrun fu)⟩⟩)

-- pub-paratext/pub/rscmarkdown.parseLinkLabel

noncomputable def b113 : Code := match Tryz.f113.body with | some c => c | none => .skip

noncomputable def k113 : Kont R := retK Tryz.prog [.tmp 6, .tmp 7, .tmp 8]

noncomputable def c113_1 (run : RunT) (fu : Nat) (σ : Store) : Tr R :=
  .ret (.tup [(.str []), (.int .i64 0), (.bool false)], σ)

theorem eq113_1 (run : RunT) (fu : Nat) (σ : Store) : codeK X0 run (.seq .leaf .leaf) (subC [true, true, true, true] b113) (frS 0 69 []) σ k113 = c113_1 run fu σ := by kernel_rfl

theorem ok113_1 {run : RunT} (hrun : RunOK X0 run) (fu : Nat) : ∀ fr σ, KOK X0 69 (subC [true, true, true, true] b113) fr σ ((fun fr σ => c113_1 run fu σ) fr σ) k113 := fun fr σ =>
  KOK.piece env0 hrun [] (eq113_1 run fu σ) ⟨trivial, trivial⟩

noncomputable def c113_3 (run : RunT) (fu : Nat) (s2 : W4) (x0 x1 x2 x9 : AV) (σ : Store) : Tr R :=
  addK x9 (.int .i64 1) fun x28 =>
  s2 x0 x1 x2 x28 σ

theorem eq113_3 (run : RunT) (fu : Nat) (s2 : W4) (x0 x1 x2 x9 : AV) (σ : Store) : codeK X0 run .leaf (subC [true, true, true, false, false, false, true, true] b113) (frS 0 69 [(0, x0), (1, x1), (2, x2), (9, x9)]) σ (thenK (fun fr σ => s2 (G fr 0) (G fr 1) (G fr 2) (G fr 9) σ) (blockK 0 (thenK (fun fr σ => c113_1 run fu σ) k113))) = c113_3 run fu s2 x0 x1 x2 x9 σ := by kernel_rfl

theorem ok113_3 {run : RunT} (hrun : RunOK X0 run) (fu : Nat) (s2 : W4) : ∀ fr σ, KOK X0 69 (subC [true, true, true, false, false, false, true, true] b113) fr σ ((fun fr σ => c113_3 run fu s2 (G fr 0) (G fr 1) (G fr 2) (G fr 9) σ) fr σ) (thenK (fun fr σ => s2 (G fr 0) (G fr 1) (G fr 2) (G fr 9) σ) (blockK 0 (thenK (fun fr σ => c113_1 run fu σ) k113))) := fun fr σ =>
  KOK.piece env0 hrun [0, 1, 2, 9] (eq113_3 run fu s2 (G fr 0) (G fr 1) (G fr 2) (G fr 9) σ) trivial

noncomputable def c113_2b (run : RunT) (fu : Nat) (s2 : W4) (x0 x1 x2 x9 : AV) (σ : Store) : Tr R :=
  lenSK x1 fun x25 =>
  cmpK .lss x9 x25 fun x26 =>
  ifK x26 (
  idxSK x1 x9 fun x31 =>
  cmpK .eql x31 (.int .u8 93) fun x32 =>
  ifK x32 (
  addK x2 (.int .i64 1) fun x35 =>
  subK x9 x35 fun x36 =>
  cmpK .gtr x36 (.int .i64 999) fun x37 =>
  ifK x37 (
  .fail) (
  addK x2 (.int .i64 1) fun x43 =>
  sliceSK x1 (some x43) (some x9) fun x45 =>
  calK run 163 [x45] σ fun x46 σ1 =>
  neSK x46 (.str []) fun x48 =>
  ifK x48 (
  addK x9 (.int .i64 1) fun x51 =>
  .ret (.tup [x46, x51, (.bool true)], σ1)) (
  .fail))) (
  idxSK x1 x9 fun x54 =>
  cmpK .eql x54 (.int .u8 91) fun x55 =>
  ifK x55 (
  .fail) (
  idxSK x1 x9 fun x58 =>
  cmpK .eql x58 (.int .u8 92) fun x59 =>
  grdK x59 true σ (fun f => f x9 σ) fun x61 σ2 =>
  grdK x59 true σ2 (fun f => addK x61 (.int .i64 1) fun v => f v σ2) fun x62 σ3 =>
  grdK x59 true σ3 (fun f => f x1 σ3) fun x63 σ4 =>
  grdK x59 true σ4 (fun f => lenSK x63 fun v => f v σ4) fun x64 σ5 =>
  grdK x59 true σ5 (fun f => cmpK .lss x62 x64 fun v => f v σ5) fun x65 σ6 =>
  pickK x59 x65 (.bool false) fun x66 =>
  ifK x66 (
  .fail) (
  c113_3 run fu s2 x0 x1 x2 x9 σ6)))) (
  .fail)

noncomputable def c113_2 (run : RunT) (fu : Nat) : Nat → W4
  | 0 => fun _ _ _ _ _ => .fail
  | m + 1 => c113_2b run fu (c113_2 run fu m)

theorem eq113_2 (run : RunT) (fu : Nat) (s2 : W4) (x0 x1 x2 x9 : AV) (σ : Store) : codeK X0 run (.seq (.seq .leaf (.cond .leaf (.sub deadK))) (.seq (.block (.seq (.seq .leaf (.cond (.seq (.seq .leaf (.cond (.sub deadK) .leaf)) (.seq (.seq .leaf (.seq .leaf (.cond (.seq .leaf .leaf) (.sub deadK)))) .leaf)) .leaf)) (.seq (.seq .leaf (.cond (.sub deadK) .leaf)) (.seq .leaf (.cond (.sub deadK) .leaf))))) (.sub (fun fr σ => c113_3 run fu s2 (G fr 0) (G fr 1) (G fr 2) (G fr 9) σ)))) (subC [true, true, true, false, false, false] b113) (frS 0 69 [(0, x0), (1, x1), (2, x2), (9, x9)]) σ (thenK (fun fr σ => s2 (G fr 0) (G fr 1) (G fr 2) (G fr 9) σ) (blockK 0 (thenK (fun fr σ => c113_1 run fu σ) k113))) = c113_2b run fu s2 x0 x1 x2 x9 σ := by kernel_rfl

theorem owed113_2 {run : RunT} (hrun : RunOK X0 run) (fu : Nat) (s2 : W4) : Owes X0 run 69 (.seq (.seq .leaf (.cond .leaf (.sub deadK))) (.seq (.block (.seq (.seq .leaf (.cond (.seq (.seq .leaf (.cond (.sub deadK) .leaf)) (.seq (.seq .leaf (.seq .leaf (.cond (.seq .leaf .leaf) (.sub deadK)))) .leaf)) .leaf)) (.seq (.seq .leaf (.cond (.sub deadK) .leaf)) (.seq .leaf (.cond (.sub deadK) .leaf))))) (.sub (fun fr σ => c113_3 run fu s2 (G fr 0) (G fr 1) (G fr 2) (G fr 9) σ)))) (subC [true, true, true, false, false, false] b113) (thenK (fun fr σ => s2 (G fr 0) (G fr 1) (G fr 2) (G fr 9) σ) (blockK 0 (thenK (fun fr σ => c113_1 run fu σ) k113))) :=
  ⟨⟨trivial, ⟨trivial, KOK.dead⟩⟩, ⟨⟨⟨trivial, ⟨⟨⟨trivial, ⟨KOK.dead, trivial⟩⟩, ⟨⟨trivial, ⟨trivial, ⟨⟨trivial, trivial⟩, KOK.dead⟩⟩⟩, trivial⟩⟩, trivial⟩⟩, ⟨⟨trivial, ⟨KOK.dead, trivial⟩⟩, ⟨trivial, ⟨KOK.dead, trivial⟩⟩⟩⟩, (ok113_3 hrun fu s2)⟩⟩

theorem ok113_2 {run : RunT} (hrun : RunOK X0 run) (fu : Nat) : ∀ fr σ, KOK X0 69 (subC [true, true, true, false, false] b113) fr σ ((fun fr σ => c113_2 run fu fu (G fr 0) (G fr 1) (G fr 2) (G fr 9) σ) fr σ) (blockK 0 (thenK (fun fr σ => c113_1 run fu σ) k113)) := by
  have h := KOK.loop (X := X0) (N := 69) (b := (subC [true, true, true, false, false, false] b113)) (k := (blockK 0 (thenK (fun fr σ => c113_1 run fu σ) k113))) (u := fun m fr σ => c113_2 run fu m (G fr 0) (G fr 1) (G fr 2) (G fr 9) σ) (fun _ _ => rfl) (fun m fr σ => KOK.piece env0 hrun [0, 1, 2, 9] (eq113_2 run fu (c113_2 run fu m) (G fr 0) (G fr 1) (G fr 2) (G fr 9) σ) (owed113_2 hrun fu (c113_2 run fu m)))
  exact fun fr σ => h fu fr σ

noncomputable def c113 (run : RunT) (fu : Nat) (x0 x1 x2 : AV) (σ : Store) : Tr R :=
  lenSK x1 fun x13 =>
  cmpK .geq x2 x13 fun x14 =>
  grdK x14 false σ (fun f => f x1 σ) fun x16 σ1 =>
  grdK x14 false σ1 (fun f => f x2 σ1) fun x17 σ2 =>
  grdK x14 false σ2 (fun f => idxSK x16 x17 fun v => f v σ2) fun x18 σ3 =>
  grdK x14 false σ3 (fun f => cmpK .neq x18 (.int .u8 91) fun v => f v σ3) fun x19 σ4 =>
  pickK x14 (.bool true) x19 fun x20 =>
  ifK x20 (
  .ret (.tup [(.str []), (.int .i64 0), (.bool false)], σ4)) (
  addK x2 (.int .i64 1) fun x22 =>
  c113_2 run fu fu x0 x1 x2 x22 σ4)

theorem eq113 (run : RunT) (fu : Nat) (x0 x1 x2 : AV) (σ : Store) : codeK X0 run (.seq .leaf (.seq (.seq .leaf (.cond (.seq .leaf .leaf) .leaf)) (.seq .leaf (.seq (.block (.sub (fun fr σ => c113_2 run fu fu (G fr 0) (G fr 1) (G fr 2) (G fr 9) σ))) (.sub (fun fr σ => c113_1 run fu σ)))))) (subC [] b113) ([x0, x1, x2] ++ padA (69 - 3)) σ k113 = c113 run fu x0 x1 x2 σ := by kernel_rfl

theorem ok113 {run : RunT} (hrun : RunOK X0 run) (fu : Nat) (x0 x1 x2 : AV) (σ : Store) : CallOK X0 113 [x0, x1, x2] σ (c113 run fu x0 x1 x2 σ) :=
  KOK.body (fn := Tryz.f113) (c := subC [] b113) (by kernel_rfl) (by kernel_rfl) (by show 3 ≤ 69; decide) (KOK.whole env0 hrun (eq113 run fu x0 x1 x2 σ) ⟨trivial, ⟨⟨trivial, ⟨⟨trivial, trivial⟩, trivial⟩⟩, ⟨trivial, ⟨(ok113_2 hrun fu), (ok113_1 hrun fu)⟩⟩⟩⟩)

-- pub-paratext/pub/rscmarkdown.toPlain

noncomputable def b117 : Code := match Tryz.f117.body with | some c => c | none => .skip

noncomputable def k117 : Kont R := retK Tryz.prog [.tmp 2]

noncomputable def c117 (run : RunT) (fu : Nat) (x0 : AV) (σ : Store) : Tr R :=
  tasK (some .nilp) 150 true x0 fun x7 =>
  extK x7 1 fun x8 =>
  extK x7 0 fun x9 =>
  ifK x8 (
  .fail) (
  tasK (some .nilp) 185 true x0 fun x11 =>
  extK x11 1 fun x12 =>
  extK x11 0 fun x13 =>
  ifK x12 (
  .fail) (
  tasK (some .nilp) 128 true x0 fun x17 =>
  extK x17 1 fun x18 =>
  extK x17 0 fun x19 =>
  ifK x18 (
  .fail) (
  .ret (.nilp, σ))))

theorem eq117 (run : RunT) (fu : Nat) (x0 : AV) (σ : Store) : codeK X0 run (.seq .leaf (.seq (.seq .leaf (.block (.seq .leaf (.cond (.sub deadK) (.seq .leaf (.cond (.sub deadK) (.seq .leaf (.cond (.sub deadK) .leaf)))))))) (.seq .leaf .leaf))) (subC [] b117) ([x0] ++ padA (23 - 1)) σ k117 = c117 run fu x0 σ := by kernel_rfl

theorem ok117 {run : RunT} (hrun : RunOK X0 run) (fu : Nat) (x0 : AV) (σ : Store) : CallOK X0 117 [x0] σ (c117 run fu x0 σ) :=
  KOK.body (fn := Tryz.f117) (c := subC [] b117) (by kernel_rfl) (by kernel_rfl) (by show 1 ≤ 23; decide) (KOK.whole env0 hrun (eq117 run fu x0 σ) ⟨trivial, ⟨⟨trivial, ⟨trivial, ⟨KOK.dead, ⟨trivial, ⟨KOK.dead, ⟨trivial, ⟨KOK.dead, trivial⟩⟩⟩⟩⟩⟩⟩, ⟨trivial, trivial⟩⟩⟩)

-- pub-paratext/pub/rscmarkdown.trimQuote

noncomputable def b120 : Code := match Tryz.f120.body with | some c => c | none => .skip

noncomputable def k120 : Kont R := retK Tryz.prog [.cell 2 100, .tmp 3]

noncomputable def c120 (run : RunT) (fu : Nat) (x0 : AV) (σ : Store) : Tr R :=
  boxK σ 201 x0 fun x1 σ1 =>
  newK σ1 201 [(.int .i64 0), (.int .i64 0), (.int .i64 0), (.str []), (.int .u8 0)] fun x2 σ2 =>
  ldNK σ2 x1 5 fun x5 =>
  newK σ2 201 [(.int .i64 0), (.int .i64 0), (.int .i64 0), (.str []), (.int .u8 0)] fun x4 σ3 =>
  stNK σ3 x4 5 x5 fun _ σ4 =>
  calK run 139 [x4, (.int .i64 0), (.int .i64 3), (.bool false)] σ4 fun x6 σ5 =>
  calK run 168 [x4, (.int .u8 62)] σ5 fun x7 σ6 =>
  notK x7 fun x8 =>
  ifK x8 (
  ldNK σ6 x1 5 fun x9 =>
  stNK σ6 x2 5 x9 fun _ σ7 =>
  ldNK σ7 x2 5 fun v8 =>
  .ret (.tup [v8, (.bool false)], σ7)) (
  .fail)

theorem eq120 (run : RunT) (fu : Nat) (x0 : AV) (σ : Store) : codeK X0 run (.seq .leaf (.seq .leaf (.seq .leaf (.seq (.seq .leaf (.cond (.seq .leaf .leaf) (.sub deadK))) .leaf)))) (subC [] b120) ([x0] ++ padA (12 - 1)) σ k120 = c120 run fu x0 σ := by kernel_rfl

theorem ok120 {run : RunT} (hrun : RunOK X0 run) (fu : Nat) (x0 : AV) (σ : Store) : CallOK X0 120 [x0] σ (c120 run fu x0 σ) :=
  KOK.body (fn := Tryz.f120) (c := subC [] b120) (by kernel_rfl) (by kernel_rfl) (by show 1 ≤ 12; decide) (KOK.whole env0 hrun (eq120 run fu x0 σ) ⟨trivial, ⟨trivial, ⟨trivial, ⟨⟨trivial, ⟨⟨trivial, trivial⟩, KOK.dead⟩⟩, trivial⟩⟩⟩⟩)

-- (*pub-paratext/pub/rscmarkdown.line).trimHeading

noncomputable def b121 : Code := match Tryz.f121.body with | some c => c | none => .skip

noncomputable def k121 : Kont R := retK Tryz.prog [.tmp 4]

noncomputable def c121 (run : RunT) (fu : Nat) (x0 x1 : AV) (σ : Store) : Tr R :=
  nchkK x0 fun x8 =>
  ldNK σ x8 5 fun x9 =>
  newK σ 201 [(.int .i64 0), (.int .i64 0), (.int .i64 0), (.str []), (.int .u8 0)] fun x5 σ1 =>
  stNK σ1 x5 5 x9 fun _ σ2 =>
  calK run 139 [x5, (.int .i64 0), (.int .i64 3), (.bool false)] σ2 fun x10 σ3 =>
  calK run 168 [x5, (.int .u8 35)] σ3 fun x11 σ4 =>
  notK x11 fun x12 =>
  ifK x12 (
  .ret ((.bool false), σ4)) (
  .fail)

theorem eq121 (run : RunT) (fu : Nat) (x0 x1 : AV) (σ : Store) : codeK X0 run (.seq .leaf (.seq .leaf (.seq .leaf (.seq (.seq .leaf (.cond (.seq .leaf .leaf) (.sub deadK))) .leaf)))) (subC [] b121) ([x0, x1] ++ padA (28 - 2)) σ k121 = c121 run fu x0 x1 σ := by kernel_rfl

theorem ok121 {run : RunT} (hrun : RunOK X0 run) (fu : Nat) (x0 x1 : AV) (σ : Store) : CallOK X0 121 [x0, x1] σ (c121 run fu x0 x1 σ) :=
  KOK.body (fn := Tryz.f121) (c := subC [] b121) (by kernel_rfl) (by kernel_rfl) (by show 2 ≤ 28; decide) (KOK.whole env0 hrun (eq121 run fu x0 x1 σ) ⟨trivial, ⟨trivial, ⟨trivial, ⟨⟨trivial, ⟨⟨trivial, trivial⟩, KOK.dead⟩⟩, trivial⟩⟩⟩⟩)

-- (*pub-paratext/pub/rscmarkdown.parseState).newText

noncomputable def b128 : Code := match Tryz.f128.body with | some c => c | none => .skip

noncomputable def k128 : Kont R := retK Tryz.prog [.tmp 6]

noncomputable def c128 (run : RunT) (fu : Nat) (x0 x1 x2 : AV) (σ : Store) : Tr R :=
  boxK σ 209 x1 fun x4 σ1 =>
  ldNK σ1 x4 2 fun x8 =>
  bldK [(.int .i64 0), (.int .i64 0), .nils, (.str [])] [(0, 2, x8), (3, 1, x2)] fun x10 =>
  boxK σ1 213 x10 fun x11 σ2 =>
  nchkK x0 fun x14 =>
  addrK x14 11 fun x15 =>
  ld1K σ2 x15 fun x16 =>
  opt (fillK [.nilp] [(0, 1, x11)]) fun cs => newSK σ2 203 cs 1 1 fun x18 σ3 =>
  appK 101 1 8 σ3 x16 x18 fun x19 σ4 =>
  nchkK x0 fun x20 =>
  addrK x20 11 fun x21 =>
  st1K σ4 x21 x19 fun _ σ5 =>
  .ret (x11, σ5)

theorem eq128 (run : RunT) (fu : Nat) (x0 x1 x2 : AV) (σ : Store) : codeK X0 run (.seq .leaf (.seq .leaf (.seq .leaf (.seq .leaf .leaf)))) (subC [] b128) ([x0, x1, x2] ++ padA (23 - 3)) σ k128 = c128 run fu x0 x1 x2 σ := by kernel_rfl

theorem ok128 {run : RunT} (hrun : RunOK X0 run) (fu : Nat) (x0 x1 x2 : AV) (σ : Store) : CallOK X0 128 [x0, x1, x2] σ (c128 run fu x0 x1 x2 σ) :=
  KOK.body (fn := Tryz.f128) (c := subC [] b128) (by kernel_rfl) (by kernel_rfl) (by show 3 ≤ 23; decide) (KOK.whole env0 hrun (eq128 run fu x0 x1 x2 σ) ⟨trivial, ⟨trivial, ⟨trivial, ⟨trivial, trivial⟩⟩⟩⟩)

-- (*pub-paratext/pub/rscmarkdown.parseState).nextB

noncomputable def b129 : Code := match Tryz.f129.body with | some c => c | none => .skip

noncomputable def k129 : Kont R := retK Tryz.prog [.tmp 2]

noncomputable def c129 (run : RunT) (fu : Nat) (x0 : AV) (σ : Store) : Tr R :=
  nchkK x0 fun x4 =>
  addrK x4 5 fun x5 =>
  ld1K σ x5 fun x6 =>
  addK x6 (.int .i64 1) fun x7 =>
  nchkK x0 fun x9 =>
  addrK x9 4 fun x10 =>
  ld1K σ x10 fun x11 =>
  lenLK x11 fun x12 =>
  cmpK .lss x7 x12 fun x13 =>
  ifK x13 (
  .fail) (
  .ret (.nili, σ))

theorem eq129 (run : RunT) (fu : Nat) (x0 : AV) (σ : Store) : codeK X0 run (.seq .leaf (.seq (.seq .leaf (.cond (.sub deadK) .leaf)) (.seq .leaf .leaf))) (subC [] b129) ([x0] ++ padA (26 - 1)) σ k129 = c129 run fu x0 σ := by kernel_rfl

theorem ok129 {run : RunT} (hrun : RunOK X0 run) (fu : Nat) (x0 : AV) (σ : Store) : CallOK X0 129 [x0] σ (c129 run fu x0 σ) :=
  KOK.body (fn := Tryz.f129) (c := subC [] b129) (by kernel_rfl) (by kernel_rfl) (by show 1 ≤ 26; decide) (KOK.whole env0 hrun (eq129 run fu x0 σ) ⟨trivial, ⟨⟨trivial, ⟨KOK.dead, trivial⟩⟩, ⟨trivial, trivial⟩⟩⟩)

-- pub-paratext/pub/rscmarkdown.isHR

noncomputable def b133 : Code := match Tryz.f133.body with | some c => c | none => .skip

noncomputable def k133 : Kont R := retK Tryz.prog [.tmp 2]

noncomputable def c133_1 (run : RunT) (fu : Nat) (σ : Store) : Tr R :=
  .ret ((.bool false), σ)

theorem eq133_1 (run : RunT) (fu : Nat) (σ : Store) : codeK X0 run (.seq .leaf .leaf) (subC [true, true, true, true] b133) (frS 0 23 []) σ k133 = c133_1 run fu σ := by kernel_rfl

theorem ok133_1 {run : RunT} (hrun : RunOK X0 run) (fu : Nat) : ∀ fr σ, KOK X0 23 (subC [true, true, true, true] b133) fr σ ((fun fr σ => c133_1 run fu σ) fr σ) k133 := fun fr σ =>
  KOK.piece env0 hrun [] (eq133_1 run fu σ) ⟨trivial, trivial⟩

noncomputable def c133_2 (run : RunT) (fu : Nat) (x3 x4 x10 : AV) (σ : Store) : Tr R :=
  ifK x10 (
  .fail) (
  c133_1 run fu σ)

theorem eq133_2 (run : RunT) (fu : Nat) (x3 x4 x10 : AV) (σ : Store) : codeK X0 run (.cond (.sub deadK) .leaf) (subC [true, true, true, false, true, true, false, true] b133) (frS 0 23 [(3, x3), (4, x4), (10, x10)]) σ (blockK 0 (thenK (fun fr σ => c133_1 run fu σ) k133)) = c133_2 run fu x3 x4 x10 σ := by kernel_rfl

theorem ok133_2 {run : RunT} (hrun : RunOK X0 run) (fu : Nat) : ∀ fr σ, KOK X0 23 (subC [true, true, true, false, true, true, false, true] b133) fr σ ((fun fr σ => c133_2 run fu (G fr 3) (G fr 4) (G fr 10) σ) fr σ) (blockK 0 (thenK (fun fr σ => c133_1 run fu σ) k133)) := fun fr σ =>
  KOK.piece env0 hrun [3, 4, 10] (eq133_2 run fu (G fr 3) (G fr 4) (G fr 10) σ) ⟨KOK.dead, trivial⟩

noncomputable def c133 (run : RunT) (fu : Nat) (x0 : AV) (σ : Store) : Tr R :=
  boxK σ 201 x0 fun x1 σ1 =>
  ldNK σ1 x1 5 fun x6 =>
  newK σ1 201 [(.int .i64 0), (.int .i64 0), (.int .i64 0), (.str []), (.int .u8 0)] fun x3 σ2 =>
  stNK σ2 x3 5 x6 fun _ σ3 =>
  calK run 139 [x3, (.int .i64 0), (.int .i64 3), (.bool false)] σ3 fun x7 σ4 =>
  calK run 170 [x3] σ4 fun x8 σ5 =>
  cmpK .eql x8 (.int .u8 45) fun x11 =>
  ifK x11 (
  .fail) (
  cmpK .eql x8 (.int .u8 95) fun x12 =>
  ifK x12 (
  .fail) (
  cmpK .eql x8 (.int .u8 42) fun x13 =>
  c133_2 run fu x3 x8 x13 σ5))

theorem eq133 (run : RunT) (fu : Nat) (x0 : AV) (σ : Store) : codeK X0 run (.seq .leaf (.seq .leaf (.seq .leaf (.seq (.seq .leaf (.seq .leaf (.block (.seq (.seq .leaf (.cond (.sub deadK) (.seq .leaf (.cond (.sub deadK) .leaf)))) (.sub (fun fr σ => c133_2 run fu (G fr 3) (G fr 4) (G fr 10) σ)))))) (.sub (fun fr σ => c133_1 run fu σ)))))) (subC [] b133) ([x0] ++ padA (23 - 1)) σ k133 = c133 run fu x0 σ := by kernel_rfl

theorem ok133 {run : RunT} (hrun : RunOK X0 run) (fu : Nat) (x0 : AV) (σ : Store) : CallOK X0 133 [x0] σ (c133 run fu x0 σ) :=
  KOK.body (fn := Tryz.f133) (c := subC [] b133) (by kernel_rfl) (by kernel_rfl) (by show 1 ≤ 23; decide) (KOK.whole env0 hrun (eq133 run fu x0 σ) ⟨trivial, ⟨trivial, ⟨trivial, ⟨⟨trivial, ⟨trivial, ⟨⟨trivial, ⟨KOK.dead, ⟨trivial, ⟨KOK.dead, trivial⟩⟩⟩⟩, (ok133_2 hrun fu)⟩⟩⟩, (ok133_1 hrun fu)⟩⟩⟩⟩)

-- (*pub-paratext/pub/rscmarkdown.parseState).curB

noncomputable def b134 : Code := match Tryz.f134.body with | some c => c | none => .skip

noncomputable def k134 : Kont R := retK Tryz.prog [.tmp 2]

noncomputable def c134 (run : RunT) (fu : Nat) (x0 : AV) (σ : Store) : Tr R :=
  nchkK x0 fun x4 =>
  addrK x4 5 fun x5 =>
  ld1K σ x5 fun x6 =>
  nchkK x0 fun x8 =>
  addrK x8 4 fun x9 =>
  ld1K σ x9 fun x10 =>
  lenLK x10 fun x11 =>
  cmpK .lss x6 x11 fun x12 =>
  ifK x12 (
  nchkK x0 fun x14 =>
  addrK x14 4 fun x15 =>
  ld1K σ x15 fun x16 =>
  nchkK x0 fun x18 =>
  addrK x18 5 fun x19 =>
  ld1K σ x19 fun x20 =>
  idxK 4 x16 x20 fun x21 =>
  addrK x21 0 fun x22 =>
  ld1K σ x22 fun x23 =>
  .ret (x23, σ)) (
  .fail)

theorem eq134 (run : RunT) (fu : Nat) (x0 : AV) (σ : Store) : codeK X0 run (.seq .leaf (.seq (.seq .leaf (.cond (.seq .leaf .leaf) (.sub deadK))) .leaf)) (subC [] b134) ([x0] ++ padA (24 - 1)) σ k134 = c134 run fu x0 σ := by kernel_rfl

theorem ok134 {run : RunT} (hrun : RunOK X0 run) (fu : Nat) (x0 : AV) (σ : Store) : CallOK X0 134 [x0] σ (c134 run fu x0 σ) :=
  KOK.body (fn := Tryz.f134) (c := subC [] b134) (by kernel_rfl) (by kernel_rfl) (by show 1 ≤ 24; decide) (KOK.whole env0 hrun (eq134 run fu x0 σ) ⟨trivial, ⟨⟨trivial, ⟨⟨trivial, trivial⟩, KOK.dead⟩⟩, trivial⟩⟩)

-- (*pub-paratext/pub/rscmarkdown.parseState).startListItem

noncomputable def b135 : Code := match Tryz.f135.body with | some c => c | none => .skip

noncomputable def k135 : Kont R := retK Tryz.prog [.tmp 4]

noncomputable def c135_2 (run : RunT) (fu : Nat) (x2 x5 x6 x8 x9 : AV) (σ : Store) : Tr R :=
  calK run 139 [x5, (.int .i64 1), (.int .i64 1), (.bool true)] σ fun x98 σ1 =>
  notK x98 fun x99 =>
  ifK x99 (
  .fail) (
  .fail)

theorem eq135_2 (run : RunT) (fu : Nat) (x2 x5 x6 x8 x9 : AV) (σ : Store) : codeK X0 run (.seq (.seq .leaf (.cond (.sub deadK) (.sub deadK))) .leaf) (subC [true, false, true, true, true, true, true, true, true] b135) (frS 0 181 [(2, x2), (5, x5), (6, x6), (8, x8), (9, x9)]) σ (noGotoK k135) = c135_2 run fu x2 x5 x6 x8 x9 σ := by kernel_rfl

theorem ok135_2 {run : RunT} (hrun : RunOK X0 run) (fu : Nat) : ∀ fr σ, KOK X0 181 (subC [true, false, true, true, true, true, true, true, true] b135) fr σ ((fun fr σ => c135_2 run fu (G fr 2) (G fr 5) (G fr 6) (G fr 8) (G fr 9) σ) fr σ) (noGotoK k135) := fun fr σ =>
  KOK.piece env0 hrun [2, 5, 6, 8, 9] (eq135_2 run fu (G fr 2) (G fr 5) (G fr 6) (G fr 8) (G fr 9) σ) ⟨⟨trivial, ⟨KOK.dead, KOK.dead⟩⟩, trivial⟩

noncomputable def c135_4 (run : RunT) (fu : Nat) (x2 x5 x6 x9 x40 : AV) (σ : Store) : Tr R :=
  ifK x40 (
  .fail) (
  .ret ((.bool false), σ))

theorem eq135_4 (run : RunT) (fu : Nat) (x2 x5 x6 x9 x40 : AV) (σ : Store) : codeK X0 run (.cond (.sub deadK) (.seq .leaf .leaf)) (subC [true, false, true, true, true, true, true, true, false, true, false, true, true, true] b135) (frS 0 181 [(2, x2), (5, x5), (6, x6), (9, x9), (40, x40)]) σ (blockK 2 (thenK (fun fr σ => c135_2 run fu (G fr 2) (G fr 5) (G fr 6) (G fr 8) (G fr 9) σ) (noGotoK k135))) = c135_4 run fu x2 x5 x6 x9 x40 σ := by kernel_rfl

theorem ok135_4 {run : RunT} (hrun : RunOK X0 run) (fu : Nat) : ∀ fr σ, KOK X0 181 (subC [true, false, true, true, true, true, true, true, false, true, false, true, true, true] b135) fr σ ((fun fr σ => c135_4 run fu (G fr 2) (G fr 5) (G fr 6) (G fr 9) (G fr 40) σ) fr σ) (blockK 2 (thenK (fun fr σ => c135_2 run fu (G fr 2) (G fr 5) (G fr 6) (G fr 8) (G fr 9) σ) (noGotoK k135))) := fun fr σ =>
  KOK.piece env0 hrun [2, 5, 6, 9, 40] (eq135_4 run fu (G fr 2) (G fr 5) (G fr 6) (G fr 9) (G fr 40) σ) ⟨KOK.dead, ⟨trivial, trivial⟩⟩

noncomputable def c135_3 (run : RunT) (fu : Nat) (x2 x5 x6 x8 x9 x31 x32 : AV) (σ : Store) : Tr R :=
  ifK x32 (
  .fail) (
  cmpK .eql x31 (.int .u8 48) fun x41 =>
  ifK x41 (
  .fail) (
  cmpK .eql x31 (.int .u8 49) fun x42 =>
  ifK x42 (
  .fail) (
  cmpK .eql x31 (.int .u8 50) fun x43 =>
  ifK x43 (
  .fail) (
  cmpK .eql x31 (.int .u8 51) fun x44 =>
  ifK x44 (
  .fail) (
  cmpK .eql x31 (.int .u8 52) fun x45 =>
  ifK x45 (
  .fail) (
  cmpK .eql x31 (.int .u8 53) fun x46 =>
  ifK x46 (
  .fail) (
  cmpK .eql x31 (.int .u8 54) fun x47 =>
  ifK x47 (
  .fail) (
  cmpK .eql x31 (.int .u8 55) fun x48 =>
  ifK x48 (
  .fail) (
  cmpK .eql x31 (.int .u8 56) fun x49 =>
  ifK x49 (
  .fail) (
  cmpK .eql x31 (.int .u8 57) fun x50 =>
  c135_4 run fu x2 x5 x6 x9 x50 σ))))))))))

theorem eq135_3 (run : RunT) (fu : Nat) (x2 x5 x6 x8 x9 x31 x32 : AV) (σ : Store) : codeK X0 run (.cond (.sub deadK) (.seq (.seq .leaf (.cond (.sub deadK) (.seq .leaf (.cond (.sub deadK) (.seq .leaf (.cond (.sub deadK) (.seq .leaf (.cond (.sub deadK) (.seq .leaf (.cond (.sub deadK) (.seq .leaf (.cond (.sub deadK) (.seq .leaf (.cond (.sub deadK) (.seq .leaf (.cond (.sub deadK) (.seq .leaf (.cond (.sub deadK) .leaf)))))))))))))))))) (.sub (fun fr σ => c135_4 run fu (G fr 2) (G fr 5) (G fr 6) (G fr 9) (G fr 40) σ)))) (subC [true, false, true, true, true, true, true, true, false, true, false, true] b135) (frS 0 181 [(2, x2), (5, x5), (6, x6), (8, x8), (9, x9), (31, x31), (32, x32)]) σ (blockK 2 (thenK (fun fr σ => c135_2 run fu (G fr 2) (G fr 5) (G fr 6) (G fr 8) (G fr 9) σ) (noGotoK k135))) = c135_3 run fu x2 x5 x6 x8 x9 x31 x32 σ := by kernel_rfl

theorem ok135_3 {run : RunT} (hrun : RunOK X0 run) (fu : Nat) : ∀ fr σ, KOK X0 181 (subC [true, false, true, true, true, true, true, true, false, true, false, true] b135) fr σ ((fun fr σ => c135_3 run fu (G fr 2) (G fr 5) (G fr 6) (G fr 8) (G fr 9) (G fr 31) (G fr 32) σ) fr σ) (blockK 2 (thenK (fun fr σ => c135_2 run fu (G fr 2) (G fr 5) (G fr 6) (G fr 8) (G fr 9) σ) (noGotoK k135))) := fun fr σ =>
  KOK.piece env0 hrun [2, 5, 6, 8, 9, 31, 32] (eq135_3 run fu (G fr 2) (G fr 5) (G fr 6) (G fr 8) (G fr 9) (G fr 31) (G fr 32) σ) ⟨KOK.dead, ⟨⟨trivial, ⟨KOK.dead, ⟨trivial, ⟨KOK.dead, ⟨trivial, ⟨KOK.dead, ⟨trivial, ⟨KOK.dead, ⟨trivial, ⟨KOK.dead, ⟨trivial, ⟨KOK.dead, ⟨trivial, ⟨KOK.dead, ⟨trivial, ⟨KOK.dead, ⟨trivial, ⟨KOK.dead, trivial⟩⟩⟩⟩⟩⟩⟩⟩⟩⟩⟩⟩⟩⟩⟩⟩⟩⟩, (ok135_4 hrun fu)⟩⟩

noncomputable def c135_1 (run : RunT) (fu : Nat) (x2 x5 x6 : AV) (σ : Store) : Tr R :=
  calK run 170 [x5] σ fun x30 σ1 =>
  cmpK .eql x30 (.int .u8 45) fun x33 =>
  ifK x33 (
  .fail) (
  cmpK .eql x30 (.int .u8 42) fun x34 =>
  ifK x34 (
  .fail) (
  cmpK .eql x30 (.int .u8 43) fun x35 =>
  c135_3 run fu x2 x5 x6 x30 (.int .i64 0) x30 x35 σ1))

theorem eq135_1 (run : RunT) (fu : Nat) (x2 x5 x6 : AV) (σ : Store) : codeK X0 run (.seq .leaf (.seq .leaf (.seq .leaf (.seq (.seq .leaf (.block (.seq (.seq .leaf (.cond (.sub deadK) (.seq .leaf (.cond (.sub deadK) .leaf)))) (.sub (fun fr σ => c135_3 run fu (G fr 2) (G fr 5) (G fr 6) (G fr 8) (G fr 9) (G fr 31) (G fr 32) σ))))) (.sub (fun fr σ => c135_2 run fu (G fr 2) (G fr 5) (G fr 6) (G fr 8) (G fr 9) σ)))))) (subC [true, false, true, true, true] b135) (frS 0 181 [(2, x2), (5, x5), (6, x6)]) σ (noGotoK k135) = c135_1 run fu x2 x5 x6 σ := by kernel_rfl

theorem ok135_1 {run : RunT} (hrun : RunOK X0 run) (fu : Nat) : ∀ fr σ, KOK X0 181 (subC [true, false, true, true, true] b135) fr σ ((fun fr σ => c135_1 run fu (G fr 2) (G fr 5) (G fr 6) σ) fr σ) (noGotoK k135) := fun fr σ =>
  KOK.piece env0 hrun [2, 5, 6] (eq135_1 run fu (G fr 2) (G fr 5) (G fr 6) σ) ⟨trivial, ⟨trivial, ⟨trivial, ⟨⟨trivial, ⟨⟨trivial, ⟨KOK.dead, ⟨trivial, ⟨KOK.dead, trivial⟩⟩⟩⟩, (ok135_3 hrun fu)⟩⟩, (ok135_2 hrun fu)⟩⟩⟩⟩

noncomputable def c135_5b (run : RunT) (fu : Nat) (s5 : W4) (x2 x5 x6 x7 : AV) (σ : Store) : Tr R :=
  cmpK .lss x7 (.int .i64 3) fun x23 =>
  ifK x23 (
  calK run 139 [x5, (.int .i64 1), (.int .i64 1), (.bool false)] σ fun x26 σ1 =>
  notK x26 fun x27 =>
  ifK x27 (
  c135_1 run fu x2 x5 x6 σ1) (
  .fail)) (
  .fail)

noncomputable def c135_5 (run : RunT) (fu : Nat) : Nat → W4
  | 0 => fun _ _ _ _ _ => .fail
  | m + 1 => c135_5b run fu (c135_5 run fu m)

theorem eq135_5 (run : RunT) (fu : Nat) (s5 : W4) (x2 x5 x6 x7 : AV) (σ : Store) : codeK X0 run (.seq (.seq .leaf (.cond .leaf (.sub deadK))) (.seq (.block (.seq (.seq .leaf (.cond .leaf (.sub deadK))) .leaf)) .leaf)) (subC [true, false, true, true, false, true, false, false] b135) (frS 0 181 [(2, x2), (5, x5), (6, x6), (7, x7)]) σ (thenK (fun fr σ => s5 (G fr 2) (G fr 5) (G fr 6) (G fr 7) σ) (blockK 0 (thenK (fun fr σ => c135_1 run fu (G fr 2) (G fr 5) (G fr 6) σ) (noGotoK k135)))) = c135_5b run fu s5 x2 x5 x6 x7 σ := by kernel_rfl

theorem owed135_5 {run : RunT} (hrun : RunOK X0 run) (fu : Nat) (s5 : W4) : Owes X0 run 181 (.seq (.seq .leaf (.cond .leaf (.sub deadK))) (.seq (.block (.seq (.seq .leaf (.cond .leaf (.sub deadK))) .leaf)) .leaf)) (subC [true, false, true, true, false, true, false, false] b135) (thenK (fun fr σ => s5 (G fr 2) (G fr 5) (G fr 6) (G fr 7) σ) (blockK 0 (thenK (fun fr σ => c135_1 run fu (G fr 2) (G fr 5) (G fr 6) σ) (noGotoK k135)))) :=
  ⟨⟨trivial, ⟨trivial, KOK.dead⟩⟩, ⟨⟨⟨trivial, ⟨trivial, KOK.dead⟩⟩, trivial⟩, trivial⟩⟩

theorem ok135_5 {run : RunT} (hrun : RunOK X0 run) (fu : Nat) : ∀ fr σ, KOK X0 181 (subC [true, false, true, true, false, true, false] b135) fr σ ((fun fr σ => c135_5 run fu fu (G fr 2) (G fr 5) (G fr 6) (G fr 7) σ) fr σ) (blockK 0 (thenK (fun fr σ => c135_1 run fu (G fr 2) (G fr 5) (G fr 6) σ) (noGotoK k135))) := by
  have h := KOK.loop (X := X0) (N := 181) (b := (subC [true, false, true, true, false, true, false, false] b135)) (k := (blockK 0 (thenK (fun fr σ => c135_1 run fu (G fr 2) (G fr 5) (G fr 6) σ) (noGotoK k135)))) (u := fun m fr σ => c135_5 run fu m (G fr 2) (G fr 5) (G fr 6) (G fr 7) σ) (fun _ _ => rfl) (fun m fr σ => KOK.piece env0 hrun [2, 5, 6, 7] (eq135_5 run fu (c135_5 run fu m) (G fr 2) (G fr 5) (G fr 6) (G fr 7) σ) (owed135_5 hrun fu (c135_5 run fu m)))
  exact fun fr σ => h fu fr σ

noncomputable def c135 (run : RunT) (fu : Nat) (x0 x1 : AV) (σ : Store) : Tr R :=
  boxK σ 221 x0 fun x2 σ1 =>
  nchkK x1 fun x20 =>
  ldNK σ1 x20 5 fun x21 =>
  newK σ1 201 [(.int .i64 0), (.int .i64 0), (.int .i64 0), (.str []), (.int .u8 0)] fun x5 σ2 =>
  stNK σ2 x5 5 x21 fun _ σ3 =>
  c135_5 run fu fu x2 x5 (.int .i64 0) (.int .i64 0) σ3

theorem eq135 (run : RunT) (fu : Nat) (x0 x1 : AV) (σ : Store) : codeK X0 run (.seq .leaf (.scope (.seq .leaf (.seq .leaf (.seq (.seq .leaf (.block (.sub (fun fr σ => c135_5 run fu fu (G fr 2) (G fr 5) (G fr 6) (G fr 7) σ)))) (.sub (fun fr σ => c135_1 run fu (G fr 2) (G fr 5) (G fr 6) σ))))))) (subC [] b135) ([x0, x1] ++ padA (181 - 2)) σ k135 = c135 run fu x0 x1 σ := by kernel_rfl

theorem ok135 {run : RunT} (hrun : RunOK X0 run) (fu : Nat) (x0 x1 : AV) (σ : Store) : CallOK X0 135 [x0, x1] σ (c135 run fu x0 x1 σ) :=
  KOK.body (fn := Tryz.f135) (c := subC [] b135) (by kernel_rfl) (by kernel_rfl) (by show 2 ≤ 181; decide) (KOK.whole env0 hrun (eq135 run fu x0 x1 σ) ⟨trivial, ⟨trivial, ⟨trivial, ⟨⟨trivial, (ok135_5 hrun fu)⟩, (ok135_1 hrun fu)⟩⟩⟩⟩)

-- (*pub-paratext/pub/rscmarkdown.parseState).startHTML

noncomputable def b136 : Code := match Tryz.f136.body with | some c => c | none => .skip

noncomputable def k136 : Kont R := retK Tryz.prog [.tmp 4]

noncomputable def c136_3 (run : RunT) (fu : Nat) (s1 : W5) (σ : Store) : Tr R :=
  .ret ((.bool false), σ)

theorem eq136_3 (run : RunT) (fu : Nat) (s1 : W5) (σ : Store) : codeK X0 run (.seq .leaf .leaf) (subC [true, true, true] (lblC 0 (subC [true, false] b136))) (frS 0 368 []) σ (scopeK (subC [true, false] b136) (lblU 0 (fun fr σ => s1 (G fr 0) (G fr 1) (G fr 6) (G fr 9) (G fr 10) σ)) k136) = c136_3 run fu s1 σ := by kernel_rfl

theorem ok136_3 {run : RunT} (hrun : RunOK X0 run) (fu : Nat) (s1 : W5) : ∀ fr σ, KOK X0 368 (subC [true, true, true] (lblC 0 (subC [true, false] b136))) fr σ ((fun fr σ => c136_3 run fu s1 σ) fr σ) (scopeK (subC [true, false] b136) (lblU 0 (fun fr σ => s1 (G fr 0) (G fr 1) (G fr 6) (G fr 9) (G fr 10) σ)) k136) := fun fr σ =>
  KOK.piece env0 hrun [] (eq136_3 run fu s1 σ) ⟨trivial, trivial⟩

noncomputable def c136_2 (run : RunT) (fu : Nat) (s1 : W5) (x0 x1 x6 : AV) (σ : Store) : Tr R :=
  calK run 89 [x0] σ fun x293 σ1 =>
  eqOK (nilEq nilP) x293 .nilp fun x294 =>
  ifK x294 (
  .fail) (
  .fail)

theorem eq136_2 (run : RunT) (fu : Nat) (s1 : W5) (x0 x1 x6 : AV) (σ : Store) : codeK X0 run (.seq (.seq .leaf (.cond (.sub deadK) (.sub deadK))) (.sub (fun fr σ => c136_3 run fu s1 σ))) (subC [true, true] (lblC 0 (subC [true, false] b136))) (frS 0 368 [(0, x0), (1, x1), (6, x6)]) σ (scopeK (subC [true, false] b136) (lblU 0 (fun fr σ => s1 (G fr 0) (G fr 1) (G fr 6) (G fr 9) (G fr 10) σ)) k136) = c136_2 run fu s1 x0 x1 x6 σ := by kernel_rfl

theorem ok136_2 {run : RunT} (hrun : RunOK X0 run) (fu : Nat) (s1 : W5) : ∀ fr σ, KOK X0 368 (subC [true, true] (lblC 0 (subC [true, false] b136))) fr σ ((fun fr σ => c136_2 run fu s1 (G fr 0) (G fr 1) (G fr 6) σ) fr σ) (scopeK (subC [true, false] b136) (lblU 0 (fun fr σ => s1 (G fr 0) (G fr 1) (G fr 6) (G fr 9) (G fr 10) σ)) k136) := fun fr σ =>
  KOK.piece env0 hrun [0, 1, 6] (eq136_2 run fu s1 (G fr 0) (G fr 1) (G fr 6) σ) ⟨⟨trivial, ⟨KOK.dead, KOK.dead⟩⟩, (ok136_3 hrun fu s1)⟩

noncomputable def c136_1Lb (run : RunT) (fu : Nat) (s1 : W5) (x0 x1 x6 x9 x10 : AV) (σ : Store) : Tr R :=
  lenSK x6 fun x233 =>
  cmpK .gtr x233 (.int .i64 1) fun x234 =>
  grdK x234 true σ (fun f => f x6 σ) fun x236 σ1 =>
  grdK x234 true σ1 (fun f => idxSK x236 (.int .i64 1) fun v => f v σ1) fun x237 σ2 =>
  grdK x234 true σ2 (fun f => cmpK .neq x237 (.int .u8 47) fun v => f v σ2) fun x238 σ3 =>
  pickK x234 x238 (.bool false) fun x239 =>
  grdK x239 true σ3 (fun f => f x9 σ3) fun x241 σ4 =>
  grdK x239 true σ4 (fun f => f x6 σ4) fun x242 σ5 =>
  grdK x239 true σ5 (fun f => lenSK x242 fun v => f v σ5) fun x243 σ6 =>
  grdK x239 true σ6 (fun f => cmpK .geq x241 x243 fun v => f v σ6) fun x244 σ7 =>
  grdK x239 true σ7 (fun f => f x244 σ7) fun x245 σ8 =>
  grdK x245 false σ8 (fun f => f x6 σ8) fun x246 σ9 =>
  grdK x245 false σ9 (fun f => f x9 σ9) fun x247 σ10 =>
  grdK x245 false σ10 (fun f => idxSK x246 x247 fun v => f v σ10) fun x248 σ11 =>
  grdK x245 false σ11 (fun f => cmpK .eql x248 (.int .u8 32) fun v => f v σ11) fun x249 σ12 =>
  grdK x239 true σ12 (fun f => pickK x245 (.bool true) x249 fun v => f v σ12) fun x250 σ13 =>
  grdK x239 true σ13 (fun f => f x250 σ13) fun x251 σ14 =>
  grdK x251 false σ14 (fun f => f x6 σ14) fun x252 σ15 =>
  grdK x251 false σ15 (fun f => f x9 σ15) fun x253 σ16 =>
  grdK x251 false σ16 (fun f => idxSK x252 x253 fun v => f v σ16) fun x254 σ17 =>
  grdK x251 false σ17 (fun f => cmpK .eql x254 (.int .u8 9) fun v => f v σ17) fun x255 σ18 =>
  grdK x239 true σ18 (fun f => pickK x251 (.bool true) x255 fun v => f v σ18) fun x256 σ19 =>
  grdK x239 true σ19 (fun f => f x256 σ19) fun x257 σ20 =>
  grdK x257 false σ20 (fun f => f x6 σ20) fun x258 σ21 =>
  grdK x257 false σ21 (fun f => f x9 σ21) fun x259 σ22 =>
  grdK x257 false σ22 (fun f => idxSK x258 x259 fun v => f v σ22) fun x260 σ23 =>
  grdK x257 false σ23 (fun f => cmpK .eql x260 (.int .u8 62) fun v => f v σ23) fun x261 σ24 =>
  grdK x239 true σ24 (fun f => pickK x257 (.bool true) x261 fun v => f v σ24) fun x262 σ25 =>
  pickK x239 x262 (.bool false) fun x263 =>
  ifK x263 (
  .fail) (
  .fail)

noncomputable def c136_1L (run : RunT) (fu : Nat) : Nat → W5
  | 0 => fun _ _ _ _ _ _ => .fail
  | m + 1 => c136_1Lb run fu (c136_1L run fu m)

theorem eq136_1L (run : RunT) (fu : Nat) (s1 : W5) (x0 x1 x6 x9 x10 : AV) (σ : Store) : codeK X0 run (.seq .leaf (.seq (.seq .leaf (.cond (.sub deadK) (.sub deadK))) (.sub (fun fr σ => c136_2 run fu s1 (G fr 0) (G fr 1) (G fr 6) σ)))) (subC [] (lblC 0 (subC [true, false] b136))) (frS 0 368 [(0, x0), (1, x1), (6, x6), (9, x9), (10, x10)]) σ (scopeK (subC [true, false] b136) (lblU 0 (fun fr σ => s1 (G fr 0) (G fr 1) (G fr 6) (G fr 9) (G fr 10) σ)) k136) = c136_1Lb run fu s1 x0 x1 x6 x9 x10 σ := by kernel_rfl

theorem owed136_1L {run : RunT} (hrun : RunOK X0 run) (fu : Nat) (s1 : W5) : Owes X0 run 368 (.seq .leaf (.seq (.seq .leaf (.cond (.sub deadK) (.sub deadK))) (.sub (fun fr σ => c136_2 run fu s1 (G fr 0) (G fr 1) (G fr 6) σ)))) (subC [] (lblC 0 (subC [true, false] b136))) (scopeK (subC [true, false] b136) (lblU 0 (fun fr σ => s1 (G fr 0) (G fr 1) (G fr 6) (G fr 9) (G fr 10) σ)) k136) :=
  ⟨trivial, ⟨⟨trivial, ⟨KOK.dead, KOK.dead⟩⟩, (ok136_2 hrun fu s1)⟩⟩

noncomputable def c136_1 (run : RunT) (fu : Nat) (x0 x1 : AV) (σ : Store) : Tr R :=
  nchkK x1 fun x28 =>
  ldNK σ x28 5 fun x29 =>
  newK σ 201 [(.int .i64 0), (.int .i64 0), (.int .i64 0), (.str []), (.int .u8 0)] fun x5 σ1 =>
  stNK σ1 x5 5 x29 fun _ σ2 =>
  calK run 139 [x5, (.int .i64 0), (.int .i64 3), (.bool false)] σ2 fun x30 σ3 =>
  calK run 170 [x5] σ3 fun x31 σ4 =>
  cmpK .neq x31 (.int .u8 60) fun x32 =>
  ifK x32 (
  .ret ((.bool false), σ4)) (
  .fail)

theorem eq136_1 (run : RunT) (fu : Nat) (x0 x1 : AV) (σ : Store) : codeK X0 run (.seq .leaf (.seq .leaf (.seq (.seq .leaf (.cond (.seq .leaf .leaf) (.sub deadK))) .leaf))) (subC [true, false] b136) (frS 0 368 [(0, x0), (1, x1)]) σ (scopeK (subC [true, false] b136) (lblU 0 (fun fr σ => c136_1L run fu fu (G fr 0) (G fr 1) (G fr 6) (G fr 9) (G fr 10) σ)) k136) = c136_1 run fu x0 x1 σ := by kernel_rfl

theorem ok136_1 {run : RunT} (hrun : RunOK X0 run) (fu : Nat) : ∀ fr σ, KOK X0 368 (subC [true] b136) fr σ ((fun fr σ => c136_1 run fu (G fr 0) (G fr 1) σ) fr σ) k136 := fun fr σ =>
  KOK.scope1 (X := X0) (N := 368) (b := (subC [true, false] b136)) (k := k136) 0 (u := fun m fr σ => c136_1L run fu m (G fr 0) (G fr 1) (G fr 6) (G fr 9) (G fr 10) σ) (fun _ _ => rfl) (fun m fr σ => KOK.piece env0 hrun [0, 1, 6, 9, 10] (eq136_1L run fu (c136_1L run fu m) (G fr 0) (G fr 1) (G fr 6) (G fr 9) (G fr 10) σ) (owed136_1L hrun fu (c136_1L run fu m))) fu
    (KOK.piece env0 hrun [0, 1] (eq136_1 run fu (G fr 0) (G fr 1) σ) ⟨trivial, ⟨trivial, ⟨⟨trivial, ⟨⟨trivial, trivial⟩, KOK.dead⟩⟩, trivial⟩⟩⟩)

noncomputable def c136 (run : RunT) (fu : Nat) (x0 x1 : AV) (σ : Store) : Tr R :=
  c136_1 run fu x0 x1 σ

theorem eq136 (run : RunT) (fu : Nat) (x0 x1 : AV) (σ : Store) : codeK X0 run (.seq .leaf (.sub (fun fr σ => c136_1 run fu (G fr 0) (G fr 1) σ))) (subC [] b136) ([x0, x1] ++ padA (368 - 2)) σ k136 = c136 run fu x0 x1 σ := by kernel_rfl

theorem ok136 {run : RunT} (hrun : RunOK X0 run) (fu : Nat) (x0 x1 : AV) (σ : Store) : CallOK X0 136 [x0, x1] σ (c136 run fu x0 x1 σ) :=
  KOK.body (fn := Tryz.f136) (c := subC [] b136) (by kernel_rfl) (by kernel_rfl) (by show 2 ≤ 368; decide) (KOK.whole env0 hrun (eq136 run fu x0 x1 σ) ⟨trivial, (ok136_1 hrun fu)⟩)

-- (*pub-paratext/pub/rscmarkdown.line).trimFence

noncomputable def b137 : Code := match Tryz.f137.body with | some c => c | none => .skip

noncomputable def k137 : Kont R := retK Tryz.prog [.tmp 8]

noncomputable def c137_2 (run : RunT) (fu : Nat) (σ : Store) : Tr R :=
  .ret ((.bool false), σ)

theorem eq137_2 (run : RunT) (fu : Nat) (σ : Store) : codeK X0 run (.seq .leaf .leaf) (subC [true, true, true, true, true] b137) (frS 0 69 []) σ k137 = c137_2 run fu σ := by kernel_rfl

theorem ok137_2 {run : RunT} (hrun : RunOK X0 run) (fu : Nat) : ∀ fr σ, KOK X0 69 (subC [true, true, true, true, true] b137) fr σ ((fun fr σ => c137_2 run fu σ) fr σ) k137 := fun fr σ =>
  KOK.piece env0 hrun [] (eq137_2 run fu σ) ⟨trivial, trivial⟩

noncomputable def c137_3 (run : RunT) (fu : Nat) (x0 x1 x2 x9 x10 x34 : AV) (σ : Store) : Tr R :=
  ifK x34 (
  .fail) (
  c137_2 run fu σ)

theorem eq137_3 (run : RunT) (fu : Nat) (x0 x1 x2 x9 x10 x34 : AV) (σ : Store) : codeK X0 run (.cond (.sub deadK) .leaf) (subC [true, true, true, true, false, true, true, false, true] b137) (frS 0 69 [(0, x0), (1, x1), (2, x2), (9, x9), (10, x10), (34, x34)]) σ (blockK 2 (thenK (fun fr σ => c137_2 run fu σ) k137)) = c137_3 run fu x0 x1 x2 x9 x10 x34 σ := by kernel_rfl

theorem ok137_3 {run : RunT} (hrun : RunOK X0 run) (fu : Nat) : ∀ fr σ, KOK X0 69 (subC [true, true, true, true, false, true, true, false, true] b137) fr σ ((fun fr σ => c137_3 run fu (G fr 0) (G fr 1) (G fr 2) (G fr 9) (G fr 10) (G fr 34) σ) fr σ) (blockK 2 (thenK (fun fr σ => c137_2 run fu σ) k137)) := fun fr σ =>
  KOK.piece env0 hrun [0, 1, 2, 9, 10, 34] (eq137_3 run fu (G fr 0) (G fr 1) (G fr 2) (G fr 9) (G fr 10) (G fr 34) σ) ⟨KOK.dead, trivial⟩

noncomputable def c137_1 (run : RunT) (fu : Nat) (x0 x1 x2 x9 : AV) (σ : Store) : Tr R :=
  calK run 170 [x9] σ fun x32 σ1 =>
  cmpK .eql x32 (.int .u8 96) fun x35 =>
  ifK x35 (
  .fail) (
  cmpK .eql x32 (.int .u8 126) fun x36 =>
  c137_3 run fu x0 x1 x2 x9 x32 x36 σ1)

theorem eq137_1 (run : RunT) (fu : Nat) (x0 x1 x2 x9 : AV) (σ : Store) : codeK X0 run (.seq (.seq .leaf (.seq .leaf (.block (.seq (.seq .leaf (.cond (.sub deadK) .leaf)) (.sub (fun fr σ => c137_3 run fu (G fr 0) (G fr 1) (G fr 2) (G fr 9) (G fr 10) (G fr 34) σ)))))) (.sub (fun fr σ => c137_2 run fu σ))) (subC [true, true, true, true] b137) (frS 0 69 [(0, x0), (1, x1), (2, x2), (9, x9)]) σ k137 = c137_1 run fu x0 x1 x2 x9 σ := by kernel_rfl

theorem ok137_1 {run : RunT} (hrun : RunOK X0 run) (fu : Nat) : ∀ fr σ, KOK X0 69 (subC [true, true, true, true] b137) fr σ ((fun fr σ => c137_1 run fu (G fr 0) (G fr 1) (G fr 2) (G fr 9) σ) fr σ) k137 := fun fr σ =>
  KOK.piece env0 hrun [0, 1, 2, 9] (eq137_1 run fu (G fr 0) (G fr 1) (G fr 2) (G fr 9) σ) ⟨⟨trivial, ⟨trivial, ⟨⟨trivial, ⟨KOK.dead, trivial⟩⟩, (ok137_3 hrun fu)⟩⟩⟩, (ok137_2 hrun fu)⟩

noncomputable def c137_4b (run : RunT) (fu : Nat) (s4 : W5) (x0 x1 x2 x3 x9 : AV) (σ : Store) : Tr R :=
  nchkK x3 fun x21 =>
  ld1K σ x21 fun x22 =>
  cmpK .lss x22 (.int .i64 3) fun x23 =>
  grdK x23 true σ (fun f => calK run 139 [x9, (.int .i64 1), (.int .i64 1), (.bool false)] σ f) fun x25 σ1 =>
  pickK x23 x25 (.bool false) fun x26 =>
  ifK x26 (
  .fail) (
  c137_1 run fu x0 x1 x2 x9 σ1)

noncomputable def c137_4 (run : RunT) (fu : Nat) : Nat → W5
  | 0 => fun _ _ _ _ _ _ => .fail
  | m + 1 => c137_4b run fu (c137_4 run fu m)

theorem eq137_4 (run : RunT) (fu : Nat) (s4 : W5) (x0 x1 x2 x3 x9 : AV) (σ : Store) : codeK X0 run (.seq (.seq .leaf (.cond (.sub deadK) .leaf)) .leaf) (subC [true, true, true, false, false, false] b137) (frS 0 69 [(0, x0), (1, x1), (2, x2), (3, x3), (9, x9)]) σ (thenK (fun fr σ => s4 (G fr 0) (G fr 1) (G fr 2) (G fr 3) (G fr 9) σ) (blockK 0 (thenK (fun fr σ => c137_1 run fu (G fr 0) (G fr 1) (G fr 2) (G fr 9) σ) k137))) = c137_4b run fu s4 x0 x1 x2 x3 x9 σ := by kernel_rfl

theorem owed137_4 {run : RunT} (hrun : RunOK X0 run) (fu : Nat) (s4 : W5) : Owes X0 run 69 (.seq (.seq .leaf (.cond (.sub deadK) .leaf)) .leaf) (subC [true, true, true, false, false, false] b137) (thenK (fun fr σ => s4 (G fr 0) (G fr 1) (G fr 2) (G fr 3) (G fr 9) σ) (blockK 0 (thenK (fun fr σ => c137_1 run fu (G fr 0) (G fr 1) (G fr 2) (G fr 9) σ) k137))) :=
  ⟨⟨trivial, ⟨KOK.dead, trivial⟩⟩, trivial⟩

theorem ok137_4 {run : RunT} (hrun : RunOK X0 run) (fu : Nat) : ∀ fr σ, KOK X0 69 (subC [true, true, true, false, false] b137) fr σ ((fun fr σ => c137_4 run fu fu (G fr 0) (G fr 1) (G fr 2) (G fr 3) (G fr 9) σ) fr σ) (blockK 0 (thenK (fun fr σ => c137_1 run fu (G fr 0) (G fr 1) (G fr 2) (G fr 9) σ) k137)) := by
  have h := KOK.loop (X := X0) (N := 69) (b := (subC [true, true, true, false, false, false] b137)) (k := (blockK 0 (thenK (fun fr σ => c137_1 run fu (G fr 0) (G fr 1) (G fr 2) (G fr 9) σ) k137))) (u := fun m fr σ => c137_4 run fu m (G fr 0) (G fr 1) (G fr 2) (G fr 3) (G fr 9) σ) (fun _ _ => rfl) (fun m fr σ => KOK.piece env0 hrun [0, 1, 2, 3, 9] (eq137_4 run fu (c137_4 run fu m) (G fr 0) (G fr 1) (G fr 2) (G fr 3) (G fr 9) σ) (owed137_4 hrun fu (c137_4 run fu m)))
  exact fun fr σ => h fu fr σ

noncomputable def c137 (run : RunT) (fu : Nat) (x0 x1 x2 x3 : AV) (σ : Store) : Tr R :=
  nchkK x0 fun x16 =>
  ldNK σ x16 5 fun x17 =>
  newK σ 201 [(.int .i64 0), (.int .i64 0), (.int .i64 0), (.str []), (.int .u8 0)] fun x9 σ1 =>
  stNK σ1 x9 5 x17 fun _ σ2 =>
  nchkK x3 fun x19 =>
  st1K σ2 x19 (.int .i64 0) fun _ σ3 =>
  c137_4 run fu fu x0 x1 x2 x3 x9 σ3

theorem eq137 (run : RunT) (fu : Nat) (x0 x1 x2 x3 : AV) (σ : Store) : codeK X0 run (.seq .leaf (.seq .leaf (.seq .leaf (.seq (.block (.sub (fun fr σ => c137_4 run fu fu (G fr 0) (G fr 1) (G fr 2) (G fr 3) (G fr 9) σ))) (.sub (fun fr σ => c137_1 run fu (G fr 0) (G fr 1) (G fr 2) (G fr 9) σ)))))) (subC [] b137) ([x0, x1, x2, x3] ++ padA (69 - 4)) σ k137 = c137 run fu x0 x1 x2 x3 σ := by kernel_rfl

theorem ok137 {run : RunT} (hrun : RunOK X0 run) (fu : Nat) (x0 x1 x2 x3 : AV) (σ : Store) : CallOK X0 137 [x0, x1, x2, x3] σ (c137 run fu x0 x1 x2 x3 σ) :=
  KOK.body (fn := Tryz.f137) (c := subC [] b137) (by kernel_rfl) (by kernel_rfl) (by show 4 ≤ 69; decide) (KOK.whole env0 hrun (eq137 run fu x0 x1 x2 x3 σ) ⟨trivial, ⟨trivial, ⟨trivial, ⟨(ok137_4 hrun fu), (ok137_1 hrun fu)⟩⟩⟩⟩)

-- (*pub-paratext/pub/rscmarkdown.line).trimSpace

noncomputable def b139 : Code := match Tryz.f139.body with | some c => c | none => .skip

noncomputable def k139 : Kont R := retK Tryz.prog [.tmp 8]

noncomputable def c139_1 (run : RunT) (fu : Nat) (x0 x9 : AV) (σ : Store) : Tr R :=
  ldNK σ x9 5 fun x74 =>
  nchkK x0 fun x75 =>
  stNK σ x75 5 x74 fun _ σ1 =>
  .ret ((.bool true), σ1)

theorem eq139_1 (run : RunT) (fu : Nat) (x0 x9 : AV) (σ : Store) : codeK X0 run (.seq .leaf (.seq .leaf .leaf)) (subC [true, true, true] b139) (frS 0 76 [(0, x0), (9, x9)]) σ k139 = c139_1 run fu x0 x9 σ := by kernel_rfl

theorem ok139_1 {run : RunT} (hrun : RunOK X0 run) (fu : Nat) : ∀ fr σ, KOK X0 76 (subC [true, true, true] b139) fr σ ((fun fr σ => c139_1 run fu (G fr 0) (G fr 9) σ) fr σ) k139 := fun fr σ =>
  KOK.piece env0 hrun [0, 9] (eq139_1 run fu (G fr 0) (G fr 9) σ) ⟨trivial, ⟨trivial, trivial⟩⟩

noncomputable def c139_3 (run : RunT) (fu : Nat) (s2 : W6) (x0 x1 x2 x3 x9 x10 : AV) (σ : Store) : Tr R :=
  addK x10 (.int .i64 1) fun x18 =>
  s2 x0 x1 x2 x3 x9 x18 σ

theorem eq139_3 (run : RunT) (fu : Nat) (s2 : W6) (x0 x1 x2 x3 x9 x10 : AV) (σ : Store) : codeK X0 run .leaf (subC [true, true, false, true, false, false, true, true] b139) (frS 0 76 [(0, x0), (1, x1), (2, x2), (3, x3), (9, x9), (10, x10)]) σ (thenK (fun fr σ => s2 (G fr 0) (G fr 1) (G fr 2) (G fr 3) (G fr 9) (G fr 10) σ) (blockK 0 (thenK (fun fr σ => c139_1 run fu (G fr 0) (G fr 9) σ) k139))) = c139_3 run fu s2 x0 x1 x2 x3 x9 x10 σ := by kernel_rfl

theorem ok139_3 {run : RunT} (hrun : RunOK X0 run) (fu : Nat) (s2 : W6) : ∀ fr σ, KOK X0 76 (subC [true, true, false, true, false, false, true, true] b139) fr σ ((fun fr σ => c139_3 run fu s2 (G fr 0) (G fr 1) (G fr 2) (G fr 3) (G fr 9) (G fr 10) σ) fr σ) (thenK (fun fr σ => s2 (G fr 0) (G fr 1) (G fr 2) (G fr 3) (G fr 9) (G fr 10) σ) (blockK 0 (thenK (fun fr σ => c139_1 run fu (G fr 0) (G fr 9) σ) k139))) := fun fr σ =>
  KOK.piece env0 hrun [0, 1, 2, 3, 9, 10] (eq139_3 run fu s2 (G fr 0) (G fr 1) (G fr 2) (G fr 3) (G fr 9) (G fr 10) σ) trivial

noncomputable def c139_4 (run : RunT) (fu : Nat) (s2 : W6) (x0 x1 x9 x10 : AV) (σ : Store) : Tr R :=
  cmpK .geq x10 x1 fun x72 =>
  ifK x72 (
  c139_1 run fu x0 x9 σ) (
  .ret ((.bool false), σ))

theorem eq139_4 (run : RunT) (fu : Nat) (s2 : W6) (x0 x1 x9 x10 : AV) (σ : Store) : codeK X0 run (.seq (.seq .leaf (.cond .leaf .leaf)) (.seq .leaf .leaf)) (subC [true, true, false, true, false, false, true, false, false, true, true, true] b139) (frS 0 76 [(0, x0), (1, x1), (9, x9), (10, x10)]) σ (blockK 1 (thenK (fun fr σ => c139_3 run fu s2 (G fr 0) (G fr 1) (G fr 2) (G fr 3) (G fr 9) (G fr 10) σ) (thenK (fun fr σ => s2 (G fr 0) (G fr 1) (G fr 2) (G fr 3) (G fr 9) (G fr 10) σ) (blockK 0 (thenK (fun fr σ => c139_1 run fu (G fr 0) (G fr 9) σ) k139))))) = c139_4 run fu s2 x0 x1 x9 x10 σ := by kernel_rfl

theorem ok139_4 {run : RunT} (hrun : RunOK X0 run) (fu : Nat) (s2 : W6) : ∀ fr σ, KOK X0 76 (subC [true, true, false, true, false, false, true, false, false, true, true, true] b139) fr σ ((fun fr σ => c139_4 run fu s2 (G fr 0) (G fr 1) (G fr 9) (G fr 10) σ) fr σ) (blockK 1 (thenK (fun fr σ => c139_3 run fu s2 (G fr 0) (G fr 1) (G fr 2) (G fr 3) (G fr 9) (G fr 10) σ) (thenK (fun fr σ => s2 (G fr 0) (G fr 1) (G fr 2) (G fr 3) (G fr 9) (G fr 10) σ) (blockK 0 (thenK (fun fr σ => c139_1 run fu (G fr 0) (G fr 9) σ) k139))))) := fun fr σ =>
  KOK.piece env0 hrun [0, 1, 9, 10] (eq139_4 run fu s2 (G fr 0) (G fr 1) (G fr 9) (G fr 10) σ) ⟨⟨trivial, ⟨trivial, trivial⟩⟩, ⟨trivial, trivial⟩⟩

noncomputable def c139_2b (run : RunT) (fu : Nat) (s2 : W6) (x0 x1 x2 x3 x9 x10 : AV) (σ : Store) : Tr R :=
  cmpK .lss x10 x2 fun x16 =>
  ifK x16 (
  addrK x9 0 fun x19 =>
  ld1K σ x19 fun x20 =>
  cmpK .gtr x20 (.int .i64 0) fun x21 =>
  ifK x21 (
  .fail) (
  addrK x9 1 fun x26 =>
  ld1K σ x26 fun x27 =>
  addrK x9 3 fun x28 =>
  ld1K σ x28 fun x29 =>
  lenSK x29 fun x30 =>
  cmpK .geq x27 x30 fun x31 =>
  grdK x31 true σ (fun f => f x3 σ) fun x33 σ1 =>
  pickK x31 x33 (.bool false) fun x34 =>
  ifK x34 (
  .fail) (
  addrK x9 1 fun x35 =>
  ld1K σ1 x35 fun x36 =>
  addrK x9 3 fun x37 =>
  ld1K σ1 x37 fun x38 =>
  lenSK x38 fun x39 =>
  cmpK .lss x36 x39 fun x40 =>
  ifK x40 (
  addrK x9 3 fun x41 =>
  ld1K σ1 x41 fun x42 =>
  addrK x9 1 fun x43 =>
  ld1K σ1 x43 fun x44 =>
  idxSK x42 x44 fun x45 =>
  cmpK .eql x45 (.int .u8 9) fun x47 =>
  ifK x47 (
  .fail) (
  cmpK .eql x45 (.int .u8 32) fun x65 =>
  ifK x65 (
  .fail) (
  c139_4 run fu s2 x0 x1 x9 x10 σ1))) (
  .fail)))) (
  .fail)

noncomputable def c139_2 (run : RunT) (fu : Nat) : Nat → W6
  | 0 => fun _ _ _ _ _ _ _ => .fail
  | m + 1 => c139_2b run fu (c139_2 run fu m)

theorem eq139_2 (run : RunT) (fu : Nat) (s2 : W6) (x0 x1 x2 x3 x9 x10 : AV) (σ : Store) : codeK X0 run (.seq (.seq .leaf (.cond .leaf (.sub deadK))) (.seq (.block (.seq (.seq .leaf (.cond (.sub deadK) .leaf)) (.seq (.seq .leaf (.cond (.sub deadK) .leaf)) (.seq (.seq .leaf (.cond (.seq .leaf (.block (.seq .leaf (.cond (.sub deadK) (.seq .leaf (.cond (.sub deadK) .leaf)))))) (.sub deadK))) (.sub (fun fr σ => c139_4 run fu s2 (G fr 0) (G fr 1) (G fr 9) (G fr 10) σ)))))) (.sub (fun fr σ => c139_3 run fu s2 (G fr 0) (G fr 1) (G fr 2) (G fr 3) (G fr 9) (G fr 10) σ)))) (subC [true, true, false, true, false, false] b139) (frS 0 76 [(0, x0), (1, x1), (2, x2), (3, x3), (9, x9), (10, x10)]) σ (thenK (fun fr σ => s2 (G fr 0) (G fr 1) (G fr 2) (G fr 3) (G fr 9) (G fr 10) σ) (blockK 0 (thenK (fun fr σ => c139_1 run fu (G fr 0) (G fr 9) σ) k139))) = c139_2b run fu s2 x0 x1 x2 x3 x9 x10 σ := by kernel_rfl

theorem owed139_2 {run : RunT} (hrun : RunOK X0 run) (fu : Nat) (s2 : W6) : Owes X0 run 76 (.seq (.seq .leaf (.cond .leaf (.sub deadK))) (.seq (.block (.seq (.seq .leaf (.cond (.sub deadK) .leaf)) (.seq (.seq .leaf (.cond (.sub deadK) .leaf)) (.seq (.seq .leaf (.cond (.seq .leaf (.block (.seq .leaf (.cond (.sub deadK) (.seq .leaf (.cond (.sub deadK) .leaf)))))) (.sub deadK))) (.sub (fun fr σ => c139_4 run fu s2 (G fr 0) (G fr 1) (G fr 9) (G fr 10) σ)))))) (.sub (fun fr σ => c139_3 run fu s2 (G fr 0) (G fr 1) (G fr 2) (G fr 3) (G fr 9) (G fr 10) σ)))) (subC [true, true, false, true, false, false] b139) (thenK (fun fr σ => s2 (G fr 0) (G fr 1) (G fr 2) (G fr 3) (G fr 9) (G fr 10) σ) (blockK 0 (thenK (fun fr σ => c139_1 run fu (G fr 0) (G fr 9) σ) k139))) :=
  ⟨⟨trivial, ⟨trivial, KOK.dead⟩⟩, ⟨⟨⟨trivial, ⟨KOK.dead, trivial⟩⟩, ⟨⟨trivial, ⟨KOK.dead, trivial⟩⟩, ⟨⟨trivial, ⟨⟨trivial, ⟨trivial, ⟨KOK.dead, ⟨trivial, ⟨KOK.dead, trivial⟩⟩⟩⟩⟩, KOK.dead⟩⟩, (ok139_4 hrun fu s2)⟩⟩⟩, (ok139_3 hrun fu s2)⟩⟩

theorem ok139_2 {run : RunT} (hrun : RunOK X0 run) (fu : Nat) : ∀ fr σ, KOK X0 76 (subC [true, true, false, true, false] b139) fr σ ((fun fr σ => c139_2 run fu fu (G fr 0) (G fr 1) (G fr 2) (G fr 3) (G fr 9) (G fr 10) σ) fr σ) (blockK 0 (thenK (fun fr σ => c139_1 run fu (G fr 0) (G fr 9) σ) k139)) := by
  have h := KOK.loop (X := X0) (N := 76) (b := (subC [true, true, false, true, false, false] b139)) (k := (blockK 0 (thenK (fun fr σ => c139_1 run fu (G fr 0) (G fr 9) σ) k139))) (u := fun m fr σ => c139_2 run fu m (G fr 0) (G fr 1) (G fr 2) (G fr 3) (G fr 9) (G fr 10) σ) (fun _ _ => rfl) (fun m fr σ => KOK.piece env0 hrun [0, 1, 2, 3, 9, 10] (eq139_2 run fu (c139_2 run fu m) (G fr 0) (G fr 1) (G fr 2) (G fr 3) (G fr 9) (G fr 10) σ) (owed139_2 hrun fu (c139_2 run fu m)))
  exact fun fr σ => h fu fr σ

noncomputable def c139 (run : RunT) (fu : Nat) (x0 x1 x2 x3 : AV) (σ : Store) : Tr R :=
  nchkK x0 fun x12 =>
  ldNK σ x12 5 fun x13 =>
  newK σ 201 [(.int .i64 0), (.int .i64 0), (.int .i64 0), (.str []), (.int .u8 0)] fun x9 σ1 =>
  stNK σ1 x9 5 x13 fun _ σ2 =>
  c139_2 run fu fu x0 x1 x2 x3 x9 (.int .i64 0) σ2

theorem eq139 (run : RunT) (fu : Nat) (x0 x1 x2 x3 : AV) (σ : Store) : codeK X0 run (.seq .leaf (.seq .leaf (.seq (.seq .leaf (.block (.sub (fun fr σ => c139_2 run fu fu (G fr 0) (G fr 1) (G fr 2) (G fr 3) (G fr 9) (G fr 10) σ)))) (.sub (fun fr σ => c139_1 run fu (G fr 0) (G fr 9) σ))))) (subC [] b139) ([x0, x1, x2, x3] ++ padA (76 - 4)) σ k139 = c139 run fu x0 x1 x2 x3 σ := by kernel_rfl

theorem ok139 {run : RunT} (hrun : RunOK X0 run) (fu : Nat) (x0 x1 x2 x3 : AV) (σ : Store) : CallOK X0 139 [x0, x1, x2, x3] σ (c139 run fu x0 x1 x2 x3 σ) :=
  KOK.body (fn := Tryz.f139) (c := subC [] b139) (by kernel_rfl) (by kernel_rfl) (by show 4 ≤ 76; decide) (KOK.whole env0 hrun (eq139 run fu x0 x1 x2 x3 σ) ⟨trivial, ⟨trivial, ⟨⟨trivial, (ok139_2 hrun fu)⟩, (ok139_1 hrun fu)⟩⟩⟩)

-- (pub-paratext/pub/rscmarkdown.mdUnescaper).Replace

noncomputable def b162 : Code := match Tryz.f162.body with | some c => c | none => .skip

noncomputable def k162 : Kont R := retK Tryz.prog [.tmp 4]

noncomputable def c162_1 (run : RunT) (fu : Nat) (x5 : AV) (σ : Store) : Tr R :=
  calK run 20 [x5] σ fun x85 σ1 =>
  .ret (x85, σ1)

theorem eq162_1 (run : RunT) (fu : Nat) (x5 : AV) (σ : Store) : codeK X0 run (.seq .leaf .leaf) (subC [true, true, true] b162) (frS 0 86 [(5, x5)]) σ k162 = c162_1 run fu x5 σ := by kernel_rfl

theorem ok162_1 {run : RunT} (hrun : RunOK X0 run) (fu : Nat) : ∀ fr σ, KOK X0 86 (subC [true, true, true] b162) fr σ ((fun fr σ => c162_1 run fu (G fr 5) σ) fr σ) k162 := fun fr σ =>
  KOK.piece env0 hrun [5] (eq162_1 run fu (G fr 5) σ) ⟨trivial, trivial⟩

noncomputable def c162_3 (run : RunT) (fu : Nat) (s2 : W3) (x1 x5 x6 : AV) (σ : Store) : Tr R :=
  addK x6 (.int .i64 1) fun x15 =>
  s2 x1 x5 x15 σ

theorem eq162_3 (run : RunT) (fu : Nat) (s2 : W3) (x1 x5 x6 : AV) (σ : Store) : codeK X0 run .leaf (subC [true, true, false, true, false, false, true, true] b162) (frS 0 86 [(1, x1), (5, x5), (6, x6)]) σ (thenK (fun fr σ => s2 (G fr 1) (G fr 5) (G fr 6) σ) (blockK 0 (thenK (fun fr σ => c162_1 run fu (G fr 5) σ) k162))) = c162_3 run fu s2 x1 x5 x6 σ := by kernel_rfl

theorem ok162_3 {run : RunT} (hrun : RunOK X0 run) (fu : Nat) (s2 : W3) : ∀ fr σ, KOK X0 86 (subC [true, true, false, true, false, false, true, true] b162) fr σ ((fun fr σ => c162_3 run fu s2 (G fr 1) (G fr 5) (G fr 6) σ) fr σ) (thenK (fun fr σ => s2 (G fr 1) (G fr 5) (G fr 6) σ) (blockK 0 (thenK (fun fr σ => c162_1 run fu (G fr 5) σ) k162))) := fun fr σ =>
  KOK.piece env0 hrun [1, 5, 6] (eq162_3 run fu s2 (G fr 1) (G fr 5) (G fr 6) σ) trivial

noncomputable def c162_5 (run : RunT) (fu : Nat) (s2 : W3) (x1 x5 x6 : AV) (σ : Store) : Tr R :=
  idxSK x1 x6 fun x83 =>
  calK run 19 [x5, x83] σ fun x84 σ1 =>
  c162_3 run fu s2 x1 x5 x6 σ1

theorem eq162_5 (run : RunT) (fu : Nat) (s2 : W3) (x1 x5 x6 : AV) (σ : Store) : codeK X0 run .leaf (subC [true, true, false, true, false, false, true, false, false, false, true, true, true, false, true, true, true] b162) (frS 0 86 [(1, x1), (5, x5), (6, x6)]) σ (blockK 2 (blockK 1 (thenK (fun fr σ => c162_3 run fu s2 (G fr 1) (G fr 5) (G fr 6) σ) (thenK (fun fr σ => s2 (G fr 1) (G fr 5) (G fr 6) σ) (blockK 0 (thenK (fun fr σ => c162_1 run fu (G fr 5) σ) k162)))))) = c162_5 run fu s2 x1 x5 x6 σ := by kernel_rfl

theorem ok162_5 {run : RunT} (hrun : RunOK X0 run) (fu : Nat) (s2 : W3) : ∀ fr σ, KOK X0 86 (subC [true, true, false, true, false, false, true, false, false, false, true, true, true, false, true, true, true] b162) fr σ ((fun fr σ => c162_5 run fu s2 (G fr 1) (G fr 5) (G fr 6) σ) fr σ) (blockK 2 (blockK 1 (thenK (fun fr σ => c162_3 run fu s2 (G fr 1) (G fr 5) (G fr 6) σ) (thenK (fun fr σ => s2 (G fr 1) (G fr 5) (G fr 6) σ) (blockK 0 (thenK (fun fr σ => c162_1 run fu (G fr 5) σ) k162)))))) := fun fr σ =>
  KOK.piece env0 hrun [1, 5, 6] (eq162_5 run fu s2 (G fr 1) (G fr 5) (G fr 6) σ) trivial

noncomputable def c162_4 (run : RunT) (fu : Nat) (s2 : W3) (x1 x5 x6 x7 : AV) (σ : Store) : Tr R :=
  lenSK x1 fun x66 =>
  cmpK .lss x7 x66 fun x67 =>
  ifK x67 (
  addK x7 (.int .i64 1) fun x72 =>
  sliceSK x1 (some x6) (some x72) fun x73 =>
  calK run 108 [x73] σ fun x74 σ1 =>
  extK x74 0 fun x75 =>
  extK x74 1 fun x76 =>
  ifK x76 (
  calK run 29 [x5, x75] σ1 fun x79 σ2 =>
  c162_3 run fu s2 x1 x5 x7 σ2) (
  c162_5 run fu s2 x1 x5 x6 σ1)) (
  c162_5 run fu s2 x1 x5 x6 σ)

theorem eq162_4 (run : RunT) (fu : Nat) (s2 : W3) (x1 x5 x6 x7 : AV) (σ : Store) : codeK X0 run (.seq (.seq .leaf (.cond (.seq .leaf (.seq .leaf (.cond (.seq .leaf (.seq .leaf .leaf)) .leaf))) .leaf)) (.sub (fun fr σ => c162_5 run fu s2 (G fr 1) (G fr 5) (G fr 6) σ))) (subC [true, true, false, true, false, false, true, false, false, false, true, true, true, false, true, true] b162) (frS 0 86 [(1, x1), (5, x5), (6, x6), (7, x7)]) σ (blockK 2 (blockK 1 (thenK (fun fr σ => c162_3 run fu s2 (G fr 1) (G fr 5) (G fr 6) σ) (thenK (fun fr σ => s2 (G fr 1) (G fr 5) (G fr 6) σ) (blockK 0 (thenK (fun fr σ => c162_1 run fu (G fr 5) σ) k162)))))) = c162_4 run fu s2 x1 x5 x6 x7 σ := by kernel_rfl

theorem ok162_4 {run : RunT} (hrun : RunOK X0 run) (fu : Nat) (s2 : W3) : ∀ fr σ, KOK X0 86 (subC [true, true, false, true, false, false, true, false, false, false, true, true, true, false, true, true] b162) fr σ ((fun fr σ => c162_4 run fu s2 (G fr 1) (G fr 5) (G fr 6) (G fr 7) σ) fr σ) (blockK 2 (blockK 1 (thenK (fun fr σ => c162_3 run fu s2 (G fr 1) (G fr 5) (G fr 6) σ) (thenK (fun fr σ => s2 (G fr 1) (G fr 5) (G fr 6) σ) (blockK 0 (thenK (fun fr σ => c162_1 run fu (G fr 5) σ) k162)))))) := fun fr σ =>
  KOK.piece env0 hrun [1, 5, 6, 7] (eq162_4 run fu s2 (G fr 1) (G fr 5) (G fr 6) (G fr 7) σ) ⟨⟨trivial, ⟨⟨trivial, ⟨trivial, ⟨⟨trivial, ⟨trivial, trivial⟩⟩, trivial⟩⟩⟩, trivial⟩⟩, (ok162_5 hrun fu s2)⟩

noncomputable def c162_6b (run : RunT) (fu : Nat) (s2 : W3) (s6 : W4) (x1 x5 x6 x7 : AV) (σ : Store) : Tr R :=
  lenSK x1 fun x54 =>
  cmpK .lss x7 x54 fun x55 =>
  grdK x55 true σ (fun f => f x1 σ) fun x57 σ1 =>
  grdK x55 true σ1 (fun f => f x7 σ1) fun x58 σ2 =>
  grdK x55 true σ2 (fun f => idxSK x57 x58 fun v => f v σ2) fun x59 σ3 =>
  grdK x55 true σ3 (fun f => cmpK .neq x59 (.int .u8 59) fun v => f v σ3) fun x60 σ4 =>
  pickK x55 x60 (.bool false) fun x61 =>
  ifK x61 (
  addK x7 (.int .i64 1) fun x63 =>
  s6 x1 x5 x6 x63 σ4) (
  c162_4 run fu s2 x1 x5 x6 x7 σ4)

noncomputable def c162_6 (run : RunT) (fu : Nat) (s2 : W3) : Nat → W4
  | 0 => fun _ _ _ _ _ => .fail
  | m + 1 => c162_6b run fu s2 (c162_6 run fu s2 m)

theorem eq162_6 (run : RunT) (fu : Nat) (s2 : W3) (s6 : W4) (x1 x5 x6 x7 : AV) (σ : Store) : codeK X0 run (.seq (.seq .leaf (.cond .leaf .leaf)) (.block .leaf)) (subC [true, true, false, true, false, false, true, false, false, false, true, true, true, false, true, false, false, false] b162) (frS 0 86 [(1, x1), (5, x5), (6, x6), (7, x7)]) σ (thenK (fun fr σ => s6 (G fr 1) (G fr 5) (G fr 6) (G fr 7) σ) (blockK 3 (thenK (fun fr σ => c162_4 run fu s2 (G fr 1) (G fr 5) (G fr 6) (G fr 7) σ) (blockK 2 (blockK 1 (thenK (fun fr σ => c162_3 run fu s2 (G fr 1) (G fr 5) (G fr 6) σ) (thenK (fun fr σ => s2 (G fr 1) (G fr 5) (G fr 6) σ) (blockK 0 (thenK (fun fr σ => c162_1 run fu (G fr 5) σ) k162))))))))) = c162_6b run fu s2 s6 x1 x5 x6 x7 σ := by kernel_rfl

theorem owed162_6 {run : RunT} (hrun : RunOK X0 run) (fu : Nat) (s2 : W3) (s6 : W4) : Owes X0 run 86 (.seq (.seq .leaf (.cond .leaf .leaf)) (.block .leaf)) (subC [true, true, false, true, false, false, true, false, false, false, true, true, true, false, true, false, false, false] b162) (thenK (fun fr σ => s6 (G fr 1) (G fr 5) (G fr 6) (G fr 7) σ) (blockK 3 (thenK (fun fr σ => c162_4 run fu s2 (G fr 1) (G fr 5) (G fr 6) (G fr 7) σ) (blockK 2 (blockK 1 (thenK (fun fr σ => c162_3 run fu s2 (G fr 1) (G fr 5) (G fr 6) σ) (thenK (fun fr σ => s2 (G fr 1) (G fr 5) (G fr 6) σ) (blockK 0 (thenK (fun fr σ => c162_1 run fu (G fr 5) σ) k162))))))))) :=
  ⟨⟨trivial, ⟨trivial, trivial⟩⟩, trivial⟩

theorem ok162_6 {run : RunT} (hrun : RunOK X0 run) (fu : Nat) (s2 : W3) : ∀ fr σ, KOK X0 86 (subC [true, true, false, true, false, false, true, false, false, false, true, true, true, false, true, false, false] b162) fr σ ((fun fr σ => c162_6 run fu s2 fu (G fr 1) (G fr 5) (G fr 6) (G fr 7) σ) fr σ) (blockK 3 (thenK (fun fr σ => c162_4 run fu s2 (G fr 1) (G fr 5) (G fr 6) (G fr 7) σ) (blockK 2 (blockK 1 (thenK (fun fr σ => c162_3 run fu s2 (G fr 1) (G fr 5) (G fr 6) σ) (thenK (fun fr σ => s2 (G fr 1) (G fr 5) (G fr 6) σ) (blockK 0 (thenK (fun fr σ => c162_1 run fu (G fr 5) σ) k162)))))))) := by
  have h := KOK.loop (X := X0) (N := 86) (b := (subC [true, true, false, true, false, false, true, false, false, false, true, true, true, false, true, false, false, false] b162)) (k := (blockK 3 (thenK (fun fr σ => c162_4 run fu s2 (G fr 1) (G fr 5) (G fr 6) (G fr 7) σ) (blockK 2 (blockK 1 (thenK (fun fr σ => c162_3 run fu s2 (G fr 1) (G fr 5) (G fr 6) σ) (thenK (fun fr σ => s2 (G fr 1) (G fr 5) (G fr 6) σ) (blockK 0 (thenK (fun fr σ => c162_1 run fu (G fr 5) σ) k162))))))))) (u := fun m fr σ => c162_6 run fu s2 m (G fr 1) (G fr 5) (G fr 6) (G fr 7) σ) (fun _ _ => rfl) (fun m fr σ => KOK.piece env0 hrun [1, 5, 6, 7] (eq162_6 run fu s2 (c162_6 run fu s2 m) (G fr 1) (G fr 5) (G fr 6) (G fr 7) σ) (owed162_6 hrun fu s2 (c162_6 run fu s2 m)))
  exact fun fr σ => h fu fr σ

noncomputable def c162_6x (run : RunT) (fu : Nat) (s6 : W4) (x1 x5 x6 x7 : AV) (σ : Store) : Tr R :=
  lenSK x1 fun x54 =>
  cmpK .lss x7 x54 fun x55 =>
  grdK x55 true σ (fun f => f x1 σ) fun x57 σ1 =>
  grdK x55 true σ1 (fun f => f x7 σ1) fun x58 σ2 =>
  grdK x55 true σ2 (fun f => idxSK x57 x58 fun v => f v σ2) fun x59 σ3 =>
  grdK x55 true σ3 (fun f => cmpK .neq x59 (.int .u8 59) fun v => f v σ3) fun x60 σ4 =>
  pickK x55 x60 (.bool false) fun x61 =>
  ifK x61 (
  addK x7 (.int .i64 1) fun x63 =>
  s6 x1 x5 x6 x63 σ4) (
  .fail)

theorem eq162_6x (run : RunT) (fu : Nat) (s6 : W4) (x1 x5 x6 x7 : AV) (σ : Store) : codeK X0 run (.seq (.seq .leaf (.cond .leaf .leaf)) (.block .leaf)) (subC [true, true, false, true, false, false, true, false, false, false, true, true, true, false, true, false, false, false] b162) (frS 0 86 [(1, x1), (5, x5), (6, x6), (7, x7)]) σ (thenK (fun fr σ => s6 (G fr 1) (G fr 5) (G fr 6) (G fr 7) σ) failK) = c162_6x run fu s6 x1 x5 x6 x7 σ := by kernel_rfl

theorem owed162_6x {run : RunT} (hrun : RunOK X0 run) (fu : Nat) (s6 : W4) : Owes X0 run 86 (.seq (.seq .leaf (.cond .leaf .leaf)) (.block .leaf)) (subC [true, true, false, true, false, false, true, false, false, false, true, true, true, false, true, false, false, false] b162) (thenK (fun fr σ => s6 (G fr 1) (G fr 5) (G fr 6) (G fr 7) σ) failK) :=
  ⟨⟨trivial, ⟨trivial, trivial⟩⟩, trivial⟩

noncomputable def c162_6s (run : RunT) (fu : Nat) (s2 : W3) : Nat → List AV → Store → Tr R :=
  sweepN 1 (sweepC 1 1 5 (sweepR (planOf (some 1) 0 2 [] [] [] [101]) (planR 101 0 5) (fun t2 xs σ => c162_6b run fu s2 (fun y1 y5 y6 y7 σ => t2 [y1, y5, y6, y7] σ) (xs.getD 0 .any) (xs.getD 1 .any) (xs.getD 2 .any) (xs.getD 3 .any) σ) (fun t2 xs σ => c162_6x run fu (fun y1 y5 y6 y7 σ => t2 [y1, y5, y6, y7] σ) (xs.getD 0 .any) (xs.getD 1 .any) (xs.getD 2 .any) (xs.getD 3 .any) σ)))

theorem ok162_6s {run : RunT} (hrun : RunOK X0 run) (fu : Nat) (s2 : W3) : ∀ fr σ, KOK X0 86 (subC [true, true, false, true, false, false, true, false, false, false, true, true, true, false, true, false, false] b162) fr σ ((fun fr σ => c162_6s run fu s2 fu [fr.getD 1 .any, fr.getD 5 .any, fr.getD 6 .any, fr.getD 7 .any] σ) fr σ) (blockK 3 (thenK (fun fr σ => c162_4 run fu s2 (G fr 1) (G fr 5) (G fr 6) (G fr 7) σ) (blockK 2 (blockK 1 (thenK (fun fr σ => c162_3 run fu s2 (G fr 1) (G fr 5) (G fr 6) σ) (thenK (fun fr σ => s2 (G fr 1) (G fr 5) (G fr 6) σ) (blockK 0 (thenK (fun fr σ => c162_1 run fu (G fr 5) σ) k162)))))))) := by
  have h := KOK.sweepN 1 (KOK.sweepC 1 1 5 (KOK.sweepRow (X := X0) (N := 86) (b := (subC [true, true, false, true, false, false, true, false, false, false, true, true, true, false, true, false, false, false] b162)) (k := (blockK 3 (thenK (fun fr σ => c162_4 run fu s2 (G fr 1) (G fr 5) (G fr 6) (G fr 7) σ) (blockK 2 (blockK 1 (thenK (fun fr σ => c162_3 run fu s2 (G fr 1) (G fr 5) (G fr 6) σ) (thenK (fun fr σ => s2 (G fr 1) (G fr 5) (G fr 6) σ) (blockK 0 (thenK (fun fr σ => c162_1 run fu (G fr 5) σ) k162))))))))) (js := [1, 5, 6, 7]) (body := (fun t2 xs σ => c162_6b run fu s2 (fun y1 y5 y6 y7 σ => t2 [y1, y5, y6, y7] σ) (xs.getD 0 .any) (xs.getD 1 .any) (xs.getD 2 .any) (xs.getD 3 .any) σ)) (bodyx := (fun t2 xs σ => c162_6x run fu (fun y1 y5 y6 y7 σ => t2 [y1, y5, y6, y7] σ) (xs.getD 0 .any) (xs.getD 1 .any) (xs.getD 2 .any) (xs.getD 3 .any) σ)) rfl (planOf (some 1) 0 2 [] [] [] [101]) (planR 101 0 5) (fun t2 fr σ => KOK.piece env0 hrun [1, 5, 6, 7] (eq162_6 run fu s2 (fun y1 y5 y6 y7 σ => t2 [y1, y5, y6, y7] σ) (G fr 1) (G fr 5) (G fr 6) (G fr 7) σ) (owed162_6 hrun fu s2 (fun y1 y5 y6 y7 σ => t2 [y1, y5, y6, y7] σ))) (fun t2 fr σ => KOK.piece env0 hrun [1, 5, 6, 7] (eq162_6x run fu (fun y1 y5 y6 y7 σ => t2 [y1, y5, y6, y7] σ) (G fr 1) (G fr 5) (G fr 6) (G fr 7) σ) (owed162_6x hrun fu (fun y1 y5 y6 y7 σ => t2 [y1, y5, y6, y7] σ)))))
  exact fun fr σ => h fu fr σ

noncomputable def c162_2b (run : RunT) (fu : Nat) (s2 : W3) (x1 x5 x6 : AV) (σ : Store) : Tr R :=
  lenSK x1 fun x12 =>
  cmpK .lss x6 x12 fun x13 =>
  ifK x13 (
  idxSK x1 x6 fun x23 =>
  cmpK .eql x23 (.int .u8 92) fun x24 =>
  grdK x24 true σ (fun f => f x6 σ) fun x26 σ1 =>
  grdK x24 true σ1 (fun f => addK x26 (.int .i64 1) fun v => f v σ1) fun x27 σ2 =>
  grdK x24 true σ2 (fun f => f x1 σ2) fun x28 σ3 =>
  grdK x24 true σ3 (fun f => lenSK x28 fun v => f v σ3) fun x29 σ4 =>
  grdK x24 true σ4 (fun f => cmpK .lss x27 x29 fun v => f v σ4) fun x30 σ5 =>
  pickK x24 x30 (.bool false) fun x31 =>
  grdK x31 true σ5 (fun f => f x1 σ5) fun x33 σ6 =>
  grdK x31 true σ6 (fun f => f x6 σ6) fun x34 σ7 =>
  grdK x31 true σ7 (fun f => addK x34 (.int .i64 1) fun v => f v σ7) fun x35 σ8 =>
  grdK x31 true σ8 (fun f => idxSK x33 x35 fun v => f v σ8) fun x36 σ9 =>
  grdK x31 true σ9 (fun f => calK run 95 [x36] σ9 f) fun x37 σ10 =>
  pickK x31 x37 (.bool false) fun x38 =>
  ifK x38 (
  addK x6 (.int .i64 1) fun x40 =>
  idxSK x1 x40 fun x43 =>
  calK run 19 [x5, x43] σ10 fun x44 σ11 =>
  c162_3 run fu s2 x1 x5 x40 σ11) (
  idxSK x1 x6 fun x48 =>
  cmpK .eql x48 (.int .u8 38) fun x49 =>
  ifK x49 (
  addK x6 (.int .i64 1) fun x51 =>
  c162_6s run fu s2 fu [x1, x5, x6, x51] σ10) (
  idxSK x1 x6 fun x18 =>
  calK run 19 [x5, x18] σ10 fun x19 σ12 =>
  c162_3 run fu s2 x1 x5 x6 σ12))) (
  c162_1 run fu x5 σ)

noncomputable def c162_2 (run : RunT) (fu : Nat) : Nat → W3
  | 0 => fun _ _ _ _ => .fail
  | m + 1 => c162_2b run fu (c162_2 run fu m)

theorem eq162_2 (run : RunT) (fu : Nat) (s2 : W3) (x1 x5 x6 : AV) (σ : Store) : codeK X0 run (.seq (.seq .leaf (.cond .leaf .leaf)) (.seq (.block (.block (.seq .leaf (.cond (.seq .leaf .leaf) (.seq .leaf (.cond (.seq .leaf (.seq (.block (.sub (fun fr σ => c162_6s run fu s2 fu [fr.getD 1 .any, fr.getD 5 .any, fr.getD 6 .any, fr.getD 7 .any] σ))) (.sub (fun fr σ => c162_4 run fu s2 (G fr 1) (G fr 5) (G fr 6) (G fr 7) σ)))) .leaf)))))) (.sub (fun fr σ => c162_3 run fu s2 (G fr 1) (G fr 5) (G fr 6) σ)))) (subC [true, true, false, true, false, false] b162) (frS 0 86 [(1, x1), (5, x5), (6, x6)]) σ (thenK (fun fr σ => s2 (G fr 1) (G fr 5) (G fr 6) σ) (blockK 0 (thenK (fun fr σ => c162_1 run fu (G fr 5) σ) k162))) = c162_2b run fu s2 x1 x5 x6 σ := by kernel_rfl

theorem owed162_2 {run : RunT} (hrun : RunOK X0 run) (fu : Nat) (s2 : W3) : Owes X0 run 86 (.seq (.seq .leaf (.cond .leaf .leaf)) (.seq (.block (.block (.seq .leaf (.cond (.seq .leaf .leaf) (.seq .leaf (.cond (.seq .leaf (.seq (.block (.sub (fun fr σ => c162_6s run fu s2 fu [fr.getD 1 .any, fr.getD 5 .any, fr.getD 6 .any, fr.getD 7 .any] σ))) (.sub (fun fr σ => c162_4 run fu s2 (G fr 1) (G fr 5) (G fr 6) (G fr 7) σ)))) .leaf)))))) (.sub (fun fr σ => c162_3 run fu s2 (G fr 1) (G fr 5) (G fr 6) σ)))) (subC [true, true, false, true, false, false] b162) (thenK (fun fr σ => s2 (G fr 1) (G fr 5) (G fr 6) σ) (blockK 0 (thenK (fun fr σ => c162_1 run fu (G fr 5) σ) k162))) :=
  ⟨⟨trivial, ⟨trivial, trivial⟩⟩, ⟨⟨trivial, ⟨⟨trivial, trivial⟩, ⟨trivial, ⟨⟨trivial, ⟨(ok162_6s hrun fu s2), (ok162_4 hrun fu s2)⟩⟩, trivial⟩⟩⟩⟩, (ok162_3 hrun fu s2)⟩⟩

theorem ok162_2 {run : RunT} (hrun : RunOK X0 run) (fu : Nat) : ∀ fr σ, KOK X0 86 (subC [true, true, false, true, false] b162) fr σ ((fun fr σ => c162_2 run fu fu (G fr 1) (G fr 5) (G fr 6) σ) fr σ) (blockK 0 (thenK (fun fr σ => c162_1 run fu (G fr 5) σ) k162)) := by
  have h := KOK.loop (X := X0) (N := 86) (b := (subC [true, true, false, true, false, false] b162)) (k := (blockK 0 (thenK (fun fr σ => c162_1 run fu (G fr 5) σ) k162))) (u := fun m fr σ => c162_2 run fu m (G fr 1) (G fr 5) (G fr 6) σ) (fun _ _ => rfl) (fun m fr σ => KOK.piece env0 hrun [1, 5, 6] (eq162_2 run fu (c162_2 run fu m) (G fr 1) (G fr 5) (G fr 6) σ) (owed162_2 hrun fu (c162_2 run fu m)))
  exact fun fr σ => h fu fr σ

noncomputable def c162_7 (run : RunT) (fu : Nat) (s2 : W3) (x1 x5 x6 : AV) (σ : Store) : Tr R :=
  addK x6 (.int .i64 1) fun x15 =>
  s2 x1 x5 x15 σ

theorem eq162_7 (run : RunT) (fu : Nat) (s2 : W3) (x1 x5 x6 : AV) (σ : Store) : codeK X0 run .leaf (subC [true, true, false, true, false, false, true, true] b162) (frS 0 86 [(1, x1), (5, x5), (6, x6)]) σ (thenK (fun fr σ => s2 (G fr 1) (G fr 5) (G fr 6) σ) failK) = c162_7 run fu s2 x1 x5 x6 σ := by kernel_rfl

theorem ok162_7 {run : RunT} (hrun : RunOK X0 run) (fu : Nat) (s2 : W3) : ∀ fr σ, KOK X0 86 (subC [true, true, false, true, false, false, true, true] b162) fr σ ((fun fr σ => c162_7 run fu s2 (G fr 1) (G fr 5) (G fr 6) σ) fr σ) (thenK (fun fr σ => s2 (G fr 1) (G fr 5) (G fr 6) σ) failK) := fun fr σ =>
  KOK.piece env0 hrun [1, 5, 6] (eq162_7 run fu s2 (G fr 1) (G fr 5) (G fr 6) σ) trivial

noncomputable def c162_9 (run : RunT) (fu : Nat) (s2 : W3) (x1 x5 x6 : AV) (σ : Store) : Tr R :=
  idxSK x1 x6 fun x83 =>
  calK run 19 [x5, x83] σ fun x84 σ1 =>
  c162_7 run fu s2 x1 x5 x6 σ1

theorem eq162_9 (run : RunT) (fu : Nat) (s2 : W3) (x1 x5 x6 : AV) (σ : Store) : codeK X0 run .leaf (subC [true, true, false, true, false, false, true, false, false, false, true, true, true, false, true, true, true] b162) (frS 0 86 [(1, x1), (5, x5), (6, x6)]) σ (blockK 2 (blockK 1 (thenK (fun fr σ => c162_7 run fu s2 (G fr 1) (G fr 5) (G fr 6) σ) (thenK (fun fr σ => s2 (G fr 1) (G fr 5) (G fr 6) σ) failK)))) = c162_9 run fu s2 x1 x5 x6 σ := by kernel_rfl

theorem ok162_9 {run : RunT} (hrun : RunOK X0 run) (fu : Nat) (s2 : W3) : ∀ fr σ, KOK X0 86 (subC [true, true, false, true, false, false, true, false, false, false, true, true, true, false, true, true, true] b162) fr σ ((fun fr σ => c162_9 run fu s2 (G fr 1) (G fr 5) (G fr 6) σ) fr σ) (blockK 2 (blockK 1 (thenK (fun fr σ => c162_7 run fu s2 (G fr 1) (G fr 5) (G fr 6) σ) (thenK (fun fr σ => s2 (G fr 1) (G fr 5) (G fr 6) σ) failK)))) := fun fr σ =>
  KOK.piece env0 hrun [1, 5, 6] (eq162_9 run fu s2 (G fr 1) (G fr 5) (G fr 6) σ) trivial

noncomputable def c162_8 (run : RunT) (fu : Nat) (s2 : W3) (x1 x5 x6 x7 : AV) (σ : Store) : Tr R :=
  lenSK x1 fun x66 =>
  cmpK .lss x7 x66 fun x67 =>
  ifK x67 (
  addK x7 (.int .i64 1) fun x72 =>
  sliceSK x1 (some x6) (some x72) fun x73 =>
  calK run 108 [x73] σ fun x74 σ1 =>
  extK x74 0 fun x75 =>
  extK x74 1 fun x76 =>
  ifK x76 (
  calK run 29 [x5, x75] σ1 fun x79 σ2 =>
  c162_7 run fu s2 x1 x5 x7 σ2) (
  c162_9 run fu s2 x1 x5 x6 σ1)) (
  c162_9 run fu s2 x1 x5 x6 σ)

theorem eq162_8 (run : RunT) (fu : Nat) (s2 : W3) (x1 x5 x6 x7 : AV) (σ : Store) : codeK X0 run (.seq (.seq .leaf (.cond (.seq .leaf (.seq .leaf (.cond (.seq .leaf (.seq .leaf .leaf)) .leaf))) .leaf)) (.sub (fun fr σ => c162_9 run fu s2 (G fr 1) (G fr 5) (G fr 6) σ))) (subC [true, true, false, true, false, false, true, false, false, false, true, true, true, false, true, true] b162) (frS 0 86 [(1, x1), (5, x5), (6, x6), (7, x7)]) σ (blockK 2 (blockK 1 (thenK (fun fr σ => c162_7 run fu s2 (G fr 1) (G fr 5) (G fr 6) σ) (thenK (fun fr σ => s2 (G fr 1) (G fr 5) (G fr 6) σ) failK)))) = c162_8 run fu s2 x1 x5 x6 x7 σ := by kernel_rfl

theorem ok162_8 {run : RunT} (hrun : RunOK X0 run) (fu : Nat) (s2 : W3) : ∀ fr σ, KOK X0 86 (subC [true, true, false, true, false, false, true, false, false, false, true, true, true, false, true, true] b162) fr σ ((fun fr σ => c162_8 run fu s2 (G fr 1) (G fr 5) (G fr 6) (G fr 7) σ) fr σ) (blockK 2 (blockK 1 (thenK (fun fr σ => c162_7 run fu s2 (G fr 1) (G fr 5) (G fr 6) σ) (thenK (fun fr σ => s2 (G fr 1) (G fr 5) (G fr 6) σ) failK)))) := fun fr σ =>
  KOK.piece env0 hrun [1, 5, 6, 7] (eq162_8 run fu s2 (G fr 1) (G fr 5) (G fr 6) (G fr 7) σ) ⟨⟨trivial, ⟨⟨trivial, ⟨trivial, ⟨⟨trivial, ⟨trivial, trivial⟩⟩, trivial⟩⟩⟩, trivial⟩⟩, (ok162_9 hrun fu s2)⟩

noncomputable def c162_10b (run : RunT) (fu : Nat) (s2 : W3) (s10 : W4) (x1 x5 x6 x7 : AV) (σ : Store) : Tr R :=
  lenSK x1 fun x54 =>
  cmpK .lss x7 x54 fun x55 =>
  grdK x55 true σ (fun f => f x1 σ) fun x57 σ1 =>
  grdK x55 true σ1 (fun f => f x7 σ1) fun x58 σ2 =>
  grdK x55 true σ2 (fun f => idxSK x57 x58 fun v => f v σ2) fun x59 σ3 =>
  grdK x55 true σ3 (fun f => cmpK .neq x59 (.int .u8 59) fun v => f v σ3) fun x60 σ4 =>
  pickK x55 x60 (.bool false) fun x61 =>
  ifK x61 (
  addK x7 (.int .i64 1) fun x63 =>
  s10 x1 x5 x6 x63 σ4) (
  c162_8 run fu s2 x1 x5 x6 x7 σ4)

noncomputable def c162_10 (run : RunT) (fu : Nat) (s2 : W3) : Nat → W4
  | 0 => fun _ _ _ _ _ => .fail
  | m + 1 => c162_10b run fu s2 (c162_10 run fu s2 m)

theorem eq162_10 (run : RunT) (fu : Nat) (s2 : W3) (s10 : W4) (x1 x5 x6 x7 : AV) (σ : Store) : codeK X0 run (.seq (.seq .leaf (.cond .leaf .leaf)) (.block .leaf)) (subC [true, true, false, true, false, false, true, false, false, false, true, true, true, false, true, false, false, false] b162) (frS 0 86 [(1, x1), (5, x5), (6, x6), (7, x7)]) σ (thenK (fun fr σ => s10 (G fr 1) (G fr 5) (G fr 6) (G fr 7) σ) (blockK 3 (thenK (fun fr σ => c162_8 run fu s2 (G fr 1) (G fr 5) (G fr 6) (G fr 7) σ) (blockK 2 (blockK 1 (thenK (fun fr σ => c162_7 run fu s2 (G fr 1) (G fr 5) (G fr 6) σ) (thenK (fun fr σ => s2 (G fr 1) (G fr 5) (G fr 6) σ) failK))))))) = c162_10b run fu s2 s10 x1 x5 x6 x7 σ := by kernel_rfl

theorem owed162_10 {run : RunT} (hrun : RunOK X0 run) (fu : Nat) (s2 : W3) (s10 : W4) : Owes X0 run 86 (.seq (.seq .leaf (.cond .leaf .leaf)) (.block .leaf)) (subC [true, true, false, true, false, false, true, false, false, false, true, true, true, false, true, false, false, false] b162) (thenK (fun fr σ => s10 (G fr 1) (G fr 5) (G fr 6) (G fr 7) σ) (blockK 3 (thenK (fun fr σ => c162_8 run fu s2 (G fr 1) (G fr 5) (G fr 6) (G fr 7) σ) (blockK 2 (blockK 1 (thenK (fun fr σ => c162_7 run fu s2 (G fr 1) (G fr 5) (G fr 6) σ) (thenK (fun fr σ => s2 (G fr 1) (G fr 5) (G fr 6) σ) failK))))))) :=
  ⟨⟨trivial, ⟨trivial, trivial⟩⟩, trivial⟩

theorem ok162_10 {run : RunT} (hrun : RunOK X0 run) (fu : Nat) (s2 : W3) : ∀ fr σ, KOK X0 86 (subC [true, true, false, true, false, false, true, false, false, false, true, true, true, false, true, false, false] b162) fr σ ((fun fr σ => c162_10 run fu s2 fu (G fr 1) (G fr 5) (G fr 6) (G fr 7) σ) fr σ) (blockK 3 (thenK (fun fr σ => c162_8 run fu s2 (G fr 1) (G fr 5) (G fr 6) (G fr 7) σ) (blockK 2 (blockK 1 (thenK (fun fr σ => c162_7 run fu s2 (G fr 1) (G fr 5) (G fr 6) σ) (thenK (fun fr σ => s2 (G fr 1) (G fr 5) (G fr 6) σ) failK)))))) := by
  have h := KOK.loop (X := X0) (N := 86) (b := (subC [true, true, false, true, false, false, true, false, false, false, true, true, true, false, true, false, false, false] b162)) (k := (blockK 3 (thenK (fun fr σ => c162_8 run fu s2 (G fr 1) (G fr 5) (G fr 6) (G fr 7) σ) (blockK 2 (blockK 1 (thenK (fun fr σ => c162_7 run fu s2 (G fr 1) (G fr 5) (G fr 6) σ) (thenK (fun fr σ => s2 (G fr 1) (G fr 5) (G fr 6) σ) failK))))))) (u := fun m fr σ => c162_10 run fu s2 m (G fr 1) (G fr 5) (G fr 6) (G fr 7) σ) (fun _ _ => rfl) (fun m fr σ => KOK.piece env0 hrun [1, 5, 6, 7] (eq162_10 run fu s2 (c162_10 run fu s2 m) (G fr 1) (G fr 5) (G fr 6) (G fr 7) σ) (owed162_10 hrun fu s2 (c162_10 run fu s2 m)))
  exact fun fr σ => h fu fr σ

noncomputable def c162_10x (run : RunT) (fu : Nat) (s10 : W4) (x1 x5 x6 x7 : AV) (σ : Store) : Tr R :=
  lenSK x1 fun x54 =>
  cmpK .lss x7 x54 fun x55 =>
  grdK x55 true σ (fun f => f x1 σ) fun x57 σ1 =>
  grdK x55 true σ1 (fun f => f x7 σ1) fun x58 σ2 =>
  grdK x55 true σ2 (fun f => idxSK x57 x58 fun v => f v σ2) fun x59 σ3 =>
  grdK x55 true σ3 (fun f => cmpK .neq x59 (.int .u8 59) fun v => f v σ3) fun x60 σ4 =>
  pickK x55 x60 (.bool false) fun x61 =>
  ifK x61 (
  addK x7 (.int .i64 1) fun x63 =>
  s10 x1 x5 x6 x63 σ4) (
  .fail)

theorem eq162_10x (run : RunT) (fu : Nat) (s10 : W4) (x1 x5 x6 x7 : AV) (σ : Store) : codeK X0 run (.seq (.seq .leaf (.cond .leaf .leaf)) (.block .leaf)) (subC [true, true, false, true, false, false, true, false, false, false, true, true, true, false, true, false, false, false] b162) (frS 0 86 [(1, x1), (5, x5), (6, x6), (7, x7)]) σ (thenK (fun fr σ => s10 (G fr 1) (G fr 5) (G fr 6) (G fr 7) σ) failK) = c162_10x run fu s10 x1 x5 x6 x7 σ := by kernel_rfl

theorem owed162_10x {run : RunT} (hrun : RunOK X0 run) (fu : Nat) (s10 : W4) : Owes X0 run 86 (.seq (.seq .leaf (.cond .leaf .leaf)) (.block .leaf)) (subC [true, true, false, true, false, false, true, false, false, false, true, true, true, false, true, false, false, false] b162) (thenK (fun fr σ => s10 (G fr 1) (G fr 5) (G fr 6) (G fr 7) σ) failK) :=
  ⟨⟨trivial, ⟨trivial, trivial⟩⟩, trivial⟩

noncomputable def c162_10s (run : RunT) (fu : Nat) (s2 : W3) : Nat → List AV → Store → Tr R :=
  sweepN 1 (sweepC 1 1 5 (sweepR (planOf (some 1) 0 2 [] [] [] [101]) (planR 101 0 5) (fun t2 xs σ => c162_10b run fu s2 (fun y1 y5 y6 y7 σ => t2 [y1, y5, y6, y7] σ) (xs.getD 0 .any) (xs.getD 1 .any) (xs.getD 2 .any) (xs.getD 3 .any) σ) (fun t2 xs σ => c162_10x run fu (fun y1 y5 y6 y7 σ => t2 [y1, y5, y6, y7] σ) (xs.getD 0 .any) (xs.getD 1 .any) (xs.getD 2 .any) (xs.getD 3 .any) σ)))

theorem ok162_10s {run : RunT} (hrun : RunOK X0 run) (fu : Nat) (s2 : W3) : ∀ fr σ, KOK X0 86 (subC [true, true, false, true, false, false, true, false, false, false, true, true, true, false, true, false, false] b162) fr σ ((fun fr σ => c162_10s run fu s2 fu [fr.getD 1 .any, fr.getD 5 .any, fr.getD 6 .any, fr.getD 7 .any] σ) fr σ) (blockK 3 (thenK (fun fr σ => c162_8 run fu s2 (G fr 1) (G fr 5) (G fr 6) (G fr 7) σ) (blockK 2 (blockK 1 (thenK (fun fr σ => c162_7 run fu s2 (G fr 1) (G fr 5) (G fr 6) σ) (thenK (fun fr σ => s2 (G fr 1) (G fr 5) (G fr 6) σ) failK)))))) := by
  have h := KOK.sweepN 1 (KOK.sweepC 1 1 5 (KOK.sweepRow (X := X0) (N := 86) (b := (subC [true, true, false, true, false, false, true, false, false, false, true, true, true, false, true, false, false, false] b162)) (k := (blockK 3 (thenK (fun fr σ => c162_8 run fu s2 (G fr 1) (G fr 5) (G fr 6) (G fr 7) σ) (blockK 2 (blockK 1 (thenK (fun fr σ => c162_7 run fu s2 (G fr 1) (G fr 5) (G fr 6) σ) (thenK (fun fr σ => s2 (G fr 1) (G fr 5) (G fr 6) σ) failK))))))) (js := [1, 5, 6, 7]) (body := (fun t2 xs σ => c162_10b run fu s2 (fun y1 y5 y6 y7 σ => t2 [y1, y5, y6, y7] σ) (xs.getD 0 .any) (xs.getD 1 .any) (xs.getD 2 .any) (xs.getD 3 .any) σ)) (bodyx := (fun t2 xs σ => c162_10x run fu (fun y1 y5 y6 y7 σ => t2 [y1, y5, y6, y7] σ) (xs.getD 0 .any) (xs.getD 1 .any) (xs.getD 2 .any) (xs.getD 3 .any) σ)) rfl (planOf (some 1) 0 2 [] [] [] [101]) (planR 101 0 5) (fun t2 fr σ => KOK.piece env0 hrun [1, 5, 6, 7] (eq162_10 run fu s2 (fun y1 y5 y6 y7 σ => t2 [y1, y5, y6, y7] σ) (G fr 1) (G fr 5) (G fr 6) (G fr 7) σ) (owed162_10 hrun fu s2 (fun y1 y5 y6 y7 σ => t2 [y1, y5, y6, y7] σ))) (fun t2 fr σ => KOK.piece env0 hrun [1, 5, 6, 7] (eq162_10x run fu (fun y1 y5 y6 y7 σ => t2 [y1, y5, y6, y7] σ) (G fr 1) (G fr 5) (G fr 6) (G fr 7) σ) (owed162_10x hrun fu (fun y1 y5 y6 y7 σ => t2 [y1, y5, y6, y7] σ)))))
  exact fun fr σ => h fu fr σ

noncomputable def c162_2x (run : RunT) (fu : Nat) (s2 : W3) (x1 x5 x6 : AV) (σ : Store) : Tr R :=
  lenSK x1 fun x12 =>
  cmpK .lss x6 x12 fun x13 =>
  ifK x13 (
  idxSK x1 x6 fun x23 =>
  cmpK .eql x23 (.int .u8 92) fun x24 =>
  grdK x24 true σ (fun f => f x6 σ) fun x26 σ1 =>
  grdK x24 true σ1 (fun f => addK x26 (.int .i64 1) fun v => f v σ1) fun x27 σ2 =>
  grdK x24 true σ2 (fun f => f x1 σ2) fun x28 σ3 =>
  grdK x24 true σ3 (fun f => lenSK x28 fun v => f v σ3) fun x29 σ4 =>
  grdK x24 true σ4 (fun f => cmpK .lss x27 x29 fun v => f v σ4) fun x30 σ5 =>
  pickK x24 x30 (.bool false) fun x31 =>
  grdK x31 true σ5 (fun f => f x1 σ5) fun x33 σ6 =>
  grdK x31 true σ6 (fun f => f x6 σ6) fun x34 σ7 =>
  grdK x31 true σ7 (fun f => addK x34 (.int .i64 1) fun v => f v σ7) fun x35 σ8 =>
  grdK x31 true σ8 (fun f => idxSK x33 x35 fun v => f v σ8) fun x36 σ9 =>
  grdK x31 true σ9 (fun f => calK run 95 [x36] σ9 f) fun x37 σ10 =>
  pickK x31 x37 (.bool false) fun x38 =>
  ifK x38 (
  addK x6 (.int .i64 1) fun x40 =>
  idxSK x1 x40 fun x43 =>
  calK run 19 [x5, x43] σ10 fun x44 σ11 =>
  c162_7 run fu s2 x1 x5 x40 σ11) (
  idxSK x1 x6 fun x48 =>
  cmpK .eql x48 (.int .u8 38) fun x49 =>
  ifK x49 (
  addK x6 (.int .i64 1) fun x51 =>
  c162_10s run fu s2 fu [x1, x5, x6, x51] σ10) (
  idxSK x1 x6 fun x18 =>
  calK run 19 [x5, x18] σ10 fun x19 σ12 =>
  c162_7 run fu s2 x1 x5 x6 σ12))) (
  .fail)

theorem eq162_2x (run : RunT) (fu : Nat) (s2 : W3) (x1 x5 x6 : AV) (σ : Store) : codeK X0 run (.seq (.seq .leaf (.cond .leaf .leaf)) (.seq (.block (.block (.seq .leaf (.cond (.seq .leaf .leaf) (.seq .leaf (.cond (.seq .leaf (.seq (.block (.sub (fun fr σ => c162_10s run fu s2 fu [fr.getD 1 .any, fr.getD 5 .any, fr.getD 6 .any, fr.getD 7 .any] σ))) (.sub (fun fr σ => c162_8 run fu s2 (G fr 1) (G fr 5) (G fr 6) (G fr 7) σ)))) .leaf)))))) (.sub (fun fr σ => c162_7 run fu s2 (G fr 1) (G fr 5) (G fr 6) σ)))) (subC [true, true, false, true, false, false] b162) (frS 0 86 [(1, x1), (5, x5), (6, x6)]) σ (thenK (fun fr σ => s2 (G fr 1) (G fr 5) (G fr 6) σ) failK) = c162_2x run fu s2 x1 x5 x6 σ := by kernel_rfl

theorem owed162_2x {run : RunT} (hrun : RunOK X0 run) (fu : Nat) (s2 : W3) : Owes X0 run 86 (.seq (.seq .leaf (.cond .leaf .leaf)) (.seq (.block (.block (.seq .leaf (.cond (.seq .leaf .leaf) (.seq .leaf (.cond (.seq .leaf (.seq (.block (.sub (fun fr σ => c162_10s run fu s2 fu [fr.getD 1 .any, fr.getD 5 .any, fr.getD 6 .any, fr.getD 7 .any] σ))) (.sub (fun fr σ => c162_8 run fu s2 (G fr 1) (G fr 5) (G fr 6) (G fr 7) σ)))) .leaf)))))) (.sub (fun fr σ => c162_7 run fu s2 (G fr 1) (G fr 5) (G fr 6) σ)))) (subC [true, true, false, true, false, false] b162) (thenK (fun fr σ => s2 (G fr 1) (G fr 5) (G fr 6) σ) failK) :=
  ⟨⟨trivial, ⟨trivial, trivial⟩⟩, ⟨⟨trivial, ⟨⟨trivial, trivial⟩, ⟨trivial, ⟨⟨trivial, ⟨(ok162_10s hrun fu s2), (ok162_8 hrun fu s2)⟩⟩, trivial⟩⟩⟩⟩, (ok162_7 hrun fu s2)⟩⟩

noncomputable def c162_2s (run : RunT) (fu : Nat) : Nat → List AV → Store → Tr R :=
  sweepN 1 (sweepC 1 1 5 (sweepR (planOf (some 1) 0 2 [] [] [] [101]) (planR 101 0 5) (fun t2 xs σ => c162_2b run fu (fun y1 y5 y6 σ => t2 [y1, y5, y6] σ) (xs.getD 0 .any) (xs.getD 1 .any) (xs.getD 2 .any) σ) (fun t2 xs σ => c162_2x run fu (fun y1 y5 y6 σ => t2 [y1, y5, y6] σ) (xs.getD 0 .any) (xs.getD 1 .any) (xs.getD 2 .any) σ)))

theorem ok162_2s {run : RunT} (hrun : RunOK X0 run) (fu : Nat) : ∀ fr σ, KOK X0 86 (subC [true, true, false, true, false] b162) fr σ ((fun fr σ => c162_2s run fu fu [fr.getD 1 .any, fr.getD 5 .any, fr.getD 6 .any] σ) fr σ) (blockK 0 (thenK (fun fr σ => c162_1 run fu (G fr 5) σ) k162)) := by
  have h := KOK.sweepN 1 (KOK.sweepC 1 1 5 (KOK.sweepRow (X := X0) (N := 86) (b := (subC [true, true, false, true, false, false] b162)) (k := (blockK 0 (thenK (fun fr σ => c162_1 run fu (G fr 5) σ) k162))) (js := [1, 5, 6]) (body := (fun t2 xs σ => c162_2b run fu (fun y1 y5 y6 σ => t2 [y1, y5, y6] σ) (xs.getD 0 .any) (xs.getD 1 .any) (xs.getD 2 .any) σ)) (bodyx := (fun t2 xs σ => c162_2x run fu (fun y1 y5 y6 σ => t2 [y1, y5, y6] σ) (xs.getD 0 .any) (xs.getD 1 .any) (xs.getD 2 .any) σ)) rfl (planOf (some 1) 0 2 [] [] [] [101]) (planR 101 0 5) (fun t2 fr σ => KOK.piece env0 hrun [1, 5, 6] (eq162_2 run fu (fun y1 y5 y6 σ => t2 [y1, y5, y6] σ) (G fr 1) (G fr 5) (G fr 6) σ) (owed162_2 hrun fu (fun y1 y5 y6 σ => t2 [y1, y5, y6] σ))) (fun t2 fr σ => KOK.piece env0 hrun [1, 5, 6] (eq162_2x run fu (fun y1 y5 y6 σ => t2 [y1, y5, y6] σ) (G fr 1) (G fr 5) (G fr 6) σ) (owed162_2x hrun fu (fun y1 y5 y6 σ => t2 [y1, y5, y6] σ)))))
  exact fun fr σ => h fu fr σ

noncomputable def c162 (run : RunT) (fu : Nat) (x0 x1 : AV) (σ : Store) : Tr R :=
  boxK σ 531 x0 fun x2 σ1 =>
  newK σ1 73 [.nilp, .nils] fun x5 σ2 =>
  c162_2s run fu fu [x1, x5, (.int .i64 0)] σ2

theorem eq162 (run : RunT) (fu : Nat) (x0 x1 : AV) (σ : Store) : codeK X0 run (.seq .leaf (.seq .leaf (.seq (.seq .leaf (.block (.sub (fun fr σ => c162_2s run fu fu [fr.getD 1 .any, fr.getD 5 .any, fr.getD 6 .any] σ)))) (.sub (fun fr σ => c162_1 run fu (G fr 5) σ))))) (subC [] b162) ([x0, x1] ++ padA (86 - 2)) σ k162 = c162 run fu x0 x1 σ := by kernel_rfl

theorem ok162 {run : RunT} (hrun : RunOK X0 run) (fu : Nat) (x0 x1 : AV) (σ : Store) : CallOK X0 162 [x0, x1] σ (c162 run fu x0 x1 σ) :=
  KOK.body (fn := Tryz.f162) (c := subC [] b162) (by kernel_rfl) (by kernel_rfl) (by show 2 ≤ 86; decide) (KOK.whole env0 hrun (eq162 run fu x0 x1 σ) ⟨trivial, ⟨trivial, ⟨⟨trivial, (ok162_2s hrun fu)⟩, (ok162_1 hrun fu)⟩⟩⟩)

-- pub-paratext/pub/rscmarkdown.trimSpaceTabNewline

noncomputable def b163 : Code := match Tryz.f163.body with | some c => c | none => .skip

noncomputable def k163 : Kont R := retK Tryz.prog [.tmp 2]

noncomputable def c163_2 (run : RunT) (fu : Nat) (x0 x4 : AV) (σ : Store) : Tr R :=
  sliceSK x0 none (some x4) fun x61 =>
  .ret (x61, σ)

theorem eq163_2 (run : RunT) (fu : Nat) (x0 x4 : AV) (σ : Store) : codeK X0 run (.seq .leaf .leaf) (subC [true, true, true, true, true, true] b163) (frS 0 62 [(0, x0), (4, x4)]) σ k163 = c163_2 run fu x0 x4 σ := by kernel_rfl

theorem ok163_2 {run : RunT} (hrun : RunOK X0 run) (fu : Nat) : ∀ fr σ, KOK X0 62 (subC [true, true, true, true, true, true] b163) fr σ ((fun fr σ => c163_2 run fu (G fr 0) (G fr 4) σ) fr σ) k163 := fun fr σ =>
  KOK.piece env0 hrun [0, 4] (eq163_2 run fu (G fr 0) (G fr 4) σ) ⟨trivial, trivial⟩

noncomputable def c163_3b (run : RunT) (fu : Nat) (s3 : W2) (x0 x4 : AV) (σ : Store) : Tr R :=
  cmpK .gtr x4 (.int .i64 0) fun x35 =>
  grdK x35 true σ (fun f => f x0 σ) fun x37 σ1 =>
  grdK x35 true σ1 (fun f => f x4 σ1) fun x38 σ2 =>
  grdK x35 true σ2 (fun f => subK x38 (.int .i64 1) fun v => f v σ2) fun x39 σ3 =>
  grdK x35 true σ3 (fun f => idxSK x37 x39 fun v => f v σ3) fun x40 σ4 =>
  grdK x35 true σ4 (fun f => cmpK .eql x40 (.int .u8 32) fun v => f v σ4) fun x41 σ5 =>
  grdK x35 true σ5 (fun f => f x41 σ5) fun x42 σ6 =>
  grdK x42 false σ6 (fun f => f x0 σ6) fun x43 σ7 =>
  grdK x42 false σ7 (fun f => f x4 σ7) fun x44 σ8 =>
  grdK x42 false σ8 (fun f => subK x44 (.int .i64 1) fun v => f v σ8) fun x45 σ9 =>
  grdK x42 false σ9 (fun f => idxSK x43 x45 fun v => f v σ9) fun x46 σ10 =>
  grdK x42 false σ10 (fun f => cmpK .eql x46 (.int .u8 9) fun v => f v σ10) fun x47 σ11 =>
  grdK x35 true σ11 (fun f => pickK x42 (.bool true) x47 fun v => f v σ11) fun x48 σ12 =>
  grdK x35 true σ12 (fun f => f x48 σ12) fun x49 σ13 =>
  grdK x49 false σ13 (fun f => f x0 σ13) fun x50 σ14 =>
  grdK x49 false σ14 (fun f => f x4 σ14) fun x51 σ15 =>
  grdK x49 false σ15 (fun f => subK x51 (.int .i64 1) fun v => f v σ15) fun x52 σ16 =>
  grdK x49 false σ16 (fun f => idxSK x50 x52 fun v => f v σ16) fun x53 σ17 =>
  grdK x49 false σ17 (fun f => cmpK .eql x53 (.int .u8 10) fun v => f v σ17) fun x54 σ18 =>
  grdK x35 true σ18 (fun f => pickK x49 (.bool true) x54 fun v => f v σ18) fun x55 σ19 =>
  pickK x35 x55 (.bool false) fun x56 =>
  ifK x56 (
  .fail) (
  c163_2 run fu x0 x4 σ19)

noncomputable def c163_3 (run : RunT) (fu : Nat) : Nat → W2
  | 0 => fun _ _ _ => .fail
  | m + 1 => c163_3b run fu (c163_3 run fu m)

theorem eq163_3 (run : RunT) (fu : Nat) (s3 : W2) (x0 x4 : AV) (σ : Store) : codeK X0 run (.seq (.seq .leaf (.cond (.sub deadK) .leaf)) .leaf) (subC [true, true, true, true, true, false, false, false] b163) (frS 0 62 [(0, x0), (4, x4)]) σ (thenK (fun fr σ => s3 (G fr 0) (G fr 4) σ) (blockK 2 (thenK (fun fr σ => c163_2 run fu (G fr 0) (G fr 4) σ) k163))) = c163_3b run fu s3 x0 x4 σ := by kernel_rfl

theorem owed163_3 {run : RunT} (hrun : RunOK X0 run) (fu : Nat) (s3 : W2) : Owes X0 run 62 (.seq (.seq .leaf (.cond (.sub deadK) .leaf)) .leaf) (subC [true, true, true, true, true, false, false, false] b163) (thenK (fun fr σ => s3 (G fr 0) (G fr 4) σ) (blockK 2 (thenK (fun fr σ => c163_2 run fu (G fr 0) (G fr 4) σ) k163))) :=
  ⟨⟨trivial, ⟨KOK.dead, trivial⟩⟩, trivial⟩

theorem ok163_3 {run : RunT} (hrun : RunOK X0 run) (fu : Nat) : ∀ fr σ, KOK X0 62 (subC [true, true, true, true, true, false, false] b163) fr σ ((fun fr σ => c163_3 run fu fu (G fr 0) (G fr 4) σ) fr σ) (blockK 2 (thenK (fun fr σ => c163_2 run fu (G fr 0) (G fr 4) σ) k163)) := by
  have h := KOK.loop (X := X0) (N := 62) (b := (subC [true, true, true, true, true, false, false, false] b163)) (k := (blockK 2 (thenK (fun fr σ => c163_2 run fu (G fr 0) (G fr 4) σ) k163))) (u := fun m fr σ => c163_3 run fu m (G fr 0) (G fr 4) σ) (fun _ _ => rfl) (fun m fr σ => KOK.piece env0 hrun [0, 4] (eq163_3 run fu (c163_3 run fu m) (G fr 0) (G fr 4) σ) (owed163_3 hrun fu (c163_3 run fu m)))
  exact fun fr σ => h fu fr σ

noncomputable def c163_1 (run : RunT) (fu : Nat) (x0 x3 : AV) (σ : Store) : Tr R :=
  sliceSK x0 (some x3) none fun x31 =>
  lenSK x31 fun x33 =>
  c163_3 run fu fu x31 x33 σ

theorem eq163_1 (run : RunT) (fu : Nat) (x0 x3 : AV) (σ : Store) : codeK X0 run (.seq .leaf (.seq .leaf (.seq (.block (.sub (fun fr σ => c163_3 run fu fu (G fr 0) (G fr 4) σ))) (.sub (fun fr σ => c163_2 run fu (G fr 0) (G fr 4) σ))))) (subC [true, true, true] b163) (frS 0 62 [(0, x0), (3, x3)]) σ k163 = c163_1 run fu x0 x3 σ := by kernel_rfl

theorem ok163_1 {run : RunT} (hrun : RunOK X0 run) (fu : Nat) : ∀ fr σ, KOK X0 62 (subC [true, true, true] b163) fr σ ((fun fr σ => c163_1 run fu (G fr 0) (G fr 3) σ) fr σ) k163 := fun fr σ =>
  KOK.piece env0 hrun [0, 3] (eq163_1 run fu (G fr 0) (G fr 3) σ) ⟨trivial, ⟨trivial, ⟨(ok163_3 hrun fu), (ok163_2 hrun fu)⟩⟩⟩

noncomputable def c163_4b (run : RunT) (fu : Nat) (s4 : W2) (x0 x3 : AV) (σ : Store) : Tr R :=
  lenSK x0 fun x7 =>
  cmpK .lss x3 x7 fun x8 =>
  grdK x8 true σ (fun f => f x0 σ) fun x10 σ1 =>
  grdK x8 true σ1 (fun f => f x3 σ1) fun x11 σ2 =>
  grdK x8 true σ2 (fun f => idxSK x10 x11 fun v => f v σ2) fun x12 σ3 =>
  grdK x8 true σ3 (fun f => cmpK .eql x12 (.int .u8 32) fun v => f v σ3) fun x13 σ4 =>
  grdK x8 true σ4 (fun f => f x13 σ4) fun x14 σ5 =>
  grdK x14 false σ5 (fun f => f x0 σ5) fun x15 σ6 =>
  grdK x14 false σ6 (fun f => f x3 σ6) fun x16 σ7 =>
  grdK x14 false σ7 (fun f => idxSK x15 x16 fun v => f v σ7) fun x17 σ8 =>
  grdK x14 false σ8 (fun f => cmpK .eql x17 (.int .u8 9) fun v => f v σ8) fun x18 σ9 =>
  grdK x8 true σ9 (fun f => pickK x14 (.bool true) x18 fun v => f v σ9) fun x19 σ10 =>
  grdK x8 true σ10 (fun f => f x19 σ10) fun x20 σ11 =>
  grdK x20 false σ11 (fun f => f x0 σ11) fun x21 σ12 =>
  grdK x20 false σ12 (fun f => f x3 σ12) fun x22 σ13 =>
  grdK x20 false σ13 (fun f => idxSK x21 x22 fun v => f v σ13) fun x23 σ14 =>
  grdK x20 false σ14 (fun f => cmpK .eql x23 (.int .u8 10) fun v => f v σ14) fun x24 σ15 =>
  grdK x8 true σ15 (fun f => pickK x20 (.bool true) x24 fun v => f v σ15) fun x25 σ16 =>
  pickK x8 x25 (.bool false) fun x26 =>
  ifK x26 (
  .fail) (
  c163_1 run fu x0 x3 σ16)

noncomputable def c163_4 (run : RunT) (fu : Nat) : Nat → W2
  | 0 => fun _ _ _ => .fail
  | m + 1 => c163_4b run fu (c163_4 run fu m)

theorem eq163_4 (run : RunT) (fu : Nat) (s4 : W2) (x0 x3 : AV) (σ : Store) : codeK X0 run (.seq (.seq .leaf (.cond (.sub deadK) .leaf)) .leaf) (subC [true, true, false, false, false] b163) (frS 0 62 [(0, x0), (3, x3)]) σ (thenK (fun fr σ => s4 (G fr 0) (G fr 3) σ) (blockK 0 (thenK (fun fr σ => c163_1 run fu (G fr 0) (G fr 3) σ) k163))) = c163_4b run fu s4 x0 x3 σ := by kernel_rfl

theorem owed163_4 {run : RunT} (hrun : RunOK X0 run) (fu : Nat) (s4 : W2) : Owes X0 run 62 (.seq (.seq .leaf (.cond (.sub deadK) .leaf)) .leaf) (subC [true, true, false, false, false] b163) (thenK (fun fr σ => s4 (G fr 0) (G fr 3) σ) (blockK 0 (thenK (fun fr σ => c163_1 run fu (G fr 0) (G fr 3) σ) k163))) :=
  ⟨⟨trivial, ⟨KOK.dead, trivial⟩⟩, trivial⟩

theorem ok163_4 {run : RunT} (hrun : RunOK X0 run) (fu : Nat) : ∀ fr σ, KOK X0 62 (subC [true, true, false, false] b163) fr σ ((fun fr σ => c163_4 run fu fu (G fr 0) (G fr 3) σ) fr σ) (blockK 0 (thenK (fun fr σ => c163_1 run fu (G fr 0) (G fr 3) σ) k163)) := by
  have h := KOK.loop (X := X0) (N := 62) (b := (subC [true, true, false, false, false] b163)) (k := (blockK 0 (thenK (fun fr σ => c163_1 run fu (G fr 0) (G fr 3) σ) k163))) (u := fun m fr σ => c163_4 run fu m (G fr 0) (G fr 3) σ) (fun _ _ => rfl) (fun m fr σ => KOK.piece env0 hrun [0, 3] (eq163_4 run fu (c163_4 run fu m) (G fr 0) (G fr 3) σ) (owed163_4 hrun fu (c163_4 run fu m)))
  exact fun fr σ => h fu fr σ

noncomputable def c163 (run : RunT) (fu : Nat) (x0 : AV) (σ : Store) : Tr R :=
  c163_4 run fu fu x0 (.int .i64 0) σ

theorem eq163 (run : RunT) (fu : Nat) (x0 : AV) (σ : Store) : codeK X0 run (.seq .leaf (.seq .leaf (.seq (.block (.sub (fun fr σ => c163_4 run fu fu (G fr 0) (G fr 3) σ))) (.sub (fun fr σ => c163_1 run fu (G fr 0) (G fr 3) σ))))) (subC [] b163) ([x0] ++ padA (62 - 1)) σ k163 = c163 run fu x0 σ := by kernel_rfl

theorem ok163 {run : RunT} (hrun : RunOK X0 run) (fu : Nat) (x0 : AV) (σ : Store) : CallOK X0 163 [x0] σ (c163 run fu x0 σ) :=
  KOK.body (fn := Tryz.f163) (c := subC [] b163) (by kernel_rfl) (by kernel_rfl) (by show 1 ≤ 62; decide) (KOK.whole env0 hrun (eq163 run fu x0 σ) ⟨trivial, ⟨trivial, ⟨(ok163_4 hrun fu), (ok163_1 hrun fu)⟩⟩⟩)

-- strings.Join

noncomputable def b164 : Code := match Tryz.f164.body with | some c => c | none => .skip

noncomputable def k164 : Kont R := retK Tryz.prog [.tmp 4]

noncomputable def c164 (run : RunT) (fu : Nat) (x0 x1 : AV) (σ : Store) : Tr R :=
  lenLK x0 fun x12 =>
  cmpK .eql x12 (.int .i64 0) fun x14 =>
  ifK x14 (
  .fail) (
  cmpK .eql x12 (.int .i64 1) fun x16 =>
  ifK x16 (
  idxK 1 x0 (.int .i64 0) fun x18 =>
  ld1K σ x18 fun x19 =>
  .ret (x19, σ)) (
  .fail))

theorem eq164 (run : RunT) (fu : Nat) (x0 x1 : AV) (σ : Store) : codeK X0 run (.seq .leaf (.seq (.seq .leaf (.block (.seq .leaf (.cond (.sub deadK) (.seq .leaf (.cond (.seq .leaf .leaf) (.sub deadK))))))) .leaf)) (subC [] b164) ([x0, x1] ++ padA (75 - 2)) σ k164 = c164 run fu x0 x1 σ := by kernel_rfl

theorem ok164 {run : RunT} (hrun : RunOK X0 run) (fu : Nat) (x0 x1 : AV) (σ : Store) : CallOK X0 164 [x0, x1] σ (c164 run fu x0 x1 σ) :=
  KOK.body (fn := Tryz.f164) (c := subC [] b164) (by kernel_rfl) (by kernel_rfl) (by show 2 ≤ 75; decide) (KOK.whole env0 hrun (eq164 run fu x0 x1 σ) ⟨trivial, ⟨⟨trivial, ⟨trivial, ⟨KOK.dead, ⟨trivial, ⟨⟨trivial, trivial⟩, KOK.dead⟩⟩⟩⟩⟩, trivial⟩⟩)

end Go.Proofs.YtfmgdjkcdmjloaaGreatDoor
