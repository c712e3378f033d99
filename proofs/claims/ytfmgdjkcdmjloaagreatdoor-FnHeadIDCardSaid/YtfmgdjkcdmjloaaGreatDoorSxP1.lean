/- Functions of the program, told as Lean functions of abstract values and stores, each with its proof. -/
import Derived.Test.YtfmgdjkcdmjloaaGreatDoorSxX
import Derived.Test.YtfmgdjkcdmjloaaGreatDoorSxWc
set_option linter.unusedVariables false
set_option linter.unusedSimpArgs false
namespace Go.Proofs.YtfmgdjkcdmjloaaGreatDoor
open Go.AM
-- pub-paratext/laws.only

noncomputable def b11 : Code := match Tryz.f11.body with | some c => c | none => .skip

noncomputable def k11 : Kont R := retK Tryz.prog [.tmp 6]

noncomputable def c11_1 (run : FuncId → List AV → Store → Tr R) (fu : Nat) (σ : Store) : Tr R :=
  .ret ((.bool true), σ)

theorem eq11_1 (run : FuncId → List AV → Store → Tr R) (fu : Nat) (σ : Store) : codeK X0 run (.seq .leaf .leaf) (subC [true, true, true] b11) (frS 0 24 []) σ k11 = c11_1 run fu σ := by kernel_rfl

theorem ok11_1 {run : FuncId → List AV → Store → Tr R} (hrun : RunOK X0 run) (fu : Nat) : ∀ fr σ, KOK X0 24 (subC [true, true, true] b11) fr σ ((fun fr σ => c11_1 run fu σ) fr σ) k11 := fun fr σ =>
  KOK.piece env0 hrun [] (eq11_1 run fu σ) ⟨trivial, trivial⟩

noncomputable def c11_2b (run : FuncId → List AV → Store → Tr R) (fu : Nat) (s2 : AV → AV → AV → AV → Store → Tr R) (x0 x1 x13 x14 : AV) (σ : Store) : Tr R :=
  cmpK .lss x14 x13 fun x15 =>
  ifK x15 (
  idxSK x0 x14 fun x20 =>
  calK run 24 [x1, x20] σ fun x21 σ1 =>
  cmpK .lss x21 (.int .i64 0) fun x22 =>
  ifK x22 (
  .ret ((.bool false), σ1)) (
  addK x14 (.int .i64 1) fun x23 =>
  s2 x0 x1 x13 x23 σ1)) (
  c11_1 run fu σ)

noncomputable def c11_2 (run : FuncId → List AV → Store → Tr R) (fu : Nat) : Nat → AV → AV → AV → AV → Store → Tr R
  | 0 => fun _ _ _ _ _ => .fail
  | m + 1 => c11_2b run fu (c11_2 run fu m)

theorem eq11_2 (run : FuncId → List AV → Store → Tr R) (fu : Nat) (s2 : AV → AV → AV → AV → Store → Tr R) (x0 x1 x13 x14 : AV) (σ : Store) : codeK X0 run (.seq .leaf (.seq (.cond .leaf .leaf) (.seq (.block (.seq .leaf (.seq .leaf (.cond (.seq .leaf .leaf) .leaf)))) .leaf))) (subC [true, true, false, true, false, false] b11) (frS 0 24 [(0, x0), (1, x1), (13, x13), (14, x14)]) σ (thenK (fun fr σ => s2 (fr.getD 0 .any) (fr.getD 1 .any) (fr.getD 13 .any) (fr.getD 14 .any) σ) (blockK 0 (thenK (fun fr σ => c11_1 run fu σ) k11))) = c11_2b run fu s2 x0 x1 x13 x14 σ := by kernel_rfl

theorem owed11_2 {run : FuncId → List AV → Store → Tr R} (hrun : RunOK X0 run) (fu : Nat) (s2 : AV → AV → AV → AV → Store → Tr R) : Owes X0 run 24 (.seq .leaf (.seq (.cond .leaf .leaf) (.seq (.block (.seq .leaf (.seq .leaf (.cond (.seq .leaf .leaf) .leaf)))) .leaf))) (subC [true, true, false, true, false, false] b11) (thenK (fun fr σ => s2 (fr.getD 0 .any) (fr.getD 1 .any) (fr.getD 13 .any) (fr.getD 14 .any) σ) (blockK 0 (thenK (fun fr σ => c11_1 run fu σ) k11))) :=
  ⟨trivial, ⟨⟨trivial, trivial⟩, ⟨⟨trivial, ⟨trivial, ⟨⟨trivial, trivial⟩, trivial⟩⟩⟩, trivial⟩⟩⟩

theorem ok11_2 {run : FuncId → List AV → Store → Tr R} (hrun : RunOK X0 run) (fu : Nat) : ∀ fr σ, KOK X0 24 (subC [true, true, false, true, false] b11) fr σ ((fun fr σ => c11_2 run fu fu (fr.getD 0 .any) (fr.getD 1 .any) (fr.getD 13 .any) (fr.getD 14 .any) σ) fr σ) (blockK 0 (thenK (fun fr σ => c11_1 run fu σ) k11)) := by
  have h := KOK.loop (X := X0) (N := 24) (b := (subC [true, true, false, true, false, false] b11)) (k := (blockK 0 (thenK (fun fr σ => c11_1 run fu σ) k11))) (u := fun m fr σ => c11_2 run fu m (fr.getD 0 .any) (fr.getD 1 .any) (fr.getD 13 .any) (fr.getD 14 .any) σ) (fun _ _ => rfl) (fun m fr σ => KOK.piece env0 hrun [0, 1, 13, 14] (eq11_2 run fu (c11_2 run fu m) (fr.getD 0 .any) (fr.getD 1 .any) (fr.getD 13 .any) (fr.getD 14 .any) σ) (owed11_2 hrun fu (c11_2 run fu m)))
  exact fun fr σ => h fu fr σ

noncomputable def c11 (run : FuncId → List AV → Store → Tr R) (fu : Nat) (x0 x1 x2 : AV) (σ : Store) : Tr R :=
  lenSK x0 fun x9 =>
  cmpK .gtr x9 x2 fun x11 =>
  ifK x11 (
  .ret ((.bool false), σ)) (
  lenSK x0 fun x13 =>
  c11_2 run fu fu x0 x1 x13 (.int .i64 0) σ)

theorem eq11 (run : FuncId → List AV → Store → Tr R) (fu : Nat) (x0 x1 x2 : AV) (σ : Store) : codeK X0 run (.seq .leaf (.seq (.seq .leaf (.cond (.seq .leaf .leaf) .leaf)) (.seq (.seq .leaf (.block (.sub (fun fr σ => c11_2 run fu fu (fr.getD 0 .any) (fr.getD 1 .any) (fr.getD 13 .any) (fr.getD 14 .any) σ)))) (.sub (fun fr σ => c11_1 run fu σ))))) (subC [] b11) ([x0, x1, x2] ++ padA (24 - 3)) σ k11 = c11 run fu x0 x1 x2 σ := by kernel_rfl

theorem ok11 {run : FuncId → List AV → Store → Tr R} (hrun : RunOK X0 run) (fu : Nat) (x0 x1 x2 : AV) (σ : Store) : CallOK X0 11 [x0, x1, x2] σ (c11 run fu x0 x1 x2 σ) :=
  KOK.body (fn := Tryz.f11) (c := subC [] b11) (by kernel_rfl) (by kernel_rfl) (by show 3 ≤ 24; decide) (KOK.whole env0 hrun (eq11 run fu x0 x1 x2 σ) ⟨trivial, ⟨⟨trivial, ⟨⟨trivial, trivial⟩, trivial⟩⟩, ⟨⟨trivial, (ok11_2 hrun fu)⟩, (ok11_1 hrun fu)⟩⟩⟩)

-- internal/stringslite.HasPrefix

noncomputable def b41 : Code := match Tryz.f41.body with | some c => c | none => .skip

noncomputable def k41 : Kont R := retK Tryz.prog [.tmp 4]

noncomputable def c41 (run : FuncId → List AV → Store → Tr R) (fu : Nat) (x0 x1 : AV) (σ : Store) : Tr R :=
  lenSK x0 fun x6 =>
  lenSK x1 fun x8 =>
  cmpK .geq x6 x8 fun x9 =>
  grdK x9 true σ (fun f => f x0 σ) fun x11 σ1 =>
  grdK x9 true σ1 (fun f => f x1 σ1) fun x12 σ2 =>
  grdK x9 true σ2 (fun f => lenSK x12 fun v => f v σ2) fun x13 σ3 =>
  grdK x9 true σ3 (fun f => sliceSK x11 none (some x13) fun v => f v σ3) fun x14 σ4 =>
  grdK x9 true σ4 (fun f => f x1 σ4) fun x15 σ5 =>
  grdK x9 true σ5 (fun f => eqSK x14 x15 fun v => f v σ5) fun x16 σ6 =>
  pickK x9 x16 (.bool false) fun x17 =>
  .ret (x17, σ6)

theorem eq41 (run : FuncId → List AV → Store → Tr R) (fu : Nat) (x0 x1 : AV) (σ : Store) : codeK X0 run (.seq .leaf (.seq .leaf .leaf)) (subC [] b41) ([x0, x1] ++ padA (18 - 2)) σ k41 = c41 run fu x0 x1 σ := by kernel_rfl

theorem ok41 {run : FuncId → List AV → Store → Tr R} (hrun : RunOK X0 run) (fu : Nat) (x0 x1 : AV) (σ : Store) : CallOK X0 41 [x0, x1] σ (c41 run fu x0 x1 σ) :=
  KOK.body (fn := Tryz.f41) (c := subC [] b41) (by kernel_rfl) (by kernel_rfl) (by show 2 ≤ 18; decide) (KOK.whole env0 hrun (eq41 run fu x0 x1 σ) ⟨trivial, ⟨trivial, trivial⟩⟩)

-- pub-paratext/pub/rscmarkdown.zzIndex

noncomputable def b50 : Code := match Tryz.f50.body with | some c => c | none => .skip

noncomputable def k50 : Kont R := retK Tryz.prog [.tmp 4]

noncomputable def c50_1 (run : FuncId → List AV → Store → Tr R) (fu : Nat) (σ : Store) : Tr R :=
  .ret ((.int .i64 (-1)), σ)

theorem eq50_1 (run : FuncId → List AV → Store → Tr R) (fu : Nat) (σ : Store) : codeK X0 run (.seq .leaf .leaf) (subC [true, true] b50) (frS 0 25 []) σ k50 = c50_1 run fu σ := by kernel_rfl

theorem ok50_1 {run : FuncId → List AV → Store → Tr R} (hrun : RunOK X0 run) (fu : Nat) : ∀ fr σ, KOK X0 25 (subC [true, true] b50) fr σ ((fun fr σ => c50_1 run fu σ) fr σ) k50 := fun fr σ =>
  KOK.piece env0 hrun [] (eq50_1 run fu σ) ⟨trivial, trivial⟩

noncomputable def c50_2b (run : FuncId → List AV → Store → Tr R) (fu : Nat) (s2 : AV → AV → AV → Store → Tr R) (x0 x1 x5 : AV) (σ : Store) : Tr R :=
  lenSK x1 fun x8 =>
  addK x5 x8 fun x9 =>
  lenSK x0 fun x11 =>
  cmpK .leq x9 x11 fun x12 =>
  ifK x12 (
  lenSK x1 fun x19 =>
  addK x5 x19 fun x20 =>
  sliceSK x0 (some x5) (some x20) fun x21 =>
  eqSK x21 x1 fun x23 =>
  ifK x23 (
  .ret (x5, σ)) (
  addK x5 (.int .i64 1) fun x14 =>
  s2 x0 x1 x14 σ)) (
  c50_1 run fu σ)

noncomputable def c50_2 (run : FuncId → List AV → Store → Tr R) (fu : Nat) : Nat → AV → AV → AV → Store → Tr R
  | 0 => fun _ _ _ _ => .fail
  | m + 1 => c50_2b run fu (c50_2 run fu m)

theorem eq50_2 (run : FuncId → List AV → Store → Tr R) (fu : Nat) (s2 : AV → AV → AV → Store → Tr R) (x0 x1 x5 : AV) (σ : Store) : codeK X0 run (.seq (.seq .leaf (.cond .leaf .leaf)) (.seq (.block (.seq .leaf (.cond (.seq .leaf .leaf) .leaf))) .leaf)) (subC [true, false, true, false, false] b50) (frS 0 25 [(0, x0), (1, x1), (5, x5)]) σ (thenK (fun fr σ => s2 (fr.getD 0 .any) (fr.getD 1 .any) (fr.getD 5 .any) σ) (blockK 0 (thenK (fun fr σ => c50_1 run fu σ) k50))) = c50_2b run fu s2 x0 x1 x5 σ := by kernel_rfl

theorem owed50_2 {run : FuncId → List AV → Store → Tr R} (hrun : RunOK X0 run) (fu : Nat) (s2 : AV → AV → AV → Store → Tr R) : Owes X0 run 25 (.seq (.seq .leaf (.cond .leaf .leaf)) (.seq (.block (.seq .leaf (.cond (.seq .leaf .leaf) .leaf))) .leaf)) (subC [true, false, true, false, false] b50) (thenK (fun fr σ => s2 (fr.getD 0 .any) (fr.getD 1 .any) (fr.getD 5 .any) σ) (blockK 0 (thenK (fun fr σ => c50_1 run fu σ) k50))) :=
  ⟨⟨trivial, ⟨trivial, trivial⟩⟩, ⟨⟨trivial, ⟨⟨trivial, trivial⟩, trivial⟩⟩, trivial⟩⟩

theorem ok50_2 {run : FuncId → List AV → Store → Tr R} (hrun : RunOK X0 run) (fu : Nat) : ∀ fr σ, KOK X0 25 (subC [true, false, true, false] b50) fr σ ((fun fr σ => c50_2 run fu fu (fr.getD 0 .any) (fr.getD 1 .any) (fr.getD 5 .any) σ) fr σ) (blockK 0 (thenK (fun fr σ => c50_1 run fu σ) k50)) := by
  have h := KOK.loop (X := X0) (N := 25) (b := (subC [true, false, true, false, false] b50)) (k := (blockK 0 (thenK (fun fr σ => c50_1 run fu σ) k50))) (u := fun m fr σ => c50_2 run fu m (fr.getD 0 .any) (fr.getD 1 .any) (fr.getD 5 .any) σ) (fun _ _ => rfl) (fun m fr σ => KOK.piece env0 hrun [0, 1, 5] (eq50_2 run fu (c50_2 run fu m) (fr.getD 0 .any) (fr.getD 1 .any) (fr.getD 5 .any) σ) (owed50_2 hrun fu (c50_2 run fu m)))
  exact fun fr σ => h fu fr σ

noncomputable def c50 (run : FuncId → List AV → Store → Tr R) (fu : Nat) (x0 x1 : AV) (σ : Store) : Tr R :=
  c50_2 run fu fu x0 x1 (.int .i64 0) σ

theorem eq50 (run : FuncId → List AV → Store → Tr R) (fu : Nat) (x0 x1 : AV) (σ : Store) : codeK X0 run (.seq .leaf (.seq (.seq .leaf (.block (.sub (fun fr σ => c50_2 run fu fu (fr.getD 0 .any) (fr.getD 1 .any) (fr.getD 5 .any) σ)))) (.sub (fun fr σ => c50_1 run fu σ)))) (subC [] b50) ([x0, x1] ++ padA (25 - 2)) σ k50 = c50 run fu x0 x1 σ := by kernel_rfl

theorem ok50 {run : FuncId → List AV → Store → Tr R} (hrun : RunOK X0 run) (fu : Nat) (x0 x1 : AV) (σ : Store) : CallOK X0 50 [x0, x1] σ (c50 run fu x0 x1 σ) :=
  KOK.body (fn := Tryz.f50) (c := subC [] b50) (by kernel_rfl) (by kernel_rfl) (by show 2 ≤ 25; decide) (KOK.whole env0 hrun (eq50 run fu x0 x1 σ) ⟨trivial, ⟨⟨trivial, (ok50_2 hrun fu)⟩, (ok50_1 hrun fu)⟩⟩)

-- pub-paratext/pub/rscmarkdown.trimSpaceTab

noncomputable def b60 : Code := match Tryz.f60.body with | some c => c | none => .skip

noncomputable def k60 : Kont R := retK Tryz.prog [.tmp 2]

noncomputable def c60_2 (run : FuncId → List AV → Store → Tr R) (fu : Nat) (x0 x4 : AV) (σ : Store) : Tr R :=
  sliceSK x0 none (some x4) fun x48 =>
  .ret (x48, σ)

theorem eq60_2 (run : FuncId → List AV → Store → Tr R) (fu : Nat) (x0 x4 : AV) (σ : Store) : codeK X0 run (.seq .leaf .leaf) (subC [true, true, true, true, true, true] b60) (frS 0 49 [(0, x0), (4, x4)]) σ k60 = c60_2 run fu x0 x4 σ := by kernel_rfl

theorem ok60_2 {run : FuncId → List AV → Store → Tr R} (hrun : RunOK X0 run) (fu : Nat) : ∀ fr σ, KOK X0 49 (subC [true, true, true, true, true, true] b60) fr σ ((fun fr σ => c60_2 run fu (fr.getD 0 .any) (fr.getD 4 .any) σ) fr σ) k60 := fun fr σ =>
  KOK.piece env0 hrun [0, 4] (eq60_2 run fu (fr.getD 0 .any) (fr.getD 4 .any) σ) ⟨trivial, trivial⟩

noncomputable def c60_3b (run : FuncId → List AV → Store → Tr R) (fu : Nat) (s3 : AV → AV → Store → Tr R) (x0 x4 : AV) (σ : Store) : Tr R :=
  cmpK .gtr x4 (.int .i64 0) fun x29 =>
  grdK x29 true σ (fun f => f x0 σ) fun x31 σ1 =>
  grdK x29 true σ1 (fun f => f x4 σ1) fun x32 σ2 =>
  grdK x29 true σ2 (fun f => subK x32 (.int .i64 1) fun v => f v σ2) fun x33 σ3 =>
  grdK x29 true σ3 (fun f => idxSK x31 x33 fun v => f v σ3) fun x34 σ4 =>
  grdK x29 true σ4 (fun f => cmpK .eql x34 (.int .u8 32) fun v => f v σ4) fun x35 σ5 =>
  grdK x29 true σ5 (fun f => f x35 σ5) fun x36 σ6 =>
  grdK x36 false σ6 (fun f => f x0 σ6) fun x37 σ7 =>
  grdK x36 false σ7 (fun f => f x4 σ7) fun x38 σ8 =>
  grdK x36 false σ8 (fun f => subK x38 (.int .i64 1) fun v => f v σ8) fun x39 σ9 =>
  grdK x36 false σ9 (fun f => idxSK x37 x39 fun v => f v σ9) fun x40 σ10 =>
  grdK x36 false σ10 (fun f => cmpK .eql x40 (.int .u8 9) fun v => f v σ10) fun x41 σ11 =>
  grdK x29 true σ11 (fun f => pickK x36 (.bool true) x41 fun v => f v σ11) fun x42 σ12 =>
  pickK x29 x42 (.bool false) fun x43 =>
  ifK x43 (
  subK x4 (.int .i64 1) fun x45 =>
  s3 x0 x45 σ12) (
  c60_2 run fu x0 x4 σ12)

noncomputable def c60_3 (run : FuncId → List AV → Store → Tr R) (fu : Nat) : Nat → AV → AV → Store → Tr R
  | 0 => fun _ _ _ => .fail
  | m + 1 => c60_3b run fu (c60_3 run fu m)

theorem eq60_3 (run : FuncId → List AV → Store → Tr R) (fu : Nat) (s3 : AV → AV → Store → Tr R) (x0 x4 : AV) (σ : Store) : codeK X0 run (.seq (.seq .leaf (.cond .leaf .leaf)) (.block .leaf)) (subC [true, true, true, true, true, false, false, false] b60) (frS 0 49 [(0, x0), (4, x4)]) σ (thenK (fun fr σ => s3 (fr.getD 0 .any) (fr.getD 4 .any) σ) (blockK 2 (thenK (fun fr σ => c60_2 run fu (fr.getD 0 .any) (fr.getD 4 .any) σ) k60))) = c60_3b run fu s3 x0 x4 σ := by kernel_rfl

theorem owed60_3 {run : FuncId → List AV → Store → Tr R} (hrun : RunOK X0 run) (fu : Nat) (s3 : AV → AV → Store → Tr R) : Owes X0 run 49 (.seq (.seq .leaf (.cond .leaf .leaf)) (.block .leaf)) (subC [true, true, true, true, true, false, false, false] b60) (thenK (fun fr σ => s3 (fr.getD 0 .any) (fr.getD 4 .any) σ) (blockK 2 (thenK (fun fr σ => c60_2 run fu (fr.getD 0 .any) (fr.getD 4 .any) σ) k60))) :=
  ⟨⟨trivial, ⟨trivial, trivial⟩⟩, trivial⟩

theorem ok60_3 {run : FuncId → List AV → Store → Tr R} (hrun : RunOK X0 run) (fu : Nat) : ∀ fr σ, KOK X0 49 (subC [true, true, true, true, true, false, false] b60) fr σ ((fun fr σ => c60_3 run fu fu (fr.getD 0 .any) (fr.getD 4 .any) σ) fr σ) (blockK 2 (thenK (fun fr σ => c60_2 run fu (fr.getD 0 .any) (fr.getD 4 .any) σ) k60)) := by
  have h := KOK.loop (X := X0) (N := 49) (b := (subC [true, true, true, true, true, false, false, false] b60)) (k := (blockK 2 (thenK (fun fr σ => c60_2 run fu (fr.getD 0 .any) (fr.getD 4 .any) σ) k60))) (u := fun m fr σ => c60_3 run fu m (fr.getD 0 .any) (fr.getD 4 .any) σ) (fun _ _ => rfl) (fun m fr σ => KOK.piece env0 hrun [0, 4] (eq60_3 run fu (c60_3 run fu m) (fr.getD 0 .any) (fr.getD 4 .any) σ) (owed60_3 hrun fu (c60_3 run fu m)))
  exact fun fr σ => h fu fr σ

noncomputable def c60_1 (run : FuncId → List AV → Store → Tr R) (fu : Nat) (x0 x3 : AV) (σ : Store) : Tr R :=
  sliceSK x0 (some x3) none fun x25 =>
  lenSK x25 fun x27 =>
  c60_3 run fu fu x25 x27 σ

theorem eq60_1 (run : FuncId → List AV → Store → Tr R) (fu : Nat) (x0 x3 : AV) (σ : Store) : codeK X0 run (.seq .leaf (.seq .leaf (.seq (.block (.sub (fun fr σ => c60_3 run fu fu (fr.getD 0 .any) (fr.getD 4 .any) σ))) (.sub (fun fr σ => c60_2 run fu (fr.getD 0 .any) (fr.getD 4 .any) σ))))) (subC [true, true, true] b60) (frS 0 49 [(0, x0), (3, x3)]) σ k60 = c60_1 run fu x0 x3 σ := by kernel_rfl

theorem ok60_1 {run : FuncId → List AV → Store → Tr R} (hrun : RunOK X0 run) (fu : Nat) : ∀ fr σ, KOK X0 49 (subC [true, true, true] b60) fr σ ((fun fr σ => c60_1 run fu (fr.getD 0 .any) (fr.getD 3 .any) σ) fr σ) k60 := fun fr σ =>
  KOK.piece env0 hrun [0, 3] (eq60_1 run fu (fr.getD 0 .any) (fr.getD 3 .any) σ) ⟨trivial, ⟨trivial, ⟨(ok60_3 hrun fu), (ok60_2 hrun fu)⟩⟩⟩

noncomputable def c60_4b (run : FuncId → List AV → Store → Tr R) (fu : Nat) (s4 : AV → AV → Store → Tr R) (x0 x3 : AV) (σ : Store) : Tr R :=
  lenSK x0 fun x7 =>
  cmpK .lss x3 x7 fun x8 =>
  grdK x8 true σ (fun f => f x0 σ) fun x10 σ1 =>
  grdK x8 true σ1 (fun f => f x3 σ1) fun x11 σ2 =>
  grdK x8 true σ2 (fun f => idxSK x10 x11 fun v => f v σ2) fun x12 σ3 =>
  grdK x8 true σ3 (fun f => cmpK .eql x12 (.int .u8 32) fun v => f v σ3) fun x13 σ4 =>
  grdK x8 true σ4 (fun f => f x13 σ4) fun x14 σ5 =>
  grdK x14 false σ5 (fun f => f x0 σ5) fun x15 σ6 =>
  grdK x14 false σ6 (fun f => f x3 σ6) fun x16 σ7 =>
  grdK x14 false σ7 (fun f => idxSK x15 x16 fun v => f v σ7) fun x17 σ8 =>
  grdK x14 false σ8 (fun f => cmpK .eql x17 (.int .u8 9) fun v => f v σ8) fun x18 σ9 =>
  grdK x8 true σ9 (fun f => pickK x14 (.bool true) x18 fun v => f v σ9) fun x19 σ10 =>
  pickK x8 x19 (.bool false) fun x20 =>
  ifK x20 (
  addK x3 (.int .i64 1) fun x22 =>
  s4 x0 x22 σ10) (
  c60_1 run fu x0 x3 σ10)

noncomputable def c60_4 (run : FuncId → List AV → Store → Tr R) (fu : Nat) : Nat → AV → AV → Store → Tr R
  | 0 => fun _ _ _ => .fail
  | m + 1 => c60_4b run fu (c60_4 run fu m)

theorem eq60_4 (run : FuncId → List AV → Store → Tr R) (fu : Nat) (s4 : AV → AV → Store → Tr R) (x0 x3 : AV) (σ : Store) : codeK X0 run (.seq (.seq .leaf (.cond .leaf .leaf)) (.block .leaf)) (subC [true, true, false, false, false] b60) (frS 0 49 [(0, x0), (3, x3)]) σ (thenK (fun fr σ => s4 (fr.getD 0 .any) (fr.getD 3 .any) σ) (blockK 0 (thenK (fun fr σ => c60_1 run fu (fr.getD 0 .any) (fr.getD 3 .any) σ) k60))) = c60_4b run fu s4 x0 x3 σ := by kernel_rfl

theorem owed60_4 {run : FuncId → List AV → Store → Tr R} (hrun : RunOK X0 run) (fu : Nat) (s4 : AV → AV → Store → Tr R) : Owes X0 run 49 (.seq (.seq .leaf (.cond .leaf .leaf)) (.block .leaf)) (subC [true, true, false, false, false] b60) (thenK (fun fr σ => s4 (fr.getD 0 .any) (fr.getD 3 .any) σ) (blockK 0 (thenK (fun fr σ => c60_1 run fu (fr.getD 0 .any) (fr.getD 3 .any) σ) k60))) :=
  ⟨⟨trivial, ⟨trivial, trivial⟩⟩, trivial⟩

theorem ok60_4 {run : FuncId → List AV → Store → Tr R} (hrun : RunOK X0 run) (fu : Nat) : ∀ fr σ, KOK X0 49 (subC [true, true, false, false] b60) fr σ ((fun fr σ => c60_4 run fu fu (fr.getD 0 .any) (fr.getD 3 .any) σ) fr σ) (blockK 0 (thenK (fun fr σ => c60_1 run fu (fr.getD 0 .any) (fr.getD 3 .any) σ) k60)) := by
  have h := KOK.loop (X := X0) (N := 49) (b := (subC [true, true, false, false, false] b60)) (k := (blockK 0 (thenK (fun fr σ => c60_1 run fu (fr.getD 0 .any) (fr.getD 3 .any) σ) k60))) (u := fun m fr σ => c60_4 run fu m (fr.getD 0 .any) (fr.getD 3 .any) σ) (fun _ _ => rfl) (fun m fr σ => KOK.piece env0 hrun [0, 3] (eq60_4 run fu (c60_4 run fu m) (fr.getD 0 .any) (fr.getD 3 .any) σ) (owed60_4 hrun fu (c60_4 run fu m)))
  exact fun fr σ => h fu fr σ

noncomputable def c60 (run : FuncId → List AV → Store → Tr R) (fu : Nat) (x0 : AV) (σ : Store) : Tr R :=
  c60_4 run fu fu x0 (.int .i64 0) σ

theorem eq60 (run : FuncId → List AV → Store → Tr R) (fu : Nat) (x0 : AV) (σ : Store) : codeK X0 run (.seq .leaf (.seq .leaf (.seq (.block (.sub (fun fr σ => c60_4 run fu fu (fr.getD 0 .any) (fr.getD 3 .any) σ))) (.sub (fun fr σ => c60_1 run fu (fr.getD 0 .any) (fr.getD 3 .any) σ))))) (subC [] b60) ([x0] ++ padA (49 - 1)) σ k60 = c60 run fu x0 σ := by kernel_rfl

theorem ok60 {run : FuncId → List AV → Store → Tr R} (hrun : RunOK X0 run) (fu : Nat) (x0 : AV) (σ : Store) : CallOK X0 60 [x0] σ (c60 run fu x0 σ) :=
  KOK.body (fn := Tryz.f60) (c := subC [] b60) (by kernel_rfl) (by kernel_rfl) (by show 1 ≤ 49; decide) (KOK.whole env0 hrun (eq60 run fu x0 σ) ⟨trivial, ⟨trivial, ⟨(ok60_4 hrun fu), (ok60_1 hrun fu)⟩⟩⟩)

-- pub-paratext/pub/rscmarkdown.trimRightSpaceTab

noncomputable def b123 : Code := match Tryz.f123.body with | some c => c | none => .skip

noncomputable def k123 : Kont R := retK Tryz.prog [.tmp 2]

noncomputable def c123_1 (run : FuncId → List AV → Store → Tr R) (fu : Nat) (x0 x3 : AV) (σ : Store) : Tr R :=
  sliceSK x0 none (some x3) fun x26 =>
  .ret (x26, σ)

theorem eq123_1 (run : FuncId → List AV → Store → Tr R) (fu : Nat) (x0 x3 : AV) (σ : Store) : codeK X0 run (.seq .leaf .leaf) (subC [true, true, true] b123) (frS 0 27 [(0, x0), (3, x3)]) σ k123 = c123_1 run fu x0 x3 σ := by kernel_rfl

theorem ok123_1 {run : FuncId → List AV → Store → Tr R} (hrun : RunOK X0 run) (fu : Nat) : ∀ fr σ, KOK X0 27 (subC [true, true, true] b123) fr σ ((fun fr σ => c123_1 run fu (fr.getD 0 .any) (fr.getD 3 .any) σ) fr σ) k123 := fun fr σ =>
  KOK.piece env0 hrun [0, 3] (eq123_1 run fu (fr.getD 0 .any) (fr.getD 3 .any) σ) ⟨trivial, trivial⟩

noncomputable def c123_2b (run : FuncId → List AV → Store → Tr R) (fu : Nat) (s2 : AV → AV → Store → Tr R) (x0 x3 : AV) (σ : Store) : Tr R :=
  cmpK .gtr x3 (.int .i64 0) fun x7 =>
  grdK x7 true σ (fun f => f x0 σ) fun x9 σ1 =>
  grdK x7 true σ1 (fun f => f x3 σ1) fun x10 σ2 =>
  grdK x7 true σ2 (fun f => subK x10 (.int .i64 1) fun v => f v σ2) fun x11 σ3 =>
  grdK x7 true σ3 (fun f => idxSK x9 x11 fun v => f v σ3) fun x12 σ4 =>
  grdK x7 true σ4 (fun f => cmpK .eql x12 (.int .u8 32) fun v => f v σ4) fun x13 σ5 =>
  grdK x7 true σ5 (fun f => f x13 σ5) fun x14 σ6 =>
  grdK x14 false σ6 (fun f => f x0 σ6) fun x15 σ7 =>
  grdK x14 false σ7 (fun f => f x3 σ7) fun x16 σ8 =>
  grdK x14 false σ8 (fun f => subK x16 (.int .i64 1) fun v => f v σ8) fun x17 σ9 =>
  grdK x14 false σ9 (fun f => idxSK x15 x17 fun v => f v σ9) fun x18 σ10 =>
  grdK x14 false σ10 (fun f => cmpK .eql x18 (.int .u8 9) fun v => f v σ10) fun x19 σ11 =>
  grdK x7 true σ11 (fun f => pickK x14 (.bool true) x19 fun v => f v σ11) fun x20 σ12 =>
  pickK x7 x20 (.bool false) fun x21 =>
  ifK x21 (
  subK x3 (.int .i64 1) fun x23 =>
  s2 x0 x23 σ12) (
  c123_1 run fu x0 x3 σ12)

noncomputable def c123_2 (run : FuncId → List AV → Store → Tr R) (fu : Nat) : Nat → AV → AV → Store → Tr R
  | 0 => fun _ _ _ => .fail
  | m + 1 => c123_2b run fu (c123_2 run fu m)

theorem eq123_2 (run : FuncId → List AV → Store → Tr R) (fu : Nat) (s2 : AV → AV → Store → Tr R) (x0 x3 : AV) (σ : Store) : codeK X0 run (.seq (.seq .leaf (.cond .leaf .leaf)) (.block .leaf)) (subC [true, true, false, false, false] b123) (frS 0 27 [(0, x0), (3, x3)]) σ (thenK (fun fr σ => s2 (fr.getD 0 .any) (fr.getD 3 .any) σ) (blockK 0 (thenK (fun fr σ => c123_1 run fu (fr.getD 0 .any) (fr.getD 3 .any) σ) k123))) = c123_2b run fu s2 x0 x3 σ := by kernel_rfl

theorem owed123_2 {run : FuncId → List AV → Store → Tr R} (hrun : RunOK X0 run) (fu : Nat) (s2 : AV → AV → Store → Tr R) : Owes X0 run 27 (.seq (.seq .leaf (.cond .leaf .leaf)) (.block .leaf)) (subC [true, true, false, false, false] b123) (thenK (fun fr σ => s2 (fr.getD 0 .any) (fr.getD 3 .any) σ) (blockK 0 (thenK (fun fr σ => c123_1 run fu (fr.getD 0 .any) (fr.getD 3 .any) σ) k123))) :=
  ⟨⟨trivial, ⟨trivial, trivial⟩⟩, trivial⟩

theorem ok123_2 {run : FuncId → List AV → Store → Tr R} (hrun : RunOK X0 run) (fu : Nat) : ∀ fr σ, KOK X0 27 (subC [true, true, false, false] b123) fr σ ((fun fr σ => c123_2 run fu fu (fr.getD 0 .any) (fr.getD 3 .any) σ) fr σ) (blockK 0 (thenK (fun fr σ => c123_1 run fu (fr.getD 0 .any) (fr.getD 3 .any) σ) k123)) := by
  have h := KOK.loop (X := X0) (N := 27) (b := (subC [true, true, false, false, false] b123)) (k := (blockK 0 (thenK (fun fr σ => c123_1 run fu (fr.getD 0 .any) (fr.getD 3 .any) σ) k123))) (u := fun m fr σ => c123_2 run fu m (fr.getD 0 .any) (fr.getD 3 .any) σ) (fun _ _ => rfl) (fun m fr σ => KOK.piece env0 hrun [0, 3] (eq123_2 run fu (c123_2 run fu m) (fr.getD 0 .any) (fr.getD 3 .any) σ) (owed123_2 hrun fu (c123_2 run fu m)))
  exact fun fr σ => h fu fr σ

noncomputable def c123 (run : FuncId → List AV → Store → Tr R) (fu : Nat) (x0 : AV) (σ : Store) : Tr R :=
  lenSK x0 fun x5 =>
  c123_2 run fu fu x0 x5 σ

theorem eq123 (run : FuncId → List AV → Store → Tr R) (fu : Nat) (x0 : AV) (σ : Store) : codeK X0 run (.seq .leaf (.seq .leaf (.seq (.block (.sub (fun fr σ => c123_2 run fu fu (fr.getD 0 .any) (fr.getD 3 .any) σ))) (.sub (fun fr σ => c123_1 run fu (fr.getD 0 .any) (fr.getD 3 .any) σ))))) (subC [] b123) ([x0] ++ padA (27 - 1)) σ k123 = c123 run fu x0 σ := by kernel_rfl

theorem ok123 {run : FuncId → List AV → Store → Tr R} (hrun : RunOK X0 run) (fu : Nat) (x0 : AV) (σ : Store) : CallOK X0 123 [x0] σ (c123 run fu x0 σ) :=
  KOK.body (fn := Tryz.f123) (c := subC [] b123) (by kernel_rfl) (by kernel_rfl) (by show 1 ≤ 27; decide) (KOK.whole env0 hrun (eq123 run fu x0 σ) ⟨trivial, ⟨trivial, ⟨(ok123_2 hrun fu), (ok123_1 hrun fu)⟩⟩⟩)

-- pub-paratext/pub/rscmarkdown.zzTrimRight

noncomputable def b124 : Code := match Tryz.f124.body with | some c => c | none => .skip

noncomputable def k124 : Kont R := retK Tryz.prog [.tmp 4]

noncomputable def c124_1 (run : FuncId → List AV → Store → Tr R) (fu : Nat) (x0 x5 : AV) (σ : Store) : Tr R :=
  sliceSK x0 none (some x5) fun x32 =>
  .ret (x32, σ)

theorem eq124_1 (run : FuncId → List AV → Store → Tr R) (fu : Nat) (x0 x5 : AV) (σ : Store) : codeK X0 run (.seq .leaf .leaf) (subC [true, true, true] b124) (frS 0 33 [(0, x0), (5, x5)]) σ k124 = c124_1 run fu x0 x5 σ := by kernel_rfl

theorem ok124_1 {run : FuncId → List AV → Store → Tr R} (hrun : RunOK X0 run) (fu : Nat) : ∀ fr σ, KOK X0 33 (subC [true, true, true] b124) fr σ ((fun fr σ => c124_1 run fu (fr.getD 0 .any) (fr.getD 5 .any) σ) fr σ) k124 := fun fr σ =>
  KOK.piece env0 hrun [0, 5] (eq124_1 run fu (fr.getD 0 .any) (fr.getD 5 .any) σ) ⟨trivial, trivial⟩

noncomputable def c124_3 (run : FuncId → List AV → Store → Tr R) (fu : Nat) (s2 : AV → AV → AV → Store → Tr R) (x0 x1 x5 x6 : AV) (σ : Store) : Tr R :=
  notK x6 fun x27 =>
  ifK x27 (
  c124_1 run fu x0 x5 σ) (
  subK x5 (.int .i64 1) fun x29 =>
  s2 x0 x1 x29 σ)

theorem eq124_3 (run : FuncId → List AV → Store → Tr R) (fu : Nat) (s2 : AV → AV → AV → Store → Tr R) (x0 x1 x5 x6 : AV) (σ : Store) : codeK X0 run (.seq (.seq .leaf (.cond .leaf .leaf)) .leaf) (subC [true, true, false, false, false, true, false, true, true] b124) (frS 0 33 [(0, x0), (1, x1), (5, x5), (6, x6)]) σ (blockK 1 (thenK (fun fr σ => s2 (fr.getD 0 .any) (fr.getD 1 .any) (fr.getD 5 .any) σ) (blockK 0 (thenK (fun fr σ => c124_1 run fu (fr.getD 0 .any) (fr.getD 5 .any) σ) k124)))) = c124_3 run fu s2 x0 x1 x5 x6 σ := by kernel_rfl

theorem ok124_3 {run : FuncId → List AV → Store → Tr R} (hrun : RunOK X0 run) (fu : Nat) (s2 : AV → AV → AV → Store → Tr R) : ∀ fr σ, KOK X0 33 (subC [true, true, false, false, false, true, false, true, true] b124) fr σ ((fun fr σ => c124_3 run fu s2 (fr.getD 0 .any) (fr.getD 1 .any) (fr.getD 5 .any) (fr.getD 6 .any) σ) fr σ) (blockK 1 (thenK (fun fr σ => s2 (fr.getD 0 .any) (fr.getD 1 .any) (fr.getD 5 .any) σ) (blockK 0 (thenK (fun fr σ => c124_1 run fu (fr.getD 0 .any) (fr.getD 5 .any) σ) k124)))) := fun fr σ =>
  KOK.piece env0 hrun [0, 1, 5, 6] (eq124_3 run fu s2 (fr.getD 0 .any) (fr.getD 1 .any) (fr.getD 5 .any) (fr.getD 6 .any) σ) ⟨⟨trivial, ⟨trivial, trivial⟩⟩, trivial⟩

noncomputable def c124_5 (run : FuncId → List AV → Store → Tr R) (fu : Nat) (s2 : AV → AV → AV → Store → Tr R) (s4 : AV → AV → AV → AV → AV → Store → Tr R) (x0 x1 x5 x6 x7 : AV) (σ : Store) : Tr R :=
  addK x7 (.int .i64 1) fun x17 =>
  s4 x0 x1 x5 x6 x17 σ

theorem eq124_5 (run : FuncId → List AV → Store → Tr R) (fu : Nat) (s2 : AV → AV → AV → Store → Tr R) (s4 : AV → AV → AV → AV → AV → Store → Tr R) (x0 x1 x5 x6 x7 : AV) (σ : Store) : codeK X0 run .leaf (subC [true, true, false, false, false, true, false, true, false, true, false, false, true, true] b124) (frS 0 33 [(0, x0), (1, x1), (5, x5), (6, x6), (7, x7)]) σ (thenK (fun fr σ => s4 (fr.getD 0 .any) (fr.getD 1 .any) (fr.getD 5 .any) (fr.getD 6 .any) (fr.getD 7 .any) σ) (blockK 2 (thenK (fun fr σ => c124_3 run fu s2 (fr.getD 0 .any) (fr.getD 1 .any) (fr.getD 5 .any) (fr.getD 6 .any) σ) (blockK 1 (thenK (fun fr σ => s2 (fr.getD 0 .any) (fr.getD 1 .any) (fr.getD 5 .any) σ) (blockK 0 (thenK (fun fr σ => c124_1 run fu (fr.getD 0 .any) (fr.getD 5 .any) σ) k124))))))) = c124_5 run fu s2 s4 x0 x1 x5 x6 x7 σ := by kernel_rfl

theorem ok124_5 {run : FuncId → List AV → Store → Tr R} (hrun : RunOK X0 run) (fu : Nat) (s2 : AV → AV → AV → Store → Tr R) (s4 : AV → AV → AV → AV → AV → Store → Tr R) : ∀ fr σ, KOK X0 33 (subC [true, true, false, false, false, true, false, true, false, true, false, false, true, true] b124) fr σ ((fun fr σ => c124_5 run fu s2 s4 (fr.getD 0 .any) (fr.getD 1 .any) (fr.getD 5 .any) (fr.getD 6 .any) (fr.getD 7 .any) σ) fr σ) (thenK (fun fr σ => s4 (fr.getD 0 .any) (fr.getD 1 .any) (fr.getD 5 .any) (fr.getD 6 .any) (fr.getD 7 .any) σ) (blockK 2 (thenK (fun fr σ => c124_3 run fu s2 (fr.getD 0 .any) (fr.getD 1 .any) (fr.getD 5 .any) (fr.getD 6 .any) σ) (blockK 1 (thenK (fun fr σ => s2 (fr.getD 0 .any) (fr.getD 1 .any) (fr.getD 5 .any) σ) (blockK 0 (thenK (fun fr σ => c124_1 run fu (fr.getD 0 .any) (fr.getD 5 .any) σ) k124))))))) := fun fr σ =>
  KOK.piece env0 hrun [0, 1, 5, 6, 7] (eq124_5 run fu s2 s4 (fr.getD 0 .any) (fr.getD 1 .any) (fr.getD 5 .any) (fr.getD 6 .any) (fr.getD 7 .any) σ) trivial

noncomputable def c124_4b (run : FuncId → List AV → Store → Tr R) (fu : Nat) (s2 : AV → AV → AV → Store → Tr R) (s4 : AV → AV → AV → AV → AV → Store → Tr R) (x0 x1 x5 x6 x7 : AV) (σ : Store) : Tr R :=
  lenSK x1 fun x14 =>
  cmpK .lss x7 x14 fun x15 =>
  ifK x15 (
  idxSK x1 x7 fun x20 =>
  subK x5 (.int .i64 1) fun x23 =>
  idxSK x0 x23 fun x24 =>
  cmpK .eql x20 x24 fun x25 =>
  ifK x25 (
  c124_5 run fu s2 s4 x0 x1 x5 (.bool true) x7 σ) (
  c124_5 run fu s2 s4 x0 x1 x5 x6 x7 σ)) (
  c124_3 run fu s2 x0 x1 x5 x6 σ)

noncomputable def c124_4 (run : FuncId → List AV → Store → Tr R) (fu : Nat) (s2 : AV → AV → AV → Store → Tr R) : Nat → AV → AV → AV → AV → AV → Store → Tr R
  | 0 => fun _ _ _ _ _ _ => .fail
  | m + 1 => c124_4b run fu s2 (c124_4 run fu s2 m)

theorem eq124_4 (run : FuncId → List AV → Store → Tr R) (fu : Nat) (s2 : AV → AV → AV → Store → Tr R) (s4 : AV → AV → AV → AV → AV → Store → Tr R) (x0 x1 x5 x6 x7 : AV) (σ : Store) : codeK X0 run (.seq (.seq .leaf (.cond .leaf .leaf)) (.seq (.block (.seq .leaf (.cond .leaf .leaf))) (.sub (fun fr σ => c124_5 run fu s2 s4 (fr.getD 0 .any) (fr.getD 1 .any) (fr.getD 5 .any) (fr.getD 6 .any) (fr.getD 7 .any) σ)))) (subC [true, true, false, false, false, true, false, true, false, true, false, false] b124) (frS 0 33 [(0, x0), (1, x1), (5, x5), (6, x6), (7, x7)]) σ (thenK (fun fr σ => s4 (fr.getD 0 .any) (fr.getD 1 .any) (fr.getD 5 .any) (fr.getD 6 .any) (fr.getD 7 .any) σ) (blockK 2 (thenK (fun fr σ => c124_3 run fu s2 (fr.getD 0 .any) (fr.getD 1 .any) (fr.getD 5 .any) (fr.getD 6 .any) σ) (blockK 1 (thenK (fun fr σ => s2 (fr.getD 0 .any) (fr.getD 1 .any) (fr.getD 5 .any) σ) (blockK 0 (thenK (fun fr σ => c124_1 run fu (fr.getD 0 .any) (fr.getD 5 .any) σ) k124))))))) = c124_4b run fu s2 s4 x0 x1 x5 x6 x7 σ := by kernel_rfl

theorem owed124_4 {run : FuncId → List AV → Store → Tr R} (hrun : RunOK X0 run) (fu : Nat) (s2 : AV → AV → AV → Store → Tr R) (s4 : AV → AV → AV → AV → AV → Store → Tr R) : Owes X0 run 33 (.seq (.seq .leaf (.cond .leaf .leaf)) (.seq (.block (.seq .leaf (.cond .leaf .leaf))) (.sub (fun fr σ => c124_5 run fu s2 s4 (fr.getD 0 .any) (fr.getD 1 .any) (fr.getD 5 .any) (fr.getD 6 .any) (fr.getD 7 .any) σ)))) (subC [true, true, false, false, false, true, false, true, false, true, false, false] b124) (thenK (fun fr σ => s4 (fr.getD 0 .any) (fr.getD 1 .any) (fr.getD 5 .any) (fr.getD 6 .any) (fr.getD 7 .any) σ) (blockK 2 (thenK (fun fr σ => c124_3 run fu s2 (fr.getD 0 .any) (fr.getD 1 .any) (fr.getD 5 .any) (fr.getD 6 .any) σ) (blockK 1 (thenK (fun fr σ => s2 (fr.getD 0 .any) (fr.getD 1 .any) (fr.getD 5 .any) σ) (blockK 0 (thenK (fun fr σ => c124_1 run fu (fr.getD 0 .any) (fr.getD 5 .any) σ) k124))))))) :=
  ⟨⟨trivial, ⟨trivial, trivial⟩⟩, ⟨⟨trivial, ⟨trivial, trivial⟩⟩, (ok124_5 hrun fu s2 s4)⟩⟩

theorem ok124_4 {run : FuncId → List AV → Store → Tr R} (hrun : RunOK X0 run) (fu : Nat) (s2 : AV → AV → AV → Store → Tr R) : ∀ fr σ, KOK X0 33 (subC [true, true, false, false, false, true, false, true, false, true, false] b124) fr σ ((fun fr σ => c124_4 run fu s2 fu (fr.getD 0 .any) (fr.getD 1 .any) (fr.getD 5 .any) (fr.getD 6 .any) (fr.getD 7 .any) σ) fr σ) (blockK 2 (thenK (fun fr σ => c124_3 run fu s2 (fr.getD 0 .any) (fr.getD 1 .any) (fr.getD 5 .any) (fr.getD 6 .any) σ) (blockK 1 (thenK (fun fr σ => s2 (fr.getD 0 .any) (fr.getD 1 .any) (fr.getD 5 .any) σ) (blockK 0 (thenK (fun fr σ => c124_1 run fu (fr.getD 0 .any) (fr.getD 5 .any) σ) k124)))))) := by
  have h := KOK.loop (X := X0) (N := 33) (b := (subC [true, true, false, false, false, true, false, true, false, true, false, false] b124)) (k := (blockK 2 (thenK (fun fr σ => c124_3 run fu s2 (fr.getD 0 .any) (fr.getD 1 .any) (fr.getD 5 .any) (fr.getD 6 .any) σ) (blockK 1 (thenK (fun fr σ => s2 (fr.getD 0 .any) (fr.getD 1 .any) (fr.getD 5 .any) σ) (blockK 0 (thenK (fun fr σ => c124_1 run fu (fr.getD 0 .any) (fr.getD 5 .any) σ) k124))))))) (u := fun m fr σ => c124_4 run fu s2 m (fr.getD 0 .any) (fr.getD 1 .any) (fr.getD 5 .any) (fr.getD 6 .any) (fr.getD 7 .any) σ) (fun _ _ => rfl) (fun m fr σ => KOK.piece env0 hrun [0, 1, 5, 6, 7] (eq124_4 run fu s2 (c124_4 run fu s2 m) (fr.getD 0 .any) (fr.getD 1 .any) (fr.getD 5 .any) (fr.getD 6 .any) (fr.getD 7 .any) σ) (owed124_4 hrun fu s2 (c124_4 run fu s2 m)))
  exact fun fr σ => h fu fr σ

noncomputable def c124_2b (run : FuncId → List AV → Store → Tr R) (fu : Nat) (s2 : AV → AV → AV → Store → Tr R) (x0 x1 x5 : AV) (σ : Store) : Tr R :=
  cmpK .gtr x5 (.int .i64 0) fun x11 =>
  ifK x11 (
  c124_4 run fu s2 fu x0 x1 x5 (.bool false) (.int .i64 0) σ) (
  c124_1 run fu x0 x5 σ)

noncomputable def c124_2 (run : FuncId → List AV → Store → Tr R) (fu : Nat) : Nat → AV → AV → AV → Store → Tr R
  | 0 => fun _ _ _ _ => .fail
  | m + 1 => c124_2b run fu (c124_2 run fu m)

theorem eq124_2 (run : FuncId → List AV → Store → Tr R) (fu : Nat) (s2 : AV → AV → AV → Store → Tr R) (x0 x1 x5 : AV) (σ : Store) : codeK X0 run (.seq (.seq .leaf (.cond .leaf .leaf)) (.block (.seq .leaf (.seq (.seq .leaf (.block (.sub (fun fr σ => c124_4 run fu s2 fu (fr.getD 0 .any) (fr.getD 1 .any) (fr.getD 5 .any) (fr.getD 6 .any) (fr.getD 7 .any) σ)))) (.sub (fun fr σ => c124_3 run fu s2 (fr.getD 0 .any) (fr.getD 1 .any) (fr.getD 5 .any) (fr.getD 6 .any) σ)))))) (subC [true, true, false, false, false] b124) (frS 0 33 [(0, x0), (1, x1), (5, x5)]) σ (thenK (fun fr σ => s2 (fr.getD 0 .any) (fr.getD 1 .any) (fr.getD 5 .any) σ) (blockK 0 (thenK (fun fr σ => c124_1 run fu (fr.getD 0 .any) (fr.getD 5 .any) σ) k124))) = c124_2b run fu s2 x0 x1 x5 σ := by kernel_rfl

theorem owed124_2 {run : FuncId → List AV → Store → Tr R} (hrun : RunOK X0 run) (fu : Nat) (s2 : AV → AV → AV → Store → Tr R) : Owes X0 run 33 (.seq (.seq .leaf (.cond .leaf .leaf)) (.block (.seq .leaf (.seq (.seq .leaf (.block (.sub (fun fr σ => c124_4 run fu s2 fu (fr.getD 0 .any) (fr.getD 1 .any) (fr.getD 5 .any) (fr.getD 6 .any) (fr.getD 7 .any) σ)))) (.sub (fun fr σ => c124_3 run fu s2 (fr.getD 0 .any) (fr.getD 1 .any) (fr.getD 5 .any) (fr.getD 6 .any) σ)))))) (subC [true, true, false, false, false] b124) (thenK (fun fr σ => s2 (fr.getD 0 .any) (fr.getD 1 .any) (fr.getD 5 .any) σ) (blockK 0 (thenK (fun fr σ => c124_1 run fu (fr.getD 0 .any) (fr.getD 5 .any) σ) k124))) :=
  ⟨⟨trivial, ⟨trivial, trivial⟩⟩, ⟨trivial, ⟨⟨trivial, (ok124_4 hrun fu s2)⟩, (ok124_3 hrun fu s2)⟩⟩⟩

theorem ok124_2 {run : FuncId → List AV → Store → Tr R} (hrun : RunOK X0 run) (fu : Nat) : ∀ fr σ, KOK X0 33 (subC [true, true, false, false] b124) fr σ ((fun fr σ => c124_2 run fu fu (fr.getD 0 .any) (fr.getD 1 .any) (fr.getD 5 .any) σ) fr σ) (blockK 0 (thenK (fun fr σ => c124_1 run fu (fr.getD 0 .any) (fr.getD 5 .any) σ) k124)) := by
  have h := KOK.loop (X := X0) (N := 33) (b := (subC [true, true, false, false, false] b124)) (k := (blockK 0 (thenK (fun fr σ => c124_1 run fu (fr.getD 0 .any) (fr.getD 5 .any) σ) k124))) (u := fun m fr σ => c124_2 run fu m (fr.getD 0 .any) (fr.getD 1 .any) (fr.getD 5 .any) σ) (fun _ _ => rfl) (fun m fr σ => KOK.piece env0 hrun [0, 1, 5] (eq124_2 run fu (c124_2 run fu m) (fr.getD 0 .any) (fr.getD 1 .any) (fr.getD 5 .any) σ) (owed124_2 hrun fu (c124_2 run fu m)))
  exact fun fr σ => h fu fr σ

noncomputable def c124 (run : FuncId → List AV → Store → Tr R) (fu : Nat) (x0 x1 : AV) (σ : Store) : Tr R :=
  lenSK x0 fun x9 =>
  c124_2 run fu fu x0 x1 x9 σ

theorem eq124 (run : FuncId → List AV → Store → Tr R) (fu : Nat) (x0 x1 : AV) (σ : Store) : codeK X0 run (.seq .leaf (.seq .leaf (.seq (.block (.sub (fun fr σ => c124_2 run fu fu (fr.getD 0 .any) (fr.getD 1 .any) (fr.getD 5 .any) σ))) (.sub (fun fr σ => c124_1 run fu (fr.getD 0 .any) (fr.getD 5 .any) σ))))) (subC [] b124) ([x0, x1] ++ padA (33 - 2)) σ k124 = c124 run fu x0 x1 σ := by kernel_rfl

theorem ok124 {run : FuncId → List AV → Store → Tr R} (hrun : RunOK X0 run) (fu : Nat) (x0 x1 : AV) (σ : Store) : CallOK X0 124 [x0, x1] σ (c124 run fu x0 x1 σ) :=
  KOK.body (fn := Tryz.f124) (c := subC [] b124) (by kernel_rfl) (by kernel_rfl) (by show 2 ≤ 33; decide) (KOK.whole env0 hrun (eq124 run fu x0 x1 σ) ⟨trivial, ⟨trivial, ⟨(ok124_2 hrun fu), (ok124_1 hrun fu)⟩⟩⟩)

-- pub-paratext/pub/rscmarkdown.zzTrimSpace

noncomputable def b142 : Code := match Tryz.f142.body with | some c => c | none => .skip

noncomputable def k142 : Kont R := retK Tryz.prog [.tmp 2]

noncomputable def c142_2 (run : FuncId → List AV → Store → Tr R) (fu : Nat) (x0 : AV) (σ : Store) : Tr R :=
  .ret (x0, σ)

theorem eq142_2 (run : FuncId → List AV → Store → Tr R) (fu : Nat) (x0 : AV) (σ : Store) : codeK X0 run (.seq .leaf .leaf) (subC [true, true, true] b142) (frS 0 39 [(0, x0)]) σ k142 = c142_2 run fu x0 σ := by kernel_rfl

theorem ok142_2 {run : FuncId → List AV → Store → Tr R} (hrun : RunOK X0 run) (fu : Nat) : ∀ fr σ, KOK X0 39 (subC [true, true, true] b142) fr σ ((fun fr σ => c142_2 run fu (fr.getD 0 .any) σ) fr σ) k142 := fun fr σ =>
  KOK.piece env0 hrun [0] (eq142_2 run fu (fr.getD 0 .any) σ) ⟨trivial, trivial⟩

noncomputable def c142_3b (run : FuncId → List AV → Store → Tr R) (fu : Nat) (s3 : AV → Store → Tr R) (x0 : AV) (σ : Store) : Tr R :=
  lenSK x0 fun x22 =>
  cmpK .gtr x22 (.int .i64 0) fun x23 =>
  ifK x23 (
  calK run 100 [x0] σ fun x26 σ1 =>
  extK x26 0 fun x27 =>
  extK x26 1 fun x28 =>
  calK run 179 [x27] σ1 fun x30 σ2 =>
  notK x30 fun x31 =>
  ifK x31 (
  c142_2 run fu x0 σ2) (
  lenSK x0 fun x34 =>
  subK x34 x28 fun x36 =>
  sliceSK x0 none (some x36) fun x37 =>
  s3 x37 σ2)) (
  c142_2 run fu x0 σ)

noncomputable def c142_3 (run : FuncId → List AV → Store → Tr R) (fu : Nat) : Nat → AV → Store → Tr R
  | 0 => fun _ _ => .fail
  | m + 1 => c142_3b run fu (c142_3 run fu m)

theorem eq142_3 (run : FuncId → List AV → Store → Tr R) (fu : Nat) (s3 : AV → Store → Tr R) (x0 : AV) (σ : Store) : codeK X0 run (.seq (.seq .leaf (.cond .leaf .leaf)) (.block (.seq .leaf (.seq (.seq .leaf (.cond .leaf .leaf)) .leaf)))) (subC [true, true, false, false, false] b142) (frS 0 39 [(0, x0)]) σ (thenK (fun fr σ => s3 (fr.getD 0 .any) σ) (blockK 2 (thenK (fun fr σ => c142_2 run fu (fr.getD 0 .any) σ) k142))) = c142_3b run fu s3 x0 σ := by kernel_rfl

theorem owed142_3 {run : FuncId → List AV → Store → Tr R} (hrun : RunOK X0 run) (fu : Nat) (s3 : AV → Store → Tr R) : Owes X0 run 39 (.seq (.seq .leaf (.cond .leaf .leaf)) (.block (.seq .leaf (.seq (.seq .leaf (.cond .leaf .leaf)) .leaf)))) (subC [true, true, false, false, false] b142) (thenK (fun fr σ => s3 (fr.getD 0 .any) σ) (blockK 2 (thenK (fun fr σ => c142_2 run fu (fr.getD 0 .any) σ) k142))) :=
  ⟨⟨trivial, ⟨trivial, trivial⟩⟩, ⟨trivial, ⟨⟨trivial, ⟨trivial, trivial⟩⟩, trivial⟩⟩⟩

theorem ok142_3 {run : FuncId → List AV → Store → Tr R} (hrun : RunOK X0 run) (fu : Nat) : ∀ fr σ, KOK X0 39 (subC [true, true, false, false] b142) fr σ ((fun fr σ => c142_3 run fu fu (fr.getD 0 .any) σ) fr σ) (blockK 2 (thenK (fun fr σ => c142_2 run fu (fr.getD 0 .any) σ) k142)) := by
  have h := KOK.loop (X := X0) (N := 39) (b := (subC [true, true, false, false, false] b142)) (k := (blockK 2 (thenK (fun fr σ => c142_2 run fu (fr.getD 0 .any) σ) k142))) (u := fun m fr σ => c142_3 run fu m (fr.getD 0 .any) σ) (fun _ _ => rfl) (fun m fr σ => KOK.piece env0 hrun [0] (eq142_3 run fu (c142_3 run fu m) (fr.getD 0 .any) σ) (owed142_3 hrun fu (c142_3 run fu m)))
  exact fun fr σ => h fu fr σ

noncomputable def c142_1 (run : FuncId → List AV → Store → Tr R) (fu : Nat) (x0 : AV) (σ : Store) : Tr R :=
  c142_3 run fu fu x0 σ

theorem eq142_1 (run : FuncId → List AV → Store → Tr R) (fu : Nat) (x0 : AV) (σ : Store) : codeK X0 run (.seq (.block (.sub (fun fr σ => c142_3 run fu fu (fr.getD 0 .any) σ))) (.sub (fun fr σ => c142_2 run fu (fr.getD 0 .any) σ))) (subC [true, true] b142) (frS 0 39 [(0, x0)]) σ k142 = c142_1 run fu x0 σ := by kernel_rfl

theorem ok142_1 {run : FuncId → List AV → Store → Tr R} (hrun : RunOK X0 run) (fu : Nat) : ∀ fr σ, KOK X0 39 (subC [true, true] b142) fr σ ((fun fr σ => c142_1 run fu (fr.getD 0 .any) σ) fr σ) k142 := fun fr σ =>
  KOK.piece env0 hrun [0] (eq142_1 run fu (fr.getD 0 .any) σ) ⟨(ok142_3 hrun fu), (ok142_2 hrun fu)⟩

noncomputable def c142_4b (run : FuncId → List AV → Store → Tr R) (fu : Nat) (s4 : AV → Store → Tr R) (x0 : AV) (σ : Store) : Tr R :=
  lenSK x0 fun x8 =>
  cmpK .gtr x8 (.int .i64 0) fun x9 =>
  ifK x9 (
  calK run 101 [x0] σ fun x12 σ1 =>
  extK x12 0 fun x13 =>
  extK x12 1 fun x14 =>
  calK run 179 [x13] σ1 fun x16 σ2 =>
  notK x16 fun x17 =>
  ifK x17 (
  c142_1 run fu x0 σ2) (
  sliceSK x0 (some x14) none fun x20 =>
  s4 x20 σ2)) (
  c142_1 run fu x0 σ)

noncomputable def c142_4 (run : FuncId → List AV → Store → Tr R) (fu : Nat) : Nat → AV → Store → Tr R
  | 0 => fun _ _ => .fail
  | m + 1 => c142_4b run fu (c142_4 run fu m)

theorem eq142_4 (run : FuncId → List AV → Store → Tr R) (fu : Nat) (s4 : AV → Store → Tr R) (x0 : AV) (σ : Store) : codeK X0 run (.seq (.seq .leaf (.cond .leaf .leaf)) (.block (.seq .leaf (.seq (.seq .leaf (.cond .leaf .leaf)) .leaf)))) (subC [true, false, false, false] b142) (frS 0 39 [(0, x0)]) σ (thenK (fun fr σ => s4 (fr.getD 0 .any) σ) (blockK 0 (thenK (fun fr σ => c142_1 run fu (fr.getD 0 .any) σ) k142))) = c142_4b run fu s4 x0 σ := by kernel_rfl

theorem owed142_4 {run : FuncId → List AV → Store → Tr R} (hrun : RunOK X0 run) (fu : Nat) (s4 : AV → Store → Tr R) : Owes X0 run 39 (.seq (.seq .leaf (.cond .leaf .leaf)) (.block (.seq .leaf (.seq (.seq .leaf (.cond .leaf .leaf)) .leaf)))) (subC [true, false, false, false] b142) (thenK (fun fr σ => s4 (fr.getD 0 .any) σ) (blockK 0 (thenK (fun fr σ => c142_1 run fu (fr.getD 0 .any) σ) k142))) :=
  ⟨⟨trivial, ⟨trivial, trivial⟩⟩, ⟨trivial, ⟨⟨trivial, ⟨trivial, trivial⟩⟩, trivial⟩⟩⟩

theorem ok142_4 {run : FuncId → List AV → Store → Tr R} (hrun : RunOK X0 run) (fu : Nat) : ∀ fr σ, KOK X0 39 (subC [true, false, false] b142) fr σ ((fun fr σ => c142_4 run fu fu (fr.getD 0 .any) σ) fr σ) (blockK 0 (thenK (fun fr σ => c142_1 run fu (fr.getD 0 .any) σ) k142)) := by
  have h := KOK.loop (X := X0) (N := 39) (b := (subC [true, false, false, false] b142)) (k := (blockK 0 (thenK (fun fr σ => c142_1 run fu (fr.getD 0 .any) σ) k142))) (u := fun m fr σ => c142_4 run fu m (fr.getD 0 .any) σ) (fun _ _ => rfl) (fun m fr σ => KOK.piece env0 hrun [0] (eq142_4 run fu (c142_4 run fu m) (fr.getD 0 .any) σ) (owed142_4 hrun fu (c142_4 run fu m)))
  exact fun fr σ => h fu fr σ

noncomputable def c142 (run : FuncId → List AV → Store → Tr R) (fu : Nat) (x0 : AV) (σ : Store) : Tr R :=
  c142_4 run fu fu x0 σ

theorem eq142 (run : FuncId → List AV → Store → Tr R) (fu : Nat) (x0 : AV) (σ : Store) : codeK X0 run (.seq .leaf (.seq (.block (.sub (fun fr σ => c142_4 run fu fu (fr.getD 0 .any) σ))) (.sub (fun fr σ => c142_1 run fu (fr.getD 0 .any) σ)))) (subC [] b142) ([x0] ++ padA (39 - 1)) σ k142 = c142 run fu x0 σ := by kernel_rfl

theorem ok142 {run : FuncId → List AV → Store → Tr R} (hrun : RunOK X0 run) (fu : Nat) (x0 : AV) (σ : Store) : CallOK X0 142 [x0] σ (c142 run fu x0 σ) :=
  KOK.body (fn := Tryz.f142) (c := subC [] b142) (by kernel_rfl) (by kernel_rfl) (by show 1 ≤ 39; decide) (KOK.whole env0 hrun (eq142 run fu x0 σ) ⟨trivial, ⟨(ok142_4 hrun fu), (ok142_1 hrun fu)⟩⟩)

-- internal/bytealg.LastIndexByteString

noncomputable def b192 : Code := match Tryz.f192.body with | some c => c | none => .skip

noncomputable def k192 : Kont R := retK Tryz.prog [.tmp 4]

noncomputable def c192_1 (run : FuncId → List AV → Store → Tr R) (fu : Nat) (σ : Store) : Tr R :=
  .ret ((.int .i64 (-1)), σ)

theorem eq192_1 (run : FuncId → List AV → Store → Tr R) (fu : Nat) (σ : Store) : codeK X0 run (.seq .leaf .leaf) (subC [true, true] b192) (frS 0 19 []) σ k192 = c192_1 run fu σ := by kernel_rfl

theorem ok192_1 {run : FuncId → List AV → Store → Tr R} (hrun : RunOK X0 run) (fu : Nat) : ∀ fr σ, KOK X0 19 (subC [true, true] b192) fr σ ((fun fr σ => c192_1 run fu σ) fr σ) k192 := fun fr σ =>
  KOK.piece env0 hrun [] (eq192_1 run fu σ) ⟨trivial, trivial⟩

noncomputable def c192_2b (run : FuncId → List AV → Store → Tr R) (fu : Nat) (s2 : AV → AV → AV → Store → Tr R) (x0 x1 x5 : AV) (σ : Store) : Tr R :=
  cmpK .geq x5 (.int .i64 0) fun x10 =>
  ifK x10 (
  idxSK x0 x5 fun x15 =>
  cmpK .eql x15 x1 fun x17 =>
  ifK x17 (
  .ret (x5, σ)) (
  subK x5 (.int .i64 1) fun x12 =>
  s2 x0 x1 x12 σ)) (
  c192_1 run fu σ)

noncomputable def c192_2 (run : FuncId → List AV → Store → Tr R) (fu : Nat) : Nat → AV → AV → AV → Store → Tr R
  | 0 => fun _ _ _ _ => .fail
  | m + 1 => c192_2b run fu (c192_2 run fu m)

theorem eq192_2 (run : FuncId → List AV → Store → Tr R) (fu : Nat) (s2 : AV → AV → AV → Store → Tr R) (x0 x1 x5 : AV) (σ : Store) : codeK X0 run (.seq (.seq .leaf (.cond .leaf .leaf)) (.seq (.block (.seq .leaf (.cond (.seq .leaf .leaf) .leaf))) .leaf)) (subC [true, false, true, false, false] b192) (frS 0 19 [(0, x0), (1, x1), (5, x5)]) σ (thenK (fun fr σ => s2 (fr.getD 0 .any) (fr.getD 1 .any) (fr.getD 5 .any) σ) (blockK 0 (thenK (fun fr σ => c192_1 run fu σ) k192))) = c192_2b run fu s2 x0 x1 x5 σ := by kernel_rfl

theorem owed192_2 {run : FuncId → List AV → Store → Tr R} (hrun : RunOK X0 run) (fu : Nat) (s2 : AV → AV → AV → Store → Tr R) : Owes X0 run 19 (.seq (.seq .leaf (.cond .leaf .leaf)) (.seq (.block (.seq .leaf (.cond (.seq .leaf .leaf) .leaf))) .leaf)) (subC [true, false, true, false, false] b192) (thenK (fun fr σ => s2 (fr.getD 0 .any) (fr.getD 1 .any) (fr.getD 5 .any) σ) (blockK 0 (thenK (fun fr σ => c192_1 run fu σ) k192))) :=
  ⟨⟨trivial, ⟨trivial, trivial⟩⟩, ⟨⟨trivial, ⟨⟨trivial, trivial⟩, trivial⟩⟩, trivial⟩⟩

theorem ok192_2 {run : FuncId → List AV → Store → Tr R} (hrun : RunOK X0 run) (fu : Nat) : ∀ fr σ, KOK X0 19 (subC [true, false, true, false] b192) fr σ ((fun fr σ => c192_2 run fu fu (fr.getD 0 .any) (fr.getD 1 .any) (fr.getD 5 .any) σ) fr σ) (blockK 0 (thenK (fun fr σ => c192_1 run fu σ) k192)) := by
  have h := KOK.loop (X := X0) (N := 19) (b := (subC [true, false, true, false, false] b192)) (k := (blockK 0 (thenK (fun fr σ => c192_1 run fu σ) k192))) (u := fun m fr σ => c192_2 run fu m (fr.getD 0 .any) (fr.getD 1 .any) (fr.getD 5 .any) σ) (fun _ _ => rfl) (fun m fr σ => KOK.piece env0 hrun [0, 1, 5] (eq192_2 run fu (c192_2 run fu m) (fr.getD 0 .any) (fr.getD 1 .any) (fr.getD 5 .any) σ) (owed192_2 hrun fu (c192_2 run fu m)))
  exact fun fr σ => h fu fr σ

noncomputable def c192 (run : FuncId → List AV → Store → Tr R) (fu : Nat) (x0 x1 : AV) (σ : Store) : Tr R :=
  lenSK x0 fun x7 =>
  subK x7 (.int .i64 1) fun x8 =>
  c192_2 run fu fu x0 x1 x8 σ

theorem eq192 (run : FuncId → List AV → Store → Tr R) (fu : Nat) (x0 x1 : AV) (σ : Store) : codeK X0 run (.seq .leaf (.seq (.seq .leaf (.block (.sub (fun fr σ => c192_2 run fu fu (fr.getD 0 .any) (fr.getD 1 .any) (fr.getD 5 .any) σ)))) (.sub (fun fr σ => c192_1 run fu σ)))) (subC [] b192) ([x0, x1] ++ padA (19 - 2)) σ k192 = c192 run fu x0 x1 σ := by kernel_rfl

theorem ok192 {run : FuncId → List AV → Store → Tr R} (hrun : RunOK X0 run) (fu : Nat) (x0 x1 : AV) (σ : Store) : CallOK X0 192 [x0, x1] σ (c192 run fu x0 x1 σ) :=
  KOK.body (fn := Tryz.f192) (c := subC [] b192) (by kernel_rfl) (by kernel_rfl) (by show 2 ≤ 19; decide) (KOK.whole env0 hrun (eq192 run fu x0 x1 σ) ⟨trivial, ⟨⟨trivial, (ok192_2 hrun fu)⟩, (ok192_1 hrun fu)⟩⟩)

-- (pub-paratext/pub/rscmarkdown.zzPairs).WriteString

noncomputable def b253 : Code := match Tryz.f253.body with | some c => c | none => .skip

noncomputable def k253 : Kont R := retK Tryz.prog []

noncomputable def c253_2 (run : FuncId → List AV → Store → Tr R) (fu : Nat) (s1 : AV → AV → AV → AV → Store → Tr R) (x0 x1 x2 x6 : AV) (σ : Store) : Tr R :=
  addK x6 (.int .i64 1) fun x13 =>
  s1 x0 x1 x2 x13 σ

theorem eq253_2 (run : FuncId → List AV → Store → Tr R) (fu : Nat) (s1 : AV → AV → AV → AV → Store → Tr R) (x0 x1 x2 x6 : AV) (σ : Store) : codeK X0 run .leaf (subC [false, true, true, false, false, true, true] b253) (frS 0 41 [(0, x0), (1, x1), (2, x2), (6, x6)]) σ (thenK (fun fr σ => s1 (fr.getD 0 .any) (fr.getD 1 .any) (fr.getD 2 .any) (fr.getD 6 .any) σ) (blockK 0 (noGotoK k253))) = c253_2 run fu s1 x0 x1 x2 x6 σ := by kernel_rfl

theorem ok253_2 {run : FuncId → List AV → Store → Tr R} (hrun : RunOK X0 run) (fu : Nat) (s1 : AV → AV → AV → AV → Store → Tr R) : ∀ fr σ, KOK X0 41 (subC [false, true, true, false, false, true, true] b253) fr σ ((fun fr σ => c253_2 run fu s1 (fr.getD 0 .any) (fr.getD 1 .any) (fr.getD 2 .any) (fr.getD 6 .any) σ) fr σ) (thenK (fun fr σ => s1 (fr.getD 0 .any) (fr.getD 1 .any) (fr.getD 2 .any) (fr.getD 6 .any) σ) (blockK 0 (noGotoK k253))) := fun fr σ =>
  KOK.piece env0 hrun [0, 1, 2, 6] (eq253_2 run fu s1 (fr.getD 0 .any) (fr.getD 1 .any) (fr.getD 2 .any) (fr.getD 6 .any) σ) trivial

noncomputable def c253_3 (run : FuncId → List AV → Store → Tr R) (fu : Nat) (s1 : AV → AV → AV → AV → Store → Tr R) (x0 x1 x2 x6 : AV) (σ : Store) : Tr R :=
  idxSK x2 x6 fun x39 =>
  calK run 254 [x1, x39] σ fun x40 σ1 =>
  c253_2 run fu s1 x0 x1 x2 x6 σ1

theorem eq253_3 (run : FuncId → List AV → Store → Tr R) (fu : Nat) (s1 : AV → AV → AV → AV → Store → Tr R) (x0 x1 x2 x6 : AV) (σ : Store) : codeK X0 run .leaf (subC [false, true, true, false, false, true, false, false, true] b253) (frS 0 41 [(0, x0), (1, x1), (2, x2), (6, x6)]) σ (blockK 1 (thenK (fun fr σ => c253_2 run fu s1 (fr.getD 0 .any) (fr.getD 1 .any) (fr.getD 2 .any) (fr.getD 6 .any) σ) (thenK (fun fr σ => s1 (fr.getD 0 .any) (fr.getD 1 .any) (fr.getD 2 .any) (fr.getD 6 .any) σ) (blockK 0 (noGotoK k253))))) = c253_3 run fu s1 x0 x1 x2 x6 σ := by kernel_rfl

theorem ok253_3 {run : FuncId → List AV → Store → Tr R} (hrun : RunOK X0 run) (fu : Nat) (s1 : AV → AV → AV → AV → Store → Tr R) : ∀ fr σ, KOK X0 41 (subC [false, true, true, false, false, true, false, false, true] b253) fr σ ((fun fr σ => c253_3 run fu s1 (fr.getD 0 .any) (fr.getD 1 .any) (fr.getD 2 .any) (fr.getD 6 .any) σ) fr σ) (blockK 1 (thenK (fun fr σ => c253_2 run fu s1 (fr.getD 0 .any) (fr.getD 1 .any) (fr.getD 2 .any) (fr.getD 6 .any) σ) (thenK (fun fr σ => s1 (fr.getD 0 .any) (fr.getD 1 .any) (fr.getD 2 .any) (fr.getD 6 .any) σ) (blockK 0 (noGotoK k253))))) := fun fr σ =>
  KOK.piece env0 hrun [0, 1, 2, 6] (eq253_3 run fu s1 (fr.getD 0 .any) (fr.getD 1 .any) (fr.getD 2 .any) (fr.getD 6 .any) σ) trivial

noncomputable def c253_4b (run : FuncId → List AV → Store → Tr R) (fu : Nat) (s1 : AV → AV → AV → AV → Store → Tr R) (s4 : AV → AV → AV → AV → AV → Store → Tr R) (x0 x1 x2 x6 x7 : AV) (σ : Store) : Tr R :=
  lenLK x0 fun x16 =>
  cmpK .lss x7 x16 fun x17 =>
  ifK x17 (
  idxSK x2 x6 fun x22 =>
  idxK 1 x0 x7 fun x25 =>
  ld1K σ x25 fun x26 =>
  idxSK x26 (.int .i64 0) fun x27 =>
  cmpK .eql x22 x27 fun x28 =>
  ifK x28 (
  addK x7 (.int .i64 1) fun x32 =>
  idxK 1 x0 x32 fun x33 =>
  ld1K σ x33 fun x34 =>
  calK run 240 [x1, x34] σ fun x35 σ1 =>
  c253_2 run fu s1 x0 x1 x2 x6 σ1) (
  addK x7 (.int .i64 2) fun x19 =>
  s4 x0 x1 x2 x6 x19 σ)) (
  c253_3 run fu s1 x0 x1 x2 x6 σ)

noncomputable def c253_4 (run : FuncId → List AV → Store → Tr R) (fu : Nat) (s1 : AV → AV → AV → AV → Store → Tr R) : Nat → AV → AV → AV → AV → AV → Store → Tr R
  | 0 => fun _ _ _ _ _ _ => .fail
  | m + 1 => c253_4b run fu s1 (c253_4 run fu s1 m)

theorem eq253_4 (run : FuncId → List AV → Store → Tr R) (fu : Nat) (s1 : AV → AV → AV → AV → Store → Tr R) (s4 : AV → AV → AV → AV → AV → Store → Tr R) (x0 x1 x2 x6 x7 : AV) (σ : Store) : codeK X0 run (.seq (.seq .leaf (.cond .leaf .leaf)) (.seq (.block (.seq .leaf (.cond (.seq .leaf .leaf) .leaf))) .leaf)) (subC [false, true, true, false, false, true, false, false, false, true, false, false] b253) (frS 0 41 [(0, x0), (1, x1), (2, x2), (6, x6), (7, x7)]) σ (thenK (fun fr σ => s4 (fr.getD 0 .any) (fr.getD 1 .any) (fr.getD 2 .any) (fr.getD 6 .any) (fr.getD 7 .any) σ) (blockK 2 (thenK (fun fr σ => c253_3 run fu s1 (fr.getD 0 .any) (fr.getD 1 .any) (fr.getD 2 .any) (fr.getD 6 .any) σ) (blockK 1 (thenK (fun fr σ => c253_2 run fu s1 (fr.getD 0 .any) (fr.getD 1 .any) (fr.getD 2 .any) (fr.getD 6 .any) σ) (thenK (fun fr σ => s1 (fr.getD 0 .any) (fr.getD 1 .any) (fr.getD 2 .any) (fr.getD 6 .any) σ) (blockK 0 (noGotoK k253)))))))) = c253_4b run fu s1 s4 x0 x1 x2 x6 x7 σ := by kernel_rfl

theorem owed253_4 {run : FuncId → List AV → Store → Tr R} (hrun : RunOK X0 run) (fu : Nat) (s1 : AV → AV → AV → AV → Store → Tr R) (s4 : AV → AV → AV → AV → AV → Store → Tr R) : Owes X0 run 41 (.seq (.seq .leaf (.cond .leaf .leaf)) (.seq (.block (.seq .leaf (.cond (.seq .leaf .leaf) .leaf))) .leaf)) (subC [false, true, true, false, false, true, false, false, false, true, false, false] b253) (thenK (fun fr σ => s4 (fr.getD 0 .any) (fr.getD 1 .any) (fr.getD 2 .any) (fr.getD 6 .any) (fr.getD 7 .any) σ) (blockK 2 (thenK (fun fr σ => c253_3 run fu s1 (fr.getD 0 .any) (fr.getD 1 .any) (fr.getD 2 .any) (fr.getD 6 .any) σ) (blockK 1 (thenK (fun fr σ => c253_2 run fu s1 (fr.getD 0 .any) (fr.getD 1 .any) (fr.getD 2 .any) (fr.getD 6 .any) σ) (thenK (fun fr σ => s1 (fr.getD 0 .any) (fr.getD 1 .any) (fr.getD 2 .any) (fr.getD 6 .any) σ) (blockK 0 (noGotoK k253)))))))) :=
  ⟨⟨trivial, ⟨trivial, trivial⟩⟩, ⟨⟨trivial, ⟨⟨trivial, trivial⟩, trivial⟩⟩, trivial⟩⟩

theorem ok253_4 {run : FuncId → List AV → Store → Tr R} (hrun : RunOK X0 run) (fu : Nat) (s1 : AV → AV → AV → AV → Store → Tr R) : ∀ fr σ, KOK X0 41 (subC [false, true, true, false, false, true, false, false, false, true, false] b253) fr σ ((fun fr σ => c253_4 run fu s1 fu (fr.getD 0 .any) (fr.getD 1 .any) (fr.getD 2 .any) (fr.getD 6 .any) (fr.getD 7 .any) σ) fr σ) (blockK 2 (thenK (fun fr σ => c253_3 run fu s1 (fr.getD 0 .any) (fr.getD 1 .any) (fr.getD 2 .any) (fr.getD 6 .any) σ) (blockK 1 (thenK (fun fr σ => c253_2 run fu s1 (fr.getD 0 .any) (fr.getD 1 .any) (fr.getD 2 .any) (fr.getD 6 .any) σ) (thenK (fun fr σ => s1 (fr.getD 0 .any) (fr.getD 1 .any) (fr.getD 2 .any) (fr.getD 6 .any) σ) (blockK 0 (noGotoK k253))))))) := by
  have h := KOK.loop (X := X0) (N := 41) (b := (subC [false, true, true, false, false, true, false, false, false, true, false, false] b253)) (k := (blockK 2 (thenK (fun fr σ => c253_3 run fu s1 (fr.getD 0 .any) (fr.getD 1 .any) (fr.getD 2 .any) (fr.getD 6 .any) σ) (blockK 1 (thenK (fun fr σ => c253_2 run fu s1 (fr.getD 0 .any) (fr.getD 1 .any) (fr.getD 2 .any) (fr.getD 6 .any) σ) (thenK (fun fr σ => s1 (fr.getD 0 .any) (fr.getD 1 .any) (fr.getD 2 .any) (fr.getD 6 .any) σ) (blockK 0 (noGotoK k253)))))))) (u := fun m fr σ => c253_4 run fu s1 m (fr.getD 0 .any) (fr.getD 1 .any) (fr.getD 2 .any) (fr.getD 6 .any) (fr.getD 7 .any) σ) (fun _ _ => rfl) (fun m fr σ => KOK.piece env0 hrun [0, 1, 2, 6, 7] (eq253_4 run fu s1 (c253_4 run fu s1 m) (fr.getD 0 .any) (fr.getD 1 .any) (fr.getD 2 .any) (fr.getD 6 .any) (fr.getD 7 .any) σ) (owed253_4 hrun fu s1 (c253_4 run fu s1 m)))
  exact fun fr σ => h fu fr σ

noncomputable def c253_1b (run : FuncId → List AV → Store → Tr R) (fu : Nat) (s1 : AV → AV → AV → AV → Store → Tr R) (x0 x1 x2 x6 : AV) (σ : Store) : Tr R :=
  lenSK x2 fun x10 =>
  cmpK .lss x6 x10 fun x11 =>
  ifK x11 (
  c253_4 run fu s1 fu x0 x1 x2 x6 (.int .i64 0) σ) (
  .ret (.tup [], σ))

noncomputable def c253_1 (run : FuncId → List AV → Store → Tr R) (fu : Nat) : Nat → AV → AV → AV → AV → Store → Tr R
  | 0 => fun _ _ _ _ _ => .fail
  | m + 1 => c253_1b run fu (c253_1 run fu m)

theorem eq253_1 (run : FuncId → List AV → Store → Tr R) (fu : Nat) (s1 : AV → AV → AV → AV → Store → Tr R) (x0 x1 x2 x6 : AV) (σ : Store) : codeK X0 run (.seq (.seq .leaf (.cond .leaf .leaf)) (.seq (.block (.seq (.seq .leaf (.block (.sub (fun fr σ => c253_4 run fu s1 fu (fr.getD 0 .any) (fr.getD 1 .any) (fr.getD 2 .any) (fr.getD 6 .any) (fr.getD 7 .any) σ)))) (.sub (fun fr σ => c253_3 run fu s1 (fr.getD 0 .any) (fr.getD 1 .any) (fr.getD 2 .any) (fr.getD 6 .any) σ)))) (.sub (fun fr σ => c253_2 run fu s1 (fr.getD 0 .any) (fr.getD 1 .any) (fr.getD 2 .any) (fr.getD 6 .any) σ)))) (subC [false, true, true, false, false] b253) (frS 0 41 [(0, x0), (1, x1), (2, x2), (6, x6)]) σ (thenK (fun fr σ => s1 (fr.getD 0 .any) (fr.getD 1 .any) (fr.getD 2 .any) (fr.getD 6 .any) σ) (blockK 0 (noGotoK k253))) = c253_1b run fu s1 x0 x1 x2 x6 σ := by kernel_rfl

theorem owed253_1 {run : FuncId → List AV → Store → Tr R} (hrun : RunOK X0 run) (fu : Nat) (s1 : AV → AV → AV → AV → Store → Tr R) : Owes X0 run 41 (.seq (.seq .leaf (.cond .leaf .leaf)) (.seq (.block (.seq (.seq .leaf (.block (.sub (fun fr σ => c253_4 run fu s1 fu (fr.getD 0 .any) (fr.getD 1 .any) (fr.getD 2 .any) (fr.getD 6 .any) (fr.getD 7 .any) σ)))) (.sub (fun fr σ => c253_3 run fu s1 (fr.getD 0 .any) (fr.getD 1 .any) (fr.getD 2 .any) (fr.getD 6 .any) σ)))) (.sub (fun fr σ => c253_2 run fu s1 (fr.getD 0 .any) (fr.getD 1 .any) (fr.getD 2 .any) (fr.getD 6 .any) σ)))) (subC [false, true, true, false, false] b253) (thenK (fun fr σ => s1 (fr.getD 0 .any) (fr.getD 1 .any) (fr.getD 2 .any) (fr.getD 6 .any) σ) (blockK 0 (noGotoK k253))) :=
  ⟨⟨trivial, ⟨trivial, trivial⟩⟩, ⟨⟨⟨trivial, (ok253_4 hrun fu s1)⟩, (ok253_3 hrun fu s1)⟩, (ok253_2 hrun fu s1)⟩⟩

theorem ok253_1 {run : FuncId → List AV → Store → Tr R} (hrun : RunOK X0 run) (fu : Nat) : ∀ fr σ, KOK X0 41 (subC [false, true, true, false] b253) fr σ ((fun fr σ => c253_1 run fu fu (fr.getD 0 .any) (fr.getD 1 .any) (fr.getD 2 .any) (fr.getD 6 .any) σ) fr σ) (blockK 0 (noGotoK k253)) := by
  have h := KOK.loop (X := X0) (N := 41) (b := (subC [false, true, true, false, false] b253)) (k := (blockK 0 (noGotoK k253))) (u := fun m fr σ => c253_1 run fu m (fr.getD 0 .any) (fr.getD 1 .any) (fr.getD 2 .any) (fr.getD 6 .any) σ) (fun _ _ => rfl) (fun m fr σ => KOK.piece env0 hrun [0, 1, 2, 6] (eq253_1 run fu (c253_1 run fu m) (fr.getD 0 .any) (fr.getD 1 .any) (fr.getD 2 .any) (fr.getD 6 .any) σ) (owed253_1 hrun fu (c253_1 run fu m)))
  exact fun fr σ => h fu fr σ

noncomputable def c253 (run : FuncId → List AV → Store → Tr R) (fu : Nat) (x0 x1 x2 : AV) (σ : Store) : Tr R :=
  c253_1 run fu fu x0 x1 x2 (.int .i64 0) σ

theorem eq253 (run : FuncId → List AV → Store → Tr R) (fu : Nat) (x0 x1 x2 : AV) (σ : Store) : codeK X0 run (.scope (.seq .leaf (.seq .leaf (.block (.sub (fun fr σ => c253_1 run fu fu (fr.getD 0 .any) (fr.getD 1 .any) (fr.getD 2 .any) (fr.getD 6 .any) σ)))))) (subC [] b253) ([x0, x1, x2] ++ padA (41 - 3)) σ k253 = c253 run fu x0 x1 x2 σ := by kernel_rfl

theorem ok253 {run : FuncId → List AV → Store → Tr R} (hrun : RunOK X0 run) (fu : Nat) (x0 x1 x2 : AV) (σ : Store) : CallOK X0 253 [x0, x1, x2] σ (c253 run fu x0 x1 x2 σ) :=
  KOK.body (fn := Tryz.f253) (c := subC [] b253) (by kernel_rfl) (by kernel_rfl) (by show 3 ≤ 41; decide) (KOK.whole env0 hrun (eq253 run fu x0 x1 x2 σ) ⟨trivial, ⟨trivial, (ok253_1 hrun fu)⟩⟩)

end Go.Proofs.YtfmgdjkcdmjloaaGreatDoor
