/- Functions of the program, told as Lean functions of abstract values and stores, each with its proof. -/
import Derived.Test.YtfmgdjkcdmjloaaGreatDoorSxX
import Derived.Test.YtfmgdjkcdmjloaaGreatDoorSxWc
set_option linter.unusedVariables false
set_option linter.unusedSimpArgs false
namespace Go.Proofs.YtfmgdjkcdmjloaaGreatDoor
open Go.AM
-- pub-paratext/pub/rscmarkdown.mergePlain1

noncomputable def b118 : Code := match Tryz.f118.body with | some c => c | none => .skip

noncomputable def k118 : Kont R := retK Tryz.prog [.tmp 2]

noncomputable def c118_1 (run : FuncId → List AV → Store → Tr R) (fu : Nat) (x3 : AV) (σ : Store) : Tr R :=
  calK run 164 [x3, (.str [])] σ fun x29 σ1 =>
  bldK [(.str [])] [(0, 1, x29)] fun x30 =>
  boxK σ1 263 x30 fun x31 σ2 =>
  .ret (x31, σ2)

theorem eq118_1 (run : FuncId → List AV → Store → Tr R) (fu : Nat) (x3 : AV) (σ : Store) : codeK X0 run (.seq .leaf .leaf) (subC [true, true, true, true] b118) (frS 0 32 [(3, x3)]) σ k118 = c118_1 run fu x3 σ := by kernel_rfl

theorem ok118_1 {run : FuncId → List AV → Store → Tr R} (hrun : RunOK X0 run) (fu : Nat) : ∀ fr σ, KOK X0 32 (subC [true, true, true, true] b118) fr σ ((fun fr σ => c118_1 run fu (fr.getD 3 .any) σ) fr σ) k118 := fun fr σ =>
  KOK.piece env0 hrun [3] (eq118_1 run fu (fr.getD 3 .any) σ) ⟨trivial, trivial⟩

noncomputable def c118_2b (run : FuncId → List AV → Store → Tr R) (fu : Nat) (s2 : AV → AV → AV → AV → Store → Tr R) (x3 x13 x14 x15 : AV) (σ : Store) : Tr R :=
  cmpK .lss x15 x14 fun x16 =>
  ifK x16 (
  idxK 1 x13 x15 fun x17 =>
  ld1K σ x17 fun x18 =>
  calK run 117 [x18] σ fun x21 σ1 =>
  nchkK x21 fun x22 =>
  addrK x22 0 fun x23 =>
  ld1K σ1 x23 fun x24 =>
  opt (fillK [(.str [])] [(0, 1, x24)]) fun cs => newSK σ1 19 cs 1 1 fun x25 σ2 =>
  appK 9 1 16 σ2 x3 x25 fun x26 σ3 =>
  addK x15 (.int .i64 1) fun x27 =>
  s2 x26 x13 x14 x27 σ3) (
  c118_1 run fu x3 σ)

noncomputable def c118_2 (run : FuncId → List AV → Store → Tr R) (fu : Nat) : Nat → AV → AV → AV → AV → Store → Tr R
  | 0 => fun _ _ _ _ _ => .fail
  | m + 1 => c118_2b run fu (c118_2 run fu m)

theorem eq118_2 (run : FuncId → List AV → Store → Tr R) (fu : Nat) (s2 : AV → AV → AV → AV → Store → Tr R) (x3 x13 x14 x15 : AV) (σ : Store) : codeK X0 run (.seq .leaf (.seq (.cond .leaf .leaf) (.seq (.block (.seq .leaf .leaf)) .leaf))) (subC [true, true, true, false, true, false, false] b118) (frS 0 32 [(3, x3), (13, x13), (14, x14), (15, x15)]) σ (thenK (fun fr σ => s2 (fr.getD 3 .any) (fr.getD 13 .any) (fr.getD 14 .any) (fr.getD 15 .any) σ) (blockK 0 (thenK (fun fr σ => c118_1 run fu (fr.getD 3 .any) σ) k118))) = c118_2b run fu s2 x3 x13 x14 x15 σ := by kernel_rfl

theorem owed118_2 {run : FuncId → List AV → Store → Tr R} (hrun : RunOK X0 run) (fu : Nat) (s2 : AV → AV → AV → AV → Store → Tr R) : Owes X0 run 32 (.seq .leaf (.seq (.cond .leaf .leaf) (.seq (.block (.seq .leaf .leaf)) .leaf))) (subC [true, true, true, false, true, false, false] b118) (thenK (fun fr σ => s2 (fr.getD 3 .any) (fr.getD 13 .any) (fr.getD 14 .any) (fr.getD 15 .any) σ) (blockK 0 (thenK (fun fr σ => c118_1 run fu (fr.getD 3 .any) σ) k118))) :=
  ⟨trivial, ⟨⟨trivial, trivial⟩, ⟨⟨trivial, trivial⟩, trivial⟩⟩⟩

theorem ok118_2 {run : FuncId → List AV → Store → Tr R} (hrun : RunOK X0 run) (fu : Nat) : ∀ fr σ, KOK X0 32 (subC [true, true, true, false, true, false] b118) fr σ ((fun fr σ => c118_2 run fu fu (fr.getD 3 .any) (fr.getD 13 .any) (fr.getD 14 .any) (fr.getD 15 .any) σ) fr σ) (blockK 0 (thenK (fun fr σ => c118_1 run fu (fr.getD 3 .any) σ) k118)) := by
  have h := KOK.loop (X := X0) (N := 32) (b := (subC [true, true, true, false, true, false, false] b118)) (k := (blockK 0 (thenK (fun fr σ => c118_1 run fu (fr.getD 3 .any) σ) k118))) (u := fun m fr σ => c118_2 run fu m (fr.getD 3 .any) (fr.getD 13 .any) (fr.getD 14 .any) (fr.getD 15 .any) σ) (fun _ _ => rfl) (fun m fr σ => KOK.piece env0 hrun [3, 13, 14, 15] (eq118_2 run fu (c118_2 run fu m) (fr.getD 3 .any) (fr.getD 13 .any) (fr.getD 14 .any) (fr.getD 15 .any) σ) (owed118_2 hrun fu (c118_2 run fu m)))
  exact fun fr σ => h fu fr σ

noncomputable def c118 (run : FuncId → List AV → Store → Tr R) (fu : Nat) (x0 : AV) (σ : Store) : Tr R :=
  lenLK x0 fun x7 =>
  cmpK .eql x7 (.int .i64 1) fun x8 =>
  ifK x8 (
  idxK 1 x0 (.int .i64 0) fun x10 =>
  ld1K σ x10 fun x11 =>
  calK run 117 [x11] σ fun x12 σ1 =>
  .ret (x12, σ1)) (
  lenLK x0 fun x14 =>
  c118_2 run fu fu .nils x0 x14 (.int .i64 0) σ)

theorem eq118 (run : FuncId → List AV → Store → Tr R) (fu : Nat) (x0 : AV) (σ : Store) : codeK X0 run (.seq .leaf (.seq (.seq .leaf (.cond (.seq .leaf .leaf) .leaf)) (.seq .leaf (.seq (.seq .leaf (.block (.sub (fun fr σ => c118_2 run fu fu (fr.getD 3 .any) (fr.getD 13 .any) (fr.getD 14 .any) (fr.getD 15 .any) σ)))) (.sub (fun fr σ => c118_1 run fu (fr.getD 3 .any) σ)))))) (subC [] b118) ([x0] ++ padA (32 - 1)) σ k118 = c118 run fu x0 σ := by kernel_rfl

theorem ok118 {run : FuncId → List AV → Store → Tr R} (hrun : RunOK X0 run) (fu : Nat) (x0 : AV) (σ : Store) : CallOK X0 118 [x0] σ (c118 run fu x0 σ) :=
  KOK.body (fn := Tryz.f118) (c := subC [] b118) (by kernel_rfl) (by kernel_rfl) (by show 1 ≤ 32; decide) (KOK.whole env0 hrun (eq118 run fu x0 σ) ⟨trivial, ⟨⟨trivial, ⟨⟨trivial, trivial⟩, trivial⟩⟩, ⟨trivial, ⟨⟨trivial, (ok118_2 hrun fu)⟩, (ok118_1 hrun fu)⟩⟩⟩⟩)

-- pub-paratext/pub/rscmarkdown.trimQuote

noncomputable def b120 : Code := match Tryz.f120.body with | some c => c | none => .skip

noncomputable def k120 : Kont R := retK Tryz.prog [.cell 2 100, .tmp 3]

noncomputable def c120 (run : FuncId → List AV → Store → Tr R) (fu : Nat) (x0 : AV) (σ : Store) : Tr R :=
  boxK σ 201 x0 fun x1 σ1 =>
  newK σ1 201 [(.int .i64 0), (.int .i64 0), (.int .i64 0), (.str []), (.int .u8 0)] fun x2 σ2 =>
  ldNK σ2 x1 5 fun x5 =>
  newK σ2 201 [(.int .i64 0), (.int .i64 0), (.int .i64 0), (.str []), (.int .u8 0)] fun x4 σ3 =>
  stNK σ3 x4 5 x5 fun _ σ4 =>
  calK run 139 [x4, (.int .i64 0), (.int .i64 3), (.bool false)] σ4 fun x6 σ5 =>
  calK run 168 [x4, (.int .u8 62)] σ5 fun x7 σ6 =>
  notK x7 fun x8 =>
  ifK x8 (
  ldNK σ6 x1 5 fun x9 =>
  stNK σ6 x2 5 x9 fun _ σ7 =>
  ldNK σ7 x2 5 fun v8 =>
  .ret (.tup [v8, (.bool false)], σ7)) (
  calK run 139 [x4, (.int .i64 0), (.int .i64 1), (.bool true)] σ6 fun x10 σ9 =>
  ldNK σ9 x4 5 fun x11 =>
  stNK σ9 x2 5 x11 fun _ σ10 =>
  ldNK σ10 x2 5 fun v11 =>
  .ret (.tup [v11, (.bool true)], σ10))

theorem eq120 (run : FuncId → List AV → Store → Tr R) (fu : Nat) (x0 : AV) (σ : Store) : codeK X0 run (.seq .leaf (.seq .leaf (.seq .leaf (.seq (.seq .leaf (.cond (.seq .leaf .leaf) .leaf)) (.seq .leaf (.seq .leaf .leaf)))))) (subC [] b120) ([x0] ++ padA (12 - 1)) σ k120 = c120 run fu x0 σ := by kernel_rfl

theorem ok120 {run : FuncId → List AV → Store → Tr R} (hrun : RunOK X0 run) (fu : Nat) (x0 : AV) (σ : Store) : CallOK X0 120 [x0] σ (c120 run fu x0 σ) :=
  KOK.body (fn := Tryz.f120) (c := subC [] b120) (by kernel_rfl) (by kernel_rfl) (by show 1 ≤ 12; decide) (KOK.whole env0 hrun (eq120 run fu x0 σ) ⟨trivial, ⟨trivial, ⟨trivial, ⟨⟨trivial, ⟨⟨trivial, trivial⟩, trivial⟩⟩, ⟨trivial, ⟨trivial, trivial⟩⟩⟩⟩⟩⟩)

-- (*pub-paratext/pub/rscmarkdown.line).trimHeading

noncomputable def b121 : Code := match Tryz.f121.body with | some c => c | none => .skip

noncomputable def k121 : Kont R := retK Tryz.prog [.tmp 4]

noncomputable def c121_1 (run : FuncId → List AV → Store → Tr R) (fu : Nat) (x0 x1 x5 x6 : AV) (σ : Store) : Tr R :=
  calK run 139 [x5, (.int .i64 1), (.int .i64 1), (.bool true)] σ fun x20 σ1 =>
  notK x20 fun x21 =>
  ifK x21 (
  .ret ((.bool false), σ1)) (
  nchkK x1 fun x24 =>
  st1K σ1 x24 x6 fun _ σ2 =>
  ldNK σ2 x5 5 fun x26 =>
  nchkK x0 fun x27 =>
  stNK σ2 x27 5 x26 fun _ σ3 =>
  .ret ((.bool true), σ3))

theorem eq121_1 (run : FuncId → List AV → Store → Tr R) (fu : Nat) (x0 x1 x5 x6 : AV) (σ : Store) : codeK X0 run (.seq (.seq .leaf (.cond (.seq .leaf .leaf) .leaf)) (.seq .leaf (.seq .leaf (.seq .leaf .leaf)))) (subC [true, true, true, true, true, true] b121) (frS 0 28 [(0, x0), (1, x1), (5, x5), (6, x6)]) σ k121 = c121_1 run fu x0 x1 x5 x6 σ := by kernel_rfl

theorem ok121_1 {run : FuncId → List AV → Store → Tr R} (hrun : RunOK X0 run) (fu : Nat) : ∀ fr σ, KOK X0 28 (subC [true, true, true, true, true, true] b121) fr σ ((fun fr σ => c121_1 run fu (fr.getD 0 .any) (fr.getD 1 .any) (fr.getD 5 .any) (fr.getD 6 .any) σ) fr σ) k121 := fun fr σ =>
  KOK.piece env0 hrun [0, 1, 5, 6] (eq121_1 run fu (fr.getD 0 .any) (fr.getD 1 .any) (fr.getD 5 .any) (fr.getD 6 .any) σ) ⟨⟨trivial, ⟨⟨trivial, trivial⟩, trivial⟩⟩, ⟨trivial, ⟨trivial, ⟨trivial, trivial⟩⟩⟩⟩

noncomputable def c121_2b (run : FuncId → List AV → Store → Tr R) (fu : Nat) (s2 : AV → AV → AV → AV → Store → Tr R) (x0 x1 x5 x6 : AV) (σ : Store) : Tr R :=
  cmpK .lss x6 (.int .i64 6) fun x14 =>
  grdK x14 true σ (fun f => calK run 168 [x5, (.int .u8 35)] σ f) fun x16 σ1 =>
  pickK x14 x16 (.bool false) fun x17 =>
  ifK x17 (
  addK x6 (.int .i64 1) fun x19 =>
  s2 x0 x1 x5 x19 σ1) (
  c121_1 run fu x0 x1 x5 x6 σ1)

noncomputable def c121_2 (run : FuncId → List AV → Store → Tr R) (fu : Nat) : Nat → AV → AV → AV → AV → Store → Tr R
  | 0 => fun _ _ _ _ _ => .fail
  | m + 1 => c121_2b run fu (c121_2 run fu m)

theorem eq121_2 (run : FuncId → List AV → Store → Tr R) (fu : Nat) (s2 : AV → AV → AV → AV → Store → Tr R) (x0 x1 x5 x6 : AV) (σ : Store) : codeK X0 run (.seq (.seq .leaf (.cond .leaf .leaf)) (.block .leaf)) (subC [true, true, true, true, true, false, false, false] b121) (frS 0 28 [(0, x0), (1, x1), (5, x5), (6, x6)]) σ (thenK (fun fr σ => s2 (fr.getD 0 .any) (fr.getD 1 .any) (fr.getD 5 .any) (fr.getD 6 .any) σ) (blockK 0 (thenK (fun fr σ => c121_1 run fu (fr.getD 0 .any) (fr.getD 1 .any) (fr.getD 5 .any) (fr.getD 6 .any) σ) k121))) = c121_2b run fu s2 x0 x1 x5 x6 σ := by kernel_rfl

theorem owed121_2 {run : FuncId → List AV → Store → Tr R} (hrun : RunOK X0 run) (fu : Nat) (s2 : AV → AV → AV → AV → Store → Tr R) : Owes X0 run 28 (.seq (.seq .leaf (.cond .leaf .leaf)) (.block .leaf)) (subC [true, true, true, true, true, false, false, false] b121) (thenK (fun fr σ => s2 (fr.getD 0 .any) (fr.getD 1 .any) (fr.getD 5 .any) (fr.getD 6 .any) σ) (blockK 0 (thenK (fun fr σ => c121_1 run fu (fr.getD 0 .any) (fr.getD 1 .any) (fr.getD 5 .any) (fr.getD 6 .any) σ) k121))) :=
  ⟨⟨trivial, ⟨trivial, trivial⟩⟩, trivial⟩

theorem ok121_2 {run : FuncId → List AV → Store → Tr R} (hrun : RunOK X0 run) (fu : Nat) : ∀ fr σ, KOK X0 28 (subC [true, true, true, true, true, false, false] b121) fr σ ((fun fr σ => c121_2 run fu fu (fr.getD 0 .any) (fr.getD 1 .any) (fr.getD 5 .any) (fr.getD 6 .any) σ) fr σ) (blockK 0 (thenK (fun fr σ => c121_1 run fu (fr.getD 0 .any) (fr.getD 1 .any) (fr.getD 5 .any) (fr.getD 6 .any) σ) k121)) := by
  have h := KOK.loop (X := X0) (N := 28) (b := (subC [true, true, true, true, true, false, false, false] b121)) (k := (blockK 0 (thenK (fun fr σ => c121_1 run fu (fr.getD 0 .any) (fr.getD 1 .any) (fr.getD 5 .any) (fr.getD 6 .any) σ) k121))) (u := fun m fr σ => c121_2 run fu m (fr.getD 0 .any) (fr.getD 1 .any) (fr.getD 5 .any) (fr.getD 6 .any) σ) (fun _ _ => rfl) (fun m fr σ => KOK.piece env0 hrun [0, 1, 5, 6] (eq121_2 run fu (c121_2 run fu m) (fr.getD 0 .any) (fr.getD 1 .any) (fr.getD 5 .any) (fr.getD 6 .any) σ) (owed121_2 hrun fu (c121_2 run fu m)))
  exact fun fr σ => h fu fr σ

noncomputable def c121 (run : FuncId → List AV → Store → Tr R) (fu : Nat) (x0 x1 : AV) (σ : Store) : Tr R :=
  nchkK x0 fun x8 =>
  ldNK σ x8 5 fun x9 =>
  newK σ 201 [(.int .i64 0), (.int .i64 0), (.int .i64 0), (.str []), (.int .u8 0)] fun x5 σ1 =>
  stNK σ1 x5 5 x9 fun _ σ2 =>
  calK run 139 [x5, (.int .i64 0), (.int .i64 3), (.bool false)] σ2 fun x10 σ3 =>
  calK run 168 [x5, (.int .u8 35)] σ3 fun x11 σ4 =>
  notK x11 fun x12 =>
  ifK x12 (
  .ret ((.bool false), σ4)) (
  c121_2 run fu fu x0 x1 x5 (.int .i64 1) σ4)

theorem eq121 (run : FuncId → List AV → Store → Tr R) (fu : Nat) (x0 x1 : AV) (σ : Store) : codeK X0 run (.seq .leaf (.seq .leaf (.seq .leaf (.seq (.seq .leaf (.cond (.seq .leaf .leaf) .leaf)) (.seq .leaf (.seq (.block (.sub (fun fr σ => c121_2 run fu fu (fr.getD 0 .any) (fr.getD 1 .any) (fr.getD 5 .any) (fr.getD 6 .any) σ))) (.sub (fun fr σ => c121_1 run fu (fr.getD 0 .any) (fr.getD 1 .any) (fr.getD 5 .any) (fr.getD 6 .any) σ)))))))) (subC [] b121) ([x0, x1] ++ padA (28 - 2)) σ k121 = c121 run fu x0 x1 σ := by kernel_rfl

theorem ok121 {run : FuncId → List AV → Store → Tr R} (hrun : RunOK X0 run) (fu : Nat) (x0 x1 : AV) (σ : Store) : CallOK X0 121 [x0, x1] σ (c121 run fu x0 x1 σ) :=
  KOK.body (fn := Tryz.f121) (c := subC [] b121) (by kernel_rfl) (by kernel_rfl) (by show 2 ≤ 28; decide) (KOK.whole env0 hrun (eq121 run fu x0 x1 σ) ⟨trivial, ⟨trivial, ⟨trivial, ⟨⟨trivial, ⟨⟨trivial, trivial⟩, trivial⟩⟩, ⟨trivial, ⟨(ok121_2 hrun fu), (ok121_1 hrun fu)⟩⟩⟩⟩⟩⟩)

-- (*pub-paratext/pub/rscmarkdown.line).string

noncomputable def b122 : Code := match Tryz.f122.body with | some c => c | none => .skip

noncomputable def k122 : Kont R := retK Tryz.prog [.tmp 2]

noncomputable def c122 (run : FuncId → List AV → Store → Tr R) (fu : Nat) (x0 : AV) (σ : Store) : Tr R :=
  nchkK x0 fun x4 =>
  addrK x4 0 fun x5 =>
  ld1K σ x5 fun x6 =>
  cmpK .eql x6 (.int .i64 0) fun x8 =>
  ifK x8 (
  nchkK x0 fun x10 =>
  addrK x10 3 fun x11 =>
  ld1K σ x11 fun x12 =>
  nchkK x0 fun x14 =>
  addrK x14 1 fun x15 =>
  ld1K σ x15 fun x16 =>
  sliceSK x12 (some x16) none fun x17 =>
  .ret (x17, σ)) (
  cmpK .eql x6 (.int .i64 1) fun x19 =>
  ifK x19 (
  nchkK x0 fun x21 =>
  addrK x21 3 fun x22 =>
  ld1K σ x22 fun x23 =>
  nchkK x0 fun x25 =>
  addrK x25 1 fun x26 =>
  ld1K σ x26 fun x27 =>
  sliceSK x23 (some x27) none fun x28 =>
  catK (.str [32]) x28 fun x29 =>
  .ret (x29, σ)) (
  cmpK .eql x6 (.int .i64 2) fun x31 =>
  ifK x31 (
  nchkK x0 fun x33 =>
  addrK x33 3 fun x34 =>
  ld1K σ x34 fun x35 =>
  nchkK x0 fun x37 =>
  addrK x37 1 fun x38 =>
  ld1K σ x38 fun x39 =>
  sliceSK x35 (some x39) none fun x40 =>
  catK (.str [32, 32]) x40 fun x41 =>
  .ret (x41, σ)) (
  cmpK .eql x6 (.int .i64 3) fun x43 =>
  ifK x43 (
  nchkK x0 fun x45 =>
  addrK x45 3 fun x46 =>
  ld1K σ x46 fun x47 =>
  nchkK x0 fun x49 =>
  addrK x49 1 fun x50 =>
  ld1K σ x50 fun x51 =>
  sliceSK x47 (some x51) none fun x52 =>
  catK (.str [32, 32, 32]) x52 fun x53 =>
  .ret (x53, σ)) (
  .fail))))

theorem eq122 (run : FuncId → List AV → Store → Tr R) (fu : Nat) (x0 : AV) (σ : Store) : codeK X0 run (.seq .leaf (.seq (.seq .leaf (.block (.seq .leaf (.cond (.seq .leaf .leaf) (.seq .leaf (.cond (.seq .leaf .leaf) (.seq .leaf (.cond (.seq .leaf .leaf) (.seq .leaf (.cond (.seq .leaf .leaf) .leaf)))))))))) .leaf)) (subC [] b122) ([x0] ++ padA (55 - 1)) σ k122 = c122 run fu x0 σ := by kernel_rfl

theorem ok122 {run : FuncId → List AV → Store → Tr R} (hrun : RunOK X0 run) (fu : Nat) (x0 : AV) (σ : Store) : CallOK X0 122 [x0] σ (c122 run fu x0 σ) :=
  KOK.body (fn := Tryz.f122) (c := subC [] b122) (by kernel_rfl) (by kernel_rfl) (by show 1 ≤ 55; decide) (KOK.whole env0 hrun (eq122 run fu x0 σ) ⟨trivial, ⟨⟨trivial, ⟨trivial, ⟨⟨trivial, trivial⟩, ⟨trivial, ⟨⟨trivial, trivial⟩, ⟨trivial, ⟨⟨trivial, trivial⟩, ⟨trivial, ⟨⟨trivial, trivial⟩, trivial⟩⟩⟩⟩⟩⟩⟩⟩⟩, trivial⟩⟩)

-- pub-paratext/pub/rscmarkdown.extractID

noncomputable def b125 : Code := match Tryz.f125.body with | some c => c | none => .skip

noncomputable def k125 : Kont R := retK Tryz.prog [.tmp 4, .tmp 5]

noncomputable def c125 (run : FuncId → List AV → Store → Tr R) (fu : Nat) (x0 x1 : AV) (σ : Store) : Tr R :=
  calK run 169 [x1, (.int .u8 123)] σ fun x9 σ1 =>
  cmpK .lss x9 (.int .i64 0) fun x11 =>
  ifK x11 (
  .ret (.tup [(.str []), x1], σ1)) (
  addK x9 (.int .i64 1) fun x14 =>
  lenSK x1 fun x16 =>
  cmpK .geq x14 x16 fun x17 =>
  grdK x17 false σ1 (fun f => f x1 σ1) fun x19 σ2 =>
  grdK x17 false σ2 (fun f => f x9 σ2) fun x20 σ3 =>
  grdK x17 false σ3 (fun f => addK x20 (.int .i64 1) fun v => f v σ3) fun x21 σ4 =>
  grdK x17 false σ4 (fun f => idxSK x19 x21 fun v => f v σ4) fun x22 σ5 =>
  grdK x17 false σ5 (fun f => cmpK .neq x22 (.int .u8 35) fun v => f v σ5) fun x23 σ6 =>
  pickK x17 (.bool true) x23 fun x24 =>
  ifK x24 (
  nchkK x0 fun x26 =>
  addrK x26 6 fun x27 =>
  st1K σ6 x27 (.bool true) fun _ σ7 =>
  .ret (.tup [(.str []), x1], σ7)) (
  sliceSK x1 (some x9) none fun x32 =>
  calK run 24 [x32, (.int .u8 125)] σ6 fun x33 σ8 =>
  addK x9 x33 fun x34 =>
  cmpK .lss x34 (.int .i64 0) fun x36 =>
  grdK x36 false σ8 (fun f => f x1 σ8) fun x38 σ9 =>
  grdK x36 false σ9 (fun f => f x34 σ9) fun x39 σ10 =>
  grdK x36 false σ10 (fun f => addK x39 (.int .i64 1) fun v => f v σ10) fun x40 σ11 =>
  grdK x36 false σ11 (fun f => sliceSK x38 (some x40) none fun v => f v σ11) fun x41 σ12 =>
  grdK x36 false σ12 (fun f => calK run 123 [x41] σ12 f) fun x42 σ13 =>
  grdK x36 false σ13 (fun f => neSK x42 (.str []) fun v => f v σ13) fun x43 σ14 =>
  pickK x36 (.bool true) x43 fun x44 =>
  ifK x44 (
  .ret (.tup [(.str []), x1], σ14)) (
  addK x9 (.int .i64 2) fun x48 =>
  sliceSK x1 (some x48) (some x34) fun x50 =>
  calK run 142 [x50] σ14 fun x51 σ15 =>
  eqSK x51 (.str []) fun x53 =>
  ifK x53 (
  nchkK x0 fun x55 =>
  addrK x55 6 fun x56 =>
  st1K σ15 x56 (.bool true) fun _ σ16 =>
  .ret (.tup [(.str []), x1], σ16)) (
  addK x9 (.int .i64 2) fun x60 =>
  sliceSK x1 (some x60) (some x34) fun x62 =>
  sliceSK x1 none (some x9) fun x65 =>
  .ret (.tup [x62, x65], σ15)))))

theorem eq125 (run : FuncId → List AV → Store → Tr R) (fu : Nat) (x0 x1 : AV) (σ : Store) : codeK X0 run (.seq .leaf (.seq .leaf (.seq (.seq .leaf (.cond (.seq .leaf .leaf) .leaf)) (.seq (.seq .leaf (.cond (.seq .leaf (.seq .leaf .leaf)) .leaf)) (.seq .leaf (.seq (.seq .leaf (.cond (.seq .leaf .leaf) .leaf)) (.seq .leaf (.seq (.seq .leaf (.cond (.seq .leaf (.seq .leaf .leaf)) .leaf)) (.seq .leaf .leaf))))))))) (subC [] b125) ([x0, x1] ++ padA (66 - 2)) σ k125 = c125 run fu x0 x1 σ := by kernel_rfl

theorem ok125 {run : FuncId → List AV → Store → Tr R} (hrun : RunOK X0 run) (fu : Nat) (x0 x1 : AV) (σ : Store) : CallOK X0 125 [x0, x1] σ (c125 run fu x0 x1 σ) :=
  KOK.body (fn := Tryz.f125) (c := subC [] b125) (by kernel_rfl) (by kernel_rfl) (by show 2 ≤ 66; decide) (KOK.whole env0 hrun (eq125 run fu x0 x1 σ) ⟨trivial, ⟨trivial, ⟨⟨trivial, ⟨⟨trivial, trivial⟩, trivial⟩⟩, ⟨⟨trivial, ⟨⟨trivial, ⟨trivial, trivial⟩⟩, trivial⟩⟩, ⟨trivial, ⟨⟨trivial, ⟨⟨trivial, trivial⟩, trivial⟩⟩, ⟨trivial, ⟨⟨trivial, ⟨⟨trivial, ⟨trivial, trivial⟩⟩, trivial⟩⟩, ⟨trivial, trivial⟩⟩⟩⟩⟩⟩⟩⟩⟩)

-- pub-paratext/pub/rscmarkdown.isLetterDigit

noncomputable def b126 : Code := match Tryz.f126.body with | some c => c | none => .skip

noncomputable def k126 : Kont R := retK Tryz.prog [.tmp 2]

noncomputable def c126 (run : FuncId → List AV → Store → Tr R) (fu : Nat) (x0 : AV) (σ : Store) : Tr R :=
  cmpK .leq (.int .u8 65) x0 fun x4 =>
  grdK x4 true σ (fun f => f x0 σ) fun x6 σ1 =>
  grdK x4 true σ1 (fun f => cmpK .leq x6 (.int .u8 90) fun v => f v σ1) fun x7 σ2 =>
  pickK x4 x7 (.bool false) fun x8 =>
  grdK x8 false σ2 (fun f => f x0 σ2) fun x10 σ3 =>
  grdK x8 false σ3 (fun f => cmpK .leq (.int .u8 97) x10 fun v => f v σ3) fun x11 σ4 =>
  grdK x8 false σ4 (fun f => f x11 σ4) fun x12 σ5 =>
  grdK x12 true σ5 (fun f => f x0 σ5) fun x13 σ6 =>
  grdK x12 true σ6 (fun f => cmpK .leq x13 (.int .u8 122) fun v => f v σ6) fun x14 σ7 =>
  grdK x8 false σ7 (fun f => pickK x12 x14 (.bool false) fun v => f v σ7) fun x15 σ8 =>
  pickK x8 (.bool true) x15 fun x16 =>
  grdK x16 false σ8 (fun f => f x0 σ8) fun x18 σ9 =>
  grdK x16 false σ9 (fun f => cmpK .leq (.int .u8 48) x18 fun v => f v σ9) fun x19 σ10 =>
  grdK x16 false σ10 (fun f => f x19 σ10) fun x20 σ11 =>
  grdK x20 true σ11 (fun f => f x0 σ11) fun x21 σ12 =>
  grdK x20 true σ12 (fun f => cmpK .leq x21 (.int .u8 57) fun v => f v σ12) fun x22 σ13 =>
  grdK x16 false σ13 (fun f => pickK x20 x22 (.bool false) fun v => f v σ13) fun x23 σ14 =>
  pickK x16 (.bool true) x23 fun x24 =>
  .ret (x24, σ14)

theorem eq126 (run : FuncId → List AV → Store → Tr R) (fu : Nat) (x0 : AV) (σ : Store) : codeK X0 run (.seq .leaf (.seq .leaf .leaf)) (subC [] b126) ([x0] ++ padA (25 - 1)) σ k126 = c126 run fu x0 σ := by kernel_rfl

theorem ok126 {run : FuncId → List AV → Store → Tr R} (hrun : RunOK X0 run) (fu : Nat) (x0 : AV) (σ : Store) : CallOK X0 126 [x0] σ (c126 run fu x0 σ) :=
  KOK.body (fn := Tryz.f126) (c := subC [] b126) (by kernel_rfl) (by kernel_rfl) (by show 1 ≤ 25; decide) (KOK.whole env0 hrun (eq126 run fu x0 σ) ⟨trivial, ⟨trivial, trivial⟩⟩)

-- (*pub-paratext/pub/rscmarkdown.parseState).doneBlock

noncomputable def b127 : Code := match Tryz.f127.body with | some c => c | none => .skip

noncomputable def k127 : Kont R := retK Tryz.prog []

noncomputable def c127 (run : FuncId → List AV → Store → Tr R) (fu : Nat) (x0 x1 : AV) (σ : Store) : Tr R :=
  nchkK x0 fun x7 =>
  addrK x7 5 fun x8 =>
  ld1K σ x8 fun x9 =>
  addK x9 (.int .i64 1) fun x10 =>
  calK run 52 [x0, x10] σ fun x11 σ1 =>
  nchkK x0 fun x13 =>
  addrK x13 4 fun x14 =>
  ld1K σ1 x14 fun x15 =>
  nchkK x0 fun x17 =>
  addrK x17 4 fun x18 =>
  ld1K σ1 x18 fun x19 =>
  lenLK x19 fun x20 =>
  subK x20 (.int .i64 1) fun x21 =>
  idxK 4 x15 x21 fun x22 =>
  nchkK x22 fun x25 =>
  addrK x25 1 fun x26 =>
  ld1K σ1 x26 fun x27 =>
  opt (fillK [.nili] [(0, 1, x1)]) fun cs => newSK σ1 127 cs 1 1 fun x29 σ2 =>
  appK 63 1 16 σ2 x27 x29 fun x30 σ3 =>
  nchkK x22 fun x31 =>
  addrK x31 1 fun x32 =>
  st1K σ3 x32 x30 fun _ σ4 =>
  .ret (.tup [], σ4)

theorem eq127 (run : FuncId → List AV → Store → Tr R) (fu : Nat) (x0 x1 : AV) (σ : Store) : codeK X0 run (.seq .leaf (.seq .leaf .leaf)) (subC [] b127) ([x0, x1] ++ padA (33 - 2)) σ k127 = c127 run fu x0 x1 σ := by kernel_rfl

theorem ok127 {run : FuncId → List AV → Store → Tr R} (hrun : RunOK X0 run) (fu : Nat) (x0 x1 : AV) (σ : Store) : CallOK X0 127 [x0, x1] σ (c127 run fu x0 x1 σ) :=
  KOK.body (fn := Tryz.f127) (c := subC [] b127) (by kernel_rfl) (by kernel_rfl) (by show 2 ≤ 33; decide) (KOK.whole env0 hrun (eq127 run fu x0 x1 σ) ⟨trivial, ⟨trivial, trivial⟩⟩)

-- (*pub-paratext/pub/rscmarkdown.parseState).newText

noncomputable def b128 : Code := match Tryz.f128.body with | some c => c | none => .skip

noncomputable def k128 : Kont R := retK Tryz.prog [.tmp 6]

noncomputable def c128 (run : FuncId → List AV → Store → Tr R) (fu : Nat) (x0 x1 x2 : AV) (σ : Store) : Tr R :=
  boxK σ 209 x1 fun x4 σ1 =>
  ldNK σ1 x4 2 fun x8 =>
  bldK [(.int .i64 0), (.int .i64 0), .nils, (.str [])] [(0, 2, x8), (3, 1, x2)] fun x10 =>
  boxK σ1 213 x10 fun x11 σ2 =>
  nchkK x0 fun x14 =>
  addrK x14 11 fun x15 =>
  ld1K σ2 x15 fun x16 =>
  opt (fillK [.nilp] [(0, 1, x11)]) fun cs => newSK σ2 203 cs 1 1 fun x18 σ3 =>
  appK 101 1 8 σ3 x16 x18 fun x19 σ4 =>
  nchkK x0 fun x20 =>
  addrK x20 11 fun x21 =>
  st1K σ4 x21 x19 fun _ σ5 =>
  .ret (x11, σ5)

theorem eq128 (run : FuncId → List AV → Store → Tr R) (fu : Nat) (x0 x1 x2 : AV) (σ : Store) : codeK X0 run (.seq .leaf (.seq .leaf (.seq .leaf (.seq .leaf .leaf)))) (subC [] b128) ([x0, x1, x2] ++ padA (23 - 3)) σ k128 = c128 run fu x0 x1 x2 σ := by kernel_rfl

theorem ok128 {run : FuncId → List AV → Store → Tr R} (hrun : RunOK X0 run) (fu : Nat) (x0 x1 x2 : AV) (σ : Store) : CallOK X0 128 [x0, x1, x2] σ (c128 run fu x0 x1 x2 σ) :=
  KOK.body (fn := Tryz.f128) (c := subC [] b128) (by kernel_rfl) (by kernel_rfl) (by show 3 ≤ 23; decide) (KOK.whole env0 hrun (eq128 run fu x0 x1 x2 σ) ⟨trivial, ⟨trivial, ⟨trivial, ⟨trivial, trivial⟩⟩⟩⟩)

-- (*pub-paratext/pub/rscmarkdown.line).trimSpace

noncomputable def b139 : Code := match Tryz.f139.body with | some c => c | none => .skip

noncomputable def k139 : Kont R := retK Tryz.prog [.tmp 8]

noncomputable def c139_1 (run : FuncId → List AV → Store → Tr R) (fu : Nat) (x0 x9 : AV) (σ : Store) : Tr R :=
  ldNK σ x9 5 fun x74 =>
  nchkK x0 fun x75 =>
  stNK σ x75 5 x74 fun _ σ1 =>
  .ret ((.bool true), σ1)

theorem eq139_1 (run : FuncId → List AV → Store → Tr R) (fu : Nat) (x0 x9 : AV) (σ : Store) : codeK X0 run (.seq .leaf (.seq .leaf .leaf)) (subC [true, true, true] b139) (frS 0 76 [(0, x0), (9, x9)]) σ k139 = c139_1 run fu x0 x9 σ := by kernel_rfl

theorem ok139_1 {run : FuncId → List AV → Store → Tr R} (hrun : RunOK X0 run) (fu : Nat) : ∀ fr σ, KOK X0 76 (subC [true, true, true] b139) fr σ ((fun fr σ => c139_1 run fu (fr.getD 0 .any) (fr.getD 9 .any) σ) fr σ) k139 := fun fr σ =>
  KOK.piece env0 hrun [0, 9] (eq139_1 run fu (fr.getD 0 .any) (fr.getD 9 .any) σ) ⟨trivial, ⟨trivial, trivial⟩⟩

noncomputable def c139_3 (run : FuncId → List AV → Store → Tr R) (fu : Nat) (s2 : AV → AV → AV → AV → AV → AV → Store → Tr R) (x0 x1 x2 x3 x9 x10 : AV) (σ : Store) : Tr R :=
  addK x10 (.int .i64 1) fun x18 =>
  s2 x0 x1 x2 x3 x9 x18 σ

theorem eq139_3 (run : FuncId → List AV → Store → Tr R) (fu : Nat) (s2 : AV → AV → AV → AV → AV → AV → Store → Tr R) (x0 x1 x2 x3 x9 x10 : AV) (σ : Store) : codeK X0 run .leaf (subC [true, true, false, true, false, false, true, true] b139) (frS 0 76 [(0, x0), (1, x1), (2, x2), (3, x3), (9, x9), (10, x10)]) σ (thenK (fun fr σ => s2 (fr.getD 0 .any) (fr.getD 1 .any) (fr.getD 2 .any) (fr.getD 3 .any) (fr.getD 9 .any) (fr.getD 10 .any) σ) (blockK 0 (thenK (fun fr σ => c139_1 run fu (fr.getD 0 .any) (fr.getD 9 .any) σ) k139))) = c139_3 run fu s2 x0 x1 x2 x3 x9 x10 σ := by kernel_rfl

theorem ok139_3 {run : FuncId → List AV → Store → Tr R} (hrun : RunOK X0 run) (fu : Nat) (s2 : AV → AV → AV → AV → AV → AV → Store → Tr R) : ∀ fr σ, KOK X0 76 (subC [true, true, false, true, false, false, true, true] b139) fr σ ((fun fr σ => c139_3 run fu s2 (fr.getD 0 .any) (fr.getD 1 .any) (fr.getD 2 .any) (fr.getD 3 .any) (fr.getD 9 .any) (fr.getD 10 .any) σ) fr σ) (thenK (fun fr σ => s2 (fr.getD 0 .any) (fr.getD 1 .any) (fr.getD 2 .any) (fr.getD 3 .any) (fr.getD 9 .any) (fr.getD 10 .any) σ) (blockK 0 (thenK (fun fr σ => c139_1 run fu (fr.getD 0 .any) (fr.getD 9 .any) σ) k139))) := fun fr σ =>
  KOK.piece env0 hrun [0, 1, 2, 3, 9, 10] (eq139_3 run fu s2 (fr.getD 0 .any) (fr.getD 1 .any) (fr.getD 2 .any) (fr.getD 3 .any) (fr.getD 9 .any) (fr.getD 10 .any) σ) trivial

noncomputable def c139_4 (run : FuncId → List AV → Store → Tr R) (fu : Nat) (s2 : AV → AV → AV → AV → AV → AV → Store → Tr R) (x0 x1 x9 x10 : AV) (σ : Store) : Tr R :=
  cmpK .geq x10 x1 fun x72 =>
  ifK x72 (
  c139_1 run fu x0 x9 σ) (
  .ret ((.bool false), σ))

theorem eq139_4 (run : FuncId → List AV → Store → Tr R) (fu : Nat) (s2 : AV → AV → AV → AV → AV → AV → Store → Tr R) (x0 x1 x9 x10 : AV) (σ : Store) : codeK X0 run (.seq (.seq .leaf (.cond .leaf .leaf)) (.seq .leaf .leaf)) (subC [true, true, false, true, false, false, true, false, false, true, true, true] b139) (frS 0 76 [(0, x0), (1, x1), (9, x9), (10, x10)]) σ (blockK 1 (thenK (fun fr σ => c139_3 run fu s2 (fr.getD 0 .any) (fr.getD 1 .any) (fr.getD 2 .any) (fr.getD 3 .any) (fr.getD 9 .any) (fr.getD 10 .any) σ) (thenK (fun fr σ => s2 (fr.getD 0 .any) (fr.getD 1 .any) (fr.getD 2 .any) (fr.getD 3 .any) (fr.getD 9 .any) (fr.getD 10 .any) σ) (blockK 0 (thenK (fun fr σ => c139_1 run fu (fr.getD 0 .any) (fr.getD 9 .any) σ) k139))))) = c139_4 run fu s2 x0 x1 x9 x10 σ := by kernel_rfl

theorem ok139_4 {run : FuncId → List AV → Store → Tr R} (hrun : RunOK X0 run) (fu : Nat) (s2 : AV → AV → AV → AV → AV → AV → Store → Tr R) : ∀ fr σ, KOK X0 76 (subC [true, true, false, true, false, false, true, false, false, true, true, true] b139) fr σ ((fun fr σ => c139_4 run fu s2 (fr.getD 0 .any) (fr.getD 1 .any) (fr.getD 9 .any) (fr.getD 10 .any) σ) fr σ) (blockK 1 (thenK (fun fr σ => c139_3 run fu s2 (fr.getD 0 .any) (fr.getD 1 .any) (fr.getD 2 .any) (fr.getD 3 .any) (fr.getD 9 .any) (fr.getD 10 .any) σ) (thenK (fun fr σ => s2 (fr.getD 0 .any) (fr.getD 1 .any) (fr.getD 2 .any) (fr.getD 3 .any) (fr.getD 9 .any) (fr.getD 10 .any) σ) (blockK 0 (thenK (fun fr σ => c139_1 run fu (fr.getD 0 .any) (fr.getD 9 .any) σ) k139))))) := fun fr σ =>
  KOK.piece env0 hrun [0, 1, 9, 10] (eq139_4 run fu s2 (fr.getD 0 .any) (fr.getD 1 .any) (fr.getD 9 .any) (fr.getD 10 .any) σ) ⟨⟨trivial, ⟨trivial, trivial⟩⟩, ⟨trivial, trivial⟩⟩

noncomputable def c139_2b (run : FuncId → List AV → Store → Tr R) (fu : Nat) (s2 : AV → AV → AV → AV → AV → AV → Store → Tr R) (x0 x1 x2 x3 x9 x10 : AV) (σ : Store) : Tr R :=
  cmpK .lss x10 x2 fun x16 =>
  ifK x16 (
  addrK x9 0 fun x19 =>
  ld1K σ x19 fun x20 =>
  cmpK .gtr x20 (.int .i64 0) fun x21 =>
  ifK x21 (
  addrK x9 0 fun x22 =>
  ld1K σ x22 fun x23 =>
  subK x23 (.int .i64 1) fun x24 =>
  addrK x9 0 fun x25 =>
  st1K σ x25 x24 fun _ σ1 =>
  c139_3 run fu s2 x0 x1 x2 x3 x9 x10 σ1) (
  addrK x9 1 fun x26 =>
  ld1K σ x26 fun x27 =>
  addrK x9 3 fun x28 =>
  ld1K σ x28 fun x29 =>
  lenSK x29 fun x30 =>
  cmpK .geq x27 x30 fun x31 =>
  grdK x31 true σ (fun f => f x3 σ) fun x33 σ2 =>
  pickK x31 x33 (.bool false) fun x34 =>
  ifK x34 (
  c139_3 run fu s2 x0 x1 x2 x3 x9 x10 σ2) (
  addrK x9 1 fun x35 =>
  ld1K σ2 x35 fun x36 =>
  addrK x9 3 fun x37 =>
  ld1K σ2 x37 fun x38 =>
  lenSK x38 fun x39 =>
  cmpK .lss x36 x39 fun x40 =>
  ifK x40 (
  addrK x9 3 fun x41 =>
  ld1K σ2 x41 fun x42 =>
  addrK x9 1 fun x43 =>
  ld1K σ2 x43 fun x44 =>
  idxSK x42 x44 fun x45 =>
  cmpK .eql x45 (.int .u8 9) fun x47 =>
  ifK x47 (
  addrK x9 1 fun x48 =>
  ld1K σ2 x48 fun x49 =>
  addrK x9 2 fun x50 =>
  ld1K σ2 x50 fun x51 =>
  subK x49 x51 fun x52 =>
  bitK Tryz.prog .and x52 (.int .i64 3) fun x53 =>
  subK (.int .i64 4) x53 fun x54 =>
  subK x54 (.int .i64 1) fun x55 =>
  addrK x9 0 fun x56 =>
  st1K σ2 x56 x55 fun _ σ3 =>
  addrK x9 1 fun x57 =>
  ld1K σ3 x57 fun x58 =>
  addK x58 (.int .i64 1) fun x59 =>
  addrK x9 1 fun x60 =>
  st1K σ3 x60 x59 fun _ σ4 =>
  addrK x9 1 fun x61 =>
  ld1K σ4 x61 fun x62 =>
  addrK x9 2 fun x63 =>
  st1K σ4 x63 x62 fun _ σ5 =>
  c139_3 run fu s2 x0 x1 x2 x3 x9 x10 σ5) (
  cmpK .eql x45 (.int .u8 32) fun x65 =>
  ifK x65 (
  addrK x9 1 fun x66 =>
  ld1K σ2 x66 fun x67 =>
  addK x67 (.int .i64 1) fun x68 =>
  addrK x9 1 fun x69 =>
  st1K σ2 x69 x68 fun _ σ6 =>
  c139_3 run fu s2 x0 x1 x2 x3 x9 x10 σ6) (
  c139_4 run fu s2 x0 x1 x9 x10 σ2))) (
  c139_4 run fu s2 x0 x1 x9 x10 σ2)))) (
  c139_1 run fu x0 x9 σ)

noncomputable def c139_2 (run : FuncId → List AV → Store → Tr R) (fu : Nat) : Nat → AV → AV → AV → AV → AV → AV → Store → Tr R
  | 0 => fun _ _ _ _ _ _ _ => .fail
  | m + 1 => c139_2b run fu (c139_2 run fu m)

theorem eq139_2 (run : FuncId → List AV → Store → Tr R) (fu : Nat) (s2 : AV → AV → AV → AV → AV → AV → Store → Tr R) (x0 x1 x2 x3 x9 x10 : AV) (σ : Store) : codeK X0 run (.seq (.seq .leaf (.cond .leaf .leaf)) (.seq (.block (.seq (.seq .leaf (.cond (.seq .leaf .leaf) .leaf)) (.seq (.seq .leaf (.cond .leaf .leaf)) (.seq (.seq .leaf (.cond (.seq .leaf (.block (.seq .leaf (.cond (.seq .leaf (.seq .leaf (.seq .leaf .leaf))) (.seq .leaf (.cond (.seq .leaf .leaf) .leaf)))))) .leaf)) (.sub (fun fr σ => c139_4 run fu s2 (fr.getD 0 .any) (fr.getD 1 .any) (fr.getD 9 .any) (fr.getD 10 .any) σ)))))) (.sub (fun fr σ => c139_3 run fu s2 (fr.getD 0 .any) (fr.getD 1 .any) (fr.getD 2 .any) (fr.getD 3 .any) (fr.getD 9 .any) (fr.getD 10 .any) σ)))) (subC [true, true, false, true, false, false] b139) (frS 0 76 [(0, x0), (1, x1), (2, x2), (3, x3), (9, x9), (10, x10)]) σ (thenK (fun fr σ => s2 (fr.getD 0 .any) (fr.getD 1 .any) (fr.getD 2 .any) (fr.getD 3 .any) (fr.getD 9 .any) (fr.getD 10 .any) σ) (blockK 0 (thenK (fun fr σ => c139_1 run fu (fr.getD 0 .any) (fr.getD 9 .any) σ) k139))) = c139_2b run fu s2 x0 x1 x2 x3 x9 x10 σ := by kernel_rfl

theorem owed139_2 {run : FuncId → List AV → Store → Tr R} (hrun : RunOK X0 run) (fu : Nat) (s2 : AV → AV → AV → AV → AV → AV → Store → Tr R) : Owes X0 run 76 (.seq (.seq .leaf (.cond .leaf .leaf)) (.seq (.block (.seq (.seq .leaf (.cond (.seq .leaf .leaf) .leaf)) (.seq (.seq .leaf (.cond .leaf .leaf)) (.seq (.seq .leaf (.cond (.seq .leaf (.block (.seq .leaf (.cond (.seq .leaf (.seq .leaf (.seq .leaf .leaf))) (.seq .leaf (.cond (.seq .leaf .leaf) .leaf)))))) .leaf)) (.sub (fun fr σ => c139_4 run fu s2 (fr.getD 0 .any) (fr.getD 1 .any) (fr.getD 9 .any) (fr.getD 10 .any) σ)))))) (.sub (fun fr σ => c139_3 run fu s2 (fr.getD 0 .any) (fr.getD 1 .any) (fr.getD 2 .any) (fr.getD 3 .any) (fr.getD 9 .any) (fr.getD 10 .any) σ)))) (subC [true, true, false, true, false, false] b139) (thenK (fun fr σ => s2 (fr.getD 0 .any) (fr.getD 1 .any) (fr.getD 2 .any) (fr.getD 3 .any) (fr.getD 9 .any) (fr.getD 10 .any) σ) (blockK 0 (thenK (fun fr σ => c139_1 run fu (fr.getD 0 .any) (fr.getD 9 .any) σ) k139))) :=
  ⟨⟨trivial, ⟨trivial, trivial⟩⟩, ⟨⟨⟨trivial, ⟨⟨trivial, trivial⟩, trivial⟩⟩, ⟨⟨trivial, ⟨trivial, trivial⟩⟩, ⟨⟨trivial, ⟨⟨trivial, ⟨trivial, ⟨⟨trivial, ⟨trivial, ⟨trivial, trivial⟩⟩⟩, ⟨trivial, ⟨⟨trivial, trivial⟩, trivial⟩⟩⟩⟩⟩, trivial⟩⟩, (ok139_4 hrun fu s2)⟩⟩⟩, (ok139_3 hrun fu s2)⟩⟩

theorem ok139_2 {run : FuncId → List AV → Store → Tr R} (hrun : RunOK X0 run) (fu : Nat) : ∀ fr σ, KOK X0 76 (subC [true, true, false, true, false] b139) fr σ ((fun fr σ => c139_2 run fu fu (fr.getD 0 .any) (fr.getD 1 .any) (fr.getD 2 .any) (fr.getD 3 .any) (fr.getD 9 .any) (fr.getD 10 .any) σ) fr σ) (blockK 0 (thenK (fun fr σ => c139_1 run fu (fr.getD 0 .any) (fr.getD 9 .any) σ) k139)) := by
  have h := KOK.loop (X := X0) (N := 76) (b := (subC [true, true, false, true, false, false] b139)) (k := (blockK 0 (thenK (fun fr σ => c139_1 run fu (fr.getD 0 .any) (fr.getD 9 .any) σ) k139))) (u := fun m fr σ => c139_2 run fu m (fr.getD 0 .any) (fr.getD 1 .any) (fr.getD 2 .any) (fr.getD 3 .any) (fr.getD 9 .any) (fr.getD 10 .any) σ) (fun _ _ => rfl) (fun m fr σ => KOK.piece env0 hrun [0, 1, 2, 3, 9, 10] (eq139_2 run fu (c139_2 run fu m) (fr.getD 0 .any) (fr.getD 1 .any) (fr.getD 2 .any) (fr.getD 3 .any) (fr.getD 9 .any) (fr.getD 10 .any) σ) (owed139_2 hrun fu (c139_2 run fu m)))
  exact fun fr σ => h fu fr σ

noncomputable def c139 (run : FuncId → List AV → Store → Tr R) (fu : Nat) (x0 x1 x2 x3 : AV) (σ : Store) : Tr R :=
  nchkK x0 fun x12 =>
  ldNK σ x12 5 fun x13 =>
  newK σ 201 [(.int .i64 0), (.int .i64 0), (.int .i64 0), (.str []), (.int .u8 0)] fun x9 σ1 =>
  stNK σ1 x9 5 x13 fun _ σ2 =>
  c139_2 run fu fu x0 x1 x2 x3 x9 (.int .i64 0) σ2

theorem eq139 (run : FuncId → List AV → Store → Tr R) (fu : Nat) (x0 x1 x2 x3 : AV) (σ : Store) : codeK X0 run (.seq .leaf (.seq .leaf (.seq (.seq .leaf (.block (.sub (fun fr σ => c139_2 run fu fu (fr.getD 0 .any) (fr.getD 1 .any) (fr.getD 2 .any) (fr.getD 3 .any) (fr.getD 9 .any) (fr.getD 10 .any) σ)))) (.sub (fun fr σ => c139_1 run fu (fr.getD 0 .any) (fr.getD 9 .any) σ))))) (subC [] b139) ([x0, x1, x2, x3] ++ padA (76 - 4)) σ k139 = c139 run fu x0 x1 x2 x3 σ := by kernel_rfl

theorem ok139 {run : FuncId → List AV → Store → Tr R} (hrun : RunOK X0 run) (fu : Nat) (x0 x1 x2 x3 : AV) (σ : Store) : CallOK X0 139 [x0, x1, x2, x3] σ (c139 run fu x0 x1 x2 x3 σ) :=
  KOK.body (fn := Tryz.f139) (c := subC [] b139) (by kernel_rfl) (by kernel_rfl) (by show 4 ≤ 76; decide) (KOK.whole env0 hrun (eq139 run fu x0 x1 x2 x3 σ) ⟨trivial, ⟨trivial, ⟨⟨trivial, (ok139_2 hrun fu)⟩, (ok139_1 hrun fu)⟩⟩⟩)

-- (*pub-paratext/pub/rscmarkdown.line).trim

noncomputable def b168 : Code := match Tryz.f168.body with | some c => c | none => .skip

noncomputable def k168 : Kont R := retK Tryz.prog [.tmp 4]

noncomputable def c168 (run : FuncId → List AV → Store → Tr R) (fu : Nat) (x0 x1 : AV) (σ : Store) : Tr R :=
  nchkK x0 fun x6 =>
  addrK x6 0 fun x7 =>
  ld1K σ x7 fun x8 =>
  cmpK .gtr x8 (.int .i64 0) fun x9 =>
  ifK x9 (
  cmpK .eql x1 (.int .u8 32) fun x11 =>
  ifK x11 (
  nchkK x0 fun x13 =>
  addrK x13 0 fun x14 =>
  ld1K σ x14 fun x15 =>
  subK x15 (.int .i64 1) fun x16 =>
  nchkK x0 fun x17 =>
  addrK x17 0 fun x18 =>
  st1K σ x18 x16 fun _ σ1 =>
  .ret ((.bool true), σ1)) (
  .ret ((.bool false), σ))) (
  nchkK x0 fun x20 =>
  addrK x20 1 fun x21 =>
  ld1K σ x21 fun x22 =>
  nchkK x0 fun x24 =>
  addrK x24 3 fun x25 =>
  ld1K σ x25 fun x26 =>
  lenSK x26 fun x27 =>
  cmpK .lss x22 x27 fun x28 =>
  grdK x28 true σ (fun f => f x0 σ) fun x30 σ2 =>
  grdK x28 true σ2 (fun f => nchkK x30 fun v => f v σ2) fun x31 σ3 =>
  grdK x28 true σ3 (fun f => addrK x31 3 fun v => f v σ3) fun x32 σ4 =>
  grdK x28 true σ4 (fun f => ld1K σ4 x32 fun v => f v σ4) fun x33 σ5 =>
  grdK x28 true σ5 (fun f => f x0 σ5) fun x34 σ6 =>
  grdK x28 true σ6 (fun f => nchkK x34 fun v => f v σ6) fun x35 σ7 =>
  grdK x28 true σ7 (fun f => addrK x35 1 fun v => f v σ7) fun x36 σ8 =>
  grdK x28 true σ8 (fun f => ld1K σ8 x36 fun v => f v σ8) fun x37 σ9 =>
  grdK x28 true σ9 (fun f => idxSK x33 x37 fun v => f v σ9) fun x38 σ10 =>
  grdK x28 true σ10 (fun f => f x1 σ10) fun x39 σ11 =>
  grdK x28 true σ11 (fun f => cmpK .eql x38 x39 fun v => f v σ11) fun x40 σ12 =>
  pickK x28 x40 (.bool false) fun x41 =>
  ifK x41 (
  nchkK x0 fun x43 =>
  addrK x43 1 fun x44 =>
  ld1K σ12 x44 fun x45 =>
  addK x45 (.int .i64 1) fun x46 =>
  nchkK x0 fun x47 =>
  addrK x47 1 fun x48 =>
  st1K σ12 x48 x46 fun _ σ13 =>
  .ret ((.bool true), σ13)) (
  .ret ((.bool false), σ12)))

theorem eq168 (run : FuncId → List AV → Store → Tr R) (fu : Nat) (x0 x1 : AV) (σ : Store) : codeK X0 run (.seq .leaf (.seq (.seq .leaf (.cond (.seq (.seq .leaf (.cond (.seq .leaf (.seq .leaf .leaf)) .leaf)) (.seq .leaf .leaf)) .leaf)) (.seq (.seq .leaf (.cond (.seq .leaf (.seq .leaf .leaf)) .leaf)) (.seq .leaf .leaf)))) (subC [] b168) ([x0, x1] ++ padA (49 - 2)) σ k168 = c168 run fu x0 x1 σ := by kernel_rfl

theorem ok168 {run : FuncId → List AV → Store → Tr R} (hrun : RunOK X0 run) (fu : Nat) (x0 x1 : AV) (σ : Store) : CallOK X0 168 [x0, x1] σ (c168 run fu x0 x1 σ) :=
  KOK.body (fn := Tryz.f168) (c := subC [] b168) (by kernel_rfl) (by kernel_rfl) (by show 2 ≤ 49; decide) (KOK.whole env0 hrun (eq168 run fu x0 x1 σ) ⟨trivial, ⟨⟨trivial, ⟨⟨⟨trivial, ⟨⟨trivial, ⟨trivial, trivial⟩⟩, trivial⟩⟩, ⟨trivial, trivial⟩⟩, trivial⟩⟩, ⟨⟨trivial, ⟨⟨trivial, ⟨trivial, trivial⟩⟩, trivial⟩⟩, ⟨trivial, trivial⟩⟩⟩⟩)

-- strings.LastIndexByte

noncomputable def b169 : Code := match Tryz.f169.body with | some c => c | none => .skip

noncomputable def k169 : Kont R := retK Tryz.prog [.tmp 4]

noncomputable def c169 (run : FuncId → List AV → Store → Tr R) (fu : Nat) (x0 x1 : AV) (σ : Store) : Tr R :=
  calK run 192 [x0, x1] σ fun x7 σ1 =>
  .ret (x7, σ1)

theorem eq169 (run : FuncId → List AV → Store → Tr R) (fu : Nat) (x0 x1 : AV) (σ : Store) : codeK X0 run (.seq .leaf (.seq .leaf .leaf)) (subC [] b169) ([x0, x1] ++ padA (8 - 2)) σ k169 = c169 run fu x0 x1 σ := by kernel_rfl

theorem ok169 {run : FuncId → List AV → Store → Tr R} (hrun : RunOK X0 run) (fu : Nat) (x0 x1 : AV) (σ : Store) : CallOK X0 169 [x0, x1] σ (c169 run fu x0 x1 σ) :=
  KOK.body (fn := Tryz.f169) (c := subC [] b169) (by kernel_rfl) (by kernel_rfl) (by show 2 ≤ 8; decide) (KOK.whole env0 hrun (eq169 run fu x0 x1 σ) ⟨trivial, ⟨trivial, trivial⟩⟩)

-- pub-paratext/pub/rscmarkdown.zzSpace

noncomputable def b179 : Code := match Tryz.f179.body with | some c => c | none => .skip

noncomputable def k179 : Kont R := retK Tryz.prog [.tmp 2]

noncomputable def c179 (run : FuncId → List AV → Store → Tr R) (fu : Nat) (x0 : AV) (σ : Store) : Tr R :=
  cmpK .geq x0 (.int .i32 9) fun x4 =>
  grdK x4 true σ (fun f => f x0 σ) fun x6 σ1 =>
  grdK x4 true σ1 (fun f => cmpK .leq x6 (.int .i32 13) fun v => f v σ1) fun x7 σ2 =>
  pickK x4 x7 (.bool false) fun x8 =>
  grdK x8 false σ2 (fun f => f x0 σ2) fun x10 σ3 =>
  grdK x8 false σ3 (fun f => cmpK .eql x10 (.int .i32 32) fun v => f v σ3) fun x11 σ4 =>
  pickK x8 (.bool true) x11 fun x12 =>
  grdK x12 false σ4 (fun f => f x0 σ4) fun x14 σ5 =>
  grdK x12 false σ5 (fun f => cmpK .eql x14 (.int .i32 133) fun v => f v σ5) fun x15 σ6 =>
  pickK x12 (.bool true) x15 fun x16 =>
  grdK x16 false σ6 (fun f => f x0 σ6) fun x18 σ7 =>
  grdK x16 false σ7 (fun f => cmpK .eql x18 (.int .i32 160) fun v => f v σ7) fun x19 σ8 =>
  pickK x16 (.bool true) x19 fun x20 =>
  grdK x20 false σ8 (fun f => f x0 σ8) fun x22 σ9 =>
  grdK x20 false σ9 (fun f => cmpK .eql x22 (.int .i32 5760) fun v => f v σ9) fun x23 σ10 =>
  pickK x20 (.bool true) x23 fun x24 =>
  grdK x24 false σ10 (fun f => f x0 σ10) fun x26 σ11 =>
  grdK x24 false σ11 (fun f => cmpK .geq x26 (.int .i32 8192) fun v => f v σ11) fun x27 σ12 =>
  grdK x24 false σ12 (fun f => f x27 σ12) fun x28 σ13 =>
  grdK x28 true σ13 (fun f => f x0 σ13) fun x29 σ14 =>
  grdK x28 true σ14 (fun f => cmpK .leq x29 (.int .i32 8202) fun v => f v σ14) fun x30 σ15 =>
  grdK x24 false σ15 (fun f => pickK x28 x30 (.bool false) fun v => f v σ15) fun x31 σ16 =>
  pickK x24 (.bool true) x31 fun x32 =>
  grdK x32 false σ16 (fun f => f x0 σ16) fun x34 σ17 =>
  grdK x32 false σ17 (fun f => cmpK .eql x34 (.int .i32 8232) fun v => f v σ17) fun x35 σ18 =>
  pickK x32 (.bool true) x35 fun x36 =>
  grdK x36 false σ18 (fun f => f x0 σ18) fun x38 σ19 =>
  grdK x36 false σ19 (fun f => cmpK .eql x38 (.int .i32 8233) fun v => f v σ19) fun x39 σ20 =>
  pickK x36 (.bool true) x39 fun x40 =>
  grdK x40 false σ20 (fun f => f x0 σ20) fun x42 σ21 =>
  grdK x40 false σ21 (fun f => cmpK .eql x42 (.int .i32 8239) fun v => f v σ21) fun x43 σ22 =>
  pickK x40 (.bool true) x43 fun x44 =>
  grdK x44 false σ22 (fun f => f x0 σ22) fun x46 σ23 =>
  grdK x44 false σ23 (fun f => cmpK .eql x46 (.int .i32 8287) fun v => f v σ23) fun x47 σ24 =>
  pickK x44 (.bool true) x47 fun x48 =>
  grdK x48 false σ24 (fun f => f x0 σ24) fun x50 σ25 =>
  grdK x48 false σ25 (fun f => cmpK .eql x50 (.int .i32 12288) fun v => f v σ25) fun x51 σ26 =>
  pickK x48 (.bool true) x51 fun x52 =>
  .ret (x52, σ26)

theorem eq179 (run : FuncId → List AV → Store → Tr R) (fu : Nat) (x0 : AV) (σ : Store) : codeK X0 run (.seq .leaf (.seq .leaf .leaf)) (subC [] b179) ([x0] ++ padA (53 - 1)) σ k179 = c179 run fu x0 σ := by kernel_rfl

theorem ok179 {run : FuncId → List AV → Store → Tr R} (hrun : RunOK X0 run) (fu : Nat) (x0 : AV) (σ : Store) : CallOK X0 179 [x0] σ (c179 run fu x0 σ) :=
  KOK.body (fn := Tryz.f179) (c := subC [] b179) (by kernel_rfl) (by kernel_rfl) (by show 1 ≤ 53; decide) (KOK.whole env0 hrun (eq179 run fu x0 σ) ⟨trivial, ⟨trivial, trivial⟩⟩)

-- strconv.Itoa

noncomputable def b199 : Code := match Tryz.f199.body with | some c => c | none => .skip

noncomputable def k199 : Kont R := retK Tryz.prog [.tmp 2]

noncomputable def c199 (run : FuncId → List AV → Store → Tr R) (fu : Nat) (x0 : AV) (σ : Store) : Tr R :=
  calK run 202 [x0] σ fun x4 σ1 =>
  .ret (x4, σ1)

theorem eq199 (run : FuncId → List AV → Store → Tr R) (fu : Nat) (x0 : AV) (σ : Store) : codeK X0 run (.seq .leaf (.seq .leaf .leaf)) (subC [] b199) ([x0] ++ padA (5 - 1)) σ k199 = c199 run fu x0 σ := by kernel_rfl

theorem ok199 {run : FuncId → List AV → Store → Tr R} (hrun : RunOK X0 run) (fu : Nat) (x0 : AV) (σ : Store) : CallOK X0 199 [x0] σ (c199 run fu x0 σ) :=
  KOK.body (fn := Tryz.f199) (c := subC [] b199) (by kernel_rfl) (by kernel_rfl) (by show 1 ≤ 5; decide) (KOK.whole env0 hrun (eq199 run fu x0 σ) ⟨trivial, ⟨trivial, trivial⟩⟩)

-- internal/strconv.Itoa

noncomputable def b202 : Code := match Tryz.f202.body with | some c => c | none => .skip

noncomputable def k202 : Kont R := retK Tryz.prog [.tmp 2]

noncomputable def c202 (run : FuncId → List AV → Store → Tr R) (fu : Nat) (x0 : AV) (σ : Store) : Tr R :=
  calK run 203 [x0, (.int .i64 10)] σ fun x4 σ1 =>
  .ret (x4, σ1)

theorem eq202 (run : FuncId → List AV → Store → Tr R) (fu : Nat) (x0 : AV) (σ : Store) : codeK X0 run (.seq .leaf (.seq .leaf .leaf)) (subC [] b202) ([x0] ++ padA (5 - 1)) σ k202 = c202 run fu x0 σ := by kernel_rfl

theorem ok202 {run : FuncId → List AV → Store → Tr R} (hrun : RunOK X0 run) (fu : Nat) (x0 : AV) (σ : Store) : CallOK X0 202 [x0] σ (c202 run fu x0 σ) :=
  KOK.body (fn := Tryz.f202) (c := subC [] b202) (by kernel_rfl) (by kernel_rfl) (by show 1 ≤ 5; decide) (KOK.whole env0 hrun (eq202 run fu x0 σ) ⟨trivial, ⟨trivial, trivial⟩⟩)

-- internal/strconv.FormatInt

noncomputable def b203 : Code := match Tryz.f203.body with | some c => c | none => .skip

noncomputable def k203 : Kont R := retK Tryz.prog [.tmp 4]

noncomputable def c203_1 (run : FuncId → List AV → Store → Tr R) (fu : Nat) (x0 x1 : AV) (σ : Store) : Tr R :=
  fitsK .u64 x0 fun x46 =>
  cmpK .lss x0 (.int .i64 0) fun x49 =>
  calK run 207 [.nils, x46, x1, x49, (.bool false)] σ fun x50 σ1 =>
  extK x50 0 fun x51 =>
  extK x50 1 fun x52 =>
  .ret (x52, σ1)

theorem eq203_1 (run : FuncId → List AV → Store → Tr R) (fu : Nat) (x0 x1 : AV) (σ : Store) : codeK X0 run (.seq .leaf (.seq .leaf .leaf)) (subC [true, true] b203) (frS 0 54 [(0, x0), (1, x1)]) σ k203 = c203_1 run fu x0 x1 σ := by kernel_rfl

theorem ok203_1 {run : FuncId → List AV → Store → Tr R} (hrun : RunOK X0 run) (fu : Nat) : ∀ fr σ, KOK X0 54 (subC [true, true] b203) fr σ ((fun fr σ => c203_1 run fu (fr.getD 0 .any) (fr.getD 1 .any) σ) fr σ) k203 := fun fr σ =>
  KOK.piece env0 hrun [0, 1] (eq203_1 run fu (fr.getD 0 .any) (fr.getD 1 .any) σ) ⟨trivial, ⟨trivial, trivial⟩⟩

noncomputable def c203_2 (run : FuncId → List AV → Store → Tr R) (fu : Nat) (x0 x5 x6 : AV) (σ : Store) : Tr R :=
  calK run 205 [x6] σ fun x27 σ1 =>
  addK (.int .i64 1) x27 fun x29 =>
  sliceLK Tryz.prog σ1 308 x5 (some (.int .i64 1)) (some x29) fun x30 =>
  calK run 206 [x30, x6] σ1 fun x32 σ2 =>
  cmpK .lss x0 (.int .i64 0) fun x34 =>
  ifK x34 (
  idxArrK 24 1 x5 (.int .i64 0) fun x35 =>
  st1K σ2 x35 (.int .u8 45) fun _ σ3 =>
  addK (.int .i64 1) x27 fun x37 =>
  sliceLK Tryz.prog σ3 308 x5 none (some x37) fun x38 =>
  b2sK σ3 x38 fun x39 =>
  .ret (x39, σ3)) (
  addK (.int .i64 1) x27 fun x41 =>
  sliceLK Tryz.prog σ2 308 x5 (some (.int .i64 1)) (some x41) fun x42 =>
  b2sK σ2 x42 fun x43 =>
  .ret (x43, σ2))

theorem eq203_2 (run : FuncId → List AV → Store → Tr R) (fu : Nat) (x0 x5 x6 : AV) (σ : Store) : codeK X0 run (.seq .leaf (.seq .leaf (.seq (.seq .leaf (.cond (.seq .leaf (.seq .leaf .leaf)) .leaf)) (.seq .leaf .leaf)))) (subC [true, false, true, false, true, true, true, true] b203) (frS 0 54 [(0, x0), (5, x5), (6, x6)]) σ (thenK (fun fr σ => c203_1 run fu (fr.getD 0 .any) (fr.getD 1 .any) σ) k203) = c203_2 run fu x0 x5 x6 σ := by kernel_rfl

theorem ok203_2 {run : FuncId → List AV → Store → Tr R} (hrun : RunOK X0 run) (fu : Nat) : ∀ fr σ, KOK X0 54 (subC [true, false, true, false, true, true, true, true] b203) fr σ ((fun fr σ => c203_2 run fu (fr.getD 0 .any) (fr.getD 5 .any) (fr.getD 6 .any) σ) fr σ) (thenK (fun fr σ => c203_1 run fu (fr.getD 0 .any) (fr.getD 1 .any) σ) k203) := fun fr σ =>
  KOK.piece env0 hrun [0, 5, 6] (eq203_2 run fu (fr.getD 0 .any) (fr.getD 5 .any) (fr.getD 6 .any) σ) ⟨trivial, ⟨trivial, ⟨⟨trivial, ⟨⟨trivial, ⟨trivial, trivial⟩⟩, trivial⟩⟩, ⟨trivial, trivial⟩⟩⟩⟩

noncomputable def c203 (run : FuncId → List AV → Store → Tr R) (fu : Nat) (x0 x1 : AV) (σ : Store) : Tr R :=
  cmpK .eql x1 (.int .i64 10) fun x11 =>
  ifK x11 (
  cmpK .leq (.int .i64 0) x0 fun x13 =>
  grdK x13 true σ (fun f => f x0 σ) fun x15 σ1 =>
  grdK x13 true σ1 (fun f => cmpK .lss x15 (.int .i64 100) fun v => f v σ1) fun x16 σ2 =>
  pickK x13 x16 (.bool false) fun x17 =>
  ifK x17 (
  calK run 204 [x0] σ2 fun x19 σ3 =>
  .ret (x19, σ3)) (
  newK σ2 617 [(.int .u8 0), (.int .u8 0), (.int .u8 0), (.int .u8 0), (.int .u8 0), (.int .u8 0), (.int .u8 0), (.int .u8 0), (.int .u8 0), (.int .u8 0), (.int .u8 0), (.int .u8 0), (.int .u8 0), (.int .u8 0), (.int .u8 0), (.int .u8 0), (.int .u8 0), (.int .u8 0), (.int .u8 0), (.int .u8 0), (.int .u8 0), (.int .u8 0), (.int .u8 0), (.int .u8 0)] fun x5 σ4 =>
  fitsK .u64 x0 fun x21 =>
  cmpK .lss x0 (.int .i64 0) fun x23 =>
  ifK x23 (
  negK x21 fun x25 =>
  c203_2 run fu x0 x5 x25 σ4) (
  c203_2 run fu x0 x5 x21 σ4))) (
  c203_1 run fu x0 x1 σ)

theorem eq203 (run : FuncId → List AV → Store → Tr R) (fu : Nat) (x0 x1 : AV) (σ : Store) : codeK X0 run (.seq .leaf (.seq (.seq .leaf (.cond (.seq (.seq .leaf (.cond (.seq .leaf .leaf) .leaf)) (.seq .leaf (.seq .leaf (.seq (.seq .leaf (.cond .leaf .leaf)) (.sub (fun fr σ => c203_2 run fu (fr.getD 0 .any) (fr.getD 5 .any) (fr.getD 6 .any) σ)))))) .leaf)) (.sub (fun fr σ => c203_1 run fu (fr.getD 0 .any) (fr.getD 1 .any) σ)))) (subC [] b203) ([x0, x1] ++ padA (54 - 2)) σ k203 = c203 run fu x0 x1 σ := by kernel_rfl

theorem ok203 {run : FuncId → List AV → Store → Tr R} (hrun : RunOK X0 run) (fu : Nat) (x0 x1 : AV) (σ : Store) : CallOK X0 203 [x0, x1] σ (c203 run fu x0 x1 σ) :=
  KOK.body (fn := Tryz.f203) (c := subC [] b203) (by kernel_rfl) (by kernel_rfl) (by show 2 ≤ 54; decide) (KOK.whole env0 hrun (eq203 run fu x0 x1 σ) ⟨trivial, ⟨⟨trivial, ⟨⟨⟨trivial, ⟨⟨trivial, trivial⟩, trivial⟩⟩, ⟨trivial, ⟨trivial, ⟨⟨trivial, ⟨trivial, trivial⟩⟩, (ok203_2 hrun fu)⟩⟩⟩⟩, trivial⟩⟩, (ok203_1 hrun fu)⟩⟩)

-- internal/strconv.small

noncomputable def b204 : Code := match Tryz.f204.body with | some c => c | none => .skip

noncomputable def k204 : Kont R := retK Tryz.prog [.tmp 2]

noncomputable def c204 (run : FuncId → List AV → Store → Tr R) (fu : Nat) (x0 : AV) (σ : Store) : Tr R :=
  cmpK .lss x0 (.int .i64 10) fun x4 =>
  ifK x4 (
  addK x0 (.int .i64 1) fun x7 =>
  sliceSK (.str [48, 49, 50, 51, 52, 53, 54, 55, 56, 57, 97, 98, 99, 100, 101, 102, 103, 104, 105, 106, 107, 108, 109, 110, 111, 112, 113, 114, 115, 116, 117, 118, 119, 120, 121, 122]) (some x0) (some x7) fun x8 =>
  .ret (x8, σ)) (
  mulK x0 (.int .i64 2) fun x10 =>
  mulK x0 (.int .i64 2) fun x12 =>
  addK x12 (.int .i64 2) fun x13 =>
  sliceSK (.str [48, 48, 48, 49, 48, 50, 48, 51, 48, 52, 48, 53, 48, 54, 48, 55, 48, 56, 48, 57, 49, 48, 49, 49, 49, 50, 49, 51, 49, 52, 49, 53, 49, 54, 49, 55, 49, 56, 49, 57, 50, 48, 50, 49, 50, 50, 50, 51, 50, 52, 50, 53, 50, 54, 50, 55, 50, 56, 50, 57, 51, 48, 51, 49, 51, 50, 51, 51, 51, 52, 51, 53, 51, 54, 51, 55, 51, 56, 51, 57, 52, 48, 52, 49, 52, 50, 52, 51, 52, 52, 52, 53, 52, 54, 52, 55, 52, 56, 52, 57, 53, 48, 53, 49, 53, 50, 53, 51, 53, 52, 53, 53, 53, 54, 53, 55, 53, 56, 53, 57, 54, 48, 54, 49, 54, 50, 54, 51, 54, 52, 54, 53, 54, 54, 54, 55, 54, 56, 54, 57, 55, 48, 55, 49, 55, 50, 55, 51, 55, 52, 55, 53, 55, 54, 55, 55, 55, 56, 55, 57, 56, 48, 56, 49, 56, 50, 56, 51, 56, 52, 56, 53, 56, 54, 56, 55, 56, 56, 56, 57, 57, 48, 57, 49, 57, 50, 57, 51, 57, 52, 57, 53, 57, 54, 57, 55, 57, 56, 57, 57]) (some x10) (some x13) fun x14 =>
  .ret (x14, σ))

theorem eq204 (run : FuncId → List AV → Store → Tr R) (fu : Nat) (x0 : AV) (σ : Store) : codeK X0 run (.seq .leaf (.seq (.seq .leaf (.cond (.seq .leaf .leaf) .leaf)) (.seq .leaf .leaf))) (subC [] b204) ([x0] ++ padA (15 - 1)) σ k204 = c204 run fu x0 σ := by kernel_rfl

theorem ok204 {run : FuncId → List AV → Store → Tr R} (hrun : RunOK X0 run) (fu : Nat) (x0 : AV) (σ : Store) : CallOK X0 204 [x0] σ (c204 run fu x0 σ) :=
  KOK.body (fn := Tryz.f204) (c := subC [] b204) (by kernel_rfl) (by kernel_rfl) (by show 1 ≤ 15; decide) (KOK.whole env0 hrun (eq204 run fu x0 σ) ⟨trivial, ⟨⟨trivial, ⟨⟨trivial, trivial⟩, trivial⟩⟩, ⟨trivial, trivial⟩⟩⟩)

-- (*pub-paratext/pub/rscmarkdown.Document).PrintHTML

noncomputable def b232 : Code := match Tryz.f232.body with | some c => c | none => .skip

noncomputable def k232 : Kont R := retK Tryz.prog []

noncomputable def c232_1b (run : FuncId → List AV → Store → Tr R) (fu : Nat) (s1 : AV → AV → AV → AV → Store → Tr R) (x1 x9 x10 x11 : AV) (σ : Store) : Tr R :=
  cmpK .lss x11 x10 fun x12 =>
  ifK x12 (
  idxK 1 x9 x11 fun x13 =>
  ld1K σ x13 fun x14 =>
  invK X0 run x14 "PrintHTML" [x1] σ fun x17 σ1 =>
  addK x11 (.int .i64 1) fun x18 =>
  s1 x1 x9 x10 x18 σ1) (
  .ret (.tup [], σ))

noncomputable def c232_1 (run : FuncId → List AV → Store → Tr R) (fu : Nat) : Nat → AV → AV → AV → AV → Store → Tr R
  | 0 => fun _ _ _ _ _ => .fail
  | m + 1 => c232_1b run fu (c232_1 run fu m)

theorem eq232_1 (run : FuncId → List AV → Store → Tr R) (fu : Nat) (s1 : AV → AV → AV → AV → Store → Tr R) (x1 x9 x10 x11 : AV) (σ : Store) : codeK X0 run (.seq .leaf (.seq (.cond .leaf .leaf) (.seq (.block (.seq .leaf .leaf)) .leaf))) (subC [true, false, false] b232) (frS 0 19 [(1, x1), (9, x9), (10, x10), (11, x11)]) σ (thenK (fun fr σ => s1 (fr.getD 1 .any) (fr.getD 9 .any) (fr.getD 10 .any) (fr.getD 11 .any) σ) (blockK 0 k232)) = c232_1b run fu s1 x1 x9 x10 x11 σ := by kernel_rfl

theorem owed232_1 {run : FuncId → List AV → Store → Tr R} (hrun : RunOK X0 run) (fu : Nat) (s1 : AV → AV → AV → AV → Store → Tr R) : Owes X0 run 19 (.seq .leaf (.seq (.cond .leaf .leaf) (.seq (.block (.seq .leaf .leaf)) .leaf))) (subC [true, false, false] b232) (thenK (fun fr σ => s1 (fr.getD 1 .any) (fr.getD 9 .any) (fr.getD 10 .any) (fr.getD 11 .any) σ) (blockK 0 k232)) :=
  ⟨trivial, ⟨⟨trivial, trivial⟩, ⟨⟨trivial, trivial⟩, trivial⟩⟩⟩

theorem ok232_1 {run : FuncId → List AV → Store → Tr R} (hrun : RunOK X0 run) (fu : Nat) : ∀ fr σ, KOK X0 19 (subC [true, false] b232) fr σ ((fun fr σ => c232_1 run fu fu (fr.getD 1 .any) (fr.getD 9 .any) (fr.getD 10 .any) (fr.getD 11 .any) σ) fr σ) (blockK 0 k232) := by
  have h := KOK.loop (X := X0) (N := 19) (b := (subC [true, false, false] b232)) (k := (blockK 0 k232)) (u := fun m fr σ => c232_1 run fu m (fr.getD 1 .any) (fr.getD 9 .any) (fr.getD 10 .any) (fr.getD 11 .any) σ) (fun _ _ => rfl) (fun m fr σ => KOK.piece env0 hrun [1, 9, 10, 11] (eq232_1 run fu (c232_1 run fu m) (fr.getD 1 .any) (fr.getD 9 .any) (fr.getD 10 .any) (fr.getD 11 .any) σ) (owed232_1 hrun fu (c232_1 run fu m)))
  exact fun fr σ => h fu fr σ

noncomputable def c232 (run : FuncId → List AV → Store → Tr R) (fu : Nat) (x0 x1 : AV) (σ : Store) : Tr R :=
  nchkK x0 fun x7 =>
  addrK x7 2 fun x8 =>
  ld1K σ x8 fun x9 =>
  lenLK x9 fun x10 =>
  c232_1 run fu fu x1 x9 x10 (.int .i64 0) σ

theorem eq232 (run : FuncId → List AV → Store → Tr R) (fu : Nat) (x0 x1 : AV) (σ : Store) : codeK X0 run (.seq .leaf (.block (.sub (fun fr σ => c232_1 run fu fu (fr.getD 1 .any) (fr.getD 9 .any) (fr.getD 10 .any) (fr.getD 11 .any) σ)))) (subC [] b232) ([x0, x1] ++ padA (19 - 2)) σ k232 = c232 run fu x0 x1 σ := by kernel_rfl

theorem ok232 {run : FuncId → List AV → Store → Tr R} (hrun : RunOK X0 run) (fu : Nat) (x0 x1 : AV) (σ : Store) : CallOK X0 232 [x0, x1] σ (c232 run fu x0 x1 σ) :=
  KOK.body (fn := Tryz.f232) (c := subC [] b232) (by kernel_rfl) (by kernel_rfl) (by show 2 ≤ 19; decide) (KOK.whole env0 hrun (eq232 run fu x0 x1 σ) ⟨trivial, (ok232_1 hrun fu)⟩)

-- (*pub-paratext/pub/rscmarkdown.rootBuilder).build

noncomputable def b234 : Code := match Tryz.f234.body with | some c => c | none => .skip

noncomputable def k234 : Kont R := retK Tryz.prog [.tmp 4]

noncomputable def c234 (run : FuncId → List AV → Store → Tr R) (fu : Nat) (x0 x1 : AV) (σ : Store) : Tr R :=
  invK X0 run x1 "pub-paratext/pub/rscmarkdown.pos" [] σ fun x6 σ1 =>
  invK X0 run x1 "pub-paratext/pub/rscmarkdown.blocks" [] σ1 fun x8 σ2 =>
  tasK (some .nilp) 110 false x1 fun x10 =>
  nchkK x10 fun x11 =>
  addrK x11 2 fun x12 =>
  ld1K σ2 x12 fun x13 =>
  bldK [(.int .i64 0), (.int .i64 0), .nils, .nilm] [(0, 2, x6), (2, 1, x8), (3, 1, x13)] fun x14 =>
  boxK σ2 669 x14 fun x15 σ3 =>
  ld1K σ x12 fun v4 =>
  must (AV.beq v4 x13) (
  ld1K σ1 x12 fun v5 =>
  must (AV.beq v5 x13) (
  .ret ((.iface 48 x15), σ3)))

theorem eq234 (run : FuncId → List AV → Store → Tr R) (fu : Nat) (x0 x1 : AV) (σ : Store) : codeK X0 run (.seq .leaf (.seq .leaf .leaf)) (subC [] b234) ([x0, x1] ++ padA (17 - 2)) σ k234 = c234 run fu x0 x1 σ := by kernel_rfl

theorem ok234 {run : FuncId → List AV → Store → Tr R} (hrun : RunOK X0 run) (fu : Nat) (x0 x1 : AV) (σ : Store) : CallOK X0 234 [x0, x1] σ (c234 run fu x0 x1 σ) :=
  KOK.body (fn := Tryz.f234) (c := subC [] b234) (by kernel_rfl) (by kernel_rfl) (by show 2 ≤ 17; decide) (KOK.whole env0 hrun (eq234 run fu x0 x1 σ) ⟨trivial, ⟨trivial, trivial⟩⟩)

-- (*pub-paratext/pub/rscmarkdown.Text).PrintHTML

noncomputable def b236 : Code := match Tryz.f236.body with | some c => c | none => .skip

noncomputable def k236 : Kont R := retK Tryz.prog []

noncomputable def c236_1b (run : FuncId → List AV → Store → Tr R) (fu : Nat) (s1 : AV → AV → AV → AV → Store → Tr R) (x1 x9 x10 x11 : AV) (σ : Store) : Tr R :=
  cmpK .lss x11 x10 fun x12 =>
  ifK x12 (
  idxK 1 x9 x11 fun x13 =>
  ld1K σ x13 fun x14 =>
  invK X0 run x14 "PrintHTML" [x1] σ fun x17 σ1 =>
  addK x11 (.int .i64 1) fun x18 =>
  s1 x1 x9 x10 x18 σ1) (
  .ret (.tup [], σ))

noncomputable def c236_1 (run : FuncId → List AV → Store → Tr R) (fu : Nat) : Nat → AV → AV → AV → AV → Store → Tr R
  | 0 => fun _ _ _ _ _ => .fail
  | m + 1 => c236_1b run fu (c236_1 run fu m)

theorem eq236_1 (run : FuncId → List AV → Store → Tr R) (fu : Nat) (s1 : AV → AV → AV → AV → Store → Tr R) (x1 x9 x10 x11 : AV) (σ : Store) : codeK X0 run (.seq .leaf (.seq (.cond .leaf .leaf) (.seq (.block (.seq .leaf .leaf)) .leaf))) (subC [true, false, false] b236) (frS 0 19 [(1, x1), (9, x9), (10, x10), (11, x11)]) σ (thenK (fun fr σ => s1 (fr.getD 1 .any) (fr.getD 9 .any) (fr.getD 10 .any) (fr.getD 11 .any) σ) (blockK 0 k236)) = c236_1b run fu s1 x1 x9 x10 x11 σ := by kernel_rfl

theorem owed236_1 {run : FuncId → List AV → Store → Tr R} (hrun : RunOK X0 run) (fu : Nat) (s1 : AV → AV → AV → AV → Store → Tr R) : Owes X0 run 19 (.seq .leaf (.seq (.cond .leaf .leaf) (.seq (.block (.seq .leaf .leaf)) .leaf))) (subC [true, false, false] b236) (thenK (fun fr σ => s1 (fr.getD 1 .any) (fr.getD 9 .any) (fr.getD 10 .any) (fr.getD 11 .any) σ) (blockK 0 k236)) :=
  ⟨trivial, ⟨⟨trivial, trivial⟩, ⟨⟨trivial, trivial⟩, trivial⟩⟩⟩

theorem ok236_1 {run : FuncId → List AV → Store → Tr R} (hrun : RunOK X0 run) (fu : Nat) : ∀ fr σ, KOK X0 19 (subC [true, false] b236) fr σ ((fun fr σ => c236_1 run fu fu (fr.getD 1 .any) (fr.getD 9 .any) (fr.getD 10 .any) (fr.getD 11 .any) σ) fr σ) (blockK 0 k236) := by
  have h := KOK.loop (X := X0) (N := 19) (b := (subC [true, false, false] b236)) (k := (blockK 0 k236)) (u := fun m fr σ => c236_1 run fu m (fr.getD 1 .any) (fr.getD 9 .any) (fr.getD 10 .any) (fr.getD 11 .any) σ) (fun _ _ => rfl) (fun m fr σ => KOK.piece env0 hrun [1, 9, 10, 11] (eq236_1 run fu (c236_1 run fu m) (fr.getD 1 .any) (fr.getD 9 .any) (fr.getD 10 .any) (fr.getD 11 .any) σ) (owed236_1 hrun fu (c236_1 run fu m)))
  exact fun fr σ => h fu fr σ

noncomputable def c236 (run : FuncId → List AV → Store → Tr R) (fu : Nat) (x0 x1 : AV) (σ : Store) : Tr R :=
  nchkK x0 fun x7 =>
  addrK x7 2 fun x8 =>
  ld1K σ x8 fun x9 =>
  lenLK x9 fun x10 =>
  c236_1 run fu fu x1 x9 x10 (.int .i64 0) σ

theorem eq236 (run : FuncId → List AV → Store → Tr R) (fu : Nat) (x0 x1 : AV) (σ : Store) : codeK X0 run (.seq .leaf (.block (.sub (fun fr σ => c236_1 run fu fu (fr.getD 1 .any) (fr.getD 9 .any) (fr.getD 10 .any) (fr.getD 11 .any) σ)))) (subC [] b236) ([x0, x1] ++ padA (19 - 2)) σ k236 = c236 run fu x0 x1 σ := by kernel_rfl

theorem ok236 {run : FuncId → List AV → Store → Tr R} (hrun : RunOK X0 run) (fu : Nat) (x0 x1 : AV) (σ : Store) : CallOK X0 236 [x0, x1] σ (c236 run fu x0 x1 σ) :=
  KOK.body (fn := Tryz.f236) (c := subC [] b236) (by kernel_rfl) (by kernel_rfl) (by show 2 ≤ 19; decide) (KOK.whole env0 hrun (eq236 run fu x0 x1 σ) ⟨trivial, (ok236_1 hrun fu)⟩)

-- (*pub-paratext/pub/rscmarkdown.parseState).blocks

noncomputable def b246 : Code := match Tryz.f246.body with | some c => c | none => .skip

noncomputable def k246 : Kont R := retK Tryz.prog [.tmp 2]

noncomputable def c246 (run : FuncId → List AV → Store → Tr R) (fu : Nat) (x0 : AV) (σ : Store) : Tr R :=
  nchkK x0 fun x5 =>
  addrK x5 4 fun x6 =>
  ld1K σ x6 fun x7 =>
  nchkK x0 fun x9 =>
  addrK x9 4 fun x10 =>
  ld1K σ x10 fun x11 =>
  lenLK x11 fun x12 =>
  subK x12 (.int .i64 1) fun x13 =>
  idxK 4 x7 x13 fun x14 =>
  nchkK x14 fun x16 =>
  addrK x16 1 fun x17 =>
  ld1K σ x17 fun x18 =>
  .ret (x18, σ)

theorem eq246 (run : FuncId → List AV → Store → Tr R) (fu : Nat) (x0 : AV) (σ : Store) : codeK X0 run (.seq .leaf (.seq .leaf (.seq .leaf .leaf))) (subC [] b246) ([x0] ++ padA (19 - 1)) σ k246 = c246 run fu x0 σ := by kernel_rfl

theorem ok246 {run : FuncId → List AV → Store → Tr R} (hrun : RunOK X0 run) (fu : Nat) (x0 : AV) (σ : Store) : CallOK X0 246 [x0] σ (c246 run fu x0 σ) :=
  KOK.body (fn := Tryz.f246) (c := subC [] b246) (by kernel_rfl) (by kernel_rfl) (by show 1 ≤ 19; decide) (KOK.whole env0 hrun (eq246 run fu x0 σ) ⟨trivial, ⟨trivial, ⟨trivial, trivial⟩⟩⟩)

-- (*pub-paratext/pub/rscmarkdown.parseState).pos

noncomputable def b247 : Code := match Tryz.f247.body with | some c => c | none => .skip

noncomputable def k247 : Kont R := retK Tryz.prog [.cell 2 104]

noncomputable def c247 (run : FuncId → List AV → Store → Tr R) (fu : Nat) (x0 : AV) (σ : Store) : Tr R :=
  newK σ 209 [(.int .i64 0), (.int .i64 0)] fun x2 σ1 =>
  nchkK x0 fun x5 =>
  addrK x5 4 fun x6 =>
  ld1K σ1 x6 fun x7 =>
  nchkK x0 fun x9 =>
  addrK x9 4 fun x10 =>
  ld1K σ1 x10 fun x11 =>
  lenLK x11 fun x12 =>
  subK x12 (.int .i64 1) fun x13 =>
  idxK 4 x7 x13 fun x14 =>
  nchkK x14 fun x16 =>
  addrK x16 2 fun x17 =>
  ldNK σ1 x17 2 fun x18 =>
  stNK σ1 x2 2 x18 fun _ σ2 =>
  ldNK σ2 x2 2 fun v3 =>
  .ret (v3, σ2)

theorem eq247 (run : FuncId → List AV → Store → Tr R) (fu : Nat) (x0 : AV) (σ : Store) : codeK X0 run (.seq .leaf (.seq .leaf (.seq .leaf .leaf))) (subC [] b247) ([x0] ++ padA (19 - 1)) σ k247 = c247 run fu x0 σ := by kernel_rfl

theorem ok247 {run : FuncId → List AV → Store → Tr R} (hrun : RunOK X0 run) (fu : Nat) (x0 : AV) (σ : Store) : CallOK X0 247 [x0] σ (c247 run fu x0 σ) :=
  KOK.body (fn := Tryz.f247) (c := subC [] b247) (by kernel_rfl) (by kernel_rfl) (by show 1 ≤ 19; decide) (KOK.whole env0 hrun (eq247 run fu x0 σ) ⟨trivial, ⟨trivial, ⟨trivial, trivial⟩⟩⟩)

-- (*pub-paratext/pub/rscmarkdown.Plain).PrintHTML

noncomputable def b249 : Code := match Tryz.f249.body with | some c => c | none => .skip

noncomputable def k249 : Kont R := retK Tryz.prog []

noncomputable def c249 (run : FuncId → List AV → Store → Tr R) (fu : Nat) (x0 x1 : AV) (σ : Store) : Tr R :=
  calK run 252 [] σ fun x4 σ1 =>
  nchkK x0 fun x7 =>
  addrK x7 0 fun x8 =>
  ld1K σ1 x8 fun x9 =>
  calK run 253 [x4, x1, x9] σ1 fun x10 σ2 =>
  ld1K σ x8 fun v3 =>
  must (AV.beq v3 x9) (
  .ret (.tup [], σ2))

theorem eq249 (run : FuncId → List AV → Store → Tr R) (fu : Nat) (x0 x1 : AV) (σ : Store) : codeK X0 run .leaf (subC [] b249) ([x0, x1] ++ padA (11 - 2)) σ k249 = c249 run fu x0 x1 σ := by kernel_rfl

theorem ok249 {run : FuncId → List AV → Store → Tr R} (hrun : RunOK X0 run) (fu : Nat) (x0 x1 : AV) (σ : Store) : CallOK X0 249 [x0, x1] σ (c249 run fu x0 x1 σ) :=
  KOK.body (fn := Tryz.f249) (c := subC [] b249) (by kernel_rfl) (by kernel_rfl) (by show 2 ≤ 11; decide) (KOK.whole env0 hrun (eq249 run fu x0 x1 σ) trivial)

-- pub-paratext/pub/rscmarkdown.htmlEscaper

noncomputable def b252 : Code := match Tryz.f252.body with | some c => c | none => .skip

noncomputable def k252 : Kont R := retK Tryz.prog [.tmp 0]

noncomputable def c252 (run : FuncId → List AV → Store → Tr R) (fu : Nat) (σ : Store) : Tr R :=
  opt (fillK [(.str []), (.str []), (.str []), (.str []), (.str []), (.str []), (.str []), (.str [])] [(0, 1, (.str [34])), (1, 1, (.str [38, 113, 117, 111, 116, 59])), (2, 1, (.str [38])), (3, 1, (.str [38, 97, 109, 112, 59])), (4, 1, (.str [60])), (5, 1, (.str [38, 108, 116, 59])), (6, 1, (.str [62])), (7, 1, (.str [38, 103, 116, 59]))]) fun cs => newSK σ 19 cs 8 1 fun x1 σ1 =>
  .ret (x1, σ1)

theorem eq252 (run : FuncId → List AV → Store → Tr R) (fu : Nat) (σ : Store) : codeK X0 run (.seq .leaf (.seq .leaf .leaf)) (subC [] b252) ([] ++ padA (2 - 0)) σ k252 = c252 run fu σ := by kernel_rfl

theorem ok252 {run : FuncId → List AV → Store → Tr R} (hrun : RunOK X0 run) (fu : Nat) (σ : Store) : CallOK X0 252 [] σ (c252 run fu σ) :=
  KOK.body (fn := Tryz.f252) (c := subC [] b252) (by kernel_rfl) (by kernel_rfl) (by show 0 ≤ 2; decide) (KOK.whole env0 hrun (eq252 run fu σ) ⟨trivial, ⟨trivial, trivial⟩⟩)

-- (pub-paratext/pub/rscmarkdown.zzPairs).Replace

noncomputable def b260 : Code := match Tryz.f260.body with | some c => c | none => .skip

noncomputable def k260 : Kont R := retK Tryz.prog [.tmp 4]

noncomputable def c260 (run : FuncId → List AV → Store → Tr R) (fu : Nat) (x0 x1 : AV) (σ : Store) : Tr R :=
  newK σ 135 [.nils, (.int .i64 0), (.int .i8 0)] fun x5 σ1 =>
  calK run 253 [x0, x5, x1] σ1 fun x8 σ2 =>
  calK run 37 [x5] σ2 fun x9 σ3 =>
  .ret (x9, σ3)

theorem eq260 (run : FuncId → List AV → Store → Tr R) (fu : Nat) (x0 x1 : AV) (σ : Store) : codeK X0 run (.seq .leaf (.seq .leaf (.seq .leaf (.seq .leaf .leaf)))) (subC [] b260) ([x0, x1] ++ padA (10 - 2)) σ k260 = c260 run fu x0 x1 σ := by kernel_rfl

theorem ok260 {run : FuncId → List AV → Store → Tr R} (hrun : RunOK X0 run) (fu : Nat) (x0 x1 : AV) (σ : Store) : CallOK X0 260 [x0, x1] σ (c260 run fu x0 x1 σ) :=
  KOK.body (fn := Tryz.f260) (c := subC [] b260) (by kernel_rfl) (by kernel_rfl) (by show 2 ≤ 10; decide) (KOK.whole env0 hrun (eq260 run fu x0 x1 σ) ⟨trivial, ⟨trivial, ⟨trivial, ⟨trivial, trivial⟩⟩⟩⟩)

-- pub-paratext/pub/rscmarkdown.htmlQuoteEscaper

noncomputable def b261 : Code := match Tryz.f261.body with | some c => c | none => .skip

noncomputable def k261 : Kont R := retK Tryz.prog [.tmp 0]

noncomputable def c261 (run : FuncId → List AV → Store → Tr R) (fu : Nat) (σ : Store) : Tr R :=
  opt (fillK [(.str []), (.str []), (.str []), (.str []), (.str []), (.str []), (.str []), (.str [])] [(0, 1, (.str [34])), (1, 1, (.str [38, 113, 117, 111, 116, 59])), (2, 1, (.str [38])), (3, 1, (.str [38, 97, 109, 112, 59])), (4, 1, (.str [60])), (5, 1, (.str [38, 108, 116, 59])), (6, 1, (.str [62])), (7, 1, (.str [38, 103, 116, 59]))]) fun cs => newSK σ 19 cs 8 1 fun x1 σ1 =>
  .ret (x1, σ1)

theorem eq261 (run : FuncId → List AV → Store → Tr R) (fu : Nat) (σ : Store) : codeK X0 run (.seq .leaf (.seq .leaf .leaf)) (subC [] b261) ([] ++ padA (2 - 0)) σ k261 = c261 run fu σ := by kernel_rfl

theorem ok261 {run : FuncId → List AV → Store → Tr R} (hrun : RunOK X0 run) (fu : Nat) (σ : Store) : CallOK X0 261 [] σ (c261 run fu σ) :=
  KOK.body (fn := Tryz.f261) (c := subC [] b261) (by kernel_rfl) (by kernel_rfl) (by show 0 ≤ 2; decide) (KOK.whole env0 hrun (eq261 run fu σ) ⟨trivial, ⟨trivial, trivial⟩⟩)

-- (*pub-paratext/pub/rscmarkdown.Heading).PrintHTML

noncomputable def b318 : Code := match Tryz.f318.body with | some c => c | none => .skip

noncomputable def k318 : Kont R := retK Tryz.prog []

noncomputable def c318_1 (run : FuncId → List AV → Store → Tr R) (fu : Nat) (x0 x1 : AV) (σ : Store) : Tr R :=
  calK run 254 [x1, (.int .u8 62)] σ fun x28 σ1 =>
  nchkK x0 fun x30 =>
  addrK x30 3 fun x31 =>
  ld1K σ1 x31 fun x32 =>
  calK run 236 [x32, x1] σ1 fun x34 σ2 =>
  nchkK x0 fun x37 =>
  addrK x37 2 fun x38 =>
  ld1K σ2 x38 fun x39 =>
  calK run 199 [x39] σ2 fun x40 σ3 =>
  catK (.str [60, 47, 104]) x40 fun x41 =>
  catK x41 (.str [62, 10]) fun x42 =>
  calK run 240 [x1, x42] σ3 fun x43 σ4 =>
  .ret (.tup [], σ4)

theorem eq318_1 (run : FuncId → List AV → Store → Tr R) (fu : Nat) (x0 x1 : AV) (σ : Store) : codeK X0 run (.seq .leaf (.seq .leaf .leaf)) (subC [true, true] b318) (frS 0 44 [(0, x0), (1, x1)]) σ k318 = c318_1 run fu x0 x1 σ := by kernel_rfl

theorem ok318_1 {run : FuncId → List AV → Store → Tr R} (hrun : RunOK X0 run) (fu : Nat) : ∀ fr σ, KOK X0 44 (subC [true, true] b318) fr σ ((fun fr σ => c318_1 run fu (fr.getD 0 .any) (fr.getD 1 .any) σ) fr σ) k318 := fun fr σ =>
  KOK.piece env0 hrun [0, 1] (eq318_1 run fu (fr.getD 0 .any) (fr.getD 1 .any) σ) ⟨trivial, ⟨trivial, trivial⟩⟩

noncomputable def c318 (run : FuncId → List AV → Store → Tr R) (fu : Nat) (x0 x1 : AV) (σ : Store) : Tr R :=
  nchkK x0 fun x6 =>
  addrK x6 2 fun x7 =>
  ld1K σ x7 fun x8 =>
  calK run 199 [x8] σ fun x9 σ1 =>
  catK (.str [60, 104]) x9 fun x10 =>
  calK run 240 [x1, x10] σ1 fun x11 σ2 =>
  nchkK x0 fun x13 =>
  addrK x13 4 fun x14 =>
  ld1K σ2 x14 fun x15 =>
  neSK x15 (.str []) fun x16 =>
  ifK x16 (
  calK run 261 [] σ2 fun x18 σ3 =>
  nchkK x0 fun x20 =>
  addrK x20 4 fun x21 =>
  ld1K σ3 x21 fun x22 =>
  calK run 260 [x18, x22] σ3 fun x23 σ4 =>
  catK (.str [32, 105, 100, 61, 34]) x23 fun x24 =>
  catK x24 (.str [34]) fun x25 =>
  calK run 240 [x1, x25] σ4 fun x26 σ5 =>
  ld1K σ2 x21 fun v6 =>
  must (AV.beq v6 x22) (
  c318_1 run fu x0 x1 σ5)) (
  c318_1 run fu x0 x1 σ2)

theorem eq318 (run : FuncId → List AV → Store → Tr R) (fu : Nat) (x0 x1 : AV) (σ : Store) : codeK X0 run (.seq .leaf (.seq (.seq .leaf (.cond .leaf .leaf)) (.sub (fun fr σ => c318_1 run fu (fr.getD 0 .any) (fr.getD 1 .any) σ)))) (subC [] b318) ([x0, x1] ++ padA (44 - 2)) σ k318 = c318 run fu x0 x1 σ := by kernel_rfl

theorem ok318 {run : FuncId → List AV → Store → Tr R} (hrun : RunOK X0 run) (fu : Nat) (x0 x1 : AV) (σ : Store) : CallOK X0 318 [x0, x1] σ (c318 run fu x0 x1 σ) :=
  KOK.body (fn := Tryz.f318) (c := subC [] b318) (by kernel_rfl) (by kernel_rfl) (by show 2 ≤ 44; decide) (KOK.whole env0 hrun (eq318 run fu x0 x1 σ) ⟨trivial, ⟨⟨trivial, ⟨trivial, trivial⟩⟩, (ok318_1 hrun fu)⟩⟩)

end Go.Proofs.YtfmgdjkcdmjloaaGreatDoor
