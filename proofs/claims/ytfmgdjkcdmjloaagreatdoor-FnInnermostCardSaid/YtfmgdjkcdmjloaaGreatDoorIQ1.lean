/- Functions of the program, told as Lean functions of abstract values and stores, each with its proof. -/
import Derived.Test.YtfmgdjkcdmjloaaGreatDoorSmX
set_option linter.unusedVariables false
set_option linter.unusedSimpArgs false
namespace Go.Proofs.YtfmgdjkcdmjloaaGreatDoor
open Go.AM
-- pub-paratext/laws.FnInnermost

noncomputable def b6 : Code := match Tryz.f6.body with | some c => c | none => .skip

noncomputable def k6 : Kont R := retK Tryz.prog [.tmp 4]

noncomputable def c6_1 (run : FuncId → List AV → Store → Tr R) (fu : Nat) (x5 x6 : AV) (σ : Store) : Tr R :=
  bldK [(.bool false), (.bool false), (.bool false), (.bool false), (.bool false), (.bool false), (.bool false), (.bool false), (.bool false), (.bool false)] [] fun x38 =>
  calK run 12 [x38, x5] σ fun x40 σ1 =>
  catK (.str [60, 112, 62]) x6 fun x42 =>
  catK x42 (.str [60, 47, 112, 62, 10]) fun x43 =>
  eqSK x40 x43 fun x44 =>
  .ret (x44, σ1)

theorem eq6_1 (run : FuncId → List AV → Store → Tr R) (fu : Nat) (x5 x6 : AV) (σ : Store) : codeK X0 run (.seq .leaf .leaf) (subC [true, true, true, true, true] b6) (frS 0 45 [(5, x5), (6, x6)]) σ k6 = c6_1 run fu x5 x6 σ := by kernel_rfl

theorem ok6_1 {run : FuncId → List AV → Store → Tr R} (hrun : RunOK X0 run) (fu : Nat) : ∀ fr σ, KOK X0 45 (subC [true, true, true, true, true] b6) fr σ ((fun fr σ => c6_1 run fu (fr.getD 5 .any) (fr.getD 6 .any) σ) fr σ) k6 := fun fr σ =>
  KOK.piece env0 hrun [5, 6] (eq6_1 run fu (fr.getD 5 .any) (fr.getD 6 .any) σ) ⟨trivial, trivial⟩

noncomputable def c6_2b (run : FuncId → List AV → Store → Tr R) (fu : Nat) (s2 : AV → AV → AV → AV → Store → Tr R) (x5 x6 x28 x29 : AV) (σ : Store) : Tr R :=
  cmpK .lss x29 x28 fun x30 =>
  ifK x30 (
  catK (.str [91]) x5 fun x32 =>
  catK x32 (.str [93, 40, 47, 118, 41]) fun x33 =>
  catK (.str [91]) x6 fun x35 =>
  catK x35 (.str [93, 40, 47, 118, 41]) fun x36 =>
  addK x29 (.int .i64 1) fun x37 =>
  s2 x33 x36 x28 x37 σ) (
  c6_1 run fu x5 x6 σ)

noncomputable def c6_2 (run : FuncId → List AV → Store → Tr R) (fu : Nat) : Nat → AV → AV → AV → AV → Store → Tr R
  | 0 => fun _ _ _ _ _ => .fail
  | m + 1 => c6_2b run fu (c6_2 run fu m)

theorem eq6_2 (run : FuncId → List AV → Store → Tr R) (fu : Nat) (s2 : AV → AV → AV → AV → Store → Tr R) (x5 x6 x28 x29 : AV) (σ : Store) : codeK X0 run (.seq .leaf (.seq (.cond .leaf .leaf) (.seq (.block .leaf) .leaf))) (subC [true, true, true, true, false, true, false, false] b6) (frS 0 45 [(5, x5), (6, x6), (28, x28), (29, x29)]) σ (thenK (fun fr σ => s2 (fr.getD 5 .any) (fr.getD 6 .any) (fr.getD 28 .any) (fr.getD 29 .any) σ) (blockK 0 (thenK (fun fr σ => c6_1 run fu (fr.getD 5 .any) (fr.getD 6 .any) σ) k6))) = c6_2b run fu s2 x5 x6 x28 x29 σ := by kernel_rfl

theorem owed6_2 {run : FuncId → List AV → Store → Tr R} (hrun : RunOK X0 run) (fu : Nat) (s2 : AV → AV → AV → AV → Store → Tr R) : Owes X0 run 45 (.seq .leaf (.seq (.cond .leaf .leaf) (.seq (.block .leaf) .leaf))) (subC [true, true, true, true, false, true, false, false] b6) (thenK (fun fr σ => s2 (fr.getD 5 .any) (fr.getD 6 .any) (fr.getD 28 .any) (fr.getD 29 .any) σ) (blockK 0 (thenK (fun fr σ => c6_1 run fu (fr.getD 5 .any) (fr.getD 6 .any) σ) k6))) :=
  ⟨trivial, ⟨⟨trivial, trivial⟩, ⟨trivial, trivial⟩⟩⟩

theorem ok6_2 {run : FuncId → List AV → Store → Tr R} (hrun : RunOK X0 run) (fu : Nat) : ∀ fr σ, KOK X0 45 (subC [true, true, true, true, false, true, false] b6) fr σ ((fun fr σ => c6_2 run fu fu (fr.getD 5 .any) (fr.getD 6 .any) (fr.getD 28 .any) (fr.getD 29 .any) σ) fr σ) (blockK 0 (thenK (fun fr σ => c6_1 run fu (fr.getD 5 .any) (fr.getD 6 .any) σ) k6)) := by
  have h := KOK.loop (X := X0) (N := 45) (b := (subC [true, true, true, true, false, true, false, false] b6)) (k := (blockK 0 (thenK (fun fr σ => c6_1 run fu (fr.getD 5 .any) (fr.getD 6 .any) σ) k6))) (u := fun m fr σ => c6_2 run fu m (fr.getD 5 .any) (fr.getD 6 .any) (fr.getD 28 .any) (fr.getD 29 .any) σ) (fun _ _ => rfl) (fun m fr σ => KOK.piece env0 hrun [5, 6, 28, 29] (eq6_2 run fu (c6_2 run fu m) (fr.getD 5 .any) (fr.getD 6 .any) (fr.getD 28 .any) (fr.getD 29 .any) σ) (owed6_2 hrun fu (c6_2 run fu m)))
  exact fun fr σ => h fu fr σ

noncomputable def c6 (run : FuncId → List AV → Store → Tr R) (fu : Nat) (x0 x1 : AV) (σ : Store) : Tr R :=
  lenSK x0 fun x8 =>
  cmpK .gtr x8 (.int .i64 2147483647) fun x9 =>
  ifK x9 (
  .ret ((.bool true), σ)) (
  calK run 14 [x0] σ fun x11 σ1 =>
  notK x11 fun x12 =>
  grdK x12 false σ1 (fun f => f x1 σ1) fun x14 σ2 =>
  grdK x12 false σ2 (fun f => cmpK .lss x14 (.int .i64 2) fun v => f v σ2) fun x15 σ3 =>
  pickK x12 (.bool true) x15 fun x16 =>
  grdK x16 false σ3 (fun f => f x1 σ3) fun x18 σ4 =>
  grdK x16 false σ4 (fun f => cmpK .gtr x18 (.int .i64 30) fun v => f v σ4) fun x19 σ5 =>
  pickK x16 (.bool true) x19 fun x20 =>
  ifK x20 (
  .ret ((.bool true), σ5)) (
  catK (.str [91]) x0 fun x22 =>
  catK x22 (.str [93, 40, 47, 117, 41]) fun x23 =>
  catK (.str [60, 97, 32, 104, 114, 101, 102, 61, 34, 47, 117, 34, 62]) x0 fun x25 =>
  catK x25 (.str [60, 47, 97, 62]) fun x26 =>
  subK x1 (.int .i64 1) fun x28 =>
  c6_2 run fu fu x23 x26 x28 (.int .i64 0) σ5))

theorem eq6 (run : FuncId → List AV → Store → Tr R) (fu : Nat) (x0 x1 : AV) (σ : Store) : codeK X0 run (.seq .leaf (.seq (.seq .leaf (.cond (.seq .leaf .leaf) .leaf)) (.seq (.seq .leaf (.cond (.seq .leaf .leaf) .leaf)) (.seq .leaf (.seq (.seq .leaf (.block (.sub (fun fr σ => c6_2 run fu fu (fr.getD 5 .any) (fr.getD 6 .any) (fr.getD 28 .any) (fr.getD 29 .any) σ)))) (.sub (fun fr σ => c6_1 run fu (fr.getD 5 .any) (fr.getD 6 .any) σ))))))) (subC [] b6) ([x0, x1] ++ padA (45 - 2)) σ k6 = c6 run fu x0 x1 σ := by kernel_rfl

theorem ok6 {run : FuncId → List AV → Store → Tr R} (hrun : RunOK X0 run) (fu : Nat) (x0 x1 : AV) (σ : Store) : CallOK X0 6 [x0, x1] σ (c6 run fu x0 x1 σ) :=
  KOK.body (fn := Tryz.f6) (c := subC [] b6) (by kernel_rfl) (by kernel_rfl) (by show 2 ≤ 45; decide) (KOK.whole env0 hrun (eq6 run fu x0 x1 σ) ⟨trivial, ⟨⟨trivial, ⟨⟨trivial, trivial⟩, trivial⟩⟩, ⟨⟨trivial, ⟨⟨trivial, trivial⟩, trivial⟩⟩, ⟨trivial, ⟨⟨trivial, (ok6_2 hrun fu)⟩, (ok6_1 hrun fu)⟩⟩⟩⟩⟩)

-- pub-paratext/impl.HTML

noncomputable def b12 : Code := match Tryz.f12.body with | some c => c | none => .skip

noncomputable def k12 : Kont R := retK Tryz.prog [.tmp 4]

noncomputable def c12 (run : FuncId → List AV → Store → Tr R) (fu : Nat) (x0 x1 : AV) (σ : Store) : Tr R :=
  boxK σ 51 x0 fun x2 σ1 =>
  ldNK σ1 x2 10 fun x5 =>
  calK run 26 [x5] σ1 fun x6 σ2 =>
  calK run 27 [x6, x1] σ2 fun x8 σ3 =>
  calK run 25 [(.iface 48 x8)] σ3 fun x10 σ4 =>
  .ret (x10, σ4)

theorem eq12 (run : FuncId → List AV → Store → Tr R) (fu : Nat) (x0 x1 : AV) (σ : Store) : codeK X0 run (.seq .leaf (.seq .leaf .leaf)) (subC [] b12) ([x0, x1] ++ padA (11 - 2)) σ k12 = c12 run fu x0 x1 σ := by kernel_rfl

theorem ok12 {run : FuncId → List AV → Store → Tr R} (hrun : RunOK X0 run) (fu : Nat) (x0 x1 : AV) (σ : Store) : CallOK X0 12 [x0, x1] σ (c12 run fu x0 x1 σ) :=
  KOK.body (fn := Tryz.f12) (c := subC [] b12) (by kernel_rfl) (by kernel_rfl) (by show 2 ≤ 11; decide) (KOK.whole env0 hrun (eq12 run fu x0 x1 σ) ⟨trivial, ⟨trivial, trivial⟩⟩)

-- pub-paratext/laws.word

noncomputable def b14 : Code := match Tryz.f14.body with | some c => c | none => .skip

noncomputable def k14 : Kont R := retK Tryz.prog [.tmp 2]

noncomputable def c14 (run : FuncId → List AV → Store → Tr R) (fu : Nat) (x0 : AV) (σ : Store) : Tr R :=
  neSK x0 (.str []) fun x4 =>
  grdK x4 true σ (fun f => f x0 σ) fun x6 σ1 =>
  grdK x4 true σ1 (fun f => calK run 11 [x6, (.str [97, 98, 122, 48, 49, 57]), (.int .i64 20)] σ1 f) fun x7 σ2 =>
  pickK x4 x7 (.bool false) fun x8 =>
  .ret (x8, σ2)

theorem eq14 (run : FuncId → List AV → Store → Tr R) (fu : Nat) (x0 : AV) (σ : Store) : codeK X0 run (.seq .leaf (.seq .leaf .leaf)) (subC [] b14) ([x0] ++ padA (9 - 1)) σ k14 = c14 run fu x0 σ := by kernel_rfl

theorem ok14 {run : FuncId → List AV → Store → Tr R} (hrun : RunOK X0 run) (fu : Nat) (x0 : AV) (σ : Store) : CallOK X0 14 [x0] σ (c14 run fu x0 σ) :=
  KOK.body (fn := Tryz.f14) (c := subC [] b14) (by kernel_rfl) (by kernel_rfl) (by show 1 ≤ 9; decide) (KOK.whole env0 hrun (eq14 run fu x0 σ) ⟨trivial, ⟨trivial, trivial⟩⟩)

-- pub-paratext/pub/rscmarkdown.ToHTML

noncomputable def b25 : Code := match Tryz.f25.body with | some c => c | none => .skip

noncomputable def k25 : Kont R := retK Tryz.prog [.tmp 2]

noncomputable def c25 (run : FuncId → List AV → Store → Tr R) (fu : Nat) (x0 : AV) (σ : Store) : Tr R :=
  newK σ 135 [.nils, (.int .i64 0), (.int .i8 0)] fun x3 σ1 =>
  invK X0 run x0 "PrintHTML" [x3] σ1 fun x5 σ2 =>
  calK run 37 [x3] σ2 fun x6 σ3 =>
  .ret (x6, σ3)

theorem eq25 (run : FuncId → List AV → Store → Tr R) (fu : Nat) (x0 : AV) (σ : Store) : codeK X0 run (.seq .leaf (.seq .leaf (.seq .leaf (.seq .leaf .leaf)))) (subC [] b25) ([x0] ++ padA (7 - 1)) σ k25 = c25 run fu x0 σ := by kernel_rfl

theorem ok25 {run : FuncId → List AV → Store → Tr R} (hrun : RunOK X0 run) (fu : Nat) (x0 : AV) (σ : Store) : CallOK X0 25 [x0] σ (c25 run fu x0 σ) :=
  KOK.body (fn := Tryz.f25) (c := subC [] b25) (by kernel_rfl) (by kernel_rfl) (by show 1 ≤ 7; decide) (KOK.whole env0 hrun (eq25 run fu x0 σ) ⟨trivial, ⟨trivial, ⟨trivial, ⟨trivial, trivial⟩⟩⟩⟩)

-- pub-paratext/impl.parser

noncomputable def b26 : Code := match Tryz.f26.body with | some c => c | none => .skip

noncomputable def k26 : Kont R := retK Tryz.prog [.tmp 2]

noncomputable def c26 (run : FuncId → List AV → Store → Tr R) (fu : Nat) (x0 : AV) (σ : Store) : Tr R :=
  boxK σ 51 x0 fun x1 σ1 =>
  addrK x1 8 fun x3 =>
  ld1K σ1 x3 fun x4 =>
  addrK x1 0 fun x5 =>
  ld1K σ1 x5 fun x6 =>
  addrK x1 1 fun x7 =>
  ld1K σ1 x7 fun x8 =>
  addrK x1 2 fun x9 =>
  ld1K σ1 x9 fun x10 =>
  addrK x1 3 fun x11 =>
  ld1K σ1 x11 fun x12 =>
  addrK x1 4 fun x13 =>
  ld1K σ1 x13 fun x14 =>
  addrK x1 9 fun x15 =>
  ld1K σ1 x15 fun x16 =>
  addrK x1 5 fun x17 =>
  ld1K σ1 x17 fun x18 =>
  addrK x1 6 fun x19 =>
  ld1K σ1 x19 fun x20 =>
  addrK x1 7 fun x21 =>
  ld1K σ1 x21 fun x22 =>
  bldK [(.bool false), (.bool false), (.bool false), (.bool false), (.bool false), (.bool false), (.bool false), (.bool false), (.bool false), (.bool false)] [(0, 1, x4), (1, 1, x6), (2, 1, x8), (3, 1, x10), (4, 1, x12), (5, 1, x14), (6, 1, x16), (7, 1, x18), (8, 1, x20), (9, 1, x22)] fun x23 =>
  boxK σ1 143 x23 fun x24 σ2 =>
  .ret (x24, σ2)

theorem eq26 (run : FuncId → List AV → Store → Tr R) (fu : Nat) (x0 : AV) (σ : Store) : codeK X0 run (.seq .leaf (.seq .leaf .leaf)) (subC [] b26) ([x0] ++ padA (25 - 1)) σ k26 = c26 run fu x0 σ := by kernel_rfl

theorem ok26 {run : FuncId → List AV → Store → Tr R} (hrun : RunOK X0 run) (fu : Nat) (x0 : AV) (σ : Store) : CallOK X0 26 [x0] σ (c26 run fu x0 σ) :=
  KOK.body (fn := Tryz.f26) (c := subC [] b26) (by kernel_rfl) (by kernel_rfl) (by show 1 ≤ 25; decide) (KOK.whole env0 hrun (eq26 run fu x0 σ) ⟨trivial, ⟨trivial, trivial⟩⟩)

-- (*pub-paratext/pub/rscmarkdown.Parser).Parse

noncomputable def b27 : Code := match Tryz.f27.body with | some c => c | none => .skip

noncomputable def k27 : Kont R := retK Tryz.prog [.tmp 4]

noncomputable def c27 (run : FuncId → List AV → Store → Tr R) (fu : Nat) (x0 x1 : AV) (σ : Store) : Tr R :=
  calK run 38 [x0, x1] σ fun x10 σ1 =>
  extK x10 0 fun x11 =>
  extK x10 1 fun x12 =>
  .ret (x11, σ1)

theorem eq27 (run : FuncId → List AV → Store → Tr R) (fu : Nat) (x0 x1 : AV) (σ : Store) : codeK X0 run (.seq .leaf (.seq .leaf (.seq .leaf .leaf))) (subC [] b27) ([x0, x1] ++ padA (14 - 2)) σ k27 = c27 run fu x0 x1 σ := by kernel_rfl

theorem ok27 {run : FuncId → List AV → Store → Tr R} (hrun : RunOK X0 run) (fu : Nat) (x0 x1 : AV) (σ : Store) : CallOK X0 27 [x0, x1] σ (c27 run fu x0 x1 σ) :=
  KOK.body (fn := Tryz.f27) (c := subC [] b27) (by kernel_rfl) (by kernel_rfl) (by show 2 ≤ 14; decide) (KOK.whole env0 hrun (eq27 run fu x0 x1 σ) ⟨trivial, ⟨trivial, ⟨trivial, trivial⟩⟩⟩)

-- (*pub-paratext/pub/rscmarkdown.Parser).parse

noncomputable def b38 : Code := match Tryz.f38.body with | some c => c | none => .skip

noncomputable def k38 : Kont R := retK Tryz.prog [.tmp 4, .tmp 5]

noncomputable def c38_4 (run : FuncId → List AV → Store → Tr R) (fu : Nat) (x6 : AV) (σ : Store) : Tr R :=
  addrK x6 1 fun x110 =>
  ld1K σ x110 fun x111 =>
  addrK x6 6 fun x112 =>
  ld1K σ x112 fun x113 =>
  .ret (.tup [x111, x113], σ)

theorem eq38_4 (run : FuncId → List AV → Store → Tr R) (fu : Nat) (x6 : AV) (σ : Store) : codeK X0 run (.seq .leaf .leaf) (subC [true, true, true, true, true, true, true, true, true, true] b38) (frS 0 114 [(6, x6)]) σ k38 = c38_4 run fu x6 σ := by kernel_rfl

theorem ok38_4 {run : FuncId → List AV → Store → Tr R} (hrun : RunOK X0 run) (fu : Nat) : ∀ fr σ, KOK X0 114 (subC [true, true, true, true, true, true, true, true, true, true] b38) fr σ ((fun fr σ => c38_4 run fu (fr.getD 6 .any) σ) fr σ) k38 := fun fr σ =>
  KOK.piece env0 hrun [6] (eq38_4 run fu (fr.getD 6 .any) σ) ⟨trivial, trivial⟩

noncomputable def c38_5b (run : FuncId → List AV → Store → Tr R) (fu : Nat) (s5 : AV → AV → AV → AV → Store → Tr R) (x6 x101 x102 x103 : AV) (σ : Store) : Tr R :=
  cmpK .lss x103 x102 fun x104 =>
  ifK x104 (
  idxK 1 x101 x103 fun x105 =>
  ld1K σ x105 fun x106 =>
  calK run 54 [x6, x106] σ fun x108 σ1 =>
  addK x103 (.int .i64 1) fun x109 =>
  s5 x6 x101 x102 x109 σ1) (
  c38_4 run fu x6 σ)

noncomputable def c38_5 (run : FuncId → List AV → Store → Tr R) (fu : Nat) : Nat → AV → AV → AV → AV → Store → Tr R
  | 0 => fun _ _ _ _ _ => .fail
  | m + 1 => c38_5b run fu (c38_5 run fu m)

theorem eq38_5 (run : FuncId → List AV → Store → Tr R) (fu : Nat) (s5 : AV → AV → AV → AV → Store → Tr R) (x6 x101 x102 x103 : AV) (σ : Store) : codeK X0 run (.seq .leaf (.seq (.cond .leaf .leaf) (.seq (.block (.seq .leaf .leaf)) .leaf))) (subC [true, true, true, true, true, true, true, true, true, false, true, false, true, false, false] b38) (frS 0 114 [(6, x6), (101, x101), (102, x102), (103, x103)]) σ (thenK (fun fr σ => s5 (fr.getD 6 .any) (fr.getD 101 .any) (fr.getD 102 .any) (fr.getD 103 .any) σ) (blockK 5 (thenK (fun fr σ => c38_4 run fu (fr.getD 6 .any) σ) k38))) = c38_5b run fu s5 x6 x101 x102 x103 σ := by kernel_rfl

theorem owed38_5 {run : FuncId → List AV → Store → Tr R} (hrun : RunOK X0 run) (fu : Nat) (s5 : AV → AV → AV → AV → Store → Tr R) : Owes X0 run 114 (.seq .leaf (.seq (.cond .leaf .leaf) (.seq (.block (.seq .leaf .leaf)) .leaf))) (subC [true, true, true, true, true, true, true, true, true, false, true, false, true, false, false] b38) (thenK (fun fr σ => s5 (fr.getD 6 .any) (fr.getD 101 .any) (fr.getD 102 .any) (fr.getD 103 .any) σ) (blockK 5 (thenK (fun fr σ => c38_4 run fu (fr.getD 6 .any) σ) k38))) :=
  ⟨trivial, ⟨⟨trivial, trivial⟩, ⟨⟨trivial, trivial⟩, trivial⟩⟩⟩

theorem ok38_5 {run : FuncId → List AV → Store → Tr R} (hrun : RunOK X0 run) (fu : Nat) : ∀ fr σ, KOK X0 114 (subC [true, true, true, true, true, true, true, true, true, false, true, false, true, false] b38) fr σ ((fun fr σ => c38_5 run fu fu (fr.getD 6 .any) (fr.getD 101 .any) (fr.getD 102 .any) (fr.getD 103 .any) σ) fr σ) (blockK 5 (thenK (fun fr σ => c38_4 run fu (fr.getD 6 .any) σ) k38)) := by
  have h := KOK.loop (X := X0) (N := 114) (b := (subC [true, true, true, true, true, true, true, true, true, false, true, false, true, false, false] b38)) (k := (blockK 5 (thenK (fun fr σ => c38_4 run fu (fr.getD 6 .any) σ) k38))) (u := fun m fr σ => c38_5 run fu m (fr.getD 6 .any) (fr.getD 101 .any) (fr.getD 102 .any) (fr.getD 103 .any) σ) (fun _ _ => rfl) (fun m fr σ => KOK.piece env0 hrun [6, 101, 102, 103] (eq38_5 run fu (c38_5 run fu m) (fr.getD 6 .any) (fr.getD 101 .any) (fr.getD 102 .any) (fr.getD 103 .any) σ) (owed38_5 hrun fu (c38_5 run fu m)))
  exact fun fr σ => h fu fr σ

noncomputable def c38_3 (run : FuncId → List AV → Store → Tr R) (fu : Nat) (x0 x6 : AV) (σ : Store) : Tr R :=
  nchkK x0 fun x97 =>
  addrK x97 2 fun x98 =>
  ld1K σ x98 fun x99 =>
  ifK x99 (
  addrK x6 10 fun x100 =>
  ld1K σ x100 fun x101 =>
  lenLK x101 fun x102 =>
  c38_5 run fu fu x6 x101 x102 (.int .i64 0) σ) (
  c38_4 run fu x6 σ)

theorem eq38_3 (run : FuncId → List AV → Store → Tr R) (fu : Nat) (x0 x6 : AV) (σ : Store) : codeK X0 run (.seq (.seq .leaf (.cond (.seq .leaf (.block (.sub (fun fr σ => c38_5 run fu fu (fr.getD 6 .any) (fr.getD 101 .any) (fr.getD 102 .any) (fr.getD 103 .any) σ)))) .leaf)) (.sub (fun fr σ => c38_4 run fu (fr.getD 6 .any) σ))) (subC [true, true, true, true, true, true, true, true, true] b38) (frS 0 114 [(0, x0), (6, x6)]) σ k38 = c38_3 run fu x0 x6 σ := by kernel_rfl

theorem ok38_3 {run : FuncId → List AV → Store → Tr R} (hrun : RunOK X0 run) (fu : Nat) : ∀ fr σ, KOK X0 114 (subC [true, true, true, true, true, true, true, true, true] b38) fr σ ((fun fr σ => c38_3 run fu (fr.getD 0 .any) (fr.getD 6 .any) σ) fr σ) k38 := fun fr σ =>
  KOK.piece env0 hrun [0, 6] (eq38_3 run fu (fr.getD 0 .any) (fr.getD 6 .any) σ) ⟨⟨trivial, ⟨⟨trivial, (ok38_5 hrun fu)⟩, trivial⟩⟩, (ok38_4 hrun fu)⟩

noncomputable def c38_6b (run : FuncId → List AV → Store → Tr R) (fu : Nat) (s6 : AV → AV → AV → AV → AV → Store → Tr R) (x0 x6 x81 x82 x83 : AV) (σ : Store) : Tr R :=
  cmpK .lss x83 x82 fun x84 =>
  ifK x84 (
  idxK 1 x81 x83 fun x85 =>
  ld1K σ x85 fun x86 =>
  nchkK x86 fun x89 =>
  addrK x89 3 fun x90 =>
  ld1K σ x90 fun x91 =>
  calK run 53 [x6, x91] σ fun x92 σ1 =>
  nchkK x86 fun x93 =>
  addrK x93 2 fun x94 =>
  st1K σ1 x94 x92 fun _ σ2 =>
  addK x83 (.int .i64 1) fun x95 =>
  s6 x0 x6 x81 x82 x95 σ2) (
  c38_3 run fu x0 x6 σ)

noncomputable def c38_6 (run : FuncId → List AV → Store → Tr R) (fu : Nat) : Nat → AV → AV → AV → AV → AV → Store → Tr R
  | 0 => fun _ _ _ _ _ _ => .fail
  | m + 1 => c38_6b run fu (c38_6 run fu m)

theorem eq38_6 (run : FuncId → List AV → Store → Tr R) (fu : Nat) (s6 : AV → AV → AV → AV → AV → Store → Tr R) (x0 x6 x81 x82 x83 : AV) (σ : Store) : codeK X0 run (.seq .leaf (.seq (.cond .leaf .leaf) (.seq (.block (.seq .leaf .leaf)) .leaf))) (subC [true, true, true, true, true, true, true, true, false, true, false, false] b38) (frS 0 114 [(0, x0), (6, x6), (81, x81), (82, x82), (83, x83)]) σ (thenK (fun fr σ => s6 (fr.getD 0 .any) (fr.getD 6 .any) (fr.getD 81 .any) (fr.getD 82 .any) (fr.getD 83 .any) σ) (blockK 3 (thenK (fun fr σ => c38_3 run fu (fr.getD 0 .any) (fr.getD 6 .any) σ) k38))) = c38_6b run fu s6 x0 x6 x81 x82 x83 σ := by kernel_rfl

theorem owed38_6 {run : FuncId → List AV → Store → Tr R} (hrun : RunOK X0 run) (fu : Nat) (s6 : AV → AV → AV → AV → AV → Store → Tr R) : Owes X0 run 114 (.seq .leaf (.seq (.cond .leaf .leaf) (.seq (.block (.seq .leaf .leaf)) .leaf))) (subC [true, true, true, true, true, true, true, true, false, true, false, false] b38) (thenK (fun fr σ => s6 (fr.getD 0 .any) (fr.getD 6 .any) (fr.getD 81 .any) (fr.getD 82 .any) (fr.getD 83 .any) σ) (blockK 3 (thenK (fun fr σ => c38_3 run fu (fr.getD 0 .any) (fr.getD 6 .any) σ) k38))) :=
  ⟨trivial, ⟨⟨trivial, trivial⟩, ⟨⟨trivial, trivial⟩, trivial⟩⟩⟩

theorem ok38_6 {run : FuncId → List AV → Store → Tr R} (hrun : RunOK X0 run) (fu : Nat) : ∀ fr σ, KOK X0 114 (subC [true, true, true, true, true, true, true, true, false, true, false] b38) fr σ ((fun fr σ => c38_6 run fu fu (fr.getD 0 .any) (fr.getD 6 .any) (fr.getD 81 .any) (fr.getD 82 .any) (fr.getD 83 .any) σ) fr σ) (blockK 3 (thenK (fun fr σ => c38_3 run fu (fr.getD 0 .any) (fr.getD 6 .any) σ) k38)) := by
  have h := KOK.loop (X := X0) (N := 114) (b := (subC [true, true, true, true, true, true, true, true, false, true, false, false] b38)) (k := (blockK 3 (thenK (fun fr σ => c38_3 run fu (fr.getD 0 .any) (fr.getD 6 .any) σ) k38))) (u := fun m fr σ => c38_6 run fu m (fr.getD 0 .any) (fr.getD 6 .any) (fr.getD 81 .any) (fr.getD 82 .any) (fr.getD 83 .any) σ) (fun _ _ => rfl) (fun m fr σ => KOK.piece env0 hrun [0, 6, 81, 82, 83] (eq38_6 run fu (c38_6 run fu m) (fr.getD 0 .any) (fr.getD 6 .any) (fr.getD 81 .any) (fr.getD 82 .any) (fr.getD 83 .any) σ) (owed38_6 hrun fu (c38_6 run fu m)))
  exact fun fr σ => h fu fr σ

noncomputable def c38_2 (run : FuncId → List AV → Store → Tr R) (fu : Nat) (x0 x6 : AV) (σ : Store) : Tr R :=
  calK run 52 [x6, (.int .i64 0)] σ fun x79 σ1 =>
  addrK x6 11 fun x80 =>
  ld1K σ1 x80 fun x81 =>
  lenLK x81 fun x82 =>
  c38_6 run fu fu x0 x6 x81 x82 (.int .i64 0) σ1

theorem eq38_2 (run : FuncId → List AV → Store → Tr R) (fu : Nat) (x0 x6 : AV) (σ : Store) : codeK X0 run (.seq .leaf (.seq (.seq .leaf (.block (.sub (fun fr σ => c38_6 run fu fu (fr.getD 0 .any) (fr.getD 6 .any) (fr.getD 81 .any) (fr.getD 82 .any) (fr.getD 83 .any) σ)))) (.sub (fun fr σ => c38_3 run fu (fr.getD 0 .any) (fr.getD 6 .any) σ)))) (subC [true, true, true, true, true, true, true] b38) (frS 0 114 [(0, x0), (6, x6)]) σ k38 = c38_2 run fu x0 x6 σ := by kernel_rfl

theorem ok38_2 {run : FuncId → List AV → Store → Tr R} (hrun : RunOK X0 run) (fu : Nat) : ∀ fr σ, KOK X0 114 (subC [true, true, true, true, true, true, true] b38) fr σ ((fun fr σ => c38_2 run fu (fr.getD 0 .any) (fr.getD 6 .any) σ) fr σ) k38 := fun fr σ =>
  KOK.piece env0 hrun [0, 6] (eq38_2 run fu (fr.getD 0 .any) (fr.getD 6 .any) σ) ⟨trivial, ⟨⟨trivial, (ok38_6 hrun fu)⟩, (ok38_3 hrun fu)⟩⟩

noncomputable def c38_8 (run : FuncId → List AV → Store → Tr R) (fu : Nat) (s7 : AV → AV → AV → Store → Tr R) (x0 x1 x6 x7 x10 : AV) (σ : Store) : Tr R :=
  addrK x6 3 fun x71 =>
  ld1K σ x71 fun x72 =>
  addK x72 (.int .i64 1) fun x73 =>
  addrK x6 3 fun x74 =>
  st1K σ x74 x73 fun _ σ1 =>
  bldK [(.int .i64 0), (.int .i64 0), (.int .i64 0), (.str []), (.int .u8 0)] [(3, 1, x7), (4, 1, x10)] fun x77 =>
  calK run 51 [x6, x77] σ1 fun x78 σ2 =>
  s7 x0 x1 x6 σ2

theorem eq38_8 (run : FuncId → List AV → Store → Tr R) (fu : Nat) (s7 : AV → AV → AV → Store → Tr R) (x0 x1 x6 x7 x10 : AV) (σ : Store) : codeK X0 run (.seq .leaf .leaf) (subC [true, true, true, true, true, true, false, false, false, true, false, true, true, true, true, true] b38) (frS 0 114 [(0, x0), (1, x1), (6, x6), (7, x7), (10, x10)]) σ (blockK 1 (thenK (fun fr σ => s7 (fr.getD 0 .any) (fr.getD 1 .any) (fr.getD 6 .any) σ) (blockK 0 (thenK (fun fr σ => c38_2 run fu (fr.getD 0 .any) (fr.getD 6 .any) σ) k38)))) = c38_8 run fu s7 x0 x1 x6 x7 x10 σ := by kernel_rfl

theorem ok38_8 {run : FuncId → List AV → Store → Tr R} (hrun : RunOK X0 run) (fu : Nat) (s7 : AV → AV → AV → Store → Tr R) : ∀ fr σ, KOK X0 114 (subC [true, true, true, true, true, true, false, false, false, true, false, true, true, true, true, true] b38) fr σ ((fun fr σ => c38_8 run fu s7 (fr.getD 0 .any) (fr.getD 1 .any) (fr.getD 6 .any) (fr.getD 7 .any) (fr.getD 10 .any) σ) fr σ) (blockK 1 (thenK (fun fr σ => s7 (fr.getD 0 .any) (fr.getD 1 .any) (fr.getD 6 .any) σ) (blockK 0 (thenK (fun fr σ => c38_2 run fu (fr.getD 0 .any) (fr.getD 6 .any) σ) k38)))) := fun fr σ =>
  KOK.piece env0 hrun [0, 1, 6, 7, 10] (eq38_8 run fu s7 (fr.getD 0 .any) (fr.getD 1 .any) (fr.getD 6 .any) (fr.getD 7 .any) (fr.getD 10 .any) σ) ⟨trivial, trivial⟩

noncomputable def c38_7b (run : FuncId → List AV → Store → Tr R) (fu : Nat) (s7 : AV → AV → AV → Store → Tr R) (x0 x1 x6 : AV) (σ : Store) : Tr R :=
  neSK x1 (.str []) fun x28 =>
  ifK x28 (
  calK run 50 [x1, (.str [10])] σ fun x30 σ1 =>
  calK run 50 [x1, (.str [13])] σ1 fun x32 σ2 =>
  cmpK .geq x32 (.int .i64 0) fun x36 =>
  grdK x36 true σ2 (fun f => f x30 σ2) fun x38 σ3 =>
  grdK x36 true σ3 (fun f => cmpK .lss x38 (.int .i64 0) fun v => f v σ3) fun x39 σ4 =>
  grdK x36 true σ4 (fun f => f x39 σ4) fun x40 σ5 =>
  grdK x40 false σ5 (fun f => f x32 σ5) fun x41 σ6 =>
  grdK x40 false σ6 (fun f => f x30 σ6) fun x42 σ7 =>
  grdK x40 false σ7 (fun f => cmpK .lss x41 x42 fun v => f v σ7) fun x43 σ8 =>
  grdK x36 true σ8 (fun f => pickK x40 (.bool true) x43 fun v => f v σ8) fun x44 σ9 =>
  pickK x36 x44 (.bool false) fun x45 =>
  ifK x45 (
  sliceSK x1 none (some x32) fun x48 =>
  addK x32 (.int .i64 1) fun x51 =>
  cmpK .eql x30 x51 fun x52 =>
  ifK x52 (
  addK x32 (.int .i64 2) fun x55 =>
  sliceSK x1 (some x55) none fun x56 =>
  c38_8 run fu s7 x0 x56 x6 x48 (.int .u8 23) σ9) (
  addK x32 (.int .i64 1) fun x59 =>
  sliceSK x1 (some x59) none fun x60 =>
  c38_8 run fu s7 x0 x60 x6 x48 (.int .u8 13) σ9)) (
  cmpK .geq x30 (.int .i64 0) fun x63 =>
  ifK x63 (
  sliceSK x1 none (some x30) fun x66 =>
  addK x30 (.int .i64 1) fun x69 =>
  sliceSK x1 (some x69) none fun x70 =>
  c38_8 run fu s7 x0 x70 x6 x66 (.int .u8 10) σ9) (
  c38_8 run fu s7 x0 (.str []) x6 x1 (.int .u8 0) σ9))) (
  c38_2 run fu x0 x6 σ)

noncomputable def c38_7 (run : FuncId → List AV → Store → Tr R) (fu : Nat) : Nat → AV → AV → AV → Store → Tr R
  | 0 => fun _ _ _ _ => .fail
  | m + 1 => c38_7b run fu (c38_7 run fu m)

theorem eq38_7 (run : FuncId → List AV → Store → Tr R) (fu : Nat) (s7 : AV → AV → AV → Store → Tr R) (x0 x1 x6 : AV) (σ : Store) : codeK X0 run (.seq (.seq .leaf (.cond .leaf .leaf)) (.block (.seq .leaf (.seq .leaf (.seq .leaf (.seq .leaf (.seq (.block (.seq .leaf (.cond (.seq .leaf (.seq .leaf (.cond (.seq .leaf .leaf) (.seq .leaf .leaf)))) (.seq .leaf (.cond (.seq .leaf .leaf) .leaf))))) (.sub (fun fr σ => c38_8 run fu s7 (fr.getD 0 .any) (fr.getD 1 .any) (fr.getD 6 .any) (fr.getD 7 .any) (fr.getD 10 .any) σ))))))))) (subC [true, true, true, true, true, true, false, false, false] b38) (frS 0 114 [(0, x0), (1, x1), (6, x6)]) σ (thenK (fun fr σ => s7 (fr.getD 0 .any) (fr.getD 1 .any) (fr.getD 6 .any) σ) (blockK 0 (thenK (fun fr σ => c38_2 run fu (fr.getD 0 .any) (fr.getD 6 .any) σ) k38))) = c38_7b run fu s7 x0 x1 x6 σ := by kernel_rfl

theorem owed38_7 {run : FuncId → List AV → Store → Tr R} (hrun : RunOK X0 run) (fu : Nat) (s7 : AV → AV → AV → Store → Tr R) : Owes X0 run 114 (.seq (.seq .leaf (.cond .leaf .leaf)) (.block (.seq .leaf (.seq .leaf (.seq .leaf (.seq .leaf (.seq (.block (.seq .leaf (.cond (.seq .leaf (.seq .leaf (.cond (.seq .leaf .leaf) (.seq .leaf .leaf)))) (.seq .leaf (.cond (.seq .leaf .leaf) .leaf))))) (.sub (fun fr σ => c38_8 run fu s7 (fr.getD 0 .any) (fr.getD 1 .any) (fr.getD 6 .any) (fr.getD 7 .any) (fr.getD 10 .any) σ))))))))) (subC [true, true, true, true, true, true, false, false, false] b38) (thenK (fun fr σ => s7 (fr.getD 0 .any) (fr.getD 1 .any) (fr.getD 6 .any) σ) (blockK 0 (thenK (fun fr σ => c38_2 run fu (fr.getD 0 .any) (fr.getD 6 .any) σ) k38))) :=
  ⟨⟨trivial, ⟨trivial, trivial⟩⟩, ⟨trivial, ⟨trivial, ⟨trivial, ⟨trivial, ⟨⟨trivial, ⟨⟨trivial, ⟨trivial, ⟨⟨trivial, trivial⟩, ⟨trivial, trivial⟩⟩⟩⟩, ⟨trivial, ⟨⟨trivial, trivial⟩, trivial⟩⟩⟩⟩, (ok38_8 hrun fu s7)⟩⟩⟩⟩⟩⟩

theorem ok38_7 {run : FuncId → List AV → Store → Tr R} (hrun : RunOK X0 run) (fu : Nat) : ∀ fr σ, KOK X0 114 (subC [true, true, true, true, true, true, false, false] b38) fr σ ((fun fr σ => c38_7 run fu fu (fr.getD 0 .any) (fr.getD 1 .any) (fr.getD 6 .any) σ) fr σ) (blockK 0 (thenK (fun fr σ => c38_2 run fu (fr.getD 0 .any) (fr.getD 6 .any) σ) k38)) := by
  have h := KOK.loop (X := X0) (N := 114) (b := (subC [true, true, true, true, true, true, false, false, false] b38)) (k := (blockK 0 (thenK (fun fr σ => c38_2 run fu (fr.getD 0 .any) (fr.getD 6 .any) σ) k38))) (u := fun m fr σ => c38_7 run fu m (fr.getD 0 .any) (fr.getD 1 .any) (fr.getD 6 .any) σ) (fun _ _ => rfl) (fun m fr σ => KOK.piece env0 hrun [0, 1, 6] (eq38_7 run fu (c38_7 run fu m) (fr.getD 0 .any) (fr.getD 1 .any) (fr.getD 6 .any) σ) (owed38_7 hrun fu (c38_7 run fu m)))
  exact fun fr σ => h fu fr σ

noncomputable def c38_1 (run : FuncId → List AV → Store → Tr R) (fu : Nat) (x0 x1 x6 : AV) (σ : Store) : Tr R :=
  addrK x6 5 fun x22 =>
  st1K σ x22 (.int .i64 (-1)) fun _ σ1 =>
  bldK [] [] fun x23 =>
  boxK σ1 193 x23 fun x24 σ2 =>
  calK run 49 [x6, (.iface 94 x24)] σ2 fun x26 σ3 =>
  c38_7 run fu fu x0 x1 x6 σ3

theorem eq38_1 (run : FuncId → List AV → Store → Tr R) (fu : Nat) (x0 x1 x6 : AV) (σ : Store) : codeK X0 run (.seq .leaf (.seq .leaf (.seq (.block (.sub (fun fr σ => c38_7 run fu fu (fr.getD 0 .any) (fr.getD 1 .any) (fr.getD 6 .any) σ))) (.sub (fun fr σ => c38_2 run fu (fr.getD 0 .any) (fr.getD 6 .any) σ))))) (subC [true, true, true, true] b38) (frS 0 114 [(0, x0), (1, x1), (6, x6)]) σ k38 = c38_1 run fu x0 x1 x6 σ := by kernel_rfl

theorem ok38_1 {run : FuncId → List AV → Store → Tr R} (hrun : RunOK X0 run) (fu : Nat) : ∀ fr σ, KOK X0 114 (subC [true, true, true, true] b38) fr σ ((fun fr σ => c38_1 run fu (fr.getD 0 .any) (fr.getD 1 .any) (fr.getD 6 .any) σ) fr σ) k38 := fun fr σ =>
  KOK.piece env0 hrun [0, 1, 6] (eq38_1 run fu (fr.getD 0 .any) (fr.getD 1 .any) (fr.getD 6 .any) σ) ⟨trivial, ⟨trivial, ⟨(ok38_7 hrun fu), (ok38_2 hrun fu)⟩⟩⟩

noncomputable def c38 (run : FuncId → List AV → Store → Tr R) (fu : Nat) (x0 x1 : AV) (σ : Store) : Tr R :=
  newK σ 183 [.nilp, .nilp, .nilm, (.int .i64 0), .nils, (.int .i64 0), (.bool false), (.str []), (.int .i64 0), .nils, .nils, .nils, (.int .i64 0), (.int .i64 0), (.int .i64 0), (.int .i64 0), (.int .i64 0), (.int .i64 0), (.int .i64 0), (.int .i64 0), (.int .i64 0), (.int .i64 0), (.int .i64 0), (.int .i64 0), (.int .i64 0), (.int .i64 0), (.int .i64 0), (.int .i64 0), (.int .i64 0), (.int .i64 0), (.int .i64 0), (.int .i64 0), (.int .i64 0), (.int .i64 0), (.int .i64 0), (.int .i64 0), (.int .i64 0), (.int .i64 0), (.int .i64 0), (.int .i64 0), (.int .i64 0), (.int .i64 0), (.int .i64 0), (.int .i64 0), (.int .i64 0), (.int .i64 0), (.int .i64 0), (.int .i64 0), (.int .i64 0), (.int .i64 0), (.int .i64 0), (.int .i64 0), (.int .i64 0), (.int .i64 0), (.int .i64 0), (.int .i64 0), (.int .i64 0), (.int .i64 0), (.int .i64 0), (.int .i64 0), (.int .i64 0), (.int .i64 0), (.int .i64 0), (.int .i64 0), (.int .i64 0), (.int .i64 0), (.int .i64 0), (.int .i64 0), (.int .i64 0), (.int .i64 0), (.int .i64 0), (.int .i64 0), (.int .i64 0), (.int .i64 0), (.int .i64 0), (.int .i64 0), (.int .i64 0), (.int .i64 0), (.int .i64 0), (.int .i64 0), (.int .i64 0), (.int .i64 0), (.int .i64 0), (.int .i64 0), (.int .i64 0), (.int .i64 0), (.int .i64 0), (.int .i64 0), (.int .i64 0), (.int .i64 0), (.int .i64 0), (.int .i64 0), (.bool false)] fun x6 σ1 =>
  addrK x6 0 fun x16 =>
  st1K σ1 x16 x0 fun _ σ2 =>
  calK run 47 [x1, (.str [0])] σ2 fun x18 σ3 =>
  ifK x18 (
  calK run 48 [x1, (.str [0]), (.str [239, 191, 189])] σ3 fun x20 σ4 =>
  addrK x6 6 fun x21 =>
  st1K σ4 x21 (.bool true) fun _ σ5 =>
  c38_1 run fu x0 x20 x6 σ5) (
  c38_1 run fu x0 x1 x6 σ3)

theorem eq38 (run : FuncId → List AV → Store → Tr R) (fu : Nat) (x0 x1 : AV) (σ : Store) : codeK X0 run (.seq .leaf (.seq .leaf (.seq .leaf (.seq (.seq .leaf (.cond (.seq .leaf .leaf) .leaf)) (.sub (fun fr σ => c38_1 run fu (fr.getD 0 .any) (fr.getD 1 .any) (fr.getD 6 .any) σ)))))) (subC [] b38) ([x0, x1] ++ padA (114 - 2)) σ k38 = c38 run fu x0 x1 σ := by kernel_rfl

theorem ok38 {run : FuncId → List AV → Store → Tr R} (hrun : RunOK X0 run) (fu : Nat) (x0 x1 : AV) (σ : Store) : CallOK X0 38 [x0, x1] σ (c38 run fu x0 x1 σ) :=
  KOK.body (fn := Tryz.f38) (c := subC [] b38) (by kernel_rfl) (by kernel_rfl) (by show 2 ≤ 114; decide) (KOK.whole env0 hrun (eq38 run fu x0 x1 σ) ⟨trivial, ⟨trivial, ⟨trivial, ⟨⟨trivial, ⟨⟨trivial, trivial⟩, trivial⟩⟩, (ok38_1 hrun fu)⟩⟩⟩⟩)

-- pub-paratext/pub/rscmarkdown.zzContains

noncomputable def b47 : Code := match Tryz.f47.body with | some c => c | none => .skip

noncomputable def k47 : Kont R := retK Tryz.prog [.tmp 4]

noncomputable def c47 (run : FuncId → List AV → Store → Tr R) (fu : Nat) (x0 x1 : AV) (σ : Store) : Tr R :=
  calK run 50 [x0, x1] σ fun x7 σ1 =>
  cmpK .geq x7 (.int .i64 0) fun x8 =>
  .ret (x8, σ1)

theorem eq47 (run : FuncId → List AV → Store → Tr R) (fu : Nat) (x0 x1 : AV) (σ : Store) : codeK X0 run (.seq .leaf (.seq .leaf .leaf)) (subC [] b47) ([x0, x1] ++ padA (9 - 2)) σ k47 = c47 run fu x0 x1 σ := by kernel_rfl

theorem ok47 {run : FuncId → List AV → Store → Tr R} (hrun : RunOK X0 run) (fu : Nat) (x0 x1 : AV) (σ : Store) : CallOK X0 47 [x0, x1] σ (c47 run fu x0 x1 σ) :=
  KOK.body (fn := Tryz.f47) (c := subC [] b47) (by kernel_rfl) (by kernel_rfl) (by show 2 ≤ 9; decide) (KOK.whole env0 hrun (eq47 run fu x0 x1 σ) ⟨trivial, ⟨trivial, trivial⟩⟩)

-- (*pub-paratext/pub/rscmarkdown.parseState).addBlock

noncomputable def b49 : Code := match Tryz.f49.body with | some c => c | none => .skip

noncomputable def k49 : Kont R := retK Tryz.prog []

noncomputable def c49 (run : FuncId → List AV → Store → Tr R) (fu : Nat) (x0 x1 : AV) (σ : Store) : Tr R :=
  nchkK x0 fun x7 =>
  addrK x7 5 fun x8 =>
  ld1K σ x8 fun x9 =>
  addK x9 (.int .i64 1) fun x10 =>
  calK run 52 [x0, x10] σ fun x11 σ1 =>
  nchkK x0 fun x14 =>
  addrK x14 4 fun x15 =>
  ld1K σ1 x15 fun x16 =>
  bldK [.nili, .nils, (.int .i64 0), (.int .i64 0)] [] fun x17 =>
  opt (fillK [.nili, .nils, (.int .i64 0), (.int .i64 0)] [(0, 4, x17)]) fun cs => newSK σ1 231 cs 1 4 fun x18 σ2 =>
  appK 115 4 56 σ2 x16 x18 fun x19 σ3 =>
  nchkK x0 fun x20 =>
  addrK x20 4 fun x21 =>
  st1K σ3 x21 x19 fun _ σ4 =>
  nchkK x0 fun x23 =>
  addrK x23 4 fun x24 =>
  ld1K σ4 x24 fun x25 =>
  nchkK x0 fun x27 =>
  addrK x27 4 fun x28 =>
  ld1K σ4 x28 fun x29 =>
  lenLK x29 fun x30 =>
  subK x30 (.int .i64 1) fun x31 =>
  idxK 4 x25 x31 fun x32 =>
  nchkK x32 fun x35 =>
  addrK x35 0 fun x36 =>
  st1K σ4 x36 x1 fun _ σ5 =>
  nchkK x0 fun x39 =>
  addrK x39 3 fun x40 =>
  ld1K σ5 x40 fun x41 =>
  nchkK x32 fun x42 =>
  addrK x42 2 fun x43 =>
  addrK x43 0 fun x44 =>
  st1K σ5 x44 x41 fun _ σ6 =>
  nchkK x0 fun x47 =>
  addrK x47 3 fun x48 =>
  ld1K σ6 x48 fun x49 =>
  nchkK x32 fun x50 =>
  addrK x50 2 fun x51 =>
  addrK x51 1 fun x52 =>
  st1K σ6 x52 x49 fun _ σ7 =>
  .ret (.tup [], σ7)

theorem eq49 (run : FuncId → List AV → Store → Tr R) (fu : Nat) (x0 x1 : AV) (σ : Store) : codeK X0 run (.seq .leaf (.seq .leaf (.seq .leaf (.seq .leaf (.seq .leaf .leaf))))) (subC [] b49) ([x0, x1] ++ padA (53 - 2)) σ k49 = c49 run fu x0 x1 σ := by kernel_rfl

theorem ok49 {run : FuncId → List AV → Store → Tr R} (hrun : RunOK X0 run) (fu : Nat) (x0 x1 : AV) (σ : Store) : CallOK X0 49 [x0, x1] σ (c49 run fu x0 x1 σ) :=
  KOK.body (fn := Tryz.f49) (c := subC [] b49) (by kernel_rfl) (by kernel_rfl) (by show 2 ≤ 53; decide) (KOK.whole env0 hrun (eq49 run fu x0 x1 σ) ⟨trivial, ⟨trivial, ⟨trivial, ⟨trivial, ⟨trivial, trivial⟩⟩⟩⟩⟩)

-- (*pub-paratext/pub/rscmarkdown.parseState).addLine

noncomputable def b51 : Code := match Tryz.f51.body with | some c => c | none => .skip

noncomputable def k51 : Kont R := retK Tryz.prog []

noncomputable def c51_2 (run : FuncId → List AV → Store → Tr R) (fu : Nat) (s1 : AV → AV → Store → Tr R) (x0 x3 : AV) (σ : Store) : Tr R :=
  ldNK σ x3 5 fun x111 =>
  calK run 58 [x0, x111] σ fun x112 σ1 =>
  .ret (.tup [], σ1)

theorem eq51_2 (run : FuncId → List AV → Store → Tr R) (fu : Nat) (s1 : AV → AV → Store → Tr R) (x0 x3 : AV) (σ : Store) : codeK X0 run .leaf (subC [true, true] (lblC 0 (subC [true, false] b51))) (frS 0 113 [(0, x0), (3, x3)]) σ (scopeK (subC [true, false] b51) (lblU 0 (fun fr σ => s1 (fr.getD 0 .any) (fr.getD 3 .any) σ)) k51) = c51_2 run fu s1 x0 x3 σ := by kernel_rfl

theorem ok51_2 {run : FuncId → List AV → Store → Tr R} (hrun : RunOK X0 run) (fu : Nat) (s1 : AV → AV → Store → Tr R) : ∀ fr σ, KOK X0 113 (subC [true, true] (lblC 0 (subC [true, false] b51))) fr σ ((fun fr σ => c51_2 run fu s1 (fr.getD 0 .any) (fr.getD 3 .any) σ) fr σ) (scopeK (subC [true, false] b51) (lblU 0 (fun fr σ => s1 (fr.getD 0 .any) (fr.getD 3 .any) σ)) k51) := fun fr σ =>
  KOK.piece env0 hrun [0, 3] (eq51_2 run fu s1 (fr.getD 0 .any) (fr.getD 3 .any) σ) trivial

noncomputable def c51_3b (run : FuncId → List AV → Store → Tr R) (fu : Nat) (s1 : AV → AV → Store → Tr R) (s3 : AV → AV → AV → AV → AV → Store → Tr R) (x0 x3 x86 x87 x88 : AV) (σ : Store) : Tr R :=
  cmpK .lss x88 x87 fun x89 =>
  ifK x89 (
  idxK 1 x86 x88 fun x90 =>
  ld1K σ x90 fun x91 =>
  ldNK σ x3 5 fun x95 =>
  dynK X0 run x91 [x0, x95] σ fun x96 σ1 =>
  extK x96 0 fun x97 =>
  extK x96 1 fun x98 =>
  newK σ1 201 [(.int .i64 0), (.int .i64 0), (.int .i64 0), (.str []), (.int .u8 0)] fun x8 σ2 =>
  stNK σ2 x8 5 x97 fun _ σ3 =>
  ifK x98 (
  ldNK σ3 x8 5 fun x100 =>
  stNK σ3 x3 5 x100 fun _ σ4 =>
  calK run 56 [x3] σ4 fun x101 σ5 =>
  ifK x101 (
  .ret (.tup [], σ5)) (
  nchkK x0 fun x103 =>
  addrK x103 5 fun x104 =>
  ld1K σ5 x104 fun x105 =>
  addK x105 (.int .i64 1) fun x106 =>
  nchkK x0 fun x107 =>
  addrK x107 5 fun x108 =>
  st1K σ5 x108 x106 fun _ σ6 =>
  s1 x0 x3 σ6)) (
  addK x88 (.int .i64 1) fun x109 =>
  s3 x0 x3 x86 x87 x109 σ3)) (
  c51_2 run fu s1 x0 x3 σ)

noncomputable def c51_3 (run : FuncId → List AV → Store → Tr R) (fu : Nat) (s1 : AV → AV → Store → Tr R) : Nat → AV → AV → AV → AV → AV → Store → Tr R
  | 0 => fun _ _ _ _ _ _ => .fail
  | m + 1 => c51_3b run fu s1 (c51_3 run fu s1 m)

theorem eq51_3 (run : FuncId → List AV → Store → Tr R) (fu : Nat) (s1 : AV → AV → Store → Tr R) (s3 : AV → AV → AV → AV → AV → Store → Tr R) (x0 x3 x86 x87 x88 : AV) (σ : Store) : codeK X0 run (.seq .leaf (.seq (.cond .leaf .leaf) (.seq (.block (.seq .leaf (.seq .leaf (.seq .leaf (.cond (.seq .leaf (.seq (.seq .leaf (.cond .leaf .leaf)) (.seq .leaf .leaf))) .leaf))))) .leaf))) (subC [true, false, true, false, false] (lblC 0 (subC [true, false] b51))) (frS 0 113 [(0, x0), (3, x3), (86, x86), (87, x87), (88, x88)]) σ (thenK (fun fr σ => s3 (fr.getD 0 .any) (fr.getD 3 .any) (fr.getD 86 .any) (fr.getD 87 .any) (fr.getD 88 .any) σ) (blockK 2 (thenK (fun fr σ => c51_2 run fu s1 (fr.getD 0 .any) (fr.getD 3 .any) σ) (scopeK (subC [true, false] b51) (lblU 0 (fun fr σ => s1 (fr.getD 0 .any) (fr.getD 3 .any) σ)) k51)))) = c51_3b run fu s1 s3 x0 x3 x86 x87 x88 σ := by kernel_rfl

theorem owed51_3 {run : FuncId → List AV → Store → Tr R} (hrun : RunOK X0 run) (fu : Nat) (s1 : AV → AV → Store → Tr R) (s3 : AV → AV → AV → AV → AV → Store → Tr R) : Owes X0 run 113 (.seq .leaf (.seq (.cond .leaf .leaf) (.seq (.block (.seq .leaf (.seq .leaf (.seq .leaf (.cond (.seq .leaf (.seq (.seq .leaf (.cond .leaf .leaf)) (.seq .leaf .leaf))) .leaf))))) .leaf))) (subC [true, false, true, false, false] (lblC 0 (subC [true, false] b51))) (thenK (fun fr σ => s3 (fr.getD 0 .any) (fr.getD 3 .any) (fr.getD 86 .any) (fr.getD 87 .any) (fr.getD 88 .any) σ) (blockK 2 (thenK (fun fr σ => c51_2 run fu s1 (fr.getD 0 .any) (fr.getD 3 .any) σ) (scopeK (subC [true, false] b51) (lblU 0 (fun fr σ => s1 (fr.getD 0 .any) (fr.getD 3 .any) σ)) k51)))) :=
  ⟨trivial, ⟨⟨trivial, trivial⟩, ⟨⟨trivial, ⟨trivial, ⟨trivial, ⟨⟨trivial, ⟨⟨trivial, ⟨trivial, trivial⟩⟩, ⟨trivial, trivial⟩⟩⟩, trivial⟩⟩⟩⟩, trivial⟩⟩⟩

theorem ok51_3 {run : FuncId → List AV → Store → Tr R} (hrun : RunOK X0 run) (fu : Nat) (s1 : AV → AV → Store → Tr R) : ∀ fr σ, KOK X0 113 (subC [true, false, true, false] (lblC 0 (subC [true, false] b51))) fr σ ((fun fr σ => c51_3 run fu s1 fu (fr.getD 0 .any) (fr.getD 3 .any) (fr.getD 86 .any) (fr.getD 87 .any) (fr.getD 88 .any) σ) fr σ) (blockK 2 (thenK (fun fr σ => c51_2 run fu s1 (fr.getD 0 .any) (fr.getD 3 .any) σ) (scopeK (subC [true, false] b51) (lblU 0 (fun fr σ => s1 (fr.getD 0 .any) (fr.getD 3 .any) σ)) k51))) := by
  have h := KOK.loop (X := X0) (N := 113) (b := (subC [true, false, true, false, false] (lblC 0 (subC [true, false] b51)))) (k := (blockK 2 (thenK (fun fr σ => c51_2 run fu s1 (fr.getD 0 .any) (fr.getD 3 .any) σ) (scopeK (subC [true, false] b51) (lblU 0 (fun fr σ => s1 (fr.getD 0 .any) (fr.getD 3 .any) σ)) k51)))) (u := fun m fr σ => c51_3 run fu s1 m (fr.getD 0 .any) (fr.getD 3 .any) (fr.getD 86 .any) (fr.getD 87 .any) (fr.getD 88 .any) σ) (fun _ _ => rfl) (fun m fr σ => KOK.piece env0 hrun [0, 3, 86, 87, 88] (eq51_3 run fu s1 (c51_3 run fu s1 m) (fr.getD 0 .any) (fr.getD 3 .any) (fr.getD 86 .any) (fr.getD 87 .any) (fr.getD 88 .any) σ) (owed51_3 hrun fu s1 (c51_3 run fu s1 m)))
  exact fun fr σ => h fu fr σ

noncomputable def c51_1Lb (run : FuncId → List AV → Store → Tr R) (fu : Nat) (s1 : AV → AV → Store → Tr R) (x0 x3 : AV) (σ : Store) : Tr R :=
  calK run 57 [] σ fun x86 σ1 =>
  lenLK x86 fun x87 =>
  c51_3 run fu s1 fu x0 x3 x86 x87 (.int .i64 0) σ1

noncomputable def c51_1L (run : FuncId → List AV → Store → Tr R) (fu : Nat) : Nat → AV → AV → Store → Tr R
  | 0 => fun _ _ _ => .fail
  | m + 1 => c51_1Lb run fu (c51_1L run fu m)

theorem eq51_1L (run : FuncId → List AV → Store → Tr R) (fu : Nat) (s1 : AV → AV → Store → Tr R) (x0 x3 : AV) (σ : Store) : codeK X0 run (.seq .leaf (.seq (.seq .leaf (.block (.sub (fun fr σ => c51_3 run fu s1 fu (fr.getD 0 .any) (fr.getD 3 .any) (fr.getD 86 .any) (fr.getD 87 .any) (fr.getD 88 .any) σ)))) (.sub (fun fr σ => c51_2 run fu s1 (fr.getD 0 .any) (fr.getD 3 .any) σ)))) (subC [] (lblC 0 (subC [true, false] b51))) (frS 0 113 [(0, x0), (3, x3)]) σ (scopeK (subC [true, false] b51) (lblU 0 (fun fr σ => s1 (fr.getD 0 .any) (fr.getD 3 .any) σ)) k51) = c51_1Lb run fu s1 x0 x3 σ := by kernel_rfl

theorem owed51_1L {run : FuncId → List AV → Store → Tr R} (hrun : RunOK X0 run) (fu : Nat) (s1 : AV → AV → Store → Tr R) : Owes X0 run 113 (.seq .leaf (.seq (.seq .leaf (.block (.sub (fun fr σ => c51_3 run fu s1 fu (fr.getD 0 .any) (fr.getD 3 .any) (fr.getD 86 .any) (fr.getD 87 .any) (fr.getD 88 .any) σ)))) (.sub (fun fr σ => c51_2 run fu s1 (fr.getD 0 .any) (fr.getD 3 .any) σ)))) (subC [] (lblC 0 (subC [true, false] b51))) (scopeK (subC [true, false] b51) (lblU 0 (fun fr σ => s1 (fr.getD 0 .any) (fr.getD 3 .any) σ)) k51) :=
  ⟨trivial, ⟨⟨trivial, (ok51_3 hrun fu s1)⟩, (ok51_2 hrun fu s1)⟩⟩

noncomputable def c51_5 (run : FuncId → List AV → Store → Tr R) (fu : Nat) (x0 x3 : AV) (σ : Store) : Tr R :=
  ldNK σ x3 5 fun x111 =>
  calK run 58 [x0, x111] σ fun x112 σ1 =>
  .ret (.tup [], σ1)

theorem eq51_5 (run : FuncId → List AV → Store → Tr R) (fu : Nat) (x0 x3 : AV) (σ : Store) : codeK X0 run .leaf (subC [true, false, true, true, true, true, true] b51) (frS 0 113 [(0, x0), (3, x3)]) σ (scopeK (subC [true, false] b51) (lblU 0 (fun fr σ => c51_1L run fu fu (fr.getD 0 .any) (fr.getD 3 .any) σ)) k51) = c51_5 run fu x0 x3 σ := by kernel_rfl

theorem ok51_5 {run : FuncId → List AV → Store → Tr R} (hrun : RunOK X0 run) (fu : Nat) : ∀ fr σ, KOK X0 113 (subC [true, false, true, true, true, true, true] b51) fr σ ((fun fr σ => c51_5 run fu (fr.getD 0 .any) (fr.getD 3 .any) σ) fr σ) (scopeK (subC [true, false] b51) (lblU 0 (fun fr σ => c51_1L run fu fu (fr.getD 0 .any) (fr.getD 3 .any) σ)) k51) := fun fr σ =>
  KOK.piece env0 hrun [0, 3] (eq51_5 run fu (fr.getD 0 .any) (fr.getD 3 .any) σ) trivial

noncomputable def c51_6b (run : FuncId → List AV → Store → Tr R) (fu : Nat) (s6 : AV → AV → AV → AV → AV → Store → Tr R) (x0 x3 x86 x87 x88 : AV) (σ : Store) : Tr R :=
  cmpK .lss x88 x87 fun x89 =>
  ifK x89 (
  idxK 1 x86 x88 fun x90 =>
  ld1K σ x90 fun x91 =>
  ldNK σ x3 5 fun x95 =>
  dynK X0 run x91 [x0, x95] σ fun x96 σ1 =>
  extK x96 0 fun x97 =>
  extK x96 1 fun x98 =>
  newK σ1 201 [(.int .i64 0), (.int .i64 0), (.int .i64 0), (.str []), (.int .u8 0)] fun x8 σ2 =>
  stNK σ2 x8 5 x97 fun _ σ3 =>
  ifK x98 (
  ldNK σ3 x8 5 fun x100 =>
  stNK σ3 x3 5 x100 fun _ σ4 =>
  calK run 56 [x3] σ4 fun x101 σ5 =>
  ifK x101 (
  .ret (.tup [], σ5)) (
  nchkK x0 fun x103 =>
  addrK x103 5 fun x104 =>
  ld1K σ5 x104 fun x105 =>
  addK x105 (.int .i64 1) fun x106 =>
  nchkK x0 fun x107 =>
  addrK x107 5 fun x108 =>
  st1K σ5 x108 x106 fun _ σ6 =>
  c51_1L run fu fu x0 x3 σ6)) (
  addK x88 (.int .i64 1) fun x109 =>
  s6 x0 x3 x86 x87 x109 σ3)) (
  c51_5 run fu x0 x3 σ)

noncomputable def c51_6 (run : FuncId → List AV → Store → Tr R) (fu : Nat) : Nat → AV → AV → AV → AV → AV → Store → Tr R
  | 0 => fun _ _ _ _ _ _ => .fail
  | m + 1 => c51_6b run fu (c51_6 run fu m)

theorem eq51_6 (run : FuncId → List AV → Store → Tr R) (fu : Nat) (s6 : AV → AV → AV → AV → AV → Store → Tr R) (x0 x3 x86 x87 x88 : AV) (σ : Store) : codeK X0 run (.seq .leaf (.seq (.cond .leaf .leaf) (.seq (.block (.seq .leaf (.seq .leaf (.seq .leaf (.cond (.seq .leaf (.seq (.seq .leaf (.cond .leaf .leaf)) (.seq .leaf .leaf))) .leaf))))) .leaf))) (subC [true, false, true, true, true, true, false, true, false, false] b51) (frS 0 113 [(0, x0), (3, x3), (86, x86), (87, x87), (88, x88)]) σ (thenK (fun fr σ => s6 (fr.getD 0 .any) (fr.getD 3 .any) (fr.getD 86 .any) (fr.getD 87 .any) (fr.getD 88 .any) σ) (blockK 2 (thenK (fun fr σ => c51_5 run fu (fr.getD 0 .any) (fr.getD 3 .any) σ) (scopeK (subC [true, false] b51) (lblU 0 (fun fr σ => c51_1L run fu fu (fr.getD 0 .any) (fr.getD 3 .any) σ)) k51)))) = c51_6b run fu s6 x0 x3 x86 x87 x88 σ := by kernel_rfl

theorem owed51_6 {run : FuncId → List AV → Store → Tr R} (hrun : RunOK X0 run) (fu : Nat) (s6 : AV → AV → AV → AV → AV → Store → Tr R) : Owes X0 run 113 (.seq .leaf (.seq (.cond .leaf .leaf) (.seq (.block (.seq .leaf (.seq .leaf (.seq .leaf (.cond (.seq .leaf (.seq (.seq .leaf (.cond .leaf .leaf)) (.seq .leaf .leaf))) .leaf))))) .leaf))) (subC [true, false, true, true, true, true, false, true, false, false] b51) (thenK (fun fr σ => s6 (fr.getD 0 .any) (fr.getD 3 .any) (fr.getD 86 .any) (fr.getD 87 .any) (fr.getD 88 .any) σ) (blockK 2 (thenK (fun fr σ => c51_5 run fu (fr.getD 0 .any) (fr.getD 3 .any) σ) (scopeK (subC [true, false] b51) (lblU 0 (fun fr σ => c51_1L run fu fu (fr.getD 0 .any) (fr.getD 3 .any) σ)) k51)))) :=
  ⟨trivial, ⟨⟨trivial, trivial⟩, ⟨⟨trivial, ⟨trivial, ⟨trivial, ⟨⟨trivial, ⟨⟨trivial, ⟨trivial, trivial⟩⟩, ⟨trivial, trivial⟩⟩⟩, trivial⟩⟩⟩⟩, trivial⟩⟩⟩

theorem ok51_6 {run : FuncId → List AV → Store → Tr R} (hrun : RunOK X0 run) (fu : Nat) : ∀ fr σ, KOK X0 113 (subC [true, false, true, true, true, true, false, true, false] b51) fr σ ((fun fr σ => c51_6 run fu fu (fr.getD 0 .any) (fr.getD 3 .any) (fr.getD 86 .any) (fr.getD 87 .any) (fr.getD 88 .any) σ) fr σ) (blockK 2 (thenK (fun fr σ => c51_5 run fu (fr.getD 0 .any) (fr.getD 3 .any) σ) (scopeK (subC [true, false] b51) (lblU 0 (fun fr σ => c51_1L run fu fu (fr.getD 0 .any) (fr.getD 3 .any) σ)) k51))) := by
  have h := KOK.loop (X := X0) (N := 113) (b := (subC [true, false, true, true, true, true, false, true, false, false] b51)) (k := (blockK 2 (thenK (fun fr σ => c51_5 run fu (fr.getD 0 .any) (fr.getD 3 .any) σ) (scopeK (subC [true, false] b51) (lblU 0 (fun fr σ => c51_1L run fu fu (fr.getD 0 .any) (fr.getD 3 .any) σ)) k51)))) (u := fun m fr σ => c51_6 run fu m (fr.getD 0 .any) (fr.getD 3 .any) (fr.getD 86 .any) (fr.getD 87 .any) (fr.getD 88 .any) σ) (fun _ _ => rfl) (fun m fr σ => KOK.piece env0 hrun [0, 3, 86, 87, 88] (eq51_6 run fu (c51_6 run fu m) (fr.getD 0 .any) (fr.getD 3 .any) (fr.getD 86 .any) (fr.getD 87 .any) (fr.getD 88 .any) σ) (owed51_6 hrun fu (c51_6 run fu m)))
  exact fun fr σ => h fu fr σ

noncomputable def c51_4 (run : FuncId → List AV → Store → Tr R) (fu : Nat) (x0 x3 : AV) (σ : Store) : Tr R :=
  calK run 56 [x3] σ fun x78 σ1 =>
  ifK x78 (
  nchkK x0 fun x81 =>
  addrK x81 5 fun x82 =>
  ld1K σ1 x82 fun x83 =>
  addK x83 (.int .i64 1) fun x84 =>
  calK run 52 [x0, x84] σ1 fun x85 σ2 =>
  .ret (.tup [], σ2)) (
  calK run 57 [] σ1 fun x86 σ3 =>
  lenLK x86 fun x87 =>
  c51_6 run fu fu x0 x3 x86 x87 (.int .i64 0) σ3)

theorem eq51_4 (run : FuncId → List AV → Store → Tr R) (fu : Nat) (x0 x3 : AV) (σ : Store) : codeK X0 run (.seq (.seq .leaf (.cond (.seq .leaf .leaf) .leaf)) (.seq .leaf (.seq (.seq .leaf (.block (.sub (fun fr σ => c51_6 run fu fu (fr.getD 0 .any) (fr.getD 3 .any) (fr.getD 86 .any) (fr.getD 87 .any) (fr.getD 88 .any) σ)))) (.sub (fun fr σ => c51_5 run fu (fr.getD 0 .any) (fr.getD 3 .any) σ))))) (subC [true, false, true, true] b51) (frS 0 113 [(0, x0), (3, x3)]) σ (scopeK (subC [true, false] b51) (lblU 0 (fun fr σ => c51_1L run fu fu (fr.getD 0 .any) (fr.getD 3 .any) σ)) k51) = c51_4 run fu x0 x3 σ := by kernel_rfl

theorem ok51_4 {run : FuncId → List AV → Store → Tr R} (hrun : RunOK X0 run) (fu : Nat) : ∀ fr σ, KOK X0 113 (subC [true, false, true, true] b51) fr σ ((fun fr σ => c51_4 run fu (fr.getD 0 .any) (fr.getD 3 .any) σ) fr σ) (scopeK (subC [true, false] b51) (lblU 0 (fun fr σ => c51_1L run fu fu (fr.getD 0 .any) (fr.getD 3 .any) σ)) k51) := fun fr σ =>
  KOK.piece env0 hrun [0, 3] (eq51_4 run fu (fr.getD 0 .any) (fr.getD 3 .any) σ) ⟨⟨trivial, ⟨⟨trivial, trivial⟩, trivial⟩⟩, ⟨trivial, ⟨⟨trivial, (ok51_6 hrun fu)⟩, (ok51_5 hrun fu)⟩⟩⟩

noncomputable def c51_8 (run : FuncId → List AV → Store → Tr R) (fu : Nat) (s7 : AV → AV → Store → Tr R) (x0 x3 : AV) (σ : Store) : Tr R :=
  nchkK x0 fun x25 =>
  addrK x25 5 fun x26 =>
  ld1K σ x26 fun x27 =>
  addK x27 (.int .i64 1) fun x28 =>
  nchkK x0 fun x29 =>
  addrK x29 5 fun x30 =>
  st1K σ x30 x28 fun _ σ1 =>
  s7 x0 x3 σ1

theorem eq51_8 (run : FuncId → List AV → Store → Tr R) (fu : Nat) (s7 : AV → AV → Store → Tr R) (x0 x3 : AV) (σ : Store) : codeK X0 run .leaf (subC [true, false, true, false, false, false, true, true] b51) (frS 0 113 [(0, x0), (3, x3)]) σ (thenK (fun fr σ => s7 (fr.getD 0 .any) (fr.getD 3 .any) σ) (blockK 0 (thenK (fun fr σ => c51_4 run fu (fr.getD 0 .any) (fr.getD 3 .any) σ) (scopeK (subC [true, false] b51) (lblU 0 (fun fr σ => c51_1L run fu fu (fr.getD 0 .any) (fr.getD 3 .any) σ)) k51)))) = c51_8 run fu s7 x0 x3 σ := by kernel_rfl

theorem ok51_8 {run : FuncId → List AV → Store → Tr R} (hrun : RunOK X0 run) (fu : Nat) (s7 : AV → AV → Store → Tr R) : ∀ fr σ, KOK X0 113 (subC [true, false, true, false, false, false, true, true] b51) fr σ ((fun fr σ => c51_8 run fu s7 (fr.getD 0 .any) (fr.getD 3 .any) σ) fr σ) (thenK (fun fr σ => s7 (fr.getD 0 .any) (fr.getD 3 .any) σ) (blockK 0 (thenK (fun fr σ => c51_4 run fu (fr.getD 0 .any) (fr.getD 3 .any) σ) (scopeK (subC [true, false] b51) (lblU 0 (fun fr σ => c51_1L run fu fu (fr.getD 0 .any) (fr.getD 3 .any) σ)) k51)))) := fun fr σ =>
  KOK.piece env0 hrun [0, 3] (eq51_8 run fu s7 (fr.getD 0 .any) (fr.getD 3 .any) σ) trivial

noncomputable def c51_9 (run : FuncId → List AV → Store → Tr R) (fu : Nat) (s7 : AV → AV → Store → Tr R) (x0 x3 x5 : AV) (σ : Store) : Tr R :=
  notK x5 fun x77 =>
  ifK x77 (
  c51_4 run fu x0 x3 σ) (
  c51_8 run fu s7 x0 x3 σ)

theorem eq51_9 (run : FuncId → List AV → Store → Tr R) (fu : Nat) (s7 : AV → AV → Store → Tr R) (x0 x3 x5 : AV) (σ : Store) : codeK X0 run (.seq .leaf (.cond .leaf .leaf)) (subC [true, false, true, false, false, false, true, false, false, true, true, true, true] b51) (frS 0 113 [(0, x0), (3, x3), (5, x5)]) σ (blockK 1 (thenK (fun fr σ => c51_8 run fu s7 (fr.getD 0 .any) (fr.getD 3 .any) σ) (thenK (fun fr σ => s7 (fr.getD 0 .any) (fr.getD 3 .any) σ) (blockK 0 (thenK (fun fr σ => c51_4 run fu (fr.getD 0 .any) (fr.getD 3 .any) σ) (scopeK (subC [true, false] b51) (lblU 0 (fun fr σ => c51_1L run fu fu (fr.getD 0 .any) (fr.getD 3 .any) σ)) k51)))))) = c51_9 run fu s7 x0 x3 x5 σ := by kernel_rfl

theorem ok51_9 {run : FuncId → List AV → Store → Tr R} (hrun : RunOK X0 run) (fu : Nat) (s7 : AV → AV → Store → Tr R) : ∀ fr σ, KOK X0 113 (subC [true, false, true, false, false, false, true, false, false, true, true, true, true] b51) fr σ ((fun fr σ => c51_9 run fu s7 (fr.getD 0 .any) (fr.getD 3 .any) (fr.getD 5 .any) σ) fr σ) (blockK 1 (thenK (fun fr σ => c51_8 run fu s7 (fr.getD 0 .any) (fr.getD 3 .any) σ) (thenK (fun fr σ => s7 (fr.getD 0 .any) (fr.getD 3 .any) σ) (blockK 0 (thenK (fun fr σ => c51_4 run fu (fr.getD 0 .any) (fr.getD 3 .any) σ) (scopeK (subC [true, false] b51) (lblU 0 (fun fr σ => c51_1L run fu fu (fr.getD 0 .any) (fr.getD 3 .any) σ)) k51)))))) := fun fr σ =>
  KOK.piece env0 hrun [0, 3, 5] (eq51_9 run fu s7 (fr.getD 0 .any) (fr.getD 3 .any) (fr.getD 5 .any) σ) ⟨trivial, ⟨trivial, trivial⟩⟩

noncomputable def c51_7b (run : FuncId → List AV → Store → Tr R) (fu : Nat) (s7 : AV → AV → Store → Tr R) (x0 x3 : AV) (σ : Store) : Tr R :=
  nchkK x0 fun x14 =>
  addrK x14 5 fun x15 =>
  ld1K σ x15 fun x16 =>
  addK x16 (.int .i64 1) fun x17 =>
  nchkK x0 fun x19 =>
  addrK x19 4 fun x20 =>
  ld1K σ x20 fun x21 =>
  lenLK x21 fun x22 =>
  cmpK .lss x17 x22 fun x23 =>
  ifK x23 (
  ldNK σ x3 5 fun x31 =>
  newK σ 201 [(.int .i64 0), (.int .i64 0), (.int .i64 0), (.str []), (.int .u8 0)] fun x4 σ1 =>
  stNK σ1 x4 5 x31 fun _ σ2 =>
  nchkK x0 fun x34 =>
  addrK x34 4 fun x35 =>
  ld1K σ2 x35 fun x36 =>
  nchkK x0 fun x38 =>
  addrK x38 5 fun x39 =>
  ld1K σ2 x39 fun x40 =>
  addK x40 (.int .i64 1) fun x41 =>
  idxK 4 x36 x41 fun x42 =>
  addrK x42 0 fun x43 =>
  ld1K σ2 x43 fun x44 =>
  ldNK σ2 x3 5 fun x46 =>
  invK X0 run x44 "pub-paratext/pub/rscmarkdown.extend" [x0, x46] σ2 fun x47 σ3 =>
  extK x47 0 fun x48 =>
  extK x47 1 fun x49 =>
  stNK σ3 x3 5 x48 fun _ σ4 =>
  calK run 56 [x4] σ4 fun x50 σ5 =>
  notK x50 fun x51 =>
  grdK x51 true σ5 (fun f => f x49 σ5) fun x53 σ6 =>
  grdK x51 true σ6 (fun f => f x53 σ6) fun x54 σ7 =>
  grdK x54 false σ7 (fun f => ldNK σ7 x3 5 fun v => f v σ7) fun x55 σ8 =>
  grdK x54 false σ8 (fun f => ldNK σ8 x4 5 fun v => f v σ8) fun x56 σ9 =>
  grdK x54 false σ9 (fun _ => .fail) fun x57 σ10 =>
  grdK x51 true σ10 (fun f => pickK x54 (.bool true) x57 fun v => f v σ10) fun x58 σ11 =>
  pickK x51 x58 (.bool false) fun x59 =>
  ifK x59 (
  nchkK x0 fun x61 =>
  addrK x61 4 fun x62 =>
  ld1K σ11 x62 fun x63 =>
  nchkK x0 fun x65 =>
  addrK x65 5 fun x66 =>
  ld1K σ11 x66 fun x67 =>
  addK x67 (.int .i64 1) fun x68 =>
  nchkK x0 fun x70 =>
  addrK x70 3 fun x71 =>
  ld1K σ11 x71 fun x72 =>
  idxK 4 x63 x68 fun x73 =>
  addrK x73 2 fun x74 =>
  addrK x74 1 fun x75 =>
  st1K σ11 x75 x72 fun _ σ12 =>
  c51_9 run fu s7 x0 x3 x49 σ12) (
  c51_9 run fu s7 x0 x3 x49 σ11)) (
  c51_4 run fu x0 x3 σ)

noncomputable def c51_7 (run : FuncId → List AV → Store → Tr R) (fu : Nat) : Nat → AV → AV → Store → Tr R
  | 0 => fun _ _ _ => .fail
  | m + 1 => c51_7b run fu (c51_7 run fu m)

theorem eq51_7 (run : FuncId → List AV → Store → Tr R) (fu : Nat) (s7 : AV → AV → Store → Tr R) (x0 x3 : AV) (σ : Store) : codeK X0 run (.seq (.seq .leaf (.cond .leaf .leaf)) (.seq (.block (.seq .leaf (.seq .leaf (.seq .leaf (.seq (.seq .leaf (.cond .leaf .leaf)) (.sub (fun fr σ => c51_9 run fu s7 (fr.getD 0 .any) (fr.getD 3 .any) (fr.getD 5 .any) σ))))))) (.sub (fun fr σ => c51_8 run fu s7 (fr.getD 0 .any) (fr.getD 3 .any) σ)))) (subC [true, false, true, false, false, false] b51) (frS 0 113 [(0, x0), (3, x3)]) σ (thenK (fun fr σ => s7 (fr.getD 0 .any) (fr.getD 3 .any) σ) (blockK 0 (thenK (fun fr σ => c51_4 run fu (fr.getD 0 .any) (fr.getD 3 .any) σ) (scopeK (subC [true, false] b51) (lblU 0 (fun fr σ => c51_1L run fu fu (fr.getD 0 .any) (fr.getD 3 .any) σ)) k51)))) = c51_7b run fu s7 x0 x3 σ := by kernel_rfl

theorem owed51_7 {run : FuncId → List AV → Store → Tr R} (hrun : RunOK X0 run) (fu : Nat) (s7 : AV → AV → Store → Tr R) : Owes X0 run 113 (.seq (.seq .leaf (.cond .leaf .leaf)) (.seq (.block (.seq .leaf (.seq .leaf (.seq .leaf (.seq (.seq .leaf (.cond .leaf .leaf)) (.sub (fun fr σ => c51_9 run fu s7 (fr.getD 0 .any) (fr.getD 3 .any) (fr.getD 5 .any) σ))))))) (.sub (fun fr σ => c51_8 run fu s7 (fr.getD 0 .any) (fr.getD 3 .any) σ)))) (subC [true, false, true, false, false, false] b51) (thenK (fun fr σ => s7 (fr.getD 0 .any) (fr.getD 3 .any) σ) (blockK 0 (thenK (fun fr σ => c51_4 run fu (fr.getD 0 .any) (fr.getD 3 .any) σ) (scopeK (subC [true, false] b51) (lblU 0 (fun fr σ => c51_1L run fu fu (fr.getD 0 .any) (fr.getD 3 .any) σ)) k51)))) :=
  ⟨⟨trivial, ⟨trivial, trivial⟩⟩, ⟨⟨trivial, ⟨trivial, ⟨trivial, ⟨⟨trivial, ⟨trivial, trivial⟩⟩, (ok51_9 hrun fu s7)⟩⟩⟩⟩, (ok51_8 hrun fu s7)⟩⟩

theorem ok51_7 {run : FuncId → List AV → Store → Tr R} (hrun : RunOK X0 run) (fu : Nat) : ∀ fr σ, KOK X0 113 (subC [true, false, true, false, false] b51) fr σ ((fun fr σ => c51_7 run fu fu (fr.getD 0 .any) (fr.getD 3 .any) σ) fr σ) (blockK 0 (thenK (fun fr σ => c51_4 run fu (fr.getD 0 .any) (fr.getD 3 .any) σ) (scopeK (subC [true, false] b51) (lblU 0 (fun fr σ => c51_1L run fu fu (fr.getD 0 .any) (fr.getD 3 .any) σ)) k51))) := by
  have h := KOK.loop (X := X0) (N := 113) (b := (subC [true, false, true, false, false, false] b51)) (k := (blockK 0 (thenK (fun fr σ => c51_4 run fu (fr.getD 0 .any) (fr.getD 3 .any) σ) (scopeK (subC [true, false] b51) (lblU 0 (fun fr σ => c51_1L run fu fu (fr.getD 0 .any) (fr.getD 3 .any) σ)) k51)))) (u := fun m fr σ => c51_7 run fu m (fr.getD 0 .any) (fr.getD 3 .any) σ) (fun _ _ => rfl) (fun m fr σ => KOK.piece env0 hrun [0, 3] (eq51_7 run fu (c51_7 run fu m) (fr.getD 0 .any) (fr.getD 3 .any) σ) (owed51_7 hrun fu (c51_7 run fu m)))
  exact fun fr σ => h fu fr σ

noncomputable def c51_1 (run : FuncId → List AV → Store → Tr R) (fu : Nat) (x0 x3 : AV) (σ : Store) : Tr R :=
  nchkK x0 fun x11 =>
  addrK x11 5 fun x12 =>
  st1K σ x12 (.int .i64 0) fun _ σ1 =>
  c51_7 run fu fu x0 x3 σ1

theorem eq51_1 (run : FuncId → List AV → Store → Tr R) (fu : Nat) (x0 x3 : AV) (σ : Store) : codeK X0 run (.seq .leaf (.seq (.block (.sub (fun fr σ => c51_7 run fu fu (fr.getD 0 .any) (fr.getD 3 .any) σ))) (.sub (fun fr σ => c51_4 run fu (fr.getD 0 .any) (fr.getD 3 .any) σ)))) (subC [true, false] b51) (frS 0 113 [(0, x0), (3, x3)]) σ (scopeK (subC [true, false] b51) (lblU 0 (fun fr σ => c51_1L run fu fu (fr.getD 0 .any) (fr.getD 3 .any) σ)) k51) = c51_1 run fu x0 x3 σ := by kernel_rfl

theorem ok51_1 {run : FuncId → List AV → Store → Tr R} (hrun : RunOK X0 run) (fu : Nat) : ∀ fr σ, KOK X0 113 (subC [true] b51) fr σ ((fun fr σ => c51_1 run fu (fr.getD 0 .any) (fr.getD 3 .any) σ) fr σ) k51 := fun fr σ =>
  KOK.scope1 (X := X0) (N := 113) (b := (subC [true, false] b51)) (k := k51) 0 (u := fun m fr σ => c51_1L run fu m (fr.getD 0 .any) (fr.getD 3 .any) σ) (fun _ _ => rfl) (fun m fr σ => KOK.piece env0 hrun [0, 3] (eq51_1L run fu (c51_1L run fu m) (fr.getD 0 .any) (fr.getD 3 .any) σ) (owed51_1L hrun fu (c51_1L run fu m))) fu
    (KOK.piece env0 hrun [0, 3] (eq51_1 run fu (fr.getD 0 .any) (fr.getD 3 .any) σ) ⟨trivial, ⟨(ok51_7 hrun fu), (ok51_4 hrun fu)⟩⟩)

noncomputable def c51 (run : FuncId → List AV → Store → Tr R) (fu : Nat) (x0 x1 : AV) (σ : Store) : Tr R :=
  boxK σ 201 x1 fun x3 σ1 =>
  c51_1 run fu x0 x3 σ1

theorem eq51 (run : FuncId → List AV → Store → Tr R) (fu : Nat) (x0 x1 : AV) (σ : Store) : codeK X0 run (.seq .leaf (.sub (fun fr σ => c51_1 run fu (fr.getD 0 .any) (fr.getD 3 .any) σ))) (subC [] b51) ([x0, x1] ++ padA (113 - 2)) σ k51 = c51 run fu x0 x1 σ := by kernel_rfl

theorem ok51 {run : FuncId → List AV → Store → Tr R} (hrun : RunOK X0 run) (fu : Nat) (x0 x1 : AV) (σ : Store) : CallOK X0 51 [x0, x1] σ (c51 run fu x0 x1 σ) :=
  KOK.body (fn := Tryz.f51) (c := subC [] b51) (by kernel_rfl) (by kernel_rfl) (by show 2 ≤ 113; decide) (KOK.whole env0 hrun (eq51 run fu x0 x1 σ) ⟨trivial, (ok51_1 hrun fu)⟩)

-- (*pub-paratext/pub/rscmarkdown.parseState).trimStack

noncomputable def b52 : Code := match Tryz.f52.body with | some c => c | none => .skip

noncomputable def k52 : Kont R := retK Tryz.prog []

noncomputable def c52_2b (run : FuncId → List AV → Store → Tr R) (fu : Nat) (s2 : AV → AV → Store → Tr R) (x0 x1 : AV) (σ : Store) : Tr R :=
  nchkK x0 fun x13 =>
  addrK x13 4 fun x14 =>
  ld1K σ x14 fun x15 =>
  lenLK x15 fun x16 =>
  cmpK .gtr x16 x1 fun x18 =>
  ifK x18 (
  calK run 59 [x0] σ fun x20 σ1 =>
  s2 x0 x1 σ1) (
  .ret (.tup [], σ))

noncomputable def c52_2 (run : FuncId → List AV → Store → Tr R) (fu : Nat) : Nat → AV → AV → Store → Tr R
  | 0 => fun _ _ _ => .fail
  | m + 1 => c52_2b run fu (c52_2 run fu m)

theorem eq52_2 (run : FuncId → List AV → Store → Tr R) (fu : Nat) (s2 : AV → AV → Store → Tr R) (x0 x1 : AV) (σ : Store) : codeK X0 run (.seq (.seq .leaf (.cond .leaf .leaf)) (.block .leaf)) (subC [true, false, false] b52) (frS 0 21 [(0, x0), (1, x1)]) σ (thenK (fun fr σ => s2 (fr.getD 0 .any) (fr.getD 1 .any) σ) (blockK 0 k52)) = c52_2b run fu s2 x0 x1 σ := by kernel_rfl

theorem owed52_2 {run : FuncId → List AV → Store → Tr R} (hrun : RunOK X0 run) (fu : Nat) (s2 : AV → AV → Store → Tr R) : Owes X0 run 21 (.seq (.seq .leaf (.cond .leaf .leaf)) (.block .leaf)) (subC [true, false, false] b52) (thenK (fun fr σ => s2 (fr.getD 0 .any) (fr.getD 1 .any) σ) (blockK 0 k52)) :=
  ⟨⟨trivial, ⟨trivial, trivial⟩⟩, trivial⟩

theorem ok52_2 {run : FuncId → List AV → Store → Tr R} (hrun : RunOK X0 run) (fu : Nat) : ∀ fr σ, KOK X0 21 (subC [true, false] b52) fr σ ((fun fr σ => c52_2 run fu fu (fr.getD 0 .any) (fr.getD 1 .any) σ) fr σ) (blockK 0 k52) := by
  have h := KOK.loop (X := X0) (N := 21) (b := (subC [true, false, false] b52)) (k := (blockK 0 k52)) (u := fun m fr σ => c52_2 run fu m (fr.getD 0 .any) (fr.getD 1 .any) σ) (fun _ _ => rfl) (fun m fr σ => KOK.piece env0 hrun [0, 1] (eq52_2 run fu (c52_2 run fu m) (fr.getD 0 .any) (fr.getD 1 .any) σ) (owed52_2 hrun fu (c52_2 run fu m)))
  exact fun fr σ => h fu fr σ

noncomputable def c52_1 (run : FuncId → List AV → Store → Tr R) (fu : Nat) (x0 x1 : AV) (σ : Store) : Tr R :=
  c52_2 run fu fu x0 x1 σ

theorem eq52_1 (run : FuncId → List AV → Store → Tr R) (fu : Nat) (x0 x1 : AV) (σ : Store) : codeK X0 run (.block (.sub (fun fr σ => c52_2 run fu fu (fr.getD 0 .any) (fr.getD 1 .any) σ))) (subC [true] b52) (frS 0 21 [(0, x0), (1, x1)]) σ k52 = c52_1 run fu x0 x1 σ := by kernel_rfl

theorem ok52_1 {run : FuncId → List AV → Store → Tr R} (hrun : RunOK X0 run) (fu : Nat) : ∀ fr σ, KOK X0 21 (subC [true] b52) fr σ ((fun fr σ => c52_1 run fu (fr.getD 0 .any) (fr.getD 1 .any) σ) fr σ) k52 := fun fr σ =>
  KOK.piece env0 hrun [0, 1] (eq52_1 run fu (fr.getD 0 .any) (fr.getD 1 .any) σ) (ok52_2 hrun fu)

noncomputable def c52 (run : FuncId → List AV → Store → Tr R) (fu : Nat) (x0 x1 : AV) (σ : Store) : Tr R :=
  nchkK x0 fun x5 =>
  addrK x5 4 fun x6 =>
  ld1K σ x6 fun x7 =>
  lenLK x7 fun x8 =>
  cmpK .lss x8 x1 fun x10 =>
  ifK x10 (
  .fail) (
  c52_1 run fu x0 x1 σ)

theorem eq52 (run : FuncId → List AV → Store → Tr R) (fu : Nat) (x0 x1 : AV) (σ : Store) : codeK X0 run (.seq (.seq .leaf (.cond .leaf .leaf)) (.sub (fun fr σ => c52_1 run fu (fr.getD 0 .any) (fr.getD 1 .any) σ))) (subC [] b52) ([x0, x1] ++ padA (21 - 2)) σ k52 = c52 run fu x0 x1 σ := by kernel_rfl

theorem ok52 {run : FuncId → List AV → Store → Tr R} (hrun : RunOK X0 run) (fu : Nat) (x0 x1 : AV) (σ : Store) : CallOK X0 52 [x0, x1] σ (c52 run fu x0 x1 σ) :=
  KOK.body (fn := Tryz.f52) (c := subC [] b52) (by kernel_rfl) (by kernel_rfl) (by show 2 ≤ 21; decide) (KOK.whole env0 hrun (eq52 run fu x0 x1 σ) ⟨⟨trivial, ⟨trivial, trivial⟩⟩, (ok52_1 hrun fu)⟩)

-- (*pub-paratext/pub/rscmarkdown.line).isBlank

noncomputable def b56 : Code := match Tryz.f56.body with | some c => c | none => .skip

noncomputable def k56 : Kont R := retK Tryz.prog [.tmp 2]

noncomputable def c56 (run : FuncId → List AV → Store → Tr R) (fu : Nat) (x0 : AV) (σ : Store) : Tr R :=
  nchkK x0 fun x4 =>
  addrK x4 3 fun x5 =>
  ld1K σ x5 fun x6 =>
  nchkK x0 fun x8 =>
  addrK x8 1 fun x9 =>
  ld1K σ x9 fun x10 =>
  sliceSK x6 (some x10) none fun x11 =>
  calK run 80 [x11] σ fun x12 σ1 =>
  eqSK x12 (.str []) fun x13 =>
  .ret (x13, σ1)

theorem eq56 (run : FuncId → List AV → Store → Tr R) (fu : Nat) (x0 : AV) (σ : Store) : codeK X0 run (.seq .leaf (.seq .leaf .leaf)) (subC [] b56) ([x0] ++ padA (14 - 1)) σ k56 = c56 run fu x0 σ := by kernel_rfl

theorem ok56 {run : FuncId → List AV → Store → Tr R} (hrun : RunOK X0 run) (fu : Nat) (x0 : AV) (σ : Store) : CallOK X0 56 [x0] σ (c56 run fu x0 σ) :=
  KOK.body (fn := Tryz.f56) (c := subC [] b56) (by kernel_rfl) (by kernel_rfl) (by show 1 ≤ 14; decide) (KOK.whole env0 hrun (eq56 run fu x0 σ) ⟨trivial, ⟨trivial, trivial⟩⟩)

-- pub-paratext/pub/rscmarkdown.news

noncomputable def b57 : Code := match Tryz.f57.body with | some c => c | none => .skip

noncomputable def k57 : Kont R := retK Tryz.prog [.tmp 0]

noncomputable def c57 (run : FuncId → List AV → Store → Tr R) (fu : Nat) (σ : Store) : Tr R :=
  opt (fillK [.nilf, .nilf, .nilf, .nilf, .nilf, .nilf, .nilf, .nilf] [(0, 1, (.fn (.func 81) [] [])), (1, 1, (.fn (.func 82) [] [])), (2, 1, (.fn (.func 83) [] [])), (3, 1, (.fn (.func 84) [] [])), (4, 1, (.fn (.func 85) [] [])), (5, 1, (.fn (.func 86) [] [])), (6, 1, (.fn (.func 87) [] [])), (7, 1, (.fn (.func 88) [] []))]) fun cs => newSK σ 237 cs 8 1 fun x1 σ1 =>
  .ret (x1, σ1)

theorem eq57 (run : FuncId → List AV → Store → Tr R) (fu : Nat) (σ : Store) : codeK X0 run (.seq .leaf (.seq .leaf .leaf)) (subC [] b57) ([] ++ padA (2 - 0)) σ k57 = c57 run fu σ := by kernel_rfl

theorem ok57 {run : FuncId → List AV → Store → Tr R} (hrun : RunOK X0 run) (fu : Nat) (σ : Store) : CallOK X0 57 [] σ (c57 run fu σ) :=
  KOK.body (fn := Tryz.f57) (c := subC [] b57) (by kernel_rfl) (by kernel_rfl) (by show 0 ≤ 2; decide) (KOK.whole env0 hrun (eq57 run fu σ) ⟨trivial, ⟨trivial, trivial⟩⟩)

-- pub-paratext/pub/rscmarkdown.newPara

noncomputable def b58 : Code := match Tryz.f58.body with | some c => c | none => .skip

noncomputable def k58 : Kont R := retK Tryz.prog [.cell 4 100, .tmp 5]

noncomputable def c58_2 (run : FuncId → List AV → Store → Tr R) (fu : Nat) (x4 x6 x8 : AV) (σ : Store) : Tr R :=
  nchkK x6 fun x166 =>
  addrK x166 0 fun x167 =>
  ld1K σ x167 fun x168 =>
  opt (fillK [(.str [])] [(0, 1, x8)]) fun cs => newSK σ 19 cs 1 1 fun x170 σ1 =>
  appK 9 1 16 σ1 x168 x170 fun x171 σ2 =>
  nchkK x6 fun x172 =>
  addrK x172 0 fun x173 =>
  st1K σ2 x173 x171 fun _ σ3 =>
  bldK [(.int .i64 0), (.int .i64 0), (.int .i64 0), (.str []), (.int .u8 0)] [] fun x174 =>
  stNK σ3 x4 5 x174 fun _ σ4 =>
  ldNK σ4 x4 5 fun v5 =>
  .ret (.tup [v5, (.bool true)], σ4)

theorem eq58_2 (run : FuncId → List AV → Store → Tr R) (fu : Nat) (x4 x6 x8 : AV) (σ : Store) : codeK X0 run (.seq .leaf (.seq .leaf .leaf)) (subC [true, true, true, true, true, true, true] b58) (frS 0 175 [(4, x4), (6, x6), (8, x8)]) σ k58 = c58_2 run fu x4 x6 x8 σ := by kernel_rfl

theorem ok58_2 {run : FuncId → List AV → Store → Tr R} (hrun : RunOK X0 run) (fu : Nat) : ∀ fr σ, KOK X0 175 (subC [true, true, true, true, true, true, true] b58) fr σ ((fun fr σ => c58_2 run fu (fr.getD 4 .any) (fr.getD 6 .any) (fr.getD 8 .any) σ) fr σ) k58 := fun fr σ =>
  KOK.piece env0 hrun [4, 6, 8] (eq58_2 run fu (fr.getD 4 .any) (fr.getD 6 .any) (fr.getD 8 .any) σ) ⟨trivial, ⟨trivial, trivial⟩⟩

noncomputable def c58_3b (run : FuncId → List AV → Store → Tr R) (fu : Nat) (s3 : AV → AV → AV → AV → AV → Store → Tr R) (x0 x4 x6 x8 x11 : AV) (σ : Store) : Tr R :=
  nchkK x0 fun x140 =>
  addrK x140 4 fun x141 =>
  ld1K σ x141 fun x142 =>
  lenLK x142 fun x143 =>
  cmpK .lss x11 x143 fun x144 =>
  ifK x144 (
  nchkK x0 fun x148 =>
  addrK x148 4 fun x149 =>
  ld1K σ x149 fun x150 =>
  nchkK x0 fun x153 =>
  addrK x153 3 fun x154 =>
  ld1K σ x154 fun x155 =>
  idxK 4 x150 x11 fun x156 =>
  addrK x156 2 fun x157 =>
  addrK x157 1 fun x158 =>
  st1K σ x158 x155 fun _ σ1 =>
  addK x11 (.int .i64 1) fun x146 =>
  s3 x0 x4 x6 x8 x146 σ1) (
  c58_2 run fu x4 x6 x8 σ)

noncomputable def c58_3 (run : FuncId → List AV → Store → Tr R) (fu : Nat) : Nat → AV → AV → AV → AV → AV → Store → Tr R
  | 0 => fun _ _ _ _ _ _ => .fail
  | m + 1 => c58_3b run fu (c58_3 run fu m)

theorem eq58_3 (run : FuncId → List AV → Store → Tr R) (fu : Nat) (s3 : AV → AV → AV → AV → AV → Store → Tr R) (x0 x4 x6 x8 x11 : AV) (σ : Store) : codeK X0 run (.seq (.seq .leaf (.cond .leaf .leaf)) (.seq (.block .leaf) .leaf)) (subC [true, true, true, true, true, true, false, true, false, true, false, false] b58) (frS 0 175 [(0, x0), (4, x4), (6, x6), (8, x8), (11, x11)]) σ (thenK (fun fr σ => s3 (fr.getD 0 .any) (fr.getD 4 .any) (fr.getD 6 .any) (fr.getD 8 .any) (fr.getD 11 .any) σ) (blockK 0 (thenK (fun fr σ => c58_2 run fu (fr.getD 4 .any) (fr.getD 6 .any) (fr.getD 8 .any) σ) k58))) = c58_3b run fu s3 x0 x4 x6 x8 x11 σ := by kernel_rfl

theorem owed58_3 {run : FuncId → List AV → Store → Tr R} (hrun : RunOK X0 run) (fu : Nat) (s3 : AV → AV → AV → AV → AV → Store → Tr R) : Owes X0 run 175 (.seq (.seq .leaf (.cond .leaf .leaf)) (.seq (.block .leaf) .leaf)) (subC [true, true, true, true, true, true, false, true, false, true, false, false] b58) (thenK (fun fr σ => s3 (fr.getD 0 .any) (fr.getD 4 .any) (fr.getD 6 .any) (fr.getD 8 .any) (fr.getD 11 .any) σ) (blockK 0 (thenK (fun fr σ => c58_2 run fu (fr.getD 4 .any) (fr.getD 6 .any) (fr.getD 8 .any) σ) k58))) :=
  ⟨⟨trivial, ⟨trivial, trivial⟩⟩, ⟨trivial, trivial⟩⟩

theorem ok58_3 {run : FuncId → List AV → Store → Tr R} (hrun : RunOK X0 run) (fu : Nat) : ∀ fr σ, KOK X0 175 (subC [true, true, true, true, true, true, false, true, false, true, false] b58) fr σ ((fun fr σ => c58_3 run fu fu (fr.getD 0 .any) (fr.getD 4 .any) (fr.getD 6 .any) (fr.getD 8 .any) (fr.getD 11 .any) σ) fr σ) (blockK 0 (thenK (fun fr σ => c58_2 run fu (fr.getD 4 .any) (fr.getD 6 .any) (fr.getD 8 .any) σ) k58)) := by
  have h := KOK.loop (X := X0) (N := 175) (b := (subC [true, true, true, true, true, true, false, true, false, true, false, false] b58)) (k := (blockK 0 (thenK (fun fr σ => c58_2 run fu (fr.getD 4 .any) (fr.getD 6 .any) (fr.getD 8 .any) σ) k58))) (u := fun m fr σ => c58_3 run fu m (fr.getD 0 .any) (fr.getD 4 .any) (fr.getD 6 .any) (fr.getD 8 .any) (fr.getD 11 .any) σ) (fun _ _ => rfl) (fun m fr σ => KOK.piece env0 hrun [0, 4, 6, 8, 11] (eq58_3 run fu (c58_3 run fu m) (fr.getD 0 .any) (fr.getD 4 .any) (fr.getD 6 .any) (fr.getD 8 .any) (fr.getD 11 .any) σ) (owed58_3 hrun fu (c58_3 run fu m)))
  exact fun fr σ => h fu fr σ

noncomputable def c58_1 (run : FuncId → List AV → Store → Tr R) (fu : Nat) (x0 x4 x6 x7 x8 : AV) (σ : Store) : Tr R :=
  nchkK x0 fun x52 =>
  addrK x52 0 fun x53 =>
  ld1K σ x53 fun x54 =>
  nchkK x54 fun x55 =>
  addrK x55 5 fun x56 =>
  ld1K σ x56 fun x57 =>
  grdK x57 true σ (fun f => f x6 σ) fun x59 σ1 =>
  grdK x57 true σ1 (fun f => neOK (nilEq nilP) x59 .nilp fun v => f v σ1) fun x60 σ2 =>
  pickK x57 x60 (.bool false) fun x61 =>
  grdK x61 true σ2 (fun f => f x7 σ2) fun x63 σ3 =>
  pickK x61 x63 (.bool false) fun x64 =>
  grdK x64 true σ3 (fun f => f x6 σ3) fun x66 σ4 =>
  grdK x64 true σ4 (fun f => nchkK x66 fun v => f v σ4) fun x67 σ5 =>
  grdK x64 true σ5 (fun f => addrK x67 0 fun v => f v σ5) fun x68 σ6 =>
  grdK x64 true σ6 (fun f => ld1K σ6 x68 fun v => f v σ6) fun x69 σ7 =>
  grdK x64 true σ7 (fun f => lenLK x69 fun v => f v σ7) fun x70 σ8 =>
  grdK x64 true σ8 (fun f => cmpK .gtr x70 (.int .i64 0) fun v => f v σ8) fun x71 σ9 =>
  pickK x64 x71 (.bool false) fun x72 =>
  grdK x72 true σ9 (fun f => f x6 σ9) fun x74 σ10 =>
  grdK x72 true σ10 (fun f => nchkK x74 fun v => f v σ10) fun x75 σ11 =>
  grdK x72 true σ11 (fun f => addrK x75 0 fun v => f v σ11) fun x76 σ12 =>
  grdK x72 true σ12 (fun f => ld1K σ12 x76 fun v => f v σ12) fun x77 σ13 =>
  grdK x72 true σ13 (fun f => f x6 σ13) fun x78 σ14 =>
  grdK x72 true σ14 (fun f => nchkK x78 fun v => f v σ14) fun x79 σ15 =>
  grdK x72 true σ15 (fun f => addrK x79 0 fun v => f v σ15) fun x80 σ16 =>
  grdK x72 true σ16 (fun f => ld1K σ16 x80 fun v => f v σ16) fun x81 σ17 =>
  grdK x72 true σ17 (fun f => lenLK x81 fun v => f v σ17) fun x82 σ18 =>
  grdK x72 true σ18 (fun f => subK x82 (.int .i64 1) fun v => f v σ18) fun x83 σ19 =>
  grdK x72 true σ19 (fun f => idxK 1 x77 x83 fun v => f v σ19) fun x84 σ20 =>
  grdK x72 true σ20 (fun f => ld1K σ20 x84 fun v => f v σ20) fun x85 σ21 =>
  grdK x72 true σ21 (fun f => f x8 σ21) fun x86 σ22 =>
  grdK x72 true σ22 (fun f => calK run 92 [x85, x86] σ22 f) fun x87 σ23 =>
  pickK x72 x87 (.bool false) fun x88 =>
  ifK x88 (
  nchkK x6 fun x90 =>
  addrK x90 0 fun x91 =>
  ld1K σ23 x91 fun x92 =>
  nchkK x6 fun x94 =>
  addrK x94 0 fun x95 =>
  ld1K σ23 x95 fun x96 =>
  lenLK x96 fun x97 =>
  subK x97 (.int .i64 1) fun x98 =>
  idxK 1 x92 x98 fun x99 =>
  ld1K σ23 x99 fun x100 =>
  nchkK x6 fun x103 =>
  addrK x103 0 fun x104 =>
  ld1K σ23 x104 fun x105 =>
  nchkK x6 fun x107 =>
  addrK x107 0 fun x108 =>
  ld1K σ23 x108 fun x109 =>
  lenLK x109 fun x110 =>
  subK x110 (.int .i64 1) fun x111 =>
  sliceLK Tryz.prog σ23 158 x105 none (some x111) fun x112 =>
  nchkK x6 fun x113 =>
  addrK x113 0 fun x114 =>
  st1K σ23 x114 x112 fun _ σ24 =>
  newK σ24 323 [.nils, .nilp] fun x115 σ25 =>
  calK run 49 [x0, (.iface 156 x115)] σ25 fun x119 σ26 =>
  newK σ26 333 [(.str []), (.str []), .nils] fun x121 σ27 =>
  nchkK x115 fun x122 =>
  addrK x122 1 fun x123 =>
  st1K σ27 x123 x121 fun _ σ28 =>
  nchkK x115 fun x125 =>
  addrK x125 1 fun x126 =>
  ld1K σ28 x126 fun x127 =>
  calK run 93 [x127, x100, x8] σ28 fun x130 σ29 =>
  bldK [(.int .i64 0), (.int .i64 0), (.int .i64 0), (.str []), (.int .u8 0)] [] fun x131 =>
  stNK σ29 x4 5 x131 fun _ σ30 =>
  ldNK σ30 x4 5 fun v31 =>
  .ret (.tup [v31, (.bool true)], σ30)) (
  neOK (nilEq nilP) x6 .nilp fun x133 =>
  ifK x133 (
  nchkK x0 fun x135 =>
  addrK x135 5 fun x136 =>
  ld1K σ23 x136 fun x137 =>
  c58_3 run fu fu x0 x4 x6 x8 x137 σ23) (
  newK σ23 323 [.nils, .nilp] fun x159 σ32 =>
  calK run 49 [x0, (.iface 156 x159)] σ32 fun x163 σ33 =>
  c58_2 run fu x4 x159 x8 σ33))

theorem eq58_1 (run : FuncId → List AV → Store → Tr R) (fu : Nat) (x0 x4 x6 x7 x8 : AV) (σ : Store) : codeK X0 run (.seq (.seq .leaf (.cond (.seq .leaf (.seq .leaf (.seq .leaf (.seq .leaf (.seq .leaf (.seq .leaf (.seq .leaf .leaf))))))) .leaf)) (.seq (.seq .leaf (.cond (.seq .leaf (.block (.sub (fun fr σ => c58_3 run fu fu (fr.getD 0 .any) (fr.getD 4 .any) (fr.getD 6 .any) (fr.getD 8 .any) (fr.getD 11 .any) σ)))) (.seq .leaf .leaf))) (.sub (fun fr σ => c58_2 run fu (fr.getD 4 .any) (fr.getD 6 .any) (fr.getD 8 .any) σ)))) (subC [true, true, true, true, true] b58) (frS 0 175 [(0, x0), (4, x4), (6, x6), (7, x7), (8, x8)]) σ k58 = c58_1 run fu x0 x4 x6 x7 x8 σ := by kernel_rfl

theorem ok58_1 {run : FuncId → List AV → Store → Tr R} (hrun : RunOK X0 run) (fu : Nat) : ∀ fr σ, KOK X0 175 (subC [true, true, true, true, true] b58) fr σ ((fun fr σ => c58_1 run fu (fr.getD 0 .any) (fr.getD 4 .any) (fr.getD 6 .any) (fr.getD 7 .any) (fr.getD 8 .any) σ) fr σ) k58 := fun fr σ =>
  KOK.piece env0 hrun [0, 4, 6, 7, 8] (eq58_1 run fu (fr.getD 0 .any) (fr.getD 4 .any) (fr.getD 6 .any) (fr.getD 7 .any) (fr.getD 8 .any) σ) ⟨⟨trivial, ⟨⟨trivial, ⟨trivial, ⟨trivial, ⟨trivial, ⟨trivial, ⟨trivial, ⟨trivial, trivial⟩⟩⟩⟩⟩⟩⟩, trivial⟩⟩, ⟨⟨trivial, ⟨⟨trivial, (ok58_3 hrun fu)⟩, ⟨trivial, trivial⟩⟩⟩, (ok58_2 hrun fu)⟩⟩

noncomputable def c58 (run : FuncId → List AV → Store → Tr R) (fu : Nat) (x0 x1 : AV) (σ : Store) : Tr R :=
  boxK σ 201 x1 fun x3 σ1 =>
  newK σ1 201 [(.int .i64 0), (.int .i64 0), (.int .i64 0), (.str []), (.int .u8 0)] fun x4 σ2 =>
  calK run 89 [x0] σ2 fun x13 σ3 =>
  nchkK x0 fun x15 =>
  addrK x15 5 fun x16 =>
  ld1K σ3 x16 fun x17 =>
  nchkK x0 fun x19 =>
  addrK x19 4 fun x20 =>
  ld1K σ3 x20 fun x21 =>
  lenLK x21 fun x22 =>
  subK x22 (.int .i64 2) fun x23 =>
  cmpK .eql x17 x23 fun x24 =>
  calK run 90 [x3] σ3 fun x25 σ4 =>
  neOK (nilEq nilP) x13 .nilp fun x27 =>
  grdK x27 true σ4 (fun f => f x13 σ4) fun x29 σ5 =>
  grdK x27 true σ5 (fun f => nchkK x29 fun v => f v σ5) fun x30 σ6 =>
  grdK x27 true σ6 (fun f => addrK x30 1 fun v => f v σ6) fun x31 σ7 =>
  grdK x27 true σ7 (fun f => ld1K σ7 x31 fun v => f v σ7) fun x32 σ8 =>
  grdK x27 true σ8 (fun f => neOK (nilEq nilP) x32 .nilp fun v => f v σ8) fun x33 σ9 =>
  pickK x27 x33 (.bool false) fun x34 =>
  ifK x34 (
  grdK x24 true σ9 (fun f => f x25 σ9) fun x37 σ10 =>
  grdK x24 true σ10 (fun f => neSK x37 (.str []) fun v => f v σ10) fun x38 σ11 =>
  pickK x24 x38 (.bool false) fun x39 =>
  grdK x39 true σ11 (fun f => f x25 σ11) fun x41 σ12 =>
  grdK x39 true σ12 (fun f => neSK x41 (.str [124]) fun v => f v σ12) fun x42 σ13 =>
  pickK x39 x42 (.bool false) fun x43 =>
  ifK x43 (
  nchkK x13 fun x45 =>
  addrK x45 1 fun x46 =>
  ld1K σ13 x46 fun x47 =>
  calK run 91 [x47, x25] σ13 fun x49 σ14 =>
  bldK [(.int .i64 0), (.int .i64 0), (.int .i64 0), (.str []), (.int .u8 0)] [] fun x50 =>
  stNK σ14 x4 5 x50 fun _ σ15 =>
  ldNK σ15 x4 5 fun v16 =>
  .ret (.tup [v16, (.bool true)], σ15)) (
  c58_1 run fu x0 x4 .nilp x24 x25 σ13)) (
  c58_1 run fu x0 x4 x13 x24 x25 σ9)

theorem eq58 (run : FuncId → List AV → Store → Tr R) (fu : Nat) (x0 x1 : AV) (σ : Store) : codeK X0 run (.seq .leaf (.seq .leaf (.seq .leaf (.seq .leaf (.seq (.seq .leaf (.cond (.seq (.seq .leaf (.cond (.seq .leaf (.seq .leaf .leaf)) .leaf)) .leaf) .leaf)) (.sub (fun fr σ => c58_1 run fu (fr.getD 0 .any) (fr.getD 4 .any) (fr.getD 6 .any) (fr.getD 7 .any) (fr.getD 8 .any) σ))))))) (subC [] b58) ([x0, x1] ++ padA (175 - 2)) σ k58 = c58 run fu x0 x1 σ := by kernel_rfl

theorem ok58 {run : FuncId → List AV → Store → Tr R} (hrun : RunOK X0 run) (fu : Nat) (x0 x1 : AV) (σ : Store) : CallOK X0 58 [x0, x1] σ (c58 run fu x0 x1 σ) :=
  KOK.body (fn := Tryz.f58) (c := subC [] b58) (by kernel_rfl) (by kernel_rfl) (by show 2 ≤ 175; decide) (KOK.whole env0 hrun (eq58 run fu x0 x1 σ) ⟨trivial, ⟨trivial, ⟨trivial, ⟨trivial, ⟨⟨trivial, ⟨⟨⟨trivial, ⟨⟨trivial, ⟨trivial, trivial⟩⟩, trivial⟩⟩, trivial⟩, trivial⟩⟩, (ok58_1 hrun fu)⟩⟩⟩⟩⟩)

-- (*pub-paratext/pub/rscmarkdown.parseState).closeBlock

noncomputable def b59 : Code := match Tryz.f59.body with | some c => c | none => .skip

noncomputable def k59 : Kont R := retK Tryz.prog [.tmp 2]

noncomputable def c59_3 (run : FuncId → List AV → Store → Tr R) (fu : Nat) (x4 : AV) (σ : Store) : Tr R :=
  .ret (x4, σ)

theorem eq59_3 (run : FuncId → List AV → Store → Tr R) (fu : Nat) (x4 : AV) (σ : Store) : codeK X0 run (.seq .leaf .leaf) (subC [true, true, true, true, true, true, true] b59) (frS 0 118 [(4, x4)]) σ k59 = c59_3 run fu x4 σ := by kernel_rfl

theorem ok59_3 {run : FuncId → List AV → Store → Tr R} (hrun : RunOK X0 run) (fu : Nat) : ∀ fr σ, KOK X0 118 (subC [true, true, true, true, true, true, true] b59) fr σ ((fun fr σ => c59_3 run fu (fr.getD 4 .any) σ) fr σ) k59 := fun fr σ =>
  KOK.piece env0 hrun [4] (eq59_3 run fu (fr.getD 4 .any) σ) ⟨trivial, trivial⟩

noncomputable def c59_2 (run : FuncId → List AV → Store → Tr R) (fu : Nat) (x0 x4 : AV) (σ : Store) : Tr R :=
  nchkK x0 fun x73 =>
  addrK x73 4 fun x74 =>
  ld1K σ x74 fun x75 =>
  nchkK x0 fun x77 =>
  addrK x77 4 fun x78 =>
  ld1K σ x78 fun x79 =>
  lenLK x79 fun x80 =>
  subK x80 (.int .i64 1) fun x81 =>
  sliceLK Tryz.prog σ 83 x75 none (some x81) fun x82 =>
  nchkK x0 fun x83 =>
  addrK x83 4 fun x84 =>
  st1K σ x84 x82 fun _ σ1 =>
  nchkK x0 fun x86 =>
  addrK x86 4 fun x87 =>
  ld1K σ1 x87 fun x88 =>
  lenLK x88 fun x89 =>
  cmpK .gtr x89 (.int .i64 0) fun x90 =>
  ifK x90 (
  nchkK x0 fun x92 =>
  addrK x92 4 fun x93 =>
  ld1K σ1 x93 fun x94 =>
  nchkK x0 fun x96 =>
  addrK x96 4 fun x97 =>
  ld1K σ1 x97 fun x98 =>
  lenLK x98 fun x99 =>
  subK x99 (.int .i64 1) fun x100 =>
  idxK 4 x94 x100 fun x101 =>
  nchkK x101 fun x104 =>
  addrK x104 1 fun x105 =>
  ld1K σ1 x105 fun x106 =>
  opt (fillK [.nili] [(0, 1, x4)]) fun cs => newSK σ1 127 cs 1 1 fun x108 σ2 =>
  appK 63 1 16 σ2 x106 x108 fun x109 σ3 =>
  nchkK x101 fun x110 =>
  addrK x110 1 fun x111 =>
  st1K σ3 x111 x109 fun _ σ4 =>
  c59_3 run fu x4 σ4) (
  tasK (some .nilp) 48 false x4 fun x114 =>
  nchkK x0 fun x115 =>
  addrK x115 1 fun x116 =>
  st1K σ1 x116 x114 fun _ σ5 =>
  c59_3 run fu x4 σ5)

theorem eq59_2 (run : FuncId → List AV → Store → Tr R) (fu : Nat) (x0 x4 : AV) (σ : Store) : codeK X0 run (.seq .leaf (.seq (.seq .leaf (.cond (.seq .leaf .leaf) .leaf)) (.sub (fun fr σ => c59_3 run fu (fr.getD 4 .any) σ)))) (subC [true, true, true, true, true] b59) (frS 0 118 [(0, x0), (4, x4)]) σ k59 = c59_2 run fu x0 x4 σ := by kernel_rfl

theorem ok59_2 {run : FuncId → List AV → Store → Tr R} (hrun : RunOK X0 run) (fu : Nat) : ∀ fr σ, KOK X0 118 (subC [true, true, true, true, true] b59) fr σ ((fun fr σ => c59_2 run fu (fr.getD 0 .any) (fr.getD 4 .any) σ) fr σ) k59 := fun fr σ =>
  KOK.piece env0 hrun [0, 4] (eq59_2 run fu (fr.getD 0 .any) (fr.getD 4 .any) σ) ⟨trivial, ⟨⟨trivial, ⟨⟨trivial, trivial⟩, trivial⟩⟩, (ok59_3 hrun fu)⟩⟩

noncomputable def c59_1 (run : FuncId → List AV → Store → Tr R) (fu : Nat) (x0 x3 : AV) (σ : Store) : Tr R :=
  nchkK x3 fun x31 =>
  addrK x31 0 fun x32 =>
  ld1K σ x32 fun x33 =>
  invK X0 run x33 "pub-paratext/pub/rscmarkdown.build" [(.iface 110 x0)] σ fun x36 σ1 =>
  tasK (some .nilp) 107 true x36 fun x39 =>
  extK x39 0 fun x40 =>
  extK x39 1 fun x41 =>
  ifK x41 (
  nchkK x0 fun x45 =>
  addrK x45 6 fun x46 =>
  ld1K σ1 x46 fun x47 =>
  grdK x47 false σ1 (fun f => f x40 σ1) fun x49 σ2 =>
  grdK x47 false σ2 (fun f => calK run 94 [x49] σ2 f) fun x50 σ3 =>
  pickK x47 (.bool true) x50 fun x51 =>
  nchkK x0 fun x52 =>
  addrK x52 6 fun x53 =>
  st1K σ3 x53 x51 fun _ σ4 =>
  nchkK x0 fun x55 =>
  addrK x55 0 fun x56 =>
  ld1K σ4 x56 fun x57 =>
  nchkK x57 fun x58 =>
  addrK x58 2 fun x59 =>
  ld1K σ4 x59 fun x60 =>
  ifK x60 (
  nchkK x0 fun x63 =>
  addrK x63 10 fun x64 =>
  ld1K σ4 x64 fun x65 =>
  opt (fillK [.nilp] [(0, 1, x40)]) fun cs => newSK σ4 215 cs 1 1 fun x67 σ5 =>
  appK 107 1 8 σ5 x65 x67 fun x68 σ6 =>
  nchkK x0 fun x69 =>
  addrK x69 10 fun x70 =>
  st1K σ6 x70 x68 fun _ σ7 =>
  c59_2 run fu x0 x36 σ7) (
  c59_2 run fu x0 x36 σ4)) (
  c59_2 run fu x0 x36 σ1)

theorem eq59_1 (run : FuncId → List AV → Store → Tr R) (fu : Nat) (x0 x3 : AV) (σ : Store) : codeK X0 run (.seq .leaf (.seq (.seq .leaf (.seq .leaf (.cond (.seq .leaf (.seq .leaf (.cond .leaf .leaf))) .leaf))) (.sub (fun fr σ => c59_2 run fu (fr.getD 0 .any) (fr.getD 4 .any) σ)))) (subC [true, true, true] b59) (frS 0 118 [(0, x0), (3, x3)]) σ k59 = c59_1 run fu x0 x3 σ := by kernel_rfl

theorem ok59_1 {run : FuncId → List AV → Store → Tr R} (hrun : RunOK X0 run) (fu : Nat) : ∀ fr σ, KOK X0 118 (subC [true, true, true] b59) fr σ ((fun fr σ => c59_1 run fu (fr.getD 0 .any) (fr.getD 3 .any) σ) fr σ) k59 := fun fr σ =>
  KOK.piece env0 hrun [0, 3] (eq59_1 run fu (fr.getD 0 .any) (fr.getD 3 .any) σ) ⟨trivial, ⟨⟨trivial, ⟨trivial, ⟨⟨trivial, ⟨trivial, ⟨trivial, trivial⟩⟩⟩, trivial⟩⟩⟩, (ok59_2 hrun fu)⟩⟩

noncomputable def c59 (run : FuncId → List AV → Store → Tr R) (fu : Nat) (x0 : AV) (σ : Store) : Tr R :=
  nchkK x0 fun x9 =>
  addrK x9 4 fun x10 =>
  ld1K σ x10 fun x11 =>
  nchkK x0 fun x13 =>
  addrK x13 4 fun x14 =>
  ld1K σ x14 fun x15 =>
  lenLK x15 fun x16 =>
  subK x16 (.int .i64 1) fun x17 =>
  idxK 4 x11 x17 fun x18 =>
  nchkK x18 fun x20 =>
  addrK x20 0 fun x21 =>
  ld1K σ x21 fun x22 =>
  eqOK (eqIfc Tryz.prog true) x22 .nili fun x23 =>
  ifK x23 (
  nchkK x0 fun x25 =>
  addrK x25 4 fun x26 =>
  ld1K σ x26 fun x27 =>
  lenLK x27 fun x28 =>
  subK x28 (.int .i64 1) fun x29 =>
  .fail) (
  c59_1 run fu x0 x18 σ)

theorem eq59 (run : FuncId → List AV → Store → Tr R) (fu : Nat) (x0 : AV) (σ : Store) : codeK X0 run (.seq .leaf (.seq .leaf (.seq (.seq .leaf (.cond .leaf .leaf)) (.sub (fun fr σ => c59_1 run fu (fr.getD 0 .any) (fr.getD 3 .any) σ))))) (subC [] b59) ([x0] ++ padA (118 - 1)) σ k59 = c59 run fu x0 σ := by kernel_rfl

theorem ok59 {run : FuncId → List AV → Store → Tr R} (hrun : RunOK X0 run) (fu : Nat) (x0 : AV) (σ : Store) : CallOK X0 59 [x0] σ (c59 run fu x0 σ) :=
  KOK.body (fn := Tryz.f59) (c := subC [] b59) (by kernel_rfl) (by kernel_rfl) (by show 1 ≤ 118; decide) (KOK.whole env0 hrun (eq59 run fu x0 σ) ⟨trivial, ⟨trivial, ⟨⟨trivial, ⟨trivial, trivial⟩⟩, (ok59_1 hrun fu)⟩⟩⟩)

-- pub-paratext/pub/rscmarkdown.parseLinkOpen

noncomputable def b65 : Code := match Tryz.f65.body with | some c => c | none => .skip

noncomputable def k65 : Kont R := retK Tryz.prog [.tmp 6, .tmp 7, .tmp 8, .tmp 9]

noncomputable def c65 (run : FuncId → List AV → Store → Tr R) (fu : Nat) (x0 x1 x2 : AV) (σ : Store) : Tr R :=
  addK x2 (.int .i64 1) fun x13 =>
  sliceSK x1 (some x2) (some x13) fun x14 =>
  bldK [(.str [])] [(0, 1, x14)] fun x15 =>
  addK x2 (.int .i64 1) fun x17 =>
  bldK [(.str []), (.int .i64 0)] [(0, 1, x15), (1, 1, x17)] fun x18 =>
  boxK σ 267 x18 fun x19 σ1 =>
  addK x2 (.int .i64 1) fun x23 =>
  .ret (.tup [(.iface 128 x19), x2, x23, (.bool true)], σ1)

theorem eq65 (run : FuncId → List AV → Store → Tr R) (fu : Nat) (x0 x1 x2 : AV) (σ : Store) : codeK X0 run (.seq .leaf (.seq .leaf .leaf)) (subC [] b65) ([x0, x1, x2] ++ padA (24 - 3)) σ k65 = c65 run fu x0 x1 x2 σ := by kernel_rfl

theorem ok65 {run : FuncId → List AV → Store → Tr R} (hrun : RunOK X0 run) (fu : Nat) (x0 x1 x2 : AV) (σ : Store) : CallOK X0 65 [x0, x1, x2] σ (c65 run fu x0 x1 x2 σ) :=
  KOK.body (fn := Tryz.f65) (c := subC [] b65) (by kernel_rfl) (by kernel_rfl) (by show 3 ≤ 24; decide) (KOK.whole env0 hrun (eq65 run fu x0 x1 x2 σ) ⟨trivial, ⟨trivial, trivial⟩⟩)

end Go.Proofs.YtfmgdjkcdmjloaaGreatDoor
