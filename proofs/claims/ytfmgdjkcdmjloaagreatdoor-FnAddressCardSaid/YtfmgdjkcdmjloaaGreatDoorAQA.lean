/- Functions of the program, told as Lean functions of abstract values and stores, each with its proof. -/
import Derived.Test.YtfmgdjkcdmjloaaGreatDoorSyX
import Derived.Test.YtfmgdjkcdmjloaaGreatDoorSyRe
import Derived.Test.YtfmgdjkcdmjloaaGreatDoorSyAb
set_option linter.unusedVariables false
set_option linter.unusedSimpArgs false
namespace Go.Proofs.YtfmgdjkcdmjloaaGreatDoor
open Go.AM
-- pub-paratext/laws.FnAddress

noncomputable def b3 : Code := match Tryz.f3.body with | some c => c | none => .skip

noncomputable def k3 : Kont R := retK Tryz.prog [.tmp 6]

noncomputable def c3 (run : RunT) (fu : Nat) (x0 x1 x2 : AV) (σ : Store) : Tr R :=
  lenSK x0 fun x9 =>
  cmpK .gtr x9 (.int .i64 2147483647) fun x10 =>
  grdK x10 false σ (fun f => f x1 σ) fun x12 σ1 =>
  grdK x10 false σ1 (fun f => lenSK x12 fun v => f v σ1) fun x13 σ2 =>
  grdK x10 false σ2 (fun f => cmpK .gtr x13 (.int .i64 2147483647) fun v => f v σ2) fun x14 σ3 =>
  pickK x10 (.bool true) x14 fun x15 =>
  grdK x15 false σ3 (fun f => f x2 σ3) fun x17 σ4 =>
  grdK x15 false σ4 (fun f => lenSK x17 fun v => f v σ4) fun x18 σ5 =>
  grdK x15 false σ5 (fun f => cmpK .gtr x18 (.int .i64 2147483647) fun v => f v σ5) fun x19 σ6 =>
  pickK x15 (.bool true) x19 fun x20 =>
  ifK x20 (
  .ret ((.bool true), σ6)) (
  calK run 11 [x0, (.str [97, 98, 122, 48, 49, 57, 46, 43, 45, 95]), (.int .i64 40)] σ6 fun x22 σ7 =>
  notK x22 fun x23 =>
  grdK x23 false σ7 (fun f => f x0 σ7) fun x25 σ8 =>
  grdK x23 false σ8 (fun f => eqSK x25 (.str []) fun v => f v σ8) fun x26 σ9 =>
  pickK x23 (.bool true) x26 fun x27 =>
  grdK x27 false σ9 (fun f => f x1 σ9) fun x29 σ10 =>
  grdK x27 false σ10 (fun f => calK run 11 [x29, (.str [97, 98, 122]), (.int .i64 40)] σ10 f) fun x30 σ11 =>
  grdK x27 false σ11 (fun f => notK x30 fun v => f v σ11) fun x31 σ12 =>
  pickK x27 (.bool true) x31 fun x32 =>
  grdK x32 false σ12 (fun f => f x1 σ12) fun x34 σ13 =>
  grdK x32 false σ13 (fun f => eqSK x34 (.str []) fun v => f v σ13) fun x35 σ14 =>
  pickK x32 (.bool true) x35 fun x36 =>
  grdK x36 false σ14 (fun f => f x2 σ14) fun x38 σ15 =>
  grdK x36 false σ15 (fun f => calK run 11 [x38, (.str [97, 98, 122]), (.int .i64 40)] σ15 f) fun x39 σ16 =>
  grdK x36 false σ16 (fun f => notK x39 fun v => f v σ16) fun x40 σ17 =>
  pickK x36 (.bool true) x40 fun x41 =>
  grdK x41 false σ17 (fun f => f x2 σ17) fun x43 σ18 =>
  grdK x41 false σ18 (fun f => eqSK x43 (.str []) fun v => f v σ18) fun x44 σ19 =>
  pickK x41 (.bool true) x44 fun x45 =>
  ifK x45 (
  .ret ((.bool true), σ19)) (
  catK x0 (.str [64]) fun x47 =>
  catK x47 x1 fun x49 =>
  catK x49 (.str [46]) fun x50 =>
  catK x50 x2 fun x52 =>
  bldK [(.bool false), (.bool false), (.bool false), (.bool false), (.bool false), (.bool false), (.bool false), (.bool false), (.bool false), (.bool false)] [] fun x53 =>
  catK (.str [60]) x52 fun x55 =>
  catK x55 (.str [62]) fun x56 =>
  calK run 12 [x53, x56] σ19 fun x57 σ20 =>
  catK (.str [60, 112, 62, 60, 97, 32, 104, 114, 101, 102, 61, 34, 109, 97, 105, 108, 116, 111, 58]) x52 fun x59 =>
  catK x59 (.str [34, 62]) fun x60 =>
  catK x60 x52 fun x62 =>
  catK x62 (.str [60, 47, 97, 62, 60, 47, 112, 62, 10]) fun x63 =>
  eqSK x57 x63 fun x64 =>
  .ret (x64, σ20)))

theorem eq3 (run : RunT) (fu : Nat) (x0 x1 x2 : AV) (σ : Store) : codeK X0 run (.seq .leaf (.seq (.seq .leaf (.cond (.seq .leaf .leaf) .leaf)) (.seq (.seq .leaf (.cond (.seq .leaf .leaf) .leaf)) (.seq .leaf (.seq .leaf .leaf))))) (subC [] b3) ([x0, x1, x2] ++ padA (65 - 3)) σ k3 = c3 run fu x0 x1 x2 σ := by kernel_rfl

theorem ok3 {run : RunT} (hrun : RunOK X0 run) (fu : Nat) (x0 x1 x2 : AV) (σ : Store) : CallOK X0 3 [x0, x1, x2] σ (c3 run fu x0 x1 x2 σ) :=
  KOK.body (fn := Tryz.f3) (c := subC [] b3) (by kernel_rfl) (by kernel_rfl) (by show 3 ≤ 65; decide) (KOK.whole env0 hrun (eq3 run fu x0 x1 x2 σ) ⟨trivial, ⟨⟨trivial, ⟨⟨trivial, trivial⟩, trivial⟩⟩, ⟨⟨trivial, ⟨⟨trivial, trivial⟩, trivial⟩⟩, ⟨trivial, ⟨trivial, trivial⟩⟩⟩⟩⟩)

-- pub-paratext/impl.HTML

noncomputable def b12 : Code := match Tryz.f12.body with | some c => c | none => .skip

noncomputable def k12 : Kont R := retK Tryz.prog [.tmp 4]

noncomputable def c12 (run : RunT) (fu : Nat) (x0 x1 : AV) (σ : Store) : Tr R :=
  boxK σ 51 x0 fun x2 σ1 =>
  ldNK σ1 x2 10 fun x5 =>
  calK run 26 [x5] σ1 fun x6 σ2 =>
  calK run 27 [x6, x1] σ2 fun x8 σ3 =>
  calK run 25 [(.iface 48 x8)] σ3 fun x10 σ4 =>
  .ret (x10, σ4)

theorem eq12 (run : RunT) (fu : Nat) (x0 x1 : AV) (σ : Store) : codeK X0 run (.seq .leaf (.seq .leaf .leaf)) (subC [] b12) ([x0, x1] ++ padA (11 - 2)) σ k12 = c12 run fu x0 x1 σ := by kernel_rfl

theorem ok12 {run : RunT} (hrun : RunOK X0 run) (fu : Nat) (x0 x1 : AV) (σ : Store) : CallOK X0 12 [x0, x1] σ (c12 run fu x0 x1 σ) :=
  KOK.body (fn := Tryz.f12) (c := subC [] b12) (by kernel_rfl) (by kernel_rfl) (by show 2 ≤ 11; decide) (KOK.whole env0 hrun (eq12 run fu x0 x1 σ) ⟨trivial, ⟨trivial, trivial⟩⟩)

-- pub-paratext/pub/rscmarkdown.ToHTML

noncomputable def b25 : Code := match Tryz.f25.body with | some c => c | none => .skip

noncomputable def k25 : Kont R := retK Tryz.prog [.tmp 2]

noncomputable def c25 (run : RunT) (fu : Nat) (x0 : AV) (σ : Store) : Tr R :=
  newK σ 135 [.nils, (.int .i64 0), (.int .i8 0)] fun x3 σ1 =>
  invK X0 run x0 "PrintHTML" [x3] σ1 fun x5 σ2 =>
  calK run 37 [x3] σ2 fun x6 σ3 =>
  .ret (x6, σ3)

theorem eq25 (run : RunT) (fu : Nat) (x0 : AV) (σ : Store) : codeK X0 run (.seq .leaf (.seq .leaf (.seq .leaf (.seq .leaf .leaf)))) (subC [] b25) ([x0] ++ padA (7 - 1)) σ k25 = c25 run fu x0 σ := by kernel_rfl

theorem ok25 {run : RunT} (hrun : RunOK X0 run) (fu : Nat) (x0 : AV) (σ : Store) : CallOK X0 25 [x0] σ (c25 run fu x0 σ) :=
  KOK.body (fn := Tryz.f25) (c := subC [] b25) (by kernel_rfl) (by kernel_rfl) (by show 1 ≤ 7; decide) (KOK.whole env0 hrun (eq25 run fu x0 σ) ⟨trivial, ⟨trivial, ⟨trivial, ⟨trivial, trivial⟩⟩⟩⟩)

-- pub-paratext/impl.parser

noncomputable def b26 : Code := match Tryz.f26.body with | some c => c | none => .skip

noncomputable def k26 : Kont R := retK Tryz.prog [.tmp 2]

noncomputable def c26 (run : RunT) (fu : Nat) (x0 : AV) (σ : Store) : Tr R :=
  boxK σ 51 x0 fun x1 σ1 =>
  addrK x1 8 fun x3 =>
  ld1K σ1 x3 fun x4 =>
  addrK x1 0 fun x5 =>
  ld1K σ1 x5 fun x6 =>
  addrK x1 1 fun x7 =>
  ld1K σ1 x7 fun x8 =>
  addrK x1 2 fun x9 =>
  ld1K σ1 x9 fun x10 =>
  addrK x1 3 fun x11 =>
  ld1K σ1 x11 fun x12 =>
  addrK x1 4 fun x13 =>
  ld1K σ1 x13 fun x14 =>
  addrK x1 9 fun x15 =>
  ld1K σ1 x15 fun x16 =>
  addrK x1 5 fun x17 =>
  ld1K σ1 x17 fun x18 =>
  addrK x1 6 fun x19 =>
  ld1K σ1 x19 fun x20 =>
  addrK x1 7 fun x21 =>
  ld1K σ1 x21 fun x22 =>
  bldK [(.bool false), (.bool false), (.bool false), (.bool false), (.bool false), (.bool false), (.bool false), (.bool false), (.bool false), (.bool false)] [(0, 1, x4), (1, 1, x6), (2, 1, x8), (3, 1, x10), (4, 1, x12), (5, 1, x14), (6, 1, x16), (7, 1, x18), (8, 1, x20), (9, 1, x22)] fun x23 =>
  boxK σ1 143 x23 fun x24 σ2 =>
  .ret (x24, σ2)

theorem eq26 (run : RunT) (fu : Nat) (x0 : AV) (σ : Store) : codeK X0 run (.seq .leaf (.seq .leaf .leaf)) (subC [] b26) ([x0] ++ padA (25 - 1)) σ k26 = c26 run fu x0 σ := by kernel_rfl

theorem ok26 {run : RunT} (hrun : RunOK X0 run) (fu : Nat) (x0 : AV) (σ : Store) : CallOK X0 26 [x0] σ (c26 run fu x0 σ) :=
  KOK.body (fn := Tryz.f26) (c := subC [] b26) (by kernel_rfl) (by kernel_rfl) (by show 1 ≤ 25; decide) (KOK.whole env0 hrun (eq26 run fu x0 σ) ⟨trivial, ⟨trivial, trivial⟩⟩)

-- (*pub-paratext/pub/rscmarkdown.Parser).Parse

noncomputable def b27 : Code := match Tryz.f27.body with | some c => c | none => .skip

noncomputable def k27 : Kont R := retK Tryz.prog [.tmp 4]

noncomputable def c27 (run : RunT) (fu : Nat) (x0 x1 : AV) (σ : Store) : Tr R :=
  calK run 38 [x0, x1] σ fun x10 σ1 =>
  extK x10 0 fun x11 =>
  extK x10 1 fun x12 =>
  .ret (x11, σ1)

theorem eq27 (run : RunT) (fu : Nat) (x0 x1 : AV) (σ : Store) : codeK X0 run (.seq .leaf (.seq .leaf (.seq .leaf .leaf))) (subC [] b27) ([x0, x1] ++ padA (14 - 2)) σ k27 = c27 run fu x0 x1 σ := by kernel_rfl

theorem ok27 {run : RunT} (hrun : RunOK X0 run) (fu : Nat) (x0 x1 : AV) (σ : Store) : CallOK X0 27 [x0, x1] σ (c27 run fu x0 x1 σ) :=
  KOK.body (fn := Tryz.f27) (c := subC [] b27) (by kernel_rfl) (by kernel_rfl) (by show 2 ≤ 14; decide) (KOK.whole env0 hrun (eq27 run fu x0 x1 σ) ⟨trivial, ⟨trivial, ⟨trivial, trivial⟩⟩⟩)

-- strings.HasPrefix

noncomputable def b31 : Code := match Tryz.f31.body with | some c => c | none => .skip

noncomputable def k31 : Kont R := retK Tryz.prog [.tmp 4]

noncomputable def c31 (run : RunT) (fu : Nat) (x0 x1 : AV) (σ : Store) : Tr R :=
  calK run 41 [x0, x1] σ fun x7 σ1 =>
  .ret (x7, σ1)

theorem eq31 (run : RunT) (fu : Nat) (x0 x1 : AV) (σ : Store) : codeK X0 run (.seq .leaf (.seq .leaf .leaf)) (subC [] b31) ([x0, x1] ++ padA (8 - 2)) σ k31 = c31 run fu x0 x1 σ := by kernel_rfl

theorem ok31 {run : RunT} (hrun : RunOK X0 run) (fu : Nat) (x0 x1 : AV) (σ : Store) : CallOK X0 31 [x0, x1] σ (c31 run fu x0 x1 σ) :=
  KOK.body (fn := Tryz.f31) (c := subC [] b31) (by kernel_rfl) (by kernel_rfl) (by show 2 ≤ 8; decide) (KOK.whole env0 hrun (eq31 run fu x0 x1 σ) ⟨trivial, ⟨trivial, trivial⟩⟩)

-- (*pub-paratext/pub/rscmarkdown.Parser).parse

noncomputable def b38 : Code := match Tryz.f38.body with | some c => c | none => .skip

noncomputable def k38 : Kont R := retK Tryz.prog [.tmp 4, .tmp 5]

noncomputable def c38_4 (run : RunT) (fu : Nat) (x6 : AV) (σ : Store) : Tr R :=
  addrK x6 1 fun x110 =>
  ld1K σ x110 fun x111 =>
  addrK x6 6 fun x112 =>
  ld1K σ x112 fun x113 =>
  .ret (.tup [x111, x113], σ)

theorem eq38_4 (run : RunT) (fu : Nat) (x6 : AV) (σ : Store) : codeK X0 run (.seq .leaf .leaf) (subC [true, true, true, true, true, true, true, true, true, true] b38) (frS 0 114 [(6, x6)]) σ k38 = c38_4 run fu x6 σ := by kernel_rfl

theorem ok38_4 {run : RunT} (hrun : RunOK X0 run) (fu : Nat) : ∀ fr σ, KOK X0 114 (subC [true, true, true, true, true, true, true, true, true, true] b38) fr σ ((fun fr σ => c38_4 run fu (G fr 6) σ) fr σ) k38 := fun fr σ =>
  KOK.piece env0 hrun [6] (eq38_4 run fu (G fr 6) σ) ⟨trivial, trivial⟩

noncomputable def c38_5b (run : RunT) (fu : Nat) (s5 : W4) (x6 x101 x102 x103 : AV) (σ : Store) : Tr R :=
  cmpK .lss x103 x102 fun x104 =>
  ifK x104 (
  idxK 1 x101 x103 fun x105 =>
  ld1K σ x105 fun x106 =>
  calK run 54 [x6, x106] σ fun x108 σ1 =>
  addK x103 (.int .i64 1) fun x109 =>
  s5 x6 x101 x102 x109 σ1) (
  c38_4 run fu x6 σ)

noncomputable def c38_5 (run : RunT) (fu : Nat) : Nat → W4
  | 0 => fun _ _ _ _ _ => .fail
  | m + 1 => c38_5b run fu (c38_5 run fu m)

theorem eq38_5 (run : RunT) (fu : Nat) (s5 : W4) (x6 x101 x102 x103 : AV) (σ : Store) : codeK X0 run (.seq .leaf (.seq (.cond .leaf .leaf) (.seq (.block (.seq .leaf .leaf)) .leaf))) (subC [true, true, true, true, true, true, true, true, true, false, true, false, true, false, false] b38) (frS 0 114 [(6, x6), (101, x101), (102, x102), (103, x103)]) σ (thenK (fun fr σ => s5 (G fr 6) (G fr 101) (G fr 102) (G fr 103) σ) (blockK 5 (thenK (fun fr σ => c38_4 run fu (G fr 6) σ) k38))) = c38_5b run fu s5 x6 x101 x102 x103 σ := by kernel_rfl

theorem owed38_5 {run : RunT} (hrun : RunOK X0 run) (fu : Nat) (s5 : W4) : Owes X0 run 114 (.seq .leaf (.seq (.cond .leaf .leaf) (.seq (.block (.seq .leaf .leaf)) .leaf))) (subC [true, true, true, true, true, true, true, true, true, false, true, false, true, false, false] b38) (thenK (fun fr σ => s5 (G fr 6) (G fr 101) (G fr 102) (G fr 103) σ) (blockK 5 (thenK (fun fr σ => c38_4 run fu (G fr 6) σ) k38))) :=
  ⟨trivial, ⟨⟨trivial, trivial⟩, ⟨⟨trivial, trivial⟩, trivial⟩⟩⟩

theorem ok38_5 {run : RunT} (hrun : RunOK X0 run) (fu : Nat) : ∀ fr σ, KOK X0 114 (subC [true, true, true, true, true, true, true, true, true, false, true, false, true, false] b38) fr σ ((fun fr σ => c38_5 run fu fu (G fr 6) (G fr 101) (G fr 102) (G fr 103) σ) fr σ) (blockK 5 (thenK (fun fr σ => c38_4 run fu (G fr 6) σ) k38)) := by
  have h := KOK.loop (X := X0) (N := 114) (b := (subC [true, true, true, true, true, true, true, true, true, false, true, false, true, false, false] b38)) (k := (blockK 5 (thenK (fun fr σ => c38_4 run fu (G fr 6) σ) k38))) (u := fun m fr σ => c38_5 run fu m (G fr 6) (G fr 101) (G fr 102) (G fr 103) σ) (fun _ _ => rfl) (fun m fr σ => KOK.piece env0 hrun [6, 101, 102, 103] (eq38_5 run fu (c38_5 run fu m) (G fr 6) (G fr 101) (G fr 102) (G fr 103) σ) (owed38_5 hrun fu (c38_5 run fu m)))
  exact fun fr σ => h fu fr σ

noncomputable def c38_3 (run : RunT) (fu : Nat) (x0 x6 : AV) (σ : Store) : Tr R :=
  nchkK x0 fun x97 =>
  addrK x97 2 fun x98 =>
  ld1K σ x98 fun x99 =>
  ifK x99 (
  addrK x6 10 fun x100 =>
  ld1K σ x100 fun x101 =>
  lenLK x101 fun x102 =>
  c38_5 run fu fu x6 x101 x102 (.int .i64 0) σ) (
  c38_4 run fu x6 σ)

theorem eq38_3 (run : RunT) (fu : Nat) (x0 x6 : AV) (σ : Store) : codeK X0 run (.seq (.seq .leaf (.cond (.seq .leaf (.block (.sub (fun fr σ => c38_5 run fu fu (G fr 6) (G fr 101) (G fr 102) (G fr 103) σ)))) .leaf)) (.sub (fun fr σ => c38_4 run fu (G fr 6) σ))) (subC [true, true, true, true, true, true, true, true, true] b38) (frS 0 114 [(0, x0), (6, x6)]) σ k38 = c38_3 run fu x0 x6 σ := by kernel_rfl

theorem ok38_3 {run : RunT} (hrun : RunOK X0 run) (fu : Nat) : ∀ fr σ, KOK X0 114 (subC [true, true, true, true, true, true, true, true, true] b38) fr σ ((fun fr σ => c38_3 run fu (G fr 0) (G fr 6) σ) fr σ) k38 := fun fr σ =>
  KOK.piece env0 hrun [0, 6] (eq38_3 run fu (G fr 0) (G fr 6) σ) ⟨⟨trivial, ⟨⟨trivial, (ok38_5 hrun fu)⟩, trivial⟩⟩, (ok38_4 hrun fu)⟩

noncomputable def c38_6b (run : RunT) (fu : Nat) (s6 : W5) (x0 x6 x81 x82 x83 : AV) (σ : Store) : Tr R :=
  cmpK .lss x83 x82 fun x84 =>
  ifK x84 (
  idxK 1 x81 x83 fun x85 =>
  ld1K σ x85 fun x86 =>
  nchkK x86 fun x89 =>
  addrK x89 3 fun x90 =>
  ld1K σ x90 fun x91 =>
  calK run 53 [x6, x91] σ fun x92 σ1 =>
  nchkK x86 fun x93 =>
  addrK x93 2 fun x94 =>
  st1K σ1 x94 x92 fun _ σ2 =>
  addK x83 (.int .i64 1) fun x95 =>
  s6 x0 x6 x81 x82 x95 σ2) (
  c38_3 run fu x0 x6 σ)

noncomputable def c38_6 (run : RunT) (fu : Nat) : Nat → W5
  | 0 => fun _ _ _ _ _ _ => .fail
  | m + 1 => c38_6b run fu (c38_6 run fu m)

theorem eq38_6 (run : RunT) (fu : Nat) (s6 : W5) (x0 x6 x81 x82 x83 : AV) (σ : Store) : codeK X0 run (.seq .leaf (.seq (.cond .leaf .leaf) (.seq (.block (.seq .leaf .leaf)) .leaf))) (subC [true, true, true, true, true, true, true, true, false, true, false, false] b38) (frS 0 114 [(0, x0), (6, x6), (81, x81), (82, x82), (83, x83)]) σ (thenK (fun fr σ => s6 (G fr 0) (G fr 6) (G fr 81) (G fr 82) (G fr 83) σ) (blockK 3 (thenK (fun fr σ => c38_3 run fu (G fr 0) (G fr 6) σ) k38))) = c38_6b run fu s6 x0 x6 x81 x82 x83 σ := by kernel_rfl

theorem owed38_6 {run : RunT} (hrun : RunOK X0 run) (fu : Nat) (s6 : W5) : Owes X0 run 114 (.seq .leaf (.seq (.cond .leaf .leaf) (.seq (.block (.seq .leaf .leaf)) .leaf))) (subC [true, true, true, true, true, true, true, true, false, true, false, false] b38) (thenK (fun fr σ => s6 (G fr 0) (G fr 6) (G fr 81) (G fr 82) (G fr 83) σ) (blockK 3 (thenK (fun fr σ => c38_3 run fu (G fr 0) (G fr 6) σ) k38))) :=
  ⟨trivial, ⟨⟨trivial, trivial⟩, ⟨⟨trivial, trivial⟩, trivial⟩⟩⟩

theorem ok38_6 {run : RunT} (hrun : RunOK X0 run) (fu : Nat) : ∀ fr σ, KOK X0 114 (subC [true, true, true, true, true, true, true, true, false, true, false] b38) fr σ ((fun fr σ => c38_6 run fu fu (G fr 0) (G fr 6) (G fr 81) (G fr 82) (G fr 83) σ) fr σ) (blockK 3 (thenK (fun fr σ => c38_3 run fu (G fr 0) (G fr 6) σ) k38)) := by
  have h := KOK.loop (X := X0) (N := 114) (b := (subC [true, true, true, true, true, true, true, true, false, true, false, false] b38)) (k := (blockK 3 (thenK (fun fr σ => c38_3 run fu (G fr 0) (G fr 6) σ) k38))) (u := fun m fr σ => c38_6 run fu m (G fr 0) (G fr 6) (G fr 81) (G fr 82) (G fr 83) σ) (fun _ _ => rfl) (fun m fr σ => KOK.piece env0 hrun [0, 6, 81, 82, 83] (eq38_6 run fu (c38_6 run fu m) (G fr 0) (G fr 6) (G fr 81) (G fr 82) (G fr 83) σ) (owed38_6 hrun fu (c38_6 run fu m)))
  exact fun fr σ => h fu fr σ

noncomputable def c38_2 (run : RunT) (fu : Nat) (x0 x6 : AV) (σ : Store) : Tr R :=
  calK run 52 [x6, (.int .i64 0)] σ fun x79 σ1 =>
  addrK x6 11 fun x80 =>
  ld1K σ1 x80 fun x81 =>
  lenLK x81 fun x82 =>
  c38_6 run fu fu x0 x6 x81 x82 (.int .i64 0) σ1

theorem eq38_2 (run : RunT) (fu : Nat) (x0 x6 : AV) (σ : Store) : codeK X0 run (.seq .leaf (.seq (.seq .leaf (.block (.sub (fun fr σ => c38_6 run fu fu (G fr 0) (G fr 6) (G fr 81) (G fr 82) (G fr 83) σ)))) (.sub (fun fr σ => c38_3 run fu (G fr 0) (G fr 6) σ)))) (subC [true, true, true, true, true, true, true] b38) (frS 0 114 [(0, x0), (6, x6)]) σ k38 = c38_2 run fu x0 x6 σ := by kernel_rfl

theorem ok38_2 {run : RunT} (hrun : RunOK X0 run) (fu : Nat) : ∀ fr σ, KOK X0 114 (subC [true, true, true, true, true, true, true] b38) fr σ ((fun fr σ => c38_2 run fu (G fr 0) (G fr 6) σ) fr σ) k38 := fun fr σ =>
  KOK.piece env0 hrun [0, 6] (eq38_2 run fu (G fr 0) (G fr 6) σ) ⟨trivial, ⟨⟨trivial, (ok38_6 hrun fu)⟩, (ok38_3 hrun fu)⟩⟩

noncomputable def c38_8 (run : RunT) (fu : Nat) (s7 : W3) (x0 x1 x6 x7 x10 : AV) (σ : Store) : Tr R :=
  addrK x6 3 fun x71 =>
  ld1K σ x71 fun x72 =>
  addK x72 (.int .i64 1) fun x73 =>
  addrK x6 3 fun x74 =>
  st1K σ x74 x73 fun _ σ1 =>
  bldK [(.int .i64 0), (.int .i64 0), (.int .i64 0), (.str []), (.int .u8 0)] [(3, 1, x7), (4, 1, x10)] fun x77 =>
  calK run 51 [x6, x77] σ1 fun x78 σ2 =>
  s7 x0 x1 x6 σ2

theorem eq38_8 (run : RunT) (fu : Nat) (s7 : W3) (x0 x1 x6 x7 x10 : AV) (σ : Store) : codeK X0 run (.seq .leaf .leaf) (subC [true, true, true, true, true, true, false, false, false, true, false, true, true, true, true, true] b38) (frS 0 114 [(0, x0), (1, x1), (6, x6), (7, x7), (10, x10)]) σ (blockK 1 (thenK (fun fr σ => s7 (G fr 0) (G fr 1) (G fr 6) σ) (blockK 0 (thenK (fun fr σ => c38_2 run fu (G fr 0) (G fr 6) σ) k38)))) = c38_8 run fu s7 x0 x1 x6 x7 x10 σ := by kernel_rfl

theorem ok38_8 {run : RunT} (hrun : RunOK X0 run) (fu : Nat) (s7 : W3) : ∀ fr σ, KOK X0 114 (subC [true, true, true, true, true, true, false, false, false, true, false, true, true, true, true, true] b38) fr σ ((fun fr σ => c38_8 run fu s7 (G fr 0) (G fr 1) (G fr 6) (G fr 7) (G fr 10) σ) fr σ) (blockK 1 (thenK (fun fr σ => s7 (G fr 0) (G fr 1) (G fr 6) σ) (blockK 0 (thenK (fun fr σ => c38_2 run fu (G fr 0) (G fr 6) σ) k38)))) := fun fr σ =>
  KOK.piece env0 hrun [0, 1, 6, 7, 10] (eq38_8 run fu s7 (G fr 0) (G fr 1) (G fr 6) (G fr 7) (G fr 10) σ) ⟨trivial, trivial⟩

noncomputable def c38_7b (run : RunT) (fu : Nat) (s7 : W3) (x0 x1 x6 : AV) (σ : Store) : Tr R :=
  neSK x1 (.str []) fun x28 =>
  ifK x28 (
  calK run 50 [x1, (.str [10])] σ fun x30 σ1 =>
  calK run 50 [x1, (.str [13])] σ1 fun x32 σ2 =>
  cmpK .geq x32 (.int .i64 0) fun x36 =>
  grdK x36 true σ2 (fun f => f x30 σ2) fun x38 σ3 =>
  grdK x36 true σ3 (fun f => cmpK .lss x38 (.int .i64 0) fun v => f v σ3) fun x39 σ4 =>
  grdK x36 true σ4 (fun f => f x39 σ4) fun x40 σ5 =>
  grdK x40 false σ5 (fun f => f x32 σ5) fun x41 σ6 =>
  grdK x40 false σ6 (fun f => f x30 σ6) fun x42 σ7 =>
  grdK x40 false σ7 (fun f => cmpK .lss x41 x42 fun v => f v σ7) fun x43 σ8 =>
  grdK x36 true σ8 (fun f => pickK x40 (.bool true) x43 fun v => f v σ8) fun x44 σ9 =>
  pickK x36 x44 (.bool false) fun x45 =>
  ifK x45 (
  sliceSK x1 none (some x32) fun x48 =>
  addK x32 (.int .i64 1) fun x51 =>
  cmpK .eql x30 x51 fun x52 =>
  ifK x52 (
  addK x32 (.int .i64 2) fun x55 =>
  sliceSK x1 (some x55) none fun x56 =>
  c38_8 run fu s7 x0 x56 x6 x48 (.int .u8 23) σ9) (
  addK x32 (.int .i64 1) fun x59 =>
  sliceSK x1 (some x59) none fun x60 =>
  c38_8 run fu s7 x0 x60 x6 x48 (.int .u8 13) σ9)) (
  cmpK .geq x30 (.int .i64 0) fun x63 =>
  ifK x63 (
  sliceSK x1 none (some x30) fun x66 =>
  addK x30 (.int .i64 1) fun x69 =>
  sliceSK x1 (some x69) none fun x70 =>
  c38_8 run fu s7 x0 x70 x6 x66 (.int .u8 10) σ9) (
  c38_8 run fu s7 x0 (.str []) x6 x1 (.int .u8 0) σ9))) (
  c38_2 run fu x0 x6 σ)

noncomputable def c38_7 (run : RunT) (fu : Nat) : Nat → W3
  | 0 => fun _ _ _ _ => .fail
  | m + 1 => c38_7b run fu (c38_7 run fu m)

theorem eq38_7 (run : RunT) (fu : Nat) (s7 : W3) (x0 x1 x6 : AV) (σ : Store) : codeK X0 run (.seq (.seq .leaf (.cond .leaf .leaf)) (.block (.seq .leaf (.seq .leaf (.seq .leaf (.seq .leaf (.seq (.block (.seq .leaf (.cond (.seq .leaf (.seq .leaf (.cond (.seq .leaf .leaf) (.seq .leaf .leaf)))) (.seq .leaf (.cond (.seq .leaf .leaf) .leaf))))) (.sub (fun fr σ => c38_8 run fu s7 (G fr 0) (G fr 1) (G fr 6) (G fr 7) (G fr 10) σ))))))))) (subC [true, true, true, true, true, true, false, false, false] b38) (frS 0 114 [(0, x0), (1, x1), (6, x6)]) σ (thenK (fun fr σ => s7 (G fr 0) (G fr 1) (G fr 6) σ) (blockK 0 (thenK (fun fr σ => c38_2 run fu (G fr 0) (G fr 6) σ) k38))) = c38_7b run fu s7 x0 x1 x6 σ := by kernel_rfl

theorem owed38_7 {run : RunT} (hrun : RunOK X0 run) (fu : Nat) (s7 : W3) : Owes X0 run 114 (.seq (.seq .leaf (.cond .leaf .leaf)) (.block (.seq .leaf (.seq .leaf (.seq .leaf (.seq .leaf (.seq (.block (.seq .leaf (.cond (.seq .leaf (.seq .leaf (.cond (.seq .leaf .leaf) (.seq .leaf .leaf)))) (.seq .leaf (.cond (.seq .leaf .leaf) .leaf))))) (.sub (fun fr σ => c38_8 run fu s7 (G fr 0) (G fr 1) (G fr 6) (G fr 7) (G fr 10) σ))))))))) (subC [true, true, true, true, true, true, false, false, false] b38) (thenK (fun fr σ => s7 (G fr 0) (G fr 1) (G fr 6) σ) (blockK 0 (thenK (fun fr σ => c38_2 run fu (G fr 0) (G fr 6) σ) k38))) :=
  ⟨⟨trivial, ⟨trivial, trivial⟩⟩, ⟨trivial, ⟨trivial, ⟨trivial, ⟨trivial, ⟨⟨trivial, ⟨⟨trivial, ⟨trivial, ⟨⟨trivial, trivial⟩, ⟨trivial, trivial⟩⟩⟩⟩, ⟨trivial, ⟨⟨trivial, trivial⟩, trivial⟩⟩⟩⟩, (ok38_8 hrun fu s7)⟩⟩⟩⟩⟩⟩

theorem ok38_7 {run : RunT} (hrun : RunOK X0 run) (fu : Nat) : ∀ fr σ, KOK X0 114 (subC [true, true, true, true, true, true, false, false] b38) fr σ ((fun fr σ => c38_7 run fu fu (G fr 0) (G fr 1) (G fr 6) σ) fr σ) (blockK 0 (thenK (fun fr σ => c38_2 run fu (G fr 0) (G fr 6) σ) k38)) := by
  have h := KOK.loop (X := X0) (N := 114) (b := (subC [true, true, true, true, true, true, false, false, false] b38)) (k := (blockK 0 (thenK (fun fr σ => c38_2 run fu (G fr 0) (G fr 6) σ) k38))) (u := fun m fr σ => c38_7 run fu m (G fr 0) (G fr 1) (G fr 6) σ) (fun _ _ => rfl) (fun m fr σ => KOK.piece env0 hrun [0, 1, 6] (eq38_7 run fu (c38_7 run fu m) (G fr 0) (G fr 1) (G fr 6) σ) (owed38_7 hrun fu (c38_7 run fu m)))
  exact fun fr σ => h fu fr σ

noncomputable def c38_1 (run : RunT) (fu : Nat) (x0 x1 x6 : AV) (σ : Store) : Tr R :=
  addrK x6 5 fun x22 =>
  st1K σ x22 (.int .i64 (-1)) fun _ σ1 =>
  bldK [] [] fun x23 =>
  boxK σ1 193 x23 fun x24 σ2 =>
  calK run 49 [x6, (.iface 94 x24)] σ2 fun x26 σ3 =>
  c38_7 run fu fu x0 x1 x6 σ3

theorem eq38_1 (run : RunT) (fu : Nat) (x0 x1 x6 : AV) (σ : Store) : codeK X0 run (.seq .leaf (.seq .leaf (.seq (.block (.sub (fun fr σ => c38_7 run fu fu (G fr 0) (G fr 1) (G fr 6) σ))) (.sub (fun fr σ => c38_2 run fu (G fr 0) (G fr 6) σ))))) (subC [true, true, true, true] b38) (frS 0 114 [(0, x0), (1, x1), (6, x6)]) σ k38 = c38_1 run fu x0 x1 x6 σ := by kernel_rfl

theorem ok38_1 {run : RunT} (hrun : RunOK X0 run) (fu : Nat) : ∀ fr σ, KOK X0 114 (subC [true, true, true, true] b38) fr σ ((fun fr σ => c38_1 run fu (G fr 0) (G fr 1) (G fr 6) σ) fr σ) k38 := fun fr σ =>
  KOK.piece env0 hrun [0, 1, 6] (eq38_1 run fu (G fr 0) (G fr 1) (G fr 6) σ) ⟨trivial, ⟨trivial, ⟨(ok38_7 hrun fu), (ok38_2 hrun fu)⟩⟩⟩

noncomputable def c38 (run : RunT) (fu : Nat) (x0 x1 : AV) (σ : Store) : Tr R :=
  newK σ 183 [.nilp, .nilp, .nilm, (.int .i64 0), .nils, (.int .i64 0), (.bool false), (.str []), (.int .i64 0), .nils, .nils, .nils, (.int .i64 0), (.int .i64 0), (.int .i64 0), (.int .i64 0), (.int .i64 0), (.int .i64 0), (.int .i64 0), (.int .i64 0), (.int .i64 0), (.int .i64 0), (.int .i64 0), (.int .i64 0), (.int .i64 0), (.int .i64 0), (.int .i64 0), (.int .i64 0), (.int .i64 0), (.int .i64 0), (.int .i64 0), (.int .i64 0), (.int .i64 0), (.int .i64 0), (.int .i64 0), (.int .i64 0), (.int .i64 0), (.int .i64 0), (.int .i64 0), (.int .i64 0), (.int .i64 0), (.int .i64 0), (.int .i64 0), (.int .i64 0), (.int .i64 0), (.int .i64 0), (.int .i64 0), (.int .i64 0), (.int .i64 0), (.int .i64 0), (.int .i64 0), (.int .i64 0), (.int .i64 0), (.int .i64 0), (.int .i64 0), (.int .i64 0), (.int .i64 0), (.int .i64 0), (.int .i64 0), (.int .i64 0), (.int .i64 0), (.int .i64 0), (.int .i64 0), (.int .i64 0), (.int .i64 0), (.int .i64 0), (.int .i64 0), (.int .i64 0), (.int .i64 0), (.int .i64 0), (.int .i64 0), (.int .i64 0), (.int .i64 0), (.int .i64 0), (.int .i64 0), (.int .i64 0), (.int .i64 0), (.int .i64 0), (.int .i64 0), (.int .i64 0), (.int .i64 0), (.int .i64 0), (.int .i64 0), (.int .i64 0), (.int .i64 0), (.int .i64 0), (.int .i64 0), (.int .i64 0), (.int .i64 0), (.int .i64 0), (.int .i64 0), (.int .i64 0), (.bool false)] fun x6 σ1 =>
  addrK x6 0 fun x16 =>
  st1K σ1 x16 x0 fun _ σ2 =>
  calK run 47 [x1, (.str [0])] σ2 fun x18 σ3 =>
  ifK x18 (
  calK run 48 [x1, (.str [0]), (.str [239, 191, 189])] σ3 fun x20 σ4 =>
  addrK x6 6 fun x21 =>
  st1K σ4 x21 (.bool true) fun _ σ5 =>
  c38_1 run fu x0 x20 x6 σ5) (
  c38_1 run fu x0 x1 x6 σ3)

theorem eq38 (run : RunT) (fu : Nat) (x0 x1 : AV) (σ : Store) : codeK X0 run (.seq .leaf (.seq .leaf (.seq .leaf (.seq (.seq .leaf (.cond (.seq .leaf .leaf) .leaf)) (.sub (fun fr σ => c38_1 run fu (G fr 0) (G fr 1) (G fr 6) σ)))))) (subC [] b38) ([x0, x1] ++ padA (114 - 2)) σ k38 = c38 run fu x0 x1 σ := by kernel_rfl

theorem ok38 {run : RunT} (hrun : RunOK X0 run) (fu : Nat) (x0 x1 : AV) (σ : Store) : CallOK X0 38 [x0, x1] σ (c38 run fu x0 x1 σ) :=
  KOK.body (fn := Tryz.f38) (c := subC [] b38) (by kernel_rfl) (by kernel_rfl) (by show 2 ≤ 114; decide) (KOK.whole env0 hrun (eq38 run fu x0 x1 σ) ⟨trivial, ⟨trivial, ⟨trivial, ⟨⟨trivial, ⟨⟨trivial, trivial⟩, trivial⟩⟩, (ok38_1 hrun fu)⟩⟩⟩⟩)

-- pub-paratext/pub/rscmarkdown.zzContains

noncomputable def b47 : Code := match Tryz.f47.body with | some c => c | none => .skip

noncomputable def k47 : Kont R := retK Tryz.prog [.tmp 4]

noncomputable def c47 (run : RunT) (fu : Nat) (x0 x1 : AV) (σ : Store) : Tr R :=
  calK run 50 [x0, x1] σ fun x7 σ1 =>
  cmpK .geq x7 (.int .i64 0) fun x8 =>
  .ret (x8, σ1)

theorem eq47 (run : RunT) (fu : Nat) (x0 x1 : AV) (σ : Store) : codeK X0 run (.seq .leaf (.seq .leaf .leaf)) (subC [] b47) ([x0, x1] ++ padA (9 - 2)) σ k47 = c47 run fu x0 x1 σ := by kernel_rfl

theorem ok47 {run : RunT} (hrun : RunOK X0 run) (fu : Nat) (x0 x1 : AV) (σ : Store) : CallOK X0 47 [x0, x1] σ (c47 run fu x0 x1 σ) :=
  KOK.body (fn := Tryz.f47) (c := subC [] b47) (by kernel_rfl) (by kernel_rfl) (by show 2 ≤ 9; decide) (KOK.whole env0 hrun (eq47 run fu x0 x1 σ) ⟨trivial, ⟨trivial, trivial⟩⟩)

-- (*pub-paratext/pub/rscmarkdown.parseState).addBlock

noncomputable def b49 : Code := match Tryz.f49.body with | some c => c | none => .skip

noncomputable def k49 : Kont R := retK Tryz.prog []

noncomputable def c49 (run : RunT) (fu : Nat) (x0 x1 : AV) (σ : Store) : Tr R :=
  nchkK x0 fun x7 =>
  addrK x7 5 fun x8 =>
  ld1K σ x8 fun x9 =>
  addK x9 (.int .i64 1) fun x10 =>
  calK run 52 [x0, x10] σ fun x11 σ1 =>
  nchkK x0 fun x14 =>
  addrK x14 4 fun x15 =>
  ld1K σ1 x15 fun x16 =>
  bldK [.nili, .nils, (.int .i64 0), (.int .i64 0)] [] fun x17 =>
  opt (fillK [.nili, .nils, (.int .i64 0), (.int .i64 0)] [(0, 4, x17)]) fun cs => newSK σ1 231 cs 1 4 fun x18 σ2 =>
  appK 115 4 56 σ2 x16 x18 fun x19 σ3 =>
  nchkK x0 fun x20 =>
  addrK x20 4 fun x21 =>
  st1K σ3 x21 x19 fun _ σ4 =>
  nchkK x0 fun x23 =>
  addrK x23 4 fun x24 =>
  ld1K σ4 x24 fun x25 =>
  nchkK x0 fun x27 =>
  addrK x27 4 fun x28 =>
  ld1K σ4 x28 fun x29 =>
  lenLK x29 fun x30 =>
  subK x30 (.int .i64 1) fun x31 =>
  idxK 4 x25 x31 fun x32 =>
  nchkK x32 fun x35 =>
  addrK x35 0 fun x36 =>
  st1K σ4 x36 x1 fun _ σ5 =>
  nchkK x0 fun x39 =>
  addrK x39 3 fun x40 =>
  ld1K σ5 x40 fun x41 =>
  nchkK x32 fun x42 =>
  addrK x42 2 fun x43 =>
  addrK x43 0 fun x44 =>
  st1K σ5 x44 x41 fun _ σ6 =>
  nchkK x0 fun x47 =>
  addrK x47 3 fun x48 =>
  ld1K σ6 x48 fun x49 =>
  nchkK x32 fun x50 =>
  addrK x50 2 fun x51 =>
  addrK x51 1 fun x52 =>
  st1K σ6 x52 x49 fun _ σ7 =>
  .ret (.tup [], σ7)

theorem eq49 (run : RunT) (fu : Nat) (x0 x1 : AV) (σ : Store) : codeK X0 run (.seq .leaf (.seq .leaf (.seq .leaf (.seq .leaf (.seq .leaf .leaf))))) (subC [] b49) ([x0, x1] ++ padA (53 - 2)) σ k49 = c49 run fu x0 x1 σ := by kernel_rfl

theorem ok49 {run : RunT} (hrun : RunOK X0 run) (fu : Nat) (x0 x1 : AV) (σ : Store) : CallOK X0 49 [x0, x1] σ (c49 run fu x0 x1 σ) :=
  KOK.body (fn := Tryz.f49) (c := subC [] b49) (by kernel_rfl) (by kernel_rfl) (by show 2 ≤ 53; decide) (KOK.whole env0 hrun (eq49 run fu x0 x1 σ) ⟨trivial, ⟨trivial, ⟨trivial, ⟨trivial, ⟨trivial, trivial⟩⟩⟩⟩⟩)

-- (*pub-paratext/pub/rscmarkdown.parseState).addLine

noncomputable def b51 : Code := match Tryz.f51.body with | some c => c | none => .skip

noncomputable def k51 : Kont R := retK Tryz.prog []

noncomputable def c51_2 (run : RunT) (fu : Nat) (s1 : W2) (x0 x3 : AV) (σ : Store) : Tr R :=
  ldNK σ x3 5 fun x111 =>
  calK run 58 [x0, x111] σ fun x112 σ1 =>
  .ret (.tup [], σ1)

theorem eq51_2 (run : RunT) (fu : Nat) (s1 : W2) (x0 x3 : AV) (σ : Store) : codeK X0 run .leaf (subC [true, true] (lblC 0 (subC [true, false] b51))) (frS 0 113 [(0, x0), (3, x3)]) σ (scopeK (subC [true, false] b51) (lblU 0 (fun fr σ => s1 (G fr 0) (G fr 3) σ)) k51) = c51_2 run fu s1 x0 x3 σ := by kernel_rfl

theorem ok51_2 {run : RunT} (hrun : RunOK X0 run) (fu : Nat) (s1 : W2) : ∀ fr σ, KOK X0 113 (subC [true, true] (lblC 0 (subC [true, false] b51))) fr σ ((fun fr σ => c51_2 run fu s1 (G fr 0) (G fr 3) σ) fr σ) (scopeK (subC [true, false] b51) (lblU 0 (fun fr σ => s1 (G fr 0) (G fr 3) σ)) k51) := fun fr σ =>
  KOK.piece env0 hrun [0, 3] (eq51_2 run fu s1 (G fr 0) (G fr 3) σ) trivial

noncomputable def c51_3b (run : RunT) (fu : Nat) (s1 : W2) (s3 : W5) (x0 x3 x86 x87 x88 : AV) (σ : Store) : Tr R :=
  cmpK .lss x88 x87 fun x89 =>
  ifK x89 (
  idxK 1 x86 x88 fun x90 =>
  ld1K σ x90 fun x91 =>
  ldNK σ x3 5 fun x95 =>
  dynK X0 run x91 [x0, x95] σ fun x96 σ1 =>
  extK x96 0 fun x97 =>
  extK x96 1 fun x98 =>
  newK σ1 201 [(.int .i64 0), (.int .i64 0), (.int .i64 0), (.str []), (.int .u8 0)] fun x8 σ2 =>
  stNK σ2 x8 5 x97 fun _ σ3 =>
  ifK x98 (
  ldNK σ3 x8 5 fun x100 =>
  stNK σ3 x3 5 x100 fun _ σ4 =>
  calK run 56 [x3] σ4 fun x101 σ5 =>
  ifK x101 (
  .ret (.tup [], σ5)) (
  nchkK x0 fun x103 =>
  addrK x103 5 fun x104 =>
  ld1K σ5 x104 fun x105 =>
  addK x105 (.int .i64 1) fun x106 =>
  nchkK x0 fun x107 =>
  addrK x107 5 fun x108 =>
  st1K σ5 x108 x106 fun _ σ6 =>
  s1 x0 x3 σ6)) (
  addK x88 (.int .i64 1) fun x109 =>
  s3 x0 x3 x86 x87 x109 σ3)) (
  c51_2 run fu s1 x0 x3 σ)

noncomputable def c51_3 (run : RunT) (fu : Nat) (s1 : W2) : Nat → W5
  | 0 => fun _ _ _ _ _ _ => .fail
  | m + 1 => c51_3b run fu s1 (c51_3 run fu s1 m)

theorem eq51_3 (run : RunT) (fu : Nat) (s1 : W2) (s3 : W5) (x0 x3 x86 x87 x88 : AV) (σ : Store) : codeK X0 run (.seq .leaf (.seq (.cond .leaf .leaf) (.seq (.block (.seq .leaf (.seq .leaf (.seq .leaf (.cond (.seq .leaf (.seq (.seq .leaf (.cond .leaf .leaf)) (.seq .leaf .leaf))) .leaf))))) .leaf))) (subC [true, false, true, false, false] (lblC 0 (subC [true, false] b51))) (frS 0 113 [(0, x0), (3, x3), (86, x86), (87, x87), (88, x88)]) σ (thenK (fun fr σ => s3 (G fr 0) (G fr 3) (G fr 86) (G fr 87) (G fr 88) σ) (blockK 2 (thenK (fun fr σ => c51_2 run fu s1 (G fr 0) (G fr 3) σ) (scopeK (subC [true, false] b51) (lblU 0 (fun fr σ => s1 (G fr 0) (G fr 3) σ)) k51)))) = c51_3b run fu s1 s3 x0 x3 x86 x87 x88 σ := by kernel_rfl

theorem owed51_3 {run : RunT} (hrun : RunOK X0 run) (fu : Nat) (s1 : W2) (s3 : W5) : Owes X0 run 113 (.seq .leaf (.seq (.cond .leaf .leaf) (.seq (.block (.seq .leaf (.seq .leaf (.seq .leaf (.cond (.seq .leaf (.seq (.seq .leaf (.cond .leaf .leaf)) (.seq .leaf .leaf))) .leaf))))) .leaf))) (subC [true, false, true, false, false] (lblC 0 (subC [true, false] b51))) (thenK (fun fr σ => s3 (G fr 0) (G fr 3) (G fr 86) (G fr 87) (G fr 88) σ) (blockK 2 (thenK (fun fr σ => c51_2 run fu s1 (G fr 0) (G fr 3) σ) (scopeK (subC [true, false] b51) (lblU 0 (fun fr σ => s1 (G fr 0) (G fr 3) σ)) k51)))) :=
  ⟨trivial, ⟨⟨trivial, trivial⟩, ⟨⟨trivial, ⟨trivial, ⟨trivial, ⟨⟨trivial, ⟨⟨trivial, ⟨trivial, trivial⟩⟩, ⟨trivial, trivial⟩⟩⟩, trivial⟩⟩⟩⟩, trivial⟩⟩⟩

theorem ok51_3 {run : RunT} (hrun : RunOK X0 run) (fu : Nat) (s1 : W2) : ∀ fr σ, KOK X0 113 (subC [true, false, true, false] (lblC 0 (subC [true, false] b51))) fr σ ((fun fr σ => c51_3 run fu s1 fu (G fr 0) (G fr 3) (G fr 86) (G fr 87) (G fr 88) σ) fr σ) (blockK 2 (thenK (fun fr σ => c51_2 run fu s1 (G fr 0) (G fr 3) σ) (scopeK (subC [true, false] b51) (lblU 0 (fun fr σ => s1 (G fr 0) (G fr 3) σ)) k51))) := by
  have h := KOK.loop (X := X0) (N := 113) (b := (subC [true, false, true, false, false] (lblC 0 (subC [true, false] b51)))) (k := (blockK 2 (thenK (fun fr σ => c51_2 run fu s1 (G fr 0) (G fr 3) σ) (scopeK (subC [true, false] b51) (lblU 0 (fun fr σ => s1 (G fr 0) (G fr 3) σ)) k51)))) (u := fun m fr σ => c51_3 run fu s1 m (G fr 0) (G fr 3) (G fr 86) (G fr 87) (G fr 88) σ) (fun _ _ => rfl) (fun m fr σ => KOK.piece env0 hrun [0, 3, 86, 87, 88] (eq51_3 run fu s1 (c51_3 run fu s1 m) (G fr 0) (G fr 3) (G fr 86) (G fr 87) (G fr 88) σ) (owed51_3 hrun fu s1 (c51_3 run fu s1 m)))
  exact fun fr σ => h fu fr σ

noncomputable def c51_1Lb (run : RunT) (fu : Nat) (s1 : W2) (x0 x3 : AV) (σ : Store) : Tr R :=
  calK run 57 [] σ fun x86 σ1 =>
  lenLK x86 fun x87 =>
  c51_3 run fu s1 fu x0 x3 x86 x87 (.int .i64 0) σ1

noncomputable def c51_1L (run : RunT) (fu : Nat) : Nat → W2
  | 0 => fun _ _ _ => .fail
  | m + 1 => c51_1Lb run fu (c51_1L run fu m)

theorem eq51_1L (run : RunT) (fu : Nat) (s1 : W2) (x0 x3 : AV) (σ : Store) : codeK X0 run (.seq .leaf (.seq (.seq .leaf (.block (.sub (fun fr σ => c51_3 run fu s1 fu (G fr 0) (G fr 3) (G fr 86) (G fr 87) (G fr 88) σ)))) (.sub (fun fr σ => c51_2 run fu s1 (G fr 0) (G fr 3) σ)))) (subC [] (lblC 0 (subC [true, false] b51))) (frS 0 113 [(0, x0), (3, x3)]) σ (scopeK (subC [true, false] b51) (lblU 0 (fun fr σ => s1 (G fr 0) (G fr 3) σ)) k51) = c51_1Lb run fu s1 x0 x3 σ := by kernel_rfl

theorem owed51_1L {run : RunT} (hrun : RunOK X0 run) (fu : Nat) (s1 : W2) : Owes X0 run 113 (.seq .leaf (.seq (.seq .leaf (.block (.sub (fun fr σ => c51_3 run fu s1 fu (G fr 0) (G fr 3) (G fr 86) (G fr 87) (G fr 88) σ)))) (.sub (fun fr σ => c51_2 run fu s1 (G fr 0) (G fr 3) σ)))) (subC [] (lblC 0 (subC [true, false] b51))) (scopeK (subC [true, false] b51) (lblU 0 (fun fr σ => s1 (G fr 0) (G fr 3) σ)) k51) :=
  ⟨trivial, ⟨⟨trivial, (ok51_3 hrun fu s1)⟩, (ok51_2 hrun fu s1)⟩⟩

noncomputable def c51_5 (run : RunT) (fu : Nat) (x0 x3 : AV) (σ : Store) : Tr R :=
  ldNK σ x3 5 fun x111 =>
  calK run 58 [x0, x111] σ fun x112 σ1 =>
  .ret (.tup [], σ1)

theorem eq51_5 (run : RunT) (fu : Nat) (x0 x3 : AV) (σ : Store) : codeK X0 run .leaf (subC [true, false, true, true, true, true, true] b51) (frS 0 113 [(0, x0), (3, x3)]) σ (scopeK (subC [true, false] b51) (lblU 0 (fun fr σ => c51_1L run fu fu (G fr 0) (G fr 3) σ)) k51) = c51_5 run fu x0 x3 σ := by kernel_rfl

theorem ok51_5 {run : RunT} (hrun : RunOK X0 run) (fu : Nat) : ∀ fr σ, KOK X0 113 (subC [true, false, true, true, true, true, true] b51) fr σ ((fun fr σ => c51_5 run fu (G fr 0) (G fr 3) σ) fr σ) (scopeK (subC [true, false] b51) (lblU 0 (fun fr σ => c51_1L run fu fu (G fr 0) (G fr 3) σ)) k51) := fun fr σ =>
  KOK.piece env0 hrun [0, 3] (eq51_5 run fu (G fr 0) (G fr 3) σ) trivial

noncomputable def c51_6b (run : RunT) (fu : Nat) (s6 : W5) (x0 x3 x86 x87 x88 : AV) (σ : Store) : Tr R :=
  cmpK .lss x88 x87 fun x89 =>
  ifK x89 (
  idxK 1 x86 x88 fun x90 =>
  ld1K σ x90 fun x91 =>
  ldNK σ x3 5 fun x95 =>
  dynK X0 run x91 [x0, x95] σ fun x96 σ1 =>
  extK x96 0 fun x97 =>
  extK x96 1 fun x98 =>
  newK σ1 201 [(.int .i64 0), (.int .i64 0), (.int .i64 0), (.str []), (.int .u8 0)] fun x8 σ2 =>
  stNK σ2 x8 5 x97 fun _ σ3 =>
  ifK x98 (
  ldNK σ3 x8 5 fun x100 =>
  stNK σ3 x3 5 x100 fun _ σ4 =>
  calK run 56 [x3] σ4 fun x101 σ5 =>
  ifK x101 (
  .ret (.tup [], σ5)) (
  nchkK x0 fun x103 =>
  addrK x103 5 fun x104 =>
  ld1K σ5 x104 fun x105 =>
  addK x105 (.int .i64 1) fun x106 =>
  nchkK x0 fun x107 =>
  addrK x107 5 fun x108 =>
  st1K σ5 x108 x106 fun _ σ6 =>
  c51_1L run fu fu x0 x3 σ6)) (
  addK x88 (.int .i64 1) fun x109 =>
  s6 x0 x3 x86 x87 x109 σ3)) (
  c51_5 run fu x0 x3 σ)

noncomputable def c51_6 (run : RunT) (fu : Nat) : Nat → W5
  | 0 => fun _ _ _ _ _ _ => .fail
  | m + 1 => c51_6b run fu (c51_6 run fu m)

theorem eq51_6 (run : RunT) (fu : Nat) (s6 : W5) (x0 x3 x86 x87 x88 : AV) (σ : Store) : codeK X0 run (.seq .leaf (.seq (.cond .leaf .leaf) (.seq (.block (.seq .leaf (.seq .leaf (.seq .leaf (.cond (.seq .leaf (.seq (.seq .leaf (.cond .leaf .leaf)) (.seq .leaf .leaf))) .leaf))))) .leaf))) (subC [true, false, true, true, true, true, false, true, false, false] b51) (frS 0 113 [(0, x0), (3, x3), (86, x86), (87, x87), (88, x88)]) σ (thenK (fun fr σ => s6 (G fr 0) (G fr 3) (G fr 86) (G fr 87) (G fr 88) σ) (blockK 2 (thenK (fun fr σ => c51_5 run fu (G fr 0) (G fr 3) σ) (scopeK (subC [true, false] b51) (lblU 0 (fun fr σ => c51_1L run fu fu (G fr 0) (G fr 3) σ)) k51)))) = c51_6b run fu s6 x0 x3 x86 x87 x88 σ := by kernel_rfl

theorem owed51_6 {run : RunT} (hrun : RunOK X0 run) (fu : Nat) (s6 : W5) : Owes X0 run 113 (.seq .leaf (.seq (.cond .leaf .leaf) (.seq (.block (.seq .leaf (.seq .leaf (.seq .leaf (.cond (.seq .leaf (.seq (.seq .leaf (.cond .leaf .leaf)) (.seq .leaf .leaf))) .leaf))))) .leaf))) (subC [true, false, true, true, true, true, false, true, false, false] b51) (thenK (fun fr σ => s6 (G fr 0) (G fr 3) (G fr 86) (G fr 87) (G fr 88) σ) (blockK 2 (thenK (fun fr σ => c51_5 run fu (G fr 0) (G fr 3) σ) (scopeK (subC [true, false] b51) (lblU 0 (fun fr σ => c51_1L run fu fu (G fr 0) (G fr 3) σ)) k51)))) :=
  ⟨trivial, ⟨⟨trivial, trivial⟩, ⟨⟨trivial, ⟨trivial, ⟨trivial, ⟨⟨trivial, ⟨⟨trivial, ⟨trivial, trivial⟩⟩, ⟨trivial, trivial⟩⟩⟩, trivial⟩⟩⟩⟩, trivial⟩⟩⟩

theorem ok51_6 {run : RunT} (hrun : RunOK X0 run) (fu : Nat) : ∀ fr σ, KOK X0 113 (subC [true, false, true, true, true, true, false, true, false] b51) fr σ ((fun fr σ => c51_6 run fu fu (G fr 0) (G fr 3) (G fr 86) (G fr 87) (G fr 88) σ) fr σ) (blockK 2 (thenK (fun fr σ => c51_5 run fu (G fr 0) (G fr 3) σ) (scopeK (subC [true, false] b51) (lblU 0 (fun fr σ => c51_1L run fu fu (G fr 0) (G fr 3) σ)) k51))) := by
  have h := KOK.loop (X := X0) (N := 113) (b := (subC [true, false, true, true, true, true, false, true, false, false] b51)) (k := (blockK 2 (thenK (fun fr σ => c51_5 run fu (G fr 0) (G fr 3) σ) (scopeK (subC [true, false] b51) (lblU 0 (fun fr σ => c51_1L run fu fu (G fr 0) (G fr 3) σ)) k51)))) (u := fun m fr σ => c51_6 run fu m (G fr 0) (G fr 3) (G fr 86) (G fr 87) (G fr 88) σ) (fun _ _ => rfl) (fun m fr σ => KOK.piece env0 hrun [0, 3, 86, 87, 88] (eq51_6 run fu (c51_6 run fu m) (G fr 0) (G fr 3) (G fr 86) (G fr 87) (G fr 88) σ) (owed51_6 hrun fu (c51_6 run fu m)))
  exact fun fr σ => h fu fr σ

noncomputable def c51_4 (run : RunT) (fu : Nat) (x0 x3 : AV) (σ : Store) : Tr R :=
  calK run 56 [x3] σ fun x78 σ1 =>
  ifK x78 (
  nchkK x0 fun x81 =>
  addrK x81 5 fun x82 =>
  ld1K σ1 x82 fun x83 =>
  addK x83 (.int .i64 1) fun x84 =>
  calK run 52 [x0, x84] σ1 fun x85 σ2 =>
  .ret (.tup [], σ2)) (
  calK run 57 [] σ1 fun x86 σ3 =>
  lenLK x86 fun x87 =>
  c51_6 run fu fu x0 x3 x86 x87 (.int .i64 0) σ3)

theorem eq51_4 (run : RunT) (fu : Nat) (x0 x3 : AV) (σ : Store) : codeK X0 run (.seq (.seq .leaf (.cond (.seq .leaf .leaf) .leaf)) (.seq .leaf (.seq (.seq .leaf (.block (.sub (fun fr σ => c51_6 run fu fu (G fr 0) (G fr 3) (G fr 86) (G fr 87) (G fr 88) σ)))) (.sub (fun fr σ => c51_5 run fu (G fr 0) (G fr 3) σ))))) (subC [true, false, true, true] b51) (frS 0 113 [(0, x0), (3, x3)]) σ (scopeK (subC [true, false] b51) (lblU 0 (fun fr σ => c51_1L run fu fu (G fr 0) (G fr 3) σ)) k51) = c51_4 run fu x0 x3 σ := by kernel_rfl

theorem ok51_4 {run : RunT} (hrun : RunOK X0 run) (fu : Nat) : ∀ fr σ, KOK X0 113 (subC [true, false, true, true] b51) fr σ ((fun fr σ => c51_4 run fu (G fr 0) (G fr 3) σ) fr σ) (scopeK (subC [true, false] b51) (lblU 0 (fun fr σ => c51_1L run fu fu (G fr 0) (G fr 3) σ)) k51) := fun fr σ =>
  KOK.piece env0 hrun [0, 3] (eq51_4 run fu (G fr 0) (G fr 3) σ) ⟨⟨trivial, ⟨⟨trivial, trivial⟩, trivial⟩⟩, ⟨trivial, ⟨⟨trivial, (ok51_6 hrun fu)⟩, (ok51_5 hrun fu)⟩⟩⟩

noncomputable def c51_8 (run : RunT) (fu : Nat) (s7 : W2) (x0 x3 : AV) (σ : Store) : Tr R :=
  nchkK x0 fun x25 =>
  addrK x25 5 fun x26 =>
  ld1K σ x26 fun x27 =>
  addK x27 (.int .i64 1) fun x28 =>
  nchkK x0 fun x29 =>
  addrK x29 5 fun x30 =>
  st1K σ x30 x28 fun _ σ1 =>
  s7 x0 x3 σ1

theorem eq51_8 (run : RunT) (fu : Nat) (s7 : W2) (x0 x3 : AV) (σ : Store) : codeK X0 run .leaf (subC [true, false, true, false, false, false, true, true] b51) (frS 0 113 [(0, x0), (3, x3)]) σ (thenK (fun fr σ => s7 (G fr 0) (G fr 3) σ) (blockK 0 (thenK (fun fr σ => c51_4 run fu (G fr 0) (G fr 3) σ) (scopeK (subC [true, false] b51) (lblU 0 (fun fr σ => c51_1L run fu fu (G fr 0) (G fr 3) σ)) k51)))) = c51_8 run fu s7 x0 x3 σ := by kernel_rfl

theorem ok51_8 {run : RunT} (hrun : RunOK X0 run) (fu : Nat) (s7 : W2) : ∀ fr σ, KOK X0 113 (subC [true, false, true, false, false, false, true, true] b51) fr σ ((fun fr σ => c51_8 run fu s7 (G fr 0) (G fr 3) σ) fr σ) (thenK (fun fr σ => s7 (G fr 0) (G fr 3) σ) (blockK 0 (thenK (fun fr σ => c51_4 run fu (G fr 0) (G fr 3) σ) (scopeK (subC [true, false] b51) (lblU 0 (fun fr σ => c51_1L run fu fu (G fr 0) (G fr 3) σ)) k51)))) := fun fr σ =>
  KOK.piece env0 hrun [0, 3] (eq51_8 run fu s7 (G fr 0) (G fr 3) σ) trivial

noncomputable def c51_9 (run : RunT) (fu : Nat) (s7 : W2) (x0 x3 x5 : AV) (σ : Store) : Tr R :=
  notK x5 fun x77 =>
  ifK x77 (
  c51_4 run fu x0 x3 σ) (
  c51_8 run fu s7 x0 x3 σ)

theorem eq51_9 (run : RunT) (fu : Nat) (s7 : W2) (x0 x3 x5 : AV) (σ : Store) : codeK X0 run (.seq .leaf (.cond .leaf .leaf)) (subC [true, false, true, false, false, false, true, false, false, true, true, true, true] b51) (frS 0 113 [(0, x0), (3, x3), (5, x5)]) σ (blockK 1 (thenK (fun fr σ => c51_8 run fu s7 (G fr 0) (G fr 3) σ) (thenK (fun fr σ => s7 (G fr 0) (G fr 3) σ) (blockK 0 (thenK (fun fr σ => c51_4 run fu (G fr 0) (G fr 3) σ) (scopeK (subC [true, false] b51) (lblU 0 (fun fr σ => c51_1L run fu fu (G fr 0) (G fr 3) σ)) k51)))))) = c51_9 run fu s7 x0 x3 x5 σ := by kernel_rfl

theorem ok51_9 {run : RunT} (hrun : RunOK X0 run) (fu : Nat) (s7 : W2) : ∀ fr σ, KOK X0 113 (subC [true, false, true, false, false, false, true, false, false, true, true, true, true] b51) fr σ ((fun fr σ => c51_9 run fu s7 (G fr 0) (G fr 3) (G fr 5) σ) fr σ) (blockK 1 (thenK (fun fr σ => c51_8 run fu s7 (G fr 0) (G fr 3) σ) (thenK (fun fr σ => s7 (G fr 0) (G fr 3) σ) (blockK 0 (thenK (fun fr σ => c51_4 run fu (G fr 0) (G fr 3) σ) (scopeK (subC [true, false] b51) (lblU 0 (fun fr σ => c51_1L run fu fu (G fr 0) (G fr 3) σ)) k51)))))) := fun fr σ =>
  KOK.piece env0 hrun [0, 3, 5] (eq51_9 run fu s7 (G fr 0) (G fr 3) (G fr 5) σ) ⟨trivial, ⟨trivial, trivial⟩⟩

noncomputable def c51_7b (run : RunT) (fu : Nat) (s7 : W2) (x0 x3 : AV) (σ : Store) : Tr R :=
  nchkK x0 fun x14 =>
  addrK x14 5 fun x15 =>
  ld1K σ x15 fun x16 =>
  addK x16 (.int .i64 1) fun x17 =>
  nchkK x0 fun x19 =>
  addrK x19 4 fun x20 =>
  ld1K σ x20 fun x21 =>
  lenLK x21 fun x22 =>
  cmpK .lss x17 x22 fun x23 =>
  ifK x23 (
  ldNK σ x3 5 fun x31 =>
  newK σ 201 [(.int .i64 0), (.int .i64 0), (.int .i64 0), (.str []), (.int .u8 0)] fun x4 σ1 =>
  stNK σ1 x4 5 x31 fun _ σ2 =>
  nchkK x0 fun x34 =>
  addrK x34 4 fun x35 =>
  ld1K σ2 x35 fun x36 =>
  nchkK x0 fun x38 =>
  addrK x38 5 fun x39 =>
  ld1K σ2 x39 fun x40 =>
  addK x40 (.int .i64 1) fun x41 =>
  idxK 4 x36 x41 fun x42 =>
  addrK x42 0 fun x43 =>
  ld1K σ2 x43 fun x44 =>
  ldNK σ2 x3 5 fun x46 =>
  invK X0 run x44 "pub-paratext/pub/rscmarkdown.extend" [x0, x46] σ2 fun x47 σ3 =>
  extK x47 0 fun x48 =>
  extK x47 1 fun x49 =>
  stNK σ3 x3 5 x48 fun _ σ4 =>
  calK run 56 [x4] σ4 fun x50 σ5 =>
  notK x50 fun x51 =>
  grdK x51 true σ5 (fun f => f x49 σ5) fun x53 σ6 =>
  grdK x51 true σ6 (fun f => f x53 σ6) fun x54 σ7 =>
  grdK x54 false σ7 (fun f => ldNK σ7 x3 5 fun v => f v σ7) fun x55 σ8 =>
  grdK x54 false σ8 (fun f => ldNK σ8 x4 5 fun v => f v σ8) fun x56 σ9 =>
  grdK x54 false σ9 (fun _ => .fail) fun x57 σ10 =>
  grdK x51 true σ10 (fun f => pickK x54 (.bool true) x57 fun v => f v σ10) fun x58 σ11 =>
  pickK x51 x58 (.bool false) fun x59 =>
  ifK x59 (
  nchkK x0 fun x61 =>
  addrK x61 4 fun x62 =>
  ld1K σ11 x62 fun x63 =>
  nchkK x0 fun x65 =>
  addrK x65 5 fun x66 =>
  ld1K σ11 x66 fun x67 =>
  addK x67 (.int .i64 1) fun x68 =>
  nchkK x0 fun x70 =>
  addrK x70 3 fun x71 =>
  ld1K σ11 x71 fun x72 =>
  idxK 4 x63 x68 fun x73 =>
  addrK x73 2 fun x74 =>
  addrK x74 1 fun x75 =>
  st1K σ11 x75 x72 fun _ σ12 =>
  c51_9 run fu s7 x0 x3 x49 σ12) (
  c51_9 run fu s7 x0 x3 x49 σ11)) (
  c51_4 run fu x0 x3 σ)

noncomputable def c51_7 (run : RunT) (fu : Nat) : Nat → W2
  | 0 => fun _ _ _ => .fail
  | m + 1 => c51_7b run fu (c51_7 run fu m)

theorem eq51_7 (run : RunT) (fu : Nat) (s7 : W2) (x0 x3 : AV) (σ : Store) : codeK X0 run (.seq (.seq .leaf (.cond .leaf .leaf)) (.seq (.block (.seq .leaf (.seq .leaf (.seq .leaf (.seq (.seq .leaf (.cond .leaf .leaf)) (.sub (fun fr σ => c51_9 run fu s7 (G fr 0) (G fr 3) (G fr 5) σ))))))) (.sub (fun fr σ => c51_8 run fu s7 (G fr 0) (G fr 3) σ)))) (subC [true, false, true, false, false, false] b51) (frS 0 113 [(0, x0), (3, x3)]) σ (thenK (fun fr σ => s7 (G fr 0) (G fr 3) σ) (blockK 0 (thenK (fun fr σ => c51_4 run fu (G fr 0) (G fr 3) σ) (scopeK (subC [true, false] b51) (lblU 0 (fun fr σ => c51_1L run fu fu (G fr 0) (G fr 3) σ)) k51)))) = c51_7b run fu s7 x0 x3 σ := by kernel_rfl

theorem owed51_7 {run : RunT} (hrun : RunOK X0 run) (fu : Nat) (s7 : W2) : Owes X0 run 113 (.seq (.seq .leaf (.cond .leaf .leaf)) (.seq (.block (.seq .leaf (.seq .leaf (.seq .leaf (.seq (.seq .leaf (.cond .leaf .leaf)) (.sub (fun fr σ => c51_9 run fu s7 (G fr 0) (G fr 3) (G fr 5) σ))))))) (.sub (fun fr σ => c51_8 run fu s7 (G fr 0) (G fr 3) σ)))) (subC [true, false, true, false, false, false] b51) (thenK (fun fr σ => s7 (G fr 0) (G fr 3) σ) (blockK 0 (thenK (fun fr σ => c51_4 run fu (G fr 0) (G fr 3) σ) (scopeK (subC [true, false] b51) (lblU 0 (fun fr σ => c51_1L run fu fu (G fr 0) (G fr 3) σ)) k51)))) :=
  ⟨⟨trivial, ⟨trivial, trivial⟩⟩, ⟨⟨trivial, ⟨trivial, ⟨trivial, ⟨⟨trivial, ⟨trivial, trivial⟩⟩, (ok51_9 hrun fu s7)⟩⟩⟩⟩, (ok51_8 hrun fu s7)⟩⟩

theorem ok51_7 {run : RunT} (hrun : RunOK X0 run) (fu : Nat) : ∀ fr σ, KOK X0 113 (subC [true, false, true, false, false] b51) fr σ ((fun fr σ => c51_7 run fu fu (G fr 0) (G fr 3) σ) fr σ) (blockK 0 (thenK (fun fr σ => c51_4 run fu (G fr 0) (G fr 3) σ) (scopeK (subC [true, false] b51) (lblU 0 (fun fr σ => c51_1L run fu fu (G fr 0) (G fr 3) σ)) k51))) := by
  have h := KOK.loop (X := X0) (N := 113) (b := (subC [true, false, true, false, false, false] b51)) (k := (blockK 0 (thenK (fun fr σ => c51_4 run fu (G fr 0) (G fr 3) σ) (scopeK (subC [true, false] b51) (lblU 0 (fun fr σ => c51_1L run fu fu (G fr 0) (G fr 3) σ)) k51)))) (u := fun m fr σ => c51_7 run fu m (G fr 0) (G fr 3) σ) (fun _ _ => rfl) (fun m fr σ => KOK.piece env0 hrun [0, 3] (eq51_7 run fu (c51_7 run fu m) (G fr 0) (G fr 3) σ) (owed51_7 hrun fu (c51_7 run fu m)))
  exact fun fr σ => h fu fr σ

noncomputable def c51_1 (run : RunT) (fu : Nat) (x0 x3 : AV) (σ : Store) : Tr R :=
  nchkK x0 fun x11 =>
  addrK x11 5 fun x12 =>
  st1K σ x12 (.int .i64 0) fun _ σ1 =>
  c51_7 run fu fu x0 x3 σ1

theorem eq51_1 (run : RunT) (fu : Nat) (x0 x3 : AV) (σ : Store) : codeK X0 run (.seq .leaf (.seq (.block (.sub (fun fr σ => c51_7 run fu fu (G fr 0) (G fr 3) σ))) (.sub (fun fr σ => c51_4 run fu (G fr 0) (G fr 3) σ)))) (subC [true, false] b51) (frS 0 113 [(0, x0), (3, x3)]) σ (scopeK (subC [true, false] b51) (lblU 0 (fun fr σ => c51_1L run fu fu (G fr 0) (G fr 3) σ)) k51) = c51_1 run fu x0 x3 σ := by kernel_rfl

theorem ok51_1 {run : RunT} (hrun : RunOK X0 run) (fu : Nat) : ∀ fr σ, KOK X0 113 (subC [true] b51) fr σ ((fun fr σ => c51_1 run fu (G fr 0) (G fr 3) σ) fr σ) k51 := fun fr σ =>
  KOK.scope1 (X := X0) (N := 113) (b := (subC [true, false] b51)) (k := k51) 0 (u := fun m fr σ => c51_1L run fu m (G fr 0) (G fr 3) σ) (fun _ _ => rfl) (fun m fr σ => KOK.piece env0 hrun [0, 3] (eq51_1L run fu (c51_1L run fu m) (G fr 0) (G fr 3) σ) (owed51_1L hrun fu (c51_1L run fu m))) fu
    (KOK.piece env0 hrun [0, 3] (eq51_1 run fu (G fr 0) (G fr 3) σ) ⟨trivial, ⟨(ok51_7 hrun fu), (ok51_4 hrun fu)⟩⟩)

noncomputable def c51 (run : RunT) (fu : Nat) (x0 x1 : AV) (σ : Store) : Tr R :=
  boxK σ 201 x1 fun x3 σ1 =>
  c51_1 run fu x0 x3 σ1

theorem eq51 (run : RunT) (fu : Nat) (x0 x1 : AV) (σ : Store) : codeK X0 run (.seq .leaf (.sub (fun fr σ => c51_1 run fu (G fr 0) (G fr 3) σ))) (subC [] b51) ([x0, x1] ++ padA (113 - 2)) σ k51 = c51 run fu x0 x1 σ := by kernel_rfl

theorem ok51 {run : RunT} (hrun : RunOK X0 run) (fu : Nat) (x0 x1 : AV) (σ : Store) : CallOK X0 51 [x0, x1] σ (c51 run fu x0 x1 σ) :=
  KOK.body (fn := Tryz.f51) (c := subC [] b51) (by kernel_rfl) (by kernel_rfl) (by show 2 ≤ 113; decide) (KOK.whole env0 hrun (eq51 run fu x0 x1 σ) ⟨trivial, (ok51_1 hrun fu)⟩)

-- (*pub-paratext/pub/rscmarkdown.parseState).trimStack

noncomputable def b52 : Code := match Tryz.f52.body with | some c => c | none => .skip

noncomputable def k52 : Kont R := retK Tryz.prog []

noncomputable def c52_2b (run : RunT) (fu : Nat) (s2 : W2) (x0 x1 : AV) (σ : Store) : Tr R :=
  nchkK x0 fun x13 =>
  addrK x13 4 fun x14 =>
  ld1K σ x14 fun x15 =>
  lenLK x15 fun x16 =>
  cmpK .gtr x16 x1 fun x18 =>
  ifK x18 (
  calK run 59 [x0] σ fun x20 σ1 =>
  s2 x0 x1 σ1) (
  .ret (.tup [], σ))

noncomputable def c52_2 (run : RunT) (fu : Nat) : Nat → W2
  | 0 => fun _ _ _ => .fail
  | m + 1 => c52_2b run fu (c52_2 run fu m)

theorem eq52_2 (run : RunT) (fu : Nat) (s2 : W2) (x0 x1 : AV) (σ : Store) : codeK X0 run (.seq (.seq .leaf (.cond .leaf .leaf)) (.block .leaf)) (subC [true, false, false] b52) (frS 0 21 [(0, x0), (1, x1)]) σ (thenK (fun fr σ => s2 (G fr 0) (G fr 1) σ) (blockK 0 k52)) = c52_2b run fu s2 x0 x1 σ := by kernel_rfl

theorem owed52_2 {run : RunT} (hrun : RunOK X0 run) (fu : Nat) (s2 : W2) : Owes X0 run 21 (.seq (.seq .leaf (.cond .leaf .leaf)) (.block .leaf)) (subC [true, false, false] b52) (thenK (fun fr σ => s2 (G fr 0) (G fr 1) σ) (blockK 0 k52)) :=
  ⟨⟨trivial, ⟨trivial, trivial⟩⟩, trivial⟩

theorem ok52_2 {run : RunT} (hrun : RunOK X0 run) (fu : Nat) : ∀ fr σ, KOK X0 21 (subC [true, false] b52) fr σ ((fun fr σ => c52_2 run fu fu (G fr 0) (G fr 1) σ) fr σ) (blockK 0 k52) := by
  have h := KOK.loop (X := X0) (N := 21) (b := (subC [true, false, false] b52)) (k := (blockK 0 k52)) (u := fun m fr σ => c52_2 run fu m (G fr 0) (G fr 1) σ) (fun _ _ => rfl) (fun m fr σ => KOK.piece env0 hrun [0, 1] (eq52_2 run fu (c52_2 run fu m) (G fr 0) (G fr 1) σ) (owed52_2 hrun fu (c52_2 run fu m)))
  exact fun fr σ => h fu fr σ

noncomputable def c52_1 (run : RunT) (fu : Nat) (x0 x1 : AV) (σ : Store) : Tr R :=
  c52_2 run fu fu x0 x1 σ

theorem eq52_1 (run : RunT) (fu : Nat) (x0 x1 : AV) (σ : Store) : codeK X0 run (.block (.sub (fun fr σ => c52_2 run fu fu (G fr 0) (G fr 1) σ))) (subC [true] b52) (frS 0 21 [(0, x0), (1, x1)]) σ k52 = c52_1 run fu x0 x1 σ := by kernel_rfl

theorem ok52_1 {run : RunT} (hrun : RunOK X0 run) (fu : Nat) : ∀ fr σ, KOK X0 21 (subC [true] b52) fr σ ((fun fr σ => c52_1 run fu (G fr 0) (G fr 1) σ) fr σ) k52 := fun fr σ =>
  KOK.piece env0 hrun [0, 1] (eq52_1 run fu (G fr 0) (G fr 1) σ) (ok52_2 hrun fu)

noncomputable def c52 (run : RunT) (fu : Nat) (x0 x1 : AV) (σ : Store) : Tr R :=
  nchkK x0 fun x5 =>
  addrK x5 4 fun x6 =>
  ld1K σ x6 fun x7 =>
  lenLK x7 fun x8 =>
  cmpK .lss x8 x1 fun x10 =>
  ifK x10 (
  .fail) (
  c52_1 run fu x0 x1 σ)

theorem eq52 (run : RunT) (fu : Nat) (x0 x1 : AV) (σ : Store) : codeK X0 run (.seq (.seq .leaf (.cond .leaf .leaf)) (.sub (fun fr σ => c52_1 run fu (G fr 0) (G fr 1) σ))) (subC [] b52) ([x0, x1] ++ padA (21 - 2)) σ k52 = c52 run fu x0 x1 σ := by kernel_rfl

theorem ok52 {run : RunT} (hrun : RunOK X0 run) (fu : Nat) (x0 x1 : AV) (σ : Store) : CallOK X0 52 [x0, x1] σ (c52 run fu x0 x1 σ) :=
  KOK.body (fn := Tryz.f52) (c := subC [] b52) (by kernel_rfl) (by kernel_rfl) (by show 2 ≤ 21; decide) (KOK.whole env0 hrun (eq52 run fu x0 x1 σ) ⟨⟨trivial, ⟨trivial, trivial⟩⟩, (ok52_1 hrun fu)⟩)

-- (*pub-paratext/pub/rscmarkdown.parseState).inline

noncomputable def b53 : Code := match Tryz.f53.body with | some c => c | none => .skip

noncomputable def k53 : Kont R := retK Tryz.prog [.tmp 4]

noncomputable def c53_1 (run : RunT) (fu : Nat) (x0 x1 : AV) (σ : Store) : Tr R :=
  lenSK x1 fun x297 =>
  calK run 73 [x0, x297] σ fun x298 σ1 =>
  nchkK x0 fun x302 =>
  addrK x302 9 fun x303 =>
  ld1K σ1 x303 fun x304 =>
  sliceLK Tryz.prog σ1 84 x304 none (some (.int .i64 0)) fun x305 =>
  nchkK x0 fun x307 =>
  addrK x307 9 fun x308 =>
  ld1K σ1 x308 fun x309 =>
  calK run 77 [x0, x305, x309] σ1 fun x310 σ2 =>
  nchkK x0 fun x311 =>
  addrK x311 9 fun x312 =>
  st1K σ2 x312 x310 fun _ σ3 =>
  nchkK x0 fun x316 =>
  addrK x316 9 fun x317 =>
  ld1K σ3 x317 fun x318 =>
  calK run 78 [x0, x318] σ3 fun x319 σ4 =>
  nchkK x0 fun x320 =>
  addrK x320 9 fun x321 =>
  st1K σ4 x321 x319 fun _ σ5 =>
  nchkK x0 fun x325 =>
  addrK x325 9 fun x326 =>
  ld1K σ5 x326 fun x327 =>
  calK run 79 [x0, x327] σ5 fun x328 σ6 =>
  nchkK x0 fun x329 =>
  addrK x329 9 fun x330 =>
  st1K σ6 x330 x328 fun _ σ7 =>
  nchkK x0 fun x332 =>
  addrK x332 9 fun x333 =>
  ld1K σ7 x333 fun x334 =>
  .ret (x334, σ7)

theorem eq53_1 (run : RunT) (fu : Nat) (x0 x1 : AV) (σ : Store) : codeK X0 run (.seq .leaf (.seq .leaf (.seq .leaf (.seq .leaf (.seq .leaf .leaf))))) (subC [true, true, true, true, true, true, true, true, true, true] b53) (frS 0 335 [(0, x0), (1, x1)]) σ k53 = c53_1 run fu x0 x1 σ := by kernel_rfl

theorem ok53_1 {run : RunT} (hrun : RunOK X0 run) (fu : Nat) : ∀ fr σ, KOK X0 335 (subC [true, true, true, true, true, true, true, true, true, true] b53) fr σ ((fun fr σ => c53_1 run fu (G fr 0) (G fr 1) σ) fr σ) k53 := fun fr σ =>
  KOK.piece env0 hrun [0, 1] (eq53_1 run fu (G fr 0) (G fr 1) σ) ⟨trivial, ⟨trivial, ⟨trivial, ⟨trivial, ⟨trivial, trivial⟩⟩⟩⟩⟩

noncomputable def c53_5 (run : RunT) (fu : Nat) (s2 : W6) (x0 x1 x5 x6 x7 x8 : AV) (σ : Store) : Tr R :=
  addK x8 (.int .i64 1) fun x294 =>
  s2 x0 x1 x5 x6 x7 x294 σ

theorem eq53_5 (run : RunT) (fu : Nat) (s2 : W6) (x0 x1 x5 x6 x7 x8 : AV) (σ : Store) : codeK X0 run .leaf (subC [true, true, true, true, true, true, true, true, true, false, false, false, true, false, true, true, true, true] b53) (frS 0 335 [(0, x0), (1, x1), (5, x5), (6, x6), (7, x7), (8, x8)]) σ (blockK 1 (thenK (fun fr σ => s2 (G fr 0) (G fr 1) (G fr 5) (G fr 6) (G fr 7) (G fr 8) σ) (blockK 0 (thenK (fun fr σ => c53_1 run fu (G fr 0) (G fr 1) σ) k53)))) = c53_5 run fu s2 x0 x1 x5 x6 x7 x8 σ := by kernel_rfl

theorem ok53_5 {run : RunT} (hrun : RunOK X0 run) (fu : Nat) (s2 : W6) : ∀ fr σ, KOK X0 335 (subC [true, true, true, true, true, true, true, true, true, false, false, false, true, false, true, true, true, true] b53) fr σ ((fun fr σ => c53_5 run fu s2 (G fr 0) (G fr 1) (G fr 5) (G fr 6) (G fr 7) (G fr 8) σ) fr σ) (blockK 1 (thenK (fun fr σ => s2 (G fr 0) (G fr 1) (G fr 5) (G fr 6) (G fr 7) (G fr 8) σ) (blockK 0 (thenK (fun fr σ => c53_1 run fu (G fr 0) (G fr 1) σ) k53)))) := fun fr σ =>
  KOK.piece env0 hrun [0, 1, 5, 6, 7, 8] (eq53_5 run fu s2 (G fr 0) (G fr 1) (G fr 5) (G fr 6) (G fr 7) (G fr 8) σ) trivial

noncomputable def c53_6 (run : RunT) (fu : Nat) (s2 : W6) (x0 x1 x5 x6 x7 x16 x17 x19 : AV) (σ : Store) : Tr R :=
  nchkK x0 fun x270 =>
  addrK x270 9 fun x271 =>
  ld1K σ x271 fun x272 =>
  addK x16 (.int .i64 1) fun x274 =>
  sliceLK Tryz.prog σ 84 x272 none (some x274) fun x275 =>
  nchkK x0 fun x276 =>
  addrK x276 9 fun x277 =>
  st1K σ x277 x275 fun _ σ1 =>
  calK run 74 [x0, x19] σ1 fun x280 σ2 =>
  nchkK x17 fun x283 =>
  addrK x283 0 fun x284 =>
  addrK x284 0 fun x285 =>
  ld1K σ2 x285 fun x286 =>
  idxSK x286 (.int .i64 0) fun x287 =>
  cmpK .eql x287 (.int .u8 91) fun x288 =>
  ifK x288 (
  nchkK x17 fun x290 =>
  addrK x290 1 fun x291 =>
  ld1K σ2 x291 fun x292 =>
  s2 x0 x1 x5 x292 x7 x19 σ2) (
  s2 x0 x1 x5 x6 x7 x19 σ2)

theorem eq53_6 (run : RunT) (fu : Nat) (s2 : W6) (x0 x1 x5 x6 x7 x16 x17 x19 : AV) (σ : Store) : codeK X0 run (.seq .leaf (.seq .leaf (.seq .leaf (.seq (.seq .leaf (.cond .leaf .leaf)) .leaf)))) (subC [true, true, true, true, true, true, true, true, true, false, false, false, true, false, true, true, true, false, true, false, true, true, true, true, false, true, true, false, true, true, true, true] b53) (frS 0 335 [(0, x0), (1, x1), (5, x5), (6, x6), (7, x7), (16, x16), (17, x17), (19, x19)]) σ (thenK (fun fr σ => c53_5 run fu s2 (G fr 0) (G fr 1) (G fr 5) (G fr 6) (G fr 7) (G fr 8) σ) (blockK 1 (thenK (fun fr σ => s2 (G fr 0) (G fr 1) (G fr 5) (G fr 6) (G fr 7) (G fr 8) σ) (blockK 0 (thenK (fun fr σ => c53_1 run fu (G fr 0) (G fr 1) σ) k53))))) = c53_6 run fu s2 x0 x1 x5 x6 x7 x16 x17 x19 σ := by kernel_rfl

theorem ok53_6 {run : RunT} (hrun : RunOK X0 run) (fu : Nat) (s2 : W6) : ∀ fr σ, KOK X0 335 (subC [true, true, true, true, true, true, true, true, true, false, false, false, true, false, true, true, true, false, true, false, true, true, true, true, false, true, true, false, true, true, true, true] b53) fr σ ((fun fr σ => c53_6 run fu s2 (G fr 0) (G fr 1) (G fr 5) (G fr 6) (G fr 7) (G fr 16) (G fr 17) (G fr 19) σ) fr σ) (thenK (fun fr σ => c53_5 run fu s2 (G fr 0) (G fr 1) (G fr 5) (G fr 6) (G fr 7) (G fr 8) σ) (blockK 1 (thenK (fun fr σ => s2 (G fr 0) (G fr 1) (G fr 5) (G fr 6) (G fr 7) (G fr 8) σ) (blockK 0 (thenK (fun fr σ => c53_1 run fu (G fr 0) (G fr 1) σ) k53))))) := fun fr σ =>
  KOK.piece env0 hrun [0, 1, 5, 6, 7, 16, 17, 19] (eq53_6 run fu s2 (G fr 0) (G fr 1) (G fr 5) (G fr 6) (G fr 7) (G fr 16) (G fr 17) (G fr 19) σ) ⟨trivial, ⟨trivial, ⟨trivial, ⟨⟨trivial, ⟨trivial, trivial⟩⟩, trivial⟩⟩⟩⟩

noncomputable def c53_4 (run : RunT) (fu : Nat) (s2 : W6) (x0 x1 x5 x6 x7 x8 : AV) (σ : Store) : Tr R :=
  idxSK x1 x8 fun x159 =>
  cmpK .eql x159 (.int .u8 93) fun x160 =>
  grdK x160 true σ (fun f => f x5 σ) fun x162 σ1 =>
  grdK x160 true σ1 (fun f => lenLK x162 fun v => f v σ1) fun x163 σ2 =>
  grdK x160 true σ2 (fun f => cmpK .gtr x163 (.int .i64 0) fun v => f v σ2) fun x164 σ3 =>
  pickK x160 x164 (.bool false) fun x165 =>
  ifK x165 (
  lenLK x5 fun x168 =>
  subK x168 (.int .i64 1) fun x169 =>
  idxK 1 x5 x169 fun x170 =>
  ld1K σ3 x170 fun x171 =>
  nchkK x0 fun x173 =>
  addrK x173 9 fun x174 =>
  ld1K σ3 x174 fun x175 =>
  idxK 1 x175 x171 fun x177 =>
  ld1K σ3 x177 fun x178 =>
  tasK (some .nilp) 128 false x178 fun x179 =>
  lenLK x5 fun x182 =>
  subK x182 (.int .i64 1) fun x183 =>
  sliceLK Tryz.prog σ3 123 x5 none (some x183) fun x184 =>
  nchkK x179 fun x186 =>
  addrK x186 0 fun x187 =>
  addrK x187 0 fun x188 =>
  ld1K σ3 x188 fun x189 =>
  idxSK x189 (.int .i64 0) fun x190 =>
  cmpK .eql x190 (.int .u8 33) fun x191 =>
  grdK x191 false σ3 (fun f => f x6 σ3) fun x193 σ4 =>
  grdK x191 false σ4 (fun f => f x179 σ4) fun x194 σ5 =>
  grdK x191 false σ5 (fun f => nchkK x194 fun v => f v σ5) fun x195 σ6 =>
  grdK x191 false σ6 (fun f => addrK x195 1 fun v => f v σ6) fun x196 σ7 =>
  grdK x191 false σ7 (fun f => ld1K σ7 x196 fun v => f v σ7) fun x197 σ8 =>
  grdK x191 false σ8 (fun f => cmpK .leq x193 x197 fun v => f v σ8) fun x198 σ9 =>
  pickK x191 (.bool true) x198 fun x199 =>
  ifK x199 (
  calK run 75 [x0, x1, x8, x179] σ9 fun x205 σ10 =>
  extK x205 0 fun x206 =>
  extK x205 1 fun x207 =>
  extK x205 2 fun x208 =>
  ifK x208 (
  nchkK x0 fun x212 =>
  addrK x212 6 fun x213 =>
  ld1K σ10 x213 fun x214 =>
  grdK x214 false σ10 (fun f => f x206 σ10) fun x216 σ11 =>
  grdK x214 false σ11 (fun f => nchkK x216 fun v => f v σ11) fun x217 σ12 =>
  grdK x214 false σ12 (fun f => addrK x217 4 fun v => f v σ12) fun x218 σ13 =>
  grdK x214 false σ13 (fun f => ld1K σ13 x218 fun v => f v σ13) fun x219 σ14 =>
  pickK x214 (.bool true) x219 fun x220 =>
  grdK x220 false σ14 (fun f => f x206 σ14) fun x222 σ15 =>
  grdK x220 false σ15 (fun f => nchkK x222 fun v => f v σ15) fun x223 σ16 =>
  grdK x220 false σ16 (fun f => addrK x223 1 fun v => f v σ16) fun x224 σ17 =>
  grdK x220 false σ17 (fun f => ld1K σ17 x224 fun v => f v σ17) fun x225 σ18 =>
  grdK x220 false σ18 (fun f => calK run 76 [x225] σ18 f) fun x226 σ19 =>
  pickK x220 (.bool true) x226 fun x227 =>
  nchkK x0 fun x228 =>
  addrK x228 6 fun x229 =>
  st1K σ19 x229 x227 fun _ σ20 =>
  calK run 73 [x0, x8] σ20 fun x232 σ21 =>
  nchkK x0 fun x236 =>
  addrK x236 9 fun x237 =>
  ld1K σ21 x237 fun x238 =>
  addK x171 (.int .i64 1) fun x240 =>
  sliceLK Tryz.prog σ21 84 x238 (some x240) none fun x241 =>
  calK run 77 [x0, .nils, x241] σ21 fun x242 σ22 =>
  nchkK x206 fun x243 =>
  addrK x243 0 fun x244 =>
  st1K σ22 x244 x242 fun _ σ23 =>
  nchkK x179 fun x246 =>
  addrK x246 0 fun x247 =>
  addrK x247 0 fun x248 =>
  ld1K σ23 x248 fun x249 =>
  idxSK x249 (.int .i64 0) fun x250 =>
  cmpK .eql x250 (.int .u8 33) fun x251 =>
  ifK x251 (
  nchkK x0 fun x253 =>
  addrK x253 9 fun x254 =>
  ld1K σ23 x254 fun x255 =>
  idxK 1 x255 x171 fun x259 =>
  st1K σ23 x259 (.iface 140 x206) fun _ σ24 =>
  c53_6 run fu s2 x0 x1 x184 x6 x7 x171 x179 x207 σ24) (
  nchkK x0 fun x261 =>
  addrK x261 9 fun x262 =>
  ld1K σ23 x262 fun x263 =>
  idxK 1 x263 x171 fun x267 =>
  st1K σ23 x267 (.iface 134 x206) fun _ σ25 =>
  c53_6 run fu s2 x0 x1 x184 x6 x7 x171 x179 x207 σ25)) (
  c53_5 run fu s2 x0 x1 x184 x6 x7 x8 σ10)) (
  c53_5 run fu s2 x0 x1 x184 x6 x7 x8 σ9)) (
  c53_5 run fu s2 x0 x1 x5 x6 x7 x8 σ3)

theorem eq53_4 (run : RunT) (fu : Nat) (s2 : W6) (x0 x1 x5 x6 x7 x8 : AV) (σ : Store) : codeK X0 run (.seq (.seq .leaf (.cond (.seq .leaf (.seq .leaf (.seq .leaf (.seq .leaf (.cond (.seq .leaf (.seq .leaf (.cond (.seq .leaf (.seq .leaf (.seq .leaf (.seq (.seq .leaf (.cond .leaf .leaf)) (.sub (fun fr σ => c53_6 run fu s2 (G fr 0) (G fr 1) (G fr 5) (G fr 6) (G fr 7) (G fr 16) (G fr 17) (G fr 19) σ)))))) .leaf))) .leaf))))) .leaf)) (.sub (fun fr σ => c53_5 run fu s2 (G fr 0) (G fr 1) (G fr 5) (G fr 6) (G fr 7) (G fr 8) σ))) (subC [true, true, true, true, true, true, true, true, true, false, false, false, true, false, true, true, true] b53) (frS 0 335 [(0, x0), (1, x1), (5, x5), (6, x6), (7, x7), (8, x8)]) σ (blockK 1 (thenK (fun fr σ => s2 (G fr 0) (G fr 1) (G fr 5) (G fr 6) (G fr 7) (G fr 8) σ) (blockK 0 (thenK (fun fr σ => c53_1 run fu (G fr 0) (G fr 1) σ) k53)))) = c53_4 run fu s2 x0 x1 x5 x6 x7 x8 σ := by kernel_rfl

theorem ok53_4 {run : RunT} (hrun : RunOK X0 run) (fu : Nat) (s2 : W6) : ∀ fr σ, KOK X0 335 (subC [true, true, true, true, true, true, true, true, true, false, false, false, true, false, true, true, true] b53) fr σ ((fun fr σ => c53_4 run fu s2 (G fr 0) (G fr 1) (G fr 5) (G fr 6) (G fr 7) (G fr 8) σ) fr σ) (blockK 1 (thenK (fun fr σ => s2 (G fr 0) (G fr 1) (G fr 5) (G fr 6) (G fr 7) (G fr 8) σ) (blockK 0 (thenK (fun fr σ => c53_1 run fu (G fr 0) (G fr 1) σ) k53)))) := fun fr σ =>
  KOK.piece env0 hrun [0, 1, 5, 6, 7, 8] (eq53_4 run fu s2 (G fr 0) (G fr 1) (G fr 5) (G fr 6) (G fr 7) (G fr 8) σ) ⟨⟨trivial, ⟨⟨trivial, ⟨trivial, ⟨trivial, ⟨trivial, ⟨⟨trivial, ⟨trivial, ⟨⟨trivial, ⟨trivial, ⟨trivial, ⟨⟨trivial, ⟨trivial, trivial⟩⟩, (ok53_6 hrun fu s2)⟩⟩⟩⟩, trivial⟩⟩⟩, trivial⟩⟩⟩⟩⟩, trivial⟩⟩, (ok53_5 hrun fu s2)⟩

noncomputable def c53_7 (run : RunT) (fu : Nat) (s2 : W6) (x0 x1 x5 x6 x7 x10 x12 : AV) (σ : Store) : Tr R :=
  nchkK x0 fun x145 =>
  addrK x145 9 fun x146 =>
  ld1K σ x146 fun x147 =>
  opt (fillK [.nili] [(0, 1, x10)]) fun cs => newSK σ 253 cs 1 1 fun x149 σ1 =>
  appK 126 1 16 σ1 x147 x149 fun x150 σ2 =>
  nchkK x0 fun x151 =>
  addrK x151 9 fun x152 =>
  st1K σ2 x152 x150 fun _ σ3 =>
  calK run 74 [x0, x12] σ3 fun x156 σ4 =>
  s2 x0 x1 x5 x6 x7 x12 σ4

theorem eq53_7 (run : RunT) (fu : Nat) (s2 : W6) (x0 x1 x5 x6 x7 x10 x12 : AV) (σ : Store) : codeK X0 run (.seq .leaf (.seq .leaf (.seq .leaf .leaf))) (subC [true, true, true, true, true, true, true, true, true, false, false, false, true, false, true, true, false, true, false, true, true, false, true, true] b53) (frS 0 335 [(0, x0), (1, x1), (5, x5), (6, x6), (7, x7), (10, x10), (12, x12)]) σ (thenK (fun fr σ => c53_4 run fu s2 (G fr 0) (G fr 1) (G fr 5) (G fr 6) (G fr 7) (G fr 8) σ) (blockK 1 (thenK (fun fr σ => s2 (G fr 0) (G fr 1) (G fr 5) (G fr 6) (G fr 7) (G fr 8) σ) (blockK 0 (thenK (fun fr σ => c53_1 run fu (G fr 0) (G fr 1) σ) k53))))) = c53_7 run fu s2 x0 x1 x5 x6 x7 x10 x12 σ := by kernel_rfl

theorem ok53_7 {run : RunT} (hrun : RunOK X0 run) (fu : Nat) (s2 : W6) : ∀ fr σ, KOK X0 335 (subC [true, true, true, true, true, true, true, true, true, false, false, false, true, false, true, true, false, true, false, true, true, false, true, true] b53) fr σ ((fun fr σ => c53_7 run fu s2 (G fr 0) (G fr 1) (G fr 5) (G fr 6) (G fr 7) (G fr 10) (G fr 12) σ) fr σ) (thenK (fun fr σ => c53_4 run fu s2 (G fr 0) (G fr 1) (G fr 5) (G fr 6) (G fr 7) (G fr 8) σ) (blockK 1 (thenK (fun fr σ => s2 (G fr 0) (G fr 1) (G fr 5) (G fr 6) (G fr 7) (G fr 8) σ) (blockK 0 (thenK (fun fr σ => c53_1 run fu (G fr 0) (G fr 1) σ) k53))))) := fun fr σ =>
  KOK.piece env0 hrun [0, 1, 5, 6, 7, 10, 12] (eq53_7 run fu s2 (G fr 0) (G fr 1) (G fr 5) (G fr 6) (G fr 7) (G fr 10) (G fr 12) σ) ⟨trivial, ⟨trivial, ⟨trivial, trivial⟩⟩⟩

noncomputable def c53_3 (run : RunT) (fu : Nat) (s2 : W6) (x0 x1 x5 x6 x7 x8 x9 : AV) (σ : Store) : Tr R :=
  neOK (nilEq nilF) x9 .nilf fun x114 =>
  ifK x114 (
  dynK X0 run x9 [x0, x1, x8] σ fun x120 σ1 =>
  extK x120 0 fun x121 =>
  extK x120 1 fun x122 =>
  extK x120 2 fun x123 =>
  extK x120 3 fun x124 =>
  ifK x124 (
  calK run 73 [x0, x122] σ1 fun x128 σ2 =>
  tasK (some .nilp) 128 true x121 fun x131 =>
  extK x131 0 fun x132 =>
  extK x131 1 fun x133 =>
  ifK x133 (
  nchkK x0 fun x137 =>
  addrK x137 9 fun x138 =>
  ld1K σ2 x138 fun x139 =>
  lenLK x139 fun x140 =>
  opt (fillK [(.int .i64 0)] [(0, 1, x140)]) fun cs => newSK σ2 7 cs 1 1 fun x141 σ3 =>
  appK 3 1 8 σ3 x5 x141 fun x142 σ4 =>
  c53_7 run fu s2 x0 x1 x142 x6 x7 x121 x123 σ4) (
  c53_7 run fu s2 x0 x1 x5 x6 x7 x121 x123 σ2)) (
  c53_4 run fu s2 x0 x1 x5 x6 x7 x8 σ1)) (
  c53_4 run fu s2 x0 x1 x5 x6 x7 x8 σ)

theorem eq53_3 (run : RunT) (fu : Nat) (s2 : W6) (x0 x1 x5 x6 x7 x8 x9 : AV) (σ : Store) : codeK X0 run (.seq (.seq .leaf (.cond (.seq .leaf (.seq .leaf (.cond (.seq .leaf (.seq (.seq .leaf (.seq .leaf (.cond .leaf .leaf))) (.sub (fun fr σ => c53_7 run fu s2 (G fr 0) (G fr 1) (G fr 5) (G fr 6) (G fr 7) (G fr 10) (G fr 12) σ)))) .leaf))) .leaf)) (.sub (fun fr σ => c53_4 run fu s2 (G fr 0) (G fr 1) (G fr 5) (G fr 6) (G fr 7) (G fr 8) σ))) (subC [true, true, true, true, true, true, true, true, true, false, false, false, true, false, true, true] b53) (frS 0 335 [(0, x0), (1, x1), (5, x5), (6, x6), (7, x7), (8, x8), (9, x9)]) σ (blockK 1 (thenK (fun fr σ => s2 (G fr 0) (G fr 1) (G fr 5) (G fr 6) (G fr 7) (G fr 8) σ) (blockK 0 (thenK (fun fr σ => c53_1 run fu (G fr 0) (G fr 1) σ) k53)))) = c53_3 run fu s2 x0 x1 x5 x6 x7 x8 x9 σ := by kernel_rfl

theorem ok53_3 {run : RunT} (hrun : RunOK X0 run) (fu : Nat) (s2 : W6) : ∀ fr σ, KOK X0 335 (subC [true, true, true, true, true, true, true, true, true, false, false, false, true, false, true, true] b53) fr σ ((fun fr σ => c53_3 run fu s2 (G fr 0) (G fr 1) (G fr 5) (G fr 6) (G fr 7) (G fr 8) (G fr 9) σ) fr σ) (blockK 1 (thenK (fun fr σ => s2 (G fr 0) (G fr 1) (G fr 5) (G fr 6) (G fr 7) (G fr 8) σ) (blockK 0 (thenK (fun fr σ => c53_1 run fu (G fr 0) (G fr 1) σ) k53)))) := fun fr σ =>
  KOK.piece env0 hrun [0, 1, 5, 6, 7, 8, 9] (eq53_3 run fu s2 (G fr 0) (G fr 1) (G fr 5) (G fr 6) (G fr 7) (G fr 8) (G fr 9) σ) ⟨⟨trivial, ⟨⟨trivial, ⟨trivial, ⟨⟨trivial, ⟨⟨trivial, ⟨trivial, ⟨trivial, trivial⟩⟩⟩, (ok53_7 hrun fu s2)⟩⟩, trivial⟩⟩⟩, trivial⟩⟩, (ok53_4 hrun fu s2)⟩

noncomputable def c53_8 (run : RunT) (fu : Nat) (s2 : W6) (x0 x1 x5 x6 x7 x8 : AV) (σ : Store) : Tr R :=
  nchkK x0 fun x51 =>
  addrK x51 12 fun x52 =>
  c53_3 run fu s2 x0 x1 x5 x6 x7 x8 (.fn (.func 63) [x52] []) σ

theorem eq53_8 (run : RunT) (fu : Nat) (s2 : W6) (x0 x1 x5 x6 x7 x8 : AV) (σ : Store) : codeK X0 run .leaf (subC [true, true, true, true, true, true, true, true, true, false, false, false, true, false, true, false, true, false, true, true, true, false, true] b53) (frS 0 335 [(0, x0), (1, x1), (5, x5), (6, x6), (7, x7), (8, x8)]) σ (blockK 2 (thenK (fun fr σ => c53_3 run fu s2 (G fr 0) (G fr 1) (G fr 5) (G fr 6) (G fr 7) (G fr 8) (G fr 9) σ) (blockK 1 (thenK (fun fr σ => s2 (G fr 0) (G fr 1) (G fr 5) (G fr 6) (G fr 7) (G fr 8) σ) (blockK 0 (thenK (fun fr σ => c53_1 run fu (G fr 0) (G fr 1) σ) k53)))))) = c53_8 run fu s2 x0 x1 x5 x6 x7 x8 σ := by kernel_rfl

theorem ok53_8 {run : RunT} (hrun : RunOK X0 run) (fu : Nat) (s2 : W6) : ∀ fr σ, KOK X0 335 (subC [true, true, true, true, true, true, true, true, true, false, false, false, true, false, true, false, true, false, true, true, true, false, true] b53) fr σ ((fun fr σ => c53_8 run fu s2 (G fr 0) (G fr 1) (G fr 5) (G fr 6) (G fr 7) (G fr 8) σ) fr σ) (blockK 2 (thenK (fun fr σ => c53_3 run fu s2 (G fr 0) (G fr 1) (G fr 5) (G fr 6) (G fr 7) (G fr 8) (G fr 9) σ) (blockK 1 (thenK (fun fr σ => s2 (G fr 0) (G fr 1) (G fr 5) (G fr 6) (G fr 7) (G fr 8) σ) (blockK 0 (thenK (fun fr σ => c53_1 run fu (G fr 0) (G fr 1) σ) k53)))))) := fun fr σ =>
  KOK.piece env0 hrun [0, 1, 5, 6, 7, 8] (eq53_8 run fu s2 (G fr 0) (G fr 1) (G fr 5) (G fr 6) (G fr 7) (G fr 8) σ) trivial

noncomputable def c53_10 (run : RunT) (fu : Nat) (s2 : W6) (x0 x1 x5 x6 x7 x8 x9 x39 x81 : AV) (σ : Store) : Tr R :=
  ifK x81 (
  nchkK x0 fun x85 =>
  addrK x85 0 fun x86 =>
  ld1K σ x86 fun x87 =>
  nchkK x87 fun x88 =>
  addrK x88 9 fun x89 =>
  ld1K σ x89 fun x90 =>
  ifK x90 (
  c53_3 run fu s2 x0 x1 x5 x6 x7 x8 (.fn (.func 67) [] []) σ) (
  c53_3 run fu s2 x0 x1 x5 x6 x7 x8 x9 σ)) (
  cmpK .eql x39 (.int .u8 126) fun x92 =>
  ifK x92 (
  nchkK x0 fun x94 =>
  addrK x94 0 fun x95 =>
  ld1K σ x95 fun x96 =>
  nchkK x96 fun x97 =>
  addrK x97 1 fun x98 =>
  ld1K σ x98 fun x99 =>
  ifK x99 (
  c53_3 run fu s2 x0 x1 x5 x6 x7 x8 (.fn (.func 67) [] []) σ) (
  c53_3 run fu s2 x0 x1 x5 x6 x7 x8 x9 σ)) (
  cmpK .eql x39 (.int .u8 10) fun x101 =>
  ifK x101 (
  c53_3 run fu s2 x0 x1 x5 x6 x7 x8 (.fn (.func 70) [] []) σ) (
  cmpK .eql x39 (.int .u8 38) fun x103 =>
  ifK x103 (
  c53_3 run fu s2 x0 x1 x5 x6 x7 x8 (.fn (.func 71) [] []) σ) (
  cmpK .eql x39 (.int .u8 58) fun x105 =>
  ifK x105 (
  nchkK x0 fun x107 =>
  addrK x107 0 fun x108 =>
  ld1K σ x108 fun x109 =>
  nchkK x109 fun x110 =>
  addrK x110 6 fun x111 =>
  ld1K σ x111 fun x112 =>
  ifK x112 (
  c53_3 run fu s2 x0 x1 x5 x6 x7 x8 (.fn (.func 72) [] []) σ) (
  c53_3 run fu s2 x0 x1 x5 x6 x7 x8 x9 σ)) (
  c53_3 run fu s2 x0 x1 x5 x6 x7 x8 x9 σ)))))

theorem eq53_10 (run : RunT) (fu : Nat) (s2 : W6) (x0 x1 x5 x6 x7 x8 x9 x39 x81 : AV) (σ : Store) : codeK X0 run (.cond (.seq .leaf (.cond .leaf .leaf)) (.seq .leaf (.cond (.seq .leaf (.cond .leaf .leaf)) (.seq .leaf (.cond .leaf (.seq .leaf (.cond .leaf (.seq .leaf (.cond (.seq .leaf (.cond .leaf .leaf)) .leaf))))))))) (subC [true, true, true, true, true, true, true, true, true, false, false, false, true, false, true, false, true, false, true, true, true, true, true, true, true, true, true, true, true, true, true, true, true, true, true] b53) (frS 0 335 [(0, x0), (1, x1), (5, x5), (6, x6), (7, x7), (8, x8), (9, x9), (39, x39), (81, x81)]) σ (blockK 2 (thenK (fun fr σ => c53_3 run fu s2 (G fr 0) (G fr 1) (G fr 5) (G fr 6) (G fr 7) (G fr 8) (G fr 9) σ) (blockK 1 (thenK (fun fr σ => s2 (G fr 0) (G fr 1) (G fr 5) (G fr 6) (G fr 7) (G fr 8) σ) (blockK 0 (thenK (fun fr σ => c53_1 run fu (G fr 0) (G fr 1) σ) k53)))))) = c53_10 run fu s2 x0 x1 x5 x6 x7 x8 x9 x39 x81 σ := by kernel_rfl

theorem ok53_10 {run : RunT} (hrun : RunOK X0 run) (fu : Nat) (s2 : W6) : ∀ fr σ, KOK X0 335 (subC [true, true, true, true, true, true, true, true, true, false, false, false, true, false, true, false, true, false, true, true, true, true, true, true, true, true, true, true, true, true, true, true, true, true, true] b53) fr σ ((fun fr σ => c53_10 run fu s2 (G fr 0) (G fr 1) (G fr 5) (G fr 6) (G fr 7) (G fr 8) (G fr 9) (G fr 39) (G fr 81) σ) fr σ) (blockK 2 (thenK (fun fr σ => c53_3 run fu s2 (G fr 0) (G fr 1) (G fr 5) (G fr 6) (G fr 7) (G fr 8) (G fr 9) σ) (blockK 1 (thenK (fun fr σ => s2 (G fr 0) (G fr 1) (G fr 5) (G fr 6) (G fr 7) (G fr 8) σ) (blockK 0 (thenK (fun fr σ => c53_1 run fu (G fr 0) (G fr 1) σ) k53)))))) := fun fr σ =>
  KOK.piece env0 hrun [0, 1, 5, 6, 7, 8, 9, 39, 81] (eq53_10 run fu s2 (G fr 0) (G fr 1) (G fr 5) (G fr 6) (G fr 7) (G fr 8) (G fr 9) (G fr 39) (G fr 81) σ) ⟨⟨trivial, ⟨trivial, trivial⟩⟩, ⟨trivial, ⟨⟨trivial, ⟨trivial, trivial⟩⟩, ⟨trivial, ⟨trivial, ⟨trivial, ⟨trivial, ⟨trivial, ⟨⟨trivial, ⟨trivial, trivial⟩⟩, trivial⟩⟩⟩⟩⟩⟩⟩⟩⟩

noncomputable def c53_9 (run : RunT) (fu : Nat) (s2 : W6) (x0 x1 x5 x6 x7 x8 x9 x39 x60 : AV) (σ : Store) : Tr R :=
  ifK x60 (
  c53_3 run fu s2 x0 x1 x5 x6 x7 x8 (.fn (.func 67) [] []) σ) (
  cmpK .eql x39 (.int .u8 46) fun x64 =>
  ifK x64 (
  nchkK x0 fun x66 =>
  addrK x66 0 fun x67 =>
  ld1K σ x67 fun x68 =>
  nchkK x68 fun x69 =>
  addrK x69 7 fun x70 =>
  ld1K σ x70 fun x71 =>
  ifK x71 (
  c53_3 run fu s2 x0 x1 x5 x6 x7 x8 (.fn (.func 68) [] []) σ) (
  c53_3 run fu s2 x0 x1 x5 x6 x7 x8 x9 σ)) (
  cmpK .eql x39 (.int .u8 45) fun x73 =>
  ifK x73 (
  nchkK x0 fun x75 =>
  addrK x75 0 fun x76 =>
  ld1K σ x76 fun x77 =>
  nchkK x77 fun x78 =>
  addrK x78 8 fun x79 =>
  ld1K σ x79 fun x80 =>
  ifK x80 (
  c53_3 run fu s2 x0 x1 x5 x6 x7 x8 (.fn (.func 69) [] []) σ) (
  c53_3 run fu s2 x0 x1 x5 x6 x7 x8 x9 σ)) (
  cmpK .eql x39 (.int .u8 34) fun x82 =>
  ifK x82 (
  c53_10 run fu s2 x0 x1 x5 x6 x7 x8 x9 x39 x82 σ) (
  cmpK .eql x39 (.int .u8 39) fun x83 =>
  c53_10 run fu s2 x0 x1 x5 x6 x7 x8 x9 x39 x83 σ))))

theorem eq53_9 (run : RunT) (fu : Nat) (s2 : W6) (x0 x1 x5 x6 x7 x8 x9 x39 x60 : AV) (σ : Store) : codeK X0 run (.cond .leaf (.seq .leaf (.cond (.seq .leaf (.cond .leaf .leaf)) (.seq .leaf (.cond (.seq .leaf (.cond .leaf .leaf)) (.seq (.seq .leaf (.cond .leaf .leaf)) (.sub (fun fr σ => c53_10 run fu s2 (G fr 0) (G fr 1) (G fr 5) (G fr 6) (G fr 7) (G fr 8) (G fr 9) (G fr 39) (G fr 81) σ)))))))) (subC [true, true, true, true, true, true, true, true, true, false, false, false, true, false, true, false, true, false, true, true, true, true, true, true, true, true, true, true, true] b53) (frS 0 335 [(0, x0), (1, x1), (5, x5), (6, x6), (7, x7), (8, x8), (9, x9), (39, x39), (60, x60)]) σ (blockK 2 (thenK (fun fr σ => c53_3 run fu s2 (G fr 0) (G fr 1) (G fr 5) (G fr 6) (G fr 7) (G fr 8) (G fr 9) σ) (blockK 1 (thenK (fun fr σ => s2 (G fr 0) (G fr 1) (G fr 5) (G fr 6) (G fr 7) (G fr 8) σ) (blockK 0 (thenK (fun fr σ => c53_1 run fu (G fr 0) (G fr 1) σ) k53)))))) = c53_9 run fu s2 x0 x1 x5 x6 x7 x8 x9 x39 x60 σ := by kernel_rfl

theorem ok53_9 {run : RunT} (hrun : RunOK X0 run) (fu : Nat) (s2 : W6) : ∀ fr σ, KOK X0 335 (subC [true, true, true, true, true, true, true, true, true, false, false, false, true, false, true, false, true, false, true, true, true, true, true, true, true, true, true, true, true] b53) fr σ ((fun fr σ => c53_9 run fu s2 (G fr 0) (G fr 1) (G fr 5) (G fr 6) (G fr 7) (G fr 8) (G fr 9) (G fr 39) (G fr 60) σ) fr σ) (blockK 2 (thenK (fun fr σ => c53_3 run fu s2 (G fr 0) (G fr 1) (G fr 5) (G fr 6) (G fr 7) (G fr 8) (G fr 9) σ) (blockK 1 (thenK (fun fr σ => s2 (G fr 0) (G fr 1) (G fr 5) (G fr 6) (G fr 7) (G fr 8) σ) (blockK 0 (thenK (fun fr σ => c53_1 run fu (G fr 0) (G fr 1) σ) k53)))))) := fun fr σ =>
  KOK.piece env0 hrun [0, 1, 5, 6, 7, 8, 9, 39, 60] (eq53_9 run fu s2 (G fr 0) (G fr 1) (G fr 5) (G fr 6) (G fr 7) (G fr 8) (G fr 9) (G fr 39) (G fr 60) σ) ⟨trivial, ⟨trivial, ⟨⟨trivial, ⟨trivial, trivial⟩⟩, ⟨trivial, ⟨⟨trivial, ⟨trivial, trivial⟩⟩, ⟨⟨trivial, ⟨trivial, trivial⟩⟩, (ok53_10 hrun fu s2)⟩⟩⟩⟩⟩⟩

noncomputable def c53_2b (run : RunT) (fu : Nat) (s2 : W6) (x0 x1 x5 x6 x7 x8 : AV) (σ : Store) : Tr R :=
  lenSK x1 fun x35 =>
  cmpK .lss x8 x35 fun x36 =>
  ifK x36 (
  idxSK x1 x8 fun x39 =>
  cmpK .eql x39 (.int .u8 92) fun x41 =>
  ifK x41 (
  c53_3 run fu s2 x0 x1 x5 x6 x7 x8 (.fn (.func 61) [] []) σ) (
  cmpK .eql x39 (.int .u8 96) fun x43 =>
  ifK x43 (
  notK x7 fun x45 =>
  ifK x45 (
  nchkK x0 fun x47 =>
  addrK x47 12 fun x48 =>
  calK run 62 [x48] σ fun x49 σ1 =>
  c53_8 run fu s2 x0 x1 x5 x6 (.bool true) x8 σ1) (
  c53_8 run fu s2 x0 x1 x5 x6 x7 x8 σ)) (
  cmpK .eql x39 (.int .u8 60) fun x55 =>
  ifK x55 (
  c53_3 run fu s2 x0 x1 x5 x6 x7 x8 (.fn (.func 64) [] []) σ) (
  cmpK .eql x39 (.int .u8 91) fun x57 =>
  ifK x57 (
  c53_3 run fu s2 x0 x1 x5 x6 x7 x8 (.fn (.func 65) [] []) σ) (
  cmpK .eql x39 (.int .u8 33) fun x59 =>
  ifK x59 (
  c53_3 run fu s2 x0 x1 x5 x6 x7 x8 (.fn (.func 66) [] []) σ) (
  cmpK .eql x39 (.int .u8 95) fun x61 =>
  ifK x61 (
  c53_9 run fu s2 x0 x1 x5 x6 x7 x8 .nilf x39 x61 σ) (
  cmpK .eql x39 (.int .u8 42) fun x62 =>
  c53_9 run fu s2 x0 x1 x5 x6 x7 x8 .nilf x39 x62 σ))))))) (
  c53_1 run fu x0 x1 σ)

noncomputable def c53_2 (run : RunT) (fu : Nat) : Nat → W6
  | 0 => fun _ _ _ _ _ _ _ => .fail
  | m + 1 => c53_2b run fu (c53_2 run fu m)

theorem eq53_2 (run : RunT) (fu : Nat) (s2 : W6) (x0 x1 x5 x6 x7 x8 : AV) (σ : Store) : codeK X0 run (.seq (.seq .leaf (.cond .leaf .leaf)) (.block (.seq .leaf (.seq (.seq .leaf (.block (.seq .leaf (.cond .leaf (.seq .leaf (.cond (.seq (.seq .leaf (.cond (.seq .leaf .leaf) .leaf)) (.sub (fun fr σ => c53_8 run fu s2 (G fr 0) (G fr 1) (G fr 5) (G fr 6) (G fr 7) (G fr 8) σ))) (.seq .leaf (.cond .leaf (.seq .leaf (.cond .leaf (.seq .leaf (.cond .leaf (.seq (.seq .leaf (.cond .leaf .leaf)) (.sub (fun fr σ => c53_9 run fu s2 (G fr 0) (G fr 1) (G fr 5) (G fr 6) (G fr 7) (G fr 8) (G fr 9) (G fr 39) (G fr 60) σ))))))))))))))) (.sub (fun fr σ => c53_3 run fu s2 (G fr 0) (G fr 1) (G fr 5) (G fr 6) (G fr 7) (G fr 8) (G fr 9) σ)))))) (subC [true, true, true, true, true, true, true, true, true, false, false, false] b53) (frS 0 335 [(0, x0), (1, x1), (5, x5), (6, x6), (7, x7), (8, x8)]) σ (thenK (fun fr σ => s2 (G fr 0) (G fr 1) (G fr 5) (G fr 6) (G fr 7) (G fr 8) σ) (blockK 0 (thenK (fun fr σ => c53_1 run fu (G fr 0) (G fr 1) σ) k53))) = c53_2b run fu s2 x0 x1 x5 x6 x7 x8 σ := by kernel_rfl

theorem owed53_2 {run : RunT} (hrun : RunOK X0 run) (fu : Nat) (s2 : W6) : Owes X0 run 335 (.seq (.seq .leaf (.cond .leaf .leaf)) (.block (.seq .leaf (.seq (.seq .leaf (.block (.seq .leaf (.cond .leaf (.seq .leaf (.cond (.seq (.seq .leaf (.cond (.seq .leaf .leaf) .leaf)) (.sub (fun fr σ => c53_8 run fu s2 (G fr 0) (G fr 1) (G fr 5) (G fr 6) (G fr 7) (G fr 8) σ))) (.seq .leaf (.cond .leaf (.seq .leaf (.cond .leaf (.seq .leaf (.cond .leaf (.seq (.seq .leaf (.cond .leaf .leaf)) (.sub (fun fr σ => c53_9 run fu s2 (G fr 0) (G fr 1) (G fr 5) (G fr 6) (G fr 7) (G fr 8) (G fr 9) (G fr 39) (G fr 60) σ))))))))))))))) (.sub (fun fr σ => c53_3 run fu s2 (G fr 0) (G fr 1) (G fr 5) (G fr 6) (G fr 7) (G fr 8) (G fr 9) σ)))))) (subC [true, true, true, true, true, true, true, true, true, false, false, false] b53) (thenK (fun fr σ => s2 (G fr 0) (G fr 1) (G fr 5) (G fr 6) (G fr 7) (G fr 8) σ) (blockK 0 (thenK (fun fr σ => c53_1 run fu (G fr 0) (G fr 1) σ) k53))) :=
  ⟨⟨trivial, ⟨trivial, trivial⟩⟩, ⟨trivial, ⟨⟨trivial, ⟨trivial, ⟨trivial, ⟨trivial, ⟨⟨⟨trivial, ⟨⟨trivial, trivial⟩, trivial⟩⟩, (ok53_8 hrun fu s2)⟩, ⟨trivial, ⟨trivial, ⟨trivial, ⟨trivial, ⟨trivial, ⟨trivial, ⟨⟨trivial, ⟨trivial, trivial⟩⟩, (ok53_9 hrun fu s2)⟩⟩⟩⟩⟩⟩⟩⟩⟩⟩⟩⟩, (ok53_3 hrun fu s2)⟩⟩⟩

theorem ok53_2 {run : RunT} (hrun : RunOK X0 run) (fu : Nat) : ∀ fr σ, KOK X0 335 (subC [true, true, true, true, true, true, true, true, true, false, false] b53) fr σ ((fun fr σ => c53_2 run fu fu (G fr 0) (G fr 1) (G fr 5) (G fr 6) (G fr 7) (G fr 8) σ) fr σ) (blockK 0 (thenK (fun fr σ => c53_1 run fu (G fr 0) (G fr 1) σ) k53)) := by
  have h := KOK.loop (X := X0) (N := 335) (b := (subC [true, true, true, true, true, true, true, true, true, false, false, false] b53)) (k := (blockK 0 (thenK (fun fr σ => c53_1 run fu (G fr 0) (G fr 1) σ) k53))) (u := fun m fr σ => c53_2 run fu m (G fr 0) (G fr 1) (G fr 5) (G fr 6) (G fr 7) (G fr 8) σ) (fun _ _ => rfl) (fun m fr σ => KOK.piece env0 hrun [0, 1, 5, 6, 7, 8] (eq53_2 run fu (c53_2 run fu m) (G fr 0) (G fr 1) (G fr 5) (G fr 6) (G fr 7) (G fr 8) σ) (owed53_2 hrun fu (c53_2 run fu m)))
  exact fun fr σ => h fu fr σ

noncomputable def c53_13 (run : RunT) (fu : Nat) (s2 : W6) (x0 x1 x5 x6 x7 x8 : AV) (σ : Store) : Tr R :=
  addK x8 (.int .i64 1) fun x294 =>
  s2 x0 x1 x5 x6 x7 x294 σ

theorem eq53_13 (run : RunT) (fu : Nat) (s2 : W6) (x0 x1 x5 x6 x7 x8 : AV) (σ : Store) : codeK X0 run .leaf (subC [true, true, true, true, true, true, true, true, true, false, false, false, true, false, true, true, true, true] b53) (frS 0 335 [(0, x0), (1, x1), (5, x5), (6, x6), (7, x7), (8, x8)]) σ (blockK 1 (thenK (fun fr σ => s2 (G fr 0) (G fr 1) (G fr 5) (G fr 6) (G fr 7) (G fr 8) σ) failK)) = c53_13 run fu s2 x0 x1 x5 x6 x7 x8 σ := by kernel_rfl

theorem ok53_13 {run : RunT} (hrun : RunOK X0 run) (fu : Nat) (s2 : W6) : ∀ fr σ, KOK X0 335 (subC [true, true, true, true, true, true, true, true, true, false, false, false, true, false, true, true, true, true] b53) fr σ ((fun fr σ => c53_13 run fu s2 (G fr 0) (G fr 1) (G fr 5) (G fr 6) (G fr 7) (G fr 8) σ) fr σ) (blockK 1 (thenK (fun fr σ => s2 (G fr 0) (G fr 1) (G fr 5) (G fr 6) (G fr 7) (G fr 8) σ) failK)) := fun fr σ =>
  KOK.piece env0 hrun [0, 1, 5, 6, 7, 8] (eq53_13 run fu s2 (G fr 0) (G fr 1) (G fr 5) (G fr 6) (G fr 7) (G fr 8) σ) trivial

noncomputable def c53_14 (run : RunT) (fu : Nat) (s2 : W6) (x0 x1 x5 x6 x7 x16 x17 x19 : AV) (σ : Store) : Tr R :=
  nchkK x0 fun x270 =>
  addrK x270 9 fun x271 =>
  ld1K σ x271 fun x272 =>
  addK x16 (.int .i64 1) fun x274 =>
  sliceLK Tryz.prog σ 84 x272 none (some x274) fun x275 =>
  nchkK x0 fun x276 =>
  addrK x276 9 fun x277 =>
  st1K σ x277 x275 fun _ σ1 =>
  calK run 74 [x0, x19] σ1 fun x280 σ2 =>
  nchkK x17 fun x283 =>
  addrK x283 0 fun x284 =>
  addrK x284 0 fun x285 =>
  ld1K σ2 x285 fun x286 =>
  idxSK x286 (.int .i64 0) fun x287 =>
  cmpK .eql x287 (.int .u8 91) fun x288 =>
  ifK x288 (
  nchkK x17 fun x290 =>
  addrK x290 1 fun x291 =>
  ld1K σ2 x291 fun x292 =>
  s2 x0 x1 x5 x292 x7 x19 σ2) (
  s2 x0 x1 x5 x6 x7 x19 σ2)

theorem eq53_14 (run : RunT) (fu : Nat) (s2 : W6) (x0 x1 x5 x6 x7 x16 x17 x19 : AV) (σ : Store) : codeK X0 run (.seq .leaf (.seq .leaf (.seq .leaf (.seq (.seq .leaf (.cond .leaf .leaf)) .leaf)))) (subC [true, true, true, true, true, true, true, true, true, false, false, false, true, false, true, true, true, false, true, false, true, true, true, true, false, true, true, false, true, true, true, true] b53) (frS 0 335 [(0, x0), (1, x1), (5, x5), (6, x6), (7, x7), (16, x16), (17, x17), (19, x19)]) σ (thenK (fun fr σ => c53_13 run fu s2 (G fr 0) (G fr 1) (G fr 5) (G fr 6) (G fr 7) (G fr 8) σ) (blockK 1 (thenK (fun fr σ => s2 (G fr 0) (G fr 1) (G fr 5) (G fr 6) (G fr 7) (G fr 8) σ) failK))) = c53_14 run fu s2 x0 x1 x5 x6 x7 x16 x17 x19 σ := by kernel_rfl

theorem ok53_14 {run : RunT} (hrun : RunOK X0 run) (fu : Nat) (s2 : W6) : ∀ fr σ, KOK X0 335 (subC [true, true, true, true, true, true, true, true, true, false, false, false, true, false, true, true, true, false, true, false, true, true, true, true, false, true, true, false, true, true, true, true] b53) fr σ ((fun fr σ => c53_14 run fu s2 (G fr 0) (G fr 1) (G fr 5) (G fr 6) (G fr 7) (G fr 16) (G fr 17) (G fr 19) σ) fr σ) (thenK (fun fr σ => c53_13 run fu s2 (G fr 0) (G fr 1) (G fr 5) (G fr 6) (G fr 7) (G fr 8) σ) (blockK 1 (thenK (fun fr σ => s2 (G fr 0) (G fr 1) (G fr 5) (G fr 6) (G fr 7) (G fr 8) σ) failK))) := fun fr σ =>
  KOK.piece env0 hrun [0, 1, 5, 6, 7, 16, 17, 19] (eq53_14 run fu s2 (G fr 0) (G fr 1) (G fr 5) (G fr 6) (G fr 7) (G fr 16) (G fr 17) (G fr 19) σ) ⟨trivial, ⟨trivial, ⟨trivial, ⟨⟨trivial, ⟨trivial, trivial⟩⟩, trivial⟩⟩⟩⟩

noncomputable def c53_12 (run : RunT) (fu : Nat) (s2 : W6) (x0 x1 x5 x6 x7 x8 : AV) (σ : Store) : Tr R :=
  idxSK x1 x8 fun x159 =>
  cmpK .eql x159 (.int .u8 93) fun x160 =>
  grdK x160 true σ (fun f => f x5 σ) fun x162 σ1 =>
  grdK x160 true σ1 (fun f => lenLK x162 fun v => f v σ1) fun x163 σ2 =>
  grdK x160 true σ2 (fun f => cmpK .gtr x163 (.int .i64 0) fun v => f v σ2) fun x164 σ3 =>
  pickK x160 x164 (.bool false) fun x165 =>
  ifK x165 (
  lenLK x5 fun x168 =>
  subK x168 (.int .i64 1) fun x169 =>
  idxK 1 x5 x169 fun x170 =>
  ld1K σ3 x170 fun x171 =>
  nchkK x0 fun x173 =>
  addrK x173 9 fun x174 =>
  ld1K σ3 x174 fun x175 =>
  idxK 1 x175 x171 fun x177 =>
  ld1K σ3 x177 fun x178 =>
  tasK (some .nilp) 128 false x178 fun x179 =>
  lenLK x5 fun x182 =>
  subK x182 (.int .i64 1) fun x183 =>
  sliceLK Tryz.prog σ3 123 x5 none (some x183) fun x184 =>
  nchkK x179 fun x186 =>
  addrK x186 0 fun x187 =>
  addrK x187 0 fun x188 =>
  ld1K σ3 x188 fun x189 =>
  idxSK x189 (.int .i64 0) fun x190 =>
  cmpK .eql x190 (.int .u8 33) fun x191 =>
  grdK x191 false σ3 (fun f => f x6 σ3) fun x193 σ4 =>
  grdK x191 false σ4 (fun f => f x179 σ4) fun x194 σ5 =>
  grdK x191 false σ5 (fun f => nchkK x194 fun v => f v σ5) fun x195 σ6 =>
  grdK x191 false σ6 (fun f => addrK x195 1 fun v => f v σ6) fun x196 σ7 =>
  grdK x191 false σ7 (fun f => ld1K σ7 x196 fun v => f v σ7) fun x197 σ8 =>
  grdK x191 false σ8 (fun f => cmpK .leq x193 x197 fun v => f v σ8) fun x198 σ9 =>
  pickK x191 (.bool true) x198 fun x199 =>
  ifK x199 (
  calK run 75 [x0, x1, x8, x179] σ9 fun x205 σ10 =>
  extK x205 0 fun x206 =>
  extK x205 1 fun x207 =>
  extK x205 2 fun x208 =>
  ifK x208 (
  nchkK x0 fun x212 =>
  addrK x212 6 fun x213 =>
  ld1K σ10 x213 fun x214 =>
  grdK x214 false σ10 (fun f => f x206 σ10) fun x216 σ11 =>
  grdK x214 false σ11 (fun f => nchkK x216 fun v => f v σ11) fun x217 σ12 =>
  grdK x214 false σ12 (fun f => addrK x217 4 fun v => f v σ12) fun x218 σ13 =>
  grdK x214 false σ13 (fun f => ld1K σ13 x218 fun v => f v σ13) fun x219 σ14 =>
  pickK x214 (.bool true) x219 fun x220 =>
  grdK x220 false σ14 (fun f => f x206 σ14) fun x222 σ15 =>
  grdK x220 false σ15 (fun f => nchkK x222 fun v => f v σ15) fun x223 σ16 =>
  grdK x220 false σ16 (fun f => addrK x223 1 fun v => f v σ16) fun x224 σ17 =>
  grdK x220 false σ17 (fun f => ld1K σ17 x224 fun v => f v σ17) fun x225 σ18 =>
  grdK x220 false σ18 (fun f => calK run 76 [x225] σ18 f) fun x226 σ19 =>
  pickK x220 (.bool true) x226 fun x227 =>
  nchkK x0 fun x228 =>
  addrK x228 6 fun x229 =>
  st1K σ19 x229 x227 fun _ σ20 =>
  calK run 73 [x0, x8] σ20 fun x232 σ21 =>
  nchkK x0 fun x236 =>
  addrK x236 9 fun x237 =>
  ld1K σ21 x237 fun x238 =>
  addK x171 (.int .i64 1) fun x240 =>
  sliceLK Tryz.prog σ21 84 x238 (some x240) none fun x241 =>
  calK run 77 [x0, .nils, x241] σ21 fun x242 σ22 =>
  nchkK x206 fun x243 =>
  addrK x243 0 fun x244 =>
  st1K σ22 x244 x242 fun _ σ23 =>
  nchkK x179 fun x246 =>
  addrK x246 0 fun x247 =>
  addrK x247 0 fun x248 =>
  ld1K σ23 x248 fun x249 =>
  idxSK x249 (.int .i64 0) fun x250 =>
  cmpK .eql x250 (.int .u8 33) fun x251 =>
  ifK x251 (
  nchkK x0 fun x253 =>
  addrK x253 9 fun x254 =>
  ld1K σ23 x254 fun x255 =>
  idxK 1 x255 x171 fun x259 =>
  st1K σ23 x259 (.iface 140 x206) fun _ σ24 =>
  c53_14 run fu s2 x0 x1 x184 x6 x7 x171 x179 x207 σ24) (
  nchkK x0 fun x261 =>
  addrK x261 9 fun x262 =>
  ld1K σ23 x262 fun x263 =>
  idxK 1 x263 x171 fun x267 =>
  st1K σ23 x267 (.iface 134 x206) fun _ σ25 =>
  c53_14 run fu s2 x0 x1 x184 x6 x7 x171 x179 x207 σ25)) (
  c53_13 run fu s2 x0 x1 x184 x6 x7 x8 σ10)) (
  c53_13 run fu s2 x0 x1 x184 x6 x7 x8 σ9)) (
  c53_13 run fu s2 x0 x1 x5 x6 x7 x8 σ3)

theorem eq53_12 (run : RunT) (fu : Nat) (s2 : W6) (x0 x1 x5 x6 x7 x8 : AV) (σ : Store) : codeK X0 run (.seq (.seq .leaf (.cond (.seq .leaf (.seq .leaf (.seq .leaf (.seq .leaf (.cond (.seq .leaf (.seq .leaf (.cond (.seq .leaf (.seq .leaf (.seq .leaf (.seq (.seq .leaf (.cond .leaf .leaf)) (.sub (fun fr σ => c53_14 run fu s2 (G fr 0) (G fr 1) (G fr 5) (G fr 6) (G fr 7) (G fr 16) (G fr 17) (G fr 19) σ)))))) .leaf))) .leaf))))) .leaf)) (.sub (fun fr σ => c53_13 run fu s2 (G fr 0) (G fr 1) (G fr 5) (G fr 6) (G fr 7) (G fr 8) σ))) (subC [true, true, true, true, true, true, true, true, true, false, false, false, true, false, true, true, true] b53) (frS 0 335 [(0, x0), (1, x1), (5, x5), (6, x6), (7, x7), (8, x8)]) σ (blockK 1 (thenK (fun fr σ => s2 (G fr 0) (G fr 1) (G fr 5) (G fr 6) (G fr 7) (G fr 8) σ) failK)) = c53_12 run fu s2 x0 x1 x5 x6 x7 x8 σ := by kernel_rfl

theorem ok53_12 {run : RunT} (hrun : RunOK X0 run) (fu : Nat) (s2 : W6) : ∀ fr σ, KOK X0 335 (subC [true, true, true, true, true, true, true, true, true, false, false, false, true, false, true, true, true] b53) fr σ ((fun fr σ => c53_12 run fu s2 (G fr 0) (G fr 1) (G fr 5) (G fr 6) (G fr 7) (G fr 8) σ) fr σ) (blockK 1 (thenK (fun fr σ => s2 (G fr 0) (G fr 1) (G fr 5) (G fr 6) (G fr 7) (G fr 8) σ) failK)) := fun fr σ =>
  KOK.piece env0 hrun [0, 1, 5, 6, 7, 8] (eq53_12 run fu s2 (G fr 0) (G fr 1) (G fr 5) (G fr 6) (G fr 7) (G fr 8) σ) ⟨⟨trivial, ⟨⟨trivial, ⟨trivial, ⟨trivial, ⟨trivial, ⟨⟨trivial, ⟨trivial, ⟨⟨trivial, ⟨trivial, ⟨trivial, ⟨⟨trivial, ⟨trivial, trivial⟩⟩, (ok53_14 hrun fu s2)⟩⟩⟩⟩, trivial⟩⟩⟩, trivial⟩⟩⟩⟩⟩, trivial⟩⟩, (ok53_13 hrun fu s2)⟩

noncomputable def c53_15 (run : RunT) (fu : Nat) (s2 : W6) (x0 x1 x5 x6 x7 x10 x12 : AV) (σ : Store) : Tr R :=
  nchkK x0 fun x145 =>
  addrK x145 9 fun x146 =>
  ld1K σ x146 fun x147 =>
  opt (fillK [.nili] [(0, 1, x10)]) fun cs => newSK σ 253 cs 1 1 fun x149 σ1 =>
  appK 126 1 16 σ1 x147 x149 fun x150 σ2 =>
  nchkK x0 fun x151 =>
  addrK x151 9 fun x152 =>
  st1K σ2 x152 x150 fun _ σ3 =>
  calK run 74 [x0, x12] σ3 fun x156 σ4 =>
  s2 x0 x1 x5 x6 x7 x12 σ4

theorem eq53_15 (run : RunT) (fu : Nat) (s2 : W6) (x0 x1 x5 x6 x7 x10 x12 : AV) (σ : Store) : codeK X0 run (.seq .leaf (.seq .leaf (.seq .leaf .leaf))) (subC [true, true, true, true, true, true, true, true, true, false, false, false, true, false, true, true, false, true, false, true, true, false, true, true] b53) (frS 0 335 [(0, x0), (1, x1), (5, x5), (6, x6), (7, x7), (10, x10), (12, x12)]) σ (thenK (fun fr σ => c53_12 run fu s2 (G fr 0) (G fr 1) (G fr 5) (G fr 6) (G fr 7) (G fr 8) σ) (blockK 1 (thenK (fun fr σ => s2 (G fr 0) (G fr 1) (G fr 5) (G fr 6) (G fr 7) (G fr 8) σ) failK))) = c53_15 run fu s2 x0 x1 x5 x6 x7 x10 x12 σ := by kernel_rfl

theorem ok53_15 {run : RunT} (hrun : RunOK X0 run) (fu : Nat) (s2 : W6) : ∀ fr σ, KOK X0 335 (subC [true, true, true, true, true, true, true, true, true, false, false, false, true, false, true, true, false, true, false, true, true, false, true, true] b53) fr σ ((fun fr σ => c53_15 run fu s2 (G fr 0) (G fr 1) (G fr 5) (G fr 6) (G fr 7) (G fr 10) (G fr 12) σ) fr σ) (thenK (fun fr σ => c53_12 run fu s2 (G fr 0) (G fr 1) (G fr 5) (G fr 6) (G fr 7) (G fr 8) σ) (blockK 1 (thenK (fun fr σ => s2 (G fr 0) (G fr 1) (G fr 5) (G fr 6) (G fr 7) (G fr 8) σ) failK))) := fun fr σ =>
  KOK.piece env0 hrun [0, 1, 5, 6, 7, 10, 12] (eq53_15 run fu s2 (G fr 0) (G fr 1) (G fr 5) (G fr 6) (G fr 7) (G fr 10) (G fr 12) σ) ⟨trivial, ⟨trivial, ⟨trivial, trivial⟩⟩⟩

noncomputable def c53_11 (run : RunT) (fu : Nat) (s2 : W6) (x0 x1 x5 x6 x7 x8 x9 : AV) (σ : Store) : Tr R :=
  neOK (nilEq nilF) x9 .nilf fun x114 =>
  ifK x114 (
  dynK X0 run x9 [x0, x1, x8] σ fun x120 σ1 =>
  extK x120 0 fun x121 =>
  extK x120 1 fun x122 =>
  extK x120 2 fun x123 =>
  extK x120 3 fun x124 =>
  ifK x124 (
  calK run 73 [x0, x122] σ1 fun x128 σ2 =>
  tasK (some .nilp) 128 true x121 fun x131 =>
  extK x131 0 fun x132 =>
  extK x131 1 fun x133 =>
  ifK x133 (
  nchkK x0 fun x137 =>
  addrK x137 9 fun x138 =>
  ld1K σ2 x138 fun x139 =>
  lenLK x139 fun x140 =>
  opt (fillK [(.int .i64 0)] [(0, 1, x140)]) fun cs => newSK σ2 7 cs 1 1 fun x141 σ3 =>
  appK 3 1 8 σ3 x5 x141 fun x142 σ4 =>
  c53_15 run fu s2 x0 x1 x142 x6 x7 x121 x123 σ4) (
  c53_15 run fu s2 x0 x1 x5 x6 x7 x121 x123 σ2)) (
  c53_12 run fu s2 x0 x1 x5 x6 x7 x8 σ1)) (
  c53_12 run fu s2 x0 x1 x5 x6 x7 x8 σ)

theorem eq53_11 (run : RunT) (fu : Nat) (s2 : W6) (x0 x1 x5 x6 x7 x8 x9 : AV) (σ : Store) : codeK X0 run (.seq (.seq .leaf (.cond (.seq .leaf (.seq .leaf (.cond (.seq .leaf (.seq (.seq .leaf (.seq .leaf (.cond .leaf .leaf))) (.sub (fun fr σ => c53_15 run fu s2 (G fr 0) (G fr 1) (G fr 5) (G fr 6) (G fr 7) (G fr 10) (G fr 12) σ)))) .leaf))) .leaf)) (.sub (fun fr σ => c53_12 run fu s2 (G fr 0) (G fr 1) (G fr 5) (G fr 6) (G fr 7) (G fr 8) σ))) (subC [true, true, true, true, true, true, true, true, true, false, false, false, true, false, true, true] b53) (frS 0 335 [(0, x0), (1, x1), (5, x5), (6, x6), (7, x7), (8, x8), (9, x9)]) σ (blockK 1 (thenK (fun fr σ => s2 (G fr 0) (G fr 1) (G fr 5) (G fr 6) (G fr 7) (G fr 8) σ) failK)) = c53_11 run fu s2 x0 x1 x5 x6 x7 x8 x9 σ := by kernel_rfl

theorem ok53_11 {run : RunT} (hrun : RunOK X0 run) (fu : Nat) (s2 : W6) : ∀ fr σ, KOK X0 335 (subC [true, true, true, true, true, true, true, true, true, false, false, false, true, false, true, true] b53) fr σ ((fun fr σ => c53_11 run fu s2 (G fr 0) (G fr 1) (G fr 5) (G fr 6) (G fr 7) (G fr 8) (G fr 9) σ) fr σ) (blockK 1 (thenK (fun fr σ => s2 (G fr 0) (G fr 1) (G fr 5) (G fr 6) (G fr 7) (G fr 8) σ) failK)) := fun fr σ =>
  KOK.piece env0 hrun [0, 1, 5, 6, 7, 8, 9] (eq53_11 run fu s2 (G fr 0) (G fr 1) (G fr 5) (G fr 6) (G fr 7) (G fr 8) (G fr 9) σ) ⟨⟨trivial, ⟨⟨trivial, ⟨trivial, ⟨⟨trivial, ⟨⟨trivial, ⟨trivial, ⟨trivial, trivial⟩⟩⟩, (ok53_15 hrun fu s2)⟩⟩, trivial⟩⟩⟩, trivial⟩⟩, (ok53_12 hrun fu s2)⟩

noncomputable def c53_16 (run : RunT) (fu : Nat) (s2 : W6) (x0 x1 x5 x6 x7 x8 : AV) (σ : Store) : Tr R :=
  nchkK x0 fun x51 =>
  addrK x51 12 fun x52 =>
  c53_11 run fu s2 x0 x1 x5 x6 x7 x8 (.fn (.func 63) [x52] []) σ

theorem eq53_16 (run : RunT) (fu : Nat) (s2 : W6) (x0 x1 x5 x6 x7 x8 : AV) (σ : Store) : codeK X0 run .leaf (subC [true, true, true, true, true, true, true, true, true, false, false, false, true, false, true, false, true, false, true, true, true, false, true] b53) (frS 0 335 [(0, x0), (1, x1), (5, x5), (6, x6), (7, x7), (8, x8)]) σ (blockK 2 (thenK (fun fr σ => c53_11 run fu s2 (G fr 0) (G fr 1) (G fr 5) (G fr 6) (G fr 7) (G fr 8) (G fr 9) σ) (blockK 1 (thenK (fun fr σ => s2 (G fr 0) (G fr 1) (G fr 5) (G fr 6) (G fr 7) (G fr 8) σ) failK)))) = c53_16 run fu s2 x0 x1 x5 x6 x7 x8 σ := by kernel_rfl

theorem ok53_16 {run : RunT} (hrun : RunOK X0 run) (fu : Nat) (s2 : W6) : ∀ fr σ, KOK X0 335 (subC [true, true, true, true, true, true, true, true, true, false, false, false, true, false, true, false, true, false, true, true, true, false, true] b53) fr σ ((fun fr σ => c53_16 run fu s2 (G fr 0) (G fr 1) (G fr 5) (G fr 6) (G fr 7) (G fr 8) σ) fr σ) (blockK 2 (thenK (fun fr σ => c53_11 run fu s2 (G fr 0) (G fr 1) (G fr 5) (G fr 6) (G fr 7) (G fr 8) (G fr 9) σ) (blockK 1 (thenK (fun fr σ => s2 (G fr 0) (G fr 1) (G fr 5) (G fr 6) (G fr 7) (G fr 8) σ) failK)))) := fun fr σ =>
  KOK.piece env0 hrun [0, 1, 5, 6, 7, 8] (eq53_16 run fu s2 (G fr 0) (G fr 1) (G fr 5) (G fr 6) (G fr 7) (G fr 8) σ) trivial

noncomputable def c53_18 (run : RunT) (fu : Nat) (s2 : W6) (x0 x1 x5 x6 x7 x8 x9 x39 x81 : AV) (σ : Store) : Tr R :=
  ifK x81 (
  nchkK x0 fun x85 =>
  addrK x85 0 fun x86 =>
  ld1K σ x86 fun x87 =>
  nchkK x87 fun x88 =>
  addrK x88 9 fun x89 =>
  ld1K σ x89 fun x90 =>
  ifK x90 (
  c53_11 run fu s2 x0 x1 x5 x6 x7 x8 (.fn (.func 67) [] []) σ) (
  c53_11 run fu s2 x0 x1 x5 x6 x7 x8 x9 σ)) (
  cmpK .eql x39 (.int .u8 126) fun x92 =>
  ifK x92 (
  nchkK x0 fun x94 =>
  addrK x94 0 fun x95 =>
  ld1K σ x95 fun x96 =>
  nchkK x96 fun x97 =>
  addrK x97 1 fun x98 =>
  ld1K σ x98 fun x99 =>
  ifK x99 (
  c53_11 run fu s2 x0 x1 x5 x6 x7 x8 (.fn (.func 67) [] []) σ) (
  c53_11 run fu s2 x0 x1 x5 x6 x7 x8 x9 σ)) (
  cmpK .eql x39 (.int .u8 10) fun x101 =>
  ifK x101 (
  c53_11 run fu s2 x0 x1 x5 x6 x7 x8 (.fn (.func 70) [] []) σ) (
  cmpK .eql x39 (.int .u8 38) fun x103 =>
  ifK x103 (
  c53_11 run fu s2 x0 x1 x5 x6 x7 x8 (.fn (.func 71) [] []) σ) (
  cmpK .eql x39 (.int .u8 58) fun x105 =>
  ifK x105 (
  nchkK x0 fun x107 =>
  addrK x107 0 fun x108 =>
  ld1K σ x108 fun x109 =>
  nchkK x109 fun x110 =>
  addrK x110 6 fun x111 =>
  ld1K σ x111 fun x112 =>
  ifK x112 (
  c53_11 run fu s2 x0 x1 x5 x6 x7 x8 (.fn (.func 72) [] []) σ) (
  c53_11 run fu s2 x0 x1 x5 x6 x7 x8 x9 σ)) (
  c53_11 run fu s2 x0 x1 x5 x6 x7 x8 x9 σ)))))

theorem eq53_18 (run : RunT) (fu : Nat) (s2 : W6) (x0 x1 x5 x6 x7 x8 x9 x39 x81 : AV) (σ : Store) : codeK X0 run (.cond (.seq .leaf (.cond .leaf .leaf)) (.seq .leaf (.cond (.seq .leaf (.cond .leaf .leaf)) (.seq .leaf (.cond .leaf (.seq .leaf (.cond .leaf (.seq .leaf (.cond (.seq .leaf (.cond .leaf .leaf)) .leaf))))))))) (subC [true, true, true, true, true, true, true, true, true, false, false, false, true, false, true, false, true, false, true, true, true, true, true, true, true, true, true, true, true, true, true, true, true, true, true] b53) (frS 0 335 [(0, x0), (1, x1), (5, x5), (6, x6), (7, x7), (8, x8), (9, x9), (39, x39), (81, x81)]) σ (blockK 2 (thenK (fun fr σ => c53_11 run fu s2 (G fr 0) (G fr 1) (G fr 5) (G fr 6) (G fr 7) (G fr 8) (G fr 9) σ) (blockK 1 (thenK (fun fr σ => s2 (G fr 0) (G fr 1) (G fr 5) (G fr 6) (G fr 7) (G fr 8) σ) failK)))) = c53_18 run fu s2 x0 x1 x5 x6 x7 x8 x9 x39 x81 σ := by kernel_rfl

theorem ok53_18 {run : RunT} (hrun : RunOK X0 run) (fu : Nat) (s2 : W6) : ∀ fr σ, KOK X0 335 (subC [true, true, true, true, true, true, true, true, true, false, false, false, true, false, true, false, true, false, true, true, true, true, true, true, true, true, true, true, true, true, true, true, true, true, true] b53) fr σ ((fun fr σ => c53_18 run fu s2 (G fr 0) (G fr 1) (G fr 5) (G fr 6) (G fr 7) (G fr 8) (G fr 9) (G fr 39) (G fr 81) σ) fr σ) (blockK 2 (thenK (fun fr σ => c53_11 run fu s2 (G fr 0) (G fr 1) (G fr 5) (G fr 6) (G fr 7) (G fr 8) (G fr 9) σ) (blockK 1 (thenK (fun fr σ => s2 (G fr 0) (G fr 1) (G fr 5) (G fr 6) (G fr 7) (G fr 8) σ) failK)))) := fun fr σ =>
  KOK.piece env0 hrun [0, 1, 5, 6, 7, 8, 9, 39, 81] (eq53_18 run fu s2 (G fr 0) (G fr 1) (G fr 5) (G fr 6) (G fr 7) (G fr 8) (G fr 9) (G fr 39) (G fr 81) σ) ⟨⟨trivial, ⟨trivial, trivial⟩⟩, ⟨trivial, ⟨⟨trivial, ⟨trivial, trivial⟩⟩, ⟨trivial, ⟨trivial, ⟨trivial, ⟨trivial, ⟨trivial, ⟨⟨trivial, ⟨trivial, trivial⟩⟩, trivial⟩⟩⟩⟩⟩⟩⟩⟩⟩

noncomputable def c53_17 (run : RunT) (fu : Nat) (s2 : W6) (x0 x1 x5 x6 x7 x8 x9 x39 x60 : AV) (σ : Store) : Tr R :=
  ifK x60 (
  c53_11 run fu s2 x0 x1 x5 x6 x7 x8 (.fn (.func 67) [] []) σ) (
  cmpK .eql x39 (.int .u8 46) fun x64 =>
  ifK x64 (
  nchkK x0 fun x66 =>
  addrK x66 0 fun x67 =>
  ld1K σ x67 fun x68 =>
  nchkK x68 fun x69 =>
  addrK x69 7 fun x70 =>
  ld1K σ x70 fun x71 =>
  ifK x71 (
  c53_11 run fu s2 x0 x1 x5 x6 x7 x8 (.fn (.func 68) [] []) σ) (
  c53_11 run fu s2 x0 x1 x5 x6 x7 x8 x9 σ)) (
  cmpK .eql x39 (.int .u8 45) fun x73 =>
  ifK x73 (
  nchkK x0 fun x75 =>
  addrK x75 0 fun x76 =>
  ld1K σ x76 fun x77 =>
  nchkK x77 fun x78 =>
  addrK x78 8 fun x79 =>
  ld1K σ x79 fun x80 =>
  ifK x80 (
  c53_11 run fu s2 x0 x1 x5 x6 x7 x8 (.fn (.func 69) [] []) σ) (
  c53_11 run fu s2 x0 x1 x5 x6 x7 x8 x9 σ)) (
  cmpK .eql x39 (.int .u8 34) fun x82 =>
  ifK x82 (
  c53_18 run fu s2 x0 x1 x5 x6 x7 x8 x9 x39 x82 σ) (
  cmpK .eql x39 (.int .u8 39) fun x83 =>
  c53_18 run fu s2 x0 x1 x5 x6 x7 x8 x9 x39 x83 σ))))

theorem eq53_17 (run : RunT) (fu : Nat) (s2 : W6) (x0 x1 x5 x6 x7 x8 x9 x39 x60 : AV) (σ : Store) : codeK X0 run (.cond .leaf (.seq .leaf (.cond (.seq .leaf (.cond .leaf .leaf)) (.seq .leaf (.cond (.seq .leaf (.cond .leaf .leaf)) (.seq (.seq .leaf (.cond .leaf .leaf)) (.sub (fun fr σ => c53_18 run fu s2 (G fr 0) (G fr 1) (G fr 5) (G fr 6) (G fr 7) (G fr 8) (G fr 9) (G fr 39) (G fr 81) σ)))))))) (subC [true, true, true, true, true, true, true, true, true, false, false, false, true, false, true, false, true, false, true, true, true, true, true, true, true, true, true, true, true] b53) (frS 0 335 [(0, x0), (1, x1), (5, x5), (6, x6), (7, x7), (8, x8), (9, x9), (39, x39), (60, x60)]) σ (blockK 2 (thenK (fun fr σ => c53_11 run fu s2 (G fr 0) (G fr 1) (G fr 5) (G fr 6) (G fr 7) (G fr 8) (G fr 9) σ) (blockK 1 (thenK (fun fr σ => s2 (G fr 0) (G fr 1) (G fr 5) (G fr 6) (G fr 7) (G fr 8) σ) failK)))) = c53_17 run fu s2 x0 x1 x5 x6 x7 x8 x9 x39 x60 σ := by kernel_rfl

theorem ok53_17 {run : RunT} (hrun : RunOK X0 run) (fu : Nat) (s2 : W6) : ∀ fr σ, KOK X0 335 (subC [true, true, true, true, true, true, true, true, true, false, false, false, true, false, true, false, true, false, true, true, true, true, true, true, true, true, true, true, true] b53) fr σ ((fun fr σ => c53_17 run fu s2 (G fr 0) (G fr 1) (G fr 5) (G fr 6) (G fr 7) (G fr 8) (G fr 9) (G fr 39) (G fr 60) σ) fr σ) (blockK 2 (thenK (fun fr σ => c53_11 run fu s2 (G fr 0) (G fr 1) (G fr 5) (G fr 6) (G fr 7) (G fr 8) (G fr 9) σ) (blockK 1 (thenK (fun fr σ => s2 (G fr 0) (G fr 1) (G fr 5) (G fr 6) (G fr 7) (G fr 8) σ) failK)))) := fun fr σ =>
  KOK.piece env0 hrun [0, 1, 5, 6, 7, 8, 9, 39, 60] (eq53_17 run fu s2 (G fr 0) (G fr 1) (G fr 5) (G fr 6) (G fr 7) (G fr 8) (G fr 9) (G fr 39) (G fr 60) σ) ⟨trivial, ⟨trivial, ⟨⟨trivial, ⟨trivial, trivial⟩⟩, ⟨trivial, ⟨⟨trivial, ⟨trivial, trivial⟩⟩, ⟨⟨trivial, ⟨trivial, trivial⟩⟩, (ok53_18 hrun fu s2)⟩⟩⟩⟩⟩⟩

noncomputable def c53_2x (run : RunT) (fu : Nat) (s2 : W6) (x0 x1 x5 x6 x7 x8 : AV) (σ : Store) : Tr R :=
  lenSK x1 fun x35 =>
  cmpK .lss x8 x35 fun x36 =>
  ifK x36 (
  idxSK x1 x8 fun x39 =>
  cmpK .eql x39 (.int .u8 92) fun x41 =>
  ifK x41 (
  c53_11 run fu s2 x0 x1 x5 x6 x7 x8 (.fn (.func 61) [] []) σ) (
  cmpK .eql x39 (.int .u8 96) fun x43 =>
  ifK x43 (
  notK x7 fun x45 =>
  ifK x45 (
  nchkK x0 fun x47 =>
  addrK x47 12 fun x48 =>
  calK run 62 [x48] σ fun x49 σ1 =>
  c53_16 run fu s2 x0 x1 x5 x6 (.bool true) x8 σ1) (
  c53_16 run fu s2 x0 x1 x5 x6 x7 x8 σ)) (
  cmpK .eql x39 (.int .u8 60) fun x55 =>
  ifK x55 (
  c53_11 run fu s2 x0 x1 x5 x6 x7 x8 (.fn (.func 64) [] []) σ) (
  cmpK .eql x39 (.int .u8 91) fun x57 =>
  ifK x57 (
  c53_11 run fu s2 x0 x1 x5 x6 x7 x8 (.fn (.func 65) [] []) σ) (
  cmpK .eql x39 (.int .u8 33) fun x59 =>
  ifK x59 (
  c53_11 run fu s2 x0 x1 x5 x6 x7 x8 (.fn (.func 66) [] []) σ) (
  cmpK .eql x39 (.int .u8 95) fun x61 =>
  ifK x61 (
  c53_17 run fu s2 x0 x1 x5 x6 x7 x8 .nilf x39 x61 σ) (
  cmpK .eql x39 (.int .u8 42) fun x62 =>
  c53_17 run fu s2 x0 x1 x5 x6 x7 x8 .nilf x39 x62 σ))))))) (
  .fail)

theorem eq53_2x (run : RunT) (fu : Nat) (s2 : W6) (x0 x1 x5 x6 x7 x8 : AV) (σ : Store) : codeK X0 run (.seq (.seq .leaf (.cond .leaf .leaf)) (.block (.seq .leaf (.seq (.seq .leaf (.block (.seq .leaf (.cond .leaf (.seq .leaf (.cond (.seq (.seq .leaf (.cond (.seq .leaf .leaf) .leaf)) (.sub (fun fr σ => c53_16 run fu s2 (G fr 0) (G fr 1) (G fr 5) (G fr 6) (G fr 7) (G fr 8) σ))) (.seq .leaf (.cond .leaf (.seq .leaf (.cond .leaf (.seq .leaf (.cond .leaf (.seq (.seq .leaf (.cond .leaf .leaf)) (.sub (fun fr σ => c53_17 run fu s2 (G fr 0) (G fr 1) (G fr 5) (G fr 6) (G fr 7) (G fr 8) (G fr 9) (G fr 39) (G fr 60) σ))))))))))))))) (.sub (fun fr σ => c53_11 run fu s2 (G fr 0) (G fr 1) (G fr 5) (G fr 6) (G fr 7) (G fr 8) (G fr 9) σ)))))) (subC [true, true, true, true, true, true, true, true, true, false, false, false] b53) (frS 0 335 [(0, x0), (1, x1), (5, x5), (6, x6), (7, x7), (8, x8)]) σ (thenK (fun fr σ => s2 (G fr 0) (G fr 1) (G fr 5) (G fr 6) (G fr 7) (G fr 8) σ) failK) = c53_2x run fu s2 x0 x1 x5 x6 x7 x8 σ := by kernel_rfl

theorem owed53_2x {run : RunT} (hrun : RunOK X0 run) (fu : Nat) (s2 : W6) : Owes X0 run 335 (.seq (.seq .leaf (.cond .leaf .leaf)) (.block (.seq .leaf (.seq (.seq .leaf (.block (.seq .leaf (.cond .leaf (.seq .leaf (.cond (.seq (.seq .leaf (.cond (.seq .leaf .leaf) .leaf)) (.sub (fun fr σ => c53_16 run fu s2 (G fr 0) (G fr 1) (G fr 5) (G fr 6) (G fr 7) (G fr 8) σ))) (.seq .leaf (.cond .leaf (.seq .leaf (.cond .leaf (.seq .leaf (.cond .leaf (.seq (.seq .leaf (.cond .leaf .leaf)) (.sub (fun fr σ => c53_17 run fu s2 (G fr 0) (G fr 1) (G fr 5) (G fr 6) (G fr 7) (G fr 8) (G fr 9) (G fr 39) (G fr 60) σ))))))))))))))) (.sub (fun fr σ => c53_11 run fu s2 (G fr 0) (G fr 1) (G fr 5) (G fr 6) (G fr 7) (G fr 8) (G fr 9) σ)))))) (subC [true, true, true, true, true, true, true, true, true, false, false, false] b53) (thenK (fun fr σ => s2 (G fr 0) (G fr 1) (G fr 5) (G fr 6) (G fr 7) (G fr 8) σ) failK) :=
  ⟨⟨trivial, ⟨trivial, trivial⟩⟩, ⟨trivial, ⟨⟨trivial, ⟨trivial, ⟨trivial, ⟨trivial, ⟨⟨⟨trivial, ⟨⟨trivial, trivial⟩, trivial⟩⟩, (ok53_16 hrun fu s2)⟩, ⟨trivial, ⟨trivial, ⟨trivial, ⟨trivial, ⟨trivial, ⟨trivial, ⟨⟨trivial, ⟨trivial, trivial⟩⟩, (ok53_17 hrun fu s2)⟩⟩⟩⟩⟩⟩⟩⟩⟩⟩⟩⟩, (ok53_11 hrun fu s2)⟩⟩⟩

noncomputable def c53_2s (run : RunT) (fu : Nat) : Nat → List AV → Store → Tr R :=
  sweepU (planOf none 1 5 [] [] [] []) (fun s2 xs σ => c53_2b run fu (fun y0 y1 y5 y6 y7 y8 σ => s2 [y0, y1, y5, y6, y7, y8] σ) (xs.getD 0 .any) (xs.getD 1 .any) (xs.getD 2 .any) (xs.getD 3 .any) (xs.getD 4 .any) (xs.getD 5 .any) σ) (fun s2 xs σ => c53_2x run fu (fun y0 y1 y5 y6 y7 y8 σ => s2 [y0, y1, y5, y6, y7, y8] σ) (xs.getD 0 .any) (xs.getD 1 .any) (xs.getD 2 .any) (xs.getD 3 .any) (xs.getD 4 .any) (xs.getD 5 .any) σ)

theorem ok53_2s {run : RunT} (hrun : RunOK X0 run) (fu : Nat) : ∀ fr σ, KOK X0 335 (subC [true, true, true, true, true, true, true, true, true, false, false] b53) fr σ ((fun fr σ => c53_2s run fu fu [fr.getD 0 .any, fr.getD 1 .any, fr.getD 5 .any, fr.getD 6 .any, fr.getD 7 .any, fr.getD 8 .any] σ) fr σ) (blockK 0 (thenK (fun fr σ => c53_1 run fu (G fr 0) (G fr 1) σ) k53)) := by
  have h := KOK.sweep (X := X0) (N := 335) (b := (subC [true, true, true, true, true, true, true, true, true, false, false, false] b53)) (k := (blockK 0 (thenK (fun fr σ => c53_1 run fu (G fr 0) (G fr 1) σ) k53))) (js := [0, 1, 5, 6, 7, 8]) (body := (fun s2 xs σ => c53_2b run fu (fun y0 y1 y5 y6 y7 y8 σ => s2 [y0, y1, y5, y6, y7, y8] σ) (xs.getD 0 .any) (xs.getD 1 .any) (xs.getD 2 .any) (xs.getD 3 .any) (xs.getD 4 .any) (xs.getD 5 .any) σ)) (bodyx := (fun s2 xs σ => c53_2x run fu (fun y0 y1 y5 y6 y7 y8 σ => s2 [y0, y1, y5, y6, y7, y8] σ) (xs.getD 0 .any) (xs.getD 1 .any) (xs.getD 2 .any) (xs.getD 3 .any) (xs.getD 4 .any) (xs.getD 5 .any) σ)) rfl (planOf none 1 5 [] [] [] []) (fun s2 fr σ => KOK.piece env0 hrun [0, 1, 5, 6, 7, 8] (eq53_2 run fu (fun y0 y1 y5 y6 y7 y8 σ => s2 [y0, y1, y5, y6, y7, y8] σ) (G fr 0) (G fr 1) (G fr 5) (G fr 6) (G fr 7) (G fr 8) σ) (owed53_2 hrun fu (fun y0 y1 y5 y6 y7 y8 σ => s2 [y0, y1, y5, y6, y7, y8] σ))) (fun s2 fr σ => KOK.piece env0 hrun [0, 1, 5, 6, 7, 8] (eq53_2x run fu (fun y0 y1 y5 y6 y7 y8 σ => s2 [y0, y1, y5, y6, y7, y8] σ) (G fr 0) (G fr 1) (G fr 5) (G fr 6) (G fr 7) (G fr 8) σ) (owed53_2x hrun fu (fun y0 y1 y5 y6 y7 y8 σ => s2 [y0, y1, y5, y6, y7, y8] σ)))
  exact fun fr σ => h fu fr σ

noncomputable def c53 (run : RunT) (fu : Nat) (x0 x1 : AV) (σ : Store) : Tr R :=
  calK run 60 [x1] σ fun x22 σ1 =>
  nchkK x0 fun x25 =>
  addrK x25 7 fun x26 =>
  st1K σ1 x26 x22 fun _ σ2 =>
  nchkK x0 fun x28 =>
  addrK x28 9 fun x29 =>
  st1K σ2 x29 .nils fun _ σ3 =>
  nchkK x0 fun x31 =>
  addrK x31 8 fun x32 =>
  st1K σ3 x32 (.int .i64 0) fun _ σ4 =>
  c53_2s run fu fu [x0, x22, .nils, (.int .i64 0), (.bool false), (.int .i64 0)] σ4

theorem eq53 (run : RunT) (fu : Nat) (x0 x1 : AV) (σ : Store) : codeK X0 run (.seq .leaf (.seq .leaf (.seq .leaf (.seq .leaf (.seq .leaf (.seq .leaf (.seq .leaf (.seq .leaf (.seq .leaf (.seq (.block (.sub (fun fr σ => c53_2s run fu fu [fr.getD 0 .any, fr.getD 1 .any, fr.getD 5 .any, fr.getD 6 .any, fr.getD 7 .any, fr.getD 8 .any] σ))) (.sub (fun fr σ => c53_1 run fu (G fr 0) (G fr 1) σ)))))))))))) (subC [] b53) ([x0, x1] ++ padA (335 - 2)) σ k53 = c53 run fu x0 x1 σ := by kernel_rfl

theorem ok53 {run : RunT} (hrun : RunOK X0 run) (fu : Nat) (x0 x1 : AV) (σ : Store) : CallOK X0 53 [x0, x1] σ (c53 run fu x0 x1 σ) :=
  KOK.body (fn := Tryz.f53) (c := subC [] b53) (by kernel_rfl) (by kernel_rfl) (by show 2 ≤ 335; decide) (KOK.whole env0 hrun (eq53 run fu x0 x1 σ) ⟨trivial, ⟨trivial, ⟨trivial, ⟨trivial, ⟨trivial, ⟨trivial, ⟨trivial, ⟨trivial, ⟨trivial, ⟨(ok53_2s hrun fu), (ok53_1 hrun fu)⟩⟩⟩⟩⟩⟩⟩⟩⟩⟩)

-- (*pub-paratext/pub/rscmarkdown.line).isBlank

noncomputable def b56 : Code := match Tryz.f56.body with | some c => c | none => .skip

noncomputable def k56 : Kont R := retK Tryz.prog [.tmp 2]

noncomputable def c56 (run : RunT) (fu : Nat) (x0 : AV) (σ : Store) : Tr R :=
  nchkK x0 fun x4 =>
  addrK x4 3 fun x5 =>
  ld1K σ x5 fun x6 =>
  nchkK x0 fun x8 =>
  addrK x8 1 fun x9 =>
  ld1K σ x9 fun x10 =>
  sliceSK x6 (some x10) none fun x11 =>
  calK run 80 [x11] σ fun x12 σ1 =>
  eqSK x12 (.str []) fun x13 =>
  .ret (x13, σ1)

theorem eq56 (run : RunT) (fu : Nat) (x0 : AV) (σ : Store) : codeK X0 run (.seq .leaf (.seq .leaf .leaf)) (subC [] b56) ([x0] ++ padA (14 - 1)) σ k56 = c56 run fu x0 σ := by kernel_rfl

theorem ok56 {run : RunT} (hrun : RunOK X0 run) (fu : Nat) (x0 : AV) (σ : Store) : CallOK X0 56 [x0] σ (c56 run fu x0 σ) :=
  KOK.body (fn := Tryz.f56) (c := subC [] b56) (by kernel_rfl) (by kernel_rfl) (by show 1 ≤ 14; decide) (KOK.whole env0 hrun (eq56 run fu x0 σ) ⟨trivial, ⟨trivial, trivial⟩⟩)

-- pub-paratext/pub/rscmarkdown.news

noncomputable def b57 : Code := match Tryz.f57.body with | some c => c | none => .skip

noncomputable def k57 : Kont R := retK Tryz.prog [.tmp 0]

noncomputable def c57 (run : RunT) (fu : Nat) (σ : Store) : Tr R :=
  opt (fillK [.nilf, .nilf, .nilf, .nilf, .nilf, .nilf, .nilf, .nilf] [(0, 1, (.fn (.func 81) [] [])), (1, 1, (.fn (.func 82) [] [])), (2, 1, (.fn (.func 83) [] [])), (3, 1, (.fn (.func 84) [] [])), (4, 1, (.fn (.func 85) [] [])), (5, 1, (.fn (.func 86) [] [])), (6, 1, (.fn (.func 87) [] [])), (7, 1, (.fn (.func 88) [] []))]) fun cs => newSK σ 237 cs 8 1 fun x1 σ1 =>
  .ret (x1, σ1)

theorem eq57 (run : RunT) (fu : Nat) (σ : Store) : codeK X0 run (.seq .leaf (.seq .leaf .leaf)) (subC [] b57) ([] ++ padA (2 - 0)) σ k57 = c57 run fu σ := by kernel_rfl

theorem ok57 {run : RunT} (hrun : RunOK X0 run) (fu : Nat) (σ : Store) : CallOK X0 57 [] σ (c57 run fu σ) :=
  KOK.body (fn := Tryz.f57) (c := subC [] b57) (by kernel_rfl) (by kernel_rfl) (by show 0 ≤ 2; decide) (KOK.whole env0 hrun (eq57 run fu σ) ⟨trivial, ⟨trivial, trivial⟩⟩)

-- pub-paratext/pub/rscmarkdown.newPara

noncomputable def b58 : Code := match Tryz.f58.body with | some c => c | none => .skip

noncomputable def k58 : Kont R := retK Tryz.prog [.cell 4 100, .tmp 5]

noncomputable def c58_2 (run : RunT) (fu : Nat) (x4 x6 x8 : AV) (σ : Store) : Tr R :=
  nchkK x6 fun x166 =>
  addrK x166 0 fun x167 =>
  ld1K σ x167 fun x168 =>
  opt (fillK [(.str [])] [(0, 1, x8)]) fun cs => newSK σ 19 cs 1 1 fun x170 σ1 =>
  appK 9 1 16 σ1 x168 x170 fun x171 σ2 =>
  nchkK x6 fun x172 =>
  addrK x172 0 fun x173 =>
  st1K σ2 x173 x171 fun _ σ3 =>
  bldK [(.int .i64 0), (.int .i64 0), (.int .i64 0), (.str []), (.int .u8 0)] [] fun x174 =>
  stNK σ3 x4 5 x174 fun _ σ4 =>
  ldNK σ4 x4 5 fun v5 =>
  .ret (.tup [v5, (.bool true)], σ4)

theorem eq58_2 (run : RunT) (fu : Nat) (x4 x6 x8 : AV) (σ : Store) : codeK X0 run (.seq .leaf (.seq .leaf .leaf)) (subC [true, true, true, true, true, true, true] b58) (frS 0 175 [(4, x4), (6, x6), (8, x8)]) σ k58 = c58_2 run fu x4 x6 x8 σ := by kernel_rfl

theorem ok58_2 {run : RunT} (hrun : RunOK X0 run) (fu : Nat) : ∀ fr σ, KOK X0 175 (subC [true, true, true, true, true, true, true] b58) fr σ ((fun fr σ => c58_2 run fu (G fr 4) (G fr 6) (G fr 8) σ) fr σ) k58 := fun fr σ =>
  KOK.piece env0 hrun [4, 6, 8] (eq58_2 run fu (G fr 4) (G fr 6) (G fr 8) σ) ⟨trivial, ⟨trivial, trivial⟩⟩

noncomputable def c58_3b (run : RunT) (fu : Nat) (s3 : W5) (x0 x4 x6 x8 x11 : AV) (σ : Store) : Tr R :=
  nchkK x0 fun x140 =>
  addrK x140 4 fun x141 =>
  ld1K σ x141 fun x142 =>
  lenLK x142 fun x143 =>
  cmpK .lss x11 x143 fun x144 =>
  ifK x144 (
  nchkK x0 fun x148 =>
  addrK x148 4 fun x149 =>
  ld1K σ x149 fun x150 =>
  nchkK x0 fun x153 =>
  addrK x153 3 fun x154 =>
  ld1K σ x154 fun x155 =>
  idxK 4 x150 x11 fun x156 =>
  addrK x156 2 fun x157 =>
  addrK x157 1 fun x158 =>
  st1K σ x158 x155 fun _ σ1 =>
  addK x11 (.int .i64 1) fun x146 =>
  s3 x0 x4 x6 x8 x146 σ1) (
  c58_2 run fu x4 x6 x8 σ)

noncomputable def c58_3 (run : RunT) (fu : Nat) : Nat → W5
  | 0 => fun _ _ _ _ _ _ => .fail
  | m + 1 => c58_3b run fu (c58_3 run fu m)

theorem eq58_3 (run : RunT) (fu : Nat) (s3 : W5) (x0 x4 x6 x8 x11 : AV) (σ : Store) : codeK X0 run (.seq (.seq .leaf (.cond .leaf .leaf)) (.seq (.block .leaf) .leaf)) (subC [true, true, true, true, true, true, false, true, false, true, false, false] b58) (frS 0 175 [(0, x0), (4, x4), (6, x6), (8, x8), (11, x11)]) σ (thenK (fun fr σ => s3 (G fr 0) (G fr 4) (G fr 6) (G fr 8) (G fr 11) σ) (blockK 0 (thenK (fun fr σ => c58_2 run fu (G fr 4) (G fr 6) (G fr 8) σ) k58))) = c58_3b run fu s3 x0 x4 x6 x8 x11 σ := by kernel_rfl

theorem owed58_3 {run : RunT} (hrun : RunOK X0 run) (fu : Nat) (s3 : W5) : Owes X0 run 175 (.seq (.seq .leaf (.cond .leaf .leaf)) (.seq (.block .leaf) .leaf)) (subC [true, true, true, true, true, true, false, true, false, true, false, false] b58) (thenK (fun fr σ => s3 (G fr 0) (G fr 4) (G fr 6) (G fr 8) (G fr 11) σ) (blockK 0 (thenK (fun fr σ => c58_2 run fu (G fr 4) (G fr 6) (G fr 8) σ) k58))) :=
  ⟨⟨trivial, ⟨trivial, trivial⟩⟩, ⟨trivial, trivial⟩⟩

theorem ok58_3 {run : RunT} (hrun : RunOK X0 run) (fu : Nat) : ∀ fr σ, KOK X0 175 (subC [true, true, true, true, true, true, false, true, false, true, false] b58) fr σ ((fun fr σ => c58_3 run fu fu (G fr 0) (G fr 4) (G fr 6) (G fr 8) (G fr 11) σ) fr σ) (blockK 0 (thenK (fun fr σ => c58_2 run fu (G fr 4) (G fr 6) (G fr 8) σ) k58)) := by
  have h := KOK.loop (X := X0) (N := 175) (b := (subC [true, true, true, true, true, true, false, true, false, true, false, false] b58)) (k := (blockK 0 (thenK (fun fr σ => c58_2 run fu (G fr 4) (G fr 6) (G fr 8) σ) k58))) (u := fun m fr σ => c58_3 run fu m (G fr 0) (G fr 4) (G fr 6) (G fr 8) (G fr 11) σ) (fun _ _ => rfl) (fun m fr σ => KOK.piece env0 hrun [0, 4, 6, 8, 11] (eq58_3 run fu (c58_3 run fu m) (G fr 0) (G fr 4) (G fr 6) (G fr 8) (G fr 11) σ) (owed58_3 hrun fu (c58_3 run fu m)))
  exact fun fr σ => h fu fr σ

noncomputable def c58_1 (run : RunT) (fu : Nat) (x0 x4 x6 x7 x8 : AV) (σ : Store) : Tr R :=
  nchkK x0 fun x52 =>
  addrK x52 0 fun x53 =>
  ld1K σ x53 fun x54 =>
  nchkK x54 fun x55 =>
  addrK x55 5 fun x56 =>
  ld1K σ x56 fun x57 =>
  grdK x57 true σ (fun f => f x6 σ) fun x59 σ1 =>
  grdK x57 true σ1 (fun f => neOK (nilEq nilP) x59 .nilp fun v => f v σ1) fun x60 σ2 =>
  pickK x57 x60 (.bool false) fun x61 =>
  grdK x61 true σ2 (fun f => f x7 σ2) fun x63 σ3 =>
  pickK x61 x63 (.bool false) fun x64 =>
  grdK x64 true σ3 (fun f => f x6 σ3) fun x66 σ4 =>
  grdK x64 true σ4 (fun f => nchkK x66 fun v => f v σ4) fun x67 σ5 =>
  grdK x64 true σ5 (fun f => addrK x67 0 fun v => f v σ5) fun x68 σ6 =>
  grdK x64 true σ6 (fun f => ld1K σ6 x68 fun v => f v σ6) fun x69 σ7 =>
  grdK x64 true σ7 (fun f => lenLK x69 fun v => f v σ7) fun x70 σ8 =>
  grdK x64 true σ8 (fun f => cmpK .gtr x70 (.int .i64 0) fun v => f v σ8) fun x71 σ9 =>
  pickK x64 x71 (.bool false) fun x72 =>
  grdK x72 true σ9 (fun f => f x6 σ9) fun x74 σ10 =>
  grdK x72 true σ10 (fun f => nchkK x74 fun v => f v σ10) fun x75 σ11 =>
  grdK x72 true σ11 (fun f => addrK x75 0 fun v => f v σ11) fun x76 σ12 =>
  grdK x72 true σ12 (fun f => ld1K σ12 x76 fun v => f v σ12) fun x77 σ13 =>
  grdK x72 true σ13 (fun f => f x6 σ13) fun x78 σ14 =>
  grdK x72 true σ14 (fun f => nchkK x78 fun v => f v σ14) fun x79 σ15 =>
  grdK x72 true σ15 (fun f => addrK x79 0 fun v => f v σ15) fun x80 σ16 =>
  grdK x72 true σ16 (fun f => ld1K σ16 x80 fun v => f v σ16) fun x81 σ17 =>
  grdK x72 true σ17 (fun f => lenLK x81 fun v => f v σ17) fun x82 σ18 =>
  grdK x72 true σ18 (fun f => subK x82 (.int .i64 1) fun v => f v σ18) fun x83 σ19 =>
  grdK x72 true σ19 (fun f => idxK 1 x77 x83 fun v => f v σ19) fun x84 σ20 =>
  grdK x72 true σ20 (fun f => ld1K σ20 x84 fun v => f v σ20) fun x85 σ21 =>
  grdK x72 true σ21 (fun f => f x8 σ21) fun x86 σ22 =>
  grdK x72 true σ22 (fun f => calK run 92 [x85, x86] σ22 f) fun x87 σ23 =>
  pickK x72 x87 (.bool false) fun x88 =>
  ifK x88 (
  nchkK x6 fun x90 =>
  addrK x90 0 fun x91 =>
  ld1K σ23 x91 fun x92 =>
  nchkK x6 fun x94 =>
  addrK x94 0 fun x95 =>
  ld1K σ23 x95 fun x96 =>
  lenLK x96 fun x97 =>
  subK x97 (.int .i64 1) fun x98 =>
  idxK 1 x92 x98 fun x99 =>
  ld1K σ23 x99 fun x100 =>
  nchkK x6 fun x103 =>
  addrK x103 0 fun x104 =>
  ld1K σ23 x104 fun x105 =>
  nchkK x6 fun x107 =>
  addrK x107 0 fun x108 =>
  ld1K σ23 x108 fun x109 =>
  lenLK x109 fun x110 =>
  subK x110 (.int .i64 1) fun x111 =>
  sliceLK Tryz.prog σ23 158 x105 none (some x111) fun x112 =>
  nchkK x6 fun x113 =>
  addrK x113 0 fun x114 =>
  st1K σ23 x114 x112 fun _ σ24 =>
  newK σ24 323 [.nils, .nilp] fun x115 σ25 =>
  calK run 49 [x0, (.iface 156 x115)] σ25 fun x119 σ26 =>
  newK σ26 333 [(.str []), (.str []), .nils] fun x121 σ27 =>
  nchkK x115 fun x122 =>
  addrK x122 1 fun x123 =>
  st1K σ27 x123 x121 fun _ σ28 =>
  nchkK x115 fun x125 =>
  addrK x125 1 fun x126 =>
  ld1K σ28 x126 fun x127 =>
  calK run 93 [x127, x100, x8] σ28 fun x130 σ29 =>
  bldK [(.int .i64 0), (.int .i64 0), (.int .i64 0), (.str []), (.int .u8 0)] [] fun x131 =>
  stNK σ29 x4 5 x131 fun _ σ30 =>
  ldNK σ30 x4 5 fun v31 =>
  .ret (.tup [v31, (.bool true)], σ30)) (
  neOK (nilEq nilP) x6 .nilp fun x133 =>
  ifK x133 (
  nchkK x0 fun x135 =>
  addrK x135 5 fun x136 =>
  ld1K σ23 x136 fun x137 =>
  c58_3 run fu fu x0 x4 x6 x8 x137 σ23) (
  newK σ23 323 [.nils, .nilp] fun x159 σ32 =>
  calK run 49 [x0, (.iface 156 x159)] σ32 fun x163 σ33 =>
  c58_2 run fu x4 x159 x8 σ33))

theorem eq58_1 (run : RunT) (fu : Nat) (x0 x4 x6 x7 x8 : AV) (σ : Store) : codeK X0 run (.seq (.seq .leaf (.cond (.seq .leaf (.seq .leaf (.seq .leaf (.seq .leaf (.seq .leaf (.seq .leaf (.seq .leaf .leaf))))))) .leaf)) (.seq (.seq .leaf (.cond (.seq .leaf (.block (.sub (fun fr σ => c58_3 run fu fu (G fr 0) (G fr 4) (G fr 6) (G fr 8) (G fr 11) σ)))) (.seq .leaf .leaf))) (.sub (fun fr σ => c58_2 run fu (G fr 4) (G fr 6) (G fr 8) σ)))) (subC [true, true, true, true, true] b58) (frS 0 175 [(0, x0), (4, x4), (6, x6), (7, x7), (8, x8)]) σ k58 = c58_1 run fu x0 x4 x6 x7 x8 σ := by kernel_rfl

theorem ok58_1 {run : RunT} (hrun : RunOK X0 run) (fu : Nat) : ∀ fr σ, KOK X0 175 (subC [true, true, true, true, true] b58) fr σ ((fun fr σ => c58_1 run fu (G fr 0) (G fr 4) (G fr 6) (G fr 7) (G fr 8) σ) fr σ) k58 := fun fr σ =>
  KOK.piece env0 hrun [0, 4, 6, 7, 8] (eq58_1 run fu (G fr 0) (G fr 4) (G fr 6) (G fr 7) (G fr 8) σ) ⟨⟨trivial, ⟨⟨trivial, ⟨trivial, ⟨trivial, ⟨trivial, ⟨trivial, ⟨trivial, ⟨trivial, trivial⟩⟩⟩⟩⟩⟩⟩, trivial⟩⟩, ⟨⟨trivial, ⟨⟨trivial, (ok58_3 hrun fu)⟩, ⟨trivial, trivial⟩⟩⟩, (ok58_2 hrun fu)⟩⟩

noncomputable def c58 (run : RunT) (fu : Nat) (x0 x1 : AV) (σ : Store) : Tr R :=
  boxK σ 201 x1 fun x3 σ1 =>
  newK σ1 201 [(.int .i64 0), (.int .i64 0), (.int .i64 0), (.str []), (.int .u8 0)] fun x4 σ2 =>
  calK run 89 [x0] σ2 fun x13 σ3 =>
  nchkK x0 fun x15 =>
  addrK x15 5 fun x16 =>
  ld1K σ3 x16 fun x17 =>
  nchkK x0 fun x19 =>
  addrK x19 4 fun x20 =>
  ld1K σ3 x20 fun x21 =>
  lenLK x21 fun x22 =>
  subK x22 (.int .i64 2) fun x23 =>
  cmpK .eql x17 x23 fun x24 =>
  calK run 90 [x3] σ3 fun x25 σ4 =>
  neOK (nilEq nilP) x13 .nilp fun x27 =>
  grdK x27 true σ4 (fun f => f x13 σ4) fun x29 σ5 =>
  grdK x27 true σ5 (fun f => nchkK x29 fun v => f v σ5) fun x30 σ6 =>
  grdK x27 true σ6 (fun f => addrK x30 1 fun v => f v σ6) fun x31 σ7 =>
  grdK x27 true σ7 (fun f => ld1K σ7 x31 fun v => f v σ7) fun x32 σ8 =>
  grdK x27 true σ8 (fun f => neOK (nilEq nilP) x32 .nilp fun v => f v σ8) fun x33 σ9 =>
  pickK x27 x33 (.bool false) fun x34 =>
  ifK x34 (
  grdK x24 true σ9 (fun f => f x25 σ9) fun x37 σ10 =>
  grdK x24 true σ10 (fun f => neSK x37 (.str []) fun v => f v σ10) fun x38 σ11 =>
  pickK x24 x38 (.bool false) fun x39 =>
  grdK x39 true σ11 (fun f => f x25 σ11) fun x41 σ12 =>
  grdK x39 true σ12 (fun f => neSK x41 (.str [124]) fun v => f v σ12) fun x42 σ13 =>
  pickK x39 x42 (.bool false) fun x43 =>
  ifK x43 (
  nchkK x13 fun x45 =>
  addrK x45 1 fun x46 =>
  ld1K σ13 x46 fun x47 =>
  calK run 91 [x47, x25] σ13 fun x49 σ14 =>
  bldK [(.int .i64 0), (.int .i64 0), (.int .i64 0), (.str []), (.int .u8 0)] [] fun x50 =>
  stNK σ14 x4 5 x50 fun _ σ15 =>
  ldNK σ15 x4 5 fun v16 =>
  .ret (.tup [v16, (.bool true)], σ15)) (
  c58_1 run fu x0 x4 .nilp x24 x25 σ13)) (
  c58_1 run fu x0 x4 x13 x24 x25 σ9)

theorem eq58 (run : RunT) (fu : Nat) (x0 x1 : AV) (σ : Store) : codeK X0 run (.seq .leaf (.seq .leaf (.seq .leaf (.seq .leaf (.seq (.seq .leaf (.cond (.seq (.seq .leaf (.cond (.seq .leaf (.seq .leaf .leaf)) .leaf)) .leaf) .leaf)) (.sub (fun fr σ => c58_1 run fu (G fr 0) (G fr 4) (G fr 6) (G fr 7) (G fr 8) σ))))))) (subC [] b58) ([x0, x1] ++ padA (175 - 2)) σ k58 = c58 run fu x0 x1 σ := by kernel_rfl

theorem ok58 {run : RunT} (hrun : RunOK X0 run) (fu : Nat) (x0 x1 : AV) (σ : Store) : CallOK X0 58 [x0, x1] σ (c58 run fu x0 x1 σ) :=
  KOK.body (fn := Tryz.f58) (c := subC [] b58) (by kernel_rfl) (by kernel_rfl) (by show 2 ≤ 175; decide) (KOK.whole env0 hrun (eq58 run fu x0 x1 σ) ⟨trivial, ⟨trivial, ⟨trivial, ⟨trivial, ⟨⟨trivial, ⟨⟨⟨trivial, ⟨⟨trivial, ⟨trivial, trivial⟩⟩, trivial⟩⟩, trivial⟩, trivial⟩⟩, (ok58_1 hrun fu)⟩⟩⟩⟩⟩)

-- (*pub-paratext/pub/rscmarkdown.parseState).closeBlock

noncomputable def b59 : Code := match Tryz.f59.body with | some c => c | none => .skip

noncomputable def k59 : Kont R := retK Tryz.prog [.tmp 2]

noncomputable def c59_3 (run : RunT) (fu : Nat) (x4 : AV) (σ : Store) : Tr R :=
  .ret (x4, σ)

theorem eq59_3 (run : RunT) (fu : Nat) (x4 : AV) (σ : Store) : codeK X0 run (.seq .leaf .leaf) (subC [true, true, true, true, true, true, true] b59) (frS 0 118 [(4, x4)]) σ k59 = c59_3 run fu x4 σ := by kernel_rfl

theorem ok59_3 {run : RunT} (hrun : RunOK X0 run) (fu : Nat) : ∀ fr σ, KOK X0 118 (subC [true, true, true, true, true, true, true] b59) fr σ ((fun fr σ => c59_3 run fu (G fr 4) σ) fr σ) k59 := fun fr σ =>
  KOK.piece env0 hrun [4] (eq59_3 run fu (G fr 4) σ) ⟨trivial, trivial⟩

noncomputable def c59_2 (run : RunT) (fu : Nat) (x0 x4 : AV) (σ : Store) : Tr R :=
  nchkK x0 fun x73 =>
  addrK x73 4 fun x74 =>
  ld1K σ x74 fun x75 =>
  nchkK x0 fun x77 =>
  addrK x77 4 fun x78 =>
  ld1K σ x78 fun x79 =>
  lenLK x79 fun x80 =>
  subK x80 (.int .i64 1) fun x81 =>
  sliceLK Tryz.prog σ 83 x75 none (some x81) fun x82 =>
  nchkK x0 fun x83 =>
  addrK x83 4 fun x84 =>
  st1K σ x84 x82 fun _ σ1 =>
  nchkK x0 fun x86 =>
  addrK x86 4 fun x87 =>
  ld1K σ1 x87 fun x88 =>
  lenLK x88 fun x89 =>
  cmpK .gtr x89 (.int .i64 0) fun x90 =>
  ifK x90 (
  nchkK x0 fun x92 =>
  addrK x92 4 fun x93 =>
  ld1K σ1 x93 fun x94 =>
  nchkK x0 fun x96 =>
  addrK x96 4 fun x97 =>
  ld1K σ1 x97 fun x98 =>
  lenLK x98 fun x99 =>
  subK x99 (.int .i64 1) fun x100 =>
  idxK 4 x94 x100 fun x101 =>
  nchkK x101 fun x104 =>
  addrK x104 1 fun x105 =>
  ld1K σ1 x105 fun x106 =>
  opt (fillK [.nili] [(0, 1, x4)]) fun cs => newSK σ1 127 cs 1 1 fun x108 σ2 =>
  appK 63 1 16 σ2 x106 x108 fun x109 σ3 =>
  nchkK x101 fun x110 =>
  addrK x110 1 fun x111 =>
  st1K σ3 x111 x109 fun _ σ4 =>
  c59_3 run fu x4 σ4) (
  tasK (some .nilp) 48 false x4 fun x114 =>
  nchkK x0 fun x115 =>
  addrK x115 1 fun x116 =>
  st1K σ1 x116 x114 fun _ σ5 =>
  c59_3 run fu x4 σ5)

theorem eq59_2 (run : RunT) (fu : Nat) (x0 x4 : AV) (σ : Store) : codeK X0 run (.seq .leaf (.seq (.seq .leaf (.cond (.seq .leaf .leaf) .leaf)) (.sub (fun fr σ => c59_3 run fu (G fr 4) σ)))) (subC [true, true, true, true, true] b59) (frS 0 118 [(0, x0), (4, x4)]) σ k59 = c59_2 run fu x0 x4 σ := by kernel_rfl

theorem ok59_2 {run : RunT} (hrun : RunOK X0 run) (fu : Nat) : ∀ fr σ, KOK X0 118 (subC [true, true, true, true, true] b59) fr σ ((fun fr σ => c59_2 run fu (G fr 0) (G fr 4) σ) fr σ) k59 := fun fr σ =>
  KOK.piece env0 hrun [0, 4] (eq59_2 run fu (G fr 0) (G fr 4) σ) ⟨trivial, ⟨⟨trivial, ⟨⟨trivial, trivial⟩, trivial⟩⟩, (ok59_3 hrun fu)⟩⟩

noncomputable def c59_1 (run : RunT) (fu : Nat) (x0 x3 : AV) (σ : Store) : Tr R :=
  nchkK x3 fun x31 =>
  addrK x31 0 fun x32 =>
  ld1K σ x32 fun x33 =>
  invK X0 run x33 "pub-paratext/pub/rscmarkdown.build" [(.iface 110 x0)] σ fun x36 σ1 =>
  tasK (some .nilp) 107 true x36 fun x39 =>
  extK x39 0 fun x40 =>
  extK x39 1 fun x41 =>
  ifK x41 (
  nchkK x0 fun x45 =>
  addrK x45 6 fun x46 =>
  ld1K σ1 x46 fun x47 =>
  grdK x47 false σ1 (fun f => f x40 σ1) fun x49 σ2 =>
  grdK x47 false σ2 (fun f => calK run 94 [x49] σ2 f) fun x50 σ3 =>
  pickK x47 (.bool true) x50 fun x51 =>
  nchkK x0 fun x52 =>
  addrK x52 6 fun x53 =>
  st1K σ3 x53 x51 fun _ σ4 =>
  nchkK x0 fun x55 =>
  addrK x55 0 fun x56 =>
  ld1K σ4 x56 fun x57 =>
  nchkK x57 fun x58 =>
  addrK x58 2 fun x59 =>
  ld1K σ4 x59 fun x60 =>
  ifK x60 (
  nchkK x0 fun x63 =>
  addrK x63 10 fun x64 =>
  ld1K σ4 x64 fun x65 =>
  opt (fillK [.nilp] [(0, 1, x40)]) fun cs => newSK σ4 215 cs 1 1 fun x67 σ5 =>
  appK 107 1 8 σ5 x65 x67 fun x68 σ6 =>
  nchkK x0 fun x69 =>
  addrK x69 10 fun x70 =>
  st1K σ6 x70 x68 fun _ σ7 =>
  c59_2 run fu x0 x36 σ7) (
  c59_2 run fu x0 x36 σ4)) (
  c59_2 run fu x0 x36 σ1)

theorem eq59_1 (run : RunT) (fu : Nat) (x0 x3 : AV) (σ : Store) : codeK X0 run (.seq .leaf (.seq (.seq .leaf (.seq .leaf (.cond (.seq .leaf (.seq .leaf (.cond .leaf .leaf))) .leaf))) (.sub (fun fr σ => c59_2 run fu (G fr 0) (G fr 4) σ)))) (subC [true, true, true] b59) (frS 0 118 [(0, x0), (3, x3)]) σ k59 = c59_1 run fu x0 x3 σ := by kernel_rfl

theorem ok59_1 {run : RunT} (hrun : RunOK X0 run) (fu : Nat) : ∀ fr σ, KOK X0 118 (subC [true, true, true] b59) fr σ ((fun fr σ => c59_1 run fu (G fr 0) (G fr 3) σ) fr σ) k59 := fun fr σ =>
  KOK.piece env0 hrun [0, 3] (eq59_1 run fu (G fr 0) (G fr 3) σ) ⟨trivial, ⟨⟨trivial, ⟨trivial, ⟨⟨trivial, ⟨trivial, ⟨trivial, trivial⟩⟩⟩, trivial⟩⟩⟩, (ok59_2 hrun fu)⟩⟩

noncomputable def c59 (run : RunT) (fu : Nat) (x0 : AV) (σ : Store) : Tr R :=
  nchkK x0 fun x9 =>
  addrK x9 4 fun x10 =>
  ld1K σ x10 fun x11 =>
  nchkK x0 fun x13 =>
  addrK x13 4 fun x14 =>
  ld1K σ x14 fun x15 =>
  lenLK x15 fun x16 =>
  subK x16 (.int .i64 1) fun x17 =>
  idxK 4 x11 x17 fun x18 =>
  nchkK x18 fun x20 =>
  addrK x20 0 fun x21 =>
  ld1K σ x21 fun x22 =>
  eqOK (eqIfc Tryz.prog true) x22 .nili fun x23 =>
  ifK x23 (
  nchkK x0 fun x25 =>
  addrK x25 4 fun x26 =>
  ld1K σ x26 fun x27 =>
  lenLK x27 fun x28 =>
  subK x28 (.int .i64 1) fun x29 =>
  .fail) (
  c59_1 run fu x0 x18 σ)

theorem eq59 (run : RunT) (fu : Nat) (x0 : AV) (σ : Store) : codeK X0 run (.seq .leaf (.seq .leaf (.seq (.seq .leaf (.cond .leaf .leaf)) (.sub (fun fr σ => c59_1 run fu (G fr 0) (G fr 3) σ))))) (subC [] b59) ([x0] ++ padA (118 - 1)) σ k59 = c59 run fu x0 σ := by kernel_rfl

theorem ok59 {run : RunT} (hrun : RunOK X0 run) (fu : Nat) (x0 : AV) (σ : Store) : CallOK X0 59 [x0] σ (c59 run fu x0 σ) :=
  KOK.body (fn := Tryz.f59) (c := subC [] b59) (by kernel_rfl) (by kernel_rfl) (by show 1 ≤ 118; decide) (KOK.whole env0 hrun (eq59 run fu x0 σ) ⟨trivial, ⟨trivial, ⟨⟨trivial, ⟨trivial, trivial⟩⟩, (ok59_1 hrun fu)⟩⟩⟩)

-- pub-paratext/pub/rscmarkdown.parseAutoLinkOrHTML

noncomputable def b64 : Code := match Tryz.f64.body with | some c => c | none => .skip

noncomputable def k64 : Kont R := retK Tryz.prog [.tmp 6, .tmp 7, .tmp 8, .tmp 9]

noncomputable def c64 (run : RunT) (fu : Nat) (x0 x1 x2 : AV) (σ : Store) : Tr R :=
  calK run 97 [x1, x2] σ fun x22 σ1 =>
  extK x22 0 fun x23 =>
  extK x22 1 fun x24 =>
  extK x22 2 fun x25 =>
  ifK x25 (
  .ret (.tup [x23, x2, x24, (.bool true)], σ1)) (
  calK run 98 [x1, x2] σ1 fun x33 σ2 =>
  extK x33 0 fun x34 =>
  extK x33 1 fun x35 =>
  extK x33 2 fun x36 =>
  ifK x36 (
  .ret (.tup [x34, x2, x35, (.bool true)], σ2)) (
  calK run 99 [x0, x1, x2] σ2 fun x45 σ3 =>
  extK x45 0 fun x46 =>
  extK x45 1 fun x47 =>
  extK x45 2 fun x48 =>
  ifK x48 (
  .ret (.tup [x46, x2, x47, (.bool true)], σ3)) (
  .ret (.tup [.nili, (.int .i64 0), (.int .i64 0), (.bool false)], σ3))))

theorem eq64 (run : RunT) (fu : Nat) (x0 x1 x2 : AV) (σ : Store) : codeK X0 run (.seq .leaf (.seq (.seq .leaf (.seq .leaf (.cond (.seq .leaf .leaf) .leaf))) (.seq (.seq .leaf (.seq .leaf (.cond (.seq .leaf .leaf) .leaf))) (.seq (.seq .leaf (.seq .leaf (.cond (.seq .leaf .leaf) .leaf))) (.seq .leaf .leaf))))) (subC [] b64) ([x0, x1, x2] ++ padA (53 - 3)) σ k64 = c64 run fu x0 x1 x2 σ := by kernel_rfl

theorem ok64 {run : RunT} (hrun : RunOK X0 run) (fu : Nat) (x0 x1 x2 : AV) (σ : Store) : CallOK X0 64 [x0, x1, x2] σ (c64 run fu x0 x1 x2 σ) :=
  KOK.body (fn := Tryz.f64) (c := subC [] b64) (by kernel_rfl) (by kernel_rfl) (by show 3 ≤ 53; decide) (KOK.whole env0 hrun (eq64 run fu x0 x1 x2 σ) ⟨trivial, ⟨⟨trivial, ⟨trivial, ⟨⟨trivial, trivial⟩, trivial⟩⟩⟩, ⟨⟨trivial, ⟨trivial, ⟨⟨trivial, trivial⟩, trivial⟩⟩⟩, ⟨⟨trivial, ⟨trivial, ⟨⟨trivial, trivial⟩, trivial⟩⟩⟩, ⟨trivial, trivial⟩⟩⟩⟩⟩)

-- (*pub-paratext/pub/rscmarkdown.parseState).emit

noncomputable def b73 : Code := match Tryz.f73.body with | some c => c | none => .skip

noncomputable def k73 : Kont R := retK Tryz.prog []

noncomputable def c73 (run : RunT) (fu : Nat) (x0 x1 : AV) (σ : Store) : Tr R :=
  nchkK x0 fun x5 =>
  addrK x5 8 fun x6 =>
  ld1K σ x6 fun x7 =>
  cmpK .lss x7 x1 fun x9 =>
  ifK x9 (
  nchkK x0 fun x12 =>
  addrK x12 9 fun x13 =>
  ld1K σ x13 fun x14 =>
  nchkK x0 fun x16 =>
  addrK x16 7 fun x17 =>
  ld1K σ x17 fun x18 =>
  nchkK x0 fun x20 =>
  addrK x20 8 fun x21 =>
  ld1K σ x21 fun x22 =>
  sliceSK x18 (some x22) (some x1) fun x24 =>
  bldK [(.str [])] [(0, 1, x24)] fun x25 =>
  boxK σ 263 x25 fun x26 σ1 =>
  opt (fillK [.nili] [(0, 1, (.iface 150 x26))]) fun cs => newSK σ1 253 cs 1 1 fun x28 σ2 =>
  appK 126 1 16 σ2 x14 x28 fun x29 σ3 =>
  nchkK x0 fun x30 =>
  addrK x30 9 fun x31 =>
  st1K σ3 x31 x29 fun _ σ4 =>
  ld1K σ1 x13 fun v5 =>
  must (AV.beq v5 x14) (
  ld1K σ2 x13 fun v6 =>
  must (AV.beq v6 x14) (
  nchkK x0 fun x34 =>
  addrK x34 8 fun x35 =>
  st1K σ4 x35 x1 fun _ σ7 =>
  .ret (.tup [], σ7)))) (
  .ret (.tup [], σ))

theorem eq73 (run : RunT) (fu : Nat) (x0 x1 : AV) (σ : Store) : codeK X0 run (.seq .leaf (.cond (.seq .leaf .leaf) .leaf)) (subC [] b73) ([x0, x1] ++ padA (36 - 2)) σ k73 = c73 run fu x0 x1 σ := by kernel_rfl

theorem ok73 {run : RunT} (hrun : RunOK X0 run) (fu : Nat) (x0 x1 : AV) (σ : Store) : CallOK X0 73 [x0, x1] σ (c73 run fu x0 x1 σ) :=
  KOK.body (fn := Tryz.f73) (c := subC [] b73) (by kernel_rfl) (by kernel_rfl) (by show 2 ≤ 36; decide) (KOK.whole env0 hrun (eq73 run fu x0 x1 σ) ⟨trivial, ⟨⟨trivial, trivial⟩, trivial⟩⟩)

-- (*pub-paratext/pub/rscmarkdown.parseState).skip

noncomputable def b74 : Code := match Tryz.f74.body with | some c => c | none => .skip

noncomputable def k74 : Kont R := retK Tryz.prog []

noncomputable def c74 (run : RunT) (fu : Nat) (x0 x1 : AV) (σ : Store) : Tr R :=
  nchkK x0 fun x6 =>
  addrK x6 8 fun x7 =>
  st1K σ x7 x1 fun _ σ1 =>
  .ret (.tup [], σ1)

theorem eq74 (run : RunT) (fu : Nat) (x0 x1 : AV) (σ : Store) : codeK X0 run .leaf (subC [] b74) ([x0, x1] ++ padA (8 - 2)) σ k74 = c74 run fu x0 x1 σ := by kernel_rfl

theorem ok74 {run : RunT} (hrun : RunOK X0 run) (fu : Nat) (x0 x1 : AV) (σ : Store) : CallOK X0 74 [x0, x1] σ (c74 run fu x0 x1 σ) :=
  KOK.body (fn := Tryz.f74) (c := subC [] b74) (by kernel_rfl) (by kernel_rfl) (by show 2 ≤ 8; decide) (KOK.whole env0 hrun (eq74 run fu x0 x1 σ) trivial)

-- (*pub-paratext/pub/rscmarkdown.parseState).emph

noncomputable def b77 : Code := match Tryz.f77.body with | some c => c | none => .skip

noncomputable def k77 : Kont R := retK Tryz.prog [.tmp 6]

noncomputable def c77_1 (run : RunT) (fu : Nat) (x4 : AV) (σ : Store) : Tr R :=
  ld1K σ x4 fun x435 =>
  .ret (x435, σ)

theorem eq77_1 (run : RunT) (fu : Nat) (x4 : AV) (σ : Store) : codeK X0 run (.seq .leaf .leaf) (subC [true, false, true, true, true, true, true] b77) (frS 0 436 [(4, x4)]) σ (noGotoK k77) = c77_1 run fu x4 σ := by kernel_rfl

theorem ok77_1 {run : RunT} (hrun : RunOK X0 run) (fu : Nat) : ∀ fr σ, KOK X0 436 (subC [true, false, true, true, true, true, true] b77) fr σ ((fun fr σ => c77_1 run fu (G fr 4) σ) fr σ) (noGotoK k77) := fun fr σ =>
  KOK.piece env0 hrun [4] (eq77_1 run fu (G fr 4) σ) ⟨trivial, trivial⟩

noncomputable def c77_3 (run : RunT) (fu : Nat) (s2 : W6) (x2 x4 x7 x8 x9 x10 : AV) (σ : Store) : Tr R :=
  addK x10 (.int .i64 1) fun x28 =>
  s2 x2 x4 x7 x8 x9 x28 σ

theorem eq77_3 (run : RunT) (fu : Nat) (s2 : W6) (x2 x4 x7 x8 x9 x10 : AV) (σ : Store) : codeK X0 run .leaf (subC [true, false, true, true, true, true, false, true, false, false, true, true] b77) (frS 0 436 [(2, x2), (4, x4), (7, x7), (8, x8), (9, x9), (10, x10)]) σ (thenK (fun fr σ => s2 (G fr 2) (G fr 4) (G fr 7) (G fr 8) (G fr 9) (G fr 10) σ) (blockK 0 (thenK (fun fr σ => c77_1 run fu (G fr 4) σ) (noGotoK k77)))) = c77_3 run fu s2 x2 x4 x7 x8 x9 x10 σ := by kernel_rfl

theorem ok77_3 {run : RunT} (hrun : RunOK X0 run) (fu : Nat) (s2 : W6) : ∀ fr σ, KOK X0 436 (subC [true, false, true, true, true, true, false, true, false, false, true, true] b77) fr σ ((fun fr σ => c77_3 run fu s2 (G fr 2) (G fr 4) (G fr 7) (G fr 8) (G fr 9) (G fr 10) σ) fr σ) (thenK (fun fr σ => s2 (G fr 2) (G fr 4) (G fr 7) (G fr 8) (G fr 9) (G fr 10) σ) (blockK 0 (thenK (fun fr σ => c77_1 run fu (G fr 4) σ) (noGotoK k77)))) := fun fr σ =>
  KOK.piece env0 hrun [2, 4, 7, 8, 9, 10] (eq77_3 run fu s2 (G fr 2) (G fr 4) (G fr 7) (G fr 8) (G fr 9) (G fr 10) σ) trivial

noncomputable def c77_6 (run : RunT) (fu : Nat) (s2 : W6) (x2 x4 x7 x8 x9 x10 x13 x21 : AV) (σ : Store) : Tr R :=
  nchkK x13 fun x407 =>
  addrK x407 1 fun x408 =>
  ld1K σ x408 fun x409 =>
  ifK x409 (
  ld1K σ x4 fun x411 =>
  lenLK x411 fun x412 =>
  nchkK x13 fun x413 =>
  addrK x413 3 fun x414 =>
  st1K σ x414 x412 fun _ σ1 =>
  ld1K σ1 x4 fun x415 =>
  opt (fillK [.nili] [(0, 1, (.iface 185 x13))]) fun cs => newSK σ1 253 cs 1 1 fun x418 σ2 =>
  appK 126 1 16 σ2 x415 x418 fun x419 σ3 =>
  st1K σ3 x4 x419 fun _ σ4 =>
  nchkK x21 fun x422 =>
  ld1K σ4 x422 fun x423 =>
  opt (fillK [.nilp] [(0, 1, x13)]) fun cs => newSK σ4 371 cs 1 1 fun x425 σ5 =>
  appK 185 1 8 σ5 x423 x425 fun x426 σ6 =>
  nchkK x21 fun x427 =>
  st1K σ6 x427 x426 fun _ σ7 =>
  c77_3 run fu s2 x2 x4 x7 x8 x9 x10 σ7) (
  ld1K σ x4 fun x428 =>
  nchkK x13 fun x430 =>
  addrK x430 0 fun x431 =>
  opt (fillK [.nili] [(0, 1, (.iface 150 x431))]) fun cs => newSK σ 253 cs 1 1 fun x433 σ8 =>
  appK 126 1 16 σ8 x428 x433 fun x434 σ9 =>
  st1K σ9 x4 x434 fun _ σ10 =>
  ld1K σ8 x4 fun v11 =>
  must (AV.beq v11 x428) (
  c77_3 run fu s2 x2 x4 x7 x8 x9 x10 σ10))

theorem eq77_6 (run : RunT) (fu : Nat) (s2 : W6) (x2 x4 x7 x8 x9 x10 x13 x21 : AV) (σ : Store) : codeK X0 run (.seq .leaf (.cond (.seq .leaf (.seq .leaf .leaf)) .leaf)) (subC [true, false, true, true, true, true, false, true, false, false, true, false, false, true, true, true, true, true, false, true, true, true] b77) (frS 0 436 [(2, x2), (4, x4), (7, x7), (8, x8), (9, x9), (10, x10), (13, x13), (21, x21)]) σ (blockK 1 (thenK (fun fr σ => c77_3 run fu s2 (G fr 2) (G fr 4) (G fr 7) (G fr 8) (G fr 9) (G fr 10) σ) (thenK (fun fr σ => s2 (G fr 2) (G fr 4) (G fr 7) (G fr 8) (G fr 9) (G fr 10) σ) (blockK 0 (thenK (fun fr σ => c77_1 run fu (G fr 4) σ) (noGotoK k77)))))) = c77_6 run fu s2 x2 x4 x7 x8 x9 x10 x13 x21 σ := by kernel_rfl

theorem ok77_6 {run : RunT} (hrun : RunOK X0 run) (fu : Nat) (s2 : W6) : ∀ fr σ, KOK X0 436 (subC [true, false, true, true, true, true, false, true, false, false, true, false, false, true, true, true, true, true, false, true, true, true] b77) fr σ ((fun fr σ => c77_6 run fu s2 (G fr 2) (G fr 4) (G fr 7) (G fr 8) (G fr 9) (G fr 10) (G fr 13) (G fr 21) σ) fr σ) (blockK 1 (thenK (fun fr σ => c77_3 run fu s2 (G fr 2) (G fr 4) (G fr 7) (G fr 8) (G fr 9) (G fr 10) σ) (thenK (fun fr σ => s2 (G fr 2) (G fr 4) (G fr 7) (G fr 8) (G fr 9) (G fr 10) σ) (blockK 0 (thenK (fun fr σ => c77_1 run fu (G fr 4) σ) (noGotoK k77)))))) := fun fr σ =>
  KOK.piece env0 hrun [2, 4, 7, 8, 9, 10, 13, 21] (eq77_6 run fu s2 (G fr 2) (G fr 4) (G fr 7) (G fr 8) (G fr 9) (G fr 10) (G fr 13) (G fr 21) σ) ⟨trivial, ⟨⟨trivial, ⟨trivial, trivial⟩⟩, trivial⟩⟩

noncomputable def c77_5 (run : RunT) (fu : Nat) (s2 : W6) (x2 x4 x7 x8 x9 x10 x13 x21 : AV) (σ : Store) : Tr R :=
  nchkK x13 fun x389 =>
  addrK x389 0 fun x390 =>
  addrK x390 0 fun x391 =>
  ld1K σ x391 fun x392 =>
  eqSK x392 (.str [34]) fun x393 =>
  ifK x393 (
  nchkK x13 fun x395 =>
  addrK x395 2 fun x396 =>
  ld1K σ x396 fun x397 =>
  ifK x397 (
  nchkK x13 fun x399 =>
  addrK x399 0 fun x400 =>
  addrK x400 0 fun x401 =>
  st1K σ x401 (.str [226, 128, 157]) fun _ σ1 =>
  c77_6 run fu s2 x2 x4 x7 x8 x9 x10 x13 x21 σ1) (
  nchkK x13 fun x403 =>
  addrK x403 0 fun x404 =>
  addrK x404 0 fun x405 =>
  st1K σ x405 (.str [226, 128, 156]) fun _ σ2 =>
  c77_6 run fu s2 x2 x4 x7 x8 x9 x10 x13 x21 σ2)) (
  c77_6 run fu s2 x2 x4 x7 x8 x9 x10 x13 x21 σ)

theorem eq77_5 (run : RunT) (fu : Nat) (s2 : W6) (x2 x4 x7 x8 x9 x10 x13 x21 : AV) (σ : Store) : codeK X0 run (.seq (.seq .leaf (.cond (.seq .leaf (.cond .leaf .leaf)) .leaf)) (.sub (fun fr σ => c77_6 run fu s2 (G fr 2) (G fr 4) (G fr 7) (G fr 8) (G fr 9) (G fr 10) (G fr 13) (G fr 21) σ))) (subC [true, false, true, true, true, true, false, true, false, false, true, false, false, true, true, true, true, true, false, true, true] b77) (frS 0 436 [(2, x2), (4, x4), (7, x7), (8, x8), (9, x9), (10, x10), (13, x13), (21, x21)]) σ (blockK 1 (thenK (fun fr σ => c77_3 run fu s2 (G fr 2) (G fr 4) (G fr 7) (G fr 8) (G fr 9) (G fr 10) σ) (thenK (fun fr σ => s2 (G fr 2) (G fr 4) (G fr 7) (G fr 8) (G fr 9) (G fr 10) σ) (blockK 0 (thenK (fun fr σ => c77_1 run fu (G fr 4) σ) (noGotoK k77)))))) = c77_5 run fu s2 x2 x4 x7 x8 x9 x10 x13 x21 σ := by kernel_rfl

theorem ok77_5 {run : RunT} (hrun : RunOK X0 run) (fu : Nat) (s2 : W6) : ∀ fr σ, KOK X0 436 (subC [true, false, true, true, true, true, false, true, false, false, true, false, false, true, true, true, true, true, false, true, true] b77) fr σ ((fun fr σ => c77_5 run fu s2 (G fr 2) (G fr 4) (G fr 7) (G fr 8) (G fr 9) (G fr 10) (G fr 13) (G fr 21) σ) fr σ) (blockK 1 (thenK (fun fr σ => c77_3 run fu s2 (G fr 2) (G fr 4) (G fr 7) (G fr 8) (G fr 9) (G fr 10) σ) (thenK (fun fr σ => s2 (G fr 2) (G fr 4) (G fr 7) (G fr 8) (G fr 9) (G fr 10) σ) (blockK 0 (thenK (fun fr σ => c77_1 run fu (G fr 4) σ) (noGotoK k77)))))) := fun fr σ =>
  KOK.piece env0 hrun [2, 4, 7, 8, 9, 10, 13, 21] (eq77_5 run fu s2 (G fr 2) (G fr 4) (G fr 7) (G fr 8) (G fr 9) (G fr 10) (G fr 13) (G fr 21) σ) ⟨⟨trivial, ⟨⟨trivial, ⟨trivial, trivial⟩⟩, trivial⟩⟩, (ok77_6 hrun fu s2)⟩

noncomputable def c77_4 (run : RunT) (fu : Nat) (s2 : W6) (x2 x4 x7 x8 x9 x10 x13 : AV) (σ : Store) : Tr R :=
  nchkK x13 fun x364 =>
  addrK x364 0 fun x365 =>
  addrK x365 0 fun x366 =>
  ld1K σ x366 fun x367 =>
  neSK x367 (.str []) fun x368 =>
  ifK x368 (
  nchkK x13 fun x371 =>
  addrK x371 0 fun x372 =>
  addrK x372 0 fun x373 =>
  ld1K σ x373 fun x374 =>
  idxSK x374 (.int .i64 0) fun x375 =>
  dynK X0 run x8 [x375] σ fun x376 σ1 =>
  idxArrK 5 1 x7 x376 fun x377 =>
  nchkK x13 fun x379 =>
  addrK x379 0 fun x380 =>
  addrK x380 0 fun x381 =>
  ld1K σ1 x381 fun x382 =>
  eqSK x382 (.str [39]) fun x383 =>
  ifK x383 (
  nchkK x13 fun x385 =>
  addrK x385 0 fun x386 =>
  addrK x386 0 fun x387 =>
  st1K σ1 x387 (.str [226, 128, 153]) fun _ σ2 =>
  c77_5 run fu s2 x2 x4 x7 x8 x9 x10 x13 x377 σ2) (
  c77_5 run fu s2 x2 x4 x7 x8 x9 x10 x13 x377 σ1)) (
  c77_3 run fu s2 x2 x4 x7 x8 x9 x10 σ)

theorem eq77_4 (run : RunT) (fu : Nat) (s2 : W6) (x2 x4 x7 x8 x9 x10 x13 : AV) (σ : Store) : codeK X0 run (.seq .leaf (.cond (.seq .leaf (.seq (.seq .leaf (.cond .leaf .leaf)) (.sub (fun fr σ => c77_5 run fu s2 (G fr 2) (G fr 4) (G fr 7) (G fr 8) (G fr 9) (G fr 10) (G fr 13) (G fr 21) σ)))) .leaf)) (subC [true, false, true, true, true, true, false, true, false, false, true, false, false, true, true, true, true] b77) (frS 0 436 [(2, x2), (4, x4), (7, x7), (8, x8), (9, x9), (10, x10), (13, x13)]) σ (blockK 1 (thenK (fun fr σ => c77_3 run fu s2 (G fr 2) (G fr 4) (G fr 7) (G fr 8) (G fr 9) (G fr 10) σ) (thenK (fun fr σ => s2 (G fr 2) (G fr 4) (G fr 7) (G fr 8) (G fr 9) (G fr 10) σ) (blockK 0 (thenK (fun fr σ => c77_1 run fu (G fr 4) σ) (noGotoK k77)))))) = c77_4 run fu s2 x2 x4 x7 x8 x9 x10 x13 σ := by kernel_rfl

theorem ok77_4 {run : RunT} (hrun : RunOK X0 run) (fu : Nat) (s2 : W6) : ∀ fr σ, KOK X0 436 (subC [true, false, true, true, true, true, false, true, false, false, true, false, false, true, true, true, true] b77) fr σ ((fun fr σ => c77_4 run fu s2 (G fr 2) (G fr 4) (G fr 7) (G fr 8) (G fr 9) (G fr 10) (G fr 13) σ) fr σ) (blockK 1 (thenK (fun fr σ => c77_3 run fu s2 (G fr 2) (G fr 4) (G fr 7) (G fr 8) (G fr 9) (G fr 10) σ) (thenK (fun fr σ => s2 (G fr 2) (G fr 4) (G fr 7) (G fr 8) (G fr 9) (G fr 10) σ) (blockK 0 (thenK (fun fr σ => c77_1 run fu (G fr 4) σ) (noGotoK k77)))))) := fun fr σ =>
  KOK.piece env0 hrun [2, 4, 7, 8, 9, 10, 13] (eq77_4 run fu s2 (G fr 2) (G fr 4) (G fr 7) (G fr 8) (G fr 9) (G fr 10) (G fr 13) σ) ⟨trivial, ⟨⟨trivial, ⟨⟨trivial, ⟨trivial, trivial⟩⟩, (ok77_5 hrun fu s2)⟩⟩, trivial⟩⟩

noncomputable def c77_9 (run : RunT) (fu : Nat) (s2 : W6) (s7 : W8) (s8 : W9) (x2 x4 x7 x8 x9 x10 x13 x15 x16 : AV) (σ : Store) : Tr R :=
  subK x16 (.int .i64 1) fun x89 =>
  s8 x2 x4 x7 x8 x9 x10 x13 x15 x89 σ

theorem eq77_9 (run : RunT) (fu : Nat) (s2 : W6) (s7 : W8) (s8 : W9) (x2 x4 x7 x8 x9 x10 x13 x15 x16 : AV) (σ : Store) : codeK X0 run .leaf (subC [true, false, true, true, true, true, false, true, false, false, true, false, false, true, true, true, false, true, false, false, true, true, false, false, true, false, false, true, false, false, true, true] b77) (frS 0 436 [(2, x2), (4, x4), (7, x7), (8, x8), (9, x9), (10, x10), (13, x13), (15, x15), (16, x16)]) σ (thenK (fun fr σ => s8 (G fr 2) (G fr 4) (G fr 7) (G fr 8) (G fr 9) (G fr 10) (G fr 13) (G fr 15) (G fr 16) σ) (blockK 4 (thenK (fun fr σ => codeK X0 run .leaf (subC [true, false, true, true, true, true, false, true, false, false, true, false, false, true, true, true, false, true, false, false, true, true, false, false, true, false, true] b77) fr σ (blockK 3 (thenK (fun fr σ => s7 (G fr 2) (G fr 4) (G fr 7) (G fr 8) (G fr 9) (G fr 10) (G fr 13) (G fr 15) σ) (blockK 2 (noGotoK (thenK (fun fr σ => c77_4 run fu s2 (G fr 2) (G fr 4) (G fr 7) (G fr 8) (G fr 9) (G fr 10) (G fr 13) σ) (blockK 1 (thenK (fun fr σ => c77_3 run fu s2 (G fr 2) (G fr 4) (G fr 7) (G fr 8) (G fr 9) (G fr 10) σ) (thenK (fun fr σ => s2 (G fr 2) (G fr 4) (G fr 7) (G fr 8) (G fr 9) (G fr 10) σ) (blockK 0 (thenK (fun fr σ => c77_1 run fu (G fr 4) σ) (noGotoK k77)))))))))))) (blockK 3 (thenK (fun fr σ => s7 (G fr 2) (G fr 4) (G fr 7) (G fr 8) (G fr 9) (G fr 10) (G fr 13) (G fr 15) σ) (blockK 2 (noGotoK (thenK (fun fr σ => c77_4 run fu s2 (G fr 2) (G fr 4) (G fr 7) (G fr 8) (G fr 9) (G fr 10) (G fr 13) σ) (blockK 1 (thenK (fun fr σ => c77_3 run fu s2 (G fr 2) (G fr 4) (G fr 7) (G fr 8) (G fr 9) (G fr 10) σ) (thenK (fun fr σ => s2 (G fr 2) (G fr 4) (G fr 7) (G fr 8) (G fr 9) (G fr 10) σ) (blockK 0 (thenK (fun fr σ => c77_1 run fu (G fr 4) σ) (noGotoK k77)))))))))))))) = c77_9 run fu s2 s7 s8 x2 x4 x7 x8 x9 x10 x13 x15 x16 σ := by kernel_rfl

theorem ok77_9 {run : RunT} (hrun : RunOK X0 run) (fu : Nat) (s2 : W6) (s7 : W8) (s8 : W9) : ∀ fr σ, KOK X0 436 (subC [true, false, true, true, true, true, false, true, false, false, true, false, false, true, true, true, false, true, false, false, true, true, false, false, true, false, false, true, false, false, true, true] b77) fr σ ((fun fr σ => c77_9 run fu s2 s7 s8 (G fr 2) (G fr 4) (G fr 7) (G fr 8) (G fr 9) (G fr 10) (G fr 13) (G fr 15) (G fr 16) σ) fr σ) (thenK (fun fr σ => s8 (G fr 2) (G fr 4) (G fr 7) (G fr 8) (G fr 9) (G fr 10) (G fr 13) (G fr 15) (G fr 16) σ) (blockK 4 (thenK (fun fr σ => codeK X0 run .leaf (subC [true, false, true, true, true, true, false, true, false, false, true, false, false, true, true, true, false, true, false, false, true, true, false, false, true, false, true] b77) fr σ (blockK 3 (thenK (fun fr σ => s7 (G fr 2) (G fr 4) (G fr 7) (G fr 8) (G fr 9) (G fr 10) (G fr 13) (G fr 15) σ) (blockK 2 (noGotoK (thenK (fun fr σ => c77_4 run fu s2 (G fr 2) (G fr 4) (G fr 7) (G fr 8) (G fr 9) (G fr 10) (G fr 13) σ) (blockK 1 (thenK (fun fr σ => c77_3 run fu s2 (G fr 2) (G fr 4) (G fr 7) (G fr 8) (G fr 9) (G fr 10) σ) (thenK (fun fr σ => s2 (G fr 2) (G fr 4) (G fr 7) (G fr 8) (G fr 9) (G fr 10) σ) (blockK 0 (thenK (fun fr σ => c77_1 run fu (G fr 4) σ) (noGotoK k77)))))))))))) (blockK 3 (thenK (fun fr σ => s7 (G fr 2) (G fr 4) (G fr 7) (G fr 8) (G fr 9) (G fr 10) (G fr 13) (G fr 15) σ) (blockK 2 (noGotoK (thenK (fun fr σ => c77_4 run fu s2 (G fr 2) (G fr 4) (G fr 7) (G fr 8) (G fr 9) (G fr 10) (G fr 13) σ) (blockK 1 (thenK (fun fr σ => c77_3 run fu s2 (G fr 2) (G fr 4) (G fr 7) (G fr 8) (G fr 9) (G fr 10) σ) (thenK (fun fr σ => s2 (G fr 2) (G fr 4) (G fr 7) (G fr 8) (G fr 9) (G fr 10) σ) (blockK 0 (thenK (fun fr σ => c77_1 run fu (G fr 4) σ) (noGotoK k77)))))))))))))) := fun fr σ =>
  KOK.piece env0 hrun [2, 4, 7, 8, 9, 10, 13, 15, 16] (eq77_9 run fu s2 s7 s8 (G fr 2) (G fr 4) (G fr 7) (G fr 8) (G fr 9) (G fr 10) (G fr 13) (G fr 15) (G fr 16) σ) trivial

noncomputable def c77_11 (run : RunT) (fu : Nat) (s2 : W6) (s7 : W8) (s8 : W9) (x2 x4 x7 x8 x9 x10 x13 x15 x18 x19 x20 : AV) (σ : Store) : Tr R :=
  dynK X0 run x9 [] σ fun x344 σ1 =>
  ifK x19 (
  ld1K σ1 x4 fun x346 =>
  opt (fillK [.nili] [(0, 1, (.iface 212 x20))]) fun cs => newSK σ1 253 cs 1 1 fun x349 σ2 =>
  appK 126 1 16 σ2 x346 x349 fun x350 σ3 =>
  st1K σ3 x4 x350 fun _ σ4 =>
  s7 x2 x4 x7 x8 x9 x10 x13 x15 σ4) (
  cmpK .eql x18 (.int .i64 2) fun x352 =>
  ifK x352 (
  ld1K σ1 x4 fun x353 =>
  opt (fillK [.nili] [(0, 1, (.iface 213 x20))]) fun cs => newSK σ1 253 cs 1 1 fun x356 σ5 =>
  appK 126 1 16 σ5 x353 x356 fun x357 σ6 =>
  st1K σ6 x4 x357 fun _ σ7 =>
  s7 x2 x4 x7 x8 x9 x10 x13 x15 σ7) (
  ld1K σ1 x4 fun x358 =>
  opt (fillK [.nili] [(0, 1, (.iface 209 x20))]) fun cs => newSK σ1 253 cs 1 1 fun x361 σ8 =>
  appK 126 1 16 σ8 x358 x361 fun x362 σ9 =>
  st1K σ9 x4 x362 fun _ σ10 =>
  s7 x2 x4 x7 x8 x9 x10 x13 x15 σ10))

theorem eq77_11 (run : RunT) (fu : Nat) (s2 : W6) (s7 : W8) (s8 : W9) (x2 x4 x7 x8 x9 x10 x13 x15 x18 x19 x20 : AV) (σ : Store) : codeK X0 run (.seq .leaf (.seq (.seq .leaf (.cond .leaf (.seq .leaf (.cond .leaf .leaf)))) .leaf)) (subC [true, false, true, true, true, true, false, true, false, false, true, false, false, true, true, true, false, true, false, false, true, true, false, false, true, false, false, true, false, false, true, false, false, true, true, true, true, true, true, true, true, true, true, true, true] b77) (frS 0 436 [(2, x2), (4, x4), (7, x7), (8, x8), (9, x9), (10, x10), (13, x13), (15, x15), (18, x18), (19, x19), (20, x20)]) σ (blockK 5 (thenK (fun fr σ => c77_9 run fu s2 s7 s8 (G fr 2) (G fr 4) (G fr 7) (G fr 8) (G fr 9) (G fr 10) (G fr 13) (G fr 15) (G fr 16) σ) (thenK (fun fr σ => s8 (G fr 2) (G fr 4) (G fr 7) (G fr 8) (G fr 9) (G fr 10) (G fr 13) (G fr 15) (G fr 16) σ) (blockK 4 (thenK (fun fr σ => codeK X0 run .leaf (subC [true, false, true, true, true, true, false, true, false, false, true, false, false, true, true, true, false, true, false, false, true, true, false, false, true, false, true] b77) fr σ (blockK 3 (thenK (fun fr σ => s7 (G fr 2) (G fr 4) (G fr 7) (G fr 8) (G fr 9) (G fr 10) (G fr 13) (G fr 15) σ) (blockK 2 (noGotoK (thenK (fun fr σ => c77_4 run fu s2 (G fr 2) (G fr 4) (G fr 7) (G fr 8) (G fr 9) (G fr 10) (G fr 13) σ) (blockK 1 (thenK (fun fr σ => c77_3 run fu s2 (G fr 2) (G fr 4) (G fr 7) (G fr 8) (G fr 9) (G fr 10) σ) (thenK (fun fr σ => s2 (G fr 2) (G fr 4) (G fr 7) (G fr 8) (G fr 9) (G fr 10) σ) (blockK 0 (thenK (fun fr σ => c77_1 run fu (G fr 4) σ) (noGotoK k77)))))))))))) (blockK 3 (thenK (fun fr σ => s7 (G fr 2) (G fr 4) (G fr 7) (G fr 8) (G fr 9) (G fr 10) (G fr 13) (G fr 15) σ) (blockK 2 (noGotoK (thenK (fun fr σ => c77_4 run fu s2 (G fr 2) (G fr 4) (G fr 7) (G fr 8) (G fr 9) (G fr 10) (G fr 13) σ) (blockK 1 (thenK (fun fr σ => c77_3 run fu s2 (G fr 2) (G fr 4) (G fr 7) (G fr 8) (G fr 9) (G fr 10) σ) (thenK (fun fr σ => s2 (G fr 2) (G fr 4) (G fr 7) (G fr 8) (G fr 9) (G fr 10) σ) (blockK 0 (thenK (fun fr σ => c77_1 run fu (G fr 4) σ) (noGotoK k77)))))))))))))))) = c77_11 run fu s2 s7 s8 x2 x4 x7 x8 x9 x10 x13 x15 x18 x19 x20 σ := by kernel_rfl

theorem ok77_11 {run : RunT} (hrun : RunOK X0 run) (fu : Nat) (s2 : W6) (s7 : W8) (s8 : W9) : ∀ fr σ, KOK X0 436 (subC [true, false, true, true, true, true, false, true, false, false, true, false, false, true, true, true, false, true, false, false, true, true, false, false, true, false, false, true, false, false, true, false, false, true, true, true, true, true, true, true, true, true, true, true, true] b77) fr σ ((fun fr σ => c77_11 run fu s2 s7 s8 (G fr 2) (G fr 4) (G fr 7) (G fr 8) (G fr 9) (G fr 10) (G fr 13) (G fr 15) (G fr 18) (G fr 19) (G fr 20) σ) fr σ) (blockK 5 (thenK (fun fr σ => c77_9 run fu s2 s7 s8 (G fr 2) (G fr 4) (G fr 7) (G fr 8) (G fr 9) (G fr 10) (G fr 13) (G fr 15) (G fr 16) σ) (thenK (fun fr σ => s8 (G fr 2) (G fr 4) (G fr 7) (G fr 8) (G fr 9) (G fr 10) (G fr 13) (G fr 15) (G fr 16) σ) (blockK 4 (thenK (fun fr σ => codeK X0 run .leaf (subC [true, false, true, true, true, true, false, true, false, false, true, false, false, true, true, true, false, true, false, false, true, true, false, false, true, false, true] b77) fr σ (blockK 3 (thenK (fun fr σ => s7 (G fr 2) (G fr 4) (G fr 7) (G fr 8) (G fr 9) (G fr 10) (G fr 13) (G fr 15) σ) (blockK 2 (noGotoK (thenK (fun fr σ => c77_4 run fu s2 (G fr 2) (G fr 4) (G fr 7) (G fr 8) (G fr 9) (G fr 10) (G fr 13) σ) (blockK 1 (thenK (fun fr σ => c77_3 run fu s2 (G fr 2) (G fr 4) (G fr 7) (G fr 8) (G fr 9) (G fr 10) σ) (thenK (fun fr σ => s2 (G fr 2) (G fr 4) (G fr 7) (G fr 8) (G fr 9) (G fr 10) σ) (blockK 0 (thenK (fun fr σ => c77_1 run fu (G fr 4) σ) (noGotoK k77)))))))))))) (blockK 3 (thenK (fun fr σ => s7 (G fr 2) (G fr 4) (G fr 7) (G fr 8) (G fr 9) (G fr 10) (G fr 13) (G fr 15) σ) (blockK 2 (noGotoK (thenK (fun fr σ => c77_4 run fu s2 (G fr 2) (G fr 4) (G fr 7) (G fr 8) (G fr 9) (G fr 10) (G fr 13) σ) (blockK 1 (thenK (fun fr σ => c77_3 run fu s2 (G fr 2) (G fr 4) (G fr 7) (G fr 8) (G fr 9) (G fr 10) σ) (thenK (fun fr σ => s2 (G fr 2) (G fr 4) (G fr 7) (G fr 8) (G fr 9) (G fr 10) σ) (blockK 0 (thenK (fun fr σ => c77_1 run fu (G fr 4) σ) (noGotoK k77)))))))))))))))) := fun fr σ =>
  KOK.piece env0 hrun [2, 4, 7, 8, 9, 10, 13, 15, 18, 19, 20] (eq77_11 run fu s2 s7 s8 (G fr 2) (G fr 4) (G fr 7) (G fr 8) (G fr 9) (G fr 10) (G fr 13) (G fr 15) (G fr 18) (G fr 19) (G fr 20) σ) ⟨trivial, ⟨⟨trivial, ⟨trivial, ⟨trivial, ⟨trivial, trivial⟩⟩⟩⟩, trivial⟩⟩

noncomputable def c77_10 (run : RunT) (fu : Nat) (s2 : W6) (s7 : W8) (s8 : W9) (x2 x4 x7 x8 x9 x10 x13 x15 x17 x18 : AV) (σ : Store) : Tr R :=
  nchkK x13 fun x272 =>
  addrK x272 0 fun x273 =>
  addrK x273 0 fun x274 =>
  ld1K σ x274 fun x275 =>
  idxSK x275 (.int .i64 0) fun x276 =>
  cmpK .eql x276 (.int .u8 126) fun x277 =>
  nchkK x13 fun x279 =>
  addrK x279 0 fun x280 =>
  addrK x280 0 fun x281 =>
  ld1K σ x281 fun x282 =>
  sliceSK x282 none (some x18) fun x284 =>
  ld1K σ x4 fun x285 =>
  nchkK x17 fun x287 =>
  addrK x287 3 fun x288 =>
  ld1K σ x288 fun x289 =>
  addK x289 (.int .i64 1) fun x290 =>
  sliceLK Tryz.prog σ 84 x285 (some x290) none fun x291 =>
  appK 126 1 16 σ .nils x291 fun x292 σ1 =>
  bldK [(.str []), .nils] [(0, 1, x284), (1, 1, x292)] fun x293 =>
  boxK σ1 423 x293 fun x294 σ2 =>
  ld1K σ1 x281 fun v3 =>
  must (AV.beq v3 x282) (
  sliceSK x282 none (some x18) fun v4 =>
  must (AV.beq v4 x284) (
  nchkK x17 fun x297 =>
  addrK x297 0 fun x298 =>
  addrK x298 0 fun x299 =>
  ld1K σ2 x299 fun x300 =>
  nchkK x17 fun x302 =>
  addrK x302 0 fun x303 =>
  addrK x303 0 fun x304 =>
  ld1K σ2 x304 fun x305 =>
  lenSK x305 fun x306 =>
  subK x306 x18 fun x308 =>
  sliceSK x300 none (some x308) fun x309 =>
  nchkK x17 fun x310 =>
  addrK x310 0 fun x311 =>
  addrK x311 0 fun x312 =>
  st1K σ2 x312 x309 fun _ σ5 =>
  nchkK x13 fun x315 =>
  addrK x315 0 fun x316 =>
  addrK x316 0 fun x317 =>
  ld1K σ5 x317 fun x318 =>
  sliceSK x318 (some x18) none fun x320 =>
  nchkK x13 fun x321 =>
  addrK x321 0 fun x322 =>
  addrK x322 0 fun x323 =>
  st1K σ5 x323 x320 fun _ σ6 =>
  nchkK x17 fun x325 =>
  addrK x325 0 fun x326 =>
  addrK x326 0 fun x327 =>
  ld1K σ6 x327 fun x328 =>
  eqSK x328 (.str []) fun x329 =>
  ifK x329 (
  ld1K σ6 x4 fun x330 =>
  nchkK x17 fun x332 =>
  addrK x332 3 fun x333 =>
  ld1K σ6 x333 fun x334 =>
  sliceLK Tryz.prog σ6 84 x330 none (some x334) fun x335 =>
  st1K σ6 x4 x335 fun _ σ7 =>
  c77_11 run fu s2 s7 s8 x2 x4 x7 x8 x9 x10 x13 x15 x18 x277 x294 σ7) (
  ld1K σ6 x4 fun x336 =>
  nchkK x17 fun x338 =>
  addrK x338 3 fun x339 =>
  ld1K σ6 x339 fun x340 =>
  addK x340 (.int .i64 1) fun x341 =>
  sliceLK Tryz.prog σ6 84 x336 none (some x341) fun x342 =>
  st1K σ6 x4 x342 fun _ σ8 =>
  c77_11 run fu s2 s7 s8 x2 x4 x7 x8 x9 x10 x13 x15 x18 x277 x294 σ8)))

theorem eq77_10 (run : RunT) (fu : Nat) (s2 : W6) (s7 : W8) (s8 : W9) (x2 x4 x7 x8 x9 x10 x13 x15 x17 x18 : AV) (σ : Store) : codeK X0 run (.seq .leaf (.seq .leaf (.seq .leaf (.seq .leaf (.seq (.seq .leaf (.cond .leaf .leaf)) (.sub (fun fr σ => c77_11 run fu s2 s7 s8 (G fr 2) (G fr 4) (G fr 7) (G fr 8) (G fr 9) (G fr 10) (G fr 13) (G fr 15) (G fr 18) (G fr 19) (G fr 20) σ))))))) (subC [true, false, true, true, true, true, false, true, false, false, true, false, false, true, true, true, false, true, false, false, true, true, false, false, true, false, false, true, false, false, true, false, false, true, true, true, true, true, true, true] b77) (frS 0 436 [(2, x2), (4, x4), (7, x7), (8, x8), (9, x9), (10, x10), (13, x13), (15, x15), (17, x17), (18, x18)]) σ (blockK 5 (thenK (fun fr σ => c77_9 run fu s2 s7 s8 (G fr 2) (G fr 4) (G fr 7) (G fr 8) (G fr 9) (G fr 10) (G fr 13) (G fr 15) (G fr 16) σ) (thenK (fun fr σ => s8 (G fr 2) (G fr 4) (G fr 7) (G fr 8) (G fr 9) (G fr 10) (G fr 13) (G fr 15) (G fr 16) σ) (blockK 4 (thenK (fun fr σ => codeK X0 run .leaf (subC [true, false, true, true, true, true, false, true, false, false, true, false, false, true, true, true, false, true, false, false, true, true, false, false, true, false, true] b77) fr σ (blockK 3 (thenK (fun fr σ => s7 (G fr 2) (G fr 4) (G fr 7) (G fr 8) (G fr 9) (G fr 10) (G fr 13) (G fr 15) σ) (blockK 2 (noGotoK (thenK (fun fr σ => c77_4 run fu s2 (G fr 2) (G fr 4) (G fr 7) (G fr 8) (G fr 9) (G fr 10) (G fr 13) σ) (blockK 1 (thenK (fun fr σ => c77_3 run fu s2 (G fr 2) (G fr 4) (G fr 7) (G fr 8) (G fr 9) (G fr 10) σ) (thenK (fun fr σ => s2 (G fr 2) (G fr 4) (G fr 7) (G fr 8) (G fr 9) (G fr 10) σ) (blockK 0 (thenK (fun fr σ => c77_1 run fu (G fr 4) σ) (noGotoK k77)))))))))))) (blockK 3 (thenK (fun fr σ => s7 (G fr 2) (G fr 4) (G fr 7) (G fr 8) (G fr 9) (G fr 10) (G fr 13) (G fr 15) σ) (blockK 2 (noGotoK (thenK (fun fr σ => c77_4 run fu s2 (G fr 2) (G fr 4) (G fr 7) (G fr 8) (G fr 9) (G fr 10) (G fr 13) σ) (blockK 1 (thenK (fun fr σ => c77_3 run fu s2 (G fr 2) (G fr 4) (G fr 7) (G fr 8) (G fr 9) (G fr 10) σ) (thenK (fun fr σ => s2 (G fr 2) (G fr 4) (G fr 7) (G fr 8) (G fr 9) (G fr 10) σ) (blockK 0 (thenK (fun fr σ => c77_1 run fu (G fr 4) σ) (noGotoK k77)))))))))))))))) = c77_10 run fu s2 s7 s8 x2 x4 x7 x8 x9 x10 x13 x15 x17 x18 σ := by kernel_rfl

theorem ok77_10 {run : RunT} (hrun : RunOK X0 run) (fu : Nat) (s2 : W6) (s7 : W8) (s8 : W9) : ∀ fr σ, KOK X0 436 (subC [true, false, true, true, true, true, false, true, false, false, true, false, false, true, true, true, false, true, false, false, true, true, false, false, true, false, false, true, false, false, true, false, false, true, true, true, true, true, true, true] b77) fr σ ((fun fr σ => c77_10 run fu s2 s7 s8 (G fr 2) (G fr 4) (G fr 7) (G fr 8) (G fr 9) (G fr 10) (G fr 13) (G fr 15) (G fr 17) (G fr 18) σ) fr σ) (blockK 5 (thenK (fun fr σ => c77_9 run fu s2 s7 s8 (G fr 2) (G fr 4) (G fr 7) (G fr 8) (G fr 9) (G fr 10) (G fr 13) (G fr 15) (G fr 16) σ) (thenK (fun fr σ => s8 (G fr 2) (G fr 4) (G fr 7) (G fr 8) (G fr 9) (G fr 10) (G fr 13) (G fr 15) (G fr 16) σ) (blockK 4 (thenK (fun fr σ => codeK X0 run .leaf (subC [true, false, true, true, true, true, false, true, false, false, true, false, false, true, true, true, false, true, false, false, true, true, false, false, true, false, true] b77) fr σ (blockK 3 (thenK (fun fr σ => s7 (G fr 2) (G fr 4) (G fr 7) (G fr 8) (G fr 9) (G fr 10) (G fr 13) (G fr 15) σ) (blockK 2 (noGotoK (thenK (fun fr σ => c77_4 run fu s2 (G fr 2) (G fr 4) (G fr 7) (G fr 8) (G fr 9) (G fr 10) (G fr 13) σ) (blockK 1 (thenK (fun fr σ => c77_3 run fu s2 (G fr 2) (G fr 4) (G fr 7) (G fr 8) (G fr 9) (G fr 10) σ) (thenK (fun fr σ => s2 (G fr 2) (G fr 4) (G fr 7) (G fr 8) (G fr 9) (G fr 10) σ) (blockK 0 (thenK (fun fr σ => c77_1 run fu (G fr 4) σ) (noGotoK k77)))))))))))) (blockK 3 (thenK (fun fr σ => s7 (G fr 2) (G fr 4) (G fr 7) (G fr 8) (G fr 9) (G fr 10) (G fr 13) (G fr 15) σ) (blockK 2 (noGotoK (thenK (fun fr σ => c77_4 run fu s2 (G fr 2) (G fr 4) (G fr 7) (G fr 8) (G fr 9) (G fr 10) (G fr 13) σ) (blockK 1 (thenK (fun fr σ => c77_3 run fu s2 (G fr 2) (G fr 4) (G fr 7) (G fr 8) (G fr 9) (G fr 10) σ) (thenK (fun fr σ => s2 (G fr 2) (G fr 4) (G fr 7) (G fr 8) (G fr 9) (G fr 10) σ) (blockK 0 (thenK (fun fr σ => c77_1 run fu (G fr 4) σ) (noGotoK k77)))))))))))))))) := fun fr σ =>
  KOK.piece env0 hrun [2, 4, 7, 8, 9, 10, 13, 15, 17, 18] (eq77_10 run fu s2 s7 s8 (G fr 2) (G fr 4) (G fr 7) (G fr 8) (G fr 9) (G fr 10) (G fr 13) (G fr 15) (G fr 17) (G fr 18) σ) ⟨trivial, ⟨trivial, ⟨trivial, ⟨trivial, ⟨⟨trivial, ⟨trivial, trivial⟩⟩, (ok77_11 hrun fu s2 s7 s8)⟩⟩⟩⟩⟩

noncomputable def c77_8b (run : RunT) (fu : Nat) (s2 : W6) (s7 : W8) (s8 : W9) (x2 x4 x7 x8 x9 x10 x13 x15 x16 : AV) (σ : Store) : Tr R :=
  cmpK .geq x16 (.int .i64 0) fun x87 =>
  ifK x87 (
  nchkK x15 fun x91 =>
  ld1K σ x91 fun x92 =>
  idxK 1 x92 x16 fun x94 =>
  ld1K σ x94 fun x95 =>
  nchkK x13 fun x97 =>
  addrK x97 0 fun x98 =>
  addrK x98 0 fun x99 =>
  ld1K σ x99 fun x100 =>
  idxSK x100 (.int .i64 0) fun x101 =>
  cmpK .eql x101 (.int .u8 42) fun x102 =>
  grdK x102 false σ (fun f => f x13 σ) fun x104 σ1 =>
  grdK x102 false σ1 (fun f => nchkK x104 fun v => f v σ1) fun x105 σ2 =>
  grdK x102 false σ2 (fun f => addrK x105 0 fun v => f v σ2) fun x106 σ3 =>
  grdK x102 false σ3 (fun f => addrK x106 0 fun v => f v σ3) fun x107 σ4 =>
  grdK x102 false σ4 (fun f => ld1K σ4 x107 fun v => f v σ4) fun x108 σ5 =>
  grdK x102 false σ5 (fun f => idxSK x108 (.int .i64 0) fun v => f v σ5) fun x109 σ6 =>
  grdK x102 false σ6 (fun f => cmpK .eql x109 (.int .u8 95) fun v => f v σ6) fun x110 σ7 =>
  pickK x102 (.bool true) x110 fun x111 =>
  grdK x111 true σ7 (fun f => f x13 σ7) fun x113 σ8 =>
  grdK x111 true σ8 (fun f => nchkK x113 fun v => f v σ8) fun x114 σ9 =>
  grdK x111 true σ9 (fun f => addrK x114 1 fun v => f v σ9) fun x115 σ10 =>
  grdK x111 true σ10 (fun f => ld1K σ10 x115 fun v => f v σ10) fun x116 σ11 =>
  grdK x111 true σ11 (fun f => f x116 σ11) fun x117 σ12 =>
  grdK x117 true σ12 (fun f => f x13 σ12) fun x118 σ13 =>
  grdK x117 true σ13 (fun f => nchkK x118 fun v => f v σ13) fun x119 σ14 =>
  grdK x117 true σ14 (fun f => addrK x119 2 fun v => f v σ14) fun x120 σ15 =>
  grdK x117 true σ15 (fun f => ld1K σ15 x120 fun v => f v σ15) fun x121 σ16 =>
  grdK x111 true σ16 (fun f => pickK x117 x121 (.bool false) fun v => f v σ16) fun x122 σ17 =>
  grdK x111 true σ17 (fun f => f x122 σ17) fun x123 σ18 =>
  grdK x123 false σ18 (fun f => f x95 σ18) fun x124 σ19 =>
  grdK x123 false σ19 (fun f => nchkK x124 fun v => f v σ19) fun x125 σ20 =>
  grdK x123 false σ20 (fun f => addrK x125 1 fun v => f v σ20) fun x126 σ21 =>
  grdK x123 false σ21 (fun f => ld1K σ21 x126 fun v => f v σ21) fun x127 σ22 =>
  grdK x123 false σ22 (fun f => f x127 σ22) fun x128 σ23 =>
  grdK x128 true σ23 (fun f => f x95 σ23) fun x129 σ24 =>
  grdK x128 true σ24 (fun f => nchkK x129 fun v => f v σ24) fun x130 σ25 =>
  grdK x128 true σ25 (fun f => addrK x130 2 fun v => f v σ25) fun x131 σ26 =>
  grdK x128 true σ26 (fun f => ld1K σ26 x131 fun v => f v σ26) fun x132 σ27 =>
  grdK x123 false σ27 (fun f => pickK x128 x132 (.bool false) fun v => f v σ27) fun x133 σ28 =>
  grdK x111 true σ28 (fun f => pickK x123 (.bool true) x133 fun v => f v σ28) fun x134 σ29 =>
  pickK x111 x134 (.bool false) fun x135 =>
  grdK x135 true σ29 (fun f => f x13 σ29) fun x137 σ30 =>
  grdK x135 true σ30 (fun f => nchkK x137 fun v => f v σ30) fun x138 σ31 =>
  grdK x135 true σ31 (fun f => addrK x138 4 fun v => f v σ31) fun x139 σ32 =>
  grdK x135 true σ32 (fun f => ld1K σ32 x139 fun v => f v σ32) fun x140 σ33 =>
  grdK x135 true σ33 (fun f => f x95 σ33) fun x141 σ34 =>
  grdK x135 true σ34 (fun f => nchkK x141 fun v => f v σ34) fun x142 σ35 =>
  grdK x135 true σ35 (fun f => addrK x142 4 fun v => f v σ35) fun x143 σ36 =>
  grdK x135 true σ36 (fun f => ld1K σ36 x143 fun v => f v σ36) fun x144 σ37 =>
  grdK x135 true σ37 (fun f => addK x140 x144 fun v => f v σ37) fun x145 σ38 =>
  grdK x135 true σ38 (fun f => remK x145 (.int .i64 3) fun v => f v σ38) fun x146 σ39 =>
  grdK x135 true σ39 (fun f => cmpK .eql x146 (.int .i64 0) fun v => f v σ39) fun x147 σ40 =>
  pickK x135 x147 (.bool false) fun x148 =>
  grdK x148 true σ40 (fun f => f x13 σ40) fun x150 σ41 =>
  grdK x148 true σ41 (fun f => nchkK x150 fun v => f v σ41) fun x151 σ42 =>
  grdK x148 true σ42 (fun f => addrK x151 4 fun v => f v σ42) fun x152 σ43 =>
  grdK x148 true σ43 (fun f => ld1K σ43 x152 fun v => f v σ43) fun x153 σ44 =>
  grdK x148 true σ44 (fun f => remK x153 (.int .i64 3) fun v => f v σ44) fun x154 σ45 =>
  grdK x148 true σ45 (fun f => cmpK .neq x154 (.int .i64 0) fun v => f v σ45) fun x155 σ46 =>
  grdK x148 true σ46 (fun f => f x155 σ46) fun x156 σ47 =>
  grdK x156 false σ47 (fun f => f x95 σ47) fun x157 σ48 =>
  grdK x156 false σ48 (fun f => nchkK x157 fun v => f v σ48) fun x158 σ49 =>
  grdK x156 false σ49 (fun f => addrK x158 4 fun v => f v σ49) fun x159 σ50 =>
  grdK x156 false σ50 (fun f => ld1K σ50 x159 fun v => f v σ50) fun x160 σ51 =>
  grdK x156 false σ51 (fun f => remK x160 (.int .i64 3) fun v => f v σ51) fun x161 σ52 =>
  grdK x156 false σ52 (fun f => cmpK .neq x161 (.int .i64 0) fun v => f v σ52) fun x162 σ53 =>
  grdK x148 true σ53 (fun f => pickK x156 (.bool true) x162 fun v => f v σ53) fun x163 σ54 =>
  pickK x148 x163 (.bool false) fun x164 =>
  ifK x164 (
  c77_9 run fu s2 s7 s8 x2 x4 x7 x8 x9 x10 x13 x15 x16 σ54) (
  nchkK x13 fun x166 =>
  addrK x166 0 fun x167 =>
  addrK x167 0 fun x168 =>
  ld1K σ54 x168 fun x169 =>
  idxSK x169 (.int .i64 0) fun x170 =>
  cmpK .eql x170 (.int .u8 126) fun x171 =>
  grdK x171 true σ54 (fun f => f x13 σ54) fun x173 σ55 =>
  grdK x171 true σ55 (fun f => nchkK x173 fun v => f v σ55) fun x174 σ56 =>
  grdK x171 true σ56 (fun f => addrK x174 0 fun v => f v σ56) fun x175 σ57 =>
  grdK x171 true σ57 (fun f => addrK x175 0 fun v => f v σ57) fun x176 σ58 =>
  grdK x171 true σ58 (fun f => ld1K σ58 x176 fun v => f v σ58) fun x177 σ59 =>
  grdK x171 true σ59 (fun f => lenSK x177 fun v => f v σ59) fun x178 σ60 =>
  grdK x171 true σ60 (fun f => f x95 σ60) fun x179 σ61 =>
  grdK x171 true σ61 (fun f => nchkK x179 fun v => f v σ61) fun x180 σ62 =>
  grdK x171 true σ62 (fun f => addrK x180 0 fun v => f v σ62) fun x181 σ63 =>
  grdK x171 true σ63 (fun f => addrK x181 0 fun v => f v σ63) fun x182 σ64 =>
  grdK x171 true σ64 (fun f => ld1K σ64 x182 fun v => f v σ64) fun x183 σ65 =>
  grdK x171 true σ65 (fun f => lenSK x183 fun v => f v σ65) fun x184 σ66 =>
  grdK x171 true σ66 (fun f => cmpK .neq x178 x184 fun v => f v σ66) fun x185 σ67 =>
  pickK x171 x185 (.bool false) fun x186 =>
  ifK x186 (
  c77_9 run fu s2 s7 s8 x2 x4 x7 x8 x9 x10 x13 x15 x16 σ67) (
  nchkK x13 fun x188 =>
  addrK x188 0 fun x189 =>
  addrK x189 0 fun x190 =>
  ld1K σ67 x190 fun x191 =>
  idxSK x191 (.int .i64 0) fun x192 =>
  cmpK .eql x192 (.int .u8 34) fun x193 =>
  ifK x193 (
  ld1K σ67 x4 fun x194 =>
  nchkK x95 fun x196 =>
  addrK x196 3 fun x197 =>
  ld1K σ67 x197 fun x198 =>
  idxK 1 x194 x198 fun x199 =>
  ld1K σ67 x199 fun x200 =>
  tasK (some .nilp) 185 false x200 fun x201 =>
  nchkK x201 fun x202 =>
  addrK x202 0 fun x203 =>
  addrK x203 0 fun x204 =>
  st1K σ67 x204 (.str [226, 128, 156]) fun _ σ68 =>
  nchkK x13 fun x206 =>
  addrK x206 0 fun x207 =>
  addrK x207 0 fun x208 =>
  st1K σ68 x208 (.str [226, 128, 157]) fun _ σ69 =>
  ld1K σ69 x4 fun x209 =>
  opt (fillK [.nili] [(0, 1, (.iface 185 x13))]) fun cs => newSK σ69 253 cs 1 1 fun x212 σ70 =>
  appK 126 1 16 σ70 x209 x212 fun x213 σ71 =>
  st1K σ71 x4 x213 fun _ σ72 =>
  nchkK x15 fun x216 =>
  ld1K σ72 x216 fun x217 =>
  sliceLK Tryz.prog σ72 204 x217 none (some x16) fun x219 =>
  nchkK x15 fun x220 =>
  st1K σ72 x220 x219 fun _ σ73 =>
  c77_3 run fu s2 x2 x4 x7 x8 x9 x10 σ73) (
  nchkK x13 fun x222 =>
  addrK x222 0 fun x223 =>
  addrK x223 0 fun x224 =>
  ld1K σ67 x224 fun x225 =>
  idxSK x225 (.int .i64 0) fun x226 =>
  cmpK .eql x226 (.int .u8 39) fun x227 =>
  ifK x227 (
  ld1K σ67 x4 fun x228 =>
  nchkK x95 fun x230 =>
  addrK x230 3 fun x231 =>
  ld1K σ67 x231 fun x232 =>
  idxK 1 x228 x232 fun x233 =>
  ld1K σ67 x233 fun x234 =>
  tasK (some .nilp) 185 false x234 fun x235 =>
  nchkK x235 fun x236 =>
  addrK x236 0 fun x237 =>
  addrK x237 0 fun x238 =>
  st1K σ67 x238 (.str [226, 128, 152]) fun _ σ74 =>
  nchkK x13 fun x240 =>
  addrK x240 0 fun x241 =>
  addrK x241 0 fun x242 =>
  st1K σ74 x242 (.str [226, 128, 153]) fun _ σ75 =>
  ld1K σ75 x4 fun x243 =>
  opt (fillK [.nili] [(0, 1, (.iface 185 x13))]) fun cs => newSK σ75 253 cs 1 1 fun x246 σ76 =>
  appK 126 1 16 σ76 x243 x246 fun x247 σ77 =>
  st1K σ77 x4 x247 fun _ σ78 =>
  nchkK x15 fun x250 =>
  ld1K σ78 x250 fun x251 =>
  sliceLK Tryz.prog σ78 204 x251 none (some x16) fun x253 =>
  nchkK x15 fun x254 =>
  st1K σ78 x254 x253 fun _ σ79 =>
  c77_3 run fu s2 x2 x4 x7 x8 x9 x10 σ79) (
  nchkK x13 fun x256 =>
  addrK x256 0 fun x257 =>
  addrK x257 0 fun x258 =>
  ld1K σ67 x258 fun x259 =>
  lenSK x259 fun x260 =>
  cmpK .geq x260 (.int .i64 2) fun x261 =>
  grdK x261 true σ67 (fun f => f x95 σ67) fun x263 σ80 =>
  grdK x261 true σ80 (fun f => nchkK x263 fun v => f v σ80) fun x264 σ81 =>
  grdK x261 true σ81 (fun f => addrK x264 0 fun v => f v σ81) fun x265 σ82 =>
  grdK x261 true σ82 (fun f => addrK x265 0 fun v => f v σ82) fun x266 σ83 =>
  grdK x261 true σ83 (fun f => ld1K σ83 x266 fun v => f v σ83) fun x267 σ84 =>
  grdK x261 true σ84 (fun f => lenSK x267 fun v => f v σ84) fun x268 σ85 =>
  grdK x261 true σ85 (fun f => cmpK .geq x268 (.int .i64 2) fun v => f v σ85) fun x269 σ86 =>
  pickK x261 x269 (.bool false) fun x270 =>
  ifK x270 (
  c77_10 run fu s2 s7 s8 x2 x4 x7 x8 x9 x10 x13 x15 x95 (.int .i64 2) σ86) (
  c77_10 run fu s2 s7 s8 x2 x4 x7 x8 x9 x10 x13 x15 x95 (.int .i64 1) σ86)))))) (
  c77_4 run fu s2 x2 x4 x7 x8 x9 x10 x13 σ)

noncomputable def c77_8 (run : RunT) (fu : Nat) (s2 : W6) (s7 : W8) : Nat → W9
  | 0 => fun _ _ _ _ _ _ _ _ _ _ => .fail
  | m + 1 => c77_8b run fu s2 s7 (c77_8 run fu s2 s7 m)

theorem eq77_8 (run : RunT) (fu : Nat) (s2 : W6) (s7 : W8) (s8 : W9) (x2 x4 x7 x8 x9 x10 x13 x15 x16 : AV) (σ : Store) : codeK X0 run (.seq (.seq .leaf (.cond .leaf .leaf)) (.seq (.block (.seq .leaf (.seq (.seq .leaf (.cond .leaf .leaf)) (.seq (.seq .leaf (.cond .leaf .leaf)) (.seq (.seq .leaf (.cond (.seq .leaf (.seq .leaf (.seq .leaf (.seq .leaf .leaf)))) .leaf)) (.seq (.seq .leaf (.cond (.seq .leaf (.seq .leaf (.seq .leaf (.seq .leaf .leaf)))) .leaf)) (.seq .leaf (.seq (.seq .leaf (.cond .leaf .leaf)) (.sub (fun fr σ => c77_10 run fu s2 s7 s8 (G fr 2) (G fr 4) (G fr 7) (G fr 8) (G fr 9) (G fr 10) (G fr 13) (G fr 15) (G fr 17) (G fr 18) σ)))))))))) (.sub (fun fr σ => c77_9 run fu s2 s7 s8 (G fr 2) (G fr 4) (G fr 7) (G fr 8) (G fr 9) (G fr 10) (G fr 13) (G fr 15) (G fr 16) σ)))) (subC [true, false, true, true, true, true, false, true, false, false, true, false, false, true, true, true, false, true, false, false, true, true, false, false, true, false, false, true, false, false] b77) (frS 0 436 [(2, x2), (4, x4), (7, x7), (8, x8), (9, x9), (10, x10), (13, x13), (15, x15), (16, x16)]) σ (thenK (fun fr σ => s8 (G fr 2) (G fr 4) (G fr 7) (G fr 8) (G fr 9) (G fr 10) (G fr 13) (G fr 15) (G fr 16) σ) (blockK 4 (thenK (fun fr σ => codeK X0 run .leaf (subC [true, false, true, true, true, true, false, true, false, false, true, false, false, true, true, true, false, true, false, false, true, true, false, false, true, false, true] b77) fr σ (blockK 3 (thenK (fun fr σ => s7 (G fr 2) (G fr 4) (G fr 7) (G fr 8) (G fr 9) (G fr 10) (G fr 13) (G fr 15) σ) (blockK 2 (noGotoK (thenK (fun fr σ => c77_4 run fu s2 (G fr 2) (G fr 4) (G fr 7) (G fr 8) (G fr 9) (G fr 10) (G fr 13) σ) (blockK 1 (thenK (fun fr σ => c77_3 run fu s2 (G fr 2) (G fr 4) (G fr 7) (G fr 8) (G fr 9) (G fr 10) σ) (thenK (fun fr σ => s2 (G fr 2) (G fr 4) (G fr 7) (G fr 8) (G fr 9) (G fr 10) σ) (blockK 0 (thenK (fun fr σ => c77_1 run fu (G fr 4) σ) (noGotoK k77)))))))))))) (blockK 3 (thenK (fun fr σ => s7 (G fr 2) (G fr 4) (G fr 7) (G fr 8) (G fr 9) (G fr 10) (G fr 13) (G fr 15) σ) (blockK 2 (noGotoK (thenK (fun fr σ => c77_4 run fu s2 (G fr 2) (G fr 4) (G fr 7) (G fr 8) (G fr 9) (G fr 10) (G fr 13) σ) (blockK 1 (thenK (fun fr σ => c77_3 run fu s2 (G fr 2) (G fr 4) (G fr 7) (G fr 8) (G fr 9) (G fr 10) σ) (thenK (fun fr σ => s2 (G fr 2) (G fr 4) (G fr 7) (G fr 8) (G fr 9) (G fr 10) σ) (blockK 0 (thenK (fun fr σ => c77_1 run fu (G fr 4) σ) (noGotoK k77)))))))))))))) = c77_8b run fu s2 s7 s8 x2 x4 x7 x8 x9 x10 x13 x15 x16 σ := by kernel_rfl

theorem owed77_8 {run : RunT} (hrun : RunOK X0 run) (fu : Nat) (s2 : W6) (s7 : W8) (s8 : W9) : Owes X0 run 436 (.seq (.seq .leaf (.cond .leaf .leaf)) (.seq (.block (.seq .leaf (.seq (.seq .leaf (.cond .leaf .leaf)) (.seq (.seq .leaf (.cond .leaf .leaf)) (.seq (.seq .leaf (.cond (.seq .leaf (.seq .leaf (.seq .leaf (.seq .leaf .leaf)))) .leaf)) (.seq (.seq .leaf (.cond (.seq .leaf (.seq .leaf (.seq .leaf (.seq .leaf .leaf)))) .leaf)) (.seq .leaf (.seq (.seq .leaf (.cond .leaf .leaf)) (.sub (fun fr σ => c77_10 run fu s2 s7 s8 (G fr 2) (G fr 4) (G fr 7) (G fr 8) (G fr 9) (G fr 10) (G fr 13) (G fr 15) (G fr 17) (G fr 18) σ)))))))))) (.sub (fun fr σ => c77_9 run fu s2 s7 s8 (G fr 2) (G fr 4) (G fr 7) (G fr 8) (G fr 9) (G fr 10) (G fr 13) (G fr 15) (G fr 16) σ)))) (subC [true, false, true, true, true, true, false, true, false, false, true, false, false, true, true, true, false, true, false, false, true, true, false, false, true, false, false, true, false, false] b77) (thenK (fun fr σ => s8 (G fr 2) (G fr 4) (G fr 7) (G fr 8) (G fr 9) (G fr 10) (G fr 13) (G fr 15) (G fr 16) σ) (blockK 4 (thenK (fun fr σ => codeK X0 run .leaf (subC [true, false, true, true, true, true, false, true, false, false, true, false, false, true, true, true, false, true, false, false, true, true, false, false, true, false, true] b77) fr σ (blockK 3 (thenK (fun fr σ => s7 (G fr 2) (G fr 4) (G fr 7) (G fr 8) (G fr 9) (G fr 10) (G fr 13) (G fr 15) σ) (blockK 2 (noGotoK (thenK (fun fr σ => c77_4 run fu s2 (G fr 2) (G fr 4) (G fr 7) (G fr 8) (G fr 9) (G fr 10) (G fr 13) σ) (blockK 1 (thenK (fun fr σ => c77_3 run fu s2 (G fr 2) (G fr 4) (G fr 7) (G fr 8) (G fr 9) (G fr 10) σ) (thenK (fun fr σ => s2 (G fr 2) (G fr 4) (G fr 7) (G fr 8) (G fr 9) (G fr 10) σ) (blockK 0 (thenK (fun fr σ => c77_1 run fu (G fr 4) σ) (noGotoK k77)))))))))))) (blockK 3 (thenK (fun fr σ => s7 (G fr 2) (G fr 4) (G fr 7) (G fr 8) (G fr 9) (G fr 10) (G fr 13) (G fr 15) σ) (blockK 2 (noGotoK (thenK (fun fr σ => c77_4 run fu s2 (G fr 2) (G fr 4) (G fr 7) (G fr 8) (G fr 9) (G fr 10) (G fr 13) σ) (blockK 1 (thenK (fun fr σ => c77_3 run fu s2 (G fr 2) (G fr 4) (G fr 7) (G fr 8) (G fr 9) (G fr 10) σ) (thenK (fun fr σ => s2 (G fr 2) (G fr 4) (G fr 7) (G fr 8) (G fr 9) (G fr 10) σ) (blockK 0 (thenK (fun fr σ => c77_1 run fu (G fr 4) σ) (noGotoK k77)))))))))))))) :=
  ⟨⟨trivial, ⟨trivial, trivial⟩⟩, ⟨⟨trivial, ⟨⟨trivial, ⟨trivial, trivial⟩⟩, ⟨⟨trivial, ⟨trivial, trivial⟩⟩, ⟨⟨trivial, ⟨⟨trivial, ⟨trivial, ⟨trivial, ⟨trivial, trivial⟩⟩⟩⟩, trivial⟩⟩, ⟨⟨trivial, ⟨⟨trivial, ⟨trivial, ⟨trivial, ⟨trivial, trivial⟩⟩⟩⟩, trivial⟩⟩, ⟨trivial, ⟨⟨trivial, ⟨trivial, trivial⟩⟩, (ok77_10 hrun fu s2 s7 s8)⟩⟩⟩⟩⟩⟩⟩, (ok77_9 hrun fu s2 s7 s8)⟩⟩

theorem ok77_8 {run : RunT} (hrun : RunOK X0 run) (fu : Nat) (s2 : W6) (s7 : W8) : ∀ fr σ, KOK X0 436 (subC [true, false, true, true, true, true, false, true, false, false, true, false, false, true, true, true, false, true, false, false, true, true, false, false, true, false, false, true, false] b77) fr σ ((fun fr σ => c77_8 run fu s2 s7 fu (G fr 2) (G fr 4) (G fr 7) (G fr 8) (G fr 9) (G fr 10) (G fr 13) (G fr 15) (G fr 16) σ) fr σ) (blockK 4 (thenK (fun fr σ => codeK X0 run .leaf (subC [true, false, true, true, true, true, false, true, false, false, true, false, false, true, true, true, false, true, false, false, true, true, false, false, true, false, true] b77) fr σ (blockK 3 (thenK (fun fr σ => s7 (G fr 2) (G fr 4) (G fr 7) (G fr 8) (G fr 9) (G fr 10) (G fr 13) (G fr 15) σ) (blockK 2 (noGotoK (thenK (fun fr σ => c77_4 run fu s2 (G fr 2) (G fr 4) (G fr 7) (G fr 8) (G fr 9) (G fr 10) (G fr 13) σ) (blockK 1 (thenK (fun fr σ => c77_3 run fu s2 (G fr 2) (G fr 4) (G fr 7) (G fr 8) (G fr 9) (G fr 10) σ) (thenK (fun fr σ => s2 (G fr 2) (G fr 4) (G fr 7) (G fr 8) (G fr 9) (G fr 10) σ) (blockK 0 (thenK (fun fr σ => c77_1 run fu (G fr 4) σ) (noGotoK k77)))))))))))) (blockK 3 (thenK (fun fr σ => s7 (G fr 2) (G fr 4) (G fr 7) (G fr 8) (G fr 9) (G fr 10) (G fr 13) (G fr 15) σ) (blockK 2 (noGotoK (thenK (fun fr σ => c77_4 run fu s2 (G fr 2) (G fr 4) (G fr 7) (G fr 8) (G fr 9) (G fr 10) (G fr 13) σ) (blockK 1 (thenK (fun fr σ => c77_3 run fu s2 (G fr 2) (G fr 4) (G fr 7) (G fr 8) (G fr 9) (G fr 10) σ) (thenK (fun fr σ => s2 (G fr 2) (G fr 4) (G fr 7) (G fr 8) (G fr 9) (G fr 10) σ) (blockK 0 (thenK (fun fr σ => c77_1 run fu (G fr 4) σ) (noGotoK k77))))))))))))) := by
  have h := KOK.loop (X := X0) (N := 436) (b := (subC [true, false, true, true, true, true, false, true, false, false, true, false, false, true, true, true, false, true, false, false, true, true, false, false, true, false, false, true, false, false] b77)) (k := (blockK 4 (thenK (fun fr σ => codeK X0 run .leaf (subC [true, false, true, true, true, true, false, true, false, false, true, false, false, true, true, true, false, true, false, false, true, true, false, false, true, false, true] b77) fr σ (blockK 3 (thenK (fun fr σ => s7 (G fr 2) (G fr 4) (G fr 7) (G fr 8) (G fr 9) (G fr 10) (G fr 13) (G fr 15) σ) (blockK 2 (noGotoK (thenK (fun fr σ => c77_4 run fu s2 (G fr 2) (G fr 4) (G fr 7) (G fr 8) (G fr 9) (G fr 10) (G fr 13) σ) (blockK 1 (thenK (fun fr σ => c77_3 run fu s2 (G fr 2) (G fr 4) (G fr 7) (G fr 8) (G fr 9) (G fr 10) σ) (thenK (fun fr σ => s2 (G fr 2) (G fr 4) (G fr 7) (G fr 8) (G fr 9) (G fr 10) σ) (blockK 0 (thenK (fun fr σ => c77_1 run fu (G fr 4) σ) (noGotoK k77)))))))))))) (blockK 3 (thenK (fun fr σ => s7 (G fr 2) (G fr 4) (G fr 7) (G fr 8) (G fr 9) (G fr 10) (G fr 13) (G fr 15) σ) (blockK 2 (noGotoK (thenK (fun fr σ => c77_4 run fu s2 (G fr 2) (G fr 4) (G fr 7) (G fr 8) (G fr 9) (G fr 10) (G fr 13) σ) (blockK 1 (thenK (fun fr σ => c77_3 run fu s2 (G fr 2) (G fr 4) (G fr 7) (G fr 8) (G fr 9) (G fr 10) σ) (thenK (fun fr σ => s2 (G fr 2) (G fr 4) (G fr 7) (G fr 8) (G fr 9) (G fr 10) σ) (blockK 0 (thenK (fun fr σ => c77_1 run fu (G fr 4) σ) (noGotoK k77)))))))))))))) (u := fun m fr σ => c77_8 run fu s2 s7 m (G fr 2) (G fr 4) (G fr 7) (G fr 8) (G fr 9) (G fr 10) (G fr 13) (G fr 15) (G fr 16) σ) (fun _ _ => rfl) (fun m fr σ => KOK.piece env0 hrun [2, 4, 7, 8, 9, 10, 13, 15, 16] (eq77_8 run fu s2 s7 (c77_8 run fu s2 s7 m) (G fr 2) (G fr 4) (G fr 7) (G fr 8) (G fr 9) (G fr 10) (G fr 13) (G fr 15) (G fr 16) σ) (owed77_8 hrun fu s2 s7 (c77_8 run fu s2 s7 m)))
  exact fun fr σ => h fu fr σ

noncomputable def c77_7b (run : RunT) (fu : Nat) (s2 : W6) (s7 : W8) (x2 x4 x7 x8 x9 x10 x13 x15 : AV) (σ : Store) : Tr R :=
  nchkK x13 fun x76 =>
  addrK x76 0 fun x77 =>
  addrK x77 0 fun x78 =>
  ld1K σ x78 fun x79 =>
  neSK x79 (.str []) fun x80 =>
  ifK x80 (
  nchkK x15 fun x82 =>
  ld1K σ x82 fun x83 =>
  lenLK x83 fun x84 =>
  subK x84 (.int .i64 1) fun x85 =>
  c77_8 run fu s2 s7 fu x2 x4 x7 x8 x9 x10 x13 x15 x85 σ) (
  c77_4 run fu s2 x2 x4 x7 x8 x9 x10 x13 σ)

noncomputable def c77_7 (run : RunT) (fu : Nat) (s2 : W6) : Nat → W8
  | 0 => fun _ _ _ _ _ _ _ _ _ => .fail
  | m + 1 => c77_7b run fu s2 (c77_7 run fu s2 m)

theorem eq77_7 (run : RunT) (fu : Nat) (s2 : W6) (s7 : W8) (x2 x4 x7 x8 x9 x10 x13 x15 : AV) (σ : Store) : codeK X0 run (.seq (.seq .leaf (.cond .leaf .leaf)) (.block (.seq (.seq .leaf (.block (.sub (fun fr σ => c77_8 run fu s2 s7 fu (G fr 2) (G fr 4) (G fr 7) (G fr 8) (G fr 9) (G fr 10) (G fr 13) (G fr 15) (G fr 16) σ)))) .leaf))) (subC [true, false, true, true, true, true, false, true, false, false, true, false, false, true, true, true, false, true, false, false, true, true, false, false] b77) (frS 0 436 [(2, x2), (4, x4), (7, x7), (8, x8), (9, x9), (10, x10), (13, x13), (15, x15)]) σ (thenK (fun fr σ => s7 (G fr 2) (G fr 4) (G fr 7) (G fr 8) (G fr 9) (G fr 10) (G fr 13) (G fr 15) σ) (blockK 2 (noGotoK (thenK (fun fr σ => c77_4 run fu s2 (G fr 2) (G fr 4) (G fr 7) (G fr 8) (G fr 9) (G fr 10) (G fr 13) σ) (blockK 1 (thenK (fun fr σ => c77_3 run fu s2 (G fr 2) (G fr 4) (G fr 7) (G fr 8) (G fr 9) (G fr 10) σ) (thenK (fun fr σ => s2 (G fr 2) (G fr 4) (G fr 7) (G fr 8) (G fr 9) (G fr 10) σ) (blockK 0 (thenK (fun fr σ => c77_1 run fu (G fr 4) σ) (noGotoK k77)))))))))) = c77_7b run fu s2 s7 x2 x4 x7 x8 x9 x10 x13 x15 σ := by kernel_rfl

theorem owed77_7 {run : RunT} (hrun : RunOK X0 run) (fu : Nat) (s2 : W6) (s7 : W8) : Owes X0 run 436 (.seq (.seq .leaf (.cond .leaf .leaf)) (.block (.seq (.seq .leaf (.block (.sub (fun fr σ => c77_8 run fu s2 s7 fu (G fr 2) (G fr 4) (G fr 7) (G fr 8) (G fr 9) (G fr 10) (G fr 13) (G fr 15) (G fr 16) σ)))) .leaf))) (subC [true, false, true, true, true, true, false, true, false, false, true, false, false, true, true, true, false, true, false, false, true, true, false, false] b77) (thenK (fun fr σ => s7 (G fr 2) (G fr 4) (G fr 7) (G fr 8) (G fr 9) (G fr 10) (G fr 13) (G fr 15) σ) (blockK 2 (noGotoK (thenK (fun fr σ => c77_4 run fu s2 (G fr 2) (G fr 4) (G fr 7) (G fr 8) (G fr 9) (G fr 10) (G fr 13) σ) (blockK 1 (thenK (fun fr σ => c77_3 run fu s2 (G fr 2) (G fr 4) (G fr 7) (G fr 8) (G fr 9) (G fr 10) σ) (thenK (fun fr σ => s2 (G fr 2) (G fr 4) (G fr 7) (G fr 8) (G fr 9) (G fr 10) σ) (blockK 0 (thenK (fun fr σ => c77_1 run fu (G fr 4) σ) (noGotoK k77)))))))))) :=
  ⟨⟨trivial, ⟨trivial, trivial⟩⟩, ⟨⟨trivial, (ok77_8 hrun fu s2 s7)⟩, trivial⟩⟩

theorem ok77_7 {run : RunT} (hrun : RunOK X0 run) (fu : Nat) (s2 : W6) : ∀ fr σ, KOK X0 436 (subC [true, false, true, true, true, true, false, true, false, false, true, false, false, true, true, true, false, true, false, false, true, true, false] b77) fr σ ((fun fr σ => c77_7 run fu s2 fu (G fr 2) (G fr 4) (G fr 7) (G fr 8) (G fr 9) (G fr 10) (G fr 13) (G fr 15) σ) fr σ) (blockK 2 (noGotoK (thenK (fun fr σ => c77_4 run fu s2 (G fr 2) (G fr 4) (G fr 7) (G fr 8) (G fr 9) (G fr 10) (G fr 13) σ) (blockK 1 (thenK (fun fr σ => c77_3 run fu s2 (G fr 2) (G fr 4) (G fr 7) (G fr 8) (G fr 9) (G fr 10) σ) (thenK (fun fr σ => s2 (G fr 2) (G fr 4) (G fr 7) (G fr 8) (G fr 9) (G fr 10) σ) (blockK 0 (thenK (fun fr σ => c77_1 run fu (G fr 4) σ) (noGotoK k77))))))))) := by
  have h := KOK.loop (X := X0) (N := 436) (b := (subC [true, false, true, true, true, true, false, true, false, false, true, false, false, true, true, true, false, true, false, false, true, true, false, false] b77)) (k := (blockK 2 (noGotoK (thenK (fun fr σ => c77_4 run fu s2 (G fr 2) (G fr 4) (G fr 7) (G fr 8) (G fr 9) (G fr 10) (G fr 13) σ) (blockK 1 (thenK (fun fr σ => c77_3 run fu s2 (G fr 2) (G fr 4) (G fr 7) (G fr 8) (G fr 9) (G fr 10) σ) (thenK (fun fr σ => s2 (G fr 2) (G fr 4) (G fr 7) (G fr 8) (G fr 9) (G fr 10) σ) (blockK 0 (thenK (fun fr σ => c77_1 run fu (G fr 4) σ) (noGotoK k77)))))))))) (u := fun m fr σ => c77_7 run fu s2 m (G fr 2) (G fr 4) (G fr 7) (G fr 8) (G fr 9) (G fr 10) (G fr 13) (G fr 15) σ) (fun _ _ => rfl) (fun m fr σ => KOK.piece env0 hrun [2, 4, 7, 8, 9, 10, 13, 15] (eq77_7 run fu s2 (c77_7 run fu s2 m) (G fr 2) (G fr 4) (G fr 7) (G fr 8) (G fr 9) (G fr 10) (G fr 13) (G fr 15) σ) (owed77_7 hrun fu s2 (c77_7 run fu s2 m)))
  exact fun fr σ => h fu fr σ

noncomputable def c77_2b (run : RunT) (fu : Nat) (s2 : W6) (x2 x4 x7 x8 x9 x10 : AV) (σ : Store) : Tr R :=
  lenLK x2 fun x25 =>
  cmpK .lss x10 x25 fun x26 =>
  ifK x26 (
  idxK 1 x2 x10 fun x32 =>
  ld1K σ x32 fun x33 =>
  tasK (some .nilp) 128 true x33 fun x34 =>
  extK x34 0 fun x35 =>
  extK x34 1 fun x36 =>
  ifK x36 (
  ld1K σ x4 fun x38 =>
  nchkK x35 fun x40 =>
  addrK x40 0 fun x41 =>
  opt (fillK [.nili] [(0, 1, (.iface 150 x41))]) fun cs => newSK σ 253 cs 1 1 fun x43 σ1 =>
  appK 126 1 16 σ1 x38 x43 fun x44 σ2 =>
  st1K σ2 x4 x44 fun _ σ3 =>
  ld1K σ1 x4 fun v4 =>
  must (AV.beq v4 x38) (
  c77_3 run fu s2 x2 x4 x7 x8 x9 x10 σ3)) (
  idxK 1 x2 x10 fun x48 =>
  ld1K σ x48 fun x49 =>
  tasK (some .nilp) 185 true x49 fun x50 =>
  extK x50 0 fun x51 =>
  extK x50 1 fun x52 =>
  notK x52 fun x54 =>
  ifK x54 (
  ld1K σ x4 fun x55 =>
  idxK 1 x2 x10 fun x58 =>
  ld1K σ x58 fun x59 =>
  opt (fillK [.nili] [(0, 1, x59)]) fun cs => newSK σ 253 cs 1 1 fun x60 σ5 =>
  appK 126 1 16 σ5 x55 x60 fun x61 σ6 =>
  st1K σ6 x4 x61 fun _ σ7 =>
  ld1K σ5 x4 fun v8 =>
  must (AV.beq v8 x55) (
  c77_3 run fu s2 x2 x4 x7 x8 x9 x10 σ7)) (
  nchkK x51 fun x63 =>
  addrK x63 2 fun x64 =>
  ld1K σ x64 fun x65 =>
  ifK x65 (
  nchkK x51 fun x68 =>
  addrK x68 0 fun x69 =>
  addrK x69 0 fun x70 =>
  ld1K σ x70 fun x71 =>
  idxSK x71 (.int .i64 0) fun x72 =>
  dynK X0 run x8 [x72] σ fun x73 σ9 =>
  idxArrK 5 1 x7 x73 fun x74 =>
  c77_7 run fu s2 fu x2 x4 x7 x8 x9 x10 x51 x74 σ9) (
  c77_4 run fu s2 x2 x4 x7 x8 x9 x10 x51 σ)))) (
  c77_1 run fu x4 σ)

noncomputable def c77_2 (run : RunT) (fu : Nat) : Nat → W6
  | 0 => fun _ _ _ _ _ _ _ => .fail
  | m + 1 => c77_2b run fu (c77_2 run fu m)

theorem eq77_2 (run : RunT) (fu : Nat) (s2 : W6) (x2 x4 x7 x8 x9 x10 : AV) (σ : Store) : codeK X0 run (.seq (.seq .leaf (.cond .leaf .leaf)) (.seq (.block (.seq (.seq .leaf (.seq .leaf (.cond (.seq .leaf .leaf) .leaf))) (.seq .leaf (.seq (.seq .leaf (.cond (.seq .leaf .leaf) .leaf)) (.seq (.seq .leaf (.cond (.scope (.seq .leaf (.seq .leaf (.block (.sub (fun fr σ => c77_7 run fu s2 fu (G fr 2) (G fr 4) (G fr 7) (G fr 8) (G fr 9) (G fr 10) (G fr 13) (G fr 15) σ)))))) .leaf)) (.sub (fun fr σ => c77_4 run fu s2 (G fr 2) (G fr 4) (G fr 7) (G fr 8) (G fr 9) (G fr 10) (G fr 13) σ))))))) (.sub (fun fr σ => c77_3 run fu s2 (G fr 2) (G fr 4) (G fr 7) (G fr 8) (G fr 9) (G fr 10) σ)))) (subC [true, false, true, true, true, true, false, true, false, false] b77) (frS 0 436 [(2, x2), (4, x4), (7, x7), (8, x8), (9, x9), (10, x10)]) σ (thenK (fun fr σ => s2 (G fr 2) (G fr 4) (G fr 7) (G fr 8) (G fr 9) (G fr 10) σ) (blockK 0 (thenK (fun fr σ => c77_1 run fu (G fr 4) σ) (noGotoK k77)))) = c77_2b run fu s2 x2 x4 x7 x8 x9 x10 σ := by kernel_rfl

theorem owed77_2 {run : RunT} (hrun : RunOK X0 run) (fu : Nat) (s2 : W6) : Owes X0 run 436 (.seq (.seq .leaf (.cond .leaf .leaf)) (.seq (.block (.seq (.seq .leaf (.seq .leaf (.cond (.seq .leaf .leaf) .leaf))) (.seq .leaf (.seq (.seq .leaf (.cond (.seq .leaf .leaf) .leaf)) (.seq (.seq .leaf (.cond (.scope (.seq .leaf (.seq .leaf (.block (.sub (fun fr σ => c77_7 run fu s2 fu (G fr 2) (G fr 4) (G fr 7) (G fr 8) (G fr 9) (G fr 10) (G fr 13) (G fr 15) σ)))))) .leaf)) (.sub (fun fr σ => c77_4 run fu s2 (G fr 2) (G fr 4) (G fr 7) (G fr 8) (G fr 9) (G fr 10) (G fr 13) σ))))))) (.sub (fun fr σ => c77_3 run fu s2 (G fr 2) (G fr 4) (G fr 7) (G fr 8) (G fr 9) (G fr 10) σ)))) (subC [true, false, true, true, true, true, false, true, false, false] b77) (thenK (fun fr σ => s2 (G fr 2) (G fr 4) (G fr 7) (G fr 8) (G fr 9) (G fr 10) σ) (blockK 0 (thenK (fun fr σ => c77_1 run fu (G fr 4) σ) (noGotoK k77)))) :=
  ⟨⟨trivial, ⟨trivial, trivial⟩⟩, ⟨⟨⟨trivial, ⟨trivial, ⟨⟨trivial, trivial⟩, trivial⟩⟩⟩, ⟨trivial, ⟨⟨trivial, ⟨⟨trivial, trivial⟩, trivial⟩⟩, ⟨⟨trivial, ⟨⟨trivial, ⟨trivial, (ok77_7 hrun fu s2)⟩⟩, trivial⟩⟩, (ok77_4 hrun fu s2)⟩⟩⟩⟩, (ok77_3 hrun fu s2)⟩⟩

theorem ok77_2 {run : RunT} (hrun : RunOK X0 run) (fu : Nat) : ∀ fr σ, KOK X0 436 (subC [true, false, true, true, true, true, false, true, false] b77) fr σ ((fun fr σ => c77_2 run fu fu (G fr 2) (G fr 4) (G fr 7) (G fr 8) (G fr 9) (G fr 10) σ) fr σ) (blockK 0 (thenK (fun fr σ => c77_1 run fu (G fr 4) σ) (noGotoK k77))) := by
  have h := KOK.loop (X := X0) (N := 436) (b := (subC [true, false, true, true, true, true, false, true, false, false] b77)) (k := (blockK 0 (thenK (fun fr σ => c77_1 run fu (G fr 4) σ) (noGotoK k77)))) (u := fun m fr σ => c77_2 run fu m (G fr 2) (G fr 4) (G fr 7) (G fr 8) (G fr 9) (G fr 10) σ) (fun _ _ => rfl) (fun m fr σ => KOK.piece env0 hrun [2, 4, 7, 8, 9, 10] (eq77_2 run fu (c77_2 run fu m) (G fr 2) (G fr 4) (G fr 7) (G fr 8) (G fr 9) (G fr 10) σ) (owed77_2 hrun fu (c77_2 run fu m)))
  exact fun fr σ => h fu fr σ

noncomputable def c77 (run : RunT) (fu : Nat) (x0 x1 x2 : AV) (σ : Store) : Tr R :=
  boxK σ 169 x1 fun x4 σ1 =>
  newK σ1 411 [.nils, .nils, .nils, .nils, .nils] fun x7 σ2 =>
  c77_2 run fu fu x2 x4 x7 (.fn (.func 115) [] []) (.fn (.func 116) [] [x7, x4]) (.int .i64 0) σ2

theorem eq77 (run : RunT) (fu : Nat) (x0 x1 x2 : AV) (σ : Store) : codeK X0 run (.seq .leaf (.scope (.seq .leaf (.seq .leaf (.seq .leaf (.seq .leaf (.seq (.seq .leaf (.block (.sub (fun fr σ => c77_2 run fu fu (G fr 2) (G fr 4) (G fr 7) (G fr 8) (G fr 9) (G fr 10) σ)))) (.sub (fun fr σ => c77_1 run fu (G fr 4) σ))))))))) (subC [] b77) ([x0, x1, x2] ++ padA (436 - 3)) σ k77 = c77 run fu x0 x1 x2 σ := by kernel_rfl

theorem ok77 {run : RunT} (hrun : RunOK X0 run) (fu : Nat) (x0 x1 x2 : AV) (σ : Store) : CallOK X0 77 [x0, x1, x2] σ (c77 run fu x0 x1 x2 σ) :=
  KOK.body (fn := Tryz.f77) (c := subC [] b77) (by kernel_rfl) (by kernel_rfl) (by show 3 ≤ 436; decide) (KOK.whole env0 hrun (eq77 run fu x0 x1 x2 σ) ⟨trivial, ⟨trivial, ⟨trivial, ⟨trivial, ⟨trivial, ⟨⟨trivial, (ok77_2 hrun fu)⟩, (ok77_1 hrun fu)⟩⟩⟩⟩⟩⟩)

-- (*pub-paratext/pub/rscmarkdown.parseState).mergePlain

noncomputable def b78 : Code := match Tryz.f78.body with | some c => c | none => .skip

noncomputable def k78 : Kont R := retK Tryz.prog [.tmp 4]

noncomputable def c78_1 (run : RunT) (fu : Nat) (x5 : AV) (σ : Store) : Tr R :=
  .ret (x5, σ)

theorem eq78_1 (run : RunT) (fu : Nat) (x5 : AV) (σ : Store) : codeK X0 run (.seq .leaf .leaf) (subC [true, true, true, true] b78) (frS 0 50 [(5, x5)]) σ k78 = c78_1 run fu x5 σ := by kernel_rfl

theorem ok78_1 {run : RunT} (hrun : RunOK X0 run) (fu : Nat) : ∀ fr σ, KOK X0 50 (subC [true, true, true, true] b78) fr σ ((fun fr σ => c78_1 run fu (G fr 5) σ) fr σ) k78 := fun fr σ =>
  KOK.piece env0 hrun [5] (eq78_1 run fu (G fr 5) σ) ⟨trivial, trivial⟩

noncomputable def c78_3 (run : RunT) (fu : Nat) (s2 : W4) (x1 x5 x6 x7 : AV) (σ : Store) : Tr R :=
  addK x7 (.int .i64 1) fun x11 =>
  s2 x1 x5 x6 x11 σ

theorem eq78_3 (run : RunT) (fu : Nat) (s2 : W4) (x1 x5 x6 x7 : AV) (σ : Store) : codeK X0 run .leaf (subC [true, true, true, false, true, false, false, true] b78) (frS 0 50 [(1, x1), (5, x5), (6, x6), (7, x7)]) σ (thenK (fun fr σ => s2 (G fr 1) (G fr 5) (G fr 6) (G fr 7) σ) (blockK 0 (thenK (fun fr σ => c78_1 run fu (G fr 5) σ) k78))) = c78_3 run fu s2 x1 x5 x6 x7 σ := by kernel_rfl

theorem ok78_3 {run : RunT} (hrun : RunOK X0 run) (fu : Nat) (s2 : W4) : ∀ fr σ, KOK X0 50 (subC [true, true, true, false, true, false, false, true] b78) fr σ ((fun fr σ => c78_3 run fu s2 (G fr 1) (G fr 5) (G fr 6) (G fr 7) σ) fr σ) (thenK (fun fr σ => s2 (G fr 1) (G fr 5) (G fr 6) (G fr 7) σ) (blockK 0 (thenK (fun fr σ => c78_1 run fu (G fr 5) σ) k78))) := fun fr σ =>
  KOK.piece env0 hrun [1, 5, 6, 7] (eq78_3 run fu s2 (G fr 1) (G fr 5) (G fr 6) (G fr 7) σ) trivial

noncomputable def c78_4 (run : RunT) (fu : Nat) (s2 : W4) (x1 x5 x7 : AV) (σ : Store) : Tr R :=
  lenLK x1 fun x38 =>
  cmpK .geq x7 x38 fun x39 =>
  ifK x39 (
  c78_1 run fu x5 σ) (
  idxK 1 x1 x7 fun x43 =>
  ld1K σ x43 fun x44 =>
  opt (fillK [.nili] [(0, 1, x44)]) fun cs => newSK σ 253 cs 1 1 fun x45 σ1 =>
  appK 126 1 16 σ1 x5 x45 fun x46 σ2 =>
  addK x7 (.int .i64 1) fun x48 =>
  c78_3 run fu s2 x1 x46 x48 x7 σ2)

theorem eq78_4 (run : RunT) (fu : Nat) (s2 : W4) (x1 x5 x7 : AV) (σ : Store) : codeK X0 run (.seq (.seq .leaf (.cond .leaf .leaf)) (.seq .leaf .leaf)) (subC [true, true, true, false, true, false, false, false, false, true, true] b78) (frS 0 50 [(1, x1), (5, x5), (7, x7)]) σ (blockK 1 (thenK (fun fr σ => c78_3 run fu s2 (G fr 1) (G fr 5) (G fr 6) (G fr 7) σ) (thenK (fun fr σ => s2 (G fr 1) (G fr 5) (G fr 6) (G fr 7) σ) (blockK 0 (thenK (fun fr σ => c78_1 run fu (G fr 5) σ) k78))))) = c78_4 run fu s2 x1 x5 x7 σ := by kernel_rfl

theorem ok78_4 {run : RunT} (hrun : RunOK X0 run) (fu : Nat) (s2 : W4) : ∀ fr σ, KOK X0 50 (subC [true, true, true, false, true, false, false, false, false, true, true] b78) fr σ ((fun fr σ => c78_4 run fu s2 (G fr 1) (G fr 5) (G fr 7) σ) fr σ) (blockK 1 (thenK (fun fr σ => c78_3 run fu s2 (G fr 1) (G fr 5) (G fr 6) (G fr 7) σ) (thenK (fun fr σ => s2 (G fr 1) (G fr 5) (G fr 6) (G fr 7) σ) (blockK 0 (thenK (fun fr σ => c78_1 run fu (G fr 5) σ) k78))))) := fun fr σ =>
  KOK.piece env0 hrun [1, 5, 7] (eq78_4 run fu s2 (G fr 1) (G fr 5) (G fr 7) σ) ⟨⟨trivial, ⟨trivial, trivial⟩⟩, ⟨trivial, trivial⟩⟩

noncomputable def c78_2b (run : RunT) (fu : Nat) (s2 : W4) (x1 x5 x6 x7 : AV) (σ : Store) : Tr R :=
  lenLK x1 fun x14 =>
  cmpK .lss x7 x14 fun x15 =>
  grdK x15 true σ (fun f => f x1 σ) fun x17 σ1 =>
  grdK x15 true σ1 (fun f => f x7 σ1) fun x18 σ2 =>
  grdK x15 true σ2 (fun f => idxK 1 x17 x18 fun v => f v σ2) fun x19 σ3 =>
  grdK x15 true σ3 (fun f => ld1K σ3 x19 fun v => f v σ3) fun x20 σ4 =>
  grdK x15 true σ4 (fun f => calK run 117 [x20] σ4 f) fun x21 σ5 =>
  grdK x15 true σ5 (fun f => neOK (nilEq nilP) x21 .nilp fun v => f v σ5) fun x22 σ6 =>
  pickK x15 x22 (.bool false) fun x23 =>
  ifK x23 (
  c78_3 run fu s2 x1 x5 x6 x7 σ6) (
  cmpK .lss x6 x7 fun x26 =>
  ifK x26 (
  sliceLK Tryz.prog σ6 84 x1 (some x6) (some x7) fun x31 =>
  calK run 118 [x31] σ6 fun x32 σ7 =>
  opt (fillK [.nili] [(0, 1, (.iface 150 x32))]) fun cs => newSK σ7 253 cs 1 1 fun x34 σ8 =>
  appK 126 1 16 σ8 x5 x34 fun x35 σ9 =>
  c78_4 run fu s2 x1 x35 x7 σ9) (
  c78_4 run fu s2 x1 x5 x7 σ6))

noncomputable def c78_2 (run : RunT) (fu : Nat) : Nat → W4
  | 0 => fun _ _ _ _ _ => .fail
  | m + 1 => c78_2b run fu (c78_2 run fu m)

theorem eq78_2 (run : RunT) (fu : Nat) (s2 : W4) (x1 x5 x6 x7 : AV) (σ : Store) : codeK X0 run (.seq (.block (.seq (.seq .leaf (.cond .leaf .leaf)) (.seq (.seq .leaf (.cond .leaf .leaf)) (.sub (fun fr σ => c78_4 run fu s2 (G fr 1) (G fr 5) (G fr 7) σ))))) (.sub (fun fr σ => c78_3 run fu s2 (G fr 1) (G fr 5) (G fr 6) (G fr 7) σ))) (subC [true, true, true, false, true, false, false] b78) (frS 0 50 [(1, x1), (5, x5), (6, x6), (7, x7)]) σ (thenK (fun fr σ => s2 (G fr 1) (G fr 5) (G fr 6) (G fr 7) σ) (blockK 0 (thenK (fun fr σ => c78_1 run fu (G fr 5) σ) k78))) = c78_2b run fu s2 x1 x5 x6 x7 σ := by kernel_rfl

theorem owed78_2 {run : RunT} (hrun : RunOK X0 run) (fu : Nat) (s2 : W4) : Owes X0 run 50 (.seq (.block (.seq (.seq .leaf (.cond .leaf .leaf)) (.seq (.seq .leaf (.cond .leaf .leaf)) (.sub (fun fr σ => c78_4 run fu s2 (G fr 1) (G fr 5) (G fr 7) σ))))) (.sub (fun fr σ => c78_3 run fu s2 (G fr 1) (G fr 5) (G fr 6) (G fr 7) σ))) (subC [true, true, true, false, true, false, false] b78) (thenK (fun fr σ => s2 (G fr 1) (G fr 5) (G fr 6) (G fr 7) σ) (blockK 0 (thenK (fun fr σ => c78_1 run fu (G fr 5) σ) k78))) :=
  ⟨⟨⟨trivial, ⟨trivial, trivial⟩⟩, ⟨⟨trivial, ⟨trivial, trivial⟩⟩, (ok78_4 hrun fu s2)⟩⟩, (ok78_3 hrun fu s2)⟩

theorem ok78_2 {run : RunT} (hrun : RunOK X0 run) (fu : Nat) : ∀ fr σ, KOK X0 50 (subC [true, true, true, false, true, false] b78) fr σ ((fun fr σ => c78_2 run fu fu (G fr 1) (G fr 5) (G fr 6) (G fr 7) σ) fr σ) (blockK 0 (thenK (fun fr σ => c78_1 run fu (G fr 5) σ) k78)) := by
  have h := KOK.loop (X := X0) (N := 50) (b := (subC [true, true, true, false, true, false, false] b78)) (k := (blockK 0 (thenK (fun fr σ => c78_1 run fu (G fr 5) σ) k78))) (u := fun m fr σ => c78_2 run fu m (G fr 1) (G fr 5) (G fr 6) (G fr 7) σ) (fun _ _ => rfl) (fun m fr σ => KOK.piece env0 hrun [1, 5, 6, 7] (eq78_2 run fu (c78_2 run fu m) (G fr 1) (G fr 5) (G fr 6) (G fr 7) σ) (owed78_2 hrun fu (c78_2 run fu m)))
  exact fun fr σ => h fu fr σ

noncomputable def c78 (run : RunT) (fu : Nat) (x0 x1 : AV) (σ : Store) : Tr R :=
  sliceLK Tryz.prog σ 84 x1 none (some (.int .i64 0)) fun x9 =>
  c78_2 run fu fu x1 x9 (.int .i64 0) (.int .i64 0) σ

theorem eq78 (run : RunT) (fu : Nat) (x0 x1 : AV) (σ : Store) : codeK X0 run (.seq .leaf (.seq .leaf (.seq .leaf (.seq (.seq .leaf (.block (.sub (fun fr σ => c78_2 run fu fu (G fr 1) (G fr 5) (G fr 6) (G fr 7) σ)))) (.sub (fun fr σ => c78_1 run fu (G fr 5) σ)))))) (subC [] b78) ([x0, x1] ++ padA (50 - 2)) σ k78 = c78 run fu x0 x1 σ := by kernel_rfl

theorem ok78 {run : RunT} (hrun : RunOK X0 run) (fu : Nat) (x0 x1 : AV) (σ : Store) : CallOK X0 78 [x0, x1] σ (c78 run fu x0 x1 σ) :=
  KOK.body (fn := Tryz.f78) (c := subC [] b78) (by kernel_rfl) (by kernel_rfl) (by show 2 ≤ 50; decide) (KOK.whole env0 hrun (eq78 run fu x0 x1 σ) ⟨trivial, ⟨trivial, ⟨trivial, ⟨⟨trivial, (ok78_2 hrun fu)⟩, (ok78_1 hrun fu)⟩⟩⟩⟩)

-- (*pub-paratext/pub/rscmarkdown.parseState).autoLinkText

noncomputable def b79 : Code := match Tryz.f79.body with | some c => c | none => .skip

noncomputable def k79 : Kont R := retK Tryz.prog [.tmp 4]

noncomputable def c79_1 (run : RunT) (fu : Nat) (x1 x5 : AV) (σ : Store) : Tr R :=
  eqOK (nilEq nilS) x5 .nils fun x95 =>
  ifK x95 (
  .ret (x1, σ)) (
  .ret (x5, σ))

theorem eq79_1 (run : RunT) (fu : Nat) (x1 x5 : AV) (σ : Store) : codeK X0 run (.seq (.seq .leaf (.cond (.seq .leaf .leaf) .leaf)) (.seq .leaf .leaf)) (subC [true, true, true, true] b79) (frS 0 98 [(1, x1), (5, x5)]) σ k79 = c79_1 run fu x1 x5 σ := by kernel_rfl

theorem ok79_1 {run : RunT} (hrun : RunOK X0 run) (fu : Nat) : ∀ fr σ, KOK X0 98 (subC [true, true, true, true] b79) fr σ ((fun fr σ => c79_1 run fu (G fr 1) (G fr 5) σ) fr σ) k79 := fun fr σ =>
  KOK.piece env0 hrun [1, 5] (eq79_1 run fu (G fr 1) (G fr 5) σ) ⟨⟨trivial, ⟨⟨trivial, trivial⟩, trivial⟩⟩, ⟨trivial, trivial⟩⟩

noncomputable def c79_3 (run : RunT) (fu : Nat) (s2 : W6) (x0 x1 x5 x22 x23 x24 : AV) (σ : Store) : Tr R :=
  addK x24 (.int .i64 1) fun x93 =>
  s2 x0 x1 x5 x22 x23 x93 σ

theorem eq79_3 (run : RunT) (fu : Nat) (s2 : W6) (x0 x1 x5 x22 x23 x24 : AV) (σ : Store) : codeK X0 run .leaf (subC [true, true, true, false, true, false, false, true, true, true] b79) (frS 0 98 [(0, x0), (1, x1), (5, x5), (22, x22), (23, x23), (24, x24)]) σ (thenK (fun fr σ => s2 (G fr 0) (G fr 1) (G fr 5) (G fr 22) (G fr 23) (G fr 24) σ) (blockK 0 (thenK (fun fr σ => c79_1 run fu (G fr 1) (G fr 5) σ) k79))) = c79_3 run fu s2 x0 x1 x5 x22 x23 x24 σ := by kernel_rfl

theorem ok79_3 {run : RunT} (hrun : RunOK X0 run) (fu : Nat) (s2 : W6) : ∀ fr σ, KOK X0 98 (subC [true, true, true, false, true, false, false, true, true, true] b79) fr σ ((fun fr σ => c79_3 run fu s2 (G fr 0) (G fr 1) (G fr 5) (G fr 22) (G fr 23) (G fr 24) σ) fr σ) (thenK (fun fr σ => s2 (G fr 0) (G fr 1) (G fr 5) (G fr 22) (G fr 23) (G fr 24) σ) (blockK 0 (thenK (fun fr σ => c79_1 run fu (G fr 1) (G fr 5) σ) k79))) := fun fr σ =>
  KOK.piece env0 hrun [0, 1, 5, 22, 23, 24] (eq79_3 run fu s2 (G fr 0) (G fr 1) (G fr 5) (G fr 22) (G fr 23) (G fr 24) σ) trivial

noncomputable def c79_4 (run : RunT) (fu : Nat) (s2 : W6) (x0 x1 x5 x7 x22 x23 x24 : AV) (σ : Store) : Tr R :=
  neOK (nilEq nilS) x5 .nils fun x88 =>
  ifK x88 (
  opt (fillK [.nili] [(0, 1, x7)]) fun cs => newSK σ 253 cs 1 1 fun x91 σ1 =>
  appK 126 1 16 σ1 x5 x91 fun x92 σ2 =>
  c79_3 run fu s2 x0 x1 x92 x22 x23 x24 σ2) (
  c79_3 run fu s2 x0 x1 x5 x22 x23 x24 σ)

theorem eq79_4 (run : RunT) (fu : Nat) (s2 : W6) (x0 x1 x5 x7 x22 x23 x24 : AV) (σ : Store) : codeK X0 run (.seq .leaf (.cond .leaf .leaf)) (subC [true, true, true, false, true, false, false, true, true, false, false, true, true] b79) (frS 0 98 [(0, x0), (1, x1), (5, x5), (7, x7), (22, x22), (23, x23), (24, x24)]) σ (blockK 1 (thenK (fun fr σ => c79_3 run fu s2 (G fr 0) (G fr 1) (G fr 5) (G fr 22) (G fr 23) (G fr 24) σ) (thenK (fun fr σ => s2 (G fr 0) (G fr 1) (G fr 5) (G fr 22) (G fr 23) (G fr 24) σ) (blockK 0 (thenK (fun fr σ => c79_1 run fu (G fr 1) (G fr 5) σ) k79))))) = c79_4 run fu s2 x0 x1 x5 x7 x22 x23 x24 σ := by kernel_rfl

theorem ok79_4 {run : RunT} (hrun : RunOK X0 run) (fu : Nat) (s2 : W6) : ∀ fr σ, KOK X0 98 (subC [true, true, true, false, true, false, false, true, true, false, false, true, true] b79) fr σ ((fun fr σ => c79_4 run fu s2 (G fr 0) (G fr 1) (G fr 5) (G fr 7) (G fr 22) (G fr 23) (G fr 24) σ) fr σ) (blockK 1 (thenK (fun fr σ => c79_3 run fu s2 (G fr 0) (G fr 1) (G fr 5) (G fr 22) (G fr 23) (G fr 24) σ) (thenK (fun fr σ => s2 (G fr 0) (G fr 1) (G fr 5) (G fr 22) (G fr 23) (G fr 24) σ) (blockK 0 (thenK (fun fr σ => c79_1 run fu (G fr 1) (G fr 5) σ) k79))))) := fun fr σ =>
  KOK.piece env0 hrun [0, 1, 5, 7, 22, 23, 24] (eq79_4 run fu s2 (G fr 0) (G fr 1) (G fr 5) (G fr 7) (G fr 22) (G fr 23) (G fr 24) σ) ⟨trivial, ⟨trivial, trivial⟩⟩

noncomputable def c79_5 (run : RunT) (fu : Nat) (s2 : W6) (x0 x1 x5 x9 x22 x23 x24 : AV) (σ : Store) : Tr R :=
  appK 126 1 16 σ x5 x9 fun x50 σ1 =>
  c79_3 run fu s2 x0 x1 x50 x22 x23 x24 σ1

theorem eq79_5 (run : RunT) (fu : Nat) (s2 : W6) (x0 x1 x5 x9 x22 x23 x24 : AV) (σ : Store) : codeK X0 run (.seq .leaf .leaf) (subC [true, true, true, false, true, false, false, true, true, false, false, true, false, true, false, true, false, true, true, true, false, true] b79) (frS 0 98 [(0, x0), (1, x1), (5, x5), (9, x9), (22, x22), (23, x23), (24, x24)]) σ (blockK 2 (thenK (fun fr σ => c79_4 run fu s2 (G fr 0) (G fr 1) (G fr 5) (G fr 7) (G fr 22) (G fr 23) (G fr 24) σ) (blockK 1 (thenK (fun fr σ => c79_3 run fu s2 (G fr 0) (G fr 1) (G fr 5) (G fr 22) (G fr 23) (G fr 24) σ) (thenK (fun fr σ => s2 (G fr 0) (G fr 1) (G fr 5) (G fr 22) (G fr 23) (G fr 24) σ) (blockK 0 (thenK (fun fr σ => c79_1 run fu (G fr 1) (G fr 5) σ) k79))))))) = c79_5 run fu s2 x0 x1 x5 x9 x22 x23 x24 σ := by kernel_rfl

theorem ok79_5 {run : RunT} (hrun : RunOK X0 run) (fu : Nat) (s2 : W6) : ∀ fr σ, KOK X0 98 (subC [true, true, true, false, true, false, false, true, true, false, false, true, false, true, false, true, false, true, true, true, false, true] b79) fr σ ((fun fr σ => c79_5 run fu s2 (G fr 0) (G fr 1) (G fr 5) (G fr 9) (G fr 22) (G fr 23) (G fr 24) σ) fr σ) (blockK 2 (thenK (fun fr σ => c79_4 run fu s2 (G fr 0) (G fr 1) (G fr 5) (G fr 7) (G fr 22) (G fr 23) (G fr 24) σ) (blockK 1 (thenK (fun fr σ => c79_3 run fu s2 (G fr 0) (G fr 1) (G fr 5) (G fr 22) (G fr 23) (G fr 24) σ) (thenK (fun fr σ => s2 (G fr 0) (G fr 1) (G fr 5) (G fr 22) (G fr 23) (G fr 24) σ) (blockK 0 (thenK (fun fr σ => c79_1 run fu (G fr 1) (G fr 5) σ) k79))))))) := fun fr σ =>
  KOK.piece env0 hrun [0, 1, 5, 9, 22, 23, 24] (eq79_5 run fu s2 (G fr 0) (G fr 1) (G fr 5) (G fr 9) (G fr 22) (G fr 23) (G fr 24) σ) ⟨trivial, trivial⟩

noncomputable def c79_2b (run : RunT) (fu : Nat) (s2 : W6) (x0 x1 x5 x22 x23 x24 : AV) (σ : Store) : Tr R :=
  cmpK .lss x24 x23 fun x25 =>
  ifK x25 (
  idxK 1 x22 x24 fun x27 =>
  ld1K σ x27 fun x28 =>
  tasK (some .nilp) 150 true x28 fun x30 =>
  extK x30 1 fun x31 =>
  extK x30 0 fun x32 =>
  ifK x31 (
  nchkK x32 fun x35 =>
  addrK x35 0 fun x36 =>
  ld1K σ x36 fun x37 =>
  calK run 119 [x0, x37] σ fun x38 σ1 =>
  neOK (nilEq nilS) x38 .nils fun x40 =>
  ifK x40 (
  eqOK (nilEq nilS) x5 .nils fun x42 =>
  ifK x42 (
  sliceLK Tryz.prog σ1 84 x1 none (some x24) fun x46 =>
  appK 126 1 16 σ1 x5 x46 fun x47 σ2 =>
  c79_5 run fu s2 x0 x1 x47 x38 x22 x23 x24 σ2) (
  c79_5 run fu s2 x0 x1 x5 x38 x22 x23 x24 σ1)) (
  c79_4 run fu s2 x0 x1 x5 x28 x22 x23 x24 σ1)) (
  tasK (some .nilp) 213 true x28 fun x51 =>
  extK x51 1 fun x52 =>
  extK x51 0 fun x53 =>
  ifK x52 (
  nchkK x53 fun x57 =>
  addrK x57 1 fun x58 =>
  ld1K σ x58 fun x59 =>
  calK run 79 [x0, x59] σ fun x60 σ3 =>
  nchkK x53 fun x61 =>
  addrK x61 1 fun x62 =>
  st1K σ3 x62 x60 fun _ σ4 =>
  c79_4 run fu s2 x0 x1 x5 x28 x22 x23 x24 σ4) (
  tasK (some .nilp) 212 true x28 fun x63 =>
  extK x63 1 fun x64 =>
  extK x63 0 fun x65 =>
  ifK x64 (
  nchkK x65 fun x69 =>
  addrK x69 1 fun x70 =>
  ld1K σ x70 fun x71 =>
  calK run 79 [x0, x71] σ fun x72 σ5 =>
  nchkK x65 fun x73 =>
  addrK x73 1 fun x74 =>
  st1K σ5 x74 x72 fun _ σ6 =>
  c79_4 run fu s2 x0 x1 x5 x28 x22 x23 x24 σ6) (
  tasK (some .nilp) 209 true x28 fun x75 =>
  extK x75 1 fun x76 =>
  extK x75 0 fun x77 =>
  ifK x76 (
  nchkK x77 fun x81 =>
  addrK x81 1 fun x82 =>
  ld1K σ x82 fun x83 =>
  calK run 79 [x0, x83] σ fun x84 σ7 =>
  nchkK x77 fun x85 =>
  addrK x85 1 fun x86 =>
  st1K σ7 x86 x84 fun _ σ8 =>
  c79_4 run fu s2 x0 x1 x5 x28 x22 x23 x24 σ8) (
  c79_4 run fu s2 x0 x1 x5 x28 x22 x23 x24 σ))))) (
  c79_1 run fu x1 x5 σ)

noncomputable def c79_2 (run : RunT) (fu : Nat) : Nat → W6
  | 0 => fun _ _ _ _ _ _ _ => .fail
  | m + 1 => c79_2b run fu (c79_2 run fu m)

theorem eq79_2 (run : RunT) (fu : Nat) (s2 : W6) (x0 x1 x5 x22 x23 x24 : AV) (σ : Store) : codeK X0 run (.seq .leaf (.seq (.cond .leaf .leaf) (.seq (.block (.seq .leaf (.seq (.seq .leaf (.block (.seq .leaf (.cond (.seq .leaf (.seq .leaf (.seq .leaf (.cond (.seq (.seq .leaf (.cond .leaf .leaf)) (.sub (fun fr σ => c79_5 run fu s2 (G fr 0) (G fr 1) (G fr 5) (G fr 9) (G fr 22) (G fr 23) (G fr 24) σ))) .leaf)))) (.seq .leaf (.cond (.seq .leaf .leaf) (.seq .leaf (.cond (.seq .leaf .leaf) (.seq .leaf (.cond (.seq .leaf .leaf) .leaf)))))))))) (.sub (fun fr σ => c79_4 run fu s2 (G fr 0) (G fr 1) (G fr 5) (G fr 7) (G fr 22) (G fr 23) (G fr 24) σ))))) (.sub (fun fr σ => c79_3 run fu s2 (G fr 0) (G fr 1) (G fr 5) (G fr 22) (G fr 23) (G fr 24) σ))))) (subC [true, true, true, false, true, false, false] b79) (frS 0 98 [(0, x0), (1, x1), (5, x5), (22, x22), (23, x23), (24, x24)]) σ (thenK (fun fr σ => s2 (G fr 0) (G fr 1) (G fr 5) (G fr 22) (G fr 23) (G fr 24) σ) (blockK 0 (thenK (fun fr σ => c79_1 run fu (G fr 1) (G fr 5) σ) k79))) = c79_2b run fu s2 x0 x1 x5 x22 x23 x24 σ := by kernel_rfl

theorem owed79_2 {run : RunT} (hrun : RunOK X0 run) (fu : Nat) (s2 : W6) : Owes X0 run 98 (.seq .leaf (.seq (.cond .leaf .leaf) (.seq (.block (.seq .leaf (.seq (.seq .leaf (.block (.seq .leaf (.cond (.seq .leaf (.seq .leaf (.seq .leaf (.cond (.seq (.seq .leaf (.cond .leaf .leaf)) (.sub (fun fr σ => c79_5 run fu s2 (G fr 0) (G fr 1) (G fr 5) (G fr 9) (G fr 22) (G fr 23) (G fr 24) σ))) .leaf)))) (.seq .leaf (.cond (.seq .leaf .leaf) (.seq .leaf (.cond (.seq .leaf .leaf) (.seq .leaf (.cond (.seq .leaf .leaf) .leaf)))))))))) (.sub (fun fr σ => c79_4 run fu s2 (G fr 0) (G fr 1) (G fr 5) (G fr 7) (G fr 22) (G fr 23) (G fr 24) σ))))) (.sub (fun fr σ => c79_3 run fu s2 (G fr 0) (G fr 1) (G fr 5) (G fr 22) (G fr 23) (G fr 24) σ))))) (subC [true, true, true, false, true, false, false] b79) (thenK (fun fr σ => s2 (G fr 0) (G fr 1) (G fr 5) (G fr 22) (G fr 23) (G fr 24) σ) (blockK 0 (thenK (fun fr σ => c79_1 run fu (G fr 1) (G fr 5) σ) k79))) :=
  ⟨trivial, ⟨⟨trivial, trivial⟩, ⟨⟨trivial, ⟨⟨trivial, ⟨trivial, ⟨⟨trivial, ⟨trivial, ⟨trivial, ⟨⟨⟨trivial, ⟨trivial, trivial⟩⟩, (ok79_5 hrun fu s2)⟩, trivial⟩⟩⟩⟩, ⟨trivial, ⟨⟨trivial, trivial⟩, ⟨trivial, ⟨⟨trivial, trivial⟩, ⟨trivial, ⟨⟨trivial, trivial⟩, trivial⟩⟩⟩⟩⟩⟩⟩⟩⟩, (ok79_4 hrun fu s2)⟩⟩, (ok79_3 hrun fu s2)⟩⟩⟩

theorem ok79_2 {run : RunT} (hrun : RunOK X0 run) (fu : Nat) : ∀ fr σ, KOK X0 98 (subC [true, true, true, false, true, false] b79) fr σ ((fun fr σ => c79_2 run fu fu (G fr 0) (G fr 1) (G fr 5) (G fr 22) (G fr 23) (G fr 24) σ) fr σ) (blockK 0 (thenK (fun fr σ => c79_1 run fu (G fr 1) (G fr 5) σ) k79)) := by
  have h := KOK.loop (X := X0) (N := 98) (b := (subC [true, true, true, false, true, false, false] b79)) (k := (blockK 0 (thenK (fun fr σ => c79_1 run fu (G fr 1) (G fr 5) σ) k79))) (u := fun m fr σ => c79_2 run fu m (G fr 0) (G fr 1) (G fr 5) (G fr 22) (G fr 23) (G fr 24) σ) (fun _ _ => rfl) (fun m fr σ => KOK.piece env0 hrun [0, 1, 5, 22, 23, 24] (eq79_2 run fu (c79_2 run fu m) (G fr 0) (G fr 1) (G fr 5) (G fr 22) (G fr 23) (G fr 24) σ) (owed79_2 hrun fu (c79_2 run fu m)))
  exact fun fr σ => h fu fr σ

noncomputable def c79 (run : RunT) (fu : Nat) (x0 x1 : AV) (σ : Store) : Tr R :=
  nchkK x0 fun x14 =>
  addrK x14 0 fun x15 =>
  ld1K σ x15 fun x16 =>
  nchkK x16 fun x17 =>
  addrK x17 3 fun x18 =>
  ld1K σ x18 fun x19 =>
  notK x19 fun x20 =>
  ifK x20 (
  .ret (x1, σ)) (
  lenLK x1 fun x23 =>
  c79_2 run fu fu x0 x1 .nils x1 x23 (.int .i64 0) σ)

theorem eq79 (run : RunT) (fu : Nat) (x0 x1 : AV) (σ : Store) : codeK X0 run (.seq .leaf (.seq (.seq .leaf (.cond (.seq .leaf .leaf) .leaf)) (.seq .leaf (.seq (.seq .leaf (.block (.sub (fun fr σ => c79_2 run fu fu (G fr 0) (G fr 1) (G fr 5) (G fr 22) (G fr 23) (G fr 24) σ)))) (.sub (fun fr σ => c79_1 run fu (G fr 1) (G fr 5) σ)))))) (subC [] b79) ([x0, x1] ++ padA (98 - 2)) σ k79 = c79 run fu x0 x1 σ := by kernel_rfl

theorem ok79 {run : RunT} (hrun : RunOK X0 run) (fu : Nat) (x0 x1 : AV) (σ : Store) : CallOK X0 79 [x0, x1] σ (c79 run fu x0 x1 σ) :=
  KOK.body (fn := Tryz.f79) (c := subC [] b79) (by kernel_rfl) (by kernel_rfl) (by show 2 ≤ 98; decide) (KOK.whole env0 hrun (eq79 run fu x0 x1 σ) ⟨trivial, ⟨⟨trivial, ⟨⟨trivial, trivial⟩, trivial⟩⟩, ⟨trivial, ⟨⟨trivial, (ok79_2 hrun fu)⟩, (ok79_1 hrun fu)⟩⟩⟩⟩)

-- pub-paratext/pub/rscmarkdown.trimLeftSpaceTab

noncomputable def b80 : Code := match Tryz.f80.body with | some c => c | none => .skip

noncomputable def k80 : Kont R := retK Tryz.prog [.tmp 2]

noncomputable def c80_1 (run : RunT) (fu : Nat) (x0 x3 : AV) (σ : Store) : Tr R :=
  sliceSK x0 (some x3) none fun x24 =>
  .ret (x24, σ)

theorem eq80_1 (run : RunT) (fu : Nat) (x0 x3 : AV) (σ : Store) : codeK X0 run (.seq .leaf .leaf) (subC [true, true, true] b80) (frS 0 25 [(0, x0), (3, x3)]) σ k80 = c80_1 run fu x0 x3 σ := by kernel_rfl

theorem ok80_1 {run : RunT} (hrun : RunOK X0 run) (fu : Nat) : ∀ fr σ, KOK X0 25 (subC [true, true, true] b80) fr σ ((fun fr σ => c80_1 run fu (G fr 0) (G fr 3) σ) fr σ) k80 := fun fr σ =>
  KOK.piece env0 hrun [0, 3] (eq80_1 run fu (G fr 0) (G fr 3) σ) ⟨trivial, trivial⟩

noncomputable def c80_2b (run : RunT) (fu : Nat) (s2 : W2) (x0 x3 : AV) (σ : Store) : Tr R :=
  lenSK x0 fun x6 =>
  cmpK .lss x3 x6 fun x7 =>
  grdK x7 true σ (fun f => f x0 σ) fun x9 σ1 =>
  grdK x7 true σ1 (fun f => f x3 σ1) fun x10 σ2 =>
  grdK x7 true σ2 (fun f => idxSK x9 x10 fun v => f v σ2) fun x11 σ3 =>
  grdK x7 true σ3 (fun f => cmpK .eql x11 (.int .u8 32) fun v => f v σ3) fun x12 σ4 =>
  grdK x7 true σ4 (fun f => f x12 σ4) fun x13 σ5 =>
  grdK x13 false σ5 (fun f => f x0 σ5) fun x14 σ6 =>
  grdK x13 false σ6 (fun f => f x3 σ6) fun x15 σ7 =>
  grdK x13 false σ7 (fun f => idxSK x14 x15 fun v => f v σ7) fun x16 σ8 =>
  grdK x13 false σ8 (fun f => cmpK .eql x16 (.int .u8 9) fun v => f v σ8) fun x17 σ9 =>
  grdK x7 true σ9 (fun f => pickK x13 (.bool true) x17 fun v => f v σ9) fun x18 σ10 =>
  pickK x7 x18 (.bool false) fun x19 =>
  ifK x19 (
  addK x3 (.int .i64 1) fun x21 =>
  s2 x0 x21 σ10) (
  c80_1 run fu x0 x3 σ10)

noncomputable def c80_2 (run : RunT) (fu : Nat) : Nat → W2
  | 0 => fun _ _ _ => .fail
  | m + 1 => c80_2b run fu (c80_2 run fu m)

theorem eq80_2 (run : RunT) (fu : Nat) (s2 : W2) (x0 x3 : AV) (σ : Store) : codeK X0 run (.seq (.seq .leaf (.cond .leaf .leaf)) (.block .leaf)) (subC [true, true, false, false, false] b80) (frS 0 25 [(0, x0), (3, x3)]) σ (thenK (fun fr σ => s2 (G fr 0) (G fr 3) σ) (blockK 0 (thenK (fun fr σ => c80_1 run fu (G fr 0) (G fr 3) σ) k80))) = c80_2b run fu s2 x0 x3 σ := by kernel_rfl

theorem owed80_2 {run : RunT} (hrun : RunOK X0 run) (fu : Nat) (s2 : W2) : Owes X0 run 25 (.seq (.seq .leaf (.cond .leaf .leaf)) (.block .leaf)) (subC [true, true, false, false, false] b80) (thenK (fun fr σ => s2 (G fr 0) (G fr 3) σ) (blockK 0 (thenK (fun fr σ => c80_1 run fu (G fr 0) (G fr 3) σ) k80))) :=
  ⟨⟨trivial, ⟨trivial, trivial⟩⟩, trivial⟩

theorem ok80_2 {run : RunT} (hrun : RunOK X0 run) (fu : Nat) : ∀ fr σ, KOK X0 25 (subC [true, true, false, false] b80) fr σ ((fun fr σ => c80_2 run fu fu (G fr 0) (G fr 3) σ) fr σ) (blockK 0 (thenK (fun fr σ => c80_1 run fu (G fr 0) (G fr 3) σ) k80)) := by
  have h := KOK.loop (X := X0) (N := 25) (b := (subC [true, true, false, false, false] b80)) (k := (blockK 0 (thenK (fun fr σ => c80_1 run fu (G fr 0) (G fr 3) σ) k80))) (u := fun m fr σ => c80_2 run fu m (G fr 0) (G fr 3) σ) (fun _ _ => rfl) (fun m fr σ => KOK.piece env0 hrun [0, 3] (eq80_2 run fu (c80_2 run fu m) (G fr 0) (G fr 3) σ) (owed80_2 hrun fu (c80_2 run fu m)))
  exact fun fr σ => h fu fr σ

noncomputable def c80 (run : RunT) (fu : Nat) (x0 : AV) (σ : Store) : Tr R :=
  c80_2 run fu fu x0 (.int .i64 0) σ

theorem eq80 (run : RunT) (fu : Nat) (x0 : AV) (σ : Store) : codeK X0 run (.seq .leaf (.seq .leaf (.seq (.block (.sub (fun fr σ => c80_2 run fu fu (G fr 0) (G fr 3) σ))) (.sub (fun fr σ => c80_1 run fu (G fr 0) (G fr 3) σ))))) (subC [] b80) ([x0] ++ padA (25 - 1)) σ k80 = c80 run fu x0 σ := by kernel_rfl

theorem ok80 {run : RunT} (hrun : RunOK X0 run) (fu : Nat) (x0 : AV) (σ : Store) : CallOK X0 80 [x0] σ (c80 run fu x0 σ) :=
  KOK.body (fn := Tryz.f80) (c := subC [] b80) (by kernel_rfl) (by kernel_rfl) (by show 1 ≤ 25; decide) (KOK.whole env0 hrun (eq80 run fu x0 σ) ⟨trivial, ⟨trivial, ⟨(ok80_2 hrun fu), (ok80_1 hrun fu)⟩⟩⟩)

-- pub-paratext/pub/rscmarkdown.newQuote

noncomputable def b81 : Code := match Tryz.f81.body with | some c => c | none => .skip

noncomputable def k81 : Kont R := retK Tryz.prog [.cell 4 100, .tmp 5]

noncomputable def c81 (run : RunT) (fu : Nat) (x0 x1 : AV) (σ : Store) : Tr R :=
  boxK σ 201 x1 fun x3 σ1 =>
  newK σ1 201 [(.int .i64 0), (.int .i64 0), (.int .i64 0), (.str []), (.int .u8 0)] fun x4 σ2 =>
  ldNK σ2 x3 5 fun x9 =>
  calK run 120 [x9] σ2 fun x10 σ3 =>
  extK x10 0 fun x11 =>
  extK x10 1 fun x12 =>
  newK σ3 201 [(.int .i64 0), (.int .i64 0), (.int .i64 0), (.str []), (.int .u8 0)] fun x6 σ4 =>
  stNK σ4 x6 5 x11 fun _ σ5 =>
  ifK x12 (
  newK σ5 441 [] fun x15 σ6 =>
  calK run 49 [x0, (.iface 219 x15)] σ6 fun x17 σ7 =>
  ldNK σ7 x6 5 fun x18 =>
  stNK σ7 x4 5 x18 fun _ σ8 =>
  ldNK σ8 x4 5 fun v9 =>
  .ret (.tup [v9, (.bool true)], σ8)) (
  ldNK σ5 x3 5 fun x19 =>
  stNK σ5 x4 5 x19 fun _ σ10 =>
  ldNK σ10 x4 5 fun v11 =>
  .ret (.tup [v11, (.bool false)], σ10))

theorem eq81 (run : RunT) (fu : Nat) (x0 x1 : AV) (σ : Store) : codeK X0 run (.seq .leaf (.seq (.seq .leaf (.seq .leaf (.cond (.seq .leaf (.seq .leaf .leaf)) .leaf))) (.seq .leaf .leaf))) (subC [] b81) ([x0, x1] ++ padA (20 - 2)) σ k81 = c81 run fu x0 x1 σ := by kernel_rfl

theorem ok81 {run : RunT} (hrun : RunOK X0 run) (fu : Nat) (x0 x1 : AV) (σ : Store) : CallOK X0 81 [x0, x1] σ (c81 run fu x0 x1 σ) :=
  KOK.body (fn := Tryz.f81) (c := subC [] b81) (by kernel_rfl) (by kernel_rfl) (by show 2 ≤ 20; decide) (KOK.whole env0 hrun (eq81 run fu x0 x1 σ) ⟨trivial, ⟨⟨trivial, ⟨trivial, ⟨⟨trivial, ⟨trivial, trivial⟩⟩, trivial⟩⟩⟩, ⟨trivial, trivial⟩⟩⟩)

-- pub-paratext/pub/rscmarkdown.newATXHeading

noncomputable def b82 : Code := match Tryz.f82.body with | some c => c | none => .skip

noncomputable def k82 : Kont R := retK Tryz.prog [.cell 4 100, .tmp 5]

noncomputable def c82_1 (run : RunT) (fu : Nat) (x3 x4 : AV) (σ : Store) : Tr R :=
  ldNK σ x3 5 fun x81 =>
  stNK σ x4 5 x81 fun _ σ1 =>
  ldNK σ1 x4 5 fun v2 =>
  .ret (.tup [v2, (.bool false)], σ1)

theorem eq82_1 (run : RunT) (fu : Nat) (x3 x4 : AV) (σ : Store) : codeK X0 run (.seq .leaf .leaf) (subC [true, true, true, true] b82) (frS 0 82 [(3, x3), (4, x4)]) σ k82 = c82_1 run fu x3 x4 σ := by kernel_rfl

theorem ok82_1 {run : RunT} (hrun : RunOK X0 run) (fu : Nat) : ∀ fr σ, KOK X0 82 (subC [true, true, true, true] b82) fr σ ((fun fr σ => c82_1 run fu (G fr 3) (G fr 4) σ) fr σ) k82 := fun fr σ =>
  KOK.piece env0 hrun [3, 4] (eq82_1 run fu (G fr 3) (G fr 4) σ) ⟨trivial, trivial⟩

noncomputable def c82_3 (run : RunT) (fu : Nat) (x0 x4 x7 x8 x10 : AV) (σ : Store) : Tr R :=
  nchkK x0 fun x60 =>
  addrK x60 3 fun x61 =>
  ld1K σ x61 fun x62 =>
  nchkK x0 fun x64 =>
  addrK x64 3 fun x65 =>
  ld1K σ x65 fun x66 =>
  bldK [(.int .i64 0), (.int .i64 0)] [(0, 1, x62), (1, 1, x66)] fun x67 =>
  newK σ 209 [(.int .i64 0), (.int .i64 0)] fun x13 σ1 =>
  stNK σ1 x13 2 x67 fun _ σ2 =>
  ld1K σ1 x61 fun v3 =>
  must (AV.beq v3 x62) (
  ld1K σ1 x65 fun v4 =>
  must (AV.beq v4 x66) (
  ldNK σ2 x13 2 fun x69 =>
  ld1K σ2 x7 fun x70 =>
  ldNK σ2 x13 2 fun x72 =>
  calK run 128 [x0, x72, x8] σ2 fun x74 σ5 =>
  bldK [(.int .i64 0), (.int .i64 0), (.int .i64 0), .nilp, (.str [])] [(0, 2, x69), (2, 1, x70), (3, 1, x74), (4, 1, x10)] fun x76 =>
  boxK σ5 461 x76 fun x77 σ6 =>
  calK run 127 [x0, (.iface 227 x77)] σ6 fun x79 σ7 =>
  ldNK σ5 x13 2 fun v8 =>
  must (AV.beq v8 x69) (
  ld1K σ5 x7 fun v9 =>
  must (AV.beq v9 x70) (
  bldK [(.int .i64 0), (.int .i64 0), (.int .i64 0), (.str []), (.int .u8 0)] [] fun x80 =>
  stNK σ7 x4 5 x80 fun _ σ10 =>
  ldNK σ10 x4 5 fun v11 =>
  .ret (.tup [v11, (.bool true)], σ10)))))

theorem eq82_3 (run : RunT) (fu : Nat) (x0 x4 x7 x8 x10 : AV) (σ : Store) : codeK X0 run (.seq .leaf (.seq .leaf (.seq .leaf .leaf))) (subC [true, true, true, false, true, false, true, true, true, true, true] b82) (frS 0 82 [(0, x0), (4, x4), (7, x7), (8, x8), (10, x10)]) σ (thenK (fun fr σ => c82_1 run fu (G fr 3) (G fr 4) σ) k82) = c82_3 run fu x0 x4 x7 x8 x10 σ := by kernel_rfl

theorem ok82_3 {run : RunT} (hrun : RunOK X0 run) (fu : Nat) : ∀ fr σ, KOK X0 82 (subC [true, true, true, false, true, false, true, true, true, true, true] b82) fr σ ((fun fr σ => c82_3 run fu (G fr 0) (G fr 4) (G fr 7) (G fr 8) (G fr 10) σ) fr σ) (thenK (fun fr σ => c82_1 run fu (G fr 3) (G fr 4) σ) k82) := fun fr σ =>
  KOK.piece env0 hrun [0, 4, 7, 8, 10] (eq82_3 run fu (G fr 0) (G fr 4) (G fr 7) (G fr 8) (G fr 10) σ) ⟨trivial, ⟨trivial, ⟨trivial, trivial⟩⟩⟩

noncomputable def c82_4b (run : RunT) (fu : Nat) (s4 : W6) (x0 x4 x7 x8 x10 x44 : AV) (σ : Store) : Tr R :=
  genK (nextA σ x44) fun x45 σ1 =>
  extK x45 0 fun x46 =>
  ifK x46 (
  extK x45 2 fun x47 =>
  cmpK .geq x47 (.int .i32 128) fun x49 =>
  grdK x49 false σ1 (fun f => f x47 σ1) fun x51 σ2 =>
  grdK x49 false σ2 (fun f => fitsK .u8 x51 fun v => f v σ2) fun x52 σ3 =>
  grdK x49 false σ3 (fun f => calK run 126 [x52] σ3 f) fun x53 σ4 =>
  grdK x49 false σ4 (fun f => notK x53 fun v => f v σ4) fun x54 σ5 =>
  pickK x49 (.bool true) x54 fun x55 =>
  ifK x55 (
  nchkK x0 fun x57 =>
  addrK x57 6 fun x58 =>
  st1K σ5 x58 (.bool true) fun _ σ6 =>
  s4 x0 x4 x7 x8 x10 x44 σ6) (
  s4 x0 x4 x7 x8 x10 x44 σ5)) (
  c82_3 run fu x0 x4 x7 x8 x10 σ1)

noncomputable def c82_4 (run : RunT) (fu : Nat) : Nat → W6
  | 0 => fun _ _ _ _ _ _ _ => .fail
  | m + 1 => c82_4b run fu (c82_4 run fu m)

theorem eq82_4 (run : RunT) (fu : Nat) (s4 : W6) (x0 x4 x7 x8 x10 x44 : AV) (σ : Store) : codeK X0 run (.seq .leaf (.seq (.cond .leaf .leaf) (.block (.seq .leaf (.seq .leaf (.cond .leaf .leaf)))))) (subC [true, true, true, false, true, false, true, true, true, true, false, true, false, true, true, false, false] b82) (frS 0 82 [(0, x0), (4, x4), (7, x7), (8, x8), (10, x10), (44, x44)]) σ (thenK (fun fr σ => s4 (G fr 0) (G fr 4) (G fr 7) (G fr 8) (G fr 10) (G fr 44) σ) (blockK 0 (thenK (fun fr σ => c82_3 run fu (G fr 0) (G fr 4) (G fr 7) (G fr 8) (G fr 10) σ) (thenK (fun fr σ => c82_1 run fu (G fr 3) (G fr 4) σ) k82)))) = c82_4b run fu s4 x0 x4 x7 x8 x10 x44 σ := by kernel_rfl

theorem owed82_4 {run : RunT} (hrun : RunOK X0 run) (fu : Nat) (s4 : W6) : Owes X0 run 82 (.seq .leaf (.seq (.cond .leaf .leaf) (.block (.seq .leaf (.seq .leaf (.cond .leaf .leaf)))))) (subC [true, true, true, false, true, false, true, true, true, true, false, true, false, true, true, false, false] b82) (thenK (fun fr σ => s4 (G fr 0) (G fr 4) (G fr 7) (G fr 8) (G fr 10) (G fr 44) σ) (blockK 0 (thenK (fun fr σ => c82_3 run fu (G fr 0) (G fr 4) (G fr 7) (G fr 8) (G fr 10) σ) (thenK (fun fr σ => c82_1 run fu (G fr 3) (G fr 4) σ) k82)))) :=
  ⟨trivial, ⟨⟨trivial, trivial⟩, ⟨trivial, ⟨trivial, ⟨trivial, trivial⟩⟩⟩⟩⟩

theorem ok82_4 {run : RunT} (hrun : RunOK X0 run) (fu : Nat) : ∀ fr σ, KOK X0 82 (subC [true, true, true, false, true, false, true, true, true, true, false, true, false, true, true, false] b82) fr σ ((fun fr σ => c82_4 run fu fu (G fr 0) (G fr 4) (G fr 7) (G fr 8) (G fr 10) (G fr 44) σ) fr σ) (blockK 0 (thenK (fun fr σ => c82_3 run fu (G fr 0) (G fr 4) (G fr 7) (G fr 8) (G fr 10) σ) (thenK (fun fr σ => c82_1 run fu (G fr 3) (G fr 4) σ) k82))) := by
  have h := KOK.loop (X := X0) (N := 82) (b := (subC [true, true, true, false, true, false, true, true, true, true, false, true, false, true, true, false, false] b82)) (k := (blockK 0 (thenK (fun fr σ => c82_3 run fu (G fr 0) (G fr 4) (G fr 7) (G fr 8) (G fr 10) σ) (thenK (fun fr σ => c82_1 run fu (G fr 3) (G fr 4) σ) k82)))) (u := fun m fr σ => c82_4 run fu m (G fr 0) (G fr 4) (G fr 7) (G fr 8) (G fr 10) (G fr 44) σ) (fun _ _ => rfl) (fun m fr σ => KOK.piece env0 hrun [0, 4, 7, 8, 10, 44] (eq82_4 run fu (c82_4 run fu m) (G fr 0) (G fr 4) (G fr 7) (G fr 8) (G fr 10) (G fr 44) σ) (owed82_4 hrun fu (c82_4 run fu m)))
  exact fun fr σ => h fu fr σ

noncomputable def c82_4x (run : RunT) (fu : Nat) (s4 : W6) (x0 x4 x7 x8 x10 x44 : AV) (σ : Store) : Tr R :=
  genK (nextA σ x44) fun x45 σ1 =>
  extK x45 0 fun x46 =>
  ifK x46 (
  extK x45 2 fun x47 =>
  cmpK .geq x47 (.int .i32 128) fun x49 =>
  grdK x49 false σ1 (fun f => f x47 σ1) fun x51 σ2 =>
  grdK x49 false σ2 (fun f => fitsK .u8 x51 fun v => f v σ2) fun x52 σ3 =>
  grdK x49 false σ3 (fun f => calK run 126 [x52] σ3 f) fun x53 σ4 =>
  grdK x49 false σ4 (fun f => notK x53 fun v => f v σ4) fun x54 σ5 =>
  pickK x49 (.bool true) x54 fun x55 =>
  ifK x55 (
  nchkK x0 fun x57 =>
  addrK x57 6 fun x58 =>
  st1K σ5 x58 (.bool true) fun _ σ6 =>
  s4 x0 x4 x7 x8 x10 x44 σ6) (
  s4 x0 x4 x7 x8 x10 x44 σ5)) (
  .fail)

theorem eq82_4x (run : RunT) (fu : Nat) (s4 : W6) (x0 x4 x7 x8 x10 x44 : AV) (σ : Store) : codeK X0 run (.seq .leaf (.seq (.cond .leaf .leaf) (.block (.seq .leaf (.seq .leaf (.cond .leaf .leaf)))))) (subC [true, true, true, false, true, false, true, true, true, true, false, true, false, true, true, false, false] b82) (frS 0 82 [(0, x0), (4, x4), (7, x7), (8, x8), (10, x10), (44, x44)]) σ (thenK (fun fr σ => s4 (G fr 0) (G fr 4) (G fr 7) (G fr 8) (G fr 10) (G fr 44) σ) failK) = c82_4x run fu s4 x0 x4 x7 x8 x10 x44 σ := by kernel_rfl

theorem owed82_4x {run : RunT} (hrun : RunOK X0 run) (fu : Nat) (s4 : W6) : Owes X0 run 82 (.seq .leaf (.seq (.cond .leaf .leaf) (.block (.seq .leaf (.seq .leaf (.cond .leaf .leaf)))))) (subC [true, true, true, false, true, false, true, true, true, true, false, true, false, true, true, false, false] b82) (thenK (fun fr σ => s4 (G fr 0) (G fr 4) (G fr 7) (G fr 8) (G fr 10) (G fr 44) σ) failK) :=
  ⟨trivial, ⟨⟨trivial, trivial⟩, ⟨trivial, ⟨trivial, ⟨trivial, trivial⟩⟩⟩⟩⟩

noncomputable def c82_4s (run : RunT) (fu : Nat) : Nat → List AV → Store → Tr R :=
  sweepU (planOf (some 5) 100 101 [] [] [] []) (fun s2 xs σ => c82_4b run fu (fun y0 y4 y7 y8 y10 y44 σ => s2 [y0, y4, y7, y8, y10, y44] σ) (xs.getD 0 .any) (xs.getD 1 .any) (xs.getD 2 .any) (xs.getD 3 .any) (xs.getD 4 .any) (xs.getD 5 .any) σ) (fun s2 xs σ => c82_4x run fu (fun y0 y4 y7 y8 y10 y44 σ => s2 [y0, y4, y7, y8, y10, y44] σ) (xs.getD 0 .any) (xs.getD 1 .any) (xs.getD 2 .any) (xs.getD 3 .any) (xs.getD 4 .any) (xs.getD 5 .any) σ)

theorem ok82_4s {run : RunT} (hrun : RunOK X0 run) (fu : Nat) : ∀ fr σ, KOK X0 82 (subC [true, true, true, false, true, false, true, true, true, true, false, true, false, true, true, false] b82) fr σ ((fun fr σ => c82_4s run fu fu [fr.getD 0 .any, fr.getD 4 .any, fr.getD 7 .any, fr.getD 8 .any, fr.getD 10 .any, fr.getD 44 .any] σ) fr σ) (blockK 0 (thenK (fun fr σ => c82_3 run fu (G fr 0) (G fr 4) (G fr 7) (G fr 8) (G fr 10) σ) (thenK (fun fr σ => c82_1 run fu (G fr 3) (G fr 4) σ) k82))) := by
  have h := KOK.sweep (X := X0) (N := 82) (b := (subC [true, true, true, false, true, false, true, true, true, true, false, true, false, true, true, false, false] b82)) (k := (blockK 0 (thenK (fun fr σ => c82_3 run fu (G fr 0) (G fr 4) (G fr 7) (G fr 8) (G fr 10) σ) (thenK (fun fr σ => c82_1 run fu (G fr 3) (G fr 4) σ) k82)))) (js := [0, 4, 7, 8, 10, 44]) (body := (fun s2 xs σ => c82_4b run fu (fun y0 y4 y7 y8 y10 y44 σ => s2 [y0, y4, y7, y8, y10, y44] σ) (xs.getD 0 .any) (xs.getD 1 .any) (xs.getD 2 .any) (xs.getD 3 .any) (xs.getD 4 .any) (xs.getD 5 .any) σ)) (bodyx := (fun s2 xs σ => c82_4x run fu (fun y0 y4 y7 y8 y10 y44 σ => s2 [y0, y4, y7, y8, y10, y44] σ) (xs.getD 0 .any) (xs.getD 1 .any) (xs.getD 2 .any) (xs.getD 3 .any) (xs.getD 4 .any) (xs.getD 5 .any) σ)) rfl (planOf (some 5) 100 101 [] [] [] []) (fun s2 fr σ => KOK.piece env0 hrun [0, 4, 7, 8, 10, 44] (eq82_4 run fu (fun y0 y4 y7 y8 y10 y44 σ => s2 [y0, y4, y7, y8, y10, y44] σ) (G fr 0) (G fr 4) (G fr 7) (G fr 8) (G fr 10) (G fr 44) σ) (owed82_4 hrun fu (fun y0 y4 y7 y8 y10 y44 σ => s2 [y0, y4, y7, y8, y10, y44] σ))) (fun s2 fr σ => KOK.piece env0 hrun [0, 4, 7, 8, 10, 44] (eq82_4x run fu (fun y0 y4 y7 y8 y10 y44 σ => s2 [y0, y4, y7, y8, y10, y44] σ) (G fr 0) (G fr 4) (G fr 7) (G fr 8) (G fr 10) (G fr 44) σ) (owed82_4x hrun fu (fun y0 y4 y7 y8 y10 y44 σ => s2 [y0, y4, y7, y8, y10, y44] σ)))
  exact fun fr σ => h fu fr σ

noncomputable def c82_2 (run : RunT) (fu : Nat) (x0 x4 x7 x8 : AV) (σ : Store) : Tr R :=
  nchkK x0 fun x31 =>
  addrK x31 0 fun x32 =>
  ld1K σ x32 fun x33 =>
  nchkK x33 fun x34 =>
  addrK x34 0 fun x35 =>
  ld1K σ x35 fun x36 =>
  ifK x36 (
  calK run 125 [x0, x8] σ fun x40 σ1 =>
  extK x40 0 fun x41 =>
  extK x40 1 fun x42 =>
  genK (rangeA Tryz.prog σ1 9 x41) fun x44 σ2 =>
  c82_4s run fu fu [x0, x4, x7, x42, x41, x44] σ2) (
  c82_3 run fu x0 x4 x7 x8 (.str []) σ)

theorem eq82_2 (run : RunT) (fu : Nat) (x0 x4 x7 x8 : AV) (σ : Store) : codeK X0 run (.seq .leaf (.seq (.seq .leaf (.cond (.seq .leaf (.seq .leaf (.block (.sub (fun fr σ => c82_4s run fu fu [fr.getD 0 .any, fr.getD 4 .any, fr.getD 7 .any, fr.getD 8 .any, fr.getD 10 .any, fr.getD 44 .any] σ))))) .leaf)) (.sub (fun fr σ => c82_3 run fu (G fr 0) (G fr 4) (G fr 7) (G fr 8) (G fr 10) σ)))) (subC [true, true, true, false, true, false, true, true, true] b82) (frS 0 82 [(0, x0), (4, x4), (7, x7), (8, x8)]) σ (thenK (fun fr σ => c82_1 run fu (G fr 3) (G fr 4) σ) k82) = c82_2 run fu x0 x4 x7 x8 σ := by kernel_rfl

theorem ok82_2 {run : RunT} (hrun : RunOK X0 run) (fu : Nat) : ∀ fr σ, KOK X0 82 (subC [true, true, true, false, true, false, true, true, true] b82) fr σ ((fun fr σ => c82_2 run fu (G fr 0) (G fr 4) (G fr 7) (G fr 8) σ) fr σ) (thenK (fun fr σ => c82_1 run fu (G fr 3) (G fr 4) σ) k82) := fun fr σ =>
  KOK.piece env0 hrun [0, 4, 7, 8] (eq82_2 run fu (G fr 0) (G fr 4) (G fr 7) (G fr 8) σ) ⟨trivial, ⟨⟨trivial, ⟨⟨trivial, ⟨trivial, (ok82_4s hrun fu)⟩⟩, trivial⟩⟩, (ok82_3 hrun fu)⟩⟩

noncomputable def c82 (run : RunT) (fu : Nat) (x0 x1 : AV) (σ : Store) : Tr R :=
  boxK σ 201 x1 fun x3 σ1 =>
  newK σ1 201 [(.int .i64 0), (.int .i64 0), (.int .i64 0), (.str []), (.int .u8 0)] fun x4 σ2 =>
  ldNK σ2 x3 5 fun x14 =>
  newK σ2 201 [(.int .i64 0), (.int .i64 0), (.int .i64 0), (.str []), (.int .u8 0)] fun x6 σ3 =>
  stNK σ3 x6 5 x14 fun _ σ4 =>
  newK σ4 7 [(.int .i64 0)] fun x7 σ5 =>
  calK run 121 [x6, x7] σ5 fun x15 σ6 =>
  ifK x15 (
  calK run 122 [x6] σ6 fun x16 σ7 =>
  calK run 123 [x16] σ7 fun x18 σ8 =>
  calK run 124 [x18, (.str [35])] σ8 fun x20 σ9 =>
  calK run 123 [x20] σ9 fun x23 σ10 =>
  neSK x20 x23 fun x24 =>
  grdK x24 false σ10 (fun f => f x20 σ10) fun x26 σ11 =>
  grdK x24 false σ11 (fun f => eqSK x26 (.str []) fun v => f v σ11) fun x27 σ12 =>
  pickK x24 (.bool true) x27 fun x28 =>
  ifK x28 (
  c82_2 run fu x0 x4 x7 x20 σ12) (
  c82_2 run fu x0 x4 x7 x18 σ12)) (
  c82_1 run fu x3 x4 σ6)

theorem eq82 (run : RunT) (fu : Nat) (x0 x1 : AV) (σ : Store) : codeK X0 run (.seq .leaf (.seq .leaf (.seq .leaf (.seq (.seq .leaf (.cond (.seq .leaf (.seq .leaf (.seq (.seq .leaf (.seq .leaf (.cond .leaf .leaf))) (.sub (fun fr σ => c82_2 run fu (G fr 0) (G fr 4) (G fr 7) (G fr 8) σ))))) .leaf)) (.sub (fun fr σ => c82_1 run fu (G fr 3) (G fr 4) σ)))))) (subC [] b82) ([x0, x1] ++ padA (82 - 2)) σ k82 = c82 run fu x0 x1 σ := by kernel_rfl

theorem ok82 {run : RunT} (hrun : RunOK X0 run) (fu : Nat) (x0 x1 : AV) (σ : Store) : CallOK X0 82 [x0, x1] σ (c82 run fu x0 x1 σ) :=
  KOK.body (fn := Tryz.f82) (c := subC [] b82) (by kernel_rfl) (by kernel_rfl) (by show 2 ≤ 82; decide) (KOK.whole env0 hrun (eq82 run fu x0 x1 σ) ⟨trivial, ⟨trivial, ⟨trivial, ⟨⟨trivial, ⟨⟨trivial, ⟨trivial, ⟨⟨trivial, ⟨trivial, ⟨trivial, trivial⟩⟩⟩, (ok82_2 hrun fu)⟩⟩⟩, trivial⟩⟩, (ok82_1 hrun fu)⟩⟩⟩⟩)

-- pub-paratext/pub/rscmarkdown.newSetextHeading

noncomputable def b83 : Code := match Tryz.f83.body with | some c => c | none => .skip

noncomputable def k83 : Kont R := retK Tryz.prog [.cell 4 100, .tmp 5]

noncomputable def c83 (run : RunT) (fu : Nat) (x0 x1 : AV) (σ : Store) : Tr R :=
  boxK σ 201 x1 fun x3 σ1 =>
  newK σ1 201 [(.int .i64 0), (.int .i64 0), (.int .i64 0), (.str []), (.int .u8 0)] fun x4 σ2 =>
  newK σ2 7 [(.int .i64 0)] fun x6 σ3 =>
  ldNK σ3 x3 5 fun x10 =>
  newK σ3 201 [(.int .i64 0), (.int .i64 0), (.int .i64 0), (.str []), (.int .u8 0)] fun x7 σ4 =>
  stNK σ4 x7 5 x10 fun _ σ5 =>
  calK run 129 [x0] σ5 fun x12 σ6 =>
  calK run 89 [x0] σ6 fun x14 σ7 =>
  eqOK (eqIfc Tryz.prog false) x12 (.iface 156 x14) fun x16 =>
  grdK x16 true σ7 (fun f => calK run 130 [x7, x6] σ7 f) fun x18 σ8 =>
  pickK x16 x18 (.bool false) fun x19 =>
  ifK x19 (
  calK run 59 [x0] σ8 fun x21 σ9 =>
  calK run 131 [x0] σ9 fun x24 σ10 =>
  tasK (some .nilp) 147 true x24 fun x25 =>
  extK x25 0 fun x26 =>
  extK x25 1 fun x27 =>
  notK x27 fun x29 =>
  ifK x29 (
  ldNK σ10 x3 5 fun x30 =>
  stNK σ10 x4 5 x30 fun _ σ11 =>
  ldNK σ11 x4 5 fun v12 =>
  .ret (.tup [v12, (.bool false)], σ11)) (
  calK run 132 [x0] σ10 fun x32 σ13 =>
  nchkK x26 fun x35 =>
  addrK x35 0 fun x36 =>
  addrK x36 0 fun x37 =>
  ld1K σ13 x37 fun x38 =>
  nchkK x0 fun x40 =>
  addrK x40 3 fun x41 =>
  ld1K σ13 x41 fun x42 =>
  bldK [(.int .i64 0), (.int .i64 0)] [(0, 1, x38), (1, 1, x42)] fun x43 =>
  ld1K σ13 x6 fun x44 =>
  nchkK x26 fun x46 =>
  addrK x46 2 fun x47 =>
  ld1K σ13 x47 fun x48 =>
  bldK [(.int .i64 0), (.int .i64 0), (.int .i64 0), .nilp, (.str [])] [(0, 2, x43), (2, 1, x44), (3, 1, x48), (4, 1, (.str []))] fun x49 =>
  boxK σ13 461 x49 fun x50 σ14 =>
  calK run 127 [x0, (.iface 227 x50)] σ14 fun x52 σ15 =>
  bldK [(.int .i64 0), (.int .i64 0), (.int .i64 0), (.str []), (.int .u8 0)] [] fun x53 =>
  stNK σ15 x4 5 x53 fun _ σ16 =>
  ldNK σ16 x4 5 fun v17 =>
  .ret (.tup [v17, (.bool true)], σ16))) (
  ldNK σ8 x3 5 fun x54 =>
  stNK σ8 x4 5 x54 fun _ σ18 =>
  ldNK σ18 x4 5 fun v19 =>
  .ret (.tup [v19, (.bool false)], σ18))

theorem eq83 (run : RunT) (fu : Nat) (x0 x1 : AV) (σ : Store) : codeK X0 run (.seq .leaf (.seq .leaf (.seq .leaf (.seq (.seq .leaf (.cond (.seq .leaf (.seq .leaf (.seq (.seq .leaf (.cond (.seq .leaf .leaf) .leaf)) (.seq .leaf (.seq .leaf (.seq .leaf .leaf)))))) .leaf)) (.seq .leaf .leaf))))) (subC [] b83) ([x0, x1] ++ padA (55 - 2)) σ k83 = c83 run fu x0 x1 σ := by kernel_rfl

theorem ok83 {run : RunT} (hrun : RunOK X0 run) (fu : Nat) (x0 x1 : AV) (σ : Store) : CallOK X0 83 [x0, x1] σ (c83 run fu x0 x1 σ) :=
  KOK.body (fn := Tryz.f83) (c := subC [] b83) (by kernel_rfl) (by kernel_rfl) (by show 2 ≤ 55; decide) (KOK.whole env0 hrun (eq83 run fu x0 x1 σ) ⟨trivial, ⟨trivial, ⟨trivial, ⟨⟨trivial, ⟨⟨trivial, ⟨trivial, ⟨⟨trivial, ⟨⟨trivial, trivial⟩, trivial⟩⟩, ⟨trivial, ⟨trivial, ⟨trivial, trivial⟩⟩⟩⟩⟩⟩, trivial⟩⟩, ⟨trivial, trivial⟩⟩⟩⟩⟩)

-- pub-paratext/pub/rscmarkdown.newHR

noncomputable def b84 : Code := match Tryz.f84.body with | some c => c | none => .skip

noncomputable def k84 : Kont R := retK Tryz.prog [.cell 4 100, .tmp 5]

noncomputable def c84 (run : RunT) (fu : Nat) (x0 x1 : AV) (σ : Store) : Tr R :=
  boxK σ 201 x1 fun x3 σ1 =>
  newK σ1 201 [(.int .i64 0), (.int .i64 0), (.int .i64 0), (.str []), (.int .u8 0)] fun x4 σ2 =>
  ldNK σ2 x3 5 fun x6 =>
  calK run 133 [x6] σ2 fun x7 σ3 =>
  ifK x7 (
  nchkK x0 fun x10 =>
  addrK x10 3 fun x11 =>
  ld1K σ3 x11 fun x12 =>
  nchkK x0 fun x14 =>
  addrK x14 3 fun x15 =>
  ld1K σ3 x15 fun x16 =>
  bldK [(.int .i64 0), (.int .i64 0)] [(0, 1, x12), (1, 1, x16)] fun x17 =>
  calK run 122 [x3] σ3 fun x18 σ4 =>
  bldK [(.int .i64 0), (.int .i64 0), (.str [])] [(0, 2, x17), (2, 1, x18)] fun x19 =>
  boxK σ4 473 x19 fun x20 σ5 =>
  calK run 127 [x0, (.iface 234 x20)] σ5 fun x22 σ6 =>
  ld1K σ4 x11 fun v7 =>
  must (AV.beq v7 x12) (
  ld1K σ4 x15 fun v8 =>
  must (AV.beq v8 x16) (
  bldK [(.int .i64 0), (.int .i64 0), (.int .i64 0), (.str []), (.int .u8 0)] [] fun x23 =>
  stNK σ6 x4 5 x23 fun _ σ9 =>
  ldNK σ9 x4 5 fun v10 =>
  .ret (.tup [v10, (.bool true)], σ9)))) (
  ldNK σ3 x3 5 fun x24 =>
  stNK σ3 x4 5 x24 fun _ σ11 =>
  ldNK σ11 x4 5 fun v12 =>
  .ret (.tup [v12, (.bool false)], σ11))

theorem eq84 (run : RunT) (fu : Nat) (x0 x1 : AV) (σ : Store) : codeK X0 run (.seq .leaf (.seq (.seq .leaf (.cond (.seq .leaf (.seq .leaf .leaf)) .leaf)) (.seq .leaf .leaf))) (subC [] b84) ([x0, x1] ++ padA (25 - 2)) σ k84 = c84 run fu x0 x1 σ := by kernel_rfl

theorem ok84 {run : RunT} (hrun : RunOK X0 run) (fu : Nat) (x0 x1 : AV) (σ : Store) : CallOK X0 84 [x0, x1] σ (c84 run fu x0 x1 σ) :=
  KOK.body (fn := Tryz.f84) (c := subC [] b84) (by kernel_rfl) (by kernel_rfl) (by show 2 ≤ 25; decide) (KOK.whole env0 hrun (eq84 run fu x0 x1 σ) ⟨trivial, ⟨⟨trivial, ⟨⟨trivial, ⟨trivial, trivial⟩⟩, trivial⟩⟩, ⟨trivial, trivial⟩⟩⟩)

-- pub-paratext/pub/rscmarkdown.newListItem

noncomputable def b85 : Code := match Tryz.f85.body with | some c => c | none => .skip

noncomputable def k85 : Kont R := retK Tryz.prog [.cell 4 100, .tmp 5]

noncomputable def c85 (run : RunT) (fu : Nat) (x0 x1 : AV) (σ : Store) : Tr R :=
  boxK σ 201 x1 fun x3 σ1 =>
  newK σ1 201 [(.int .i64 0), (.int .i64 0), (.int .i64 0), (.str []), (.int .u8 0)] fun x4 σ2 =>
  calK run 134 [x0] σ2 fun x10 σ3 =>
  tasK (some .nilp) 237 true x10 fun x11 =>
  extK x11 0 fun x12 =>
  extK x11 1 fun x13 =>
  grdK x13 true σ3 (fun f => f x12 σ3) fun x16 σ4 =>
  grdK x13 true σ4 (fun f => nchkK x16 fun v => f v σ4) fun x17 σ5 =>
  grdK x13 true σ5 (fun f => addrK x17 4 fun v => f v σ5) fun x18 σ6 =>
  grdK x13 true σ6 (fun f => ld1K σ6 x18 fun v => f v σ6) fun x19 σ7 =>
  grdK x13 true σ7 (fun f => neOK (nilEq nilF) x19 .nilf fun v => f v σ7) fun x20 σ8 =>
  pickK x13 x20 (.bool false) fun x21 =>
  ifK x21 (
  nchkK x12 fun x23 =>
  addrK x23 4 fun x24 =>
  ld1K σ8 x24 fun x25 =>
  dynK X0 run x25 [] σ8 fun x26 σ9 =>
  stNK σ9 x3 5 x26 fun _ σ10 =>
  nchkK x12 fun x28 =>
  addrK x28 4 fun x29 =>
  st1K σ10 x29 .nilf fun _ σ11 =>
  ldNK σ11 x3 5 fun x30 =>
  stNK σ11 x4 5 x30 fun _ σ12 =>
  ldNK σ12 x4 5 fun v13 =>
  .ret (.tup [v13, (.bool true)], σ12)) (
  calK run 135 [x0, x3] σ8 fun x32 σ14 =>
  ifK x32 (
  ldNK σ14 x3 5 fun x33 =>
  stNK σ14 x4 5 x33 fun _ σ15 =>
  ldNK σ15 x4 5 fun v16 =>
  .ret (.tup [v16, (.bool true)], σ15)) (
  ldNK σ14 x3 5 fun x34 =>
  stNK σ14 x4 5 x34 fun _ σ17 =>
  ldNK σ17 x4 5 fun v18 =>
  .ret (.tup [v18, (.bool false)], σ17)))

theorem eq85 (run : RunT) (fu : Nat) (x0 x1 : AV) (σ : Store) : codeK X0 run (.seq .leaf (.seq (.seq .leaf (.seq .leaf (.cond (.seq .leaf (.seq .leaf (.seq .leaf .leaf))) .leaf))) (.seq (.seq .leaf (.cond (.seq .leaf .leaf) .leaf)) (.seq .leaf .leaf)))) (subC [] b85) ([x0, x1] ++ padA (35 - 2)) σ k85 = c85 run fu x0 x1 σ := by kernel_rfl

theorem ok85 {run : RunT} (hrun : RunOK X0 run) (fu : Nat) (x0 x1 : AV) (σ : Store) : CallOK X0 85 [x0, x1] σ (c85 run fu x0 x1 σ) :=
  KOK.body (fn := Tryz.f85) (c := subC [] b85) (by kernel_rfl) (by kernel_rfl) (by show 2 ≤ 35; decide) (KOK.whole env0 hrun (eq85 run fu x0 x1 σ) ⟨trivial, ⟨⟨trivial, ⟨trivial, ⟨⟨trivial, ⟨trivial, ⟨trivial, trivial⟩⟩⟩, trivial⟩⟩⟩, ⟨⟨trivial, ⟨⟨trivial, trivial⟩, trivial⟩⟩, ⟨trivial, trivial⟩⟩⟩⟩)

-- pub-paratext/pub/rscmarkdown.newHTML

noncomputable def b86 : Code := match Tryz.f86.body with | some c => c | none => .skip

noncomputable def k86 : Kont R := retK Tryz.prog [.cell 4 100, .tmp 5]

noncomputable def c86 (run : RunT) (fu : Nat) (x0 x1 : AV) (σ : Store) : Tr R :=
  boxK σ 201 x1 fun x3 σ1 =>
  newK σ1 201 [(.int .i64 0), (.int .i64 0), (.int .i64 0), (.str []), (.int .u8 0)] fun x4 σ2 =>
  ldNK σ2 x3 5 fun x7 =>
  newK σ2 201 [(.int .i64 0), (.int .i64 0), (.int .i64 0), (.str []), (.int .u8 0)] fun x6 σ3 =>
  stNK σ3 x6 5 x7 fun _ σ4 =>
  calK run 136 [x0, x6] σ4 fun x9 σ5 =>
  ifK x9 (
  bldK [(.int .i64 0), (.int .i64 0), (.int .i64 0), (.str []), (.int .u8 0)] [] fun x10 =>
  stNK σ5 x4 5 x10 fun _ σ6 =>
  ldNK σ6 x4 5 fun v7 =>
  .ret (.tup [v7, (.bool true)], σ6)) (
  ldNK σ5 x3 5 fun x11 =>
  stNK σ5 x4 5 x11 fun _ σ8 =>
  ldNK σ8 x4 5 fun v9 =>
  .ret (.tup [v9, (.bool false)], σ8))

theorem eq86 (run : RunT) (fu : Nat) (x0 x1 : AV) (σ : Store) : codeK X0 run (.seq .leaf (.seq .leaf (.seq (.seq .leaf (.cond (.seq .leaf .leaf) .leaf)) (.seq .leaf .leaf)))) (subC [] b86) ([x0, x1] ++ padA (12 - 2)) σ k86 = c86 run fu x0 x1 σ := by kernel_rfl

theorem ok86 {run : RunT} (hrun : RunOK X0 run) (fu : Nat) (x0 x1 : AV) (σ : Store) : CallOK X0 86 [x0, x1] σ (c86 run fu x0 x1 σ) :=
  KOK.body (fn := Tryz.f86) (c := subC [] b86) (by kernel_rfl) (by kernel_rfl) (by show 2 ≤ 12; decide) (KOK.whole env0 hrun (eq86 run fu x0 x1 σ) ⟨trivial, ⟨trivial, ⟨⟨trivial, ⟨⟨trivial, trivial⟩, trivial⟩⟩, ⟨trivial, trivial⟩⟩⟩⟩)

-- pub-paratext/pub/rscmarkdown.newFence

noncomputable def b87 : Code := match Tryz.f87.body with | some c => c | none => .skip

noncomputable def k87 : Kont R := retK Tryz.prog [.cell 4 100, .tmp 5]

noncomputable def c87_1 (run : RunT) (fu : Nat) (x3 x4 : AV) (σ : Store) : Tr R :=
  ldNK σ x3 5 fun x56 =>
  stNK σ x4 5 x56 fun _ σ1 =>
  ldNK σ1 x4 5 fun v2 =>
  .ret (.tup [v2, (.bool false)], σ1)

theorem eq87_1 (run : RunT) (fu : Nat) (x3 x4 : AV) (σ : Store) : codeK X0 run (.seq .leaf .leaf) (subC [true, true, true, true, true] b87) (frS 0 57 [(3, x3), (4, x4)]) σ k87 = c87_1 run fu x3 x4 σ := by kernel_rfl

theorem ok87_1 {run : RunT} (hrun : RunOK X0 run) (fu : Nat) : ∀ fr σ, KOK X0 57 (subC [true, true, true, true, true] b87) fr σ ((fun fr σ => c87_1 run fu (G fr 3) (G fr 4) σ) fr σ) k87 := fun fr σ =>
  KOK.piece env0 hrun [3, 4] (eq87_1 run fu (G fr 3) (G fr 4) σ) ⟨trivial, trivial⟩

noncomputable def c87_3 (run : RunT) (fu : Nat) (x0 x4 x6 x7 x8 : AV) (σ : Store) : Tr R :=
  ld1K σ x6 fun x48 =>
  ld1K σ x7 fun x49 =>
  ld1K σ x8 fun x50 =>
  bldK [(.str []), (.str []), (.int .i64 0), .nils] [(0, 1, x48), (1, 1, x49), (2, 1, x50), (3, 1, .nils)] fun x51 =>
  boxK σ 497 x51 fun x52 σ1 =>
  calK run 49 [x0, (.iface 246 x52)] σ1 fun x54 σ2 =>
  bldK [(.int .i64 0), (.int .i64 0), (.int .i64 0), (.str []), (.int .u8 0)] [] fun x55 =>
  stNK σ2 x4 5 x55 fun _ σ3 =>
  ldNK σ3 x4 5 fun v4 =>
  .ret (.tup [v4, (.bool true)], σ3)

theorem eq87_3 (run : RunT) (fu : Nat) (x0 x4 x6 x7 x8 : AV) (σ : Store) : codeK X0 run (.seq .leaf (.seq .leaf .leaf)) (subC [true, true, true, true, false, true, false, true, true] b87) (frS 0 57 [(0, x0), (4, x4), (6, x6), (7, x7), (8, x8)]) σ (thenK (fun fr σ => c87_1 run fu (G fr 3) (G fr 4) σ) k87) = c87_3 run fu x0 x4 x6 x7 x8 σ := by kernel_rfl

theorem ok87_3 {run : RunT} (hrun : RunOK X0 run) (fu : Nat) : ∀ fr σ, KOK X0 57 (subC [true, true, true, true, false, true, false, true, true] b87) fr σ ((fun fr σ => c87_3 run fu (G fr 0) (G fr 4) (G fr 6) (G fr 7) (G fr 8) σ) fr σ) (thenK (fun fr σ => c87_1 run fu (G fr 3) (G fr 4) σ) k87) := fun fr σ =>
  KOK.piece env0 hrun [0, 4, 6, 7, 8] (eq87_3 run fu (G fr 0) (G fr 4) (G fr 6) (G fr 7) (G fr 8) σ) ⟨trivial, ⟨trivial, trivial⟩⟩

noncomputable def c87_4b (run : RunT) (fu : Nat) (s4 : W6) (x0 x4 x6 x7 x8 x36 : AV) (σ : Store) : Tr R :=
  genK (nextA σ x36) fun x37 σ1 =>
  extK x37 0 fun x38 =>
  ifK x38 (
  extK x37 2 fun x39 =>
  calK run 102 [x39] σ1 fun x41 σ2 =>
  ifK x41 (
  cmpK .neq x39 (.int .i32 32) fun x43 =>
  ifK x43 (
  nchkK x0 fun x45 =>
  addrK x45 6 fun x46 =>
  st1K σ2 x46 (.bool true) fun _ σ3 =>
  c87_3 run fu x0 x4 x6 x7 x8 σ3) (
  c87_3 run fu x0 x4 x6 x7 x8 σ2)) (
  s4 x0 x4 x6 x7 x8 x36 σ2)) (
  c87_3 run fu x0 x4 x6 x7 x8 σ1)

noncomputable def c87_4 (run : RunT) (fu : Nat) : Nat → W6
  | 0 => fun _ _ _ _ _ _ _ => .fail
  | m + 1 => c87_4b run fu (c87_4 run fu m)

theorem eq87_4 (run : RunT) (fu : Nat) (s4 : W6) (x0 x4 x6 x7 x8 x36 : AV) (σ : Store) : codeK X0 run (.seq .leaf (.seq (.cond .leaf .leaf) (.block (.seq .leaf (.seq .leaf (.cond (.seq (.seq .leaf (.cond .leaf .leaf)) .leaf) .leaf)))))) (subC [true, true, true, true, false, true, false, true, false, true, false, false] b87) (frS 0 57 [(0, x0), (4, x4), (6, x6), (7, x7), (8, x8), (36, x36)]) σ (thenK (fun fr σ => s4 (G fr 0) (G fr 4) (G fr 6) (G fr 7) (G fr 8) (G fr 36) σ) (blockK 0 (thenK (fun fr σ => c87_3 run fu (G fr 0) (G fr 4) (G fr 6) (G fr 7) (G fr 8) σ) (thenK (fun fr σ => c87_1 run fu (G fr 3) (G fr 4) σ) k87)))) = c87_4b run fu s4 x0 x4 x6 x7 x8 x36 σ := by kernel_rfl

theorem owed87_4 {run : RunT} (hrun : RunOK X0 run) (fu : Nat) (s4 : W6) : Owes X0 run 57 (.seq .leaf (.seq (.cond .leaf .leaf) (.block (.seq .leaf (.seq .leaf (.cond (.seq (.seq .leaf (.cond .leaf .leaf)) .leaf) .leaf)))))) (subC [true, true, true, true, false, true, false, true, false, true, false, false] b87) (thenK (fun fr σ => s4 (G fr 0) (G fr 4) (G fr 6) (G fr 7) (G fr 8) (G fr 36) σ) (blockK 0 (thenK (fun fr σ => c87_3 run fu (G fr 0) (G fr 4) (G fr 6) (G fr 7) (G fr 8) σ) (thenK (fun fr σ => c87_1 run fu (G fr 3) (G fr 4) σ) k87)))) :=
  ⟨trivial, ⟨⟨trivial, trivial⟩, ⟨trivial, ⟨trivial, ⟨⟨⟨trivial, ⟨trivial, trivial⟩⟩, trivial⟩, trivial⟩⟩⟩⟩⟩

theorem ok87_4 {run : RunT} (hrun : RunOK X0 run) (fu : Nat) : ∀ fr σ, KOK X0 57 (subC [true, true, true, true, false, true, false, true, false, true, false] b87) fr σ ((fun fr σ => c87_4 run fu fu (G fr 0) (G fr 4) (G fr 6) (G fr 7) (G fr 8) (G fr 36) σ) fr σ) (blockK 0 (thenK (fun fr σ => c87_3 run fu (G fr 0) (G fr 4) (G fr 6) (G fr 7) (G fr 8) σ) (thenK (fun fr σ => c87_1 run fu (G fr 3) (G fr 4) σ) k87))) := by
  have h := KOK.loop (X := X0) (N := 57) (b := (subC [true, true, true, true, false, true, false, true, false, true, false, false] b87)) (k := (blockK 0 (thenK (fun fr σ => c87_3 run fu (G fr 0) (G fr 4) (G fr 6) (G fr 7) (G fr 8) σ) (thenK (fun fr σ => c87_1 run fu (G fr 3) (G fr 4) σ) k87)))) (u := fun m fr σ => c87_4 run fu m (G fr 0) (G fr 4) (G fr 6) (G fr 7) (G fr 8) (G fr 36) σ) (fun _ _ => rfl) (fun m fr σ => KOK.piece env0 hrun [0, 4, 6, 7, 8, 36] (eq87_4 run fu (c87_4 run fu m) (G fr 0) (G fr 4) (G fr 6) (G fr 7) (G fr 8) (G fr 36) σ) (owed87_4 hrun fu (c87_4 run fu m)))
  exact fun fr σ => h fu fr σ

noncomputable def c87_2 (run : RunT) (fu : Nat) (x0 x4 x6 x7 x8 : AV) (σ : Store) : Tr R :=
  ld1K σ x7 fun x35 =>
  genK (rangeA Tryz.prog σ 9 x35) fun x36 σ1 =>
  c87_4 run fu fu x0 x4 x6 x7 x8 x36 σ1

theorem eq87_2 (run : RunT) (fu : Nat) (x0 x4 x6 x7 x8 : AV) (σ : Store) : codeK X0 run (.seq (.seq .leaf (.block (.sub (fun fr σ => c87_4 run fu fu (G fr 0) (G fr 4) (G fr 6) (G fr 7) (G fr 8) (G fr 36) σ)))) (.sub (fun fr σ => c87_3 run fu (G fr 0) (G fr 4) (G fr 6) (G fr 7) (G fr 8) σ))) (subC [true, true, true, true, false, true, false, true] b87) (frS 0 57 [(0, x0), (4, x4), (6, x6), (7, x7), (8, x8)]) σ (thenK (fun fr σ => c87_1 run fu (G fr 3) (G fr 4) σ) k87) = c87_2 run fu x0 x4 x6 x7 x8 σ := by kernel_rfl

theorem ok87_2 {run : RunT} (hrun : RunOK X0 run) (fu : Nat) : ∀ fr σ, KOK X0 57 (subC [true, true, true, true, false, true, false, true] b87) fr σ ((fun fr σ => c87_2 run fu (G fr 0) (G fr 4) (G fr 6) (G fr 7) (G fr 8) σ) fr σ) (thenK (fun fr σ => c87_1 run fu (G fr 3) (G fr 4) σ) k87) := fun fr σ =>
  KOK.piece env0 hrun [0, 4, 6, 7, 8] (eq87_2 run fu (G fr 0) (G fr 4) (G fr 6) (G fr 7) (G fr 8) σ) ⟨⟨trivial, (ok87_4 hrun fu)⟩, (ok87_3 hrun fu)⟩

noncomputable def c87 (run : RunT) (fu : Nat) (x0 x1 : AV) (σ : Store) : Tr R :=
  boxK σ 201 x1 fun x3 σ1 =>
  newK σ1 201 [(.int .i64 0), (.int .i64 0), (.int .i64 0), (.str []), (.int .u8 0)] fun x4 σ2 =>
  newK σ2 19 [(.str [])] fun x6 σ3 =>
  newK σ3 19 [(.str [])] fun x7 σ4 =>
  newK σ4 7 [(.int .i64 0)] fun x8 σ5 =>
  ldNK σ5 x3 5 fun x12 =>
  newK σ5 201 [(.int .i64 0), (.int .i64 0), (.int .i64 0), (.str []), (.int .u8 0)] fun x9 σ6 =>
  stNK σ6 x9 5 x12 fun _ σ7 =>
  calK run 137 [x9, x6, x7, x8] σ7 fun x13 σ8 =>
  ifK x13 (
  ld1K σ8 x6 fun x14 =>
  idxSK x14 (.int .i64 0) fun x15 =>
  cmpK .eql x15 (.int .u8 126) fun x16 =>
  grdK x16 true σ8 (fun f => ld1K σ8 x7 fun v => f v σ8) fun x18 σ9 =>
  grdK x16 true σ9 (fun f => neSK x18 (.str []) fun v => f v σ9) fun x19 σ10 =>
  pickK x16 x19 (.bool false) fun x20 =>
  ifK x20 (
  nchkK x0 fun x22 =>
  addrK x22 6 fun x23 =>
  st1K σ10 x23 (.bool true) fun _ σ11 =>
  c87_2 run fu x0 x4 x6 x7 x8 σ11) (
  ld1K σ10 x7 fun x24 =>
  neSK x24 (.str []) fun x25 =>
  grdK x25 true σ10 (fun f => ld1K σ10 x7 fun v => f v σ10) fun x27 σ12 =>
  grdK x25 true σ12 (fun f => idxSK x27 (.int .i64 0) fun v => f v σ12) fun x28 σ13 =>
  grdK x25 true σ13 (fun f => calK run 138 [x28] σ13 f) fun x29 σ14 =>
  grdK x25 true σ14 (fun f => notK x29 fun v => f v σ14) fun x30 σ15 =>
  pickK x25 x30 (.bool false) fun x31 =>
  ifK x31 (
  nchkK x0 fun x33 =>
  addrK x33 6 fun x34 =>
  st1K σ15 x34 (.bool true) fun _ σ16 =>
  c87_2 run fu x0 x4 x6 x7 x8 σ16) (
  c87_2 run fu x0 x4 x6 x7 x8 σ15))) (
  c87_1 run fu x3 x4 σ8)

theorem eq87 (run : RunT) (fu : Nat) (x0 x1 : AV) (σ : Store) : codeK X0 run (.seq .leaf (.seq .leaf (.seq .leaf (.seq .leaf (.seq (.seq .leaf (.cond (.seq (.seq .leaf (.cond .leaf (.seq .leaf (.cond .leaf .leaf)))) (.sub (fun fr σ => c87_2 run fu (G fr 0) (G fr 4) (G fr 6) (G fr 7) (G fr 8) σ))) .leaf)) (.sub (fun fr σ => c87_1 run fu (G fr 3) (G fr 4) σ))))))) (subC [] b87) ([x0, x1] ++ padA (57 - 2)) σ k87 = c87 run fu x0 x1 σ := by kernel_rfl

theorem ok87 {run : RunT} (hrun : RunOK X0 run) (fu : Nat) (x0 x1 : AV) (σ : Store) : CallOK X0 87 [x0, x1] σ (c87 run fu x0 x1 σ) :=
  KOK.body (fn := Tryz.f87) (c := subC [] b87) (by kernel_rfl) (by kernel_rfl) (by show 2 ≤ 57; decide) (KOK.whole env0 hrun (eq87 run fu x0 x1 σ) ⟨trivial, ⟨trivial, ⟨trivial, ⟨trivial, ⟨⟨trivial, ⟨⟨⟨trivial, ⟨trivial, ⟨trivial, ⟨trivial, trivial⟩⟩⟩⟩, (ok87_2 hrun fu)⟩, trivial⟩⟩, (ok87_1 hrun fu)⟩⟩⟩⟩⟩)

-- pub-paratext/pub/rscmarkdown.newPre

noncomputable def b88 : Code := match Tryz.f88.body with | some c => c | none => .skip

noncomputable def k88 : Kont R := retK Tryz.prog [.cell 4 100, .tmp 5]

noncomputable def c88 (run : RunT) (fu : Nat) (x0 x1 : AV) (σ : Store) : Tr R :=
  boxK σ 201 x1 fun x3 σ1 =>
  newK σ1 201 [(.int .i64 0), (.int .i64 0), (.int .i64 0), (.str []), (.int .u8 0)] fun x4 σ2 =>
  ldNK σ2 x3 5 fun x8 =>
  newK σ2 201 [(.int .i64 0), (.int .i64 0), (.int .i64 0), (.str []), (.int .u8 0)] fun x6 σ3 =>
  stNK σ3 x6 5 x8 fun _ σ4 =>
  calK run 89 [x0] σ4 fun x10 σ5 =>
  eqOK (nilEq nilP) x10 .nilp fun x11 =>
  grdK x11 true σ5 (fun f => calK run 139 [x6, (.int .i64 4), (.int .i64 4), (.bool false)] σ5 f) fun x13 σ6 =>
  pickK x11 x13 (.bool false) fun x14 =>
  grdK x14 true σ6 (fun f => calK run 56 [x6] σ6 f) fun x16 σ7 =>
  grdK x14 true σ7 (fun f => notK x16 fun v => f v σ7) fun x17 σ8 =>
  pickK x14 x17 (.bool false) fun x18 =>
  ifK x18 (
  bldK [(.str []), .nils] [] fun x19 =>
  boxK σ8 505 x19 fun x20 σ9 =>
  calK run 49 [x0, (.iface 250 x20)] σ9 fun x24 σ10 =>
  nchkK x0 fun x27 =>
  addrK x27 6 fun x28 =>
  ld1K σ10 x28 fun x29 =>
  grdK x29 false σ10 (fun f => addrK x6 4 fun v => f v σ10) fun x31 σ11 =>
  grdK x29 false σ11 (fun f => ld1K σ11 x31 fun v => f v σ11) fun x32 σ12 =>
  grdK x29 false σ12 (fun f => cmpK .neq x32 (.int .u8 10) fun v => f v σ12) fun x33 σ13 =>
  pickK x29 (.bool true) x33 fun x34 =>
  nchkK x0 fun x35 =>
  addrK x35 6 fun x36 =>
  st1K σ13 x36 x34 fun _ σ14 =>
  nchkK x20 fun x39 =>
  addrK x39 1 fun x40 =>
  ld1K σ14 x40 fun x41 =>
  calK run 122 [x6] σ14 fun x42 σ15 =>
  opt (fillK [(.str [])] [(0, 1, x42)]) fun cs => newSK σ15 19 cs 1 1 fun x43 σ16 =>
  appK 9 1 16 σ16 x41 x43 fun x44 σ17 =>
  nchkK x20 fun x45 =>
  addrK x45 1 fun x46 =>
  st1K σ17 x46 x44 fun _ σ18 =>
  ld1K σ15 x40 fun v19 =>
  must (AV.beq v19 x41) (
  ld1K σ16 x40 fun v20 =>
  must (AV.beq v20 x41) (
  bldK [(.int .i64 0), (.int .i64 0), (.int .i64 0), (.str []), (.int .u8 0)] [] fun x47 =>
  stNK σ18 x4 5 x47 fun _ σ21 =>
  ldNK σ21 x4 5 fun v22 =>
  .ret (.tup [v22, (.bool true)], σ21)))) (
  ldNK σ8 x3 5 fun x48 =>
  stNK σ8 x4 5 x48 fun _ σ23 =>
  ldNK σ23 x4 5 fun v24 =>
  .ret (.tup [v24, (.bool false)], σ23))

theorem eq88 (run : RunT) (fu : Nat) (x0 x1 : AV) (σ : Store) : codeK X0 run (.seq .leaf (.seq .leaf (.seq (.seq .leaf (.cond (.seq .leaf (.seq .leaf (.seq .leaf (.seq .leaf (.seq .leaf .leaf))))) .leaf)) (.seq .leaf .leaf)))) (subC [] b88) ([x0, x1] ++ padA (49 - 2)) σ k88 = c88 run fu x0 x1 σ := by kernel_rfl

theorem ok88 {run : RunT} (hrun : RunOK X0 run) (fu : Nat) (x0 x1 : AV) (σ : Store) : CallOK X0 88 [x0, x1] σ (c88 run fu x0 x1 σ) :=
  KOK.body (fn := Tryz.f88) (c := subC [] b88) (by kernel_rfl) (by kernel_rfl) (by show 2 ≤ 49; decide) (KOK.whole env0 hrun (eq88 run fu x0 x1 σ) ⟨trivial, ⟨trivial, ⟨⟨trivial, ⟨⟨trivial, ⟨trivial, ⟨trivial, ⟨trivial, ⟨trivial, trivial⟩⟩⟩⟩⟩, trivial⟩⟩, ⟨trivial, trivial⟩⟩⟩⟩)

-- (*pub-paratext/pub/rscmarkdown.parseState).para

noncomputable def b89 : Code := match Tryz.f89.body with | some c => c | none => .skip

noncomputable def k89 : Kont R := retK Tryz.prog [.tmp 2]

noncomputable def c89 (run : RunT) (fu : Nat) (x0 : AV) (σ : Store) : Tr R :=
  nchkK x0 fun x7 =>
  addrK x7 4 fun x8 =>
  ld1K σ x8 fun x9 =>
  nchkK x0 fun x11 =>
  addrK x11 4 fun x12 =>
  ld1K σ x12 fun x13 =>
  lenLK x13 fun x14 =>
  subK x14 (.int .i64 1) fun x15 =>
  idxK 4 x9 x15 fun x16 =>
  addrK x16 0 fun x17 =>
  ld1K σ x17 fun x18 =>
  tasK (some .nilp) 156 true x18 fun x19 =>
  extK x19 0 fun x20 =>
  extK x19 1 fun x21 =>
  ifK x21 (
  .ret (x20, σ)) (
  .ret (.nilp, σ))

theorem eq89 (run : RunT) (fu : Nat) (x0 : AV) (σ : Store) : codeK X0 run (.seq .leaf (.seq (.seq .leaf (.seq .leaf (.cond (.seq .leaf .leaf) .leaf))) (.seq .leaf .leaf))) (subC [] b89) ([x0] ++ padA (24 - 1)) σ k89 = c89 run fu x0 σ := by kernel_rfl

theorem ok89 {run : RunT} (hrun : RunOK X0 run) (fu : Nat) (x0 : AV) (σ : Store) : CallOK X0 89 [x0] σ (c89 run fu x0 σ) :=
  KOK.body (fn := Tryz.f89) (c := subC [] b89) (by kernel_rfl) (by kernel_rfl) (by show 1 ≤ 24; decide) (KOK.whole env0 hrun (eq89 run fu x0 σ) ⟨trivial, ⟨⟨trivial, ⟨trivial, ⟨⟨trivial, trivial⟩, trivial⟩⟩⟩, ⟨trivial, trivial⟩⟩⟩)

-- (*pub-paratext/pub/rscmarkdown.line).trimSpaceString

noncomputable def b90 : Code := match Tryz.f90.body with | some c => c | none => .skip

noncomputable def k90 : Kont R := retK Tryz.prog [.tmp 2]

noncomputable def c90 (run : RunT) (fu : Nat) (x0 : AV) (σ : Store) : Tr R :=
  nchkK x0 fun x4 =>
  addrK x4 3 fun x5 =>
  ld1K σ x5 fun x6 =>
  nchkK x0 fun x8 =>
  addrK x8 1 fun x9 =>
  ld1K σ x9 fun x10 =>
  sliceSK x6 (some x10) none fun x11 =>
  calK run 80 [x11] σ fun x12 σ1 =>
  .ret (x12, σ1)

theorem eq90 (run : RunT) (fu : Nat) (x0 : AV) (σ : Store) : codeK X0 run (.seq .leaf (.seq .leaf .leaf)) (subC [] b90) ([x0] ++ padA (13 - 1)) σ k90 = c90 run fu x0 σ := by kernel_rfl

theorem ok90 {run : RunT} (hrun : RunOK X0 run) (fu : Nat) (x0 : AV) (σ : Store) : CallOK X0 90 [x0] σ (c90 run fu x0 σ) :=
  KOK.body (fn := Tryz.f90) (c := subC [] b90) (by kernel_rfl) (by kernel_rfl) (by show 1 ≤ 13; decide) (KOK.whole env0 hrun (eq90 run fu x0 σ) ⟨trivial, ⟨trivial, trivial⟩⟩)

end Go.Proofs.YtfmgdjkcdmjloaaGreatDoor
