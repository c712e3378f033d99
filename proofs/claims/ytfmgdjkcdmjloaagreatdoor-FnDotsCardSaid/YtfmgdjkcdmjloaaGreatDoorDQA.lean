/- Functions of the program, told as Lean functions of abstract values and stores, each with its proof. -/
import Derived.Test.YtfmgdjkcdmjloaaGreatDoorSnX
import Derived.Test.YtfmgdjkcdmjloaaGreatDoorSnNc
import Derived.Test.YtfmgdjkcdmjloaaGreatDoorSnAb
set_option linter.unusedVariables false
set_option linter.unusedSimpArgs false
namespace Go.Proofs.YtfmgdjkcdmjloaaGreatDoor
open Go.AM
-- pub-paratext/laws.FnDots

noncomputable def b4 : Code := match Tryz.f4.body with | some c => c | none => .skip

noncomputable def k4 : Kont R := retK Tryz.prog [.tmp 2]

noncomputable def c4 (run : RunT) (fu : Nat) (x0 : AV) (σ : Store) : Tr R :=
  lenSK x0 fun x4 =>
  cmpK .gtr x4 (.int .i64 2147483647) fun x5 =>
  ifK x5 (
  .ret ((.bool true), σ)) (
  calK run 11 [x0, (.str [97, 98, 32, 46]), (.int .i64 100)] σ fun x7 σ1 =>
  notK x7 fun x8 =>
  ifK x8 (
  .ret ((.bool true), σ1)) (
  catK (.str [120]) x0 fun x10 =>
  catK x10 (.str [120]) fun x11 =>
  bldK [(.bool false), (.bool false), (.bool false), (.bool false), (.bool false), (.bool false), (.bool false), (.bool false), (.bool false), (.bool false)] [(5, 1, (.bool true))] fun x12 =>
  calK run 12 [x12, x11] σ1 fun x14 σ2 =>
  calK run 13 [x11] σ2 fun x16 σ3 =>
  catK (.str [60, 112, 62]) x16 fun x17 =>
  catK x17 (.str [60, 47, 112, 62, 10]) fun x18 =>
  eqSK x14 x18 fun x19 =>
  .ret (x19, σ3)))

theorem eq4 (run : RunT) (fu : Nat) (x0 : AV) (σ : Store) : codeK X0 run (.seq .leaf (.seq (.seq .leaf (.cond (.seq .leaf .leaf) .leaf)) (.seq (.seq .leaf (.cond (.seq .leaf .leaf) .leaf)) (.seq .leaf (.seq .leaf .leaf))))) (subC [] b4) ([x0] ++ padA (20 - 1)) σ k4 = c4 run fu x0 σ := by kernel_rfl

theorem ok4 {run : RunT} (hrun : RunOK X0 run) (fu : Nat) (x0 : AV) (σ : Store) : CallOK X0 4 [x0] σ (c4 run fu x0 σ) :=
  KOK.body (fn := Tryz.f4) (c := subC [] b4) (by kernel_rfl) (by kernel_rfl) (by show 1 ≤ 20; decide) (KOK.whole env0 hrun (eq4 run fu x0 σ) ⟨trivial, ⟨⟨trivial, ⟨⟨trivial, trivial⟩, trivial⟩⟩, ⟨⟨trivial, ⟨⟨trivial, trivial⟩, trivial⟩⟩, ⟨trivial, ⟨trivial, trivial⟩⟩⟩⟩⟩)

-- pub-paratext/impl.HTML

noncomputable def b12 : Code := match Tryz.f12.body with | some c => c | none => .skip

noncomputable def k12 : Kont R := retK Tryz.prog [.tmp 4]

noncomputable def c12 (run : RunT) (fu : Nat) (x0 x1 : AV) (σ : Store) : Tr R :=
  boxK σ 51 x0 fun x2 σ1 =>
  ldNK σ1 x2 10 fun x5 =>
  calK run 26 [x5] σ1 fun x6 σ2 =>
  calK run 27 [x6, x1] σ2 fun x8 σ3 =>
  calK run 25 [(.iface 48 x8)] σ3 fun x10 σ4 =>
  .ret (x10, σ4)

theorem eq12 (run : RunT) (fu : Nat) (x0 x1 : AV) (σ : Store) : codeK X0 run (.seq .leaf (.seq .leaf .leaf)) (subC [] b12) ([x0, x1] ++ padA (11 - 2)) σ k12 = c12 run fu x0 x1 σ := by kernel_rfl

theorem ok12 {run : RunT} (hrun : RunOK X0 run) (fu : Nat) (x0 x1 : AV) (σ : Store) : CallOK X0 12 [x0, x1] σ (c12 run fu x0 x1 σ) :=
  KOK.body (fn := Tryz.f12) (c := subC [] b12) (by kernel_rfl) (by kernel_rfl) (by show 2 ≤ 11; decide) (KOK.whole env0 hrun (eq12 run fu x0 x1 σ) ⟨trivial, ⟨trivial, trivial⟩⟩)

-- pub-paratext/laws.ellipses

noncomputable def b13 : Code := match Tryz.f13.body with | some c => c | none => .skip

noncomputable def k13 : Kont R := retK Tryz.prog [.tmp 2]

noncomputable def c13_1 (run : RunT) (fu : Nat) (x3 : AV) (σ : Store) : Tr R :=
  calK run 20 [x3] σ fun x22 σ1 =>
  .ret (x22, σ1)

theorem eq13_1 (run : RunT) (fu : Nat) (x3 : AV) (σ : Store) : codeK X0 run (.seq .leaf .leaf) (subC [true, true, true] b13) (frS 0 23 [(3, x3)]) σ k13 = c13_1 run fu x3 σ := by kernel_rfl

theorem ok13_1 {run : RunT} (hrun : RunOK X0 run) (fu : Nat) : ∀ fr σ, KOK X0 23 (subC [true, true, true] b13) fr σ ((fun fr σ => c13_1 run fu (G fr 3) σ) fr σ) k13 := fun fr σ =>
  KOK.piece env0 hrun [3] (eq13_1 run fu (G fr 3) σ) ⟨trivial, trivial⟩

noncomputable def c13_3 (run : RunT) (fu : Nat) (s2 : W3) (x0 x3 x4 : AV) (σ : Store) : Tr R :=
  addK x4 (.int .i64 1) fun x10 =>
  s2 x0 x3 x10 σ

theorem eq13_3 (run : RunT) (fu : Nat) (s2 : W3) (x0 x3 x4 : AV) (σ : Store) : codeK X0 run .leaf (subC [true, true, false, true, false, false, true, true] b13) (frS 0 23 [(0, x0), (3, x3), (4, x4)]) σ (thenK (fun fr σ => s2 (G fr 0) (G fr 3) (G fr 4) σ) (blockK 0 (thenK (fun fr σ => c13_1 run fu (G fr 3) σ) k13))) = c13_3 run fu s2 x0 x3 x4 σ := by kernel_rfl

theorem ok13_3 {run : RunT} (hrun : RunOK X0 run) (fu : Nat) (s2 : W3) : ∀ fr σ, KOK X0 23 (subC [true, true, false, true, false, false, true, true] b13) fr σ ((fun fr σ => c13_3 run fu s2 (G fr 0) (G fr 3) (G fr 4) σ) fr σ) (thenK (fun fr σ => s2 (G fr 0) (G fr 3) (G fr 4) σ) (blockK 0 (thenK (fun fr σ => c13_1 run fu (G fr 3) σ) k13))) := fun fr σ =>
  KOK.piece env0 hrun [0, 3, 4] (eq13_3 run fu s2 (G fr 0) (G fr 3) (G fr 4) σ) trivial

noncomputable def c13_2b (run : RunT) (fu : Nat) (s2 : W3) (x0 x3 x4 : AV) (σ : Store) : Tr R :=
  lenSK x0 fun x7 =>
  cmpK .lss x4 x7 fun x8 =>
  ifK x8 (
  sliceSK x0 (some x4) none fun x13 =>
  calK run 28 [x13, (.str [46, 46, 46])] σ fun x14 σ1 =>
  ifK x14 (
  calK run 29 [x3, (.str [226, 128, 166])] σ1 fun x15 σ2 =>
  addK x4 (.int .i64 2) fun x17 =>
  c13_3 run fu s2 x0 x3 x17 σ2) (
  idxSK x0 x4 fun x20 =>
  calK run 19 [x3, x20] σ1 fun x21 σ3 =>
  c13_3 run fu s2 x0 x3 x4 σ3)) (
  c13_1 run fu x3 σ)

noncomputable def c13_2 (run : RunT) (fu : Nat) : Nat → W3
  | 0 => fun _ _ _ _ => .fail
  | m + 1 => c13_2b run fu (c13_2 run fu m)

theorem eq13_2 (run : RunT) (fu : Nat) (s2 : W3) (x0 x3 x4 : AV) (σ : Store) : codeK X0 run (.seq (.seq .leaf (.cond .leaf .leaf)) (.seq (.block (.seq (.seq .leaf (.cond (.seq .leaf (.seq .leaf .leaf)) .leaf)) .leaf)) (.sub (fun fr σ => c13_3 run fu s2 (G fr 0) (G fr 3) (G fr 4) σ)))) (subC [true, true, false, true, false, false] b13) (frS 0 23 [(0, x0), (3, x3), (4, x4)]) σ (thenK (fun fr σ => s2 (G fr 0) (G fr 3) (G fr 4) σ) (blockK 0 (thenK (fun fr σ => c13_1 run fu (G fr 3) σ) k13))) = c13_2b run fu s2 x0 x3 x4 σ := by kernel_rfl

theorem owed13_2 {run : RunT} (hrun : RunOK X0 run) (fu : Nat) (s2 : W3) : Owes X0 run 23 (.seq (.seq .leaf (.cond .leaf .leaf)) (.seq (.block (.seq (.seq .leaf (.cond (.seq .leaf (.seq .leaf .leaf)) .leaf)) .leaf)) (.sub (fun fr σ => c13_3 run fu s2 (G fr 0) (G fr 3) (G fr 4) σ)))) (subC [true, true, false, true, false, false] b13) (thenK (fun fr σ => s2 (G fr 0) (G fr 3) (G fr 4) σ) (blockK 0 (thenK (fun fr σ => c13_1 run fu (G fr 3) σ) k13))) :=
  ⟨⟨trivial, ⟨trivial, trivial⟩⟩, ⟨⟨⟨trivial, ⟨⟨trivial, ⟨trivial, trivial⟩⟩, trivial⟩⟩, trivial⟩, (ok13_3 hrun fu s2)⟩⟩

theorem ok13_2 {run : RunT} (hrun : RunOK X0 run) (fu : Nat) : ∀ fr σ, KOK X0 23 (subC [true, true, false, true, false] b13) fr σ ((fun fr σ => c13_2 run fu fu (G fr 0) (G fr 3) (G fr 4) σ) fr σ) (blockK 0 (thenK (fun fr σ => c13_1 run fu (G fr 3) σ) k13)) := by
  have h := KOK.loop (X := X0) (N := 23) (b := (subC [true, true, false, true, false, false] b13)) (k := (blockK 0 (thenK (fun fr σ => c13_1 run fu (G fr 3) σ) k13))) (u := fun m fr σ => c13_2 run fu m (G fr 0) (G fr 3) (G fr 4) σ) (fun _ _ => rfl) (fun m fr σ => KOK.piece env0 hrun [0, 3, 4] (eq13_2 run fu (c13_2 run fu m) (G fr 0) (G fr 3) (G fr 4) σ) (owed13_2 hrun fu (c13_2 run fu m)))
  exact fun fr σ => h fu fr σ

noncomputable def c13_4 (run : RunT) (fu : Nat) (s2 : W3) (x0 x3 x4 : AV) (σ : Store) : Tr R :=
  addK x4 (.int .i64 1) fun x10 =>
  s2 x0 x3 x10 σ

theorem eq13_4 (run : RunT) (fu : Nat) (s2 : W3) (x0 x3 x4 : AV) (σ : Store) : codeK X0 run .leaf (subC [true, true, false, true, false, false, true, true] b13) (frS 0 23 [(0, x0), (3, x3), (4, x4)]) σ (thenK (fun fr σ => s2 (G fr 0) (G fr 3) (G fr 4) σ) failK) = c13_4 run fu s2 x0 x3 x4 σ := by kernel_rfl

theorem ok13_4 {run : RunT} (hrun : RunOK X0 run) (fu : Nat) (s2 : W3) : ∀ fr σ, KOK X0 23 (subC [true, true, false, true, false, false, true, true] b13) fr σ ((fun fr σ => c13_4 run fu s2 (G fr 0) (G fr 3) (G fr 4) σ) fr σ) (thenK (fun fr σ => s2 (G fr 0) (G fr 3) (G fr 4) σ) failK) := fun fr σ =>
  KOK.piece env0 hrun [0, 3, 4] (eq13_4 run fu s2 (G fr 0) (G fr 3) (G fr 4) σ) trivial

noncomputable def c13_2x (run : RunT) (fu : Nat) (s2 : W3) (x0 x3 x4 : AV) (σ : Store) : Tr R :=
  lenSK x0 fun x7 =>
  cmpK .lss x4 x7 fun x8 =>
  ifK x8 (
  sliceSK x0 (some x4) none fun x13 =>
  calK run 28 [x13, (.str [46, 46, 46])] σ fun x14 σ1 =>
  ifK x14 (
  calK run 29 [x3, (.str [226, 128, 166])] σ1 fun x15 σ2 =>
  addK x4 (.int .i64 2) fun x17 =>
  c13_4 run fu s2 x0 x3 x17 σ2) (
  idxSK x0 x4 fun x20 =>
  calK run 19 [x3, x20] σ1 fun x21 σ3 =>
  c13_4 run fu s2 x0 x3 x4 σ3)) (
  .fail)

theorem eq13_2x (run : RunT) (fu : Nat) (s2 : W3) (x0 x3 x4 : AV) (σ : Store) : codeK X0 run (.seq (.seq .leaf (.cond .leaf .leaf)) (.seq (.block (.seq (.seq .leaf (.cond (.seq .leaf (.seq .leaf .leaf)) .leaf)) .leaf)) (.sub (fun fr σ => c13_4 run fu s2 (G fr 0) (G fr 3) (G fr 4) σ)))) (subC [true, true, false, true, false, false] b13) (frS 0 23 [(0, x0), (3, x3), (4, x4)]) σ (thenK (fun fr σ => s2 (G fr 0) (G fr 3) (G fr 4) σ) failK) = c13_2x run fu s2 x0 x3 x4 σ := by kernel_rfl

theorem owed13_2x {run : RunT} (hrun : RunOK X0 run) (fu : Nat) (s2 : W3) : Owes X0 run 23 (.seq (.seq .leaf (.cond .leaf .leaf)) (.seq (.block (.seq (.seq .leaf (.cond (.seq .leaf (.seq .leaf .leaf)) .leaf)) .leaf)) (.sub (fun fr σ => c13_4 run fu s2 (G fr 0) (G fr 3) (G fr 4) σ)))) (subC [true, true, false, true, false, false] b13) (thenK (fun fr σ => s2 (G fr 0) (G fr 3) (G fr 4) σ) failK) :=
  ⟨⟨trivial, ⟨trivial, trivial⟩⟩, ⟨⟨⟨trivial, ⟨⟨trivial, ⟨trivial, trivial⟩⟩, trivial⟩⟩, trivial⟩, (ok13_4 hrun fu s2)⟩⟩

noncomputable def c13_2s (run : RunT) (fu : Nat) : Nat → List AV → Store → Tr R :=
  sweepN 1 (sweepC 1 1 5 (sweepR (planOf (some 1) 0 2 [] [] [] [101]) (planRC 101 13 9 10 5) (fun t2 xs σ => c13_2b run fu (fun y0 y3 y4 σ => t2 [y0, y3, y4] σ) (xs.getD 0 .any) (xs.getD 1 .any) (xs.getD 2 .any) σ) (fun t2 xs σ => c13_2x run fu (fun y0 y3 y4 σ => t2 [y0, y3, y4] σ) (xs.getD 0 .any) (xs.getD 1 .any) (xs.getD 2 .any) σ)))

theorem ok13_2s {run : RunT} (hrun : RunOK X0 run) (fu : Nat) : ∀ fr σ, KOK X0 23 (subC [true, true, false, true, false] b13) fr σ ((fun fr σ => c13_2s run fu fu [fr.getD 0 .any, fr.getD 3 .any, fr.getD 4 .any] σ) fr σ) (blockK 0 (thenK (fun fr σ => c13_1 run fu (G fr 3) σ) k13)) := by
  have h := KOK.sweepN 1 (KOK.sweepC 1 1 5 (KOK.sweepRow (X := X0) (N := 23) (b := (subC [true, true, false, true, false, false] b13)) (k := (blockK 0 (thenK (fun fr σ => c13_1 run fu (G fr 3) σ) k13))) (js := [0, 3, 4]) (body := (fun t2 xs σ => c13_2b run fu (fun y0 y3 y4 σ => t2 [y0, y3, y4] σ) (xs.getD 0 .any) (xs.getD 1 .any) (xs.getD 2 .any) σ)) (bodyx := (fun t2 xs σ => c13_2x run fu (fun y0 y3 y4 σ => t2 [y0, y3, y4] σ) (xs.getD 0 .any) (xs.getD 1 .any) (xs.getD 2 .any) σ)) rfl (planOf (some 1) 0 2 [] [] [] [101]) (planRC 101 13 9 10 5) (fun t2 fr σ => KOK.piece env0 hrun [0, 3, 4] (eq13_2 run fu (fun y0 y3 y4 σ => t2 [y0, y3, y4] σ) (G fr 0) (G fr 3) (G fr 4) σ) (owed13_2 hrun fu (fun y0 y3 y4 σ => t2 [y0, y3, y4] σ))) (fun t2 fr σ => KOK.piece env0 hrun [0, 3, 4] (eq13_2x run fu (fun y0 y3 y4 σ => t2 [y0, y3, y4] σ) (G fr 0) (G fr 3) (G fr 4) σ) (owed13_2x hrun fu (fun y0 y3 y4 σ => t2 [y0, y3, y4] σ)))))
  exact fun fr σ => h fu fr σ

noncomputable def c13 (run : RunT) (fu : Nat) (x0 : AV) (σ : Store) : Tr R :=
  newK σ 73 [.nilp, .nils] fun x3 σ1 =>
  c13_2s run fu fu [x0, x3, (.int .i64 0)] σ1

theorem eq13 (run : RunT) (fu : Nat) (x0 : AV) (σ : Store) : codeK X0 run (.seq .leaf (.seq .leaf (.seq (.seq .leaf (.block (.sub (fun fr σ => c13_2s run fu fu [fr.getD 0 .any, fr.getD 3 .any, fr.getD 4 .any] σ)))) (.sub (fun fr σ => c13_1 run fu (G fr 3) σ))))) (subC [] b13) ([x0] ++ padA (23 - 1)) σ k13 = c13 run fu x0 σ := by kernel_rfl

theorem ok13 {run : RunT} (hrun : RunOK X0 run) (fu : Nat) (x0 : AV) (σ : Store) : CallOK X0 13 [x0] σ (c13 run fu x0 σ) :=
  KOK.body (fn := Tryz.f13) (c := subC [] b13) (by kernel_rfl) (by kernel_rfl) (by show 1 ≤ 23; decide) (KOK.whole env0 hrun (eq13 run fu x0 σ) ⟨trivial, ⟨trivial, ⟨⟨trivial, (ok13_2s hrun fu)⟩, (ok13_1 hrun fu)⟩⟩⟩)

-- (*strings.Builder).WriteByte

noncomputable def b19 : Code := match Tryz.f19.body with | some c => c | none => .skip

noncomputable def k19 : Kont R := retK Tryz.prog [.tmp 4]

noncomputable def c19 (run : RunT) (fu : Nat) (x0 x1 : AV) (σ : Store) : Tr R :=
  calK run 34 [x0] σ fun x6 σ1 =>
  nchkK x0 fun x9 =>
  addrK x9 1 fun x10 =>
  ld1K σ1 x10 fun x11 =>
  opt (fillK [(.int .u8 0)] [(0, 1, x1)]) fun cs => newSK σ1 11 cs 1 1 fun x13 σ2 =>
  appK 5 1 1 σ2 x11 x13 fun x14 σ3 =>
  nchkK x0 fun x15 =>
  addrK x15 1 fun x16 =>
  st1K σ3 x16 x14 fun _ σ4 =>
  .ret (.nili, σ4)

theorem eq19 (run : RunT) (fu : Nat) (x0 x1 : AV) (σ : Store) : codeK X0 run (.seq .leaf (.seq .leaf (.seq .leaf (.seq .leaf .leaf)))) (subC [] b19) ([x0, x1] ++ padA (17 - 2)) σ k19 = c19 run fu x0 x1 σ := by kernel_rfl

theorem ok19 {run : RunT} (hrun : RunOK X0 run) (fu : Nat) (x0 x1 : AV) (σ : Store) : CallOK X0 19 [x0, x1] σ (c19 run fu x0 x1 σ) :=
  KOK.body (fn := Tryz.f19) (c := subC [] b19) (by kernel_rfl) (by kernel_rfl) (by show 2 ≤ 17; decide) (KOK.whole env0 hrun (eq19 run fu x0 x1 σ) ⟨trivial, ⟨trivial, ⟨trivial, ⟨trivial, trivial⟩⟩⟩⟩)

-- pub-paratext/pub/rscmarkdown.ToHTML

noncomputable def b25 : Code := match Tryz.f25.body with | some c => c | none => .skip

noncomputable def k25 : Kont R := retK Tryz.prog [.tmp 2]

noncomputable def c25 (run : RunT) (fu : Nat) (x0 : AV) (σ : Store) : Tr R :=
  newK σ 135 [.nils, (.int .i64 0), (.int .i8 0)] fun x3 σ1 =>
  invK X0 run x0 "PrintHTML" [x3] σ1 fun x5 σ2 =>
  calK run 37 [x3] σ2 fun x6 σ3 =>
  .ret (x6, σ3)

theorem eq25 (run : RunT) (fu : Nat) (x0 : AV) (σ : Store) : codeK X0 run (.seq .leaf (.seq .leaf (.seq .leaf (.seq .leaf .leaf)))) (subC [] b25) ([x0] ++ padA (7 - 1)) σ k25 = c25 run fu x0 σ := by kernel_rfl

theorem ok25 {run : RunT} (hrun : RunOK X0 run) (fu : Nat) (x0 : AV) (σ : Store) : CallOK X0 25 [x0] σ (c25 run fu x0 σ) :=
  KOK.body (fn := Tryz.f25) (c := subC [] b25) (by kernel_rfl) (by kernel_rfl) (by show 1 ≤ 7; decide) (KOK.whole env0 hrun (eq25 run fu x0 σ) ⟨trivial, ⟨trivial, ⟨trivial, ⟨trivial, trivial⟩⟩⟩⟩)

-- pub-paratext/impl.parser

noncomputable def b26 : Code := match Tryz.f26.body with | some c => c | none => .skip

noncomputable def k26 : Kont R := retK Tryz.prog [.tmp 2]

noncomputable def c26 (run : RunT) (fu : Nat) (x0 : AV) (σ : Store) : Tr R :=
  boxK σ 51 x0 fun x1 σ1 =>
  addrK x1 8 fun x3 =>
  ld1K σ1 x3 fun x4 =>
  addrK x1 0 fun x5 =>
  ld1K σ1 x5 fun x6 =>
  addrK x1 1 fun x7 =>
  ld1K σ1 x7 fun x8 =>
  addrK x1 2 fun x9 =>
  ld1K σ1 x9 fun x10 =>
  addrK x1 3 fun x11 =>
  ld1K σ1 x11 fun x12 =>
  addrK x1 4 fun x13 =>
  ld1K σ1 x13 fun x14 =>
  addrK x1 9 fun x15 =>
  ld1K σ1 x15 fun x16 =>
  addrK x1 5 fun x17 =>
  ld1K σ1 x17 fun x18 =>
  addrK x1 6 fun x19 =>
  ld1K σ1 x19 fun x20 =>
  addrK x1 7 fun x21 =>
  ld1K σ1 x21 fun x22 =>
  bldK [(.bool false), (.bool false), (.bool false), (.bool false), (.bool false), (.bool false), (.bool false), (.bool false), (.bool false), (.bool false)] [(0, 1, x4), (1, 1, x6), (2, 1, x8), (3, 1, x10), (4, 1, x12), (5, 1, x14), (6, 1, x16), (7, 1, x18), (8, 1, x20), (9, 1, x22)] fun x23 =>
  boxK σ1 143 x23 fun x24 σ2 =>
  .ret (x24, σ2)

theorem eq26 (run : RunT) (fu : Nat) (x0 : AV) (σ : Store) : codeK X0 run (.seq .leaf (.seq .leaf .leaf)) (subC [] b26) ([x0] ++ padA (25 - 1)) σ k26 = c26 run fu x0 σ := by kernel_rfl

theorem ok26 {run : RunT} (hrun : RunOK X0 run) (fu : Nat) (x0 : AV) (σ : Store) : CallOK X0 26 [x0] σ (c26 run fu x0 σ) :=
  KOK.body (fn := Tryz.f26) (c := subC [] b26) (by kernel_rfl) (by kernel_rfl) (by show 1 ≤ 25; decide) (KOK.whole env0 hrun (eq26 run fu x0 σ) ⟨trivial, ⟨trivial, trivial⟩⟩)

-- (*pub-paratext/pub/rscmarkdown.Parser).Parse

noncomputable def b27 : Code := match Tryz.f27.body with | some c => c | none => .skip

noncomputable def k27 : Kont R := retK Tryz.prog [.tmp 4]

noncomputable def c27 (run : RunT) (fu : Nat) (x0 x1 : AV) (σ : Store) : Tr R :=
  calK run 38 [x0, x1] σ fun x10 σ1 =>
  extK x10 0 fun x11 =>
  extK x10 1 fun x12 =>
  .ret (x11, σ1)

theorem eq27 (run : RunT) (fu : Nat) (x0 x1 : AV) (σ : Store) : codeK X0 run (.seq .leaf (.seq .leaf (.seq .leaf .leaf))) (subC [] b27) ([x0, x1] ++ padA (14 - 2)) σ k27 = c27 run fu x0 x1 σ := by kernel_rfl

theorem ok27 {run : RunT} (hrun : RunOK X0 run) (fu : Nat) (x0 x1 : AV) (σ : Store) : CallOK X0 27 [x0, x1] σ (c27 run fu x0 x1 σ) :=
  KOK.body (fn := Tryz.f27) (c := subC [] b27) (by kernel_rfl) (by kernel_rfl) (by show 2 ≤ 14; decide) (KOK.whole env0 hrun (eq27 run fu x0 x1 σ) ⟨trivial, ⟨trivial, ⟨trivial, trivial⟩⟩⟩)

-- pub-paratext/laws.headed

noncomputable def b28 : Code := match Tryz.f28.body with | some c => c | none => .skip

noncomputable def k28 : Kont R := retK Tryz.prog [.tmp 4]

noncomputable def c28 (run : RunT) (fu : Nat) (x0 x1 : AV) (σ : Store) : Tr R :=
  lenSK x0 fun x6 =>
  lenSK x1 fun x8 =>
  cmpK .geq x6 x8 fun x9 =>
  grdK x9 true σ (fun f => f x0 σ) fun x11 σ1 =>
  grdK x9 true σ1 (fun f => f x1 σ1) fun x12 σ2 =>
  grdK x9 true σ2 (fun f => lenSK x12 fun v => f v σ2) fun x13 σ3 =>
  grdK x9 true σ3 (fun f => sliceSK x11 none (some x13) fun v => f v σ3) fun x14 σ4 =>
  grdK x9 true σ4 (fun f => f x1 σ4) fun x15 σ5 =>
  grdK x9 true σ5 (fun f => eqSK x14 x15 fun v => f v σ5) fun x16 σ6 =>
  pickK x9 x16 (.bool false) fun x17 =>
  .ret (x17, σ6)

theorem eq28 (run : RunT) (fu : Nat) (x0 x1 : AV) (σ : Store) : codeK X0 run (.seq .leaf (.seq .leaf .leaf)) (subC [] b28) ([x0, x1] ++ padA (18 - 2)) σ k28 = c28 run fu x0 x1 σ := by kernel_rfl

theorem ok28 {run : RunT} (hrun : RunOK X0 run) (fu : Nat) (x0 x1 : AV) (σ : Store) : CallOK X0 28 [x0, x1] σ (c28 run fu x0 x1 σ) :=
  KOK.body (fn := Tryz.f28) (c := subC [] b28) (by kernel_rfl) (by kernel_rfl) (by show 2 ≤ 18; decide) (KOK.whole env0 hrun (eq28 run fu x0 x1 σ) ⟨trivial, ⟨trivial, trivial⟩⟩)

-- (*strings.Builder).WriteString

noncomputable def b29 : Code := match Tryz.f29.body with | some c => c | none => .skip

noncomputable def k29 : Kont R := retK Tryz.prog [.tmp 4, .tmp 5]

noncomputable def c29 (run : RunT) (fu : Nat) (x0 x1 : AV) (σ : Store) : Tr R :=
  calK run 34 [x0] σ fun x7 σ1 =>
  nchkK x0 fun x10 =>
  addrK x10 1 fun x11 =>
  ld1K σ1 x11 fun x12 =>
  appK 5 1 1 σ1 x12 x1 fun x14 σ2 =>
  nchkK x0 fun x15 =>
  addrK x15 1 fun x16 =>
  st1K σ2 x16 x14 fun _ σ3 =>
  lenSK x1 fun x18 =>
  .ret (.tup [x18, .nili], σ3)

theorem eq29 (run : RunT) (fu : Nat) (x0 x1 : AV) (σ : Store) : codeK X0 run (.seq .leaf (.seq .leaf (.seq .leaf (.seq .leaf .leaf)))) (subC [] b29) ([x0, x1] ++ padA (19 - 2)) σ k29 = c29 run fu x0 x1 σ := by kernel_rfl

theorem ok29 {run : RunT} (hrun : RunOK X0 run) (fu : Nat) (x0 x1 : AV) (σ : Store) : CallOK X0 29 [x0, x1] σ (c29 run fu x0 x1 σ) :=
  KOK.body (fn := Tryz.f29) (c := subC [] b29) (by kernel_rfl) (by kernel_rfl) (by show 2 ≤ 19; decide) (KOK.whole env0 hrun (eq29 run fu x0 x1 σ) ⟨trivial, ⟨trivial, ⟨trivial, ⟨trivial, trivial⟩⟩⟩⟩)

-- (*pub-paratext/pub/rscmarkdown.Parser).parse

noncomputable def b38 : Code := match Tryz.f38.body with | some c => c | none => .skip

noncomputable def k38 : Kont R := retK Tryz.prog [.tmp 4, .tmp 5]

noncomputable def c38_4 (run : RunT) (fu : Nat) (x6 : AV) (σ : Store) : Tr R :=
  addrK x6 1 fun x110 =>
  ld1K σ x110 fun x111 =>
  addrK x6 6 fun x112 =>
  ld1K σ x112 fun x113 =>
  .ret (.tup [x111, x113], σ)

theorem eq38_4 (run : RunT) (fu : Nat) (x6 : AV) (σ : Store) : codeK X0 run (.seq .leaf .leaf) (subC [true, true, true, true, true, true, true, true, true, true] b38) (frS 0 114 [(6, x6)]) σ k38 = c38_4 run fu x6 σ := by kernel_rfl

theorem ok38_4 {run : RunT} (hrun : RunOK X0 run) (fu : Nat) : ∀ fr σ, KOK X0 114 (subC [true, true, true, true, true, true, true, true, true, true] b38) fr σ ((fun fr σ => c38_4 run fu (G fr 6) σ) fr σ) k38 := fun fr σ =>
  KOK.piece env0 hrun [6] (eq38_4 run fu (G fr 6) σ) ⟨trivial, trivial⟩

noncomputable def c38_3 (run : RunT) (fu : Nat) (x0 x6 : AV) (σ : Store) : Tr R :=
  nchkK x0 fun x97 =>
  addrK x97 2 fun x98 =>
  ld1K σ x98 fun x99 =>
  ifK x99 (
  .fail) (
  c38_4 run fu x6 σ)

theorem eq38_3 (run : RunT) (fu : Nat) (x0 x6 : AV) (σ : Store) : codeK X0 run (.seq (.seq .leaf (.cond (.sub deadK) .leaf)) (.sub (fun fr σ => c38_4 run fu (G fr 6) σ))) (subC [true, true, true, true, true, true, true, true, true] b38) (frS 0 114 [(0, x0), (6, x6)]) σ k38 = c38_3 run fu x0 x6 σ := by kernel_rfl

theorem ok38_3 {run : RunT} (hrun : RunOK X0 run) (fu : Nat) : ∀ fr σ, KOK X0 114 (subC [true, true, true, true, true, true, true, true, true] b38) fr σ ((fun fr σ => c38_3 run fu (G fr 0) (G fr 6) σ) fr σ) k38 := fun fr σ =>
  KOK.piece env0 hrun [0, 6] (eq38_3 run fu (G fr 0) (G fr 6) σ) ⟨⟨trivial, ⟨KOK.dead, trivial⟩⟩, (ok38_4 hrun fu)⟩

noncomputable def c38_5b (run : RunT) (fu : Nat) (s5 : W5) (x0 x6 x81 x82 x83 : AV) (σ : Store) : Tr R :=
  cmpK .lss x83 x82 fun x84 =>
  ifK x84 (
  idxK 1 x81 x83 fun x85 =>
  ld1K σ x85 fun x86 =>
  nchkK x86 fun x89 =>
  addrK x89 3 fun x90 =>
  ld1K σ x90 fun x91 =>
  calK run 53 [x6, x91] σ fun x92 σ1 =>
  nchkK x86 fun x93 =>
  addrK x93 2 fun x94 =>
  st1K σ1 x94 x92 fun _ σ2 =>
  addK x83 (.int .i64 1) fun x95 =>
  s5 x0 x6 x81 x82 x95 σ2) (
  c38_3 run fu x0 x6 σ)

noncomputable def c38_5 (run : RunT) (fu : Nat) : Nat → W5
  | 0 => fun _ _ _ _ _ _ => .fail
  | m + 1 => c38_5b run fu (c38_5 run fu m)

theorem eq38_5 (run : RunT) (fu : Nat) (s5 : W5) (x0 x6 x81 x82 x83 : AV) (σ : Store) : codeK X0 run (.seq .leaf (.seq (.cond .leaf .leaf) (.seq (.block (.seq .leaf .leaf)) .leaf))) (subC [true, true, true, true, true, true, true, true, false, true, false, false] b38) (frS 0 114 [(0, x0), (6, x6), (81, x81), (82, x82), (83, x83)]) σ (thenK (fun fr σ => s5 (G fr 0) (G fr 6) (G fr 81) (G fr 82) (G fr 83) σ) (blockK 3 (thenK (fun fr σ => c38_3 run fu (G fr 0) (G fr 6) σ) k38))) = c38_5b run fu s5 x0 x6 x81 x82 x83 σ := by kernel_rfl

theorem owed38_5 {run : RunT} (hrun : RunOK X0 run) (fu : Nat) (s5 : W5) : Owes X0 run 114 (.seq .leaf (.seq (.cond .leaf .leaf) (.seq (.block (.seq .leaf .leaf)) .leaf))) (subC [true, true, true, true, true, true, true, true, false, true, false, false] b38) (thenK (fun fr σ => s5 (G fr 0) (G fr 6) (G fr 81) (G fr 82) (G fr 83) σ) (blockK 3 (thenK (fun fr σ => c38_3 run fu (G fr 0) (G fr 6) σ) k38))) :=
  ⟨trivial, ⟨⟨trivial, trivial⟩, ⟨⟨trivial, trivial⟩, trivial⟩⟩⟩

theorem ok38_5 {run : RunT} (hrun : RunOK X0 run) (fu : Nat) : ∀ fr σ, KOK X0 114 (subC [true, true, true, true, true, true, true, true, false, true, false] b38) fr σ ((fun fr σ => c38_5 run fu fu (G fr 0) (G fr 6) (G fr 81) (G fr 82) (G fr 83) σ) fr σ) (blockK 3 (thenK (fun fr σ => c38_3 run fu (G fr 0) (G fr 6) σ) k38)) := by
  have h := KOK.loop (X := X0) (N := 114) (b := (subC [true, true, true, true, true, true, true, true, false, true, false, false] b38)) (k := (blockK 3 (thenK (fun fr σ => c38_3 run fu (G fr 0) (G fr 6) σ) k38))) (u := fun m fr σ => c38_5 run fu m (G fr 0) (G fr 6) (G fr 81) (G fr 82) (G fr 83) σ) (fun _ _ => rfl) (fun m fr σ => KOK.piece env0 hrun [0, 6, 81, 82, 83] (eq38_5 run fu (c38_5 run fu m) (G fr 0) (G fr 6) (G fr 81) (G fr 82) (G fr 83) σ) (owed38_5 hrun fu (c38_5 run fu m)))
  exact fun fr σ => h fu fr σ

noncomputable def c38_2 (run : RunT) (fu : Nat) (x0 x6 : AV) (σ : Store) : Tr R :=
  calK run 52 [x6, (.int .i64 0)] σ fun x79 σ1 =>
  addrK x6 11 fun x80 =>
  ld1K σ1 x80 fun x81 =>
  lenLK x81 fun x82 =>
  c38_5 run fu fu x0 x6 x81 x82 (.int .i64 0) σ1

theorem eq38_2 (run : RunT) (fu : Nat) (x0 x6 : AV) (σ : Store) : codeK X0 run (.seq .leaf (.seq (.seq .leaf (.block (.sub (fun fr σ => c38_5 run fu fu (G fr 0) (G fr 6) (G fr 81) (G fr 82) (G fr 83) σ)))) (.sub (fun fr σ => c38_3 run fu (G fr 0) (G fr 6) σ)))) (subC [true, true, true, true, true, true, true] b38) (frS 0 114 [(0, x0), (6, x6)]) σ k38 = c38_2 run fu x0 x6 σ := by kernel_rfl

theorem ok38_2 {run : RunT} (hrun : RunOK X0 run) (fu : Nat) : ∀ fr σ, KOK X0 114 (subC [true, true, true, true, true, true, true] b38) fr σ ((fun fr σ => c38_2 run fu (G fr 0) (G fr 6) σ) fr σ) k38 := fun fr σ =>
  KOK.piece env0 hrun [0, 6] (eq38_2 run fu (G fr 0) (G fr 6) σ) ⟨trivial, ⟨⟨trivial, (ok38_5 hrun fu)⟩, (ok38_3 hrun fu)⟩⟩

noncomputable def c38_7 (run : RunT) (fu : Nat) (s6 : W3) (x0 x1 x6 x7 x10 : AV) (σ : Store) : Tr R :=
  addrK x6 3 fun x71 =>
  ld1K σ x71 fun x72 =>
  addK x72 (.int .i64 1) fun x73 =>
  addrK x6 3 fun x74 =>
  st1K σ x74 x73 fun _ σ1 =>
  bldK [(.int .i64 0), (.int .i64 0), (.int .i64 0), (.str []), (.int .u8 0)] [(3, 1, x7), (4, 1, x10)] fun x77 =>
  calK run 51 [x6, x77] σ1 fun x78 σ2 =>
  s6 x0 x1 x6 σ2

theorem eq38_7 (run : RunT) (fu : Nat) (s6 : W3) (x0 x1 x6 x7 x10 : AV) (σ : Store) : codeK X0 run (.seq .leaf .leaf) (subC [true, true, true, true, true, true, false, false, false, true, false, true, true, true, true, true] b38) (frS 0 114 [(0, x0), (1, x1), (6, x6), (7, x7), (10, x10)]) σ (blockK 1 (thenK (fun fr σ => s6 (G fr 0) (G fr 1) (G fr 6) σ) (blockK 0 (thenK (fun fr σ => c38_2 run fu (G fr 0) (G fr 6) σ) k38)))) = c38_7 run fu s6 x0 x1 x6 x7 x10 σ := by kernel_rfl

theorem ok38_7 {run : RunT} (hrun : RunOK X0 run) (fu : Nat) (s6 : W3) : ∀ fr σ, KOK X0 114 (subC [true, true, true, true, true, true, false, false, false, true, false, true, true, true, true, true] b38) fr σ ((fun fr σ => c38_7 run fu s6 (G fr 0) (G fr 1) (G fr 6) (G fr 7) (G fr 10) σ) fr σ) (blockK 1 (thenK (fun fr σ => s6 (G fr 0) (G fr 1) (G fr 6) σ) (blockK 0 (thenK (fun fr σ => c38_2 run fu (G fr 0) (G fr 6) σ) k38)))) := fun fr σ =>
  KOK.piece env0 hrun [0, 1, 6, 7, 10] (eq38_7 run fu s6 (G fr 0) (G fr 1) (G fr 6) (G fr 7) (G fr 10) σ) ⟨trivial, trivial⟩

noncomputable def c38_6b (run : RunT) (fu : Nat) (s6 : W3) (x0 x1 x6 : AV) (σ : Store) : Tr R :=
  neSK x1 (.str []) fun x28 =>
  ifK x28 (
  calK run 50 [x1, (.str [10])] σ fun x30 σ1 =>
  calK run 50 [x1, (.str [13])] σ1 fun x32 σ2 =>
  cmpK .geq x32 (.int .i64 0) fun x36 =>
  grdK x36 true σ2 (fun f => f x30 σ2) fun x38 σ3 =>
  grdK x36 true σ3 (fun f => cmpK .lss x38 (.int .i64 0) fun v => f v σ3) fun x39 σ4 =>
  grdK x36 true σ4 (fun f => f x39 σ4) fun x40 σ5 =>
  grdK x40 false σ5 (fun f => f x32 σ5) fun x41 σ6 =>
  grdK x40 false σ6 (fun f => f x30 σ6) fun x42 σ7 =>
  grdK x40 false σ7 (fun f => cmpK .lss x41 x42 fun v => f v σ7) fun x43 σ8 =>
  grdK x36 true σ8 (fun f => pickK x40 (.bool true) x43 fun v => f v σ8) fun x44 σ9 =>
  pickK x36 x44 (.bool false) fun x45 =>
  ifK x45 (
  .fail) (
  cmpK .geq x30 (.int .i64 0) fun x63 =>
  ifK x63 (
  .fail) (
  c38_7 run fu s6 x0 (.str []) x6 x1 (.int .u8 0) σ9))) (
  c38_2 run fu x0 x6 σ)

noncomputable def c38_6 (run : RunT) (fu : Nat) : Nat → W3
  | 0 => fun _ _ _ _ => .fail
  | m + 1 => c38_6b run fu (c38_6 run fu m)

theorem eq38_6 (run : RunT) (fu : Nat) (s6 : W3) (x0 x1 x6 : AV) (σ : Store) : codeK X0 run (.seq (.seq .leaf (.cond .leaf .leaf)) (.block (.seq .leaf (.seq .leaf (.seq .leaf (.seq .leaf (.seq (.block (.seq .leaf (.cond (.sub deadK) (.seq .leaf (.cond (.sub deadK) .leaf))))) (.sub (fun fr σ => c38_7 run fu s6 (G fr 0) (G fr 1) (G fr 6) (G fr 7) (G fr 10) σ))))))))) (subC [true, true, true, true, true, true, false, false, false] b38) (frS 0 114 [(0, x0), (1, x1), (6, x6)]) σ (thenK (fun fr σ => s6 (G fr 0) (G fr 1) (G fr 6) σ) (blockK 0 (thenK (fun fr σ => c38_2 run fu (G fr 0) (G fr 6) σ) k38))) = c38_6b run fu s6 x0 x1 x6 σ := by kernel_rfl

theorem owed38_6 {run : RunT} (hrun : RunOK X0 run) (fu : Nat) (s6 : W3) : Owes X0 run 114 (.seq (.seq .leaf (.cond .leaf .leaf)) (.block (.seq .leaf (.seq .leaf (.seq .leaf (.seq .leaf (.seq (.block (.seq .leaf (.cond (.sub deadK) (.seq .leaf (.cond (.sub deadK) .leaf))))) (.sub (fun fr σ => c38_7 run fu s6 (G fr 0) (G fr 1) (G fr 6) (G fr 7) (G fr 10) σ))))))))) (subC [true, true, true, true, true, true, false, false, false] b38) (thenK (fun fr σ => s6 (G fr 0) (G fr 1) (G fr 6) σ) (blockK 0 (thenK (fun fr σ => c38_2 run fu (G fr 0) (G fr 6) σ) k38))) :=
  ⟨⟨trivial, ⟨trivial, trivial⟩⟩, ⟨trivial, ⟨trivial, ⟨trivial, ⟨trivial, ⟨⟨trivial, ⟨KOK.dead, ⟨trivial, ⟨KOK.dead, trivial⟩⟩⟩⟩, (ok38_7 hrun fu s6)⟩⟩⟩⟩⟩⟩

theorem ok38_6 {run : RunT} (hrun : RunOK X0 run) (fu : Nat) : ∀ fr σ, KOK X0 114 (subC [true, true, true, true, true, true, false, false] b38) fr σ ((fun fr σ => c38_6 run fu fu (G fr 0) (G fr 1) (G fr 6) σ) fr σ) (blockK 0 (thenK (fun fr σ => c38_2 run fu (G fr 0) (G fr 6) σ) k38)) := by
  have h := KOK.loop (X := X0) (N := 114) (b := (subC [true, true, true, true, true, true, false, false, false] b38)) (k := (blockK 0 (thenK (fun fr σ => c38_2 run fu (G fr 0) (G fr 6) σ) k38))) (u := fun m fr σ => c38_6 run fu m (G fr 0) (G fr 1) (G fr 6) σ) (fun _ _ => rfl) (fun m fr σ => KOK.piece env0 hrun [0, 1, 6] (eq38_6 run fu (c38_6 run fu m) (G fr 0) (G fr 1) (G fr 6) σ) (owed38_6 hrun fu (c38_6 run fu m)))
  exact fun fr σ => h fu fr σ

noncomputable def c38_1 (run : RunT) (fu : Nat) (x0 x1 x6 : AV) (σ : Store) : Tr R :=
  addrK x6 5 fun x22 =>
  st1K σ x22 (.int .i64 (-1)) fun _ σ1 =>
  bldK [] [] fun x23 =>
  boxK σ1 193 x23 fun x24 σ2 =>
  calK run 49 [x6, (.iface 94 x24)] σ2 fun x26 σ3 =>
  c38_6 run fu fu x0 x1 x6 σ3

theorem eq38_1 (run : RunT) (fu : Nat) (x0 x1 x6 : AV) (σ : Store) : codeK X0 run (.seq .leaf (.seq .leaf (.seq (.block (.sub (fun fr σ => c38_6 run fu fu (G fr 0) (G fr 1) (G fr 6) σ))) (.sub (fun fr σ => c38_2 run fu (G fr 0) (G fr 6) σ))))) (subC [true, true, true, true] b38) (frS 0 114 [(0, x0), (1, x1), (6, x6)]) σ k38 = c38_1 run fu x0 x1 x6 σ := by kernel_rfl

theorem ok38_1 {run : RunT} (hrun : RunOK X0 run) (fu : Nat) : ∀ fr σ, KOK X0 114 (subC [true, true, true, true] b38) fr σ ((fun fr σ => c38_1 run fu (G fr 0) (G fr 1) (G fr 6) σ) fr σ) k38 := fun fr σ =>
  KOK.piece env0 hrun [0, 1, 6] (eq38_1 run fu (G fr 0) (G fr 1) (G fr 6) σ) ⟨trivial, ⟨trivial, ⟨(ok38_6 hrun fu), (ok38_2 hrun fu)⟩⟩⟩

noncomputable def c38 (run : RunT) (fu : Nat) (x0 x1 : AV) (σ : Store) : Tr R :=
  newK σ 183 [.nilp, .nilp, .nilm, (.int .i64 0), .nils, (.int .i64 0), (.bool false), (.str []), (.int .i64 0), .nils, .nils, .nils, (.int .i64 0), (.int .i64 0), (.int .i64 0), (.int .i64 0), (.int .i64 0), (.int .i64 0), (.int .i64 0), (.int .i64 0), (.int .i64 0), (.int .i64 0), (.int .i64 0), (.int .i64 0), (.int .i64 0), (.int .i64 0), (.int .i64 0), (.int .i64 0), (.int .i64 0), (.int .i64 0), (.int .i64 0), (.int .i64 0), (.int .i64 0), (.int .i64 0), (.int .i64 0), (.int .i64 0), (.int .i64 0), (.int .i64 0), (.int .i64 0), (.int .i64 0), (.int .i64 0), (.int .i64 0), (.int .i64 0), (.int .i64 0), (.int .i64 0), (.int .i64 0), (.int .i64 0), (.int .i64 0), (.int .i64 0), (.int .i64 0), (.int .i64 0), (.int .i64 0), (.int .i64 0), (.int .i64 0), (.int .i64 0), (.int .i64 0), (.int .i64 0), (.int .i64 0), (.int .i64 0), (.int .i64 0), (.int .i64 0), (.int .i64 0), (.int .i64 0), (.int .i64 0), (.int .i64 0), (.int .i64 0), (.int .i64 0), (.int .i64 0), (.int .i64 0), (.int .i64 0), (.int .i64 0), (.int .i64 0), (.int .i64 0), (.int .i64 0), (.int .i64 0), (.int .i64 0), (.int .i64 0), (.int .i64 0), (.int .i64 0), (.int .i64 0), (.int .i64 0), (.int .i64 0), (.int .i64 0), (.int .i64 0), (.int .i64 0), (.int .i64 0), (.int .i64 0), (.int .i64 0), (.int .i64 0), (.int .i64 0), (.int .i64 0), (.int .i64 0), (.bool false)] fun x6 σ1 =>
  addrK x6 0 fun x16 =>
  st1K σ1 x16 x0 fun _ σ2 =>
  calK run 47 [x1, (.str [0])] σ2 fun x18 σ3 =>
  ifK x18 (
  .fail) (
  c38_1 run fu x0 x1 x6 σ3)

theorem eq38 (run : RunT) (fu : Nat) (x0 x1 : AV) (σ : Store) : codeK X0 run (.seq .leaf (.seq .leaf (.seq .leaf (.seq (.seq .leaf (.cond (.sub deadK) .leaf)) (.sub (fun fr σ => c38_1 run fu (G fr 0) (G fr 1) (G fr 6) σ)))))) (subC [] b38) ([x0, x1] ++ padA (114 - 2)) σ k38 = c38 run fu x0 x1 σ := by kernel_rfl

theorem ok38 {run : RunT} (hrun : RunOK X0 run) (fu : Nat) (x0 x1 : AV) (σ : Store) : CallOK X0 38 [x0, x1] σ (c38 run fu x0 x1 σ) :=
  KOK.body (fn := Tryz.f38) (c := subC [] b38) (by kernel_rfl) (by kernel_rfl) (by show 2 ≤ 114; decide) (KOK.whole env0 hrun (eq38 run fu x0 x1 σ) ⟨trivial, ⟨trivial, ⟨trivial, ⟨⟨trivial, ⟨KOK.dead, trivial⟩⟩, (ok38_1 hrun fu)⟩⟩⟩⟩)

-- (*pub-paratext/pub/rscmarkdown.parseState).addBlock

noncomputable def b49 : Code := match Tryz.f49.body with | some c => c | none => .skip

noncomputable def k49 : Kont R := retK Tryz.prog []

noncomputable def c49 (run : RunT) (fu : Nat) (x0 x1 : AV) (σ : Store) : Tr R :=
  nchkK x0 fun x7 =>
  addrK x7 5 fun x8 =>
  ld1K σ x8 fun x9 =>
  addK x9 (.int .i64 1) fun x10 =>
  calK run 52 [x0, x10] σ fun x11 σ1 =>
  nchkK x0 fun x14 =>
  addrK x14 4 fun x15 =>
  ld1K σ1 x15 fun x16 =>
  bldK [.nili, .nils, (.int .i64 0), (.int .i64 0)] [] fun x17 =>
  opt (fillK [.nili, .nils, (.int .i64 0), (.int .i64 0)] [(0, 4, x17)]) fun cs => newSK σ1 231 cs 1 4 fun x18 σ2 =>
  appK 115 4 56 σ2 x16 x18 fun x19 σ3 =>
  nchkK x0 fun x20 =>
  addrK x20 4 fun x21 =>
  st1K σ3 x21 x19 fun _ σ4 =>
  nchkK x0 fun x23 =>
  addrK x23 4 fun x24 =>
  ld1K σ4 x24 fun x25 =>
  nchkK x0 fun x27 =>
  addrK x27 4 fun x28 =>
  ld1K σ4 x28 fun x29 =>
  lenLK x29 fun x30 =>
  subK x30 (.int .i64 1) fun x31 =>
  idxK 4 x25 x31 fun x32 =>
  nchkK x32 fun x35 =>
  addrK x35 0 fun x36 =>
  st1K σ4 x36 x1 fun _ σ5 =>
  nchkK x0 fun x39 =>
  addrK x39 3 fun x40 =>
  ld1K σ5 x40 fun x41 =>
  nchkK x32 fun x42 =>
  addrK x42 2 fun x43 =>
  addrK x43 0 fun x44 =>
  st1K σ5 x44 x41 fun _ σ6 =>
  nchkK x0 fun x47 =>
  addrK x47 3 fun x48 =>
  ld1K σ6 x48 fun x49 =>
  nchkK x32 fun x50 =>
  addrK x50 2 fun x51 =>
  addrK x51 1 fun x52 =>
  st1K σ6 x52 x49 fun _ σ7 =>
  .ret (.tup [], σ7)

theorem eq49 (run : RunT) (fu : Nat) (x0 x1 : AV) (σ : Store) : codeK X0 run (.seq .leaf (.seq .leaf (.seq .leaf (.seq .leaf (.seq .leaf .leaf))))) (subC [] b49) ([x0, x1] ++ padA (53 - 2)) σ k49 = c49 run fu x0 x1 σ := by kernel_rfl

theorem ok49 {run : RunT} (hrun : RunOK X0 run) (fu : Nat) (x0 x1 : AV) (σ : Store) : CallOK X0 49 [x0, x1] σ (c49 run fu x0 x1 σ) :=
  KOK.body (fn := Tryz.f49) (c := subC [] b49) (by kernel_rfl) (by kernel_rfl) (by show 2 ≤ 53; decide) (KOK.whole env0 hrun (eq49 run fu x0 x1 σ) ⟨trivial, ⟨trivial, ⟨trivial, ⟨trivial, ⟨trivial, trivial⟩⟩⟩⟩⟩)

-- (*pub-paratext/pub/rscmarkdown.parseState).addLine

noncomputable def b51 : Code := match Tryz.f51.body with | some c => c | none => .skip

noncomputable def k51 : Kont R := retK Tryz.prog []

noncomputable def c51_2 (run : RunT) (fu : Nat) (s1 : W2) (x0 x3 : AV) (σ : Store) : Tr R :=
  ldNK σ x3 5 fun x111 =>
  calK run 58 [x0, x111] σ fun x112 σ1 =>
  .ret (.tup [], σ1)

theorem eq51_2 (run : RunT) (fu : Nat) (s1 : W2) (x0 x3 : AV) (σ : Store) : codeK X0 run .leaf (subC [true, true] (lblC 0 (subC [true, false] b51))) (frS 0 113 [(0, x0), (3, x3)]) σ (scopeK (subC [true, false] b51) (lblU 0 (fun fr σ => s1 (G fr 0) (G fr 3) σ)) k51) = c51_2 run fu s1 x0 x3 σ := by kernel_rfl

theorem ok51_2 {run : RunT} (hrun : RunOK X0 run) (fu : Nat) (s1 : W2) : ∀ fr σ, KOK X0 113 (subC [true, true] (lblC 0 (subC [true, false] b51))) fr σ ((fun fr σ => c51_2 run fu s1 (G fr 0) (G fr 3) σ) fr σ) (scopeK (subC [true, false] b51) (lblU 0 (fun fr σ => s1 (G fr 0) (G fr 3) σ)) k51) := fun fr σ =>
  KOK.piece env0 hrun [0, 3] (eq51_2 run fu s1 (G fr 0) (G fr 3) σ) trivial

noncomputable def c51_3b (run : RunT) (fu : Nat) (s1 : W2) (s3 : W5) (x0 x3 x86 x87 x88 : AV) (σ : Store) : Tr R :=
  cmpK .lss x88 x87 fun x89 =>
  ifK x89 (
  .fail) (
  .fail)

noncomputable def c51_3 (run : RunT) (fu : Nat) (s1 : W2) : Nat → W5
  | 0 => fun _ _ _ _ _ _ => .fail
  | m + 1 => c51_3b run fu s1 (c51_3 run fu s1 m)

theorem eq51_3 (run : RunT) (fu : Nat) (s1 : W2) (s3 : W5) (x0 x3 x86 x87 x88 : AV) (σ : Store) : codeK X0 run (.seq .leaf (.seq (.cond (.sub deadK) (.sub deadK)) .leaf)) (subC [true, false, true, false, false] (lblC 0 (subC [true, false] b51))) (frS 0 113 [(0, x0), (3, x3), (86, x86), (87, x87), (88, x88)]) σ (thenK (fun fr σ => s3 (G fr 0) (G fr 3) (G fr 86) (G fr 87) (G fr 88) σ) (blockK 2 (thenK (fun fr σ => c51_2 run fu s1 (G fr 0) (G fr 3) σ) (scopeK (subC [true, false] b51) (lblU 0 (fun fr σ => s1 (G fr 0) (G fr 3) σ)) k51)))) = c51_3b run fu s1 s3 x0 x3 x86 x87 x88 σ := by kernel_rfl

theorem owed51_3 {run : RunT} (hrun : RunOK X0 run) (fu : Nat) (s1 : W2) (s3 : W5) : Owes X0 run 113 (.seq .leaf (.seq (.cond (.sub deadK) (.sub deadK)) .leaf)) (subC [true, false, true, false, false] (lblC 0 (subC [true, false] b51))) (thenK (fun fr σ => s3 (G fr 0) (G fr 3) (G fr 86) (G fr 87) (G fr 88) σ) (blockK 2 (thenK (fun fr σ => c51_2 run fu s1 (G fr 0) (G fr 3) σ) (scopeK (subC [true, false] b51) (lblU 0 (fun fr σ => s1 (G fr 0) (G fr 3) σ)) k51)))) :=
  ⟨trivial, ⟨⟨KOK.dead, KOK.dead⟩, trivial⟩⟩

theorem ok51_3 {run : RunT} (hrun : RunOK X0 run) (fu : Nat) (s1 : W2) : ∀ fr σ, KOK X0 113 (subC [true, false, true, false] (lblC 0 (subC [true, false] b51))) fr σ ((fun fr σ => c51_3 run fu s1 fu (G fr 0) (G fr 3) (G fr 86) (G fr 87) (G fr 88) σ) fr σ) (blockK 2 (thenK (fun fr σ => c51_2 run fu s1 (G fr 0) (G fr 3) σ) (scopeK (subC [true, false] b51) (lblU 0 (fun fr σ => s1 (G fr 0) (G fr 3) σ)) k51))) := by
  have h := KOK.loop (X := X0) (N := 113) (b := (subC [true, false, true, false, false] (lblC 0 (subC [true, false] b51)))) (k := (blockK 2 (thenK (fun fr σ => c51_2 run fu s1 (G fr 0) (G fr 3) σ) (scopeK (subC [true, false] b51) (lblU 0 (fun fr σ => s1 (G fr 0) (G fr 3) σ)) k51)))) (u := fun m fr σ => c51_3 run fu s1 m (G fr 0) (G fr 3) (G fr 86) (G fr 87) (G fr 88) σ) (fun _ _ => rfl) (fun m fr σ => KOK.piece env0 hrun [0, 3, 86, 87, 88] (eq51_3 run fu s1 (c51_3 run fu s1 m) (G fr 0) (G fr 3) (G fr 86) (G fr 87) (G fr 88) σ) (owed51_3 hrun fu s1 (c51_3 run fu s1 m)))
  exact fun fr σ => h fu fr σ

noncomputable def c51_1Lb (run : RunT) (fu : Nat) (s1 : W2) (x0 x3 : AV) (σ : Store) : Tr R :=
  calK run 57 [] σ fun x86 σ1 =>
  lenLK x86 fun x87 =>
  c51_3 run fu s1 fu x0 x3 x86 x87 (.int .i64 0) σ1

noncomputable def c51_1L (run : RunT) (fu : Nat) : Nat → W2
  | 0 => fun _ _ _ => .fail
  | m + 1 => c51_1Lb run fu (c51_1L run fu m)

theorem eq51_1L (run : RunT) (fu : Nat) (s1 : W2) (x0 x3 : AV) (σ : Store) : codeK X0 run (.seq .leaf (.seq (.seq .leaf (.block (.sub (fun fr σ => c51_3 run fu s1 fu (G fr 0) (G fr 3) (G fr 86) (G fr 87) (G fr 88) σ)))) (.sub (fun fr σ => c51_2 run fu s1 (G fr 0) (G fr 3) σ)))) (subC [] (lblC 0 (subC [true, false] b51))) (frS 0 113 [(0, x0), (3, x3)]) σ (scopeK (subC [true, false] b51) (lblU 0 (fun fr σ => s1 (G fr 0) (G fr 3) σ)) k51) = c51_1Lb run fu s1 x0 x3 σ := by kernel_rfl

theorem owed51_1L {run : RunT} (hrun : RunOK X0 run) (fu : Nat) (s1 : W2) : Owes X0 run 113 (.seq .leaf (.seq (.seq .leaf (.block (.sub (fun fr σ => c51_3 run fu s1 fu (G fr 0) (G fr 3) (G fr 86) (G fr 87) (G fr 88) σ)))) (.sub (fun fr σ => c51_2 run fu s1 (G fr 0) (G fr 3) σ)))) (subC [] (lblC 0 (subC [true, false] b51))) (scopeK (subC [true, false] b51) (lblU 0 (fun fr σ => s1 (G fr 0) (G fr 3) σ)) k51) :=
  ⟨trivial, ⟨⟨trivial, (ok51_3 hrun fu s1)⟩, (ok51_2 hrun fu s1)⟩⟩

noncomputable def c51_5 (run : RunT) (fu : Nat) (x0 x3 : AV) (σ : Store) : Tr R :=
  ldNK σ x3 5 fun x111 =>
  calK run 58 [x0, x111] σ fun x112 σ1 =>
  .ret (.tup [], σ1)

theorem eq51_5 (run : RunT) (fu : Nat) (x0 x3 : AV) (σ : Store) : codeK X0 run .leaf (subC [true, false, true, true, true, true, true] b51) (frS 0 113 [(0, x0), (3, x3)]) σ (scopeK (subC [true, false] b51) (lblU 0 (fun fr σ => c51_1L run fu fu (G fr 0) (G fr 3) σ)) k51) = c51_5 run fu x0 x3 σ := by kernel_rfl

theorem ok51_5 {run : RunT} (hrun : RunOK X0 run) (fu : Nat) : ∀ fr σ, KOK X0 113 (subC [true, false, true, true, true, true, true] b51) fr σ ((fun fr σ => c51_5 run fu (G fr 0) (G fr 3) σ) fr σ) (scopeK (subC [true, false] b51) (lblU 0 (fun fr σ => c51_1L run fu fu (G fr 0) (G fr 3) σ)) k51) := fun fr σ =>
  KOK.piece env0 hrun [0, 3] (eq51_5 run fu (G fr 0) (G fr 3) σ) trivial

noncomputable def c51_6b (run : RunT) (fu : Nat) (s6 : W5) (x0 x3 x86 x87 x88 : AV) (σ : Store) : Tr R :=
  cmpK .lss x88 x87 fun x89 =>
  ifK x89 (
  idxK 1 x86 x88 fun x90 =>
  ld1K σ x90 fun x91 =>
  ldNK σ x3 5 fun x95 =>
  dynK X0 run x91 [x0, x95] σ fun x96 σ1 =>
  extK x96 0 fun x97 =>
  extK x96 1 fun x98 =>
  newK σ1 201 [(.int .i64 0), (.int .i64 0), (.int .i64 0), (.str []), (.int .u8 0)] fun x8 σ2 =>
  stNK σ2 x8 5 x97 fun _ σ3 =>
  ifK x98 (
  .fail) (
  addK x88 (.int .i64 1) fun x109 =>
  s6 x0 x3 x86 x87 x109 σ3)) (
  c51_5 run fu x0 x3 σ)

noncomputable def c51_6 (run : RunT) (fu : Nat) : Nat → W5
  | 0 => fun _ _ _ _ _ _ => .fail
  | m + 1 => c51_6b run fu (c51_6 run fu m)

theorem eq51_6 (run : RunT) (fu : Nat) (s6 : W5) (x0 x3 x86 x87 x88 : AV) (σ : Store) : codeK X0 run (.seq .leaf (.seq (.cond .leaf .leaf) (.seq (.block (.seq .leaf (.seq .leaf (.seq .leaf (.cond (.sub deadK) .leaf))))) .leaf))) (subC [true, false, true, true, true, true, false, true, false, false] b51) (frS 0 113 [(0, x0), (3, x3), (86, x86), (87, x87), (88, x88)]) σ (thenK (fun fr σ => s6 (G fr 0) (G fr 3) (G fr 86) (G fr 87) (G fr 88) σ) (blockK 2 (thenK (fun fr σ => c51_5 run fu (G fr 0) (G fr 3) σ) (scopeK (subC [true, false] b51) (lblU 0 (fun fr σ => c51_1L run fu fu (G fr 0) (G fr 3) σ)) k51)))) = c51_6b run fu s6 x0 x3 x86 x87 x88 σ := by kernel_rfl

theorem owed51_6 {run : RunT} (hrun : RunOK X0 run) (fu : Nat) (s6 : W5) : Owes X0 run 113 (.seq .leaf (.seq (.cond .leaf .leaf) (.seq (.block (.seq .leaf (.seq .leaf (.seq .leaf (.cond (.sub deadK) .leaf))))) .leaf))) (subC [true, false, true, true, true, true, false, true, false, false] b51) (thenK (fun fr σ => s6 (G fr 0) (G fr 3) (G fr 86) (G fr 87) (G fr 88) σ) (blockK 2 (thenK (fun fr σ => c51_5 run fu (G fr 0) (G fr 3) σ) (scopeK (subC [true, false] b51) (lblU 0 (fun fr σ => c51_1L run fu fu (G fr 0) (G fr 3) σ)) k51)))) :=
  ⟨trivial, ⟨⟨trivial, trivial⟩, ⟨⟨trivial, ⟨trivial, ⟨trivial, ⟨KOK.dead, trivial⟩⟩⟩⟩, trivial⟩⟩⟩

theorem ok51_6 {run : RunT} (hrun : RunOK X0 run) (fu : Nat) : ∀ fr σ, KOK X0 113 (subC [true, false, true, true, true, true, false, true, false] b51) fr σ ((fun fr σ => c51_6 run fu fu (G fr 0) (G fr 3) (G fr 86) (G fr 87) (G fr 88) σ) fr σ) (blockK 2 (thenK (fun fr σ => c51_5 run fu (G fr 0) (G fr 3) σ) (scopeK (subC [true, false] b51) (lblU 0 (fun fr σ => c51_1L run fu fu (G fr 0) (G fr 3) σ)) k51))) := by
  have h := KOK.loop (X := X0) (N := 113) (b := (subC [true, false, true, true, true, true, false, true, false, false] b51)) (k := (blockK 2 (thenK (fun fr σ => c51_5 run fu (G fr 0) (G fr 3) σ) (scopeK (subC [true, false] b51) (lblU 0 (fun fr σ => c51_1L run fu fu (G fr 0) (G fr 3) σ)) k51)))) (u := fun m fr σ => c51_6 run fu m (G fr 0) (G fr 3) (G fr 86) (G fr 87) (G fr 88) σ) (fun _ _ => rfl) (fun m fr σ => KOK.piece env0 hrun [0, 3, 86, 87, 88] (eq51_6 run fu (c51_6 run fu m) (G fr 0) (G fr 3) (G fr 86) (G fr 87) (G fr 88) σ) (owed51_6 hrun fu (c51_6 run fu m)))
  exact fun fr σ => h fu fr σ

noncomputable def c51_4 (run : RunT) (fu : Nat) (x0 x3 : AV) (σ : Store) : Tr R :=
  calK run 56 [x3] σ fun x78 σ1 =>
  ifK x78 (
  .fail) (
  calK run 57 [] σ1 fun x86 σ2 =>
  lenLK x86 fun x87 =>
  c51_6 run fu fu x0 x3 x86 x87 (.int .i64 0) σ2)

theorem eq51_4 (run : RunT) (fu : Nat) (x0 x3 : AV) (σ : Store) : codeK X0 run (.seq (.seq .leaf (.cond (.sub deadK) .leaf)) (.seq .leaf (.seq (.seq .leaf (.block (.sub (fun fr σ => c51_6 run fu fu (G fr 0) (G fr 3) (G fr 86) (G fr 87) (G fr 88) σ)))) (.sub (fun fr σ => c51_5 run fu (G fr 0) (G fr 3) σ))))) (subC [true, false, true, true] b51) (frS 0 113 [(0, x0), (3, x3)]) σ (scopeK (subC [true, false] b51) (lblU 0 (fun fr σ => c51_1L run fu fu (G fr 0) (G fr 3) σ)) k51) = c51_4 run fu x0 x3 σ := by kernel_rfl

theorem ok51_4 {run : RunT} (hrun : RunOK X0 run) (fu : Nat) : ∀ fr σ, KOK X0 113 (subC [true, false, true, true] b51) fr σ ((fun fr σ => c51_4 run fu (G fr 0) (G fr 3) σ) fr σ) (scopeK (subC [true, false] b51) (lblU 0 (fun fr σ => c51_1L run fu fu (G fr 0) (G fr 3) σ)) k51) := fun fr σ =>
  KOK.piece env0 hrun [0, 3] (eq51_4 run fu (G fr 0) (G fr 3) σ) ⟨⟨trivial, ⟨KOK.dead, trivial⟩⟩, ⟨trivial, ⟨⟨trivial, (ok51_6 hrun fu)⟩, (ok51_5 hrun fu)⟩⟩⟩

noncomputable def c51_7b (run : RunT) (fu : Nat) (s7 : W2) (x0 x3 : AV) (σ : Store) : Tr R :=
  nchkK x0 fun x14 =>
  addrK x14 5 fun x15 =>
  ld1K σ x15 fun x16 =>
  addK x16 (.int .i64 1) fun x17 =>
  nchkK x0 fun x19 =>
  addrK x19 4 fun x20 =>
  ld1K σ x20 fun x21 =>
  lenLK x21 fun x22 =>
  cmpK .lss x17 x22 fun x23 =>
  ifK x23 (
  .fail) (
  c51_4 run fu x0 x3 σ)

noncomputable def c51_7 (run : RunT) (fu : Nat) : Nat → W2
  | 0 => fun _ _ _ => .fail
  | m + 1 => c51_7b run fu (c51_7 run fu m)

theorem eq51_7 (run : RunT) (fu : Nat) (s7 : W2) (x0 x3 : AV) (σ : Store) : codeK X0 run (.seq (.seq .leaf (.cond (.sub deadK) .leaf)) .leaf) (subC [true, false, true, false, false, false] b51) (frS 0 113 [(0, x0), (3, x3)]) σ (thenK (fun fr σ => s7 (G fr 0) (G fr 3) σ) (blockK 0 (thenK (fun fr σ => c51_4 run fu (G fr 0) (G fr 3) σ) (scopeK (subC [true, false] b51) (lblU 0 (fun fr σ => c51_1L run fu fu (G fr 0) (G fr 3) σ)) k51)))) = c51_7b run fu s7 x0 x3 σ := by kernel_rfl

theorem owed51_7 {run : RunT} (hrun : RunOK X0 run) (fu : Nat) (s7 : W2) : Owes X0 run 113 (.seq (.seq .leaf (.cond (.sub deadK) .leaf)) .leaf) (subC [true, false, true, false, false, false] b51) (thenK (fun fr σ => s7 (G fr 0) (G fr 3) σ) (blockK 0 (thenK (fun fr σ => c51_4 run fu (G fr 0) (G fr 3) σ) (scopeK (subC [true, false] b51) (lblU 0 (fun fr σ => c51_1L run fu fu (G fr 0) (G fr 3) σ)) k51)))) :=
  ⟨⟨trivial, ⟨KOK.dead, trivial⟩⟩, trivial⟩

theorem ok51_7 {run : RunT} (hrun : RunOK X0 run) (fu : Nat) : ∀ fr σ, KOK X0 113 (subC [true, false, true, false, false] b51) fr σ ((fun fr σ => c51_7 run fu fu (G fr 0) (G fr 3) σ) fr σ) (blockK 0 (thenK (fun fr σ => c51_4 run fu (G fr 0) (G fr 3) σ) (scopeK (subC [true, false] b51) (lblU 0 (fun fr σ => c51_1L run fu fu (G fr 0) (G fr 3) σ)) k51))) := by
  have h := KOK.loop (X := X0) (N := 113) (b := (subC [true, false, true, false, false, false] b51)) (k := (blockK 0 (thenK (fun fr σ => c51_4 run fu (G fr 0) (G fr 3) σ) (scopeK (subC [true, false] b51) (lblU 0 (fun fr σ => c51_1L run fu fu (G fr 0) (G fr 3) σ)) k51)))) (u := fun m fr σ => c51_7 run fu m (G fr 0) (G fr 3) σ) (fun _ _ => rfl) (fun m fr σ => KOK.piece env0 hrun [0, 3] (eq51_7 run fu (c51_7 run fu m) (G fr 0) (G fr 3) σ) (owed51_7 hrun fu (c51_7 run fu m)))
  exact fun fr σ => h fu fr σ

noncomputable def c51_1 (run : RunT) (fu : Nat) (x0 x3 : AV) (σ : Store) : Tr R :=
  nchkK x0 fun x11 =>
  addrK x11 5 fun x12 =>
  st1K σ x12 (.int .i64 0) fun _ σ1 =>
  c51_7 run fu fu x0 x3 σ1

theorem eq51_1 (run : RunT) (fu : Nat) (x0 x3 : AV) (σ : Store) : codeK X0 run (.seq .leaf (.seq (.block (.sub (fun fr σ => c51_7 run fu fu (G fr 0) (G fr 3) σ))) (.sub (fun fr σ => c51_4 run fu (G fr 0) (G fr 3) σ)))) (subC [true, false] b51) (frS 0 113 [(0, x0), (3, x3)]) σ (scopeK (subC [true, false] b51) (lblU 0 (fun fr σ => c51_1L run fu fu (G fr 0) (G fr 3) σ)) k51) = c51_1 run fu x0 x3 σ := by kernel_rfl

theorem ok51_1 {run : RunT} (hrun : RunOK X0 run) (fu : Nat) : ∀ fr σ, KOK X0 113 (subC [true] b51) fr σ ((fun fr σ => c51_1 run fu (G fr 0) (G fr 3) σ) fr σ) k51 := fun fr σ =>
  KOK.scope1 (X := X0) (N := 113) (b := (subC [true, false] b51)) (k := k51) 0 (u := fun m fr σ => c51_1L run fu m (G fr 0) (G fr 3) σ) (fun _ _ => rfl) (fun m fr σ => KOK.piece env0 hrun [0, 3] (eq51_1L run fu (c51_1L run fu m) (G fr 0) (G fr 3) σ) (owed51_1L hrun fu (c51_1L run fu m))) fu
    (KOK.piece env0 hrun [0, 3] (eq51_1 run fu (G fr 0) (G fr 3) σ) ⟨trivial, ⟨(ok51_7 hrun fu), (ok51_4 hrun fu)⟩⟩)

noncomputable def c51 (run : RunT) (fu : Nat) (x0 x1 : AV) (σ : Store) : Tr R :=
  boxK σ 201 x1 fun x3 σ1 =>
  c51_1 run fu x0 x3 σ1

theorem eq51 (run : RunT) (fu : Nat) (x0 x1 : AV) (σ : Store) : codeK X0 run (.seq .leaf (.sub (fun fr σ => c51_1 run fu (G fr 0) (G fr 3) σ))) (subC [] b51) ([x0, x1] ++ padA (113 - 2)) σ k51 = c51 run fu x0 x1 σ := by kernel_rfl

theorem ok51 {run : RunT} (hrun : RunOK X0 run) (fu : Nat) (x0 x1 : AV) (σ : Store) : CallOK X0 51 [x0, x1] σ (c51 run fu x0 x1 σ) :=
  KOK.body (fn := Tryz.f51) (c := subC [] b51) (by kernel_rfl) (by kernel_rfl) (by show 2 ≤ 113; decide) (KOK.whole env0 hrun (eq51 run fu x0 x1 σ) ⟨trivial, (ok51_1 hrun fu)⟩)

-- (*pub-paratext/pub/rscmarkdown.parseState).trimStack

noncomputable def b52 : Code := match Tryz.f52.body with | some c => c | none => .skip

noncomputable def k52 : Kont R := retK Tryz.prog []

noncomputable def c52_2b (run : RunT) (fu : Nat) (s2 : W2) (x0 x1 : AV) (σ : Store) : Tr R :=
  nchkK x0 fun x13 =>
  addrK x13 4 fun x14 =>
  ld1K σ x14 fun x15 =>
  lenLK x15 fun x16 =>
  cmpK .gtr x16 x1 fun x18 =>
  ifK x18 (
  calK run 59 [x0] σ fun x20 σ1 =>
  s2 x0 x1 σ1) (
  .ret (.tup [], σ))

noncomputable def c52_2 (run : RunT) (fu : Nat) : Nat → W2
  | 0 => fun _ _ _ => .fail
  | m + 1 => c52_2b run fu (c52_2 run fu m)

theorem eq52_2 (run : RunT) (fu : Nat) (s2 : W2) (x0 x1 : AV) (σ : Store) : codeK X0 run (.seq (.seq .leaf (.cond .leaf .leaf)) (.block .leaf)) (subC [true, false, false] b52) (frS 0 21 [(0, x0), (1, x1)]) σ (thenK (fun fr σ => s2 (G fr 0) (G fr 1) σ) (blockK 0 k52)) = c52_2b run fu s2 x0 x1 σ := by kernel_rfl

theorem owed52_2 {run : RunT} (hrun : RunOK X0 run) (fu : Nat) (s2 : W2) : Owes X0 run 21 (.seq (.seq .leaf (.cond .leaf .leaf)) (.block .leaf)) (subC [true, false, false] b52) (thenK (fun fr σ => s2 (G fr 0) (G fr 1) σ) (blockK 0 k52)) :=
  ⟨⟨trivial, ⟨trivial, trivial⟩⟩, trivial⟩

theorem ok52_2 {run : RunT} (hrun : RunOK X0 run) (fu : Nat) : ∀ fr σ, KOK X0 21 (subC [true, false] b52) fr σ ((fun fr σ => c52_2 run fu fu (G fr 0) (G fr 1) σ) fr σ) (blockK 0 k52) := by
  have h := KOK.loop (X := X0) (N := 21) (b := (subC [true, false, false] b52)) (k := (blockK 0 k52)) (u := fun m fr σ => c52_2 run fu m (G fr 0) (G fr 1) σ) (fun _ _ => rfl) (fun m fr σ => KOK.piece env0 hrun [0, 1] (eq52_2 run fu (c52_2 run fu m) (G fr 0) (G fr 1) σ) (owed52_2 hrun fu (c52_2 run fu m)))
  exact fun fr σ => h fu fr σ

noncomputable def c52_1 (run : RunT) (fu : Nat) (x0 x1 : AV) (σ : Store) : Tr R :=
  c52_2 run fu fu x0 x1 σ

theorem eq52_1 (run : RunT) (fu : Nat) (x0 x1 : AV) (σ : Store) : codeK X0 run (.block (.sub (fun fr σ => c52_2 run fu fu (G fr 0) (G fr 1) σ))) (subC [true] b52) (frS 0 21 [(0, x0), (1, x1)]) σ k52 = c52_1 run fu x0 x1 σ := by kernel_rfl

theorem ok52_1 {run : RunT} (hrun : RunOK X0 run) (fu : Nat) : ∀ fr σ, KOK X0 21 (subC [true] b52) fr σ ((fun fr σ => c52_1 run fu (G fr 0) (G fr 1) σ) fr σ) k52 := fun fr σ =>
  KOK.piece env0 hrun [0, 1] (eq52_1 run fu (G fr 0) (G fr 1) σ) (ok52_2 hrun fu)

noncomputable def c52 (run : RunT) (fu : Nat) (x0 x1 : AV) (σ : Store) : Tr R :=
  nchkK x0 fun x5 =>
  addrK x5 4 fun x6 =>
  ld1K σ x6 fun x7 =>
  lenLK x7 fun x8 =>
  cmpK .lss x8 x1 fun x10 =>
  ifK x10 (
  .fail) (
  c52_1 run fu x0 x1 σ)

theorem eq52 (run : RunT) (fu : Nat) (x0 x1 : AV) (σ : Store) : codeK X0 run (.seq (.seq .leaf (.cond (.sub deadK) .leaf)) (.sub (fun fr σ => c52_1 run fu (G fr 0) (G fr 1) σ))) (subC [] b52) ([x0, x1] ++ padA (21 - 2)) σ k52 = c52 run fu x0 x1 σ := by kernel_rfl

theorem ok52 {run : RunT} (hrun : RunOK X0 run) (fu : Nat) (x0 x1 : AV) (σ : Store) : CallOK X0 52 [x0, x1] σ (c52 run fu x0 x1 σ) :=
  KOK.body (fn := Tryz.f52) (c := subC [] b52) (by kernel_rfl) (by kernel_rfl) (by show 2 ≤ 21; decide) (KOK.whole env0 hrun (eq52 run fu x0 x1 σ) ⟨⟨trivial, ⟨KOK.dead, trivial⟩⟩, (ok52_1 hrun fu)⟩)

-- (*pub-paratext/pub/rscmarkdown.parseState).inline

noncomputable def b53 : Code := match Tryz.f53.body with | some c => c | none => .skip

noncomputable def k53 : Kont R := retK Tryz.prog [.tmp 4]

noncomputable def c53_1 (run : RunT) (fu : Nat) (x0 x1 : AV) (σ : Store) : Tr R :=
  lenSK x1 fun x297 =>
  calK run 73 [x0, x297] σ fun x298 σ1 =>
  nchkK x0 fun x302 =>
  addrK x302 9 fun x303 =>
  ld1K σ1 x303 fun x304 =>
  sliceLK Tryz.prog σ1 84 x304 none (some (.int .i64 0)) fun x305 =>
  nchkK x0 fun x307 =>
  addrK x307 9 fun x308 =>
  ld1K σ1 x308 fun x309 =>
  calK run 77 [x0, x305, x309] σ1 fun x310 σ2 =>
  nchkK x0 fun x311 =>
  addrK x311 9 fun x312 =>
  st1K σ2 x312 x310 fun _ σ3 =>
  nchkK x0 fun x316 =>
  addrK x316 9 fun x317 =>
  ld1K σ3 x317 fun x318 =>
  calK run 78 [x0, x318] σ3 fun x319 σ4 =>
  nchkK x0 fun x320 =>
  addrK x320 9 fun x321 =>
  st1K σ4 x321 x319 fun _ σ5 =>
  nchkK x0 fun x325 =>
  addrK x325 9 fun x326 =>
  ld1K σ5 x326 fun x327 =>
  calK run 79 [x0, x327] σ5 fun x328 σ6 =>
  nchkK x0 fun x329 =>
  addrK x329 9 fun x330 =>
  st1K σ6 x330 x328 fun _ σ7 =>
  nchkK x0 fun x332 =>
  addrK x332 9 fun x333 =>
  ld1K σ7 x333 fun x334 =>
  .ret (x334, σ7)

theorem eq53_1 (run : RunT) (fu : Nat) (x0 x1 : AV) (σ : Store) : codeK X0 run (.seq .leaf (.seq .leaf (.seq .leaf (.seq .leaf (.seq .leaf .leaf))))) (subC [true, true, true, true, true, true, true, true, true, true] b53) (frS 0 335 [(0, x0), (1, x1)]) σ k53 = c53_1 run fu x0 x1 σ := by kernel_rfl

theorem ok53_1 {run : RunT} (hrun : RunOK X0 run) (fu : Nat) : ∀ fr σ, KOK X0 335 (subC [true, true, true, true, true, true, true, true, true, true] b53) fr σ ((fun fr σ => c53_1 run fu (G fr 0) (G fr 1) σ) fr σ) k53 := fun fr σ =>
  KOK.piece env0 hrun [0, 1] (eq53_1 run fu (G fr 0) (G fr 1) σ) ⟨trivial, ⟨trivial, ⟨trivial, ⟨trivial, ⟨trivial, trivial⟩⟩⟩⟩⟩

noncomputable def c53_5 (run : RunT) (fu : Nat) (s2 : W6) (x0 x1 x5 x6 x7 x8 : AV) (σ : Store) : Tr R :=
  addK x8 (.int .i64 1) fun x294 =>
  s2 x0 x1 x5 x6 x7 x294 σ

theorem eq53_5 (run : RunT) (fu : Nat) (s2 : W6) (x0 x1 x5 x6 x7 x8 : AV) (σ : Store) : codeK X0 run .leaf (subC [true, true, true, true, true, true, true, true, true, false, false, false, true, false, true, true, true, true] b53) (frS 0 335 [(0, x0), (1, x1), (5, x5), (6, x6), (7, x7), (8, x8)]) σ (blockK 1 (thenK (fun fr σ => s2 (G fr 0) (G fr 1) (G fr 5) (G fr 6) (G fr 7) (G fr 8) σ) (blockK 0 (thenK (fun fr σ => c53_1 run fu (G fr 0) (G fr 1) σ) k53)))) = c53_5 run fu s2 x0 x1 x5 x6 x7 x8 σ := by kernel_rfl

theorem ok53_5 {run : RunT} (hrun : RunOK X0 run) (fu : Nat) (s2 : W6) : ∀ fr σ, KOK X0 335 (subC [true, true, true, true, true, true, true, true, true, false, false, false, true, false, true, true, true, true] b53) fr σ ((fun fr σ => c53_5 run fu s2 (G fr 0) (G fr 1) (G fr 5) (G fr 6) (G fr 7) (G fr 8) σ) fr σ) (blockK 1 (thenK (fun fr σ => s2 (G fr 0) (G fr 1) (G fr 5) (G fr 6) (G fr 7) (G fr 8) σ) (blockK 0 (thenK (fun fr σ => c53_1 run fu (G fr 0) (G fr 1) σ) k53)))) := fun fr σ =>
  KOK.piece env0 hrun [0, 1, 5, 6, 7, 8] (eq53_5 run fu s2 (G fr 0) (G fr 1) (G fr 5) (G fr 6) (G fr 7) (G fr 8) σ) trivial

noncomputable def c53_4 (run : RunT) (fu : Nat) (s2 : W6) (x0 x1 x5 x6 x7 x8 : AV) (σ : Store) : Tr R :=
  idxSK x1 x8 fun x159 =>
  cmpK .eql x159 (.int .u8 93) fun x160 =>
  grdK x160 true σ (fun f => f x5 σ) fun x162 σ1 =>
  grdK x160 true σ1 (fun f => lenLK x162 fun v => f v σ1) fun x163 σ2 =>
  grdK x160 true σ2 (fun f => cmpK .gtr x163 (.int .i64 0) fun v => f v σ2) fun x164 σ3 =>
  pickK x160 x164 (.bool false) fun x165 =>
  ifK x165 (
  .fail) (
  c53_5 run fu s2 x0 x1 x5 x6 x7 x8 σ3)

theorem eq53_4 (run : RunT) (fu : Nat) (s2 : W6) (x0 x1 x5 x6 x7 x8 : AV) (σ : Store) : codeK X0 run (.seq (.seq .leaf (.cond (.sub deadK) .leaf)) (.sub (fun fr σ => c53_5 run fu s2 (G fr 0) (G fr 1) (G fr 5) (G fr 6) (G fr 7) (G fr 8) σ))) (subC [true, true, true, true, true, true, true, true, true, false, false, false, true, false, true, true, true] b53) (frS 0 335 [(0, x0), (1, x1), (5, x5), (6, x6), (7, x7), (8, x8)]) σ (blockK 1 (thenK (fun fr σ => s2 (G fr 0) (G fr 1) (G fr 5) (G fr 6) (G fr 7) (G fr 8) σ) (blockK 0 (thenK (fun fr σ => c53_1 run fu (G fr 0) (G fr 1) σ) k53)))) = c53_4 run fu s2 x0 x1 x5 x6 x7 x8 σ := by kernel_rfl

theorem ok53_4 {run : RunT} (hrun : RunOK X0 run) (fu : Nat) (s2 : W6) : ∀ fr σ, KOK X0 335 (subC [true, true, true, true, true, true, true, true, true, false, false, false, true, false, true, true, true] b53) fr σ ((fun fr σ => c53_4 run fu s2 (G fr 0) (G fr 1) (G fr 5) (G fr 6) (G fr 7) (G fr 8) σ) fr σ) (blockK 1 (thenK (fun fr σ => s2 (G fr 0) (G fr 1) (G fr 5) (G fr 6) (G fr 7) (G fr 8) σ) (blockK 0 (thenK (fun fr σ => c53_1 run fu (G fr 0) (G fr 1) σ) k53)))) := fun fr σ =>
  KOK.piece env0 hrun [0, 1, 5, 6, 7, 8] (eq53_4 run fu s2 (G fr 0) (G fr 1) (G fr 5) (G fr 6) (G fr 7) (G fr 8) σ) ⟨⟨trivial, ⟨KOK.dead, trivial⟩⟩, (ok53_5 hrun fu s2)⟩

noncomputable def c53_6 (run : RunT) (fu : Nat) (s2 : W6) (x0 x1 x5 x6 x7 x10 x12 : AV) (σ : Store) : Tr R :=
  nchkK x0 fun x145 =>
  addrK x145 9 fun x146 =>
  ld1K σ x146 fun x147 =>
  opt (fillK [.nili] [(0, 1, x10)]) fun cs => newSK σ 253 cs 1 1 fun x149 σ1 =>
  appK 126 1 16 σ1 x147 x149 fun x150 σ2 =>
  nchkK x0 fun x151 =>
  addrK x151 9 fun x152 =>
  st1K σ2 x152 x150 fun _ σ3 =>
  calK run 74 [x0, x12] σ3 fun x156 σ4 =>
  s2 x0 x1 x5 x6 x7 x12 σ4

theorem eq53_6 (run : RunT) (fu : Nat) (s2 : W6) (x0 x1 x5 x6 x7 x10 x12 : AV) (σ : Store) : codeK X0 run (.seq .leaf (.seq .leaf (.seq .leaf .leaf))) (subC [true, true, true, true, true, true, true, true, true, false, false, false, true, false, true, true, false, true, false, true, true, false, true, true] b53) (frS 0 335 [(0, x0), (1, x1), (5, x5), (6, x6), (7, x7), (10, x10), (12, x12)]) σ (thenK (fun fr σ => c53_4 run fu s2 (G fr 0) (G fr 1) (G fr 5) (G fr 6) (G fr 7) (G fr 8) σ) (blockK 1 (thenK (fun fr σ => s2 (G fr 0) (G fr 1) (G fr 5) (G fr 6) (G fr 7) (G fr 8) σ) (blockK 0 (thenK (fun fr σ => c53_1 run fu (G fr 0) (G fr 1) σ) k53))))) = c53_6 run fu s2 x0 x1 x5 x6 x7 x10 x12 σ := by kernel_rfl

theorem ok53_6 {run : RunT} (hrun : RunOK X0 run) (fu : Nat) (s2 : W6) : ∀ fr σ, KOK X0 335 (subC [true, true, true, true, true, true, true, true, true, false, false, false, true, false, true, true, false, true, false, true, true, false, true, true] b53) fr σ ((fun fr σ => c53_6 run fu s2 (G fr 0) (G fr 1) (G fr 5) (G fr 6) (G fr 7) (G fr 10) (G fr 12) σ) fr σ) (thenK (fun fr σ => c53_4 run fu s2 (G fr 0) (G fr 1) (G fr 5) (G fr 6) (G fr 7) (G fr 8) σ) (blockK 1 (thenK (fun fr σ => s2 (G fr 0) (G fr 1) (G fr 5) (G fr 6) (G fr 7) (G fr 8) σ) (blockK 0 (thenK (fun fr σ => c53_1 run fu (G fr 0) (G fr 1) σ) k53))))) := fun fr σ =>
  KOK.piece env0 hrun [0, 1, 5, 6, 7, 10, 12] (eq53_6 run fu s2 (G fr 0) (G fr 1) (G fr 5) (G fr 6) (G fr 7) (G fr 10) (G fr 12) σ) ⟨trivial, ⟨trivial, ⟨trivial, trivial⟩⟩⟩

noncomputable def c53_3 (run : RunT) (fu : Nat) (s2 : W6) (x0 x1 x5 x6 x7 x8 x9 : AV) (σ : Store) : Tr R :=
  neOK (nilEq nilF) x9 .nilf fun x114 =>
  ifK x114 (
  dynK X0 run x9 [x0, x1, x8] σ fun x120 σ1 =>
  extK x120 0 fun x121 =>
  extK x120 1 fun x122 =>
  extK x120 2 fun x123 =>
  extK x120 3 fun x124 =>
  ifK x124 (
  calK run 73 [x0, x122] σ1 fun x128 σ2 =>
  tasK (some .nilp) 128 true x121 fun x131 =>
  extK x131 0 fun x132 =>
  extK x131 1 fun x133 =>
  ifK x133 (
  .fail) (
  c53_6 run fu s2 x0 x1 x5 x6 x7 x121 x123 σ2)) (
  c53_4 run fu s2 x0 x1 x5 x6 x7 x8 σ1)) (
  c53_4 run fu s2 x0 x1 x5 x6 x7 x8 σ)

theorem eq53_3 (run : RunT) (fu : Nat) (s2 : W6) (x0 x1 x5 x6 x7 x8 x9 : AV) (σ : Store) : codeK X0 run (.seq (.seq .leaf (.cond (.seq .leaf (.seq .leaf (.cond (.seq .leaf (.seq (.seq .leaf (.seq .leaf (.cond (.sub deadK) .leaf))) (.sub (fun fr σ => c53_6 run fu s2 (G fr 0) (G fr 1) (G fr 5) (G fr 6) (G fr 7) (G fr 10) (G fr 12) σ)))) .leaf))) .leaf)) (.sub (fun fr σ => c53_4 run fu s2 (G fr 0) (G fr 1) (G fr 5) (G fr 6) (G fr 7) (G fr 8) σ))) (subC [true, true, true, true, true, true, true, true, true, false, false, false, true, false, true, true] b53) (frS 0 335 [(0, x0), (1, x1), (5, x5), (6, x6), (7, x7), (8, x8), (9, x9)]) σ (blockK 1 (thenK (fun fr σ => s2 (G fr 0) (G fr 1) (G fr 5) (G fr 6) (G fr 7) (G fr 8) σ) (blockK 0 (thenK (fun fr σ => c53_1 run fu (G fr 0) (G fr 1) σ) k53)))) = c53_3 run fu s2 x0 x1 x5 x6 x7 x8 x9 σ := by kernel_rfl

theorem ok53_3 {run : RunT} (hrun : RunOK X0 run) (fu : Nat) (s2 : W6) : ∀ fr σ, KOK X0 335 (subC [true, true, true, true, true, true, true, true, true, false, false, false, true, false, true, true] b53) fr σ ((fun fr σ => c53_3 run fu s2 (G fr 0) (G fr 1) (G fr 5) (G fr 6) (G fr 7) (G fr 8) (G fr 9) σ) fr σ) (blockK 1 (thenK (fun fr σ => s2 (G fr 0) (G fr 1) (G fr 5) (G fr 6) (G fr 7) (G fr 8) σ) (blockK 0 (thenK (fun fr σ => c53_1 run fu (G fr 0) (G fr 1) σ) k53)))) := fun fr σ =>
  KOK.piece env0 hrun [0, 1, 5, 6, 7, 8, 9] (eq53_3 run fu s2 (G fr 0) (G fr 1) (G fr 5) (G fr 6) (G fr 7) (G fr 8) (G fr 9) σ) ⟨⟨trivial, ⟨⟨trivial, ⟨trivial, ⟨⟨trivial, ⟨⟨trivial, ⟨trivial, ⟨KOK.dead, trivial⟩⟩⟩, (ok53_6 hrun fu s2)⟩⟩, trivial⟩⟩⟩, trivial⟩⟩, (ok53_4 hrun fu s2)⟩

noncomputable def c53_8 (run : RunT) (fu : Nat) (s2 : W6) (x0 x1 x5 x6 x7 x8 x9 x39 x81 : AV) (σ : Store) : Tr R :=
  ifK x81 (
  .fail) (
  cmpK .eql x39 (.int .u8 126) fun x92 =>
  ifK x92 (
  .fail) (
  cmpK .eql x39 (.int .u8 10) fun x101 =>
  ifK x101 (
  .fail) (
  cmpK .eql x39 (.int .u8 38) fun x103 =>
  ifK x103 (
  .fail) (
  cmpK .eql x39 (.int .u8 58) fun x105 =>
  ifK x105 (
  .fail) (
  c53_3 run fu s2 x0 x1 x5 x6 x7 x8 x9 σ)))))

theorem eq53_8 (run : RunT) (fu : Nat) (s2 : W6) (x0 x1 x5 x6 x7 x8 x9 x39 x81 : AV) (σ : Store) : codeK X0 run (.cond (.sub deadK) (.seq .leaf (.cond (.sub deadK) (.seq .leaf (.cond (.sub deadK) (.seq .leaf (.cond (.sub deadK) (.seq .leaf (.cond (.sub deadK) .leaf))))))))) (subC [true, true, true, true, true, true, true, true, true, false, false, false, true, false, true, false, true, false, true, true, true, true, true, true, true, true, true, true, true, true, true, true, true, true, true] b53) (frS 0 335 [(0, x0), (1, x1), (5, x5), (6, x6), (7, x7), (8, x8), (9, x9), (39, x39), (81, x81)]) σ (blockK 2 (thenK (fun fr σ => c53_3 run fu s2 (G fr 0) (G fr 1) (G fr 5) (G fr 6) (G fr 7) (G fr 8) (G fr 9) σ) (blockK 1 (thenK (fun fr σ => s2 (G fr 0) (G fr 1) (G fr 5) (G fr 6) (G fr 7) (G fr 8) σ) (blockK 0 (thenK (fun fr σ => c53_1 run fu (G fr 0) (G fr 1) σ) k53)))))) = c53_8 run fu s2 x0 x1 x5 x6 x7 x8 x9 x39 x81 σ := by kernel_rfl

theorem ok53_8 {run : RunT} (hrun : RunOK X0 run) (fu : Nat) (s2 : W6) : ∀ fr σ, KOK X0 335 (subC [true, true, true, true, true, true, true, true, true, false, false, false, true, false, true, false, true, false, true, true, true, true, true, true, true, true, true, true, true, true, true, true, true, true, true] b53) fr σ ((fun fr σ => c53_8 run fu s2 (G fr 0) (G fr 1) (G fr 5) (G fr 6) (G fr 7) (G fr 8) (G fr 9) (G fr 39) (G fr 81) σ) fr σ) (blockK 2 (thenK (fun fr σ => c53_3 run fu s2 (G fr 0) (G fr 1) (G fr 5) (G fr 6) (G fr 7) (G fr 8) (G fr 9) σ) (blockK 1 (thenK (fun fr σ => s2 (G fr 0) (G fr 1) (G fr 5) (G fr 6) (G fr 7) (G fr 8) σ) (blockK 0 (thenK (fun fr σ => c53_1 run fu (G fr 0) (G fr 1) σ) k53)))))) := fun fr σ =>
  KOK.piece env0 hrun [0, 1, 5, 6, 7, 8, 9, 39, 81] (eq53_8 run fu s2 (G fr 0) (G fr 1) (G fr 5) (G fr 6) (G fr 7) (G fr 8) (G fr 9) (G fr 39) (G fr 81) σ) ⟨KOK.dead, ⟨trivial, ⟨KOK.dead, ⟨trivial, ⟨KOK.dead, ⟨trivial, ⟨KOK.dead, ⟨trivial, ⟨KOK.dead, trivial⟩⟩⟩⟩⟩⟩⟩⟩⟩

noncomputable def c53_7 (run : RunT) (fu : Nat) (s2 : W6) (x0 x1 x5 x6 x7 x8 x9 x39 x60 : AV) (σ : Store) : Tr R :=
  ifK x60 (
  .fail) (
  cmpK .eql x39 (.int .u8 46) fun x64 =>
  ifK x64 (
  nchkK x0 fun x66 =>
  addrK x66 0 fun x67 =>
  ld1K σ x67 fun x68 =>
  nchkK x68 fun x69 =>
  addrK x69 7 fun x70 =>
  ld1K σ x70 fun x71 =>
  ifK x71 (
  c53_3 run fu s2 x0 x1 x5 x6 x7 x8 (.fn (.func 68) [] []) σ) (
  .fail)) (
  cmpK .eql x39 (.int .u8 45) fun x73 =>
  ifK x73 (
  .fail) (
  cmpK .eql x39 (.int .u8 34) fun x82 =>
  ifK x82 (
  .fail) (
  cmpK .eql x39 (.int .u8 39) fun x83 =>
  c53_8 run fu s2 x0 x1 x5 x6 x7 x8 x9 x39 x83 σ))))

theorem eq53_7 (run : RunT) (fu : Nat) (s2 : W6) (x0 x1 x5 x6 x7 x8 x9 x39 x60 : AV) (σ : Store) : codeK X0 run (.cond (.sub deadK) (.seq .leaf (.cond (.seq .leaf (.cond .leaf (.sub deadK))) (.seq .leaf (.cond (.sub deadK) (.seq (.seq .leaf (.cond (.sub deadK) .leaf)) (.sub (fun fr σ => c53_8 run fu s2 (G fr 0) (G fr 1) (G fr 5) (G fr 6) (G fr 7) (G fr 8) (G fr 9) (G fr 39) (G fr 81) σ)))))))) (subC [true, true, true, true, true, true, true, true, true, false, false, false, true, false, true, false, true, false, true, true, true, true, true, true, true, true, true, true, true] b53) (frS 0 335 [(0, x0), (1, x1), (5, x5), (6, x6), (7, x7), (8, x8), (9, x9), (39, x39), (60, x60)]) σ (blockK 2 (thenK (fun fr σ => c53_3 run fu s2 (G fr 0) (G fr 1) (G fr 5) (G fr 6) (G fr 7) (G fr 8) (G fr 9) σ) (blockK 1 (thenK (fun fr σ => s2 (G fr 0) (G fr 1) (G fr 5) (G fr 6) (G fr 7) (G fr 8) σ) (blockK 0 (thenK (fun fr σ => c53_1 run fu (G fr 0) (G fr 1) σ) k53)))))) = c53_7 run fu s2 x0 x1 x5 x6 x7 x8 x9 x39 x60 σ := by kernel_rfl

theorem ok53_7 {run : RunT} (hrun : RunOK X0 run) (fu : Nat) (s2 : W6) : ∀ fr σ, KOK X0 335 (subC [true, true, true, true, true, true, true, true, true, false, false, false, true, false, true, false, true, false, true, true, true, true, true, true, true, true, true, true, true] b53) fr σ ((fun fr σ => c53_7 run fu s2 (G fr 0) (G fr 1) (G fr 5) (G fr 6) (G fr 7) (G fr 8) (G fr 9) (G fr 39) (G fr 60) σ) fr σ) (blockK 2 (thenK (fun fr σ => c53_3 run fu s2 (G fr 0) (G fr 1) (G fr 5) (G fr 6) (G fr 7) (G fr 8) (G fr 9) σ) (blockK 1 (thenK (fun fr σ => s2 (G fr 0) (G fr 1) (G fr 5) (G fr 6) (G fr 7) (G fr 8) σ) (blockK 0 (thenK (fun fr σ => c53_1 run fu (G fr 0) (G fr 1) σ) k53)))))) := fun fr σ =>
  KOK.piece env0 hrun [0, 1, 5, 6, 7, 8, 9, 39, 60] (eq53_7 run fu s2 (G fr 0) (G fr 1) (G fr 5) (G fr 6) (G fr 7) (G fr 8) (G fr 9) (G fr 39) (G fr 60) σ) ⟨KOK.dead, ⟨trivial, ⟨⟨trivial, ⟨trivial, KOK.dead⟩⟩, ⟨trivial, ⟨KOK.dead, ⟨⟨trivial, ⟨KOK.dead, trivial⟩⟩, (ok53_8 hrun fu s2)⟩⟩⟩⟩⟩⟩

noncomputable def c53_2b (run : RunT) (fu : Nat) (s2 : W6) (x0 x1 x5 x6 x7 x8 : AV) (σ : Store) : Tr R :=
  lenSK x1 fun x35 =>
  cmpK .lss x8 x35 fun x36 =>
  ifK x36 (
  idxSK x1 x8 fun x39 =>
  cmpK .eql x39 (.int .u8 92) fun x41 =>
  ifK x41 (
  .fail) (
  cmpK .eql x39 (.int .u8 96) fun x43 =>
  ifK x43 (
  .fail) (
  cmpK .eql x39 (.int .u8 60) fun x55 =>
  ifK x55 (
  .fail) (
  cmpK .eql x39 (.int .u8 91) fun x57 =>
  ifK x57 (
  .fail) (
  cmpK .eql x39 (.int .u8 33) fun x59 =>
  ifK x59 (
  .fail) (
  cmpK .eql x39 (.int .u8 95) fun x61 =>
  ifK x61 (
  .fail) (
  cmpK .eql x39 (.int .u8 42) fun x62 =>
  c53_7 run fu s2 x0 x1 x5 x6 x7 x8 .nilf x39 x62 σ))))))) (
  c53_1 run fu x0 x1 σ)

noncomputable def c53_2 (run : RunT) (fu : Nat) : Nat → W6
  | 0 => fun _ _ _ _ _ _ _ => .fail
  | m + 1 => c53_2b run fu (c53_2 run fu m)

theorem eq53_2 (run : RunT) (fu : Nat) (s2 : W6) (x0 x1 x5 x6 x7 x8 : AV) (σ : Store) : codeK X0 run (.seq (.seq .leaf (.cond .leaf .leaf)) (.block (.seq .leaf (.seq (.seq .leaf (.block (.seq .leaf (.cond (.sub deadK) (.seq .leaf (.cond (.sub deadK) (.seq .leaf (.cond (.sub deadK) (.seq .leaf (.cond (.sub deadK) (.seq .leaf (.cond (.sub deadK) (.seq (.seq .leaf (.cond (.sub deadK) .leaf)) (.sub (fun fr σ => c53_7 run fu s2 (G fr 0) (G fr 1) (G fr 5) (G fr 6) (G fr 7) (G fr 8) (G fr 9) (G fr 39) (G fr 60) σ))))))))))))))) (.sub (fun fr σ => c53_3 run fu s2 (G fr 0) (G fr 1) (G fr 5) (G fr 6) (G fr 7) (G fr 8) (G fr 9) σ)))))) (subC [true, true, true, true, true, true, true, true, true, false, false, false] b53) (frS 0 335 [(0, x0), (1, x1), (5, x5), (6, x6), (7, x7), (8, x8)]) σ (thenK (fun fr σ => s2 (G fr 0) (G fr 1) (G fr 5) (G fr 6) (G fr 7) (G fr 8) σ) (blockK 0 (thenK (fun fr σ => c53_1 run fu (G fr 0) (G fr 1) σ) k53))) = c53_2b run fu s2 x0 x1 x5 x6 x7 x8 σ := by kernel_rfl

theorem owed53_2 {run : RunT} (hrun : RunOK X0 run) (fu : Nat) (s2 : W6) : Owes X0 run 335 (.seq (.seq .leaf (.cond .leaf .leaf)) (.block (.seq .leaf (.seq (.seq .leaf (.block (.seq .leaf (.cond (.sub deadK) (.seq .leaf (.cond (.sub deadK) (.seq .leaf (.cond (.sub deadK) (.seq .leaf (.cond (.sub deadK) (.seq .leaf (.cond (.sub deadK) (.seq (.seq .leaf (.cond (.sub deadK) .leaf)) (.sub (fun fr σ => c53_7 run fu s2 (G fr 0) (G fr 1) (G fr 5) (G fr 6) (G fr 7) (G fr 8) (G fr 9) (G fr 39) (G fr 60) σ))))))))))))))) (.sub (fun fr σ => c53_3 run fu s2 (G fr 0) (G fr 1) (G fr 5) (G fr 6) (G fr 7) (G fr 8) (G fr 9) σ)))))) (subC [true, true, true, true, true, true, true, true, true, false, false, false] b53) (thenK (fun fr σ => s2 (G fr 0) (G fr 1) (G fr 5) (G fr 6) (G fr 7) (G fr 8) σ) (blockK 0 (thenK (fun fr σ => c53_1 run fu (G fr 0) (G fr 1) σ) k53))) :=
  ⟨⟨trivial, ⟨trivial, trivial⟩⟩, ⟨trivial, ⟨⟨trivial, ⟨trivial, ⟨KOK.dead, ⟨trivial, ⟨KOK.dead, ⟨trivial, ⟨KOK.dead, ⟨trivial, ⟨KOK.dead, ⟨trivial, ⟨KOK.dead, ⟨⟨trivial, ⟨KOK.dead, trivial⟩⟩, (ok53_7 hrun fu s2)⟩⟩⟩⟩⟩⟩⟩⟩⟩⟩⟩⟩, (ok53_3 hrun fu s2)⟩⟩⟩

theorem ok53_2 {run : RunT} (hrun : RunOK X0 run) (fu : Nat) : ∀ fr σ, KOK X0 335 (subC [true, true, true, true, true, true, true, true, true, false, false] b53) fr σ ((fun fr σ => c53_2 run fu fu (G fr 0) (G fr 1) (G fr 5) (G fr 6) (G fr 7) (G fr 8) σ) fr σ) (blockK 0 (thenK (fun fr σ => c53_1 run fu (G fr 0) (G fr 1) σ) k53)) := by
  have h := KOK.loop (X := X0) (N := 335) (b := (subC [true, true, true, true, true, true, true, true, true, false, false, false] b53)) (k := (blockK 0 (thenK (fun fr σ => c53_1 run fu (G fr 0) (G fr 1) σ) k53))) (u := fun m fr σ => c53_2 run fu m (G fr 0) (G fr 1) (G fr 5) (G fr 6) (G fr 7) (G fr 8) σ) (fun _ _ => rfl) (fun m fr σ => KOK.piece env0 hrun [0, 1, 5, 6, 7, 8] (eq53_2 run fu (c53_2 run fu m) (G fr 0) (G fr 1) (G fr 5) (G fr 6) (G fr 7) (G fr 8) σ) (owed53_2 hrun fu (c53_2 run fu m)))
  exact fun fr σ => h fu fr σ

noncomputable def c53_11 (run : RunT) (fu : Nat) (s2 : W6) (x0 x1 x5 x6 x7 x8 : AV) (σ : Store) : Tr R :=
  addK x8 (.int .i64 1) fun x294 =>
  s2 x0 x1 x5 x6 x7 x294 σ

theorem eq53_11 (run : RunT) (fu : Nat) (s2 : W6) (x0 x1 x5 x6 x7 x8 : AV) (σ : Store) : codeK X0 run .leaf (subC [true, true, true, true, true, true, true, true, true, false, false, false, true, false, true, true, true, true] b53) (frS 0 335 [(0, x0), (1, x1), (5, x5), (6, x6), (7, x7), (8, x8)]) σ (blockK 1 (thenK (fun fr σ => s2 (G fr 0) (G fr 1) (G fr 5) (G fr 6) (G fr 7) (G fr 8) σ) failK)) = c53_11 run fu s2 x0 x1 x5 x6 x7 x8 σ := by kernel_rfl

theorem ok53_11 {run : RunT} (hrun : RunOK X0 run) (fu : Nat) (s2 : W6) : ∀ fr σ, KOK X0 335 (subC [true, true, true, true, true, true, true, true, true, false, false, false, true, false, true, true, true, true] b53) fr σ ((fun fr σ => c53_11 run fu s2 (G fr 0) (G fr 1) (G fr 5) (G fr 6) (G fr 7) (G fr 8) σ) fr σ) (blockK 1 (thenK (fun fr σ => s2 (G fr 0) (G fr 1) (G fr 5) (G fr 6) (G fr 7) (G fr 8) σ) failK)) := fun fr σ =>
  KOK.piece env0 hrun [0, 1, 5, 6, 7, 8] (eq53_11 run fu s2 (G fr 0) (G fr 1) (G fr 5) (G fr 6) (G fr 7) (G fr 8) σ) trivial

noncomputable def c53_10 (run : RunT) (fu : Nat) (s2 : W6) (x0 x1 x5 x6 x7 x8 : AV) (σ : Store) : Tr R :=
  idxSK x1 x8 fun x159 =>
  cmpK .eql x159 (.int .u8 93) fun x160 =>
  grdK x160 true σ (fun f => f x5 σ) fun x162 σ1 =>
  grdK x160 true σ1 (fun f => lenLK x162 fun v => f v σ1) fun x163 σ2 =>
  grdK x160 true σ2 (fun f => cmpK .gtr x163 (.int .i64 0) fun v => f v σ2) fun x164 σ3 =>
  pickK x160 x164 (.bool false) fun x165 =>
  ifK x165 (
  .fail) (
  c53_11 run fu s2 x0 x1 x5 x6 x7 x8 σ3)

theorem eq53_10 (run : RunT) (fu : Nat) (s2 : W6) (x0 x1 x5 x6 x7 x8 : AV) (σ : Store) : codeK X0 run (.seq (.seq .leaf (.cond (.sub deadK) .leaf)) (.sub (fun fr σ => c53_11 run fu s2 (G fr 0) (G fr 1) (G fr 5) (G fr 6) (G fr 7) (G fr 8) σ))) (subC [true, true, true, true, true, true, true, true, true, false, false, false, true, false, true, true, true] b53) (frS 0 335 [(0, x0), (1, x1), (5, x5), (6, x6), (7, x7), (8, x8)]) σ (blockK 1 (thenK (fun fr σ => s2 (G fr 0) (G fr 1) (G fr 5) (G fr 6) (G fr 7) (G fr 8) σ) failK)) = c53_10 run fu s2 x0 x1 x5 x6 x7 x8 σ := by kernel_rfl

theorem ok53_10 {run : RunT} (hrun : RunOK X0 run) (fu : Nat) (s2 : W6) : ∀ fr σ, KOK X0 335 (subC [true, true, true, true, true, true, true, true, true, false, false, false, true, false, true, true, true] b53) fr σ ((fun fr σ => c53_10 run fu s2 (G fr 0) (G fr 1) (G fr 5) (G fr 6) (G fr 7) (G fr 8) σ) fr σ) (blockK 1 (thenK (fun fr σ => s2 (G fr 0) (G fr 1) (G fr 5) (G fr 6) (G fr 7) (G fr 8) σ) failK)) := fun fr σ =>
  KOK.piece env0 hrun [0, 1, 5, 6, 7, 8] (eq53_10 run fu s2 (G fr 0) (G fr 1) (G fr 5) (G fr 6) (G fr 7) (G fr 8) σ) ⟨⟨trivial, ⟨KOK.dead, trivial⟩⟩, (ok53_11 hrun fu s2)⟩

noncomputable def c53_12 (run : RunT) (fu : Nat) (s2 : W6) (x0 x1 x5 x6 x7 x10 x12 : AV) (σ : Store) : Tr R :=
  nchkK x0 fun x145 =>
  addrK x145 9 fun x146 =>
  ld1K σ x146 fun x147 =>
  opt (fillK [.nili] [(0, 1, x10)]) fun cs => newSK σ 253 cs 1 1 fun x149 σ1 =>
  appK 126 1 16 σ1 x147 x149 fun x150 σ2 =>
  nchkK x0 fun x151 =>
  addrK x151 9 fun x152 =>
  st1K σ2 x152 x150 fun _ σ3 =>
  calK run 74 [x0, x12] σ3 fun x156 σ4 =>
  s2 x0 x1 x5 x6 x7 x12 σ4

theorem eq53_12 (run : RunT) (fu : Nat) (s2 : W6) (x0 x1 x5 x6 x7 x10 x12 : AV) (σ : Store) : codeK X0 run (.seq .leaf (.seq .leaf (.seq .leaf .leaf))) (subC [true, true, true, true, true, true, true, true, true, false, false, false, true, false, true, true, false, true, false, true, true, false, true, true] b53) (frS 0 335 [(0, x0), (1, x1), (5, x5), (6, x6), (7, x7), (10, x10), (12, x12)]) σ (thenK (fun fr σ => c53_10 run fu s2 (G fr 0) (G fr 1) (G fr 5) (G fr 6) (G fr 7) (G fr 8) σ) (blockK 1 (thenK (fun fr σ => s2 (G fr 0) (G fr 1) (G fr 5) (G fr 6) (G fr 7) (G fr 8) σ) failK))) = c53_12 run fu s2 x0 x1 x5 x6 x7 x10 x12 σ := by kernel_rfl

theorem ok53_12 {run : RunT} (hrun : RunOK X0 run) (fu : Nat) (s2 : W6) : ∀ fr σ, KOK X0 335 (subC [true, true, true, true, true, true, true, true, true, false, false, false, true, false, true, true, false, true, false, true, true, false, true, true] b53) fr σ ((fun fr σ => c53_12 run fu s2 (G fr 0) (G fr 1) (G fr 5) (G fr 6) (G fr 7) (G fr 10) (G fr 12) σ) fr σ) (thenK (fun fr σ => c53_10 run fu s2 (G fr 0) (G fr 1) (G fr 5) (G fr 6) (G fr 7) (G fr 8) σ) (blockK 1 (thenK (fun fr σ => s2 (G fr 0) (G fr 1) (G fr 5) (G fr 6) (G fr 7) (G fr 8) σ) failK))) := fun fr σ =>
  KOK.piece env0 hrun [0, 1, 5, 6, 7, 10, 12] (eq53_12 run fu s2 (G fr 0) (G fr 1) (G fr 5) (G fr 6) (G fr 7) (G fr 10) (G fr 12) σ) ⟨trivial, ⟨trivial, ⟨trivial, trivial⟩⟩⟩

noncomputable def c53_9 (run : RunT) (fu : Nat) (s2 : W6) (x0 x1 x5 x6 x7 x8 x9 : AV) (σ : Store) : Tr R :=
  neOK (nilEq nilF) x9 .nilf fun x114 =>
  ifK x114 (
  dynK X0 run x9 [x0, x1, x8] σ fun x120 σ1 =>
  extK x120 0 fun x121 =>
  extK x120 1 fun x122 =>
  extK x120 2 fun x123 =>
  extK x120 3 fun x124 =>
  ifK x124 (
  calK run 73 [x0, x122] σ1 fun x128 σ2 =>
  tasK (some .nilp) 128 true x121 fun x131 =>
  extK x131 0 fun x132 =>
  extK x131 1 fun x133 =>
  ifK x133 (
  .fail) (
  c53_12 run fu s2 x0 x1 x5 x6 x7 x121 x123 σ2)) (
  c53_10 run fu s2 x0 x1 x5 x6 x7 x8 σ1)) (
  c53_10 run fu s2 x0 x1 x5 x6 x7 x8 σ)

theorem eq53_9 (run : RunT) (fu : Nat) (s2 : W6) (x0 x1 x5 x6 x7 x8 x9 : AV) (σ : Store) : codeK X0 run (.seq (.seq .leaf (.cond (.seq .leaf (.seq .leaf (.cond (.seq .leaf (.seq (.seq .leaf (.seq .leaf (.cond (.sub deadK) .leaf))) (.sub (fun fr σ => c53_12 run fu s2 (G fr 0) (G fr 1) (G fr 5) (G fr 6) (G fr 7) (G fr 10) (G fr 12) σ)))) .leaf))) .leaf)) (.sub (fun fr σ => c53_10 run fu s2 (G fr 0) (G fr 1) (G fr 5) (G fr 6) (G fr 7) (G fr 8) σ))) (subC [true, true, true, true, true, true, true, true, true, false, false, false, true, false, true, true] b53) (frS 0 335 [(0, x0), (1, x1), (5, x5), (6, x6), (7, x7), (8, x8), (9, x9)]) σ (blockK 1 (thenK (fun fr σ => s2 (G fr 0) (G fr 1) (G fr 5) (G fr 6) (G fr 7) (G fr 8) σ) failK)) = c53_9 run fu s2 x0 x1 x5 x6 x7 x8 x9 σ := by kernel_rfl

theorem ok53_9 {run : RunT} (hrun : RunOK X0 run) (fu : Nat) (s2 : W6) : ∀ fr σ, KOK X0 335 (subC [true, true, true, true, true, true, true, true, true, false, false, false, true, false, true, true] b53) fr σ ((fun fr σ => c53_9 run fu s2 (G fr 0) (G fr 1) (G fr 5) (G fr 6) (G fr 7) (G fr 8) (G fr 9) σ) fr σ) (blockK 1 (thenK (fun fr σ => s2 (G fr 0) (G fr 1) (G fr 5) (G fr 6) (G fr 7) (G fr 8) σ) failK)) := fun fr σ =>
  KOK.piece env0 hrun [0, 1, 5, 6, 7, 8, 9] (eq53_9 run fu s2 (G fr 0) (G fr 1) (G fr 5) (G fr 6) (G fr 7) (G fr 8) (G fr 9) σ) ⟨⟨trivial, ⟨⟨trivial, ⟨trivial, ⟨⟨trivial, ⟨⟨trivial, ⟨trivial, ⟨KOK.dead, trivial⟩⟩⟩, (ok53_12 hrun fu s2)⟩⟩, trivial⟩⟩⟩, trivial⟩⟩, (ok53_10 hrun fu s2)⟩

noncomputable def c53_14 (run : RunT) (fu : Nat) (s2 : W6) (x0 x1 x5 x6 x7 x8 x9 x39 x81 : AV) (σ : Store) : Tr R :=
  ifK x81 (
  .fail) (
  cmpK .eql x39 (.int .u8 126) fun x92 =>
  ifK x92 (
  .fail) (
  cmpK .eql x39 (.int .u8 10) fun x101 =>
  ifK x101 (
  .fail) (
  cmpK .eql x39 (.int .u8 38) fun x103 =>
  ifK x103 (
  .fail) (
  cmpK .eql x39 (.int .u8 58) fun x105 =>
  ifK x105 (
  .fail) (
  c53_9 run fu s2 x0 x1 x5 x6 x7 x8 x9 σ)))))

theorem eq53_14 (run : RunT) (fu : Nat) (s2 : W6) (x0 x1 x5 x6 x7 x8 x9 x39 x81 : AV) (σ : Store) : codeK X0 run (.cond (.sub deadK) (.seq .leaf (.cond (.sub deadK) (.seq .leaf (.cond (.sub deadK) (.seq .leaf (.cond (.sub deadK) (.seq .leaf (.cond (.sub deadK) .leaf))))))))) (subC [true, true, true, true, true, true, true, true, true, false, false, false, true, false, true, false, true, false, true, true, true, true, true, true, true, true, true, true, true, true, true, true, true, true, true] b53) (frS 0 335 [(0, x0), (1, x1), (5, x5), (6, x6), (7, x7), (8, x8), (9, x9), (39, x39), (81, x81)]) σ (blockK 2 (thenK (fun fr σ => c53_9 run fu s2 (G fr 0) (G fr 1) (G fr 5) (G fr 6) (G fr 7) (G fr 8) (G fr 9) σ) (blockK 1 (thenK (fun fr σ => s2 (G fr 0) (G fr 1) (G fr 5) (G fr 6) (G fr 7) (G fr 8) σ) failK)))) = c53_14 run fu s2 x0 x1 x5 x6 x7 x8 x9 x39 x81 σ := by kernel_rfl

theorem ok53_14 {run : RunT} (hrun : RunOK X0 run) (fu : Nat) (s2 : W6) : ∀ fr σ, KOK X0 335 (subC [true, true, true, true, true, true, true, true, true, false, false, false, true, false, true, false, true, false, true, true, true, true, true, true, true, true, true, true, true, true, true, true, true, true, true] b53) fr σ ((fun fr σ => c53_14 run fu s2 (G fr 0) (G fr 1) (G fr 5) (G fr 6) (G fr 7) (G fr 8) (G fr 9) (G fr 39) (G fr 81) σ) fr σ) (blockK 2 (thenK (fun fr σ => c53_9 run fu s2 (G fr 0) (G fr 1) (G fr 5) (G fr 6) (G fr 7) (G fr 8) (G fr 9) σ) (blockK 1 (thenK (fun fr σ => s2 (G fr 0) (G fr 1) (G fr 5) (G fr 6) (G fr 7) (G fr 8) σ) failK)))) := fun fr σ =>
  KOK.piece env0 hrun [0, 1, 5, 6, 7, 8, 9, 39, 81] (eq53_14 run fu s2 (G fr 0) (G fr 1) (G fr 5) (G fr 6) (G fr 7) (G fr 8) (G fr 9) (G fr 39) (G fr 81) σ) ⟨KOK.dead, ⟨trivial, ⟨KOK.dead, ⟨trivial, ⟨KOK.dead, ⟨trivial, ⟨KOK.dead, ⟨trivial, ⟨KOK.dead, trivial⟩⟩⟩⟩⟩⟩⟩⟩⟩

noncomputable def c53_13 (run : RunT) (fu : Nat) (s2 : W6) (x0 x1 x5 x6 x7 x8 x9 x39 x60 : AV) (σ : Store) : Tr R :=
  ifK x60 (
  .fail) (
  cmpK .eql x39 (.int .u8 46) fun x64 =>
  ifK x64 (
  nchkK x0 fun x66 =>
  addrK x66 0 fun x67 =>
  ld1K σ x67 fun x68 =>
  nchkK x68 fun x69 =>
  addrK x69 7 fun x70 =>
  ld1K σ x70 fun x71 =>
  ifK x71 (
  c53_9 run fu s2 x0 x1 x5 x6 x7 x8 (.fn (.func 68) [] []) σ) (
  .fail)) (
  cmpK .eql x39 (.int .u8 45) fun x73 =>
  ifK x73 (
  .fail) (
  cmpK .eql x39 (.int .u8 34) fun x82 =>
  ifK x82 (
  .fail) (
  cmpK .eql x39 (.int .u8 39) fun x83 =>
  c53_14 run fu s2 x0 x1 x5 x6 x7 x8 x9 x39 x83 σ))))

theorem eq53_13 (run : RunT) (fu : Nat) (s2 : W6) (x0 x1 x5 x6 x7 x8 x9 x39 x60 : AV) (σ : Store) : codeK X0 run (.cond (.sub deadK) (.seq .leaf (.cond (.seq .leaf (.cond .leaf (.sub deadK))) (.seq .leaf (.cond (.sub deadK) (.seq (.seq .leaf (.cond (.sub deadK) .leaf)) (.sub (fun fr σ => c53_14 run fu s2 (G fr 0) (G fr 1) (G fr 5) (G fr 6) (G fr 7) (G fr 8) (G fr 9) (G fr 39) (G fr 81) σ)))))))) (subC [true, true, true, true, true, true, true, true, true, false, false, false, true, false, true, false, true, false, true, true, true, true, true, true, true, true, true, true, true] b53) (frS 0 335 [(0, x0), (1, x1), (5, x5), (6, x6), (7, x7), (8, x8), (9, x9), (39, x39), (60, x60)]) σ (blockK 2 (thenK (fun fr σ => c53_9 run fu s2 (G fr 0) (G fr 1) (G fr 5) (G fr 6) (G fr 7) (G fr 8) (G fr 9) σ) (blockK 1 (thenK (fun fr σ => s2 (G fr 0) (G fr 1) (G fr 5) (G fr 6) (G fr 7) (G fr 8) σ) failK)))) = c53_13 run fu s2 x0 x1 x5 x6 x7 x8 x9 x39 x60 σ := by kernel_rfl

theorem ok53_13 {run : RunT} (hrun : RunOK X0 run) (fu : Nat) (s2 : W6) : ∀ fr σ, KOK X0 335 (subC [true, true, true, true, true, true, true, true, true, false, false, false, true, false, true, false, true, false, true, true, true, true, true, true, true, true, true, true, true] b53) fr σ ((fun fr σ => c53_13 run fu s2 (G fr 0) (G fr 1) (G fr 5) (G fr 6) (G fr 7) (G fr 8) (G fr 9) (G fr 39) (G fr 60) σ) fr σ) (blockK 2 (thenK (fun fr σ => c53_9 run fu s2 (G fr 0) (G fr 1) (G fr 5) (G fr 6) (G fr 7) (G fr 8) (G fr 9) σ) (blockK 1 (thenK (fun fr σ => s2 (G fr 0) (G fr 1) (G fr 5) (G fr 6) (G fr 7) (G fr 8) σ) failK)))) := fun fr σ =>
  KOK.piece env0 hrun [0, 1, 5, 6, 7, 8, 9, 39, 60] (eq53_13 run fu s2 (G fr 0) (G fr 1) (G fr 5) (G fr 6) (G fr 7) (G fr 8) (G fr 9) (G fr 39) (G fr 60) σ) ⟨KOK.dead, ⟨trivial, ⟨⟨trivial, ⟨trivial, KOK.dead⟩⟩, ⟨trivial, ⟨KOK.dead, ⟨⟨trivial, ⟨KOK.dead, trivial⟩⟩, (ok53_14 hrun fu s2)⟩⟩⟩⟩⟩⟩

noncomputable def c53_2x (run : RunT) (fu : Nat) (s2 : W6) (x0 x1 x5 x6 x7 x8 : AV) (σ : Store) : Tr R :=
  lenSK x1 fun x35 =>
  cmpK .lss x8 x35 fun x36 =>
  ifK x36 (
  idxSK x1 x8 fun x39 =>
  cmpK .eql x39 (.int .u8 92) fun x41 =>
  ifK x41 (
  .fail) (
  cmpK .eql x39 (.int .u8 96) fun x43 =>
  ifK x43 (
  .fail) (
  cmpK .eql x39 (.int .u8 60) fun x55 =>
  ifK x55 (
  .fail) (
  cmpK .eql x39 (.int .u8 91) fun x57 =>
  ifK x57 (
  .fail) (
  cmpK .eql x39 (.int .u8 33) fun x59 =>
  ifK x59 (
  .fail) (
  cmpK .eql x39 (.int .u8 95) fun x61 =>
  ifK x61 (
  .fail) (
  cmpK .eql x39 (.int .u8 42) fun x62 =>
  c53_13 run fu s2 x0 x1 x5 x6 x7 x8 .nilf x39 x62 σ))))))) (
  .fail)

theorem eq53_2x (run : RunT) (fu : Nat) (s2 : W6) (x0 x1 x5 x6 x7 x8 : AV) (σ : Store) : codeK X0 run (.seq (.seq .leaf (.cond .leaf .leaf)) (.block (.seq .leaf (.seq (.seq .leaf (.block (.seq .leaf (.cond (.sub deadK) (.seq .leaf (.cond (.sub deadK) (.seq .leaf (.cond (.sub deadK) (.seq .leaf (.cond (.sub deadK) (.seq .leaf (.cond (.sub deadK) (.seq (.seq .leaf (.cond (.sub deadK) .leaf)) (.sub (fun fr σ => c53_13 run fu s2 (G fr 0) (G fr 1) (G fr 5) (G fr 6) (G fr 7) (G fr 8) (G fr 9) (G fr 39) (G fr 60) σ))))))))))))))) (.sub (fun fr σ => c53_9 run fu s2 (G fr 0) (G fr 1) (G fr 5) (G fr 6) (G fr 7) (G fr 8) (G fr 9) σ)))))) (subC [true, true, true, true, true, true, true, true, true, false, false, false] b53) (frS 0 335 [(0, x0), (1, x1), (5, x5), (6, x6), (7, x7), (8, x8)]) σ (thenK (fun fr σ => s2 (G fr 0) (G fr 1) (G fr 5) (G fr 6) (G fr 7) (G fr 8) σ) failK) = c53_2x run fu s2 x0 x1 x5 x6 x7 x8 σ := by kernel_rfl

theorem owed53_2x {run : RunT} (hrun : RunOK X0 run) (fu : Nat) (s2 : W6) : Owes X0 run 335 (.seq (.seq .leaf (.cond .leaf .leaf)) (.block (.seq .leaf (.seq (.seq .leaf (.block (.seq .leaf (.cond (.sub deadK) (.seq .leaf (.cond (.sub deadK) (.seq .leaf (.cond (.sub deadK) (.seq .leaf (.cond (.sub deadK) (.seq .leaf (.cond (.sub deadK) (.seq (.seq .leaf (.cond (.sub deadK) .leaf)) (.sub (fun fr σ => c53_13 run fu s2 (G fr 0) (G fr 1) (G fr 5) (G fr 6) (G fr 7) (G fr 8) (G fr 9) (G fr 39) (G fr 60) σ))))))))))))))) (.sub (fun fr σ => c53_9 run fu s2 (G fr 0) (G fr 1) (G fr 5) (G fr 6) (G fr 7) (G fr 8) (G fr 9) σ)))))) (subC [true, true, true, true, true, true, true, true, true, false, false, false] b53) (thenK (fun fr σ => s2 (G fr 0) (G fr 1) (G fr 5) (G fr 6) (G fr 7) (G fr 8) σ) failK) :=
  ⟨⟨trivial, ⟨trivial, trivial⟩⟩, ⟨trivial, ⟨⟨trivial, ⟨trivial, ⟨KOK.dead, ⟨trivial, ⟨KOK.dead, ⟨trivial, ⟨KOK.dead, ⟨trivial, ⟨KOK.dead, ⟨trivial, ⟨KOK.dead, ⟨⟨trivial, ⟨KOK.dead, trivial⟩⟩, (ok53_13 hrun fu s2)⟩⟩⟩⟩⟩⟩⟩⟩⟩⟩⟩⟩, (ok53_9 hrun fu s2)⟩⟩⟩

noncomputable def c53_2s (run : RunT) (fu : Nat) : Nat → List AV → Store → Tr R :=
  sweepCN 0 9 126 (sweepNd (planBy 13 (planOf (some 0) 1 5 [] [] [] []) (planOf (some 0) 1 5 [108] [] [] [109])) (planGc (ndBy 13 planO (planN 109 10 150 126))) (fun t2 xs σ => c53_2b run fu (fun y0 y1 y5 y6 y7 y8 σ => t2 [y0, y1, y5, y6, y7, y8] σ) (xs.getD 0 .any) (xs.getD 1 .any) (xs.getD 2 .any) (xs.getD 3 .any) (xs.getD 4 .any) (xs.getD 5 .any) σ) (fun t2 xs σ => c53_2x run fu (fun y0 y1 y5 y6 y7 y8 σ => t2 [y0, y1, y5, y6, y7, y8] σ) (xs.getD 0 .any) (xs.getD 1 .any) (xs.getD 2 .any) (xs.getD 3 .any) (xs.getD 4 .any) (xs.getD 5 .any) σ))

theorem ok53_2s {run : RunT} (hrun : RunOK X0 run) (fu : Nat) : ∀ fr σ, KOK X0 335 (subC [true, true, true, true, true, true, true, true, true, false, false] b53) fr σ ((fun fr σ => c53_2s run fu fu [fr.getD 0 .any, fr.getD 1 .any, fr.getD 5 .any, fr.getD 6 .any, fr.getD 7 .any, fr.getD 8 .any] σ) fr σ) (blockK 0 (thenK (fun fr σ => c53_1 run fu (G fr 0) (G fr 1) σ) k53)) := by
  have h := KOK.sweepCN 0 9 126 (KOK.sweepForget (X := X0) (N := 335) (b := (subC [true, true, true, true, true, true, true, true, true, false, false, false] b53)) (k := (blockK 0 (thenK (fun fr σ => c53_1 run fu (G fr 0) (G fr 1) σ) k53))) (js := [0, 1, 5, 6, 7, 8]) (body := (fun t2 xs σ => c53_2b run fu (fun y0 y1 y5 y6 y7 y8 σ => t2 [y0, y1, y5, y6, y7, y8] σ) (xs.getD 0 .any) (xs.getD 1 .any) (xs.getD 2 .any) (xs.getD 3 .any) (xs.getD 4 .any) (xs.getD 5 .any) σ)) (bodyx := (fun t2 xs σ => c53_2x run fu (fun y0 y1 y5 y6 y7 y8 σ => t2 [y0, y1, y5, y6, y7, y8] σ) (xs.getD 0 .any) (xs.getD 1 .any) (xs.getD 2 .any) (xs.getD 3 .any) (xs.getD 4 .any) (xs.getD 5 .any) σ)) rfl (planBy 13 (planOf (some 0) 1 5 [] [] [] []) (planOf (some 0) 1 5 [108] [] [] [109])) (planGc (ndBy 13 planO (planN 109 10 150 126))) (fun t2 fr σ => KOK.piece env0 hrun [0, 1, 5, 6, 7, 8] (eq53_2 run fu (fun y0 y1 y5 y6 y7 y8 σ => t2 [y0, y1, y5, y6, y7, y8] σ) (G fr 0) (G fr 1) (G fr 5) (G fr 6) (G fr 7) (G fr 8) σ) (owed53_2 hrun fu (fun y0 y1 y5 y6 y7 y8 σ => t2 [y0, y1, y5, y6, y7, y8] σ))) (fun t2 fr σ => KOK.piece env0 hrun [0, 1, 5, 6, 7, 8] (eq53_2x run fu (fun y0 y1 y5 y6 y7 y8 σ => t2 [y0, y1, y5, y6, y7, y8] σ) (G fr 0) (G fr 1) (G fr 5) (G fr 6) (G fr 7) (G fr 8) σ) (owed53_2x hrun fu (fun y0 y1 y5 y6 y7 y8 σ => t2 [y0, y1, y5, y6, y7, y8] σ))))
  exact fun fr σ => h fu fr σ

noncomputable def c53 (run : RunT) (fu : Nat) (x0 x1 : AV) (σ : Store) : Tr R :=
  calK run 60 [x1] σ fun x22 σ1 =>
  nchkK x0 fun x25 =>
  addrK x25 7 fun x26 =>
  st1K σ1 x26 x22 fun _ σ2 =>
  nchkK x0 fun x28 =>
  addrK x28 9 fun x29 =>
  st1K σ2 x29 .nils fun _ σ3 =>
  nchkK x0 fun x31 =>
  addrK x31 8 fun x32 =>
  st1K σ3 x32 (.int .i64 0) fun _ σ4 =>
  c53_2s run fu fu [x0, x22, .nils, (.int .i64 0), (.bool false), (.int .i64 0)] σ4

theorem eq53 (run : RunT) (fu : Nat) (x0 x1 : AV) (σ : Store) : codeK X0 run (.seq .leaf (.seq .leaf (.seq .leaf (.seq .leaf (.seq .leaf (.seq .leaf (.seq .leaf (.seq .leaf (.seq .leaf (.seq (.block (.sub (fun fr σ => c53_2s run fu fu [fr.getD 0 .any, fr.getD 1 .any, fr.getD 5 .any, fr.getD 6 .any, fr.getD 7 .any, fr.getD 8 .any] σ))) (.sub (fun fr σ => c53_1 run fu (G fr 0) (G fr 1) σ)))))))))))) (subC [] b53) ([x0, x1] ++ padA (335 - 2)) σ k53 = c53 run fu x0 x1 σ := by kernel_rfl

theorem ok53 {run : RunT} (hrun : RunOK X0 run) (fu : Nat) (x0 x1 : AV) (σ : Store) : CallOK X0 53 [x0, x1] σ (c53 run fu x0 x1 σ) :=
  KOK.body (fn := Tryz.f53) (c := subC [] b53) (by kernel_rfl) (by kernel_rfl) (by show 2 ≤ 335; decide) (KOK.whole env0 hrun (eq53 run fu x0 x1 σ) ⟨trivial, ⟨trivial, ⟨trivial, ⟨trivial, ⟨trivial, ⟨trivial, ⟨trivial, ⟨trivial, ⟨trivial, ⟨(ok53_2s hrun fu), (ok53_1 hrun fu)⟩⟩⟩⟩⟩⟩⟩⟩⟩⟩)

-- (*pub-paratext/pub/rscmarkdown.line).isBlank

noncomputable def b56 : Code := match Tryz.f56.body with | some c => c | none => .skip

noncomputable def k56 : Kont R := retK Tryz.prog [.tmp 2]

noncomputable def c56 (run : RunT) (fu : Nat) (x0 : AV) (σ : Store) : Tr R :=
  nchkK x0 fun x4 =>
  addrK x4 3 fun x5 =>
  ld1K σ x5 fun x6 =>
  nchkK x0 fun x8 =>
  addrK x8 1 fun x9 =>
  ld1K σ x9 fun x10 =>
  sliceSK x6 (some x10) none fun x11 =>
  calK run 80 [x11] σ fun x12 σ1 =>
  eqSK x12 (.str []) fun x13 =>
  .ret (x13, σ1)

theorem eq56 (run : RunT) (fu : Nat) (x0 : AV) (σ : Store) : codeK X0 run (.seq .leaf (.seq .leaf .leaf)) (subC [] b56) ([x0] ++ padA (14 - 1)) σ k56 = c56 run fu x0 σ := by kernel_rfl

theorem ok56 {run : RunT} (hrun : RunOK X0 run) (fu : Nat) (x0 : AV) (σ : Store) : CallOK X0 56 [x0] σ (c56 run fu x0 σ) :=
  KOK.body (fn := Tryz.f56) (c := subC [] b56) (by kernel_rfl) (by kernel_rfl) (by show 1 ≤ 14; decide) (KOK.whole env0 hrun (eq56 run fu x0 σ) ⟨trivial, ⟨trivial, trivial⟩⟩)

-- pub-paratext/pub/rscmarkdown.news

noncomputable def b57 : Code := match Tryz.f57.body with | some c => c | none => .skip

noncomputable def k57 : Kont R := retK Tryz.prog [.tmp 0]

noncomputable def c57 (run : RunT) (fu : Nat) (σ : Store) : Tr R :=
  opt (fillK [.nilf, .nilf, .nilf, .nilf, .nilf, .nilf, .nilf, .nilf] [(0, 1, (.fn (.func 81) [] [])), (1, 1, (.fn (.func 82) [] [])), (2, 1, (.fn (.func 83) [] [])), (3, 1, (.fn (.func 84) [] [])), (4, 1, (.fn (.func 85) [] [])), (5, 1, (.fn (.func 86) [] [])), (6, 1, (.fn (.func 87) [] [])), (7, 1, (.fn (.func 88) [] []))]) fun cs => newSK σ 237 cs 8 1 fun x1 σ1 =>
  .ret (x1, σ1)

theorem eq57 (run : RunT) (fu : Nat) (σ : Store) : codeK X0 run (.seq .leaf (.seq .leaf .leaf)) (subC [] b57) ([] ++ padA (2 - 0)) σ k57 = c57 run fu σ := by kernel_rfl

theorem ok57 {run : RunT} (hrun : RunOK X0 run) (fu : Nat) (σ : Store) : CallOK X0 57 [] σ (c57 run fu σ) :=
  KOK.body (fn := Tryz.f57) (c := subC [] b57) (by kernel_rfl) (by kernel_rfl) (by show 0 ≤ 2; decide) (KOK.whole env0 hrun (eq57 run fu σ) ⟨trivial, ⟨trivial, trivial⟩⟩)

-- pub-paratext/pub/rscmarkdown.newPara

noncomputable def b58 : Code := match Tryz.f58.body with | some c => c | none => .skip

noncomputable def k58 : Kont R := retK Tryz.prog [.cell 4 100, .tmp 5]

noncomputable def c58_2 (run : RunT) (fu : Nat) (x4 x6 x8 : AV) (σ : Store) : Tr R :=
  nchkK x6 fun x166 =>
  addrK x166 0 fun x167 =>
  ld1K σ x167 fun x168 =>
  opt (fillK [(.str [])] [(0, 1, x8)]) fun cs => newSK σ 19 cs 1 1 fun x170 σ1 =>
  appK 9 1 16 σ1 x168 x170 fun x171 σ2 =>
  nchkK x6 fun x172 =>
  addrK x172 0 fun x173 =>
  st1K σ2 x173 x171 fun _ σ3 =>
  bldK [(.int .i64 0), (.int .i64 0), (.int .i64 0), (.str []), (.int .u8 0)] [] fun x174 =>
  stNK σ3 x4 5 x174 fun _ σ4 =>
  ldNK σ4 x4 5 fun v5 =>
  .ret (.tup [v5, (.bool true)], σ4)

theorem eq58_2 (run : RunT) (fu : Nat) (x4 x6 x8 : AV) (σ : Store) : codeK X0 run (.seq .leaf (.seq .leaf .leaf)) (subC [true, true, true, true, true, true, true] b58) (frS 0 175 [(4, x4), (6, x6), (8, x8)]) σ k58 = c58_2 run fu x4 x6 x8 σ := by kernel_rfl

theorem ok58_2 {run : RunT} (hrun : RunOK X0 run) (fu : Nat) : ∀ fr σ, KOK X0 175 (subC [true, true, true, true, true, true, true] b58) fr σ ((fun fr σ => c58_2 run fu (G fr 4) (G fr 6) (G fr 8) σ) fr σ) k58 := fun fr σ =>
  KOK.piece env0 hrun [4, 6, 8] (eq58_2 run fu (G fr 4) (G fr 6) (G fr 8) σ) ⟨trivial, ⟨trivial, trivial⟩⟩

noncomputable def c58_1 (run : RunT) (fu : Nat) (x0 x4 x6 x7 x8 : AV) (σ : Store) : Tr R :=
  nchkK x0 fun x52 =>
  addrK x52 0 fun x53 =>
  ld1K σ x53 fun x54 =>
  nchkK x54 fun x55 =>
  addrK x55 5 fun x56 =>
  ld1K σ x56 fun x57 =>
  grdK x57 true σ (fun f => f x6 σ) fun x59 σ1 =>
  grdK x57 true σ1 (fun f => neOK (nilEq nilP) x59 .nilp fun v => f v σ1) fun x60 σ2 =>
  pickK x57 x60 (.bool false) fun x61 =>
  grdK x61 true σ2 (fun f => f x7 σ2) fun x63 σ3 =>
  pickK x61 x63 (.bool false) fun x64 =>
  grdK x64 true σ3 (fun f => f x6 σ3) fun x66 σ4 =>
  grdK x64 true σ4 (fun f => nchkK x66 fun v => f v σ4) fun x67 σ5 =>
  grdK x64 true σ5 (fun f => addrK x67 0 fun v => f v σ5) fun x68 σ6 =>
  grdK x64 true σ6 (fun f => ld1K σ6 x68 fun v => f v σ6) fun x69 σ7 =>
  grdK x64 true σ7 (fun f => lenLK x69 fun v => f v σ7) fun x70 σ8 =>
  grdK x64 true σ8 (fun f => cmpK .gtr x70 (.int .i64 0) fun v => f v σ8) fun x71 σ9 =>
  pickK x64 x71 (.bool false) fun x72 =>
  grdK x72 true σ9 (fun f => f x6 σ9) fun x74 σ10 =>
  grdK x72 true σ10 (fun f => nchkK x74 fun v => f v σ10) fun x75 σ11 =>
  grdK x72 true σ11 (fun f => addrK x75 0 fun v => f v σ11) fun x76 σ12 =>
  grdK x72 true σ12 (fun f => ld1K σ12 x76 fun v => f v σ12) fun x77 σ13 =>
  grdK x72 true σ13 (fun f => f x6 σ13) fun x78 σ14 =>
  grdK x72 true σ14 (fun f => nchkK x78 fun v => f v σ14) fun x79 σ15 =>
  grdK x72 true σ15 (fun f => addrK x79 0 fun v => f v σ15) fun x80 σ16 =>
  grdK x72 true σ16 (fun f => ld1K σ16 x80 fun v => f v σ16) fun x81 σ17 =>
  grdK x72 true σ17 (fun f => lenLK x81 fun v => f v σ17) fun x82 σ18 =>
  grdK x72 true σ18 (fun f => subK x82 (.int .i64 1) fun v => f v σ18) fun x83 σ19 =>
  grdK x72 true σ19 (fun f => idxK 1 x77 x83 fun v => f v σ19) fun x84 σ20 =>
  grdK x72 true σ20 (fun f => ld1K σ20 x84 fun v => f v σ20) fun x85 σ21 =>
  grdK x72 true σ21 (fun f => f x8 σ21) fun x86 σ22 =>
  grdK x72 true σ22 (fun f => calK run 92 [x85, x86] σ22 f) fun x87 σ23 =>
  pickK x72 x87 (.bool false) fun x88 =>
  ifK x88 (
  .fail) (
  neOK (nilEq nilP) x6 .nilp fun x133 =>
  ifK x133 (
  .fail) (
  newK σ23 323 [.nils, .nilp] fun x159 σ24 =>
  calK run 49 [x0, (.iface 156 x159)] σ24 fun x163 σ25 =>
  c58_2 run fu x4 x159 x8 σ25))

theorem eq58_1 (run : RunT) (fu : Nat) (x0 x4 x6 x7 x8 : AV) (σ : Store) : codeK X0 run (.seq (.seq .leaf (.cond (.sub deadK) .leaf)) (.seq (.seq .leaf (.cond (.sub deadK) (.seq .leaf .leaf))) (.sub (fun fr σ => c58_2 run fu (G fr 4) (G fr 6) (G fr 8) σ)))) (subC [true, true, true, true, true] b58) (frS 0 175 [(0, x0), (4, x4), (6, x6), (7, x7), (8, x8)]) σ k58 = c58_1 run fu x0 x4 x6 x7 x8 σ := by kernel_rfl

theorem ok58_1 {run : RunT} (hrun : RunOK X0 run) (fu : Nat) : ∀ fr σ, KOK X0 175 (subC [true, true, true, true, true] b58) fr σ ((fun fr σ => c58_1 run fu (G fr 0) (G fr 4) (G fr 6) (G fr 7) (G fr 8) σ) fr σ) k58 := fun fr σ =>
  KOK.piece env0 hrun [0, 4, 6, 7, 8] (eq58_1 run fu (G fr 0) (G fr 4) (G fr 6) (G fr 7) (G fr 8) σ) ⟨⟨trivial, ⟨KOK.dead, trivial⟩⟩, ⟨⟨trivial, ⟨KOK.dead, ⟨trivial, trivial⟩⟩⟩, (ok58_2 hrun fu)⟩⟩

noncomputable def c58 (run : RunT) (fu : Nat) (x0 x1 : AV) (σ : Store) : Tr R :=
  boxK σ 201 x1 fun x3 σ1 =>
  newK σ1 201 [(.int .i64 0), (.int .i64 0), (.int .i64 0), (.str []), (.int .u8 0)] fun x4 σ2 =>
  calK run 89 [x0] σ2 fun x13 σ3 =>
  nchkK x0 fun x15 =>
  addrK x15 5 fun x16 =>
  ld1K σ3 x16 fun x17 =>
  nchkK x0 fun x19 =>
  addrK x19 4 fun x20 =>
  ld1K σ3 x20 fun x21 =>
  lenLK x21 fun x22 =>
  subK x22 (.int .i64 2) fun x23 =>
  cmpK .eql x17 x23 fun x24 =>
  calK run 90 [x3] σ3 fun x25 σ4 =>
  neOK (nilEq nilP) x13 .nilp fun x27 =>
  grdK x27 true σ4 (fun f => f x13 σ4) fun x29 σ5 =>
  grdK x27 true σ5 (fun f => nchkK x29 fun v => f v σ5) fun x30 σ6 =>
  grdK x27 true σ6 (fun f => addrK x30 1 fun v => f v σ6) fun x31 σ7 =>
  grdK x27 true σ7 (fun f => ld1K σ7 x31 fun v => f v σ7) fun x32 σ8 =>
  grdK x27 true σ8 (fun f => neOK (nilEq nilP) x32 .nilp fun v => f v σ8) fun x33 σ9 =>
  pickK x27 x33 (.bool false) fun x34 =>
  ifK x34 (
  .fail) (
  c58_1 run fu x0 x4 x13 x24 x25 σ9)

theorem eq58 (run : RunT) (fu : Nat) (x0 x1 : AV) (σ : Store) : codeK X0 run (.seq .leaf (.seq .leaf (.seq .leaf (.seq .leaf (.seq (.seq .leaf (.cond (.sub deadK) .leaf)) (.sub (fun fr σ => c58_1 run fu (G fr 0) (G fr 4) (G fr 6) (G fr 7) (G fr 8) σ))))))) (subC [] b58) ([x0, x1] ++ padA (175 - 2)) σ k58 = c58 run fu x0 x1 σ := by kernel_rfl

theorem ok58 {run : RunT} (hrun : RunOK X0 run) (fu : Nat) (x0 x1 : AV) (σ : Store) : CallOK X0 58 [x0, x1] σ (c58 run fu x0 x1 σ) :=
  KOK.body (fn := Tryz.f58) (c := subC [] b58) (by kernel_rfl) (by kernel_rfl) (by show 2 ≤ 175; decide) (KOK.whole env0 hrun (eq58 run fu x0 x1 σ) ⟨trivial, ⟨trivial, ⟨trivial, ⟨trivial, ⟨⟨trivial, ⟨KOK.dead, trivial⟩⟩, (ok58_1 hrun fu)⟩⟩⟩⟩⟩)

-- (*pub-paratext/pub/rscmarkdown.parseState).closeBlock

noncomputable def b59 : Code := match Tryz.f59.body with | some c => c | none => .skip

noncomputable def k59 : Kont R := retK Tryz.prog [.tmp 2]

noncomputable def c59_3 (run : RunT) (fu : Nat) (x4 : AV) (σ : Store) : Tr R :=
  .ret (x4, σ)

theorem eq59_3 (run : RunT) (fu : Nat) (x4 : AV) (σ : Store) : codeK X0 run (.seq .leaf .leaf) (subC [true, true, true, true, true, true, true] b59) (frS 0 118 [(4, x4)]) σ k59 = c59_3 run fu x4 σ := by kernel_rfl

theorem ok59_3 {run : RunT} (hrun : RunOK X0 run) (fu : Nat) : ∀ fr σ, KOK X0 118 (subC [true, true, true, true, true, true, true] b59) fr σ ((fun fr σ => c59_3 run fu (G fr 4) σ) fr σ) k59 := fun fr σ =>
  KOK.piece env0 hrun [4] (eq59_3 run fu (G fr 4) σ) ⟨trivial, trivial⟩

noncomputable def c59_2 (run : RunT) (fu : Nat) (x0 x4 : AV) (σ : Store) : Tr R :=
  nchkK x0 fun x73 =>
  addrK x73 4 fun x74 =>
  ld1K σ x74 fun x75 =>
  nchkK x0 fun x77 =>
  addrK x77 4 fun x78 =>
  ld1K σ x78 fun x79 =>
  lenLK x79 fun x80 =>
  subK x80 (.int .i64 1) fun x81 =>
  sliceLK Tryz.prog σ 83 x75 none (some x81) fun x82 =>
  nchkK x0 fun x83 =>
  addrK x83 4 fun x84 =>
  st1K σ x84 x82 fun _ σ1 =>
  nchkK x0 fun x86 =>
  addrK x86 4 fun x87 =>
  ld1K σ1 x87 fun x88 =>
  lenLK x88 fun x89 =>
  cmpK .gtr x89 (.int .i64 0) fun x90 =>
  ifK x90 (
  nchkK x0 fun x92 =>
  addrK x92 4 fun x93 =>
  ld1K σ1 x93 fun x94 =>
  nchkK x0 fun x96 =>
  addrK x96 4 fun x97 =>
  ld1K σ1 x97 fun x98 =>
  lenLK x98 fun x99 =>
  subK x99 (.int .i64 1) fun x100 =>
  idxK 4 x94 x100 fun x101 =>
  nchkK x101 fun x104 =>
  addrK x104 1 fun x105 =>
  ld1K σ1 x105 fun x106 =>
  opt (fillK [.nili] [(0, 1, x4)]) fun cs => newSK σ1 127 cs 1 1 fun x108 σ2 =>
  appK 63 1 16 σ2 x106 x108 fun x109 σ3 =>
  nchkK x101 fun x110 =>
  addrK x110 1 fun x111 =>
  st1K σ3 x111 x109 fun _ σ4 =>
  c59_3 run fu x4 σ4) (
  tasK (some .nilp) 48 false x4 fun x114 =>
  nchkK x0 fun x115 =>
  addrK x115 1 fun x116 =>
  st1K σ1 x116 x114 fun _ σ5 =>
  c59_3 run fu x4 σ5)

theorem eq59_2 (run : RunT) (fu : Nat) (x0 x4 : AV) (σ : Store) : codeK X0 run (.seq .leaf (.seq (.seq .leaf (.cond (.seq .leaf .leaf) .leaf)) (.sub (fun fr σ => c59_3 run fu (G fr 4) σ)))) (subC [true, true, true, true, true] b59) (frS 0 118 [(0, x0), (4, x4)]) σ k59 = c59_2 run fu x0 x4 σ := by kernel_rfl

theorem ok59_2 {run : RunT} (hrun : RunOK X0 run) (fu : Nat) : ∀ fr σ, KOK X0 118 (subC [true, true, true, true, true] b59) fr σ ((fun fr σ => c59_2 run fu (G fr 0) (G fr 4) σ) fr σ) k59 := fun fr σ =>
  KOK.piece env0 hrun [0, 4] (eq59_2 run fu (G fr 0) (G fr 4) σ) ⟨trivial, ⟨⟨trivial, ⟨⟨trivial, trivial⟩, trivial⟩⟩, (ok59_3 hrun fu)⟩⟩

noncomputable def c59_1 (run : RunT) (fu : Nat) (x0 x3 : AV) (σ : Store) : Tr R :=
  nchkK x3 fun x31 =>
  addrK x31 0 fun x32 =>
  ld1K σ x32 fun x33 =>
  invK X0 run x33 "pub-paratext/pub/rscmarkdown.build" [(.iface 110 x0)] σ fun x36 σ1 =>
  tasK (some .nilp) 107 true x36 fun x39 =>
  extK x39 0 fun x40 =>
  extK x39 1 fun x41 =>
  ifK x41 (
  .fail) (
  c59_2 run fu x0 x36 σ1)

theorem eq59_1 (run : RunT) (fu : Nat) (x0 x3 : AV) (σ : Store) : codeK X0 run (.seq .leaf (.seq (.seq .leaf (.seq .leaf (.cond (.sub deadK) .leaf))) (.sub (fun fr σ => c59_2 run fu (G fr 0) (G fr 4) σ)))) (subC [true, true, true] b59) (frS 0 118 [(0, x0), (3, x3)]) σ k59 = c59_1 run fu x0 x3 σ := by kernel_rfl

theorem ok59_1 {run : RunT} (hrun : RunOK X0 run) (fu : Nat) : ∀ fr σ, KOK X0 118 (subC [true, true, true] b59) fr σ ((fun fr σ => c59_1 run fu (G fr 0) (G fr 3) σ) fr σ) k59 := fun fr σ =>
  KOK.piece env0 hrun [0, 3] (eq59_1 run fu (G fr 0) (G fr 3) σ) ⟨trivial, ⟨⟨trivial, ⟨trivial, ⟨KOK.dead, trivial⟩⟩⟩, (ok59_2 hrun fu)⟩⟩

noncomputable def c59 (run : RunT) (fu : Nat) (x0 : AV) (σ : Store) : Tr R :=
  nchkK x0 fun x9 =>
  addrK x9 4 fun x10 =>
  ld1K σ x10 fun x11 =>
  nchkK x0 fun x13 =>
  addrK x13 4 fun x14 =>
  ld1K σ x14 fun x15 =>
  lenLK x15 fun x16 =>
  subK x16 (.int .i64 1) fun x17 =>
  idxK 4 x11 x17 fun x18 =>
  nchkK x18 fun x20 =>
  addrK x20 0 fun x21 =>
  ld1K σ x21 fun x22 =>
  eqOK (eqIfc Tryz.prog true) x22 .nili fun x23 =>
  ifK x23 (
  .fail) (
  c59_1 run fu x0 x18 σ)

theorem eq59 (run : RunT) (fu : Nat) (x0 : AV) (σ : Store) : codeK X0 run (.seq .leaf (.seq .leaf (.seq (.seq .leaf (.cond (.sub deadK) .leaf)) (.sub (fun fr σ => c59_1 run fu (G fr 0) (G fr 3) σ))))) (subC [] b59) ([x0] ++ padA (118 - 1)) σ k59 = c59 run fu x0 σ := by kernel_rfl

theorem ok59 {run : RunT} (hrun : RunOK X0 run) (fu : Nat) (x0 : AV) (σ : Store) : CallOK X0 59 [x0] σ (c59 run fu x0 σ) :=
  KOK.body (fn := Tryz.f59) (c := subC [] b59) (by kernel_rfl) (by kernel_rfl) (by show 1 ≤ 118; decide) (KOK.whole env0 hrun (eq59 run fu x0 σ) ⟨trivial, ⟨trivial, ⟨⟨trivial, ⟨KOK.dead, trivial⟩⟩, (ok59_1 hrun fu)⟩⟩⟩)

-- pub-paratext/pub/rscmarkdown.parseDot

noncomputable def b68 : Code := match Tryz.f68.body with | some c => c | none => .skip

noncomputable def k68 : Kont R := retK Tryz.prog [.tmp 6, .tmp 7, .tmp 8, .tmp 9]

noncomputable def c68 (run : RunT) (fu : Nat) (x0 x1 x2 : AV) (σ : Store) : Tr R :=
  addK x2 (.int .i64 2) fun x11 =>
  lenSK x1 fun x13 =>
  cmpK .lss x11 x13 fun x14 =>
  grdK x14 true σ (fun f => f x1 σ) fun x16 σ1 =>
  grdK x14 true σ1 (fun f => f x2 σ1) fun x17 σ2 =>
  grdK x14 true σ2 (fun f => addK x17 (.int .i64 1) fun v => f v σ2) fun x18 σ3 =>
  grdK x14 true σ3 (fun f => idxSK x16 x18 fun v => f v σ3) fun x19 σ4 =>
  grdK x14 true σ4 (fun f => cmpK .eql x19 (.int .u8 46) fun v => f v σ4) fun x20 σ5 =>
  pickK x14 x20 (.bool false) fun x21 =>
  grdK x21 true σ5 (fun f => f x1 σ5) fun x23 σ6 =>
  grdK x21 true σ6 (fun f => f x2 σ6) fun x24 σ7 =>
  grdK x21 true σ7 (fun f => addK x24 (.int .i64 2) fun v => f v σ7) fun x25 σ8 =>
  grdK x21 true σ8 (fun f => idxSK x23 x25 fun v => f v σ8) fun x26 σ9 =>
  grdK x21 true σ9 (fun f => cmpK .eql x26 (.int .u8 46) fun v => f v σ9) fun x27 σ10 =>
  pickK x21 x27 (.bool false) fun x28 =>
  ifK x28 (
  bldK [(.str [])] [(0, 1, (.str [226, 128, 166]))] fun x29 =>
  boxK σ10 263 x29 fun x30 σ11 =>
  addK x2 (.int .i64 3) fun x34 =>
  .ret (.tup [(.iface 150 x30), x2, x34, (.bool true)], σ11)) (
  .ret (.tup [.nili, (.int .i64 0), (.int .i64 0), (.bool false)], σ10))

theorem eq68 (run : RunT) (fu : Nat) (x0 x1 x2 : AV) (σ : Store) : codeK X0 run (.seq .leaf (.seq (.seq .leaf (.cond (.seq .leaf .leaf) .leaf)) (.seq .leaf .leaf))) (subC [] b68) ([x0, x1, x2] ++ padA (35 - 3)) σ k68 = c68 run fu x0 x1 x2 σ := by kernel_rfl

theorem ok68 {run : RunT} (hrun : RunOK X0 run) (fu : Nat) (x0 x1 x2 : AV) (σ : Store) : CallOK X0 68 [x0, x1, x2] σ (c68 run fu x0 x1 x2 σ) :=
  KOK.body (fn := Tryz.f68) (c := subC [] b68) (by kernel_rfl) (by kernel_rfl) (by show 3 ≤ 35; decide) (KOK.whole env0 hrun (eq68 run fu x0 x1 x2 σ) ⟨trivial, ⟨⟨trivial, ⟨⟨trivial, trivial⟩, trivial⟩⟩, ⟨trivial, trivial⟩⟩⟩)

-- (*pub-paratext/pub/rscmarkdown.parseState).emit

noncomputable def b73 : Code := match Tryz.f73.body with | some c => c | none => .skip

noncomputable def k73 : Kont R := retK Tryz.prog []

noncomputable def c73 (run : RunT) (fu : Nat) (x0 x1 : AV) (σ : Store) : Tr R :=
  nchkK x0 fun x5 =>
  addrK x5 8 fun x6 =>
  ld1K σ x6 fun x7 =>
  cmpK .lss x7 x1 fun x9 =>
  ifK x9 (
  nchkK x0 fun x12 =>
  addrK x12 9 fun x13 =>
  ld1K σ x13 fun x14 =>
  nchkK x0 fun x16 =>
  addrK x16 7 fun x17 =>
  ld1K σ x17 fun x18 =>
  nchkK x0 fun x20 =>
  addrK x20 8 fun x21 =>
  ld1K σ x21 fun x22 =>
  sliceSK x18 (some x22) (some x1) fun x24 =>
  bldK [(.str [])] [(0, 1, x24)] fun x25 =>
  boxK σ 263 x25 fun x26 σ1 =>
  opt (fillK [.nili] [(0, 1, (.iface 150 x26))]) fun cs => newSK σ1 253 cs 1 1 fun x28 σ2 =>
  appK 126 1 16 σ2 x14 x28 fun x29 σ3 =>
  nchkK x0 fun x30 =>
  addrK x30 9 fun x31 =>
  st1K σ3 x31 x29 fun _ σ4 =>
  ld1K σ1 x13 fun v5 =>
  must (AV.beq v5 x14) (
  ld1K σ2 x13 fun v6 =>
  must (AV.beq v6 x14) (
  nchkK x0 fun x34 =>
  addrK x34 8 fun x35 =>
  st1K σ4 x35 x1 fun _ σ7 =>
  .ret (.tup [], σ7)))) (
  .ret (.tup [], σ))

theorem eq73 (run : RunT) (fu : Nat) (x0 x1 : AV) (σ : Store) : codeK X0 run (.seq .leaf (.cond (.seq .leaf .leaf) .leaf)) (subC [] b73) ([x0, x1] ++ padA (36 - 2)) σ k73 = c73 run fu x0 x1 σ := by kernel_rfl

theorem ok73 {run : RunT} (hrun : RunOK X0 run) (fu : Nat) (x0 x1 : AV) (σ : Store) : CallOK X0 73 [x0, x1] σ (c73 run fu x0 x1 σ) :=
  KOK.body (fn := Tryz.f73) (c := subC [] b73) (by kernel_rfl) (by kernel_rfl) (by show 2 ≤ 36; decide) (KOK.whole env0 hrun (eq73 run fu x0 x1 σ) ⟨trivial, ⟨⟨trivial, trivial⟩, trivial⟩⟩)

-- (*pub-paratext/pub/rscmarkdown.parseState).skip

noncomputable def b74 : Code := match Tryz.f74.body with | some c => c | none => .skip

noncomputable def k74 : Kont R := retK Tryz.prog []

noncomputable def c74 (run : RunT) (fu : Nat) (x0 x1 : AV) (σ : Store) : Tr R :=
  nchkK x0 fun x6 =>
  addrK x6 8 fun x7 =>
  st1K σ x7 x1 fun _ σ1 =>
  .ret (.tup [], σ1)

theorem eq74 (run : RunT) (fu : Nat) (x0 x1 : AV) (σ : Store) : codeK X0 run .leaf (subC [] b74) ([x0, x1] ++ padA (8 - 2)) σ k74 = c74 run fu x0 x1 σ := by kernel_rfl

theorem ok74 {run : RunT} (hrun : RunOK X0 run) (fu : Nat) (x0 x1 : AV) (σ : Store) : CallOK X0 74 [x0, x1] σ (c74 run fu x0 x1 σ) :=
  KOK.body (fn := Tryz.f74) (c := subC [] b74) (by kernel_rfl) (by kernel_rfl) (by show 2 ≤ 8; decide) (KOK.whole env0 hrun (eq74 run fu x0 x1 σ) trivial)

-- (*pub-paratext/pub/rscmarkdown.parseState).emph

noncomputable def b77 : Code := match Tryz.f77.body with | some c => c | none => .skip

noncomputable def k77 : Kont R := retK Tryz.prog [.tmp 6]

noncomputable def c77_1 (run : RunT) (fu : Nat) (x4 : AV) (σ : Store) : Tr R :=
  ld1K σ x4 fun x435 =>
  .ret (x435, σ)

theorem eq77_1 (run : RunT) (fu : Nat) (x4 : AV) (σ : Store) : codeK X0 run (.seq .leaf .leaf) (subC [true, false, true, true, true, true, true] b77) (frS 0 436 [(4, x4)]) σ (noGotoK k77) = c77_1 run fu x4 σ := by kernel_rfl

theorem ok77_1 {run : RunT} (hrun : RunOK X0 run) (fu : Nat) : ∀ fr σ, KOK X0 436 (subC [true, false, true, true, true, true, true] b77) fr σ ((fun fr σ => c77_1 run fu (G fr 4) σ) fr σ) (noGotoK k77) := fun fr σ =>
  KOK.piece env0 hrun [4] (eq77_1 run fu (G fr 4) σ) ⟨trivial, trivial⟩

noncomputable def c77_3 (run : RunT) (fu : Nat) (s2 : W6) (x2 x4 x7 x8 x9 x10 : AV) (σ : Store) : Tr R :=
  addK x10 (.int .i64 1) fun x28 =>
  s2 x2 x4 x7 x8 x9 x28 σ

theorem eq77_3 (run : RunT) (fu : Nat) (s2 : W6) (x2 x4 x7 x8 x9 x10 : AV) (σ : Store) : codeK X0 run .leaf (subC [true, false, true, true, true, true, false, true, false, false, true, true] b77) (frS 0 436 [(2, x2), (4, x4), (7, x7), (8, x8), (9, x9), (10, x10)]) σ (thenK (fun fr σ => s2 (G fr 2) (G fr 4) (G fr 7) (G fr 8) (G fr 9) (G fr 10) σ) (blockK 0 (thenK (fun fr σ => c77_1 run fu (G fr 4) σ) (noGotoK k77)))) = c77_3 run fu s2 x2 x4 x7 x8 x9 x10 σ := by kernel_rfl

theorem ok77_3 {run : RunT} (hrun : RunOK X0 run) (fu : Nat) (s2 : W6) : ∀ fr σ, KOK X0 436 (subC [true, false, true, true, true, true, false, true, false, false, true, true] b77) fr σ ((fun fr σ => c77_3 run fu s2 (G fr 2) (G fr 4) (G fr 7) (G fr 8) (G fr 9) (G fr 10) σ) fr σ) (thenK (fun fr σ => s2 (G fr 2) (G fr 4) (G fr 7) (G fr 8) (G fr 9) (G fr 10) σ) (blockK 0 (thenK (fun fr σ => c77_1 run fu (G fr 4) σ) (noGotoK k77)))) := fun fr σ =>
  KOK.piece env0 hrun [2, 4, 7, 8, 9, 10] (eq77_3 run fu s2 (G fr 2) (G fr 4) (G fr 7) (G fr 8) (G fr 9) (G fr 10) σ) trivial

noncomputable def c77_2b (run : RunT) (fu : Nat) (s2 : W6) (x2 x4 x7 x8 x9 x10 : AV) (σ : Store) : Tr R :=
  lenLK x2 fun x25 =>
  cmpK .lss x10 x25 fun x26 =>
  ifK x26 (
  idxK 1 x2 x10 fun x32 =>
  ld1K σ x32 fun x33 =>
  tasK (some .nilp) 128 true x33 fun x34 =>
  extK x34 0 fun x35 =>
  extK x34 1 fun x36 =>
  ifK x36 (
  .fail) (
  idxK 1 x2 x10 fun x48 =>
  ld1K σ x48 fun x49 =>
  tasK (some .nilp) 185 true x49 fun x50 =>
  extK x50 0 fun x51 =>
  extK x50 1 fun x52 =>
  notK x52 fun x54 =>
  ifK x54 (
  ld1K σ x4 fun x55 =>
  idxK 1 x2 x10 fun x58 =>
  ld1K σ x58 fun x59 =>
  opt (fillK [.nili] [(0, 1, x59)]) fun cs => newSK σ 253 cs 1 1 fun x60 σ1 =>
  appK 126 1 16 σ1 x55 x60 fun x61 σ2 =>
  st1K σ2 x4 x61 fun _ σ3 =>
  ld1K σ1 x4 fun v4 =>
  must (AV.beq v4 x55) (
  c77_3 run fu s2 x2 x4 x7 x8 x9 x10 σ3)) (
  .fail))) (
  c77_1 run fu x4 σ)

noncomputable def c77_2 (run : RunT) (fu : Nat) : Nat → W6
  | 0 => fun _ _ _ _ _ _ _ => .fail
  | m + 1 => c77_2b run fu (c77_2 run fu m)

theorem eq77_2 (run : RunT) (fu : Nat) (s2 : W6) (x2 x4 x7 x8 x9 x10 : AV) (σ : Store) : codeK X0 run (.seq (.seq .leaf (.cond .leaf .leaf)) (.seq (.block (.seq (.seq .leaf (.seq .leaf (.cond (.sub deadK) .leaf))) (.seq .leaf (.seq (.seq .leaf (.cond (.seq .leaf .leaf) (.sub deadK))) .leaf)))) (.sub (fun fr σ => c77_3 run fu s2 (G fr 2) (G fr 4) (G fr 7) (G fr 8) (G fr 9) (G fr 10) σ)))) (subC [true, false, true, true, true, true, false, true, false, false] b77) (frS 0 436 [(2, x2), (4, x4), (7, x7), (8, x8), (9, x9), (10, x10)]) σ (thenK (fun fr σ => s2 (G fr 2) (G fr 4) (G fr 7) (G fr 8) (G fr 9) (G fr 10) σ) (blockK 0 (thenK (fun fr σ => c77_1 run fu (G fr 4) σ) (noGotoK k77)))) = c77_2b run fu s2 x2 x4 x7 x8 x9 x10 σ := by kernel_rfl

theorem owed77_2 {run : RunT} (hrun : RunOK X0 run) (fu : Nat) (s2 : W6) : Owes X0 run 436 (.seq (.seq .leaf (.cond .leaf .leaf)) (.seq (.block (.seq (.seq .leaf (.seq .leaf (.cond (.sub deadK) .leaf))) (.seq .leaf (.seq (.seq .leaf (.cond (.seq .leaf .leaf) (.sub deadK))) .leaf)))) (.sub (fun fr σ => c77_3 run fu s2 (G fr 2) (G fr 4) (G fr 7) (G fr 8) (G fr 9) (G fr 10) σ)))) (subC [true, false, true, true, true, true, false, true, false, false] b77) (thenK (fun fr σ => s2 (G fr 2) (G fr 4) (G fr 7) (G fr 8) (G fr 9) (G fr 10) σ) (blockK 0 (thenK (fun fr σ => c77_1 run fu (G fr 4) σ) (noGotoK k77)))) :=
  ⟨⟨trivial, ⟨trivial, trivial⟩⟩, ⟨⟨⟨trivial, ⟨trivial, ⟨KOK.dead, trivial⟩⟩⟩, ⟨trivial, ⟨⟨trivial, ⟨⟨trivial, trivial⟩, KOK.dead⟩⟩, trivial⟩⟩⟩, (ok77_3 hrun fu s2)⟩⟩

theorem ok77_2 {run : RunT} (hrun : RunOK X0 run) (fu : Nat) : ∀ fr σ, KOK X0 436 (subC [true, false, true, true, true, true, false, true, false] b77) fr σ ((fun fr σ => c77_2 run fu fu (G fr 2) (G fr 4) (G fr 7) (G fr 8) (G fr 9) (G fr 10) σ) fr σ) (blockK 0 (thenK (fun fr σ => c77_1 run fu (G fr 4) σ) (noGotoK k77))) := by
  have h := KOK.loop (X := X0) (N := 436) (b := (subC [true, false, true, true, true, true, false, true, false, false] b77)) (k := (blockK 0 (thenK (fun fr σ => c77_1 run fu (G fr 4) σ) (noGotoK k77)))) (u := fun m fr σ => c77_2 run fu m (G fr 2) (G fr 4) (G fr 7) (G fr 8) (G fr 9) (G fr 10) σ) (fun _ _ => rfl) (fun m fr σ => KOK.piece env0 hrun [2, 4, 7, 8, 9, 10] (eq77_2 run fu (c77_2 run fu m) (G fr 2) (G fr 4) (G fr 7) (G fr 8) (G fr 9) (G fr 10) σ) (owed77_2 hrun fu (c77_2 run fu m)))
  exact fun fr σ => h fu fr σ

noncomputable def c77_4 (run : RunT) (fu : Nat) (s2 : W6) (x2 x4 x7 x8 x9 x10 : AV) (σ : Store) : Tr R :=
  addK x10 (.int .i64 1) fun x28 =>
  s2 x2 x4 x7 x8 x9 x28 σ

theorem eq77_4 (run : RunT) (fu : Nat) (s2 : W6) (x2 x4 x7 x8 x9 x10 : AV) (σ : Store) : codeK X0 run .leaf (subC [true, false, true, true, true, true, false, true, false, false, true, true] b77) (frS 0 436 [(2, x2), (4, x4), (7, x7), (8, x8), (9, x9), (10, x10)]) σ (thenK (fun fr σ => s2 (G fr 2) (G fr 4) (G fr 7) (G fr 8) (G fr 9) (G fr 10) σ) failK) = c77_4 run fu s2 x2 x4 x7 x8 x9 x10 σ := by kernel_rfl

theorem ok77_4 {run : RunT} (hrun : RunOK X0 run) (fu : Nat) (s2 : W6) : ∀ fr σ, KOK X0 436 (subC [true, false, true, true, true, true, false, true, false, false, true, true] b77) fr σ ((fun fr σ => c77_4 run fu s2 (G fr 2) (G fr 4) (G fr 7) (G fr 8) (G fr 9) (G fr 10) σ) fr σ) (thenK (fun fr σ => s2 (G fr 2) (G fr 4) (G fr 7) (G fr 8) (G fr 9) (G fr 10) σ) failK) := fun fr σ =>
  KOK.piece env0 hrun [2, 4, 7, 8, 9, 10] (eq77_4 run fu s2 (G fr 2) (G fr 4) (G fr 7) (G fr 8) (G fr 9) (G fr 10) σ) trivial

noncomputable def c77_2x (run : RunT) (fu : Nat) (s2 : W6) (x2 x4 x7 x8 x9 x10 : AV) (σ : Store) : Tr R :=
  lenLK x2 fun x25 =>
  cmpK .lss x10 x25 fun x26 =>
  ifK x26 (
  idxK 1 x2 x10 fun x32 =>
  ld1K σ x32 fun x33 =>
  tasK (some .nilp) 128 true x33 fun x34 =>
  extK x34 0 fun x35 =>
  extK x34 1 fun x36 =>
  ifK x36 (
  .fail) (
  idxK 1 x2 x10 fun x48 =>
  ld1K σ x48 fun x49 =>
  tasK (some .nilp) 185 true x49 fun x50 =>
  extK x50 0 fun x51 =>
  extK x50 1 fun x52 =>
  notK x52 fun x54 =>
  ifK x54 (
  ld1K σ x4 fun x55 =>
  idxK 1 x2 x10 fun x58 =>
  ld1K σ x58 fun x59 =>
  opt (fillK [.nili] [(0, 1, x59)]) fun cs => newSK σ 253 cs 1 1 fun x60 σ1 =>
  appK 126 1 16 σ1 x55 x60 fun x61 σ2 =>
  st1K σ2 x4 x61 fun _ σ3 =>
  ld1K σ1 x4 fun v4 =>
  must (AV.beq v4 x55) (
  c77_4 run fu s2 x2 x4 x7 x8 x9 x10 σ3)) (
  .fail))) (
  .fail)

theorem eq77_2x (run : RunT) (fu : Nat) (s2 : W6) (x2 x4 x7 x8 x9 x10 : AV) (σ : Store) : codeK X0 run (.seq (.seq .leaf (.cond .leaf .leaf)) (.seq (.block (.seq (.seq .leaf (.seq .leaf (.cond (.sub deadK) .leaf))) (.seq .leaf (.seq (.seq .leaf (.cond (.seq .leaf .leaf) (.sub deadK))) .leaf)))) (.sub (fun fr σ => c77_4 run fu s2 (G fr 2) (G fr 4) (G fr 7) (G fr 8) (G fr 9) (G fr 10) σ)))) (subC [true, false, true, true, true, true, false, true, false, false] b77) (frS 0 436 [(2, x2), (4, x4), (7, x7), (8, x8), (9, x9), (10, x10)]) σ (thenK (fun fr σ => s2 (G fr 2) (G fr 4) (G fr 7) (G fr 8) (G fr 9) (G fr 10) σ) failK) = c77_2x run fu s2 x2 x4 x7 x8 x9 x10 σ := by kernel_rfl

theorem owed77_2x {run : RunT} (hrun : RunOK X0 run) (fu : Nat) (s2 : W6) : Owes X0 run 436 (.seq (.seq .leaf (.cond .leaf .leaf)) (.seq (.block (.seq (.seq .leaf (.seq .leaf (.cond (.sub deadK) .leaf))) (.seq .leaf (.seq (.seq .leaf (.cond (.seq .leaf .leaf) (.sub deadK))) .leaf)))) (.sub (fun fr σ => c77_4 run fu s2 (G fr 2) (G fr 4) (G fr 7) (G fr 8) (G fr 9) (G fr 10) σ)))) (subC [true, false, true, true, true, true, false, true, false, false] b77) (thenK (fun fr σ => s2 (G fr 2) (G fr 4) (G fr 7) (G fr 8) (G fr 9) (G fr 10) σ) failK) :=
  ⟨⟨trivial, ⟨trivial, trivial⟩⟩, ⟨⟨⟨trivial, ⟨trivial, ⟨KOK.dead, trivial⟩⟩⟩, ⟨trivial, ⟨⟨trivial, ⟨⟨trivial, trivial⟩, KOK.dead⟩⟩, trivial⟩⟩⟩, (ok77_4 hrun fu s2)⟩⟩

noncomputable def c77_2s (run : RunT) (fu : Nat) : Nat → List AV → Store → Tr R :=
  sweepNd (planRun 0 (some 1) 5 [] [100] [] []) (planWith 0 planO) (fun t2 xs σ => c77_2b run fu (fun y2 y4 y7 y8 y9 y10 σ => t2 [y2, y4, y7, y8, y9, y10] σ) (xs.getD 0 .any) (xs.getD 1 .any) (xs.getD 2 .any) (xs.getD 3 .any) (xs.getD 4 .any) (xs.getD 5 .any) σ) (fun t2 xs σ => c77_2x run fu (fun y2 y4 y7 y8 y9 y10 σ => t2 [y2, y4, y7, y8, y9, y10] σ) (xs.getD 0 .any) (xs.getD 1 .any) (xs.getD 2 .any) (xs.getD 3 .any) (xs.getD 4 .any) (xs.getD 5 .any) σ)

theorem ok77_2s {run : RunT} (hrun : RunOK X0 run) (fu : Nat) : ∀ fr σ, KOK X0 436 (subC [true, false, true, true, true, true, false, true, false] b77) fr σ ((fun fr σ => c77_2s run fu fu [fr.getD 2 .any, fr.getD 4 .any, fr.getD 7 .any, fr.getD 8 .any, fr.getD 9 .any, fr.getD 10 .any] σ) fr σ) (blockK 0 (thenK (fun fr σ => c77_1 run fu (G fr 4) σ) (noGotoK k77))) := by
  have h := KOK.sweepForget (X := X0) (N := 436) (b := (subC [true, false, true, true, true, true, false, true, false, false] b77)) (k := (blockK 0 (thenK (fun fr σ => c77_1 run fu (G fr 4) σ) (noGotoK k77)))) (js := [2, 4, 7, 8, 9, 10]) (body := (fun t2 xs σ => c77_2b run fu (fun y2 y4 y7 y8 y9 y10 σ => t2 [y2, y4, y7, y8, y9, y10] σ) (xs.getD 0 .any) (xs.getD 1 .any) (xs.getD 2 .any) (xs.getD 3 .any) (xs.getD 4 .any) (xs.getD 5 .any) σ)) (bodyx := (fun t2 xs σ => c77_2x run fu (fun y2 y4 y7 y8 y9 y10 σ => t2 [y2, y4, y7, y8, y9, y10] σ) (xs.getD 0 .any) (xs.getD 1 .any) (xs.getD 2 .any) (xs.getD 3 .any) (xs.getD 4 .any) (xs.getD 5 .any) σ)) rfl (planRun 0 (some 1) 5 [] [100] [] []) (planWith 0 planO) (fun t2 fr σ => KOK.piece env0 hrun [2, 4, 7, 8, 9, 10] (eq77_2 run fu (fun y2 y4 y7 y8 y9 y10 σ => t2 [y2, y4, y7, y8, y9, y10] σ) (G fr 2) (G fr 4) (G fr 7) (G fr 8) (G fr 9) (G fr 10) σ) (owed77_2 hrun fu (fun y2 y4 y7 y8 y9 y10 σ => t2 [y2, y4, y7, y8, y9, y10] σ))) (fun t2 fr σ => KOK.piece env0 hrun [2, 4, 7, 8, 9, 10] (eq77_2x run fu (fun y2 y4 y7 y8 y9 y10 σ => t2 [y2, y4, y7, y8, y9, y10] σ) (G fr 2) (G fr 4) (G fr 7) (G fr 8) (G fr 9) (G fr 10) σ) (owed77_2x hrun fu (fun y2 y4 y7 y8 y9 y10 σ => t2 [y2, y4, y7, y8, y9, y10] σ)))
  exact fun fr σ => h fu fr σ

noncomputable def c77 (run : RunT) (fu : Nat) (x0 x1 x2 : AV) (σ : Store) : Tr R :=
  boxK σ 169 x1 fun x4 σ1 =>
  newK σ1 411 [.nils, .nils, .nils, .nils, .nils] fun x7 σ2 =>
  c77_2s run fu fu [x2, x4, x7, (.fn (.func 115) [] []), (.fn (.func 116) [] [x7, x4]), (.int .i64 0)] σ2

theorem eq77 (run : RunT) (fu : Nat) (x0 x1 x2 : AV) (σ : Store) : codeK X0 run (.seq .leaf (.scope (.seq .leaf (.seq .leaf (.seq .leaf (.seq .leaf (.seq (.seq .leaf (.block (.sub (fun fr σ => c77_2s run fu fu [fr.getD 2 .any, fr.getD 4 .any, fr.getD 7 .any, fr.getD 8 .any, fr.getD 9 .any, fr.getD 10 .any] σ)))) (.sub (fun fr σ => c77_1 run fu (G fr 4) σ))))))))) (subC [] b77) ([x0, x1, x2] ++ padA (436 - 3)) σ k77 = c77 run fu x0 x1 x2 σ := by kernel_rfl

theorem ok77 {run : RunT} (hrun : RunOK X0 run) (fu : Nat) (x0 x1 x2 : AV) (σ : Store) : CallOK X0 77 [x0, x1, x2] σ (c77 run fu x0 x1 x2 σ) :=
  KOK.body (fn := Tryz.f77) (c := subC [] b77) (by kernel_rfl) (by kernel_rfl) (by show 3 ≤ 436; decide) (KOK.whole env0 hrun (eq77 run fu x0 x1 x2 σ) ⟨trivial, ⟨trivial, ⟨trivial, ⟨trivial, ⟨trivial, ⟨⟨trivial, (ok77_2s hrun fu)⟩, (ok77_1 hrun fu)⟩⟩⟩⟩⟩⟩)

-- (*pub-paratext/pub/rscmarkdown.parseState).mergePlain

noncomputable def b78 : Code := match Tryz.f78.body with | some c => c | none => .skip

noncomputable def k78 : Kont R := retK Tryz.prog [.tmp 4]

noncomputable def c78_1 (run : RunT) (fu : Nat) (x5 : AV) (σ : Store) : Tr R :=
  .ret (x5, σ)

theorem eq78_1 (run : RunT) (fu : Nat) (x5 : AV) (σ : Store) : codeK X0 run (.seq .leaf .leaf) (subC [true, true, true, true] b78) (frS 0 50 [(5, x5)]) σ k78 = c78_1 run fu x5 σ := by kernel_rfl

theorem ok78_1 {run : RunT} (hrun : RunOK X0 run) (fu : Nat) : ∀ fr σ, KOK X0 50 (subC [true, true, true, true] b78) fr σ ((fun fr σ => c78_1 run fu (G fr 5) σ) fr σ) k78 := fun fr σ =>
  KOK.piece env0 hrun [5] (eq78_1 run fu (G fr 5) σ) ⟨trivial, trivial⟩

noncomputable def c78_3 (run : RunT) (fu : Nat) (s2 : W4) (x1 x5 x6 x7 : AV) (σ : Store) : Tr R :=
  addK x7 (.int .i64 1) fun x11 =>
  s2 x1 x5 x6 x11 σ

theorem eq78_3 (run : RunT) (fu : Nat) (s2 : W4) (x1 x5 x6 x7 : AV) (σ : Store) : codeK X0 run .leaf (subC [true, true, true, false, true, false, false, true] b78) (frS 0 50 [(1, x1), (5, x5), (6, x6), (7, x7)]) σ (thenK (fun fr σ => s2 (G fr 1) (G fr 5) (G fr 6) (G fr 7) σ) (blockK 0 (thenK (fun fr σ => c78_1 run fu (G fr 5) σ) k78))) = c78_3 run fu s2 x1 x5 x6 x7 σ := by kernel_rfl

theorem ok78_3 {run : RunT} (hrun : RunOK X0 run) (fu : Nat) (s2 : W4) : ∀ fr σ, KOK X0 50 (subC [true, true, true, false, true, false, false, true] b78) fr σ ((fun fr σ => c78_3 run fu s2 (G fr 1) (G fr 5) (G fr 6) (G fr 7) σ) fr σ) (thenK (fun fr σ => s2 (G fr 1) (G fr 5) (G fr 6) (G fr 7) σ) (blockK 0 (thenK (fun fr σ => c78_1 run fu (G fr 5) σ) k78))) := fun fr σ =>
  KOK.piece env0 hrun [1, 5, 6, 7] (eq78_3 run fu s2 (G fr 1) (G fr 5) (G fr 6) (G fr 7) σ) trivial

noncomputable def c78_4 (run : RunT) (fu : Nat) (s2 : W4) (x1 x5 x7 : AV) (σ : Store) : Tr R :=
  lenLK x1 fun x38 =>
  cmpK .geq x7 x38 fun x39 =>
  ifK x39 (
  c78_1 run fu x5 σ) (
  .fail)

theorem eq78_4 (run : RunT) (fu : Nat) (s2 : W4) (x1 x5 x7 : AV) (σ : Store) : codeK X0 run (.seq (.seq .leaf (.cond .leaf (.sub deadK))) .leaf) (subC [true, true, true, false, true, false, false, false, false, true, true] b78) (frS 0 50 [(1, x1), (5, x5), (7, x7)]) σ (blockK 1 (thenK (fun fr σ => c78_3 run fu s2 (G fr 1) (G fr 5) (G fr 6) (G fr 7) σ) (thenK (fun fr σ => s2 (G fr 1) (G fr 5) (G fr 6) (G fr 7) σ) (blockK 0 (thenK (fun fr σ => c78_1 run fu (G fr 5) σ) k78))))) = c78_4 run fu s2 x1 x5 x7 σ := by kernel_rfl

theorem ok78_4 {run : RunT} (hrun : RunOK X0 run) (fu : Nat) (s2 : W4) : ∀ fr σ, KOK X0 50 (subC [true, true, true, false, true, false, false, false, false, true, true] b78) fr σ ((fun fr σ => c78_4 run fu s2 (G fr 1) (G fr 5) (G fr 7) σ) fr σ) (blockK 1 (thenK (fun fr σ => c78_3 run fu s2 (G fr 1) (G fr 5) (G fr 6) (G fr 7) σ) (thenK (fun fr σ => s2 (G fr 1) (G fr 5) (G fr 6) (G fr 7) σ) (blockK 0 (thenK (fun fr σ => c78_1 run fu (G fr 5) σ) k78))))) := fun fr σ =>
  KOK.piece env0 hrun [1, 5, 7] (eq78_4 run fu s2 (G fr 1) (G fr 5) (G fr 7) σ) ⟨⟨trivial, ⟨trivial, KOK.dead⟩⟩, trivial⟩

noncomputable def c78_2b (run : RunT) (fu : Nat) (s2 : W4) (x1 x5 x6 x7 : AV) (σ : Store) : Tr R :=
  lenLK x1 fun x14 =>
  cmpK .lss x7 x14 fun x15 =>
  grdK x15 true σ (fun f => f x1 σ) fun x17 σ1 =>
  grdK x15 true σ1 (fun f => f x7 σ1) fun x18 σ2 =>
  grdK x15 true σ2 (fun f => idxK 1 x17 x18 fun v => f v σ2) fun x19 σ3 =>
  grdK x15 true σ3 (fun f => ld1K σ3 x19 fun v => f v σ3) fun x20 σ4 =>
  grdK x15 true σ4 (fun f => calK run 117 [x20] σ4 f) fun x21 σ5 =>
  grdK x15 true σ5 (fun f => neOK (nilEq nilP) x21 .nilp fun v => f v σ5) fun x22 σ6 =>
  pickK x15 x22 (.bool false) fun x23 =>
  ifK x23 (
  c78_3 run fu s2 x1 x5 x6 x7 σ6) (
  cmpK .lss x6 x7 fun x26 =>
  ifK x26 (
  sliceLK Tryz.prog σ6 84 x1 (some x6) (some x7) fun x31 =>
  calK run 118 [x31] σ6 fun x32 σ7 =>
  opt (fillK [.nili] [(0, 1, (.iface 150 x32))]) fun cs => newSK σ7 253 cs 1 1 fun x34 σ8 =>
  appK 126 1 16 σ8 x5 x34 fun x35 σ9 =>
  c78_4 run fu s2 x1 x35 x7 σ9) (
  .fail))

noncomputable def c78_2 (run : RunT) (fu : Nat) : Nat → W4
  | 0 => fun _ _ _ _ _ => .fail
  | m + 1 => c78_2b run fu (c78_2 run fu m)

theorem eq78_2 (run : RunT) (fu : Nat) (s2 : W4) (x1 x5 x6 x7 : AV) (σ : Store) : codeK X0 run (.seq (.block (.seq (.seq .leaf (.cond .leaf .leaf)) (.seq (.seq .leaf (.cond .leaf (.sub deadK))) (.sub (fun fr σ => c78_4 run fu s2 (G fr 1) (G fr 5) (G fr 7) σ))))) (.sub (fun fr σ => c78_3 run fu s2 (G fr 1) (G fr 5) (G fr 6) (G fr 7) σ))) (subC [true, true, true, false, true, false, false] b78) (frS 0 50 [(1, x1), (5, x5), (6, x6), (7, x7)]) σ (thenK (fun fr σ => s2 (G fr 1) (G fr 5) (G fr 6) (G fr 7) σ) (blockK 0 (thenK (fun fr σ => c78_1 run fu (G fr 5) σ) k78))) = c78_2b run fu s2 x1 x5 x6 x7 σ := by kernel_rfl

theorem owed78_2 {run : RunT} (hrun : RunOK X0 run) (fu : Nat) (s2 : W4) : Owes X0 run 50 (.seq (.block (.seq (.seq .leaf (.cond .leaf .leaf)) (.seq (.seq .leaf (.cond .leaf (.sub deadK))) (.sub (fun fr σ => c78_4 run fu s2 (G fr 1) (G fr 5) (G fr 7) σ))))) (.sub (fun fr σ => c78_3 run fu s2 (G fr 1) (G fr 5) (G fr 6) (G fr 7) σ))) (subC [true, true, true, false, true, false, false] b78) (thenK (fun fr σ => s2 (G fr 1) (G fr 5) (G fr 6) (G fr 7) σ) (blockK 0 (thenK (fun fr σ => c78_1 run fu (G fr 5) σ) k78))) :=
  ⟨⟨⟨trivial, ⟨trivial, trivial⟩⟩, ⟨⟨trivial, ⟨trivial, KOK.dead⟩⟩, (ok78_4 hrun fu s2)⟩⟩, (ok78_3 hrun fu s2)⟩

theorem ok78_2 {run : RunT} (hrun : RunOK X0 run) (fu : Nat) : ∀ fr σ, KOK X0 50 (subC [true, true, true, false, true, false] b78) fr σ ((fun fr σ => c78_2 run fu fu (G fr 1) (G fr 5) (G fr 6) (G fr 7) σ) fr σ) (blockK 0 (thenK (fun fr σ => c78_1 run fu (G fr 5) σ) k78)) := by
  have h := KOK.loop (X := X0) (N := 50) (b := (subC [true, true, true, false, true, false, false] b78)) (k := (blockK 0 (thenK (fun fr σ => c78_1 run fu (G fr 5) σ) k78))) (u := fun m fr σ => c78_2 run fu m (G fr 1) (G fr 5) (G fr 6) (G fr 7) σ) (fun _ _ => rfl) (fun m fr σ => KOK.piece env0 hrun [1, 5, 6, 7] (eq78_2 run fu (c78_2 run fu m) (G fr 1) (G fr 5) (G fr 6) (G fr 7) σ) (owed78_2 hrun fu (c78_2 run fu m)))
  exact fun fr σ => h fu fr σ

noncomputable def c78_5 (run : RunT) (fu : Nat) (s2 : W4) (x1 x5 x6 x7 : AV) (σ : Store) : Tr R :=
  addK x7 (.int .i64 1) fun x11 =>
  s2 x1 x5 x6 x11 σ

theorem eq78_5 (run : RunT) (fu : Nat) (s2 : W4) (x1 x5 x6 x7 : AV) (σ : Store) : codeK X0 run .leaf (subC [true, true, true, false, true, false, false, true] b78) (frS 0 50 [(1, x1), (5, x5), (6, x6), (7, x7)]) σ (thenK (fun fr σ => s2 (G fr 1) (G fr 5) (G fr 6) (G fr 7) σ) failK) = c78_5 run fu s2 x1 x5 x6 x7 σ := by kernel_rfl

theorem ok78_5 {run : RunT} (hrun : RunOK X0 run) (fu : Nat) (s2 : W4) : ∀ fr σ, KOK X0 50 (subC [true, true, true, false, true, false, false, true] b78) fr σ ((fun fr σ => c78_5 run fu s2 (G fr 1) (G fr 5) (G fr 6) (G fr 7) σ) fr σ) (thenK (fun fr σ => s2 (G fr 1) (G fr 5) (G fr 6) (G fr 7) σ) failK) := fun fr σ =>
  KOK.piece env0 hrun [1, 5, 6, 7] (eq78_5 run fu s2 (G fr 1) (G fr 5) (G fr 6) (G fr 7) σ) trivial

noncomputable def c78_6 (run : RunT) (fu : Nat) (s2 : W4) (x1 x5 x7 : AV) (σ : Store) : Tr R :=
  lenLK x1 fun x38 =>
  cmpK .geq x7 x38 fun x39 =>
  ifK x39 (
  .fail) (
  .fail)

theorem eq78_6 (run : RunT) (fu : Nat) (s2 : W4) (x1 x5 x7 : AV) (σ : Store) : codeK X0 run (.seq (.seq .leaf (.cond .leaf (.sub deadK))) .leaf) (subC [true, true, true, false, true, false, false, false, false, true, true] b78) (frS 0 50 [(1, x1), (5, x5), (7, x7)]) σ (blockK 1 (thenK (fun fr σ => c78_5 run fu s2 (G fr 1) (G fr 5) (G fr 6) (G fr 7) σ) (thenK (fun fr σ => s2 (G fr 1) (G fr 5) (G fr 6) (G fr 7) σ) failK))) = c78_6 run fu s2 x1 x5 x7 σ := by kernel_rfl

theorem ok78_6 {run : RunT} (hrun : RunOK X0 run) (fu : Nat) (s2 : W4) : ∀ fr σ, KOK X0 50 (subC [true, true, true, false, true, false, false, false, false, true, true] b78) fr σ ((fun fr σ => c78_6 run fu s2 (G fr 1) (G fr 5) (G fr 7) σ) fr σ) (blockK 1 (thenK (fun fr σ => c78_5 run fu s2 (G fr 1) (G fr 5) (G fr 6) (G fr 7) σ) (thenK (fun fr σ => s2 (G fr 1) (G fr 5) (G fr 6) (G fr 7) σ) failK))) := fun fr σ =>
  KOK.piece env0 hrun [1, 5, 7] (eq78_6 run fu s2 (G fr 1) (G fr 5) (G fr 7) σ) ⟨⟨trivial, ⟨trivial, KOK.dead⟩⟩, trivial⟩

noncomputable def c78_2x (run : RunT) (fu : Nat) (s2 : W4) (x1 x5 x6 x7 : AV) (σ : Store) : Tr R :=
  lenLK x1 fun x14 =>
  cmpK .lss x7 x14 fun x15 =>
  grdK x15 true σ (fun f => f x1 σ) fun x17 σ1 =>
  grdK x15 true σ1 (fun f => f x7 σ1) fun x18 σ2 =>
  grdK x15 true σ2 (fun f => idxK 1 x17 x18 fun v => f v σ2) fun x19 σ3 =>
  grdK x15 true σ3 (fun f => ld1K σ3 x19 fun v => f v σ3) fun x20 σ4 =>
  grdK x15 true σ4 (fun f => calK run 117 [x20] σ4 f) fun x21 σ5 =>
  grdK x15 true σ5 (fun f => neOK (nilEq nilP) x21 .nilp fun v => f v σ5) fun x22 σ6 =>
  pickK x15 x22 (.bool false) fun x23 =>
  ifK x23 (
  c78_5 run fu s2 x1 x5 x6 x7 σ6) (
  cmpK .lss x6 x7 fun x26 =>
  ifK x26 (
  sliceLK Tryz.prog σ6 84 x1 (some x6) (some x7) fun x31 =>
  calK run 118 [x31] σ6 fun x32 σ7 =>
  opt (fillK [.nili] [(0, 1, (.iface 150 x32))]) fun cs => newSK σ7 253 cs 1 1 fun x34 σ8 =>
  appK 126 1 16 σ8 x5 x34 fun x35 σ9 =>
  c78_6 run fu s2 x1 x35 x7 σ9) (
  .fail))

theorem eq78_2x (run : RunT) (fu : Nat) (s2 : W4) (x1 x5 x6 x7 : AV) (σ : Store) : codeK X0 run (.seq (.block (.seq (.seq .leaf (.cond .leaf .leaf)) (.seq (.seq .leaf (.cond .leaf (.sub deadK))) (.sub (fun fr σ => c78_6 run fu s2 (G fr 1) (G fr 5) (G fr 7) σ))))) (.sub (fun fr σ => c78_5 run fu s2 (G fr 1) (G fr 5) (G fr 6) (G fr 7) σ))) (subC [true, true, true, false, true, false, false] b78) (frS 0 50 [(1, x1), (5, x5), (6, x6), (7, x7)]) σ (thenK (fun fr σ => s2 (G fr 1) (G fr 5) (G fr 6) (G fr 7) σ) failK) = c78_2x run fu s2 x1 x5 x6 x7 σ := by kernel_rfl

theorem owed78_2x {run : RunT} (hrun : RunOK X0 run) (fu : Nat) (s2 : W4) : Owes X0 run 50 (.seq (.block (.seq (.seq .leaf (.cond .leaf .leaf)) (.seq (.seq .leaf (.cond .leaf (.sub deadK))) (.sub (fun fr σ => c78_6 run fu s2 (G fr 1) (G fr 5) (G fr 7) σ))))) (.sub (fun fr σ => c78_5 run fu s2 (G fr 1) (G fr 5) (G fr 6) (G fr 7) σ))) (subC [true, true, true, false, true, false, false] b78) (thenK (fun fr σ => s2 (G fr 1) (G fr 5) (G fr 6) (G fr 7) σ) failK) :=
  ⟨⟨⟨trivial, ⟨trivial, trivial⟩⟩, ⟨⟨trivial, ⟨trivial, KOK.dead⟩⟩, (ok78_6 hrun fu s2)⟩⟩, (ok78_5 hrun fu s2)⟩

noncomputable def c78_2s (run : RunT) (fu : Nat) : Nat → List AV → Store → Tr R :=
  sweepNd (planRun 0 none 3 [] [] [] []) (planWith 0 planO) (fun t2 xs σ => c78_2b run fu (fun y1 y5 y6 y7 σ => t2 [y1, y5, y6, y7] σ) (xs.getD 0 .any) (xs.getD 1 .any) (xs.getD 2 .any) (xs.getD 3 .any) σ) (fun t2 xs σ => c78_2x run fu (fun y1 y5 y6 y7 σ => t2 [y1, y5, y6, y7] σ) (xs.getD 0 .any) (xs.getD 1 .any) (xs.getD 2 .any) (xs.getD 3 .any) σ)

theorem ok78_2s {run : RunT} (hrun : RunOK X0 run) (fu : Nat) : ∀ fr σ, KOK X0 50 (subC [true, true, true, false, true, false] b78) fr σ ((fun fr σ => c78_2s run fu fu [fr.getD 1 .any, fr.getD 5 .any, fr.getD 6 .any, fr.getD 7 .any] σ) fr σ) (blockK 0 (thenK (fun fr σ => c78_1 run fu (G fr 5) σ) k78)) := by
  have h := KOK.sweepForget (X := X0) (N := 50) (b := (subC [true, true, true, false, true, false, false] b78)) (k := (blockK 0 (thenK (fun fr σ => c78_1 run fu (G fr 5) σ) k78))) (js := [1, 5, 6, 7]) (body := (fun t2 xs σ => c78_2b run fu (fun y1 y5 y6 y7 σ => t2 [y1, y5, y6, y7] σ) (xs.getD 0 .any) (xs.getD 1 .any) (xs.getD 2 .any) (xs.getD 3 .any) σ)) (bodyx := (fun t2 xs σ => c78_2x run fu (fun y1 y5 y6 y7 σ => t2 [y1, y5, y6, y7] σ) (xs.getD 0 .any) (xs.getD 1 .any) (xs.getD 2 .any) (xs.getD 3 .any) σ)) rfl (planRun 0 none 3 [] [] [] []) (planWith 0 planO) (fun t2 fr σ => KOK.piece env0 hrun [1, 5, 6, 7] (eq78_2 run fu (fun y1 y5 y6 y7 σ => t2 [y1, y5, y6, y7] σ) (G fr 1) (G fr 5) (G fr 6) (G fr 7) σ) (owed78_2 hrun fu (fun y1 y5 y6 y7 σ => t2 [y1, y5, y6, y7] σ))) (fun t2 fr σ => KOK.piece env0 hrun [1, 5, 6, 7] (eq78_2x run fu (fun y1 y5 y6 y7 σ => t2 [y1, y5, y6, y7] σ) (G fr 1) (G fr 5) (G fr 6) (G fr 7) σ) (owed78_2x hrun fu (fun y1 y5 y6 y7 σ => t2 [y1, y5, y6, y7] σ)))
  exact fun fr σ => h fu fr σ

noncomputable def c78 (run : RunT) (fu : Nat) (x0 x1 : AV) (σ : Store) : Tr R :=
  sliceLK Tryz.prog σ 84 x1 none (some (.int .i64 0)) fun x9 =>
  c78_2s run fu fu [x1, x9, (.int .i64 0), (.int .i64 0)] σ

theorem eq78 (run : RunT) (fu : Nat) (x0 x1 : AV) (σ : Store) : codeK X0 run (.seq .leaf (.seq .leaf (.seq .leaf (.seq (.seq .leaf (.block (.sub (fun fr σ => c78_2s run fu fu [fr.getD 1 .any, fr.getD 5 .any, fr.getD 6 .any, fr.getD 7 .any] σ)))) (.sub (fun fr σ => c78_1 run fu (G fr 5) σ)))))) (subC [] b78) ([x0, x1] ++ padA (50 - 2)) σ k78 = c78 run fu x0 x1 σ := by kernel_rfl

theorem ok78 {run : RunT} (hrun : RunOK X0 run) (fu : Nat) (x0 x1 : AV) (σ : Store) : CallOK X0 78 [x0, x1] σ (c78 run fu x0 x1 σ) :=
  KOK.body (fn := Tryz.f78) (c := subC [] b78) (by kernel_rfl) (by kernel_rfl) (by show 2 ≤ 50; decide) (KOK.whole env0 hrun (eq78 run fu x0 x1 σ) ⟨trivial, ⟨trivial, ⟨trivial, ⟨⟨trivial, (ok78_2s hrun fu)⟩, (ok78_1 hrun fu)⟩⟩⟩⟩)

-- (*pub-paratext/pub/rscmarkdown.parseState).autoLinkText

noncomputable def b79 : Code := match Tryz.f79.body with | some c => c | none => .skip

noncomputable def k79 : Kont R := retK Tryz.prog [.tmp 4]

noncomputable def c79 (run : RunT) (fu : Nat) (x0 x1 : AV) (σ : Store) : Tr R :=
  nchkK x0 fun x14 =>
  addrK x14 0 fun x15 =>
  ld1K σ x15 fun x16 =>
  nchkK x16 fun x17 =>
  addrK x17 3 fun x18 =>
  ld1K σ x18 fun x19 =>
  notK x19 fun x20 =>
  ifK x20 (
  .ret (x1, σ)) (
  .fail)

theorem eq79 (run : RunT) (fu : Nat) (x0 x1 : AV) (σ : Store) : codeK X0 run (.seq .leaf (.seq (.seq .leaf (.cond (.seq .leaf .leaf) (.sub deadK))) .leaf)) (subC [] b79) ([x0, x1] ++ padA (98 - 2)) σ k79 = c79 run fu x0 x1 σ := by kernel_rfl

theorem ok79 {run : RunT} (hrun : RunOK X0 run) (fu : Nat) (x0 x1 : AV) (σ : Store) : CallOK X0 79 [x0, x1] σ (c79 run fu x0 x1 σ) :=
  KOK.body (fn := Tryz.f79) (c := subC [] b79) (by kernel_rfl) (by kernel_rfl) (by show 2 ≤ 98; decide) (KOK.whole env0 hrun (eq79 run fu x0 x1 σ) ⟨trivial, ⟨⟨trivial, ⟨⟨trivial, trivial⟩, KOK.dead⟩⟩, trivial⟩⟩)

-- pub-paratext/pub/rscmarkdown.trimLeftSpaceTab

noncomputable def b80 : Code := match Tryz.f80.body with | some c => c | none => .skip

noncomputable def k80 : Kont R := retK Tryz.prog [.tmp 2]

noncomputable def c80_1 (run : RunT) (fu : Nat) (x0 x3 : AV) (σ : Store) : Tr R :=
  sliceSK x0 (some x3) none fun x24 =>
  .ret (x24, σ)

theorem eq80_1 (run : RunT) (fu : Nat) (x0 x3 : AV) (σ : Store) : codeK X0 run (.seq .leaf .leaf) (subC [true, true, true] b80) (frS 0 25 [(0, x0), (3, x3)]) σ k80 = c80_1 run fu x0 x3 σ := by kernel_rfl

theorem ok80_1 {run : RunT} (hrun : RunOK X0 run) (fu : Nat) : ∀ fr σ, KOK X0 25 (subC [true, true, true] b80) fr σ ((fun fr σ => c80_1 run fu (G fr 0) (G fr 3) σ) fr σ) k80 := fun fr σ =>
  KOK.piece env0 hrun [0, 3] (eq80_1 run fu (G fr 0) (G fr 3) σ) ⟨trivial, trivial⟩

noncomputable def c80_2b (run : RunT) (fu : Nat) (s2 : W2) (x0 x3 : AV) (σ : Store) : Tr R :=
  lenSK x0 fun x6 =>
  cmpK .lss x3 x6 fun x7 =>
  grdK x7 true σ (fun f => f x0 σ) fun x9 σ1 =>
  grdK x7 true σ1 (fun f => f x3 σ1) fun x10 σ2 =>
  grdK x7 true σ2 (fun f => idxSK x9 x10 fun v => f v σ2) fun x11 σ3 =>
  grdK x7 true σ3 (fun f => cmpK .eql x11 (.int .u8 32) fun v => f v σ3) fun x12 σ4 =>
  grdK x7 true σ4 (fun f => f x12 σ4) fun x13 σ5 =>
  grdK x13 false σ5 (fun f => f x0 σ5) fun x14 σ6 =>
  grdK x13 false σ6 (fun f => f x3 σ6) fun x15 σ7 =>
  grdK x13 false σ7 (fun f => idxSK x14 x15 fun v => f v σ7) fun x16 σ8 =>
  grdK x13 false σ8 (fun f => cmpK .eql x16 (.int .u8 9) fun v => f v σ8) fun x17 σ9 =>
  grdK x7 true σ9 (fun f => pickK x13 (.bool true) x17 fun v => f v σ9) fun x18 σ10 =>
  pickK x7 x18 (.bool false) fun x19 =>
  ifK x19 (
  .fail) (
  c80_1 run fu x0 x3 σ10)

noncomputable def c80_2 (run : RunT) (fu : Nat) : Nat → W2
  | 0 => fun _ _ _ => .fail
  | m + 1 => c80_2b run fu (c80_2 run fu m)

theorem eq80_2 (run : RunT) (fu : Nat) (s2 : W2) (x0 x3 : AV) (σ : Store) : codeK X0 run (.seq (.seq .leaf (.cond (.sub deadK) .leaf)) .leaf) (subC [true, true, false, false, false] b80) (frS 0 25 [(0, x0), (3, x3)]) σ (thenK (fun fr σ => s2 (G fr 0) (G fr 3) σ) (blockK 0 (thenK (fun fr σ => c80_1 run fu (G fr 0) (G fr 3) σ) k80))) = c80_2b run fu s2 x0 x3 σ := by kernel_rfl

theorem owed80_2 {run : RunT} (hrun : RunOK X0 run) (fu : Nat) (s2 : W2) : Owes X0 run 25 (.seq (.seq .leaf (.cond (.sub deadK) .leaf)) .leaf) (subC [true, true, false, false, false] b80) (thenK (fun fr σ => s2 (G fr 0) (G fr 3) σ) (blockK 0 (thenK (fun fr σ => c80_1 run fu (G fr 0) (G fr 3) σ) k80))) :=
  ⟨⟨trivial, ⟨KOK.dead, trivial⟩⟩, trivial⟩

theorem ok80_2 {run : RunT} (hrun : RunOK X0 run) (fu : Nat) : ∀ fr σ, KOK X0 25 (subC [true, true, false, false] b80) fr σ ((fun fr σ => c80_2 run fu fu (G fr 0) (G fr 3) σ) fr σ) (blockK 0 (thenK (fun fr σ => c80_1 run fu (G fr 0) (G fr 3) σ) k80)) := by
  have h := KOK.loop (X := X0) (N := 25) (b := (subC [true, true, false, false, false] b80)) (k := (blockK 0 (thenK (fun fr σ => c80_1 run fu (G fr 0) (G fr 3) σ) k80))) (u := fun m fr σ => c80_2 run fu m (G fr 0) (G fr 3) σ) (fun _ _ => rfl) (fun m fr σ => KOK.piece env0 hrun [0, 3] (eq80_2 run fu (c80_2 run fu m) (G fr 0) (G fr 3) σ) (owed80_2 hrun fu (c80_2 run fu m)))
  exact fun fr σ => h fu fr σ

noncomputable def c80 (run : RunT) (fu : Nat) (x0 : AV) (σ : Store) : Tr R :=
  c80_2 run fu fu x0 (.int .i64 0) σ

theorem eq80 (run : RunT) (fu : Nat) (x0 : AV) (σ : Store) : codeK X0 run (.seq .leaf (.seq .leaf (.seq (.block (.sub (fun fr σ => c80_2 run fu fu (G fr 0) (G fr 3) σ))) (.sub (fun fr σ => c80_1 run fu (G fr 0) (G fr 3) σ))))) (subC [] b80) ([x0] ++ padA (25 - 1)) σ k80 = c80 run fu x0 σ := by kernel_rfl

theorem ok80 {run : RunT} (hrun : RunOK X0 run) (fu : Nat) (x0 : AV) (σ : Store) : CallOK X0 80 [x0] σ (c80 run fu x0 σ) :=
  KOK.body (fn := Tryz.f80) (c := subC [] b80) (by kernel_rfl) (by kernel_rfl) (by show 1 ≤ 25; decide) (KOK.whole env0 hrun (eq80 run fu x0 σ) ⟨trivial, ⟨trivial, ⟨(ok80_2 hrun fu), (ok80_1 hrun fu)⟩⟩⟩)

-- pub-paratext/pub/rscmarkdown.newQuote

noncomputable def b81 : Code := match Tryz.f81.body with | some c => c | none => .skip

noncomputable def k81 : Kont R := retK Tryz.prog [.cell 4 100, .tmp 5]

noncomputable def c81 (run : RunT) (fu : Nat) (x0 x1 : AV) (σ : Store) : Tr R :=
  boxK σ 201 x1 fun x3 σ1 =>
  newK σ1 201 [(.int .i64 0), (.int .i64 0), (.int .i64 0), (.str []), (.int .u8 0)] fun x4 σ2 =>
  ldNK σ2 x3 5 fun x9 =>
  calK run 120 [x9] σ2 fun x10 σ3 =>
  extK x10 0 fun x11 =>
  extK x10 1 fun x12 =>
  newK σ3 201 [(.int .i64 0), (.int .i64 0), (.int .i64 0), (.str []), (.int .u8 0)] fun x6 σ4 =>
  stNK σ4 x6 5 x11 fun _ σ5 =>
  ifK x12 (
  .fail) (
  ldNK σ5 x3 5 fun x19 =>
  stNK σ5 x4 5 x19 fun _ σ6 =>
  ldNK σ6 x4 5 fun v7 =>
  .ret (.tup [v7, (.bool false)], σ6))

theorem eq81 (run : RunT) (fu : Nat) (x0 x1 : AV) (σ : Store) : codeK X0 run (.seq .leaf (.seq (.seq .leaf (.seq .leaf (.cond (.sub deadK) .leaf))) (.seq .leaf .leaf))) (subC [] b81) ([x0, x1] ++ padA (20 - 2)) σ k81 = c81 run fu x0 x1 σ := by kernel_rfl

theorem ok81 {run : RunT} (hrun : RunOK X0 run) (fu : Nat) (x0 x1 : AV) (σ : Store) : CallOK X0 81 [x0, x1] σ (c81 run fu x0 x1 σ) :=
  KOK.body (fn := Tryz.f81) (c := subC [] b81) (by kernel_rfl) (by kernel_rfl) (by show 2 ≤ 20; decide) (KOK.whole env0 hrun (eq81 run fu x0 x1 σ) ⟨trivial, ⟨⟨trivial, ⟨trivial, ⟨KOK.dead, trivial⟩⟩⟩, ⟨trivial, trivial⟩⟩⟩)

-- pub-paratext/pub/rscmarkdown.newATXHeading

noncomputable def b82 : Code := match Tryz.f82.body with | some c => c | none => .skip

noncomputable def k82 : Kont R := retK Tryz.prog [.cell 4 100, .tmp 5]

noncomputable def c82_1 (run : RunT) (fu : Nat) (x3 x4 : AV) (σ : Store) : Tr R :=
  ldNK σ x3 5 fun x81 =>
  stNK σ x4 5 x81 fun _ σ1 =>
  ldNK σ1 x4 5 fun v2 =>
  .ret (.tup [v2, (.bool false)], σ1)

theorem eq82_1 (run : RunT) (fu : Nat) (x3 x4 : AV) (σ : Store) : codeK X0 run (.seq .leaf .leaf) (subC [true, true, true, true] b82) (frS 0 82 [(3, x3), (4, x4)]) σ k82 = c82_1 run fu x3 x4 σ := by kernel_rfl

theorem ok82_1 {run : RunT} (hrun : RunOK X0 run) (fu : Nat) : ∀ fr σ, KOK X0 82 (subC [true, true, true, true] b82) fr σ ((fun fr σ => c82_1 run fu (G fr 3) (G fr 4) σ) fr σ) k82 := fun fr σ =>
  KOK.piece env0 hrun [3, 4] (eq82_1 run fu (G fr 3) (G fr 4) σ) ⟨trivial, trivial⟩

noncomputable def c82 (run : RunT) (fu : Nat) (x0 x1 : AV) (σ : Store) : Tr R :=
  boxK σ 201 x1 fun x3 σ1 =>
  newK σ1 201 [(.int .i64 0), (.int .i64 0), (.int .i64 0), (.str []), (.int .u8 0)] fun x4 σ2 =>
  ldNK σ2 x3 5 fun x14 =>
  newK σ2 201 [(.int .i64 0), (.int .i64 0), (.int .i64 0), (.str []), (.int .u8 0)] fun x6 σ3 =>
  stNK σ3 x6 5 x14 fun _ σ4 =>
  newK σ4 7 [(.int .i64 0)] fun x7 σ5 =>
  calK run 121 [x6, x7] σ5 fun x15 σ6 =>
  ifK x15 (
  .fail) (
  c82_1 run fu x3 x4 σ6)

theorem eq82 (run : RunT) (fu : Nat) (x0 x1 : AV) (σ : Store) : codeK X0 run (.seq .leaf (.seq .leaf (.seq .leaf (.seq (.seq .leaf (.cond (.sub deadK) .leaf)) (.sub (fun fr σ => c82_1 run fu (G fr 3) (G fr 4) σ)))))) (subC [] b82) ([x0, x1] ++ padA (82 - 2)) σ k82 = c82 run fu x0 x1 σ := by kernel_rfl

theorem ok82 {run : RunT} (hrun : RunOK X0 run) (fu : Nat) (x0 x1 : AV) (σ : Store) : CallOK X0 82 [x0, x1] σ (c82 run fu x0 x1 σ) :=
  KOK.body (fn := Tryz.f82) (c := subC [] b82) (by kernel_rfl) (by kernel_rfl) (by show 2 ≤ 82; decide) (KOK.whole env0 hrun (eq82 run fu x0 x1 σ) ⟨trivial, ⟨trivial, ⟨trivial, ⟨⟨trivial, ⟨KOK.dead, trivial⟩⟩, (ok82_1 hrun fu)⟩⟩⟩⟩)

-- pub-paratext/pub/rscmarkdown.newSetextHeading

noncomputable def b83 : Code := match Tryz.f83.body with | some c => c | none => .skip

noncomputable def k83 : Kont R := retK Tryz.prog [.cell 4 100, .tmp 5]

noncomputable def c83 (run : RunT) (fu : Nat) (x0 x1 : AV) (σ : Store) : Tr R :=
  boxK σ 201 x1 fun x3 σ1 =>
  newK σ1 201 [(.int .i64 0), (.int .i64 0), (.int .i64 0), (.str []), (.int .u8 0)] fun x4 σ2 =>
  newK σ2 7 [(.int .i64 0)] fun x6 σ3 =>
  ldNK σ3 x3 5 fun x10 =>
  newK σ3 201 [(.int .i64 0), (.int .i64 0), (.int .i64 0), (.str []), (.int .u8 0)] fun x7 σ4 =>
  stNK σ4 x7 5 x10 fun _ σ5 =>
  calK run 129 [x0] σ5 fun x12 σ6 =>
  calK run 89 [x0] σ6 fun x14 σ7 =>
  eqOK (eqIfc Tryz.prog false) x12 (.iface 156 x14) fun x16 =>
  grdK x16 true σ7 (fun f => calK run 130 [x7, x6] σ7 f) fun x18 σ8 =>
  pickK x16 x18 (.bool false) fun x19 =>
  ifK x19 (
  .fail) (
  ldNK σ8 x3 5 fun x54 =>
  stNK σ8 x4 5 x54 fun _ σ9 =>
  ldNK σ9 x4 5 fun v10 =>
  .ret (.tup [v10, (.bool false)], σ9))

theorem eq83 (run : RunT) (fu : Nat) (x0 x1 : AV) (σ : Store) : codeK X0 run (.seq .leaf (.seq .leaf (.seq .leaf (.seq (.seq .leaf (.cond (.sub deadK) .leaf)) (.seq .leaf .leaf))))) (subC [] b83) ([x0, x1] ++ padA (55 - 2)) σ k83 = c83 run fu x0 x1 σ := by kernel_rfl

theorem ok83 {run : RunT} (hrun : RunOK X0 run) (fu : Nat) (x0 x1 : AV) (σ : Store) : CallOK X0 83 [x0, x1] σ (c83 run fu x0 x1 σ) :=
  KOK.body (fn := Tryz.f83) (c := subC [] b83) (by kernel_rfl) (by kernel_rfl) (by show 2 ≤ 55; decide) (KOK.whole env0 hrun (eq83 run fu x0 x1 σ) ⟨trivial, ⟨trivial, ⟨trivial, ⟨⟨trivial, ⟨KOK.dead, trivial⟩⟩, ⟨trivial, trivial⟩⟩⟩⟩⟩)

-- pub-paratext/pub/rscmarkdown.newHR

noncomputable def b84 : Code := match Tryz.f84.body with | some c => c | none => .skip

noncomputable def k84 : Kont R := retK Tryz.prog [.cell 4 100, .tmp 5]

noncomputable def c84 (run : RunT) (fu : Nat) (x0 x1 : AV) (σ : Store) : Tr R :=
  boxK σ 201 x1 fun x3 σ1 =>
  newK σ1 201 [(.int .i64 0), (.int .i64 0), (.int .i64 0), (.str []), (.int .u8 0)] fun x4 σ2 =>
  ldNK σ2 x3 5 fun x6 =>
  calK run 133 [x6] σ2 fun x7 σ3 =>
  ifK x7 (
  .fail) (
  ldNK σ3 x3 5 fun x24 =>
  stNK σ3 x4 5 x24 fun _ σ4 =>
  ldNK σ4 x4 5 fun v5 =>
  .ret (.tup [v5, (.bool false)], σ4))

theorem eq84 (run : RunT) (fu : Nat) (x0 x1 : AV) (σ : Store) : codeK X0 run (.seq .leaf (.seq (.seq .leaf (.cond (.sub deadK) .leaf)) (.seq .leaf .leaf))) (subC [] b84) ([x0, x1] ++ padA (25 - 2)) σ k84 = c84 run fu x0 x1 σ := by kernel_rfl

theorem ok84 {run : RunT} (hrun : RunOK X0 run) (fu : Nat) (x0 x1 : AV) (σ : Store) : CallOK X0 84 [x0, x1] σ (c84 run fu x0 x1 σ) :=
  KOK.body (fn := Tryz.f84) (c := subC [] b84) (by kernel_rfl) (by kernel_rfl) (by show 2 ≤ 25; decide) (KOK.whole env0 hrun (eq84 run fu x0 x1 σ) ⟨trivial, ⟨⟨trivial, ⟨KOK.dead, trivial⟩⟩, ⟨trivial, trivial⟩⟩⟩)

-- pub-paratext/pub/rscmarkdown.newListItem

noncomputable def b85 : Code := match Tryz.f85.body with | some c => c | none => .skip

noncomputable def k85 : Kont R := retK Tryz.prog [.cell 4 100, .tmp 5]

noncomputable def c85 (run : RunT) (fu : Nat) (x0 x1 : AV) (σ : Store) : Tr R :=
  boxK σ 201 x1 fun x3 σ1 =>
  newK σ1 201 [(.int .i64 0), (.int .i64 0), (.int .i64 0), (.str []), (.int .u8 0)] fun x4 σ2 =>
  calK run 134 [x0] σ2 fun x10 σ3 =>
  tasK (some .nilp) 237 true x10 fun x11 =>
  extK x11 0 fun x12 =>
  extK x11 1 fun x13 =>
  grdK x13 true σ3 (fun f => f x12 σ3) fun x16 σ4 =>
  grdK x13 true σ4 (fun f => nchkK x16 fun v => f v σ4) fun x17 σ5 =>
  grdK x13 true σ5 (fun f => addrK x17 4 fun v => f v σ5) fun x18 σ6 =>
  grdK x13 true σ6 (fun f => ld1K σ6 x18 fun v => f v σ6) fun x19 σ7 =>
  grdK x13 true σ7 (fun f => neOK (nilEq nilF) x19 .nilf fun v => f v σ7) fun x20 σ8 =>
  pickK x13 x20 (.bool false) fun x21 =>
  ifK x21 (
  .fail) (
  calK run 135 [x0, x3] σ8 fun x32 σ9 =>
  ifK x32 (
  .fail) (
  ldNK σ9 x3 5 fun x34 =>
  stNK σ9 x4 5 x34 fun _ σ10 =>
  ldNK σ10 x4 5 fun v11 =>
  .ret (.tup [v11, (.bool false)], σ10)))

theorem eq85 (run : RunT) (fu : Nat) (x0 x1 : AV) (σ : Store) : codeK X0 run (.seq .leaf (.seq (.seq .leaf (.seq .leaf (.cond (.sub deadK) .leaf))) (.seq (.seq .leaf (.cond (.sub deadK) .leaf)) (.seq .leaf .leaf)))) (subC [] b85) ([x0, x1] ++ padA (35 - 2)) σ k85 = c85 run fu x0 x1 σ := by kernel_rfl

theorem ok85 {run : RunT} (hrun : RunOK X0 run) (fu : Nat) (x0 x1 : AV) (σ : Store) : CallOK X0 85 [x0, x1] σ (c85 run fu x0 x1 σ) :=
  KOK.body (fn := Tryz.f85) (c := subC [] b85) (by kernel_rfl) (by kernel_rfl) (by show 2 ≤ 35; decide) (KOK.whole env0 hrun (eq85 run fu x0 x1 σ) ⟨trivial, ⟨⟨trivial, ⟨trivial, ⟨KOK.dead, trivial⟩⟩⟩, ⟨⟨trivial, ⟨KOK.dead, trivial⟩⟩, ⟨trivial, trivial⟩⟩⟩⟩)

-- pub-paratext/pub/rscmarkdown.newHTML

noncomputable def b86 : Code := match Tryz.f86.body with | some c => c | none => .skip

noncomputable def k86 : Kont R := retK Tryz.prog [.cell 4 100, .tmp 5]

noncomputable def c86 (run : RunT) (fu : Nat) (x0 x1 : AV) (σ : Store) : Tr R :=
  boxK σ 201 x1 fun x3 σ1 =>
  newK σ1 201 [(.int .i64 0), (.int .i64 0), (.int .i64 0), (.str []), (.int .u8 0)] fun x4 σ2 =>
  ldNK σ2 x3 5 fun x7 =>
  newK σ2 201 [(.int .i64 0), (.int .i64 0), (.int .i64 0), (.str []), (.int .u8 0)] fun x6 σ3 =>
  stNK σ3 x6 5 x7 fun _ σ4 =>
  calK run 136 [x0, x6] σ4 fun x9 σ5 =>
  ifK x9 (
  .fail) (
  ldNK σ5 x3 5 fun x11 =>
  stNK σ5 x4 5 x11 fun _ σ6 =>
  ldNK σ6 x4 5 fun v7 =>
  .ret (.tup [v7, (.bool false)], σ6))

theorem eq86 (run : RunT) (fu : Nat) (x0 x1 : AV) (σ : Store) : codeK X0 run (.seq .leaf (.seq .leaf (.seq (.seq .leaf (.cond (.sub deadK) .leaf)) (.seq .leaf .leaf)))) (subC [] b86) ([x0, x1] ++ padA (12 - 2)) σ k86 = c86 run fu x0 x1 σ := by kernel_rfl

theorem ok86 {run : RunT} (hrun : RunOK X0 run) (fu : Nat) (x0 x1 : AV) (σ : Store) : CallOK X0 86 [x0, x1] σ (c86 run fu x0 x1 σ) :=
  KOK.body (fn := Tryz.f86) (c := subC [] b86) (by kernel_rfl) (by kernel_rfl) (by show 2 ≤ 12; decide) (KOK.whole env0 hrun (eq86 run fu x0 x1 σ) ⟨trivial, ⟨trivial, ⟨⟨trivial, ⟨KOK.dead, trivial⟩⟩, ⟨trivial, trivial⟩⟩⟩⟩)

-- pub-paratext/pub/rscmarkdown.newFence

noncomputable def b87 : Code := match Tryz.f87.body with | some c => c | none => .skip

noncomputable def k87 : Kont R := retK Tryz.prog [.cell 4 100, .tmp 5]

noncomputable def c87_1 (run : RunT) (fu : Nat) (x3 x4 : AV) (σ : Store) : Tr R :=
  ldNK σ x3 5 fun x56 =>
  stNK σ x4 5 x56 fun _ σ1 =>
  ldNK σ1 x4 5 fun v2 =>
  .ret (.tup [v2, (.bool false)], σ1)

theorem eq87_1 (run : RunT) (fu : Nat) (x3 x4 : AV) (σ : Store) : codeK X0 run (.seq .leaf .leaf) (subC [true, true, true, true, true] b87) (frS 0 57 [(3, x3), (4, x4)]) σ k87 = c87_1 run fu x3 x4 σ := by kernel_rfl

theorem ok87_1 {run : RunT} (hrun : RunOK X0 run) (fu : Nat) : ∀ fr σ, KOK X0 57 (subC [true, true, true, true, true] b87) fr σ ((fun fr σ => c87_1 run fu (G fr 3) (G fr 4) σ) fr σ) k87 := fun fr σ =>
  KOK.piece env0 hrun [3, 4] (eq87_1 run fu (G fr 3) (G fr 4) σ) ⟨trivial, trivial⟩

noncomputable def c87 (run : RunT) (fu : Nat) (x0 x1 : AV) (σ : Store) : Tr R :=
  boxK σ 201 x1 fun x3 σ1 =>
  newK σ1 201 [(.int .i64 0), (.int .i64 0), (.int .i64 0), (.str []), (.int .u8 0)] fun x4 σ2 =>
  newK σ2 19 [(.str [])] fun x6 σ3 =>
  newK σ3 19 [(.str [])] fun x7 σ4 =>
  newK σ4 7 [(.int .i64 0)] fun x8 σ5 =>
  ldNK σ5 x3 5 fun x12 =>
  newK σ5 201 [(.int .i64 0), (.int .i64 0), (.int .i64 0), (.str []), (.int .u8 0)] fun x9 σ6 =>
  stNK σ6 x9 5 x12 fun _ σ7 =>
  calK run 137 [x9, x6, x7, x8] σ7 fun x13 σ8 =>
  ifK x13 (
  .fail) (
  c87_1 run fu x3 x4 σ8)

theorem eq87 (run : RunT) (fu : Nat) (x0 x1 : AV) (σ : Store) : codeK X0 run (.seq .leaf (.seq .leaf (.seq .leaf (.seq .leaf (.seq (.seq .leaf (.cond (.sub deadK) .leaf)) (.sub (fun fr σ => c87_1 run fu (G fr 3) (G fr 4) σ))))))) (subC [] b87) ([x0, x1] ++ padA (57 - 2)) σ k87 = c87 run fu x0 x1 σ := by kernel_rfl

theorem ok87 {run : RunT} (hrun : RunOK X0 run) (fu : Nat) (x0 x1 : AV) (σ : Store) : CallOK X0 87 [x0, x1] σ (c87 run fu x0 x1 σ) :=
  KOK.body (fn := Tryz.f87) (c := subC [] b87) (by kernel_rfl) (by kernel_rfl) (by show 2 ≤ 57; decide) (KOK.whole env0 hrun (eq87 run fu x0 x1 σ) ⟨trivial, ⟨trivial, ⟨trivial, ⟨trivial, ⟨⟨trivial, ⟨KOK.dead, trivial⟩⟩, (ok87_1 hrun fu)⟩⟩⟩⟩⟩)

-- pub-paratext/pub/rscmarkdown.newPre

noncomputable def b88 : Code := match Tryz.f88.body with | some c => c | none => .skip

noncomputable def k88 : Kont R := retK Tryz.prog [.cell 4 100, .tmp 5]

noncomputable def c88 (run : RunT) (fu : Nat) (x0 x1 : AV) (σ : Store) : Tr R :=
  boxK σ 201 x1 fun x3 σ1 =>
  newK σ1 201 [(.int .i64 0), (.int .i64 0), (.int .i64 0), (.str []), (.int .u8 0)] fun x4 σ2 =>
  ldNK σ2 x3 5 fun x8 =>
  newK σ2 201 [(.int .i64 0), (.int .i64 0), (.int .i64 0), (.str []), (.int .u8 0)] fun x6 σ3 =>
  stNK σ3 x6 5 x8 fun _ σ4 =>
  calK run 89 [x0] σ4 fun x10 σ5 =>
  eqOK (nilEq nilP) x10 .nilp fun x11 =>
  grdK x11 true σ5 (fun f => calK run 139 [x6, (.int .i64 4), (.int .i64 4), (.bool false)] σ5 f) fun x13 σ6 =>
  pickK x11 x13 (.bool false) fun x14 =>
  grdK x14 true σ6 (fun f => calK run 56 [x6] σ6 f) fun x16 σ7 =>
  grdK x14 true σ7 (fun f => notK x16 fun v => f v σ7) fun x17 σ8 =>
  pickK x14 x17 (.bool false) fun x18 =>
  ifK x18 (
  .fail) (
  ldNK σ8 x3 5 fun x48 =>
  stNK σ8 x4 5 x48 fun _ σ9 =>
  ldNK σ9 x4 5 fun v10 =>
  .ret (.tup [v10, (.bool false)], σ9))

theorem eq88 (run : RunT) (fu : Nat) (x0 x1 : AV) (σ : Store) : codeK X0 run (.seq .leaf (.seq .leaf (.seq (.seq .leaf (.cond (.sub deadK) .leaf)) (.seq .leaf .leaf)))) (subC [] b88) ([x0, x1] ++ padA (49 - 2)) σ k88 = c88 run fu x0 x1 σ := by kernel_rfl

theorem ok88 {run : RunT} (hrun : RunOK X0 run) (fu : Nat) (x0 x1 : AV) (σ : Store) : CallOK X0 88 [x0, x1] σ (c88 run fu x0 x1 σ) :=
  KOK.body (fn := Tryz.f88) (c := subC [] b88) (by kernel_rfl) (by kernel_rfl) (by show 2 ≤ 49; decide) (KOK.whole env0 hrun (eq88 run fu x0 x1 σ) ⟨trivial, ⟨trivial, ⟨⟨trivial, ⟨KOK.dead, trivial⟩⟩, ⟨trivial, trivial⟩⟩⟩⟩)

-- (*pub-paratext/pub/rscmarkdown.parseState).para

noncomputable def b89 : Code := match Tryz.f89.body with | some c => c | none => .skip

noncomputable def k89 : Kont R := retK Tryz.prog [.tmp 2]

noncomputable def c89 (run : RunT) (fu : Nat) (x0 : AV) (σ : Store) : Tr R :=
  nchkK x0 fun x7 =>
  addrK x7 4 fun x8 =>
  ld1K σ x8 fun x9 =>
  nchkK x0 fun x11 =>
  addrK x11 4 fun x12 =>
  ld1K σ x12 fun x13 =>
  lenLK x13 fun x14 =>
  subK x14 (.int .i64 1) fun x15 =>
  idxK 4 x9 x15 fun x16 =>
  addrK x16 0 fun x17 =>
  ld1K σ x17 fun x18 =>
  tasK (some .nilp) 156 true x18 fun x19 =>
  extK x19 0 fun x20 =>
  extK x19 1 fun x21 =>
  ifK x21 (
  .fail) (
  .ret (.nilp, σ))

theorem eq89 (run : RunT) (fu : Nat) (x0 : AV) (σ : Store) : codeK X0 run (.seq .leaf (.seq (.seq .leaf (.seq .leaf (.cond (.sub deadK) .leaf))) (.seq .leaf .leaf))) (subC [] b89) ([x0] ++ padA (24 - 1)) σ k89 = c89 run fu x0 σ := by kernel_rfl

theorem ok89 {run : RunT} (hrun : RunOK X0 run) (fu : Nat) (x0 : AV) (σ : Store) : CallOK X0 89 [x0] σ (c89 run fu x0 σ) :=
  KOK.body (fn := Tryz.f89) (c := subC [] b89) (by kernel_rfl) (by kernel_rfl) (by show 1 ≤ 24; decide) (KOK.whole env0 hrun (eq89 run fu x0 σ) ⟨trivial, ⟨⟨trivial, ⟨trivial, ⟨KOK.dead, trivial⟩⟩⟩, ⟨trivial, trivial⟩⟩⟩)

-- (*pub-paratext/pub/rscmarkdown.line).trimSpaceString

noncomputable def b90 : Code := match Tryz.f90.body with | some c => c | none => .skip

noncomputable def k90 : Kont R := retK Tryz.prog [.tmp 2]

noncomputable def c90 (run : RunT) (fu : Nat) (x0 : AV) (σ : Store) : Tr R :=
  nchkK x0 fun x4 =>
  addrK x4 3 fun x5 =>
  ld1K σ x5 fun x6 =>
  nchkK x0 fun x8 =>
  addrK x8 1 fun x9 =>
  ld1K σ x9 fun x10 =>
  sliceSK x6 (some x10) none fun x11 =>
  calK run 80 [x11] σ fun x12 σ1 =>
  .ret (x12, σ1)

theorem eq90 (run : RunT) (fu : Nat) (x0 : AV) (σ : Store) : codeK X0 run (.seq .leaf (.seq .leaf .leaf)) (subC [] b90) ([x0] ++ padA (13 - 1)) σ k90 = c90 run fu x0 σ := by kernel_rfl

theorem ok90 {run : RunT} (hrun : RunOK X0 run) (fu : Nat) (x0 : AV) (σ : Store) : CallOK X0 90 [x0] σ (c90 run fu x0 σ) :=
  KOK.body (fn := Tryz.f90) (c := subC [] b90) (by kernel_rfl) (by kernel_rfl) (by show 1 ≤ 13; decide) (KOK.whole env0 hrun (eq90 run fu x0 σ) ⟨trivial, ⟨trivial, trivial⟩⟩)

-- pub-paratext/pub/rscmarkdown.skipSpace

noncomputable def b110 : Code := match Tryz.f110.body with | some c => c | none => .skip

noncomputable def k110 : Kont R := retK Tryz.prog [.tmp 4]

noncomputable def c110_1 (run : RunT) (fu : Nat) (x1 : AV) (σ : Store) : Tr R :=
  .ret (x1, σ)

theorem eq110_1 (run : RunT) (fu : Nat) (x1 : AV) (σ : Store) : codeK X0 run (.seq .leaf .leaf) (subC [true, true] b110) (frS 0 30 [(1, x1)]) σ k110 = c110_1 run fu x1 σ := by kernel_rfl

theorem ok110_1 {run : RunT} (hrun : RunOK X0 run) (fu : Nat) : ∀ fr σ, KOK X0 30 (subC [true, true] b110) fr σ ((fun fr σ => c110_1 run fu (G fr 1) σ) fr σ) k110 := fun fr σ =>
  KOK.piece env0 hrun [1] (eq110_1 run fu (G fr 1) σ) ⟨trivial, trivial⟩

noncomputable def c110_2b (run : RunT) (fu : Nat) (s2 : W2) (x0 x1 : AV) (σ : Store) : Tr R :=
  lenSK x0 fun x7 =>
  cmpK .lss x1 x7 fun x8 =>
  grdK x8 true σ (fun f => f x0 σ) fun x10 σ1 =>
  grdK x8 true σ1 (fun f => f x1 σ1) fun x11 σ2 =>
  grdK x8 true σ2 (fun f => idxSK x10 x11 fun v => f v σ2) fun x12 σ3 =>
  grdK x8 true σ3 (fun f => cmpK .eql x12 (.int .u8 32) fun v => f v σ3) fun x13 σ4 =>
  grdK x8 true σ4 (fun f => f x13 σ4) fun x14 σ5 =>
  grdK x14 false σ5 (fun f => f x0 σ5) fun x15 σ6 =>
  grdK x14 false σ6 (fun f => f x1 σ6) fun x16 σ7 =>
  grdK x14 false σ7 (fun f => idxSK x15 x16 fun v => f v σ7) fun x17 σ8 =>
  grdK x14 false σ8 (fun f => cmpK .eql x17 (.int .u8 9) fun v => f v σ8) fun x18 σ9 =>
  grdK x8 true σ9 (fun f => pickK x14 (.bool true) x18 fun v => f v σ9) fun x19 σ10 =>
  grdK x8 true σ10 (fun f => f x19 σ10) fun x20 σ11 =>
  grdK x20 false σ11 (fun f => f x0 σ11) fun x21 σ12 =>
  grdK x20 false σ12 (fun f => f x1 σ12) fun x22 σ13 =>
  grdK x20 false σ13 (fun f => idxSK x21 x22 fun v => f v σ13) fun x23 σ14 =>
  grdK x20 false σ14 (fun f => cmpK .eql x23 (.int .u8 10) fun v => f v σ14) fun x24 σ15 =>
  grdK x8 true σ15 (fun f => pickK x20 (.bool true) x24 fun v => f v σ15) fun x25 σ16 =>
  pickK x8 x25 (.bool false) fun x26 =>
  ifK x26 (
  .fail) (
  c110_1 run fu x1 σ16)

noncomputable def c110_2 (run : RunT) (fu : Nat) : Nat → W2
  | 0 => fun _ _ _ => .fail
  | m + 1 => c110_2b run fu (c110_2 run fu m)

theorem eq110_2 (run : RunT) (fu : Nat) (s2 : W2) (x0 x1 : AV) (σ : Store) : codeK X0 run (.seq (.seq .leaf (.cond (.sub deadK) .leaf)) .leaf) (subC [true, false, false, false] b110) (frS 0 30 [(0, x0), (1, x1)]) σ (thenK (fun fr σ => s2 (G fr 0) (G fr 1) σ) (blockK 0 (thenK (fun fr σ => c110_1 run fu (G fr 1) σ) k110))) = c110_2b run fu s2 x0 x1 σ := by kernel_rfl

theorem owed110_2 {run : RunT} (hrun : RunOK X0 run) (fu : Nat) (s2 : W2) : Owes X0 run 30 (.seq (.seq .leaf (.cond (.sub deadK) .leaf)) .leaf) (subC [true, false, false, false] b110) (thenK (fun fr σ => s2 (G fr 0) (G fr 1) σ) (blockK 0 (thenK (fun fr σ => c110_1 run fu (G fr 1) σ) k110))) :=
  ⟨⟨trivial, ⟨KOK.dead, trivial⟩⟩, trivial⟩

theorem ok110_2 {run : RunT} (hrun : RunOK X0 run) (fu : Nat) : ∀ fr σ, KOK X0 30 (subC [true, false, false] b110) fr σ ((fun fr σ => c110_2 run fu fu (G fr 0) (G fr 1) σ) fr σ) (blockK 0 (thenK (fun fr σ => c110_1 run fu (G fr 1) σ) k110)) := by
  have h := KOK.loop (X := X0) (N := 30) (b := (subC [true, false, false, false] b110)) (k := (blockK 0 (thenK (fun fr σ => c110_1 run fu (G fr 1) σ) k110))) (u := fun m fr σ => c110_2 run fu m (G fr 0) (G fr 1) σ) (fun _ _ => rfl) (fun m fr σ => KOK.piece env0 hrun [0, 1] (eq110_2 run fu (c110_2 run fu m) (G fr 0) (G fr 1) σ) (owed110_2 hrun fu (c110_2 run fu m)))
  exact fun fr σ => h fu fr σ

noncomputable def c110 (run : RunT) (fu : Nat) (x0 x1 : AV) (σ : Store) : Tr R :=
  c110_2 run fu fu x0 x1 σ

theorem eq110 (run : RunT) (fu : Nat) (x0 x1 : AV) (σ : Store) : codeK X0 run (.seq .leaf (.seq (.block (.sub (fun fr σ => c110_2 run fu fu (G fr 0) (G fr 1) σ))) (.sub (fun fr σ => c110_1 run fu (G fr 1) σ)))) (subC [] b110) ([x0, x1] ++ padA (30 - 2)) σ k110 = c110 run fu x0 x1 σ := by kernel_rfl

theorem ok110 {run : RunT} (hrun : RunOK X0 run) (fu : Nat) (x0 x1 : AV) (σ : Store) : CallOK X0 110 [x0, x1] σ (c110 run fu x0 x1 σ) :=
  KOK.body (fn := Tryz.f110) (c := subC [] b110) (by kernel_rfl) (by kernel_rfl) (by show 2 ≤ 30; decide) (KOK.whole env0 hrun (eq110 run fu x0 x1 σ) ⟨trivial, ⟨(ok110_2 hrun fu), (ok110_1 hrun fu)⟩⟩)

-- pub-paratext/pub/rscmarkdown.parseLinkLabel

noncomputable def b113 : Code := match Tryz.f113.body with | some c => c | none => .skip

noncomputable def k113 : Kont R := retK Tryz.prog [.tmp 6, .tmp 7, .tmp 8]

noncomputable def c113 (run : RunT) (fu : Nat) (x0 x1 x2 : AV) (σ : Store) : Tr R :=
  lenSK x1 fun x13 =>
  cmpK .geq x2 x13 fun x14 =>
  grdK x14 false σ (fun f => f x1 σ) fun x16 σ1 =>
  grdK x14 false σ1 (fun f => f x2 σ1) fun x17 σ2 =>
  grdK x14 false σ2 (fun f => idxSK x16 x17 fun v => f v σ2) fun x18 σ3 =>
  grdK x14 false σ3 (fun f => cmpK .neq x18 (.int .u8 91) fun v => f v σ3) fun x19 σ4 =>
  pickK x14 (.bool true) x19 fun x20 =>
  ifK x20 (
  .ret (.tup [(.str []), (.int .i64 0), (.bool false)], σ4)) (
  .fail)

theorem eq113 (run : RunT) (fu : Nat) (x0 x1 x2 : AV) (σ : Store) : codeK X0 run (.seq .leaf (.seq (.seq .leaf (.cond (.seq .leaf .leaf) (.sub deadK))) .leaf)) (subC [] b113) ([x0, x1, x2] ++ padA (69 - 3)) σ k113 = c113 run fu x0 x1 x2 σ := by kernel_rfl

theorem ok113 {run : RunT} (hrun : RunOK X0 run) (fu : Nat) (x0 x1 x2 : AV) (σ : Store) : CallOK X0 113 [x0, x1, x2] σ (c113 run fu x0 x1 x2 σ) :=
  KOK.body (fn := Tryz.f113) (c := subC [] b113) (by kernel_rfl) (by kernel_rfl) (by show 3 ≤ 69; decide) (KOK.whole env0 hrun (eq113 run fu x0 x1 x2 σ) ⟨trivial, ⟨⟨trivial, ⟨⟨trivial, trivial⟩, KOK.dead⟩⟩, trivial⟩⟩)

-- pub-paratext/pub/rscmarkdown.toPlain

noncomputable def b117 : Code := match Tryz.f117.body with | some c => c | none => .skip

noncomputable def k117 : Kont R := retK Tryz.prog [.tmp 2]

noncomputable def c117 (run : RunT) (fu : Nat) (x0 : AV) (σ : Store) : Tr R :=
  tasK (some .nilp) 150 true x0 fun x7 =>
  extK x7 1 fun x8 =>
  extK x7 0 fun x9 =>
  ifK x8 (
  .ret (x9, σ)) (
  .fail)

theorem eq117 (run : RunT) (fu : Nat) (x0 : AV) (σ : Store) : codeK X0 run (.seq .leaf (.seq (.seq .leaf (.block (.seq .leaf (.cond (.seq .leaf (.seq .leaf .leaf)) (.sub deadK))))) .leaf)) (subC [] b117) ([x0] ++ padA (23 - 1)) σ k117 = c117 run fu x0 σ := by kernel_rfl

theorem ok117 {run : RunT} (hrun : RunOK X0 run) (fu : Nat) (x0 : AV) (σ : Store) : CallOK X0 117 [x0] σ (c117 run fu x0 σ) :=
  KOK.body (fn := Tryz.f117) (c := subC [] b117) (by kernel_rfl) (by kernel_rfl) (by show 1 ≤ 23; decide) (KOK.whole env0 hrun (eq117 run fu x0 σ) ⟨trivial, ⟨⟨trivial, ⟨trivial, ⟨⟨trivial, ⟨trivial, trivial⟩⟩, KOK.dead⟩⟩⟩, trivial⟩⟩)

end Go.Proofs.YtfmgdjkcdmjloaaGreatDoor
