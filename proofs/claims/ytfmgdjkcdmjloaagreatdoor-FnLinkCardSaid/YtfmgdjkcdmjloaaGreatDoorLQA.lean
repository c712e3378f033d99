/- Functions of the program, told as Lean functions of abstract values and stores, each with its proof. -/
import Derived.Test.YtfmgdjkcdmjloaaGreatDoorSzX
import Derived.Test.YtfmgdjkcdmjloaaGreatDoorSzRe
import Derived.Test.YtfmgdjkcdmjloaaGreatDoorSzAb
set_option linter.unusedVariables false
set_option linter.unusedSimpArgs false
namespace Go.Proofs.YtfmgdjkcdmjloaaGreatDoor
open Go.AM
-- pub-paratext/laws.FnLink

noncomputable def b7 : Code := match Tryz.f7.body with | some c => c | none => .skip

noncomputable def k7 : Kont R := retK Tryz.prog [.tmp 6]

noncomputable def c7_1 (run : RunT) (fu : Nat) (x0 x1 x2 x8 : AV) (σ : Store) : Tr R :=
  calK run 18 [x0] σ fun x50 σ1 =>
  catK (.str [91, 116, 93, 40]) x50 fun x51 =>
  catK x51 (.str [32, 34]) fun x52 =>
  calK run 20 [x8] σ1 fun x53 σ2 =>
  catK x52 x53 fun x54 =>
  catK x54 (.str [34, 41]) fun x55 =>
  ifK x2 (
  bldK [(.bool false), (.bool false), (.bool false), (.bool false), (.bool false), (.bool false), (.bool false), (.bool false), (.bool false), (.bool false)] [] fun x57 =>
  catK (.str [33]) x55 fun x59 =>
  calK run 12 [x57, x59] σ2 fun x60 σ3 =>
  calK run 21 [x0] σ3 fun x62 σ4 =>
  catK (.str [60, 112, 62, 60, 105, 109, 103, 32, 115, 114, 99, 61, 34]) x62 fun x63 =>
  catK x63 (.str [34, 32, 97, 108, 116, 61, 34, 116, 34, 32, 116, 105, 116, 108, 101, 61, 34]) fun x64 =>
  calK run 22 [x1] σ4 fun x66 σ5 =>
  catK x64 x66 fun x67 =>
  catK x67 (.str [34, 32, 47, 62, 60, 47, 112, 62, 10]) fun x68 =>
  eqSK x60 x68 fun x69 =>
  .ret (x69, σ5)) (
  bldK [(.bool false), (.bool false), (.bool false), (.bool false), (.bool false), (.bool false), (.bool false), (.bool false), (.bool false), (.bool false)] [] fun x70 =>
  calK run 12 [x70, x55] σ2 fun x72 σ6 =>
  calK run 21 [x0] σ6 fun x74 σ7 =>
  catK (.str [60, 112, 62, 60, 97, 32, 104, 114, 101, 102, 61, 34]) x74 fun x75 =>
  catK x75 (.str [34, 32, 116, 105, 116, 108, 101, 61, 34]) fun x76 =>
  calK run 22 [x1] σ7 fun x78 σ8 =>
  catK x76 x78 fun x79 =>
  catK x79 (.str [34, 62, 116, 60, 47, 97, 62, 60, 47, 112, 62, 10]) fun x80 =>
  eqSK x72 x80 fun x81 =>
  .ret (x81, σ8))

theorem eq7_1 (run : RunT) (fu : Nat) (x0 x1 x2 x8 : AV) (σ : Store) : codeK X0 run (.seq .leaf (.seq (.seq .leaf (.cond (.seq .leaf .leaf) .leaf)) (.seq .leaf .leaf))) (subC [true, true, true, true, true, true] b7) (frS 0 82 [(0, x0), (1, x1), (2, x2), (8, x8)]) σ k7 = c7_1 run fu x0 x1 x2 x8 σ := by kernel_rfl

theorem ok7_1 {run : RunT} (hrun : RunOK X0 run) (fu : Nat) : ∀ fr σ, KOK X0 82 (subC [true, true, true, true, true, true] b7) fr σ ((fun fr σ => c7_1 run fu (G fr 0) (G fr 1) (G fr 2) (G fr 8) σ) fr σ) k7 := fun fr σ =>
  KOK.piece env0 hrun [0, 1, 2, 8] (eq7_1 run fu (G fr 0) (G fr 1) (G fr 2) (G fr 8) σ) ⟨trivial, ⟨⟨trivial, ⟨⟨trivial, trivial⟩, trivial⟩⟩, ⟨trivial, trivial⟩⟩⟩

noncomputable def c7_3 (run : RunT) (fu : Nat) (s2 : W6) (x0 x1 x2 x7 x8 x9 : AV) (σ : Store) : Tr R :=
  addK x9 (.int .i64 1) fun x39 =>
  s2 x0 x1 x2 x7 x8 x39 σ

theorem eq7_3 (run : RunT) (fu : Nat) (s2 : W6) (x0 x1 x2 x7 x8 x9 : AV) (σ : Store) : codeK X0 run .leaf (subC [true, true, true, true, true, false, true, false, false, true, true] b7) (frS 0 82 [(0, x0), (1, x1), (2, x2), (7, x7), (8, x8), (9, x9)]) σ (thenK (fun fr σ => s2 (G fr 0) (G fr 1) (G fr 2) (G fr 7) (G fr 8) (G fr 9) σ) (blockK 0 (thenK (fun fr σ => c7_1 run fu (G fr 0) (G fr 1) (G fr 2) (G fr 8) σ) k7))) = c7_3 run fu s2 x0 x1 x2 x7 x8 x9 σ := by kernel_rfl

theorem ok7_3 {run : RunT} (hrun : RunOK X0 run) (fu : Nat) (s2 : W6) : ∀ fr σ, KOK X0 82 (subC [true, true, true, true, true, false, true, false, false, true, true] b7) fr σ ((fun fr σ => c7_3 run fu s2 (G fr 0) (G fr 1) (G fr 2) (G fr 7) (G fr 8) (G fr 9) σ) fr σ) (thenK (fun fr σ => s2 (G fr 0) (G fr 1) (G fr 2) (G fr 7) (G fr 8) (G fr 9) σ) (blockK 0 (thenK (fun fr σ => c7_1 run fu (G fr 0) (G fr 1) (G fr 2) (G fr 8) σ) k7))) := fun fr σ =>
  KOK.piece env0 hrun [0, 1, 2, 7, 8, 9] (eq7_3 run fu s2 (G fr 0) (G fr 1) (G fr 2) (G fr 7) (G fr 8) (G fr 9) σ) trivial

noncomputable def c7_4 (run : RunT) (fu : Nat) (s2 : W6) (x0 x1 x2 x7 x8 x9 : AV) (σ : Store) : Tr R :=
  idxSK x7 x9 fun x47 =>
  calK run 19 [x8, x47] σ fun x48 σ1 =>
  c7_3 run fu s2 x0 x1 x2 x7 x8 x9 σ1

theorem eq7_4 (run : RunT) (fu : Nat) (s2 : W6) (x0 x1 x2 x7 x8 x9 : AV) (σ : Store) : codeK X0 run .leaf (subC [true, true, true, true, true, false, true, false, false, true, false, false, true] b7) (frS 0 82 [(0, x0), (1, x1), (2, x2), (7, x7), (8, x8), (9, x9)]) σ (blockK 1 (thenK (fun fr σ => c7_3 run fu s2 (G fr 0) (G fr 1) (G fr 2) (G fr 7) (G fr 8) (G fr 9) σ) (thenK (fun fr σ => s2 (G fr 0) (G fr 1) (G fr 2) (G fr 7) (G fr 8) (G fr 9) σ) (blockK 0 (thenK (fun fr σ => c7_1 run fu (G fr 0) (G fr 1) (G fr 2) (G fr 8) σ) k7))))) = c7_4 run fu s2 x0 x1 x2 x7 x8 x9 σ := by kernel_rfl

theorem ok7_4 {run : RunT} (hrun : RunOK X0 run) (fu : Nat) (s2 : W6) : ∀ fr σ, KOK X0 82 (subC [true, true, true, true, true, false, true, false, false, true, false, false, true] b7) fr σ ((fun fr σ => c7_4 run fu s2 (G fr 0) (G fr 1) (G fr 2) (G fr 7) (G fr 8) (G fr 9) σ) fr σ) (blockK 1 (thenK (fun fr σ => c7_3 run fu s2 (G fr 0) (G fr 1) (G fr 2) (G fr 7) (G fr 8) (G fr 9) σ) (thenK (fun fr σ => s2 (G fr 0) (G fr 1) (G fr 2) (G fr 7) (G fr 8) (G fr 9) σ) (blockK 0 (thenK (fun fr σ => c7_1 run fu (G fr 0) (G fr 1) (G fr 2) (G fr 8) σ) k7))))) := fun fr σ =>
  KOK.piece env0 hrun [0, 1, 2, 7, 8, 9] (eq7_4 run fu s2 (G fr 0) (G fr 1) (G fr 2) (G fr 7) (G fr 8) (G fr 9) σ) trivial

noncomputable def c7_2b (run : RunT) (fu : Nat) (s2 : W6) (x0 x1 x2 x7 x8 x9 : AV) (σ : Store) : Tr R :=
  addK x9 (.int .i64 1) fun x34 =>
  lenSK x7 fun x36 =>
  cmpK .lss x34 x36 fun x37 =>
  ifK x37 (
  idxSK x7 x9 fun x42 =>
  cmpK .eql x42 (.int .u8 34) fun x43 =>
  ifK x43 (
  calK run 19 [x8, (.int .u8 92)] σ fun x44 σ1 =>
  c7_4 run fu s2 x0 x1 x2 x7 x8 x9 σ1) (
  c7_4 run fu s2 x0 x1 x2 x7 x8 x9 σ)) (
  c7_1 run fu x0 x1 x2 x8 σ)

noncomputable def c7_2 (run : RunT) (fu : Nat) : Nat → W6
  | 0 => fun _ _ _ _ _ _ _ => .fail
  | m + 1 => c7_2b run fu (c7_2 run fu m)

theorem eq7_2 (run : RunT) (fu : Nat) (s2 : W6) (x0 x1 x2 x7 x8 x9 : AV) (σ : Store) : codeK X0 run (.seq (.seq .leaf (.cond .leaf .leaf)) (.seq (.block (.seq (.seq .leaf (.cond .leaf .leaf)) (.sub (fun fr σ => c7_4 run fu s2 (G fr 0) (G fr 1) (G fr 2) (G fr 7) (G fr 8) (G fr 9) σ)))) (.sub (fun fr σ => c7_3 run fu s2 (G fr 0) (G fr 1) (G fr 2) (G fr 7) (G fr 8) (G fr 9) σ)))) (subC [true, true, true, true, true, false, true, false, false] b7) (frS 0 82 [(0, x0), (1, x1), (2, x2), (7, x7), (8, x8), (9, x9)]) σ (thenK (fun fr σ => s2 (G fr 0) (G fr 1) (G fr 2) (G fr 7) (G fr 8) (G fr 9) σ) (blockK 0 (thenK (fun fr σ => c7_1 run fu (G fr 0) (G fr 1) (G fr 2) (G fr 8) σ) k7))) = c7_2b run fu s2 x0 x1 x2 x7 x8 x9 σ := by kernel_rfl

theorem owed7_2 {run : RunT} (hrun : RunOK X0 run) (fu : Nat) (s2 : W6) : Owes X0 run 82 (.seq (.seq .leaf (.cond .leaf .leaf)) (.seq (.block (.seq (.seq .leaf (.cond .leaf .leaf)) (.sub (fun fr σ => c7_4 run fu s2 (G fr 0) (G fr 1) (G fr 2) (G fr 7) (G fr 8) (G fr 9) σ)))) (.sub (fun fr σ => c7_3 run fu s2 (G fr 0) (G fr 1) (G fr 2) (G fr 7) (G fr 8) (G fr 9) σ)))) (subC [true, true, true, true, true, false, true, false, false] b7) (thenK (fun fr σ => s2 (G fr 0) (G fr 1) (G fr 2) (G fr 7) (G fr 8) (G fr 9) σ) (blockK 0 (thenK (fun fr σ => c7_1 run fu (G fr 0) (G fr 1) (G fr 2) (G fr 8) σ) k7))) :=
  ⟨⟨trivial, ⟨trivial, trivial⟩⟩, ⟨⟨⟨trivial, ⟨trivial, trivial⟩⟩, (ok7_4 hrun fu s2)⟩, (ok7_3 hrun fu s2)⟩⟩

theorem ok7_2 {run : RunT} (hrun : RunOK X0 run) (fu : Nat) : ∀ fr σ, KOK X0 82 (subC [true, true, true, true, true, false, true, false] b7) fr σ ((fun fr σ => c7_2 run fu fu (G fr 0) (G fr 1) (G fr 2) (G fr 7) (G fr 8) (G fr 9) σ) fr σ) (blockK 0 (thenK (fun fr σ => c7_1 run fu (G fr 0) (G fr 1) (G fr 2) (G fr 8) σ) k7)) := by
  have h := KOK.loop (X := X0) (N := 82) (b := (subC [true, true, true, true, true, false, true, false, false] b7)) (k := (blockK 0 (thenK (fun fr σ => c7_1 run fu (G fr 0) (G fr 1) (G fr 2) (G fr 8) σ) k7))) (u := fun m fr σ => c7_2 run fu m (G fr 0) (G fr 1) (G fr 2) (G fr 7) (G fr 8) (G fr 9) σ) (fun _ _ => rfl) (fun m fr σ => KOK.piece env0 hrun [0, 1, 2, 7, 8, 9] (eq7_2 run fu (c7_2 run fu m) (G fr 0) (G fr 1) (G fr 2) (G fr 7) (G fr 8) (G fr 9) σ) (owed7_2 hrun fu (c7_2 run fu m)))
  exact fun fr σ => h fu fr σ

noncomputable def c7_5 (run : RunT) (fu : Nat) (s2 : W6) (x0 x1 x2 x7 x8 x9 : AV) (σ : Store) : Tr R :=
  addK x9 (.int .i64 1) fun x39 =>
  s2 x0 x1 x2 x7 x8 x39 σ

theorem eq7_5 (run : RunT) (fu : Nat) (s2 : W6) (x0 x1 x2 x7 x8 x9 : AV) (σ : Store) : codeK X0 run .leaf (subC [true, true, true, true, true, false, true, false, false, true, true] b7) (frS 0 82 [(0, x0), (1, x1), (2, x2), (7, x7), (8, x8), (9, x9)]) σ (thenK (fun fr σ => s2 (G fr 0) (G fr 1) (G fr 2) (G fr 7) (G fr 8) (G fr 9) σ) failK) = c7_5 run fu s2 x0 x1 x2 x7 x8 x9 σ := by kernel_rfl

theorem ok7_5 {run : RunT} (hrun : RunOK X0 run) (fu : Nat) (s2 : W6) : ∀ fr σ, KOK X0 82 (subC [true, true, true, true, true, false, true, false, false, true, true] b7) fr σ ((fun fr σ => c7_5 run fu s2 (G fr 0) (G fr 1) (G fr 2) (G fr 7) (G fr 8) (G fr 9) σ) fr σ) (thenK (fun fr σ => s2 (G fr 0) (G fr 1) (G fr 2) (G fr 7) (G fr 8) (G fr 9) σ) failK) := fun fr σ =>
  KOK.piece env0 hrun [0, 1, 2, 7, 8, 9] (eq7_5 run fu s2 (G fr 0) (G fr 1) (G fr 2) (G fr 7) (G fr 8) (G fr 9) σ) trivial

noncomputable def c7_6 (run : RunT) (fu : Nat) (s2 : W6) (x0 x1 x2 x7 x8 x9 : AV) (σ : Store) : Tr R :=
  idxSK x7 x9 fun x47 =>
  calK run 19 [x8, x47] σ fun x48 σ1 =>
  c7_5 run fu s2 x0 x1 x2 x7 x8 x9 σ1

theorem eq7_6 (run : RunT) (fu : Nat) (s2 : W6) (x0 x1 x2 x7 x8 x9 : AV) (σ : Store) : codeK X0 run .leaf (subC [true, true, true, true, true, false, true, false, false, true, false, false, true] b7) (frS 0 82 [(0, x0), (1, x1), (2, x2), (7, x7), (8, x8), (9, x9)]) σ (blockK 1 (thenK (fun fr σ => c7_5 run fu s2 (G fr 0) (G fr 1) (G fr 2) (G fr 7) (G fr 8) (G fr 9) σ) (thenK (fun fr σ => s2 (G fr 0) (G fr 1) (G fr 2) (G fr 7) (G fr 8) (G fr 9) σ) failK))) = c7_6 run fu s2 x0 x1 x2 x7 x8 x9 σ := by kernel_rfl

theorem ok7_6 {run : RunT} (hrun : RunOK X0 run) (fu : Nat) (s2 : W6) : ∀ fr σ, KOK X0 82 (subC [true, true, true, true, true, false, true, false, false, true, false, false, true] b7) fr σ ((fun fr σ => c7_6 run fu s2 (G fr 0) (G fr 1) (G fr 2) (G fr 7) (G fr 8) (G fr 9) σ) fr σ) (blockK 1 (thenK (fun fr σ => c7_5 run fu s2 (G fr 0) (G fr 1) (G fr 2) (G fr 7) (G fr 8) (G fr 9) σ) (thenK (fun fr σ => s2 (G fr 0) (G fr 1) (G fr 2) (G fr 7) (G fr 8) (G fr 9) σ) failK))) := fun fr σ =>
  KOK.piece env0 hrun [0, 1, 2, 7, 8, 9] (eq7_6 run fu s2 (G fr 0) (G fr 1) (G fr 2) (G fr 7) (G fr 8) (G fr 9) σ) trivial

noncomputable def c7_2x (run : RunT) (fu : Nat) (s2 : W6) (x0 x1 x2 x7 x8 x9 : AV) (σ : Store) : Tr R :=
  addK x9 (.int .i64 1) fun x34 =>
  lenSK x7 fun x36 =>
  cmpK .lss x34 x36 fun x37 =>
  ifK x37 (
  idxSK x7 x9 fun x42 =>
  cmpK .eql x42 (.int .u8 34) fun x43 =>
  ifK x43 (
  calK run 19 [x8, (.int .u8 92)] σ fun x44 σ1 =>
  c7_6 run fu s2 x0 x1 x2 x7 x8 x9 σ1) (
  c7_6 run fu s2 x0 x1 x2 x7 x8 x9 σ)) (
  .fail)

theorem eq7_2x (run : RunT) (fu : Nat) (s2 : W6) (x0 x1 x2 x7 x8 x9 : AV) (σ : Store) : codeK X0 run (.seq (.seq .leaf (.cond .leaf .leaf)) (.seq (.block (.seq (.seq .leaf (.cond .leaf .leaf)) (.sub (fun fr σ => c7_6 run fu s2 (G fr 0) (G fr 1) (G fr 2) (G fr 7) (G fr 8) (G fr 9) σ)))) (.sub (fun fr σ => c7_5 run fu s2 (G fr 0) (G fr 1) (G fr 2) (G fr 7) (G fr 8) (G fr 9) σ)))) (subC [true, true, true, true, true, false, true, false, false] b7) (frS 0 82 [(0, x0), (1, x1), (2, x2), (7, x7), (8, x8), (9, x9)]) σ (thenK (fun fr σ => s2 (G fr 0) (G fr 1) (G fr 2) (G fr 7) (G fr 8) (G fr 9) σ) failK) = c7_2x run fu s2 x0 x1 x2 x7 x8 x9 σ := by kernel_rfl

theorem owed7_2x {run : RunT} (hrun : RunOK X0 run) (fu : Nat) (s2 : W6) : Owes X0 run 82 (.seq (.seq .leaf (.cond .leaf .leaf)) (.seq (.block (.seq (.seq .leaf (.cond .leaf .leaf)) (.sub (fun fr σ => c7_6 run fu s2 (G fr 0) (G fr 1) (G fr 2) (G fr 7) (G fr 8) (G fr 9) σ)))) (.sub (fun fr σ => c7_5 run fu s2 (G fr 0) (G fr 1) (G fr 2) (G fr 7) (G fr 8) (G fr 9) σ)))) (subC [true, true, true, true, true, false, true, false, false] b7) (thenK (fun fr σ => s2 (G fr 0) (G fr 1) (G fr 2) (G fr 7) (G fr 8) (G fr 9) σ) failK) :=
  ⟨⟨trivial, ⟨trivial, trivial⟩⟩, ⟨⟨⟨trivial, ⟨trivial, trivial⟩⟩, (ok7_6 hrun fu s2)⟩, (ok7_5 hrun fu s2)⟩⟩

noncomputable def c7_2s (run : RunT) (fu : Nat) : Nat → List AV → Store → Tr R :=
  sweepN 4 (sweepC 4 1 5 (sweepR (planOf (some 4) 3 5 [] [] [] [101]) (planR 101 2 5) (fun t2 xs σ => c7_2b run fu (fun y0 y1 y2 y7 y8 y9 σ => t2 [y0, y1, y2, y7, y8, y9] σ) (xs.getD 0 .any) (xs.getD 1 .any) (xs.getD 2 .any) (xs.getD 3 .any) (xs.getD 4 .any) (xs.getD 5 .any) σ) (fun t2 xs σ => c7_2x run fu (fun y0 y1 y2 y7 y8 y9 σ => t2 [y0, y1, y2, y7, y8, y9] σ) (xs.getD 0 .any) (xs.getD 1 .any) (xs.getD 2 .any) (xs.getD 3 .any) (xs.getD 4 .any) (xs.getD 5 .any) σ)))

theorem ok7_2s {run : RunT} (hrun : RunOK X0 run) (fu : Nat) : ∀ fr σ, KOK X0 82 (subC [true, true, true, true, true, false, true, false] b7) fr σ ((fun fr σ => c7_2s run fu fu [fr.getD 0 .any, fr.getD 1 .any, fr.getD 2 .any, fr.getD 7 .any, fr.getD 8 .any, fr.getD 9 .any] σ) fr σ) (blockK 0 (thenK (fun fr σ => c7_1 run fu (G fr 0) (G fr 1) (G fr 2) (G fr 8) σ) k7)) := by
  have h := KOK.sweepN 4 (KOK.sweepC 4 1 5 (KOK.sweepRow (X := X0) (N := 82) (b := (subC [true, true, true, true, true, false, true, false, false] b7)) (k := (blockK 0 (thenK (fun fr σ => c7_1 run fu (G fr 0) (G fr 1) (G fr 2) (G fr 8) σ) k7))) (js := [0, 1, 2, 7, 8, 9]) (body := (fun t2 xs σ => c7_2b run fu (fun y0 y1 y2 y7 y8 y9 σ => t2 [y0, y1, y2, y7, y8, y9] σ) (xs.getD 0 .any) (xs.getD 1 .any) (xs.getD 2 .any) (xs.getD 3 .any) (xs.getD 4 .any) (xs.getD 5 .any) σ)) (bodyx := (fun t2 xs σ => c7_2x run fu (fun y0 y1 y2 y7 y8 y9 σ => t2 [y0, y1, y2, y7, y8, y9] σ) (xs.getD 0 .any) (xs.getD 1 .any) (xs.getD 2 .any) (xs.getD 3 .any) (xs.getD 4 .any) (xs.getD 5 .any) σ)) rfl (planOf (some 4) 3 5 [] [] [] [101]) (planR 101 2 5) (fun t2 fr σ => KOK.piece env0 hrun [0, 1, 2, 7, 8, 9] (eq7_2 run fu (fun y0 y1 y2 y7 y8 y9 σ => t2 [y0, y1, y2, y7, y8, y9] σ) (G fr 0) (G fr 1) (G fr 2) (G fr 7) (G fr 8) (G fr 9) σ) (owed7_2 hrun fu (fun y0 y1 y2 y7 y8 y9 σ => t2 [y0, y1, y2, y7, y8, y9] σ))) (fun t2 fr σ => KOK.piece env0 hrun [0, 1, 2, 7, 8, 9] (eq7_2x run fu (fun y0 y1 y2 y7 y8 y9 σ => t2 [y0, y1, y2, y7, y8, y9] σ) (G fr 0) (G fr 1) (G fr 2) (G fr 7) (G fr 8) (G fr 9) σ) (owed7_2x hrun fu (fun y0 y1 y2 y7 y8 y9 σ => t2 [y0, y1, y2, y7, y8, y9] σ)))))
  exact fun fr σ => h fu fr σ

noncomputable def c7 (run : RunT) (fu : Nat) (x0 x1 x2 : AV) (σ : Store) : Tr R :=
  lenSK x0 fun x12 =>
  cmpK .gtr x12 (.int .i64 2147483647) fun x13 =>
  grdK x13 false σ (fun f => f x1 σ) fun x15 σ1 =>
  grdK x13 false σ1 (fun f => lenSK x15 fun v => f v σ1) fun x16 σ2 =>
  grdK x13 false σ2 (fun f => cmpK .gtr x16 (.int .i64 2147483647) fun v => f v σ2) fun x17 σ3 =>
  pickK x13 (.bool true) x17 fun x18 =>
  ifK x18 (
  .ret ((.bool true), σ3)) (
  calK run 17 [x0, (.int .i64 60)] σ3 fun x20 σ4 =>
  notK x20 fun x21 =>
  grdK x21 false σ4 (fun f => f x1 σ4) fun x23 σ5 =>
  grdK x21 false σ5 (fun f => calK run 17 [x23, (.int .i64 60)] σ5 f) fun x24 σ6 =>
  grdK x21 false σ6 (fun f => notK x24 fun v => f v σ6) fun x25 σ7 =>
  pickK x21 (.bool true) x25 fun x26 =>
  grdK x26 false σ7 (fun f => f x1 σ7) fun x28 σ8 =>
  grdK x26 false σ8 (fun f => eqSK x28 (.str []) fun v => f v σ8) fun x29 σ9 =>
  pickK x26 (.bool true) x29 fun x30 =>
  ifK x30 (
  .ret ((.bool true), σ9)) (
  calK run 18 [x1] σ9 fun x32 σ10 =>
  newK σ10 73 [.nilp, .nils] fun x8 σ11 =>
  c7_2s run fu fu [x0, x1, x2, x32, x8, (.int .i64 1)] σ11))

theorem eq7 (run : RunT) (fu : Nat) (x0 x1 x2 : AV) (σ : Store) : codeK X0 run (.seq .leaf (.seq (.seq .leaf (.cond (.seq .leaf .leaf) .leaf)) (.seq (.seq .leaf (.cond (.seq .leaf .leaf) .leaf)) (.seq .leaf (.seq .leaf (.seq (.seq .leaf (.block (.sub (fun fr σ => c7_2s run fu fu [fr.getD 0 .any, fr.getD 1 .any, fr.getD 2 .any, fr.getD 7 .any, fr.getD 8 .any, fr.getD 9 .any] σ)))) (.sub (fun fr σ => c7_1 run fu (G fr 0) (G fr 1) (G fr 2) (G fr 8) σ)))))))) (subC [] b7) ([x0, x1, x2] ++ padA (82 - 3)) σ k7 = c7 run fu x0 x1 x2 σ := by kernel_rfl

theorem ok7 {run : RunT} (hrun : RunOK X0 run) (fu : Nat) (x0 x1 x2 : AV) (σ : Store) : CallOK X0 7 [x0, x1, x2] σ (c7 run fu x0 x1 x2 σ) :=
  KOK.body (fn := Tryz.f7) (c := subC [] b7) (by kernel_rfl) (by kernel_rfl) (by show 3 ≤ 82; decide) (KOK.whole env0 hrun (eq7 run fu x0 x1 x2 σ) ⟨trivial, ⟨⟨trivial, ⟨⟨trivial, trivial⟩, trivial⟩⟩, ⟨⟨trivial, ⟨⟨trivial, trivial⟩, trivial⟩⟩, ⟨trivial, ⟨trivial, ⟨⟨trivial, (ok7_2s hrun fu)⟩, (ok7_1 hrun fu)⟩⟩⟩⟩⟩⟩)

-- pub-paratext/impl.HTML

noncomputable def b12 : Code := match Tryz.f12.body with | some c => c | none => .skip

noncomputable def k12 : Kont R := retK Tryz.prog [.tmp 4]

noncomputable def c12 (run : RunT) (fu : Nat) (x0 x1 : AV) (σ : Store) : Tr R :=
  boxK σ 51 x0 fun x2 σ1 =>
  ldNK σ1 x2 10 fun x5 =>
  calK run 26 [x5] σ1 fun x6 σ2 =>
  calK run 27 [x6, x1] σ2 fun x8 σ3 =>
  calK run 25 [(.iface 48 x8)] σ3 fun x10 σ4 =>
  .ret (x10, σ4)

theorem eq12 (run : RunT) (fu : Nat) (x0 x1 : AV) (σ : Store) : codeK X0 run (.seq .leaf (.seq .leaf .leaf)) (subC [] b12) ([x0, x1] ++ padA (11 - 2)) σ k12 = c12 run fu x0 x1 σ := by kernel_rfl

theorem ok12 {run : RunT} (hrun : RunOK X0 run) (fu : Nat) (x0 x1 : AV) (σ : Store) : CallOK X0 12 [x0, x1] σ (c12 run fu x0 x1 σ) :=
  KOK.body (fn := Tryz.f12) (c := subC [] b12) (by kernel_rfl) (by kernel_rfl) (by show 2 ≤ 11; decide) (KOK.whole env0 hrun (eq12 run fu x0 x1 σ) ⟨trivial, ⟨trivial, trivial⟩⟩)

-- pub-paratext/laws.printable

noncomputable def b17 : Code := match Tryz.f17.body with | some c => c | none => .skip

noncomputable def k17 : Kont R := retK Tryz.prog [.tmp 4]

noncomputable def c17_1 (run : RunT) (fu : Nat) (σ : Store) : Tr R :=
  .ret ((.bool true), σ)

theorem eq17_1 (run : RunT) (fu : Nat) (σ : Store) : codeK X0 run (.seq .leaf .leaf) (subC [true, true, true] b17) (frS 0 26 []) σ k17 = c17_1 run fu σ := by kernel_rfl

theorem ok17_1 {run : RunT} (hrun : RunOK X0 run) (fu : Nat) : ∀ fr σ, KOK X0 26 (subC [true, true, true] b17) fr σ ((fun fr σ => c17_1 run fu σ) fr σ) k17 := fun fr σ =>
  KOK.piece env0 hrun [] (eq17_1 run fu σ) ⟨trivial, trivial⟩

noncomputable def c17_2b (run : RunT) (fu : Nat) (s2 : W3) (x0 x11 x12 : AV) (σ : Store) : Tr R :=
  cmpK .lss x12 x11 fun x13 =>
  ifK x13 (
  idxSK x0 x12 fun x17 =>
  cmpK .lss x17 (.int .u8 32) fun x18 =>
  grdK x18 false σ (fun f => f x0 σ) fun x20 σ1 =>
  grdK x18 false σ1 (fun f => f x12 σ1) fun x21 σ2 =>
  grdK x18 false σ2 (fun f => idxSK x20 x21 fun v => f v σ2) fun x22 σ3 =>
  grdK x18 false σ3 (fun f => cmpK .gtr x22 (.int .u8 126) fun v => f v σ3) fun x23 σ4 =>
  pickK x18 (.bool true) x23 fun x24 =>
  ifK x24 (
  .ret ((.bool false), σ4)) (
  addK x12 (.int .i64 1) fun x25 =>
  s2 x0 x11 x25 σ4)) (
  c17_1 run fu σ)

noncomputable def c17_2 (run : RunT) (fu : Nat) : Nat → W3
  | 0 => fun _ _ _ _ => .fail
  | m + 1 => c17_2b run fu (c17_2 run fu m)

theorem eq17_2 (run : RunT) (fu : Nat) (s2 : W3) (x0 x11 x12 : AV) (σ : Store) : codeK X0 run (.seq .leaf (.seq (.cond .leaf .leaf) (.seq (.block (.seq .leaf (.seq .leaf (.cond (.seq .leaf .leaf) .leaf)))) .leaf))) (subC [true, true, false, true, false, false] b17) (frS 0 26 [(0, x0), (11, x11), (12, x12)]) σ (thenK (fun fr σ => s2 (G fr 0) (G fr 11) (G fr 12) σ) (blockK 0 (thenK (fun fr σ => c17_1 run fu σ) k17))) = c17_2b run fu s2 x0 x11 x12 σ := by kernel_rfl

theorem owed17_2 {run : RunT} (hrun : RunOK X0 run) (fu : Nat) (s2 : W3) : Owes X0 run 26 (.seq .leaf (.seq (.cond .leaf .leaf) (.seq (.block (.seq .leaf (.seq .leaf (.cond (.seq .leaf .leaf) .leaf)))) .leaf))) (subC [true, true, false, true, false, false] b17) (thenK (fun fr σ => s2 (G fr 0) (G fr 11) (G fr 12) σ) (blockK 0 (thenK (fun fr σ => c17_1 run fu σ) k17))) :=
  ⟨trivial, ⟨⟨trivial, trivial⟩, ⟨⟨trivial, ⟨trivial, ⟨⟨trivial, trivial⟩, trivial⟩⟩⟩, trivial⟩⟩⟩

theorem ok17_2 {run : RunT} (hrun : RunOK X0 run) (fu : Nat) : ∀ fr σ, KOK X0 26 (subC [true, true, false, true, false] b17) fr σ ((fun fr σ => c17_2 run fu fu (G fr 0) (G fr 11) (G fr 12) σ) fr σ) (blockK 0 (thenK (fun fr σ => c17_1 run fu σ) k17)) := by
  have h := KOK.loop (X := X0) (N := 26) (b := (subC [true, true, false, true, false, false] b17)) (k := (blockK 0 (thenK (fun fr σ => c17_1 run fu σ) k17))) (u := fun m fr σ => c17_2 run fu m (G fr 0) (G fr 11) (G fr 12) σ) (fun _ _ => rfl) (fun m fr σ => KOK.piece env0 hrun [0, 11, 12] (eq17_2 run fu (c17_2 run fu m) (G fr 0) (G fr 11) (G fr 12) σ) (owed17_2 hrun fu (c17_2 run fu m)))
  exact fun fr σ => h fu fr σ

noncomputable def c17_2x (run : RunT) (fu : Nat) (s2 : W3) (x0 x11 x12 : AV) (σ : Store) : Tr R :=
  cmpK .lss x12 x11 fun x13 =>
  ifK x13 (
  idxSK x0 x12 fun x17 =>
  cmpK .lss x17 (.int .u8 32) fun x18 =>
  grdK x18 false σ (fun f => f x0 σ) fun x20 σ1 =>
  grdK x18 false σ1 (fun f => f x12 σ1) fun x21 σ2 =>
  grdK x18 false σ2 (fun f => idxSK x20 x21 fun v => f v σ2) fun x22 σ3 =>
  grdK x18 false σ3 (fun f => cmpK .gtr x22 (.int .u8 126) fun v => f v σ3) fun x23 σ4 =>
  pickK x18 (.bool true) x23 fun x24 =>
  ifK x24 (
  .fail) (
  addK x12 (.int .i64 1) fun x25 =>
  s2 x0 x11 x25 σ4)) (
  .fail)

theorem eq17_2x (run : RunT) (fu : Nat) (s2 : W3) (x0 x11 x12 : AV) (σ : Store) : codeK X0 run (.seq .leaf (.seq (.cond .leaf .leaf) (.seq (.block (.seq .leaf (.seq .leaf (.cond (.seq .leaf .leaf) .leaf)))) .leaf))) (subC [true, true, false, true, false, false] b17) (frS 0 26 [(0, x0), (11, x11), (12, x12)]) σ (thenK (fun fr σ => s2 (G fr 0) (G fr 11) (G fr 12) σ) failK) = c17_2x run fu s2 x0 x11 x12 σ := by kernel_rfl

theorem owed17_2x {run : RunT} (hrun : RunOK X0 run) (fu : Nat) (s2 : W3) : Owes X0 run 26 (.seq .leaf (.seq (.cond .leaf .leaf) (.seq (.block (.seq .leaf (.seq .leaf (.cond (.seq .leaf .leaf) .leaf)))) .leaf))) (subC [true, true, false, true, false, false] b17) (thenK (fun fr σ => s2 (G fr 0) (G fr 11) (G fr 12) σ) failK) :=
  ⟨trivial, ⟨⟨trivial, trivial⟩, ⟨⟨trivial, ⟨trivial, ⟨⟨trivial, trivial⟩, trivial⟩⟩⟩, trivial⟩⟩⟩

noncomputable def c17_2s (run : RunT) (fu : Nat) : Nat → List AV → Store → Tr R :=
  sweepU (planOf none 0 2 [] [] [] []) (fun t2 xs σ => c17_2b run fu (fun y0 y11 y12 σ => t2 [y0, y11, y12] σ) (xs.getD 0 .any) (xs.getD 1 .any) (xs.getD 2 .any) σ) (fun t2 xs σ => c17_2x run fu (fun y0 y11 y12 σ => t2 [y0, y11, y12] σ) (xs.getD 0 .any) (xs.getD 1 .any) (xs.getD 2 .any) σ)

theorem ok17_2s {run : RunT} (hrun : RunOK X0 run) (fu : Nat) : ∀ fr σ, KOK X0 26 (subC [true, true, false, true, false] b17) fr σ ((fun fr σ => c17_2s run fu fu [fr.getD 0 .any, fr.getD 11 .any, fr.getD 12 .any] σ) fr σ) (blockK 0 (thenK (fun fr σ => c17_1 run fu σ) k17)) := by
  have h := KOK.sweep (X := X0) (N := 26) (b := (subC [true, true, false, true, false, false] b17)) (k := (blockK 0 (thenK (fun fr σ => c17_1 run fu σ) k17))) (js := [0, 11, 12]) (body := (fun t2 xs σ => c17_2b run fu (fun y0 y11 y12 σ => t2 [y0, y11, y12] σ) (xs.getD 0 .any) (xs.getD 1 .any) (xs.getD 2 .any) σ)) (bodyx := (fun t2 xs σ => c17_2x run fu (fun y0 y11 y12 σ => t2 [y0, y11, y12] σ) (xs.getD 0 .any) (xs.getD 1 .any) (xs.getD 2 .any) σ)) rfl (planOf none 0 2 [] [] [] []) (fun t2 fr σ => KOK.piece env0 hrun [0, 11, 12] (eq17_2 run fu (fun y0 y11 y12 σ => t2 [y0, y11, y12] σ) (G fr 0) (G fr 11) (G fr 12) σ) (owed17_2 hrun fu (fun y0 y11 y12 σ => t2 [y0, y11, y12] σ))) (fun t2 fr σ => KOK.piece env0 hrun [0, 11, 12] (eq17_2x run fu (fun y0 y11 y12 σ => t2 [y0, y11, y12] σ) (G fr 0) (G fr 11) (G fr 12) σ) (owed17_2x hrun fu (fun y0 y11 y12 σ => t2 [y0, y11, y12] σ)))
  exact fun fr σ => h fu fr σ

noncomputable def c17 (run : RunT) (fu : Nat) (x0 x1 : AV) (σ : Store) : Tr R :=
  lenSK x0 fun x7 =>
  cmpK .gtr x7 x1 fun x9 =>
  ifK x9 (
  .ret ((.bool false), σ)) (
  lenSK x0 fun x11 =>
  c17_2s run fu fu [x0, x11, (.int .i64 0)] σ)

theorem eq17 (run : RunT) (fu : Nat) (x0 x1 : AV) (σ : Store) : codeK X0 run (.seq .leaf (.seq (.seq .leaf (.cond (.seq .leaf .leaf) .leaf)) (.seq (.seq .leaf (.block (.sub (fun fr σ => c17_2s run fu fu [fr.getD 0 .any, fr.getD 11 .any, fr.getD 12 .any] σ)))) (.sub (fun fr σ => c17_1 run fu σ))))) (subC [] b17) ([x0, x1] ++ padA (26 - 2)) σ k17 = c17 run fu x0 x1 σ := by kernel_rfl

theorem ok17 {run : RunT} (hrun : RunOK X0 run) (fu : Nat) (x0 x1 : AV) (σ : Store) : CallOK X0 17 [x0, x1] σ (c17 run fu x0 x1 σ) :=
  KOK.body (fn := Tryz.f17) (c := subC [] b17) (by kernel_rfl) (by kernel_rfl) (by show 2 ≤ 26; decide) (KOK.whole env0 hrun (eq17 run fu x0 x1 σ) ⟨trivial, ⟨⟨trivial, ⟨⟨trivial, trivial⟩, trivial⟩⟩, ⟨⟨trivial, (ok17_2s hrun fu)⟩, (ok17_1 hrun fu)⟩⟩⟩)

-- pub-paratext/laws.pointed

noncomputable def b18 : Code := match Tryz.f18.body with | some c => c | none => .skip

noncomputable def k18 : Kont R := retK Tryz.prog [.tmp 2]

noncomputable def c18_1 (run : RunT) (fu : Nat) (x3 : AV) (σ : Store) : Tr R :=
  calK run 19 [x3, (.int .u8 62)] σ fun x31 σ1 =>
  calK run 20 [x3] σ1 fun x32 σ2 =>
  .ret (x32, σ2)

theorem eq18_1 (run : RunT) (fu : Nat) (x3 : AV) (σ : Store) : codeK X0 run (.seq .leaf (.seq .leaf .leaf)) (subC [true, true, true, true] b18) (frS 0 33 [(3, x3)]) σ k18 = c18_1 run fu x3 σ := by kernel_rfl

theorem ok18_1 {run : RunT} (hrun : RunOK X0 run) (fu : Nat) : ∀ fr σ, KOK X0 33 (subC [true, true, true, true] b18) fr σ ((fun fr σ => c18_1 run fu (G fr 3) σ) fr σ) k18 := fun fr σ =>
  KOK.piece env0 hrun [3] (eq18_1 run fu (G fr 3) σ) ⟨trivial, ⟨trivial, trivial⟩⟩

noncomputable def c18_3 (run : RunT) (fu : Nat) (s2 : W4) (x0 x3 x7 x8 : AV) (σ : Store) : Tr R :=
  addK x8 (.int .i64 1) fun x30 =>
  s2 x0 x3 x7 x30 σ

theorem eq18_3 (run : RunT) (fu : Nat) (s2 : W4) (x0 x3 x7 x8 : AV) (σ : Store) : codeK X0 run .leaf (subC [true, true, true, false, true, false, false, true, true, true] b18) (frS 0 33 [(0, x0), (3, x3), (7, x7), (8, x8)]) σ (thenK (fun fr σ => s2 (G fr 0) (G fr 3) (G fr 7) (G fr 8) σ) (blockK 0 (thenK (fun fr σ => c18_1 run fu (G fr 3) σ) k18))) = c18_3 run fu s2 x0 x3 x7 x8 σ := by kernel_rfl

theorem ok18_3 {run : RunT} (hrun : RunOK X0 run) (fu : Nat) (s2 : W4) : ∀ fr σ, KOK X0 33 (subC [true, true, true, false, true, false, false, true, true, true] b18) fr σ ((fun fr σ => c18_3 run fu s2 (G fr 0) (G fr 3) (G fr 7) (G fr 8) σ) fr σ) (thenK (fun fr σ => s2 (G fr 0) (G fr 3) (G fr 7) (G fr 8) σ) (blockK 0 (thenK (fun fr σ => c18_1 run fu (G fr 3) σ) k18))) := fun fr σ =>
  KOK.piece env0 hrun [0, 3, 7, 8] (eq18_3 run fu s2 (G fr 0) (G fr 3) (G fr 7) (G fr 8) σ) trivial

noncomputable def c18_4 (run : RunT) (fu : Nat) (s2 : W4) (x0 x3 x4 x7 x8 x13 x18 : AV) (σ : Store) : Tr R :=
  ifK x18 (
  calK run 19 [x3, (.int .u8 92)] σ fun x22 σ1 =>
  idxSK x0 x4 fun x25 =>
  calK run 19 [x3, x25] σ1 fun x26 σ2 =>
  c18_3 run fu s2 x0 x3 x7 x8 σ2) (
  cmpK .eql x13 (.int .u8 38) fun x28 =>
  ifK x28 (
  calK run 29 [x3, (.str [38, 97, 109, 112, 59])] σ fun x29 σ3 =>
  c18_3 run fu s2 x0 x3 x7 x8 σ3) (
  idxSK x0 x4 fun x16 =>
  calK run 19 [x3, x16] σ fun x17 σ4 =>
  c18_3 run fu s2 x0 x3 x7 x8 σ4))

theorem eq18_4 (run : RunT) (fu : Nat) (s2 : W4) (x0 x3 x4 x7 x8 x13 x18 : AV) (σ : Store) : codeK X0 run (.cond (.seq .leaf .leaf) (.seq .leaf (.cond .leaf .leaf))) (subC [true, true, true, false, true, false, false, true, true, false, false, true, true, false, true] b18) (frS 0 33 [(0, x0), (3, x3), (4, x4), (7, x7), (8, x8), (13, x13), (18, x18)]) σ (blockK 2 (blockK 1 (thenK (fun fr σ => c18_3 run fu s2 (G fr 0) (G fr 3) (G fr 7) (G fr 8) σ) (thenK (fun fr σ => s2 (G fr 0) (G fr 3) (G fr 7) (G fr 8) σ) (blockK 0 (thenK (fun fr σ => c18_1 run fu (G fr 3) σ) k18)))))) = c18_4 run fu s2 x0 x3 x4 x7 x8 x13 x18 σ := by kernel_rfl

theorem ok18_4 {run : RunT} (hrun : RunOK X0 run) (fu : Nat) (s2 : W4) : ∀ fr σ, KOK X0 33 (subC [true, true, true, false, true, false, false, true, true, false, false, true, true, false, true] b18) fr σ ((fun fr σ => c18_4 run fu s2 (G fr 0) (G fr 3) (G fr 4) (G fr 7) (G fr 8) (G fr 13) (G fr 18) σ) fr σ) (blockK 2 (blockK 1 (thenK (fun fr σ => c18_3 run fu s2 (G fr 0) (G fr 3) (G fr 7) (G fr 8) σ) (thenK (fun fr σ => s2 (G fr 0) (G fr 3) (G fr 7) (G fr 8) σ) (blockK 0 (thenK (fun fr σ => c18_1 run fu (G fr 3) σ) k18)))))) := fun fr σ =>
  KOK.piece env0 hrun [0, 3, 4, 7, 8, 13, 18] (eq18_4 run fu s2 (G fr 0) (G fr 3) (G fr 4) (G fr 7) (G fr 8) (G fr 13) (G fr 18) σ) ⟨⟨trivial, trivial⟩, ⟨trivial, ⟨trivial, trivial⟩⟩⟩

noncomputable def c18_2b (run : RunT) (fu : Nat) (s2 : W4) (x0 x3 x7 x8 : AV) (σ : Store) : Tr R :=
  cmpK .lss x8 x7 fun x9 =>
  ifK x9 (
  idxSK x0 x8 fun x13 =>
  cmpK .eql x13 (.int .u8 60) fun x19 =>
  ifK x19 (
  c18_4 run fu s2 x0 x3 x8 x7 x8 x13 x19 σ) (
  cmpK .eql x13 (.int .u8 62) fun x20 =>
  ifK x20 (
  c18_4 run fu s2 x0 x3 x8 x7 x8 x13 x20 σ) (
  cmpK .eql x13 (.int .u8 92) fun x21 =>
  c18_4 run fu s2 x0 x3 x8 x7 x8 x13 x21 σ))) (
  c18_1 run fu x3 σ)

noncomputable def c18_2 (run : RunT) (fu : Nat) : Nat → W4
  | 0 => fun _ _ _ _ _ => .fail
  | m + 1 => c18_2b run fu (c18_2 run fu m)

theorem eq18_2 (run : RunT) (fu : Nat) (s2 : W4) (x0 x3 x7 x8 : AV) (σ : Store) : codeK X0 run (.seq .leaf (.seq (.cond .leaf .leaf) (.seq (.block (.seq .leaf (.seq .leaf (.block (.seq (.seq .leaf (.cond .leaf (.seq .leaf (.cond .leaf .leaf)))) (.sub (fun fr σ => c18_4 run fu s2 (G fr 0) (G fr 3) (G fr 4) (G fr 7) (G fr 8) (G fr 13) (G fr 18) σ))))))) (.sub (fun fr σ => c18_3 run fu s2 (G fr 0) (G fr 3) (G fr 7) (G fr 8) σ))))) (subC [true, true, true, false, true, false, false] b18) (frS 0 33 [(0, x0), (3, x3), (7, x7), (8, x8)]) σ (thenK (fun fr σ => s2 (G fr 0) (G fr 3) (G fr 7) (G fr 8) σ) (blockK 0 (thenK (fun fr σ => c18_1 run fu (G fr 3) σ) k18))) = c18_2b run fu s2 x0 x3 x7 x8 σ := by kernel_rfl

theorem owed18_2 {run : RunT} (hrun : RunOK X0 run) (fu : Nat) (s2 : W4) : Owes X0 run 33 (.seq .leaf (.seq (.cond .leaf .leaf) (.seq (.block (.seq .leaf (.seq .leaf (.block (.seq (.seq .leaf (.cond .leaf (.seq .leaf (.cond .leaf .leaf)))) (.sub (fun fr σ => c18_4 run fu s2 (G fr 0) (G fr 3) (G fr 4) (G fr 7) (G fr 8) (G fr 13) (G fr 18) σ))))))) (.sub (fun fr σ => c18_3 run fu s2 (G fr 0) (G fr 3) (G fr 7) (G fr 8) σ))))) (subC [true, true, true, false, true, false, false] b18) (thenK (fun fr σ => s2 (G fr 0) (G fr 3) (G fr 7) (G fr 8) σ) (blockK 0 (thenK (fun fr σ => c18_1 run fu (G fr 3) σ) k18))) :=
  ⟨trivial, ⟨⟨trivial, trivial⟩, ⟨⟨trivial, ⟨trivial, ⟨⟨trivial, ⟨trivial, ⟨trivial, ⟨trivial, trivial⟩⟩⟩⟩, (ok18_4 hrun fu s2)⟩⟩⟩, (ok18_3 hrun fu s2)⟩⟩⟩

theorem ok18_2 {run : RunT} (hrun : RunOK X0 run) (fu : Nat) : ∀ fr σ, KOK X0 33 (subC [true, true, true, false, true, false] b18) fr σ ((fun fr σ => c18_2 run fu fu (G fr 0) (G fr 3) (G fr 7) (G fr 8) σ) fr σ) (blockK 0 (thenK (fun fr σ => c18_1 run fu (G fr 3) σ) k18)) := by
  have h := KOK.loop (X := X0) (N := 33) (b := (subC [true, true, true, false, true, false, false] b18)) (k := (blockK 0 (thenK (fun fr σ => c18_1 run fu (G fr 3) σ) k18))) (u := fun m fr σ => c18_2 run fu m (G fr 0) (G fr 3) (G fr 7) (G fr 8) σ) (fun _ _ => rfl) (fun m fr σ => KOK.piece env0 hrun [0, 3, 7, 8] (eq18_2 run fu (c18_2 run fu m) (G fr 0) (G fr 3) (G fr 7) (G fr 8) σ) (owed18_2 hrun fu (c18_2 run fu m)))
  exact fun fr σ => h fu fr σ

noncomputable def c18_5 (run : RunT) (fu : Nat) (s2 : W4) (x0 x3 x7 x8 : AV) (σ : Store) : Tr R :=
  addK x8 (.int .i64 1) fun x30 =>
  s2 x0 x3 x7 x30 σ

theorem eq18_5 (run : RunT) (fu : Nat) (s2 : W4) (x0 x3 x7 x8 : AV) (σ : Store) : codeK X0 run .leaf (subC [true, true, true, false, true, false, false, true, true, true] b18) (frS 0 33 [(0, x0), (3, x3), (7, x7), (8, x8)]) σ (thenK (fun fr σ => s2 (G fr 0) (G fr 3) (G fr 7) (G fr 8) σ) failK) = c18_5 run fu s2 x0 x3 x7 x8 σ := by kernel_rfl

theorem ok18_5 {run : RunT} (hrun : RunOK X0 run) (fu : Nat) (s2 : W4) : ∀ fr σ, KOK X0 33 (subC [true, true, true, false, true, false, false, true, true, true] b18) fr σ ((fun fr σ => c18_5 run fu s2 (G fr 0) (G fr 3) (G fr 7) (G fr 8) σ) fr σ) (thenK (fun fr σ => s2 (G fr 0) (G fr 3) (G fr 7) (G fr 8) σ) failK) := fun fr σ =>
  KOK.piece env0 hrun [0, 3, 7, 8] (eq18_5 run fu s2 (G fr 0) (G fr 3) (G fr 7) (G fr 8) σ) trivial

noncomputable def c18_6 (run : RunT) (fu : Nat) (s2 : W4) (x0 x3 x4 x7 x8 x13 x18 : AV) (σ : Store) : Tr R :=
  ifK x18 (
  calK run 19 [x3, (.int .u8 92)] σ fun x22 σ1 =>
  idxSK x0 x4 fun x25 =>
  calK run 19 [x3, x25] σ1 fun x26 σ2 =>
  c18_5 run fu s2 x0 x3 x7 x8 σ2) (
  cmpK .eql x13 (.int .u8 38) fun x28 =>
  ifK x28 (
  calK run 29 [x3, (.str [38, 97, 109, 112, 59])] σ fun x29 σ3 =>
  c18_5 run fu s2 x0 x3 x7 x8 σ3) (
  idxSK x0 x4 fun x16 =>
  calK run 19 [x3, x16] σ fun x17 σ4 =>
  c18_5 run fu s2 x0 x3 x7 x8 σ4))

theorem eq18_6 (run : RunT) (fu : Nat) (s2 : W4) (x0 x3 x4 x7 x8 x13 x18 : AV) (σ : Store) : codeK X0 run (.cond (.seq .leaf .leaf) (.seq .leaf (.cond .leaf .leaf))) (subC [true, true, true, false, true, false, false, true, true, false, false, true, true, false, true] b18) (frS 0 33 [(0, x0), (3, x3), (4, x4), (7, x7), (8, x8), (13, x13), (18, x18)]) σ (blockK 2 (blockK 1 (thenK (fun fr σ => c18_5 run fu s2 (G fr 0) (G fr 3) (G fr 7) (G fr 8) σ) (thenK (fun fr σ => s2 (G fr 0) (G fr 3) (G fr 7) (G fr 8) σ) failK)))) = c18_6 run fu s2 x0 x3 x4 x7 x8 x13 x18 σ := by kernel_rfl

theorem ok18_6 {run : RunT} (hrun : RunOK X0 run) (fu : Nat) (s2 : W4) : ∀ fr σ, KOK X0 33 (subC [true, true, true, false, true, false, false, true, true, false, false, true, true, false, true] b18) fr σ ((fun fr σ => c18_6 run fu s2 (G fr 0) (G fr 3) (G fr 4) (G fr 7) (G fr 8) (G fr 13) (G fr 18) σ) fr σ) (blockK 2 (blockK 1 (thenK (fun fr σ => c18_5 run fu s2 (G fr 0) (G fr 3) (G fr 7) (G fr 8) σ) (thenK (fun fr σ => s2 (G fr 0) (G fr 3) (G fr 7) (G fr 8) σ) failK)))) := fun fr σ =>
  KOK.piece env0 hrun [0, 3, 4, 7, 8, 13, 18] (eq18_6 run fu s2 (G fr 0) (G fr 3) (G fr 4) (G fr 7) (G fr 8) (G fr 13) (G fr 18) σ) ⟨⟨trivial, trivial⟩, ⟨trivial, ⟨trivial, trivial⟩⟩⟩

noncomputable def c18_2x (run : RunT) (fu : Nat) (s2 : W4) (x0 x3 x7 x8 : AV) (σ : Store) : Tr R :=
  cmpK .lss x8 x7 fun x9 =>
  ifK x9 (
  idxSK x0 x8 fun x13 =>
  cmpK .eql x13 (.int .u8 60) fun x19 =>
  ifK x19 (
  c18_6 run fu s2 x0 x3 x8 x7 x8 x13 x19 σ) (
  cmpK .eql x13 (.int .u8 62) fun x20 =>
  ifK x20 (
  c18_6 run fu s2 x0 x3 x8 x7 x8 x13 x20 σ) (
  cmpK .eql x13 (.int .u8 92) fun x21 =>
  c18_6 run fu s2 x0 x3 x8 x7 x8 x13 x21 σ))) (
  .fail)

theorem eq18_2x (run : RunT) (fu : Nat) (s2 : W4) (x0 x3 x7 x8 : AV) (σ : Store) : codeK X0 run (.seq .leaf (.seq (.cond .leaf .leaf) (.seq (.block (.seq .leaf (.seq .leaf (.block (.seq (.seq .leaf (.cond .leaf (.seq .leaf (.cond .leaf .leaf)))) (.sub (fun fr σ => c18_6 run fu s2 (G fr 0) (G fr 3) (G fr 4) (G fr 7) (G fr 8) (G fr 13) (G fr 18) σ))))))) (.sub (fun fr σ => c18_5 run fu s2 (G fr 0) (G fr 3) (G fr 7) (G fr 8) σ))))) (subC [true, true, true, false, true, false, false] b18) (frS 0 33 [(0, x0), (3, x3), (7, x7), (8, x8)]) σ (thenK (fun fr σ => s2 (G fr 0) (G fr 3) (G fr 7) (G fr 8) σ) failK) = c18_2x run fu s2 x0 x3 x7 x8 σ := by kernel_rfl

theorem owed18_2x {run : RunT} (hrun : RunOK X0 run) (fu : Nat) (s2 : W4) : Owes X0 run 33 (.seq .leaf (.seq (.cond .leaf .leaf) (.seq (.block (.seq .leaf (.seq .leaf (.block (.seq (.seq .leaf (.cond .leaf (.seq .leaf (.cond .leaf .leaf)))) (.sub (fun fr σ => c18_6 run fu s2 (G fr 0) (G fr 3) (G fr 4) (G fr 7) (G fr 8) (G fr 13) (G fr 18) σ))))))) (.sub (fun fr σ => c18_5 run fu s2 (G fr 0) (G fr 3) (G fr 7) (G fr 8) σ))))) (subC [true, true, true, false, true, false, false] b18) (thenK (fun fr σ => s2 (G fr 0) (G fr 3) (G fr 7) (G fr 8) σ) failK) :=
  ⟨trivial, ⟨⟨trivial, trivial⟩, ⟨⟨trivial, ⟨trivial, ⟨⟨trivial, ⟨trivial, ⟨trivial, ⟨trivial, trivial⟩⟩⟩⟩, (ok18_6 hrun fu s2)⟩⟩⟩, (ok18_5 hrun fu s2)⟩⟩⟩

noncomputable def c18_2s (run : RunT) (fu : Nat) : Nat → List AV → Store → Tr R :=
  sweepN 1 (sweepC 1 1 5 (sweepR (planOf (some 1) 0 3 [] [] [] [101]) (planR 101 1 5) (fun t2 xs σ => c18_2b run fu (fun y0 y3 y7 y8 σ => t2 [y0, y3, y7, y8] σ) (xs.getD 0 .any) (xs.getD 1 .any) (xs.getD 2 .any) (xs.getD 3 .any) σ) (fun t2 xs σ => c18_2x run fu (fun y0 y3 y7 y8 σ => t2 [y0, y3, y7, y8] σ) (xs.getD 0 .any) (xs.getD 1 .any) (xs.getD 2 .any) (xs.getD 3 .any) σ)))

theorem ok18_2s {run : RunT} (hrun : RunOK X0 run) (fu : Nat) : ∀ fr σ, KOK X0 33 (subC [true, true, true, false, true, false] b18) fr σ ((fun fr σ => c18_2s run fu fu [fr.getD 0 .any, fr.getD 3 .any, fr.getD 7 .any, fr.getD 8 .any] σ) fr σ) (blockK 0 (thenK (fun fr σ => c18_1 run fu (G fr 3) σ) k18)) := by
  have h := KOK.sweepN 1 (KOK.sweepC 1 1 5 (KOK.sweepRow (X := X0) (N := 33) (b := (subC [true, true, true, false, true, false, false] b18)) (k := (blockK 0 (thenK (fun fr σ => c18_1 run fu (G fr 3) σ) k18))) (js := [0, 3, 7, 8]) (body := (fun t2 xs σ => c18_2b run fu (fun y0 y3 y7 y8 σ => t2 [y0, y3, y7, y8] σ) (xs.getD 0 .any) (xs.getD 1 .any) (xs.getD 2 .any) (xs.getD 3 .any) σ)) (bodyx := (fun t2 xs σ => c18_2x run fu (fun y0 y3 y7 y8 σ => t2 [y0, y3, y7, y8] σ) (xs.getD 0 .any) (xs.getD 1 .any) (xs.getD 2 .any) (xs.getD 3 .any) σ)) rfl (planOf (some 1) 0 3 [] [] [] [101]) (planR 101 1 5) (fun t2 fr σ => KOK.piece env0 hrun [0, 3, 7, 8] (eq18_2 run fu (fun y0 y3 y7 y8 σ => t2 [y0, y3, y7, y8] σ) (G fr 0) (G fr 3) (G fr 7) (G fr 8) σ) (owed18_2 hrun fu (fun y0 y3 y7 y8 σ => t2 [y0, y3, y7, y8] σ))) (fun t2 fr σ => KOK.piece env0 hrun [0, 3, 7, 8] (eq18_2x run fu (fun y0 y3 y7 y8 σ => t2 [y0, y3, y7, y8] σ) (G fr 0) (G fr 3) (G fr 7) (G fr 8) σ) (owed18_2x hrun fu (fun y0 y3 y7 y8 σ => t2 [y0, y3, y7, y8] σ)))))
  exact fun fr σ => h fu fr σ

noncomputable def c18 (run : RunT) (fu : Nat) (x0 : AV) (σ : Store) : Tr R :=
  newK σ 73 [.nilp, .nils] fun x3 σ1 =>
  calK run 19 [x3, (.int .u8 60)] σ1 fun x5 σ2 =>
  lenSK x0 fun x7 =>
  c18_2s run fu fu [x0, x3, x7, (.int .i64 0)] σ2

theorem eq18 (run : RunT) (fu : Nat) (x0 : AV) (σ : Store) : codeK X0 run (.seq .leaf (.seq .leaf (.seq .leaf (.seq (.seq .leaf (.block (.sub (fun fr σ => c18_2s run fu fu [fr.getD 0 .any, fr.getD 3 .any, fr.getD 7 .any, fr.getD 8 .any] σ)))) (.sub (fun fr σ => c18_1 run fu (G fr 3) σ)))))) (subC [] b18) ([x0] ++ padA (33 - 1)) σ k18 = c18 run fu x0 σ := by kernel_rfl

theorem ok18 {run : RunT} (hrun : RunOK X0 run) (fu : Nat) (x0 : AV) (σ : Store) : CallOK X0 18 [x0] σ (c18 run fu x0 σ) :=
  KOK.body (fn := Tryz.f18) (c := subC [] b18) (by kernel_rfl) (by kernel_rfl) (by show 1 ≤ 33; decide) (KOK.whole env0 hrun (eq18 run fu x0 σ) ⟨trivial, ⟨trivial, ⟨trivial, ⟨⟨trivial, (ok18_2s hrun fu)⟩, (ok18_1 hrun fu)⟩⟩⟩⟩)

-- (*strings.Builder).WriteByte

noncomputable def b19 : Code := match Tryz.f19.body with | some c => c | none => .skip

noncomputable def k19 : Kont R := retK Tryz.prog [.tmp 4]

noncomputable def c19 (run : RunT) (fu : Nat) (x0 x1 : AV) (σ : Store) : Tr R :=
  calK run 34 [x0] σ fun x6 σ1 =>
  nchkK x0 fun x9 =>
  addrK x9 1 fun x10 =>
  ld1K σ1 x10 fun x11 =>
  opt (fillK [(.int .u8 0)] [(0, 1, x1)]) fun cs => newSK σ1 11 cs 1 1 fun x13 σ2 =>
  appK 5 1 1 σ2 x11 x13 fun x14 σ3 =>
  nchkK x0 fun x15 =>
  addrK x15 1 fun x16 =>
  st1K σ3 x16 x14 fun _ σ4 =>
  .ret (.nili, σ4)

theorem eq19 (run : RunT) (fu : Nat) (x0 x1 : AV) (σ : Store) : codeK X0 run (.seq .leaf (.seq .leaf (.seq .leaf (.seq .leaf .leaf)))) (subC [] b19) ([x0, x1] ++ padA (17 - 2)) σ k19 = c19 run fu x0 x1 σ := by kernel_rfl

theorem ok19 {run : RunT} (hrun : RunOK X0 run) (fu : Nat) (x0 x1 : AV) (σ : Store) : CallOK X0 19 [x0, x1] σ (c19 run fu x0 x1 σ) :=
  KOK.body (fn := Tryz.f19) (c := subC [] b19) (by kernel_rfl) (by kernel_rfl) (by show 2 ≤ 17; decide) (KOK.whole env0 hrun (eq19 run fu x0 x1 σ) ⟨trivial, ⟨trivial, ⟨trivial, ⟨trivial, trivial⟩⟩⟩⟩)

-- pub-paratext/spec.EscapeURL

noncomputable def b21 : Code := match Tryz.f21.body with | some c => c | none => .skip

noncomputable def k21 : Kont R := retK Tryz.prog [.tmp 2]

noncomputable def c21_1 (run : RunT) (fu : Nat) (x3 : AV) (σ : Store) : Tr R :=
  .ret (x3, σ)

theorem eq21_1 (run : RunT) (fu : Nat) (x3 : AV) (σ : Store) : codeK X0 run (.seq .leaf .leaf) (subC [true, true, true] b21) (frS 0 55 [(3, x3)]) σ k21 = c21_1 run fu x3 σ := by kernel_rfl

theorem ok21_1 {run : RunT} (hrun : RunOK X0 run) (fu : Nat) : ∀ fr σ, KOK X0 55 (subC [true, true, true] b21) fr σ ((fun fr σ => c21_1 run fu (G fr 3) σ) fr σ) k21 := fun fr σ =>
  KOK.piece env0 hrun [3] (eq21_1 run fu (G fr 3) σ) ⟨trivial, trivial⟩

noncomputable def c21_3 (run : RunT) (fu : Nat) (s2 : W3) (x0 x3 x4 : AV) (σ : Store) : Tr R :=
  addK x4 (.int .i64 1) fun x10 =>
  s2 x0 x3 x10 σ

theorem eq21_3 (run : RunT) (fu : Nat) (s2 : W3) (x0 x3 x4 : AV) (σ : Store) : codeK X0 run .leaf (subC [true, true, false, true, false, false, true, true] b21) (frS 0 55 [(0, x0), (3, x3), (4, x4)]) σ (thenK (fun fr σ => s2 (G fr 0) (G fr 3) (G fr 4) σ) (blockK 0 (thenK (fun fr σ => c21_1 run fu (G fr 3) σ) k21))) = c21_3 run fu s2 x0 x3 x4 σ := by kernel_rfl

theorem ok21_3 {run : RunT} (hrun : RunOK X0 run) (fu : Nat) (s2 : W3) : ∀ fr σ, KOK X0 55 (subC [true, true, false, true, false, false, true, true] b21) fr σ ((fun fr σ => c21_3 run fu s2 (G fr 0) (G fr 3) (G fr 4) σ) fr σ) (thenK (fun fr σ => s2 (G fr 0) (G fr 3) (G fr 4) σ) (blockK 0 (thenK (fun fr σ => c21_1 run fu (G fr 3) σ) k21))) := fun fr σ =>
  KOK.piece env0 hrun [0, 3, 4] (eq21_3 run fu s2 (G fr 0) (G fr 3) (G fr 4) σ) trivial

noncomputable def c21_2b (run : RunT) (fu : Nat) (s2 : W3) (x0 x3 x4 : AV) (σ : Store) : Tr R :=
  lenSK x0 fun x7 =>
  cmpK .lss x4 x7 fun x8 =>
  ifK x8 (
  idxSK x0 x4 fun x38 =>
  cmpK .eql x38 (.int .u8 38) fun x39 =>
  ifK x39 (
  catK x3 (.str [38, 97, 109, 112, 59]) fun x41 =>
  c21_3 run fu s2 x0 x41 x4 σ) (
  idxSK x0 x4 fun x45 =>
  calK run 35 [x45] σ fun x46 σ1 =>
  ifK x46 (
  addK x4 (.int .i64 1) fun x51 =>
  sliceSK x0 (some x4) (some x51) fun x52 =>
  catK x3 x52 fun x53 =>
  c21_3 run fu s2 x0 x53 x4 σ1) (
  catK x3 (.str [37]) fun x12 =>
  idxSK x0 x4 fun x15 =>
  quoK x15 (.int .u8 16) fun x16 =>
  idxSK x0 x4 fun x19 =>
  quoK x19 (.int .u8 16) fun x20 =>
  addK x20 (.int .u8 1) fun x21 =>
  sliceSK (.str [48, 49, 50, 51, 52, 53, 54, 55, 56, 57, 65, 66, 67, 68, 69, 70]) (some x16) (some x21) fun x22 =>
  catK x12 x22 fun x23 =>
  idxSK x0 x4 fun x26 =>
  remK x26 (.int .u8 16) fun x27 =>
  idxSK x0 x4 fun x30 =>
  remK x30 (.int .u8 16) fun x31 =>
  addK x31 (.int .u8 1) fun x32 =>
  sliceSK (.str [48, 49, 50, 51, 52, 53, 54, 55, 56, 57, 65, 66, 67, 68, 69, 70]) (some x27) (some x32) fun x33 =>
  catK x23 x33 fun x34 =>
  c21_3 run fu s2 x0 x34 x4 σ1))) (
  c21_1 run fu x3 σ)

noncomputable def c21_2 (run : RunT) (fu : Nat) : Nat → W3
  | 0 => fun _ _ _ _ => .fail
  | m + 1 => c21_2b run fu (c21_2 run fu m)

theorem eq21_2 (run : RunT) (fu : Nat) (s2 : W3) (x0 x3 x4 : AV) (σ : Store) : codeK X0 run (.seq (.seq .leaf (.cond .leaf .leaf)) (.seq (.block (.block (.seq .leaf (.cond .leaf (.seq .leaf (.cond .leaf .leaf)))))) (.sub (fun fr σ => c21_3 run fu s2 (G fr 0) (G fr 3) (G fr 4) σ)))) (subC [true, true, false, true, false, false] b21) (frS 0 55 [(0, x0), (3, x3), (4, x4)]) σ (thenK (fun fr σ => s2 (G fr 0) (G fr 3) (G fr 4) σ) (blockK 0 (thenK (fun fr σ => c21_1 run fu (G fr 3) σ) k21))) = c21_2b run fu s2 x0 x3 x4 σ := by kernel_rfl

theorem owed21_2 {run : RunT} (hrun : RunOK X0 run) (fu : Nat) (s2 : W3) : Owes X0 run 55 (.seq (.seq .leaf (.cond .leaf .leaf)) (.seq (.block (.block (.seq .leaf (.cond .leaf (.seq .leaf (.cond .leaf .leaf)))))) (.sub (fun fr σ => c21_3 run fu s2 (G fr 0) (G fr 3) (G fr 4) σ)))) (subC [true, true, false, true, false, false] b21) (thenK (fun fr σ => s2 (G fr 0) (G fr 3) (G fr 4) σ) (blockK 0 (thenK (fun fr σ => c21_1 run fu (G fr 3) σ) k21))) :=
  ⟨⟨trivial, ⟨trivial, trivial⟩⟩, ⟨⟨trivial, ⟨trivial, ⟨trivial, ⟨trivial, trivial⟩⟩⟩⟩, (ok21_3 hrun fu s2)⟩⟩

theorem ok21_2 {run : RunT} (hrun : RunOK X0 run) (fu : Nat) : ∀ fr σ, KOK X0 55 (subC [true, true, false, true, false] b21) fr σ ((fun fr σ => c21_2 run fu fu (G fr 0) (G fr 3) (G fr 4) σ) fr σ) (blockK 0 (thenK (fun fr σ => c21_1 run fu (G fr 3) σ) k21)) := by
  have h := KOK.loop (X := X0) (N := 55) (b := (subC [true, true, false, true, false, false] b21)) (k := (blockK 0 (thenK (fun fr σ => c21_1 run fu (G fr 3) σ) k21))) (u := fun m fr σ => c21_2 run fu m (G fr 0) (G fr 3) (G fr 4) σ) (fun _ _ => rfl) (fun m fr σ => KOK.piece env0 hrun [0, 3, 4] (eq21_2 run fu (c21_2 run fu m) (G fr 0) (G fr 3) (G fr 4) σ) (owed21_2 hrun fu (c21_2 run fu m)))
  exact fun fr σ => h fu fr σ

noncomputable def c21_4 (run : RunT) (fu : Nat) (s2 : W3) (x0 x3 x4 : AV) (σ : Store) : Tr R :=
  addK x4 (.int .i64 1) fun x10 =>
  s2 x0 x3 x10 σ

theorem eq21_4 (run : RunT) (fu : Nat) (s2 : W3) (x0 x3 x4 : AV) (σ : Store) : codeK X0 run .leaf (subC [true, true, false, true, false, false, true, true] b21) (frS 0 55 [(0, x0), (3, x3), (4, x4)]) σ (thenK (fun fr σ => s2 (G fr 0) (G fr 3) (G fr 4) σ) failK) = c21_4 run fu s2 x0 x3 x4 σ := by kernel_rfl

theorem ok21_4 {run : RunT} (hrun : RunOK X0 run) (fu : Nat) (s2 : W3) : ∀ fr σ, KOK X0 55 (subC [true, true, false, true, false, false, true, true] b21) fr σ ((fun fr σ => c21_4 run fu s2 (G fr 0) (G fr 3) (G fr 4) σ) fr σ) (thenK (fun fr σ => s2 (G fr 0) (G fr 3) (G fr 4) σ) failK) := fun fr σ =>
  KOK.piece env0 hrun [0, 3, 4] (eq21_4 run fu s2 (G fr 0) (G fr 3) (G fr 4) σ) trivial

noncomputable def c21_2x (run : RunT) (fu : Nat) (s2 : W3) (x0 x3 x4 : AV) (σ : Store) : Tr R :=
  lenSK x0 fun x7 =>
  cmpK .lss x4 x7 fun x8 =>
  ifK x8 (
  idxSK x0 x4 fun x38 =>
  cmpK .eql x38 (.int .u8 38) fun x39 =>
  ifK x39 (
  catK x3 (.str [38, 97, 109, 112, 59]) fun x41 =>
  c21_4 run fu s2 x0 x41 x4 σ) (
  idxSK x0 x4 fun x45 =>
  calK run 35 [x45] σ fun x46 σ1 =>
  ifK x46 (
  addK x4 (.int .i64 1) fun x51 =>
  sliceSK x0 (some x4) (some x51) fun x52 =>
  catK x3 x52 fun x53 =>
  c21_4 run fu s2 x0 x53 x4 σ1) (
  catK x3 (.str [37]) fun x12 =>
  idxSK x0 x4 fun x15 =>
  quoK x15 (.int .u8 16) fun x16 =>
  idxSK x0 x4 fun x19 =>
  quoK x19 (.int .u8 16) fun x20 =>
  addK x20 (.int .u8 1) fun x21 =>
  sliceSK (.str [48, 49, 50, 51, 52, 53, 54, 55, 56, 57, 65, 66, 67, 68, 69, 70]) (some x16) (some x21) fun x22 =>
  catK x12 x22 fun x23 =>
  idxSK x0 x4 fun x26 =>
  remK x26 (.int .u8 16) fun x27 =>
  idxSK x0 x4 fun x30 =>
  remK x30 (.int .u8 16) fun x31 =>
  addK x31 (.int .u8 1) fun x32 =>
  sliceSK (.str [48, 49, 50, 51, 52, 53, 54, 55, 56, 57, 65, 66, 67, 68, 69, 70]) (some x27) (some x32) fun x33 =>
  catK x23 x33 fun x34 =>
  c21_4 run fu s2 x0 x34 x4 σ1))) (
  .fail)

theorem eq21_2x (run : RunT) (fu : Nat) (s2 : W3) (x0 x3 x4 : AV) (σ : Store) : codeK X0 run (.seq (.seq .leaf (.cond .leaf .leaf)) (.seq (.block (.block (.seq .leaf (.cond .leaf (.seq .leaf (.cond .leaf .leaf)))))) (.sub (fun fr σ => c21_4 run fu s2 (G fr 0) (G fr 3) (G fr 4) σ)))) (subC [true, true, false, true, false, false] b21) (frS 0 55 [(0, x0), (3, x3), (4, x4)]) σ (thenK (fun fr σ => s2 (G fr 0) (G fr 3) (G fr 4) σ) failK) = c21_2x run fu s2 x0 x3 x4 σ := by kernel_rfl

theorem owed21_2x {run : RunT} (hrun : RunOK X0 run) (fu : Nat) (s2 : W3) : Owes X0 run 55 (.seq (.seq .leaf (.cond .leaf .leaf)) (.seq (.block (.block (.seq .leaf (.cond .leaf (.seq .leaf (.cond .leaf .leaf)))))) (.sub (fun fr σ => c21_4 run fu s2 (G fr 0) (G fr 3) (G fr 4) σ)))) (subC [true, true, false, true, false, false] b21) (thenK (fun fr σ => s2 (G fr 0) (G fr 3) (G fr 4) σ) failK) :=
  ⟨⟨trivial, ⟨trivial, trivial⟩⟩, ⟨⟨trivial, ⟨trivial, ⟨trivial, ⟨trivial, trivial⟩⟩⟩⟩, (ok21_4 hrun fu s2)⟩⟩

noncomputable def c21_2s (run : RunT) (fu : Nat) : Nat → List AV → Store → Tr R :=
  sweepU (planOf none 0 2 [] [(1, 4)] [] []) (fun t2 xs σ => c21_2b run fu (fun y0 y3 y4 σ => t2 [y0, y3, y4] σ) (xs.getD 0 .any) (xs.getD 1 .any) (xs.getD 2 .any) σ) (fun t2 xs σ => c21_2x run fu (fun y0 y3 y4 σ => t2 [y0, y3, y4] σ) (xs.getD 0 .any) (xs.getD 1 .any) (xs.getD 2 .any) σ)

theorem ok21_2s {run : RunT} (hrun : RunOK X0 run) (fu : Nat) : ∀ fr σ, KOK X0 55 (subC [true, true, false, true, false] b21) fr σ ((fun fr σ => c21_2s run fu fu [fr.getD 0 .any, fr.getD 3 .any, fr.getD 4 .any] σ) fr σ) (blockK 0 (thenK (fun fr σ => c21_1 run fu (G fr 3) σ) k21)) := by
  have h := KOK.sweep (X := X0) (N := 55) (b := (subC [true, true, false, true, false, false] b21)) (k := (blockK 0 (thenK (fun fr σ => c21_1 run fu (G fr 3) σ) k21))) (js := [0, 3, 4]) (body := (fun t2 xs σ => c21_2b run fu (fun y0 y3 y4 σ => t2 [y0, y3, y4] σ) (xs.getD 0 .any) (xs.getD 1 .any) (xs.getD 2 .any) σ)) (bodyx := (fun t2 xs σ => c21_2x run fu (fun y0 y3 y4 σ => t2 [y0, y3, y4] σ) (xs.getD 0 .any) (xs.getD 1 .any) (xs.getD 2 .any) σ)) rfl (planOf none 0 2 [] [(1, 4)] [] []) (fun t2 fr σ => KOK.piece env0 hrun [0, 3, 4] (eq21_2 run fu (fun y0 y3 y4 σ => t2 [y0, y3, y4] σ) (G fr 0) (G fr 3) (G fr 4) σ) (owed21_2 hrun fu (fun y0 y3 y4 σ => t2 [y0, y3, y4] σ))) (fun t2 fr σ => KOK.piece env0 hrun [0, 3, 4] (eq21_2x run fu (fun y0 y3 y4 σ => t2 [y0, y3, y4] σ) (G fr 0) (G fr 3) (G fr 4) σ) (owed21_2x hrun fu (fun y0 y3 y4 σ => t2 [y0, y3, y4] σ)))
  exact fun fr σ => h fu fr σ

noncomputable def c21 (run : RunT) (fu : Nat) (x0 : AV) (σ : Store) : Tr R :=
  c21_2s run fu fu [x0, (.str []), (.int .i64 0)] σ

theorem eq21 (run : RunT) (fu : Nat) (x0 : AV) (σ : Store) : codeK X0 run (.seq .leaf (.seq .leaf (.seq (.seq .leaf (.block (.sub (fun fr σ => c21_2s run fu fu [fr.getD 0 .any, fr.getD 3 .any, fr.getD 4 .any] σ)))) (.sub (fun fr σ => c21_1 run fu (G fr 3) σ))))) (subC [] b21) ([x0] ++ padA (55 - 1)) σ k21 = c21 run fu x0 σ := by kernel_rfl

theorem ok21 {run : RunT} (hrun : RunOK X0 run) (fu : Nat) (x0 : AV) (σ : Store) : CallOK X0 21 [x0] σ (c21 run fu x0 σ) :=
  KOK.body (fn := Tryz.f21) (c := subC [] b21) (by kernel_rfl) (by kernel_rfl) (by show 1 ≤ 55; decide) (KOK.whole env0 hrun (eq21 run fu x0 σ) ⟨trivial, ⟨trivial, ⟨⟨trivial, (ok21_2s hrun fu)⟩, (ok21_1 hrun fu)⟩⟩⟩)

-- pub-paratext/spec.EscapeHTML

noncomputable def b22 : Code := match Tryz.f22.body with | some c => c | none => .skip

noncomputable def k22 : Kont R := retK Tryz.prog [.tmp 2]

noncomputable def c22_1 (run : RunT) (fu : Nat) (x3 : AV) (σ : Store) : Tr R :=
  .ret (x3, σ)

theorem eq22_1 (run : RunT) (fu : Nat) (x3 : AV) (σ : Store) : codeK X0 run (.seq .leaf .leaf) (subC [true, true, true] b22) (frS 0 38 [(3, x3)]) σ k22 = c22_1 run fu x3 σ := by kernel_rfl

theorem ok22_1 {run : RunT} (hrun : RunOK X0 run) (fu : Nat) : ∀ fr σ, KOK X0 38 (subC [true, true, true] b22) fr σ ((fun fr σ => c22_1 run fu (G fr 3) σ) fr σ) k22 := fun fr σ =>
  KOK.piece env0 hrun [3] (eq22_1 run fu (G fr 3) σ) ⟨trivial, trivial⟩

noncomputable def c22_3 (run : RunT) (fu : Nat) (s2 : W3) (x0 x3 x4 : AV) (σ : Store) : Tr R :=
  addK x4 (.int .i64 1) fun x10 =>
  s2 x0 x3 x10 σ

theorem eq22_3 (run : RunT) (fu : Nat) (s2 : W3) (x0 x3 x4 : AV) (σ : Store) : codeK X0 run .leaf (subC [true, true, false, true, false, false, true, true] b22) (frS 0 38 [(0, x0), (3, x3), (4, x4)]) σ (thenK (fun fr σ => s2 (G fr 0) (G fr 3) (G fr 4) σ) (blockK 0 (thenK (fun fr σ => c22_1 run fu (G fr 3) σ) k22))) = c22_3 run fu s2 x0 x3 x4 σ := by kernel_rfl

theorem ok22_3 {run : RunT} (hrun : RunOK X0 run) (fu : Nat) (s2 : W3) : ∀ fr σ, KOK X0 38 (subC [true, true, false, true, false, false, true, true] b22) fr σ ((fun fr σ => c22_3 run fu s2 (G fr 0) (G fr 3) (G fr 4) σ) fr σ) (thenK (fun fr σ => s2 (G fr 0) (G fr 3) (G fr 4) σ) (blockK 0 (thenK (fun fr σ => c22_1 run fu (G fr 3) σ) k22))) := fun fr σ =>
  KOK.piece env0 hrun [0, 3, 4] (eq22_3 run fu s2 (G fr 0) (G fr 3) (G fr 4) σ) trivial

noncomputable def c22_2b (run : RunT) (fu : Nat) (s2 : W3) (x0 x3 x4 : AV) (σ : Store) : Tr R :=
  lenSK x0 fun x7 =>
  cmpK .lss x4 x7 fun x8 =>
  ifK x8 (
  idxSK x0 x4 fun x13 =>
  cmpK .eql x13 (.int .u8 38) fun x22 =>
  ifK x22 (
  catK x3 (.str [38, 97, 109, 112, 59]) fun x24 =>
  c22_3 run fu s2 x0 x24 x4 σ) (
  cmpK .eql x13 (.int .u8 60) fun x26 =>
  ifK x26 (
  catK x3 (.str [38, 108, 116, 59]) fun x28 =>
  c22_3 run fu s2 x0 x28 x4 σ) (
  cmpK .eql x13 (.int .u8 62) fun x30 =>
  ifK x30 (
  catK x3 (.str [38, 103, 116, 59]) fun x32 =>
  c22_3 run fu s2 x0 x32 x4 σ) (
  cmpK .eql x13 (.int .u8 34) fun x34 =>
  ifK x34 (
  catK x3 (.str [38, 113, 117, 111, 116, 59]) fun x36 =>
  c22_3 run fu s2 x0 x36 x4 σ) (
  addK x4 (.int .i64 1) fun x18 =>
  sliceSK x0 (some x4) (some x18) fun x19 =>
  catK x3 x19 fun x20 =>
  c22_3 run fu s2 x0 x20 x4 σ))))) (
  c22_1 run fu x3 σ)

noncomputable def c22_2 (run : RunT) (fu : Nat) : Nat → W3
  | 0 => fun _ _ _ _ => .fail
  | m + 1 => c22_2b run fu (c22_2 run fu m)

theorem eq22_2 (run : RunT) (fu : Nat) (s2 : W3) (x0 x3 x4 : AV) (σ : Store) : codeK X0 run (.seq (.seq .leaf (.cond .leaf .leaf)) (.seq (.block (.seq .leaf (.block (.seq .leaf (.cond .leaf (.seq .leaf (.cond .leaf (.seq .leaf (.cond .leaf (.seq .leaf (.cond .leaf .leaf))))))))))) (.sub (fun fr σ => c22_3 run fu s2 (G fr 0) (G fr 3) (G fr 4) σ)))) (subC [true, true, false, true, false, false] b22) (frS 0 38 [(0, x0), (3, x3), (4, x4)]) σ (thenK (fun fr σ => s2 (G fr 0) (G fr 3) (G fr 4) σ) (blockK 0 (thenK (fun fr σ => c22_1 run fu (G fr 3) σ) k22))) = c22_2b run fu s2 x0 x3 x4 σ := by kernel_rfl

theorem owed22_2 {run : RunT} (hrun : RunOK X0 run) (fu : Nat) (s2 : W3) : Owes X0 run 38 (.seq (.seq .leaf (.cond .leaf .leaf)) (.seq (.block (.seq .leaf (.block (.seq .leaf (.cond .leaf (.seq .leaf (.cond .leaf (.seq .leaf (.cond .leaf (.seq .leaf (.cond .leaf .leaf))))))))))) (.sub (fun fr σ => c22_3 run fu s2 (G fr 0) (G fr 3) (G fr 4) σ)))) (subC [true, true, false, true, false, false] b22) (thenK (fun fr σ => s2 (G fr 0) (G fr 3) (G fr 4) σ) (blockK 0 (thenK (fun fr σ => c22_1 run fu (G fr 3) σ) k22))) :=
  ⟨⟨trivial, ⟨trivial, trivial⟩⟩, ⟨⟨trivial, ⟨trivial, ⟨trivial, ⟨trivial, ⟨trivial, ⟨trivial, ⟨trivial, ⟨trivial, ⟨trivial, trivial⟩⟩⟩⟩⟩⟩⟩⟩⟩, (ok22_3 hrun fu s2)⟩⟩

theorem ok22_2 {run : RunT} (hrun : RunOK X0 run) (fu : Nat) : ∀ fr σ, KOK X0 38 (subC [true, true, false, true, false] b22) fr σ ((fun fr σ => c22_2 run fu fu (G fr 0) (G fr 3) (G fr 4) σ) fr σ) (blockK 0 (thenK (fun fr σ => c22_1 run fu (G fr 3) σ) k22)) := by
  have h := KOK.loop (X := X0) (N := 38) (b := (subC [true, true, false, true, false, false] b22)) (k := (blockK 0 (thenK (fun fr σ => c22_1 run fu (G fr 3) σ) k22))) (u := fun m fr σ => c22_2 run fu m (G fr 0) (G fr 3) (G fr 4) σ) (fun _ _ => rfl) (fun m fr σ => KOK.piece env0 hrun [0, 3, 4] (eq22_2 run fu (c22_2 run fu m) (G fr 0) (G fr 3) (G fr 4) σ) (owed22_2 hrun fu (c22_2 run fu m)))
  exact fun fr σ => h fu fr σ

noncomputable def c22_4 (run : RunT) (fu : Nat) (s2 : W3) (x0 x3 x4 : AV) (σ : Store) : Tr R :=
  addK x4 (.int .i64 1) fun x10 =>
  s2 x0 x3 x10 σ

theorem eq22_4 (run : RunT) (fu : Nat) (s2 : W3) (x0 x3 x4 : AV) (σ : Store) : codeK X0 run .leaf (subC [true, true, false, true, false, false, true, true] b22) (frS 0 38 [(0, x0), (3, x3), (4, x4)]) σ (thenK (fun fr σ => s2 (G fr 0) (G fr 3) (G fr 4) σ) failK) = c22_4 run fu s2 x0 x3 x4 σ := by kernel_rfl

theorem ok22_4 {run : RunT} (hrun : RunOK X0 run) (fu : Nat) (s2 : W3) : ∀ fr σ, KOK X0 38 (subC [true, true, false, true, false, false, true, true] b22) fr σ ((fun fr σ => c22_4 run fu s2 (G fr 0) (G fr 3) (G fr 4) σ) fr σ) (thenK (fun fr σ => s2 (G fr 0) (G fr 3) (G fr 4) σ) failK) := fun fr σ =>
  KOK.piece env0 hrun [0, 3, 4] (eq22_4 run fu s2 (G fr 0) (G fr 3) (G fr 4) σ) trivial

noncomputable def c22_2x (run : RunT) (fu : Nat) (s2 : W3) (x0 x3 x4 : AV) (σ : Store) : Tr R :=
  lenSK x0 fun x7 =>
  cmpK .lss x4 x7 fun x8 =>
  ifK x8 (
  idxSK x0 x4 fun x13 =>
  cmpK .eql x13 (.int .u8 38) fun x22 =>
  ifK x22 (
  catK x3 (.str [38, 97, 109, 112, 59]) fun x24 =>
  c22_4 run fu s2 x0 x24 x4 σ) (
  cmpK .eql x13 (.int .u8 60) fun x26 =>
  ifK x26 (
  catK x3 (.str [38, 108, 116, 59]) fun x28 =>
  c22_4 run fu s2 x0 x28 x4 σ) (
  cmpK .eql x13 (.int .u8 62) fun x30 =>
  ifK x30 (
  catK x3 (.str [38, 103, 116, 59]) fun x32 =>
  c22_4 run fu s2 x0 x32 x4 σ) (
  cmpK .eql x13 (.int .u8 34) fun x34 =>
  ifK x34 (
  catK x3 (.str [38, 113, 117, 111, 116, 59]) fun x36 =>
  c22_4 run fu s2 x0 x36 x4 σ) (
  addK x4 (.int .i64 1) fun x18 =>
  sliceSK x0 (some x4) (some x18) fun x19 =>
  catK x3 x19 fun x20 =>
  c22_4 run fu s2 x0 x20 x4 σ))))) (
  .fail)

theorem eq22_2x (run : RunT) (fu : Nat) (s2 : W3) (x0 x3 x4 : AV) (σ : Store) : codeK X0 run (.seq (.seq .leaf (.cond .leaf .leaf)) (.seq (.block (.seq .leaf (.block (.seq .leaf (.cond .leaf (.seq .leaf (.cond .leaf (.seq .leaf (.cond .leaf (.seq .leaf (.cond .leaf .leaf))))))))))) (.sub (fun fr σ => c22_4 run fu s2 (G fr 0) (G fr 3) (G fr 4) σ)))) (subC [true, true, false, true, false, false] b22) (frS 0 38 [(0, x0), (3, x3), (4, x4)]) σ (thenK (fun fr σ => s2 (G fr 0) (G fr 3) (G fr 4) σ) failK) = c22_2x run fu s2 x0 x3 x4 σ := by kernel_rfl

theorem owed22_2x {run : RunT} (hrun : RunOK X0 run) (fu : Nat) (s2 : W3) : Owes X0 run 38 (.seq (.seq .leaf (.cond .leaf .leaf)) (.seq (.block (.seq .leaf (.block (.seq .leaf (.cond .leaf (.seq .leaf (.cond .leaf (.seq .leaf (.cond .leaf (.seq .leaf (.cond .leaf .leaf))))))))))) (.sub (fun fr σ => c22_4 run fu s2 (G fr 0) (G fr 3) (G fr 4) σ)))) (subC [true, true, false, true, false, false] b22) (thenK (fun fr σ => s2 (G fr 0) (G fr 3) (G fr 4) σ) failK) :=
  ⟨⟨trivial, ⟨trivial, trivial⟩⟩, ⟨⟨trivial, ⟨trivial, ⟨trivial, ⟨trivial, ⟨trivial, ⟨trivial, ⟨trivial, ⟨trivial, ⟨trivial, trivial⟩⟩⟩⟩⟩⟩⟩⟩⟩, (ok22_4 hrun fu s2)⟩⟩

noncomputable def c22_2s (run : RunT) (fu : Nat) : Nat → List AV → Store → Tr R :=
  sweepU (planOf none 0 2 [] [(1, 3)] [] []) (fun t2 xs σ => c22_2b run fu (fun y0 y3 y4 σ => t2 [y0, y3, y4] σ) (xs.getD 0 .any) (xs.getD 1 .any) (xs.getD 2 .any) σ) (fun t2 xs σ => c22_2x run fu (fun y0 y3 y4 σ => t2 [y0, y3, y4] σ) (xs.getD 0 .any) (xs.getD 1 .any) (xs.getD 2 .any) σ)

theorem ok22_2s {run : RunT} (hrun : RunOK X0 run) (fu : Nat) : ∀ fr σ, KOK X0 38 (subC [true, true, false, true, false] b22) fr σ ((fun fr σ => c22_2s run fu fu [fr.getD 0 .any, fr.getD 3 .any, fr.getD 4 .any] σ) fr σ) (blockK 0 (thenK (fun fr σ => c22_1 run fu (G fr 3) σ) k22)) := by
  have h := KOK.sweep (X := X0) (N := 38) (b := (subC [true, true, false, true, false, false] b22)) (k := (blockK 0 (thenK (fun fr σ => c22_1 run fu (G fr 3) σ) k22))) (js := [0, 3, 4]) (body := (fun t2 xs σ => c22_2b run fu (fun y0 y3 y4 σ => t2 [y0, y3, y4] σ) (xs.getD 0 .any) (xs.getD 1 .any) (xs.getD 2 .any) σ)) (bodyx := (fun t2 xs σ => c22_2x run fu (fun y0 y3 y4 σ => t2 [y0, y3, y4] σ) (xs.getD 0 .any) (xs.getD 1 .any) (xs.getD 2 .any) σ)) rfl (planOf none 0 2 [] [(1, 3)] [] []) (fun t2 fr σ => KOK.piece env0 hrun [0, 3, 4] (eq22_2 run fu (fun y0 y3 y4 σ => t2 [y0, y3, y4] σ) (G fr 0) (G fr 3) (G fr 4) σ) (owed22_2 hrun fu (fun y0 y3 y4 σ => t2 [y0, y3, y4] σ))) (fun t2 fr σ => KOK.piece env0 hrun [0, 3, 4] (eq22_2x run fu (fun y0 y3 y4 σ => t2 [y0, y3, y4] σ) (G fr 0) (G fr 3) (G fr 4) σ) (owed22_2x hrun fu (fun y0 y3 y4 σ => t2 [y0, y3, y4] σ)))
  exact fun fr σ => h fu fr σ

noncomputable def c22 (run : RunT) (fu : Nat) (x0 : AV) (σ : Store) : Tr R :=
  c22_2s run fu fu [x0, (.str []), (.int .i64 0)] σ

theorem eq22 (run : RunT) (fu : Nat) (x0 : AV) (σ : Store) : codeK X0 run (.seq .leaf (.seq .leaf (.seq (.seq .leaf (.block (.sub (fun fr σ => c22_2s run fu fu [fr.getD 0 .any, fr.getD 3 .any, fr.getD 4 .any] σ)))) (.sub (fun fr σ => c22_1 run fu (G fr 3) σ))))) (subC [] b22) ([x0] ++ padA (38 - 1)) σ k22 = c22 run fu x0 σ := by kernel_rfl

theorem ok22 {run : RunT} (hrun : RunOK X0 run) (fu : Nat) (x0 : AV) (σ : Store) : CallOK X0 22 [x0] σ (c22 run fu x0 σ) :=
  KOK.body (fn := Tryz.f22) (c := subC [] b22) (by kernel_rfl) (by kernel_rfl) (by show 1 ≤ 38; decide) (KOK.whole env0 hrun (eq22 run fu x0 σ) ⟨trivial, ⟨trivial, ⟨⟨trivial, (ok22_2s hrun fu)⟩, (ok22_1 hrun fu)⟩⟩⟩)

-- pub-paratext/pub/rscmarkdown.ToHTML

noncomputable def b25 : Code := match Tryz.f25.body with | some c => c | none => .skip

noncomputable def k25 : Kont R := retK Tryz.prog [.tmp 2]

noncomputable def c25 (run : RunT) (fu : Nat) (x0 : AV) (σ : Store) : Tr R :=
  newK σ 135 [.nils, (.int .i64 0), (.int .i8 0)] fun x3 σ1 =>
  invK X0 run x0 "PrintHTML" [x3] σ1 fun x5 σ2 =>
  calK run 37 [x3] σ2 fun x6 σ3 =>
  .ret (x6, σ3)

theorem eq25 (run : RunT) (fu : Nat) (x0 : AV) (σ : Store) : codeK X0 run (.seq .leaf (.seq .leaf (.seq .leaf (.seq .leaf .leaf)))) (subC [] b25) ([x0] ++ padA (7 - 1)) σ k25 = c25 run fu x0 σ := by kernel_rfl

theorem ok25 {run : RunT} (hrun : RunOK X0 run) (fu : Nat) (x0 : AV) (σ : Store) : CallOK X0 25 [x0] σ (c25 run fu x0 σ) :=
  KOK.body (fn := Tryz.f25) (c := subC [] b25) (by kernel_rfl) (by kernel_rfl) (by show 1 ≤ 7; decide) (KOK.whole env0 hrun (eq25 run fu x0 σ) ⟨trivial, ⟨trivial, ⟨trivial, ⟨trivial, trivial⟩⟩⟩⟩)

-- pub-paratext/impl.parser

noncomputable def b26 : Code := match Tryz.f26.body with | some c => c | none => .skip

noncomputable def k26 : Kont R := retK Tryz.prog [.tmp 2]

noncomputable def c26 (run : RunT) (fu : Nat) (x0 : AV) (σ : Store) : Tr R :=
  boxK σ 51 x0 fun x1 σ1 =>
  addrK x1 8 fun x3 =>
  ld1K σ1 x3 fun x4 =>
  addrK x1 0 fun x5 =>
  ld1K σ1 x5 fun x6 =>
  addrK x1 1 fun x7 =>
  ld1K σ1 x7 fun x8 =>
  addrK x1 2 fun x9 =>
  ld1K σ1 x9 fun x10 =>
  addrK x1 3 fun x11 =>
  ld1K σ1 x11 fun x12 =>
  addrK x1 4 fun x13 =>
  ld1K σ1 x13 fun x14 =>
  addrK x1 9 fun x15 =>
  ld1K σ1 x15 fun x16 =>
  addrK x1 5 fun x17 =>
  ld1K σ1 x17 fun x18 =>
  addrK x1 6 fun x19 =>
  ld1K σ1 x19 fun x20 =>
  addrK x1 7 fun x21 =>
  ld1K σ1 x21 fun x22 =>
  bldK [(.bool false), (.bool false), (.bool false), (.bool false), (.bool false), (.bool false), (.bool false), (.bool false), (.bool false), (.bool false)] [(0, 1, x4), (1, 1, x6), (2, 1, x8), (3, 1, x10), (4, 1, x12), (5, 1, x14), (6, 1, x16), (7, 1, x18), (8, 1, x20), (9, 1, x22)] fun x23 =>
  boxK σ1 143 x23 fun x24 σ2 =>
  .ret (x24, σ2)

theorem eq26 (run : RunT) (fu : Nat) (x0 : AV) (σ : Store) : codeK X0 run (.seq .leaf (.seq .leaf .leaf)) (subC [] b26) ([x0] ++ padA (25 - 1)) σ k26 = c26 run fu x0 σ := by kernel_rfl

theorem ok26 {run : RunT} (hrun : RunOK X0 run) (fu : Nat) (x0 : AV) (σ : Store) : CallOK X0 26 [x0] σ (c26 run fu x0 σ) :=
  KOK.body (fn := Tryz.f26) (c := subC [] b26) (by kernel_rfl) (by kernel_rfl) (by show 1 ≤ 25; decide) (KOK.whole env0 hrun (eq26 run fu x0 σ) ⟨trivial, ⟨trivial, trivial⟩⟩)

-- (*pub-paratext/pub/rscmarkdown.Parser).Parse

noncomputable def b27 : Code := match Tryz.f27.body with | some c => c | none => .skip

noncomputable def k27 : Kont R := retK Tryz.prog [.tmp 4]

noncomputable def c27 (run : RunT) (fu : Nat) (x0 x1 : AV) (σ : Store) : Tr R :=
  calK run 38 [x0, x1] σ fun x10 σ1 =>
  extK x10 0 fun x11 =>
  extK x10 1 fun x12 =>
  .ret (x11, σ1)

theorem eq27 (run : RunT) (fu : Nat) (x0 x1 : AV) (σ : Store) : codeK X0 run (.seq .leaf (.seq .leaf (.seq .leaf .leaf))) (subC [] b27) ([x0, x1] ++ padA (14 - 2)) σ k27 = c27 run fu x0 x1 σ := by kernel_rfl

theorem ok27 {run : RunT} (hrun : RunOK X0 run) (fu : Nat) (x0 x1 : AV) (σ : Store) : CallOK X0 27 [x0, x1] σ (c27 run fu x0 x1 σ) :=
  KOK.body (fn := Tryz.f27) (c := subC [] b27) (by kernel_rfl) (by kernel_rfl) (by show 2 ≤ 14; decide) (KOK.whole env0 hrun (eq27 run fu x0 x1 σ) ⟨trivial, ⟨trivial, ⟨trivial, trivial⟩⟩⟩)

-- (*strings.Builder).WriteString

noncomputable def b29 : Code := match Tryz.f29.body with | some c => c | none => .skip

noncomputable def k29 : Kont R := retK Tryz.prog [.tmp 4, .tmp 5]

noncomputable def c29 (run : RunT) (fu : Nat) (x0 x1 : AV) (σ : Store) : Tr R :=
  calK run 34 [x0] σ fun x7 σ1 =>
  nchkK x0 fun x10 =>
  addrK x10 1 fun x11 =>
  ld1K σ1 x11 fun x12 =>
  appK 5 1 1 σ1 x12 x1 fun x14 σ2 =>
  nchkK x0 fun x15 =>
  addrK x15 1 fun x16 =>
  st1K σ2 x16 x14 fun _ σ3 =>
  lenSK x1 fun x18 =>
  .ret (.tup [x18, .nili], σ3)

theorem eq29 (run : RunT) (fu : Nat) (x0 x1 : AV) (σ : Store) : codeK X0 run (.seq .leaf (.seq .leaf (.seq .leaf (.seq .leaf .leaf)))) (subC [] b29) ([x0, x1] ++ padA (19 - 2)) σ k29 = c29 run fu x0 x1 σ := by kernel_rfl

theorem ok29 {run : RunT} (hrun : RunOK X0 run) (fu : Nat) (x0 x1 : AV) (σ : Store) : CallOK X0 29 [x0, x1] σ (c29 run fu x0 x1 σ) :=
  KOK.body (fn := Tryz.f29) (c := subC [] b29) (by kernel_rfl) (by kernel_rfl) (by show 2 ≤ 19; decide) (KOK.whole env0 hrun (eq29 run fu x0 x1 σ) ⟨trivial, ⟨trivial, ⟨trivial, ⟨trivial, trivial⟩⟩⟩⟩)

-- pub-paratext/spec.isSafe

noncomputable def b35 : Code := match Tryz.f35.body with | some c => c | none => .skip

noncomputable def k35 : Kont R := retK Tryz.prog [.tmp 2]

noncomputable def c35_1 (run : RunT) (fu : Nat) (σ : Store) : Tr R :=
  .ret ((.bool false), σ)

theorem eq35_1 (run : RunT) (fu : Nat) (σ : Store) : codeK X0 run (.seq .leaf .leaf) (subC [true, true, true] b35) (frS 0 18 []) σ k35 = c35_1 run fu σ := by kernel_rfl

theorem ok35_1 {run : RunT} (hrun : RunOK X0 run) (fu : Nat) : ∀ fr σ, KOK X0 18 (subC [true, true, true] b35) fr σ ((fun fr σ => c35_1 run fu σ) fr σ) k35 := fun fr σ =>
  KOK.piece env0 hrun [] (eq35_1 run fu σ) ⟨trivial, trivial⟩

noncomputable def c35_2b (run : RunT) (fu : Nat) (s2 : W2) (x0 x3 : AV) (σ : Store) : Tr R :=
  cmpK .lss x3 (.int .i64 22) fun x11 =>
  ifK x11 (
  idxSK (.str [45, 95, 46, 43, 33, 42, 39, 40, 41, 44, 37, 35, 64, 63, 61, 59, 58, 47, 38, 36, 126, 124]) x3 fun x15 =>
  cmpK .eql x15 x0 fun x17 =>
  ifK x17 (
  .ret ((.bool true), σ)) (
  addK x3 (.int .i64 1) fun x13 =>
  s2 x0 x13 σ)) (
  c35_1 run fu σ)

noncomputable def c35_2 (run : RunT) (fu : Nat) : Nat → W2
  | 0 => fun _ _ _ => .fail
  | m + 1 => c35_2b run fu (c35_2 run fu m)

theorem eq35_2 (run : RunT) (fu : Nat) (s2 : W2) (x0 x3 : AV) (σ : Store) : codeK X0 run (.seq (.seq .leaf (.cond .leaf .leaf)) (.seq (.block (.seq .leaf (.cond (.seq .leaf .leaf) .leaf))) .leaf)) (subC [true, true, false, true, false, false] b35) (frS 0 18 [(0, x0), (3, x3)]) σ (thenK (fun fr σ => s2 (G fr 0) (G fr 3) σ) (blockK 0 (thenK (fun fr σ => c35_1 run fu σ) k35))) = c35_2b run fu s2 x0 x3 σ := by kernel_rfl

theorem owed35_2 {run : RunT} (hrun : RunOK X0 run) (fu : Nat) (s2 : W2) : Owes X0 run 18 (.seq (.seq .leaf (.cond .leaf .leaf)) (.seq (.block (.seq .leaf (.cond (.seq .leaf .leaf) .leaf))) .leaf)) (subC [true, true, false, true, false, false] b35) (thenK (fun fr σ => s2 (G fr 0) (G fr 3) σ) (blockK 0 (thenK (fun fr σ => c35_1 run fu σ) k35))) :=
  ⟨⟨trivial, ⟨trivial, trivial⟩⟩, ⟨⟨trivial, ⟨⟨trivial, trivial⟩, trivial⟩⟩, trivial⟩⟩

theorem ok35_2 {run : RunT} (hrun : RunOK X0 run) (fu : Nat) : ∀ fr σ, KOK X0 18 (subC [true, true, false, true, false] b35) fr σ ((fun fr σ => c35_2 run fu fu (G fr 0) (G fr 3) σ) fr σ) (blockK 0 (thenK (fun fr σ => c35_1 run fu σ) k35)) := by
  have h := KOK.loop (X := X0) (N := 18) (b := (subC [true, true, false, true, false, false] b35)) (k := (blockK 0 (thenK (fun fr σ => c35_1 run fu σ) k35))) (u := fun m fr σ => c35_2 run fu m (G fr 0) (G fr 3) σ) (fun _ _ => rfl) (fun m fr σ => KOK.piece env0 hrun [0, 3] (eq35_2 run fu (c35_2 run fu m) (G fr 0) (G fr 3) σ) (owed35_2 hrun fu (c35_2 run fu m)))
  exact fun fr σ => h fu fr σ

noncomputable def c35 (run : RunT) (fu : Nat) (x0 : AV) (σ : Store) : Tr R :=
  calK run 44 [x0] σ fun x5 σ1 =>
  grdK x5 false σ1 (fun f => f x0 σ1) fun x7 σ2 =>
  grdK x5 false σ2 (fun f => calK run 45 [x7] σ2 f) fun x8 σ3 =>
  pickK x5 (.bool true) x8 fun x9 =>
  ifK x9 (
  .ret ((.bool true), σ3)) (
  c35_2 run fu fu x0 (.int .i64 0) σ3)

theorem eq35 (run : RunT) (fu : Nat) (x0 : AV) (σ : Store) : codeK X0 run (.seq .leaf (.seq (.seq .leaf (.cond (.seq .leaf .leaf) .leaf)) (.seq (.seq .leaf (.block (.sub (fun fr σ => c35_2 run fu fu (G fr 0) (G fr 3) σ)))) (.sub (fun fr σ => c35_1 run fu σ))))) (subC [] b35) ([x0] ++ padA (18 - 1)) σ k35 = c35 run fu x0 σ := by kernel_rfl

theorem ok35 {run : RunT} (hrun : RunOK X0 run) (fu : Nat) (x0 : AV) (σ : Store) : CallOK X0 35 [x0] σ (c35 run fu x0 σ) :=
  KOK.body (fn := Tryz.f35) (c := subC [] b35) (by kernel_rfl) (by kernel_rfl) (by show 1 ≤ 18; decide) (KOK.whole env0 hrun (eq35 run fu x0 σ) ⟨trivial, ⟨⟨trivial, ⟨⟨trivial, trivial⟩, trivial⟩⟩, ⟨⟨trivial, (ok35_2 hrun fu)⟩, (ok35_1 hrun fu)⟩⟩⟩)

-- (*pub-paratext/pub/rscmarkdown.Parser).parse

noncomputable def b38 : Code := match Tryz.f38.body with | some c => c | none => .skip

noncomputable def k38 : Kont R := retK Tryz.prog [.tmp 4, .tmp 5]

noncomputable def c38_4 (run : RunT) (fu : Nat) (x6 : AV) (σ : Store) : Tr R :=
  addrK x6 1 fun x110 =>
  ld1K σ x110 fun x111 =>
  addrK x6 6 fun x112 =>
  ld1K σ x112 fun x113 =>
  .ret (.tup [x111, x113], σ)

theorem eq38_4 (run : RunT) (fu : Nat) (x6 : AV) (σ : Store) : codeK X0 run (.seq .leaf .leaf) (subC [true, true, true, true, true, true, true, true, true, true] b38) (frS 0 114 [(6, x6)]) σ k38 = c38_4 run fu x6 σ := by kernel_rfl

theorem ok38_4 {run : RunT} (hrun : RunOK X0 run) (fu : Nat) : ∀ fr σ, KOK X0 114 (subC [true, true, true, true, true, true, true, true, true, true] b38) fr σ ((fun fr σ => c38_4 run fu (G fr 6) σ) fr σ) k38 := fun fr σ =>
  KOK.piece env0 hrun [6] (eq38_4 run fu (G fr 6) σ) ⟨trivial, trivial⟩

noncomputable def c38_3 (run : RunT) (fu : Nat) (x0 x6 : AV) (σ : Store) : Tr R :=
  nchkK x0 fun x97 =>
  addrK x97 2 fun x98 =>
  ld1K σ x98 fun x99 =>
  ifK x99 (
  .fail) (
  c38_4 run fu x6 σ)

theorem eq38_3 (run : RunT) (fu : Nat) (x0 x6 : AV) (σ : Store) : codeK X0 run (.seq (.seq .leaf (.cond (.sub deadK) .leaf)) (.sub (fun fr σ => c38_4 run fu (G fr 6) σ))) (subC [true, true, true, true, true, true, true, true, true] b38) (frS 0 114 [(0, x0), (6, x6)]) σ k38 = c38_3 run fu x0 x6 σ := by kernel_rfl

theorem ok38_3 {run : RunT} (hrun : RunOK X0 run) (fu : Nat) : ∀ fr σ, KOK X0 114 (subC [true, true, true, true, true, true, true, true, true] b38) fr σ ((fun fr σ => c38_3 run fu (G fr 0) (G fr 6) σ) fr σ) k38 := fun fr σ =>
  KOK.piece env0 hrun [0, 6] (eq38_3 run fu (G fr 0) (G fr 6) σ) ⟨⟨trivial, ⟨KOK.dead, trivial⟩⟩, (ok38_4 hrun fu)⟩

noncomputable def c38_5b (run : RunT) (fu : Nat) (s5 : W5) (x0 x6 x81 x82 x83 : AV) (σ : Store) : Tr R :=
  cmpK .lss x83 x82 fun x84 =>
  ifK x84 (
  idxK 1 x81 x83 fun x85 =>
  ld1K σ x85 fun x86 =>
  nchkK x86 fun x89 =>
  addrK x89 3 fun x90 =>
  ld1K σ x90 fun x91 =>
  calK run 53 [x6, x91] σ fun x92 σ1 =>
  nchkK x86 fun x93 =>
  addrK x93 2 fun x94 =>
  st1K σ1 x94 x92 fun _ σ2 =>
  addK x83 (.int .i64 1) fun x95 =>
  s5 x0 x6 x81 x82 x95 σ2) (
  c38_3 run fu x0 x6 σ)

noncomputable def c38_5 (run : RunT) (fu : Nat) : Nat → W5
  | 0 => fun _ _ _ _ _ _ => .fail
  | m + 1 => c38_5b run fu (c38_5 run fu m)

theorem eq38_5 (run : RunT) (fu : Nat) (s5 : W5) (x0 x6 x81 x82 x83 : AV) (σ : Store) : codeK X0 run (.seq .leaf (.seq (.cond .leaf .leaf) (.seq (.block (.seq .leaf .leaf)) .leaf))) (subC [true, true, true, true, true, true, true, true, false, true, false, false] b38) (frS 0 114 [(0, x0), (6, x6), (81, x81), (82, x82), (83, x83)]) σ (thenK (fun fr σ => s5 (G fr 0) (G fr 6) (G fr 81) (G fr 82) (G fr 83) σ) (blockK 3 (thenK (fun fr σ => c38_3 run fu (G fr 0) (G fr 6) σ) k38))) = c38_5b run fu s5 x0 x6 x81 x82 x83 σ := by kernel_rfl

theorem owed38_5 {run : RunT} (hrun : RunOK X0 run) (fu : Nat) (s5 : W5) : Owes X0 run 114 (.seq .leaf (.seq (.cond .leaf .leaf) (.seq (.block (.seq .leaf .leaf)) .leaf))) (subC [true, true, true, true, true, true, true, true, false, true, false, false] b38) (thenK (fun fr σ => s5 (G fr 0) (G fr 6) (G fr 81) (G fr 82) (G fr 83) σ) (blockK 3 (thenK (fun fr σ => c38_3 run fu (G fr 0) (G fr 6) σ) k38))) :=
  ⟨trivial, ⟨⟨trivial, trivial⟩, ⟨⟨trivial, trivial⟩, trivial⟩⟩⟩

theorem ok38_5 {run : RunT} (hrun : RunOK X0 run) (fu : Nat) : ∀ fr σ, KOK X0 114 (subC [true, true, true, true, true, true, true, true, false, true, false] b38) fr σ ((fun fr σ => c38_5 run fu fu (G fr 0) (G fr 6) (G fr 81) (G fr 82) (G fr 83) σ) fr σ) (blockK 3 (thenK (fun fr σ => c38_3 run fu (G fr 0) (G fr 6) σ) k38)) := by
  have h := KOK.loop (X := X0) (N := 114) (b := (subC [true, true, true, true, true, true, true, true, false, true, false, false] b38)) (k := (blockK 3 (thenK (fun fr σ => c38_3 run fu (G fr 0) (G fr 6) σ) k38))) (u := fun m fr σ => c38_5 run fu m (G fr 0) (G fr 6) (G fr 81) (G fr 82) (G fr 83) σ) (fun _ _ => rfl) (fun m fr σ => KOK.piece env0 hrun [0, 6, 81, 82, 83] (eq38_5 run fu (c38_5 run fu m) (G fr 0) (G fr 6) (G fr 81) (G fr 82) (G fr 83) σ) (owed38_5 hrun fu (c38_5 run fu m)))
  exact fun fr σ => h fu fr σ

noncomputable def c38_2 (run : RunT) (fu : Nat) (x0 x6 : AV) (σ : Store) : Tr R :=
  calK run 52 [x6, (.int .i64 0)] σ fun x79 σ1 =>
  addrK x6 11 fun x80 =>
  ld1K σ1 x80 fun x81 =>
  lenLK x81 fun x82 =>
  c38_5 run fu fu x0 x6 x81 x82 (.int .i64 0) σ1

theorem eq38_2 (run : RunT) (fu : Nat) (x0 x6 : AV) (σ : Store) : codeK X0 run (.seq .leaf (.seq (.seq .leaf (.block (.sub (fun fr σ => c38_5 run fu fu (G fr 0) (G fr 6) (G fr 81) (G fr 82) (G fr 83) σ)))) (.sub (fun fr σ => c38_3 run fu (G fr 0) (G fr 6) σ)))) (subC [true, true, true, true, true, true, true] b38) (frS 0 114 [(0, x0), (6, x6)]) σ k38 = c38_2 run fu x0 x6 σ := by kernel_rfl

theorem ok38_2 {run : RunT} (hrun : RunOK X0 run) (fu : Nat) : ∀ fr σ, KOK X0 114 (subC [true, true, true, true, true, true, true] b38) fr σ ((fun fr σ => c38_2 run fu (G fr 0) (G fr 6) σ) fr σ) k38 := fun fr σ =>
  KOK.piece env0 hrun [0, 6] (eq38_2 run fu (G fr 0) (G fr 6) σ) ⟨trivial, ⟨⟨trivial, (ok38_5 hrun fu)⟩, (ok38_3 hrun fu)⟩⟩

noncomputable def c38_7 (run : RunT) (fu : Nat) (s6 : W3) (x0 x1 x6 x7 x10 : AV) (σ : Store) : Tr R :=
  addrK x6 3 fun x71 =>
  ld1K σ x71 fun x72 =>
  addK x72 (.int .i64 1) fun x73 =>
  addrK x6 3 fun x74 =>
  st1K σ x74 x73 fun _ σ1 =>
  bldK [(.int .i64 0), (.int .i64 0), (.int .i64 0), (.str []), (.int .u8 0)] [(3, 1, x7), (4, 1, x10)] fun x77 =>
  calK run 51 [x6, x77] σ1 fun x78 σ2 =>
  s6 x0 x1 x6 σ2

theorem eq38_7 (run : RunT) (fu : Nat) (s6 : W3) (x0 x1 x6 x7 x10 : AV) (σ : Store) : codeK X0 run (.seq .leaf .leaf) (subC [true, true, true, true, true, true, false, false, false, true, false, true, true, true, true, true] b38) (frS 0 114 [(0, x0), (1, x1), (6, x6), (7, x7), (10, x10)]) σ (blockK 1 (thenK (fun fr σ => s6 (G fr 0) (G fr 1) (G fr 6) σ) (blockK 0 (thenK (fun fr σ => c38_2 run fu (G fr 0) (G fr 6) σ) k38)))) = c38_7 run fu s6 x0 x1 x6 x7 x10 σ := by kernel_rfl

theorem ok38_7 {run : RunT} (hrun : RunOK X0 run) (fu : Nat) (s6 : W3) : ∀ fr σ, KOK X0 114 (subC [true, true, true, true, true, true, false, false, false, true, false, true, true, true, true, true] b38) fr σ ((fun fr σ => c38_7 run fu s6 (G fr 0) (G fr 1) (G fr 6) (G fr 7) (G fr 10) σ) fr σ) (blockK 1 (thenK (fun fr σ => s6 (G fr 0) (G fr 1) (G fr 6) σ) (blockK 0 (thenK (fun fr σ => c38_2 run fu (G fr 0) (G fr 6) σ) k38)))) := fun fr σ =>
  KOK.piece env0 hrun [0, 1, 6, 7, 10] (eq38_7 run fu s6 (G fr 0) (G fr 1) (G fr 6) (G fr 7) (G fr 10) σ) ⟨trivial, trivial⟩

noncomputable def c38_6b (run : RunT) (fu : Nat) (s6 : W3) (x0 x1 x6 : AV) (σ : Store) : Tr R :=
  neSK x1 (.str []) fun x28 =>
  ifK x28 (
  calK run 50 [x1, (.str [10])] σ fun x30 σ1 =>
  calK run 50 [x1, (.str [13])] σ1 fun x32 σ2 =>
  cmpK .geq x32 (.int .i64 0) fun x36 =>
  grdK x36 true σ2 (fun f => f x30 σ2) fun x38 σ3 =>
  grdK x36 true σ3 (fun f => cmpK .lss x38 (.int .i64 0) fun v => f v σ3) fun x39 σ4 =>
  grdK x36 true σ4 (fun f => f x39 σ4) fun x40 σ5 =>
  grdK x40 false σ5 (fun f => f x32 σ5) fun x41 σ6 =>
  grdK x40 false σ6 (fun f => f x30 σ6) fun x42 σ7 =>
  grdK x40 false σ7 (fun f => cmpK .lss x41 x42 fun v => f v σ7) fun x43 σ8 =>
  grdK x36 true σ8 (fun f => pickK x40 (.bool true) x43 fun v => f v σ8) fun x44 σ9 =>
  pickK x36 x44 (.bool false) fun x45 =>
  ifK x45 (
  .fail) (
  cmpK .geq x30 (.int .i64 0) fun x63 =>
  ifK x63 (
  .fail) (
  c38_7 run fu s6 x0 (.str []) x6 x1 (.int .u8 0) σ9))) (
  c38_2 run fu x0 x6 σ)

noncomputable def c38_6 (run : RunT) (fu : Nat) : Nat → W3
  | 0 => fun _ _ _ _ => .fail
  | m + 1 => c38_6b run fu (c38_6 run fu m)

theorem eq38_6 (run : RunT) (fu : Nat) (s6 : W3) (x0 x1 x6 : AV) (σ : Store) : codeK X0 run (.seq (.seq .leaf (.cond .leaf .leaf)) (.block (.seq .leaf (.seq .leaf (.seq .leaf (.seq .leaf (.seq (.block (.seq .leaf (.cond (.sub deadK) (.seq .leaf (.cond (.sub deadK) .leaf))))) (.sub (fun fr σ => c38_7 run fu s6 (G fr 0) (G fr 1) (G fr 6) (G fr 7) (G fr 10) σ))))))))) (subC [true, true, true, true, true, true, false, false, false] b38) (frS 0 114 [(0, x0), (1, x1), (6, x6)]) σ (thenK (fun fr σ => s6 (G fr 0) (G fr 1) (G fr 6) σ) (blockK 0 (thenK (fun fr σ => c38_2 run fu (G fr 0) (G fr 6) σ) k38))) = c38_6b run fu s6 x0 x1 x6 σ := by kernel_rfl

theorem owed38_6 {run : RunT} (hrun : RunOK X0 run) (fu : Nat) (s6 : W3) : Owes X0 run 114 (.seq (.seq .leaf (.cond .leaf .leaf)) (.block (.seq .leaf (.seq .leaf (.seq .leaf (.seq .leaf (.seq (.block (.seq .leaf (.cond (.sub deadK) (.seq .leaf (.cond (.sub deadK) .leaf))))) (.sub (fun fr σ => c38_7 run fu s6 (G fr 0) (G fr 1) (G fr 6) (G fr 7) (G fr 10) σ))))))))) (subC [true, true, true, true, true, true, false, false, false] b38) (thenK (fun fr σ => s6 (G fr 0) (G fr 1) (G fr 6) σ) (blockK 0 (thenK (fun fr σ => c38_2 run fu (G fr 0) (G fr 6) σ) k38))) :=
  ⟨⟨trivial, ⟨trivial, trivial⟩⟩, ⟨trivial, ⟨trivial, ⟨trivial, ⟨trivial, ⟨⟨trivial, ⟨KOK.dead, ⟨trivial, ⟨KOK.dead, trivial⟩⟩⟩⟩, (ok38_7 hrun fu s6)⟩⟩⟩⟩⟩⟩

theorem ok38_6 {run : RunT} (hrun : RunOK X0 run) (fu : Nat) : ∀ fr σ, KOK X0 114 (subC [true, true, true, true, true, true, false, false] b38) fr σ ((fun fr σ => c38_6 run fu fu (G fr 0) (G fr 1) (G fr 6) σ) fr σ) (blockK 0 (thenK (fun fr σ => c38_2 run fu (G fr 0) (G fr 6) σ) k38)) := by
  have h := KOK.loop (X := X0) (N := 114) (b := (subC [true, true, true, true, true, true, false, false, false] b38)) (k := (blockK 0 (thenK (fun fr σ => c38_2 run fu (G fr 0) (G fr 6) σ) k38))) (u := fun m fr σ => c38_6 run fu m (G fr 0) (G fr 1) (G fr 6) σ) (fun _ _ => rfl) (fun m fr σ => KOK.piece env0 hrun [0, 1, 6] (eq38_6 run fu (c38_6 run fu m) (G fr 0) (G fr 1) (G fr 6) σ) (owed38_6 hrun fu (c38_6 run fu m)))
  exact fun fr σ => h fu fr σ

noncomputable def c38_1 (run : RunT) (fu : Nat) (x0 x1 x6 : AV) (σ : Store) : Tr R :=
  addrK x6 5 fun x22 =>
  st1K σ x22 (.int .i64 (-1)) fun _ σ1 =>
  bldK [] [] fun x23 =>
  boxK σ1 193 x23 fun x24 σ2 =>
  calK run 49 [x6, (.iface 94 x24)] σ2 fun x26 σ3 =>
  c38_6 run fu fu x0 x1 x6 σ3

theorem eq38_1 (run : RunT) (fu : Nat) (x0 x1 x6 : AV) (σ : Store) : codeK X0 run (.seq .leaf (.seq .leaf (.seq (.block (.sub (fun fr σ => c38_6 run fu fu (G fr 0) (G fr 1) (G fr 6) σ))) (.sub (fun fr σ => c38_2 run fu (G fr 0) (G fr 6) σ))))) (subC [true, true, true, true] b38) (frS 0 114 [(0, x0), (1, x1), (6, x6)]) σ k38 = c38_1 run fu x0 x1 x6 σ := by kernel_rfl

theorem ok38_1 {run : RunT} (hrun : RunOK X0 run) (fu : Nat) : ∀ fr σ, KOK X0 114 (subC [true, true, true, true] b38) fr σ ((fun fr σ => c38_1 run fu (G fr 0) (G fr 1) (G fr 6) σ) fr σ) k38 := fun fr σ =>
  KOK.piece env0 hrun [0, 1, 6] (eq38_1 run fu (G fr 0) (G fr 1) (G fr 6) σ) ⟨trivial, ⟨trivial, ⟨(ok38_6 hrun fu), (ok38_2 hrun fu)⟩⟩⟩

noncomputable def c38 (run : RunT) (fu : Nat) (x0 x1 : AV) (σ : Store) : Tr R :=
  newK σ 183 [.nilp, .nilp, .nilm, (.int .i64 0), .nils, (.int .i64 0), (.bool false), (.str []), (.int .i64 0), .nils, .nils, .nils, (.int .i64 0), (.int .i64 0), (.int .i64 0), (.int .i64 0), (.int .i64 0), (.int .i64 0), (.int .i64 0), (.int .i64 0), (.int .i64 0), (.int .i64 0), (.int .i64 0), (.int .i64 0), (.int .i64 0), (.int .i64 0), (.int .i64 0), (.int .i64 0), (.int .i64 0), (.int .i64 0), (.int .i64 0), (.int .i64 0), (.int .i64 0), (.int .i64 0), (.int .i64 0), (.int .i64 0), (.int .i64 0), (.int .i64 0), (.int .i64 0), (.int .i64 0), (.int .i64 0), (.int .i64 0), (.int .i64 0), (.int .i64 0), (.int .i64 0), (.int .i64 0), (.int .i64 0), (.int .i64 0), (.int .i64 0), (.int .i64 0), (.int .i64 0), (.int .i64 0), (.int .i64 0), (.int .i64 0), (.int .i64 0), (.int .i64 0), (.int .i64 0), (.int .i64 0), (.int .i64 0), (.int .i64 0), (.int .i64 0), (.int .i64 0), (.int .i64 0), (.int .i64 0), (.int .i64 0), (.int .i64 0), (.int .i64 0), (.int .i64 0), (.int .i64 0), (.int .i64 0), (.int .i64 0), (.int .i64 0), (.int .i64 0), (.int .i64 0), (.int .i64 0), (.int .i64 0), (.int .i64 0), (.int .i64 0), (.int .i64 0), (.int .i64 0), (.int .i64 0), (.int .i64 0), (.int .i64 0), (.int .i64 0), (.int .i64 0), (.int .i64 0), (.int .i64 0), (.int .i64 0), (.int .i64 0), (.int .i64 0), (.int .i64 0), (.int .i64 0), (.bool false)] fun x6 σ1 =>
  addrK x6 0 fun x16 =>
  st1K σ1 x16 x0 fun _ σ2 =>
  calK run 47 [x1, (.str [0])] σ2 fun x18 σ3 =>
  ifK x18 (
  .fail) (
  c38_1 run fu x0 x1 x6 σ3)

theorem eq38 (run : RunT) (fu : Nat) (x0 x1 : AV) (σ : Store) : codeK X0 run (.seq .leaf (.seq .leaf (.seq .leaf (.seq (.seq .leaf (.cond (.sub deadK) .leaf)) (.sub (fun fr σ => c38_1 run fu (G fr 0) (G fr 1) (G fr 6) σ)))))) (subC [] b38) ([x0, x1] ++ padA (114 - 2)) σ k38 = c38 run fu x0 x1 σ := by kernel_rfl

theorem ok38 {run : RunT} (hrun : RunOK X0 run) (fu : Nat) (x0 x1 : AV) (σ : Store) : CallOK X0 38 [x0, x1] σ (c38 run fu x0 x1 σ) :=
  KOK.body (fn := Tryz.f38) (c := subC [] b38) (by kernel_rfl) (by kernel_rfl) (by show 2 ≤ 114; decide) (KOK.whole env0 hrun (eq38 run fu x0 x1 σ) ⟨trivial, ⟨trivial, ⟨trivial, ⟨⟨trivial, ⟨KOK.dead, trivial⟩⟩, (ok38_1 hrun fu)⟩⟩⟩⟩)

-- pub-paratext/spec.IsLetter

noncomputable def b44 : Code := match Tryz.f44.body with | some c => c | none => .skip

noncomputable def k44 : Kont R := retK Tryz.prog [.tmp 2]

noncomputable def c44 (run : RunT) (fu : Nat) (x0 : AV) (σ : Store) : Tr R :=
  cmpK .geq x0 (.int .u8 97) fun x4 =>
  grdK x4 true σ (fun f => f x0 σ) fun x6 σ1 =>
  grdK x4 true σ1 (fun f => cmpK .leq x6 (.int .u8 122) fun v => f v σ1) fun x7 σ2 =>
  pickK x4 x7 (.bool false) fun x8 =>
  grdK x8 false σ2 (fun f => f x0 σ2) fun x10 σ3 =>
  grdK x8 false σ3 (fun f => cmpK .geq x10 (.int .u8 65) fun v => f v σ3) fun x11 σ4 =>
  grdK x8 false σ4 (fun f => f x11 σ4) fun x12 σ5 =>
  grdK x12 true σ5 (fun f => f x0 σ5) fun x13 σ6 =>
  grdK x12 true σ6 (fun f => cmpK .leq x13 (.int .u8 90) fun v => f v σ6) fun x14 σ7 =>
  grdK x8 false σ7 (fun f => pickK x12 x14 (.bool false) fun v => f v σ7) fun x15 σ8 =>
  pickK x8 (.bool true) x15 fun x16 =>
  .ret (x16, σ8)

theorem eq44 (run : RunT) (fu : Nat) (x0 : AV) (σ : Store) : codeK X0 run (.seq .leaf (.seq .leaf .leaf)) (subC [] b44) ([x0] ++ padA (17 - 1)) σ k44 = c44 run fu x0 σ := by kernel_rfl

theorem ok44 {run : RunT} (hrun : RunOK X0 run) (fu : Nat) (x0 : AV) (σ : Store) : CallOK X0 44 [x0] σ (c44 run fu x0 σ) :=
  KOK.body (fn := Tryz.f44) (c := subC [] b44) (by kernel_rfl) (by kernel_rfl) (by show 1 ≤ 17; decide) (KOK.whole env0 hrun (eq44 run fu x0 σ) ⟨trivial, ⟨trivial, trivial⟩⟩)

-- pub-paratext/spec.IsDigit

noncomputable def b45 : Code := match Tryz.f45.body with | some c => c | none => .skip

noncomputable def k45 : Kont R := retK Tryz.prog [.tmp 2]

noncomputable def c45 (run : RunT) (fu : Nat) (x0 : AV) (σ : Store) : Tr R :=
  cmpK .geq x0 (.int .u8 48) fun x4 =>
  grdK x4 true σ (fun f => f x0 σ) fun x6 σ1 =>
  grdK x4 true σ1 (fun f => cmpK .leq x6 (.int .u8 57) fun v => f v σ1) fun x7 σ2 =>
  pickK x4 x7 (.bool false) fun x8 =>
  .ret (x8, σ2)

theorem eq45 (run : RunT) (fu : Nat) (x0 : AV) (σ : Store) : codeK X0 run (.seq .leaf (.seq .leaf .leaf)) (subC [] b45) ([x0] ++ padA (9 - 1)) σ k45 = c45 run fu x0 σ := by kernel_rfl

theorem ok45 {run : RunT} (hrun : RunOK X0 run) (fu : Nat) (x0 : AV) (σ : Store) : CallOK X0 45 [x0] σ (c45 run fu x0 σ) :=
  KOK.body (fn := Tryz.f45) (c := subC [] b45) (by kernel_rfl) (by kernel_rfl) (by show 1 ≤ 9; decide) (KOK.whole env0 hrun (eq45 run fu x0 σ) ⟨trivial, ⟨trivial, trivial⟩⟩)

-- (*pub-paratext/pub/rscmarkdown.parseState).addBlock

noncomputable def b49 : Code := match Tryz.f49.body with | some c => c | none => .skip

noncomputable def k49 : Kont R := retK Tryz.prog []

noncomputable def c49 (run : RunT) (fu : Nat) (x0 x1 : AV) (σ : Store) : Tr R :=
  nchkK x0 fun x7 =>
  addrK x7 5 fun x8 =>
  ld1K σ x8 fun x9 =>
  addK x9 (.int .i64 1) fun x10 =>
  calK run 52 [x0, x10] σ fun x11 σ1 =>
  nchkK x0 fun x14 =>
  addrK x14 4 fun x15 =>
  ld1K σ1 x15 fun x16 =>
  bldK [.nili, .nils, (.int .i64 0), (.int .i64 0)] [] fun x17 =>
  opt (fillK [.nili, .nils, (.int .i64 0), (.int .i64 0)] [(0, 4, x17)]) fun cs => newSK σ1 231 cs 1 4 fun x18 σ2 =>
  appK 115 4 56 σ2 x16 x18 fun x19 σ3 =>
  nchkK x0 fun x20 =>
  addrK x20 4 fun x21 =>
  st1K σ3 x21 x19 fun _ σ4 =>
  nchkK x0 fun x23 =>
  addrK x23 4 fun x24 =>
  ld1K σ4 x24 fun x25 =>
  nchkK x0 fun x27 =>
  addrK x27 4 fun x28 =>
  ld1K σ4 x28 fun x29 =>
  lenLK x29 fun x30 =>
  subK x30 (.int .i64 1) fun x31 =>
  idxK 4 x25 x31 fun x32 =>
  nchkK x32 fun x35 =>
  addrK x35 0 fun x36 =>
  st1K σ4 x36 x1 fun _ σ5 =>
  nchkK x0 fun x39 =>
  addrK x39 3 fun x40 =>
  ld1K σ5 x40 fun x41 =>
  nchkK x32 fun x42 =>
  addrK x42 2 fun x43 =>
  addrK x43 0 fun x44 =>
  st1K σ5 x44 x41 fun _ σ6 =>
  nchkK x0 fun x47 =>
  addrK x47 3 fun x48 =>
  ld1K σ6 x48 fun x49 =>
  nchkK x32 fun x50 =>
  addrK x50 2 fun x51 =>
  addrK x51 1 fun x52 =>
  st1K σ6 x52 x49 fun _ σ7 =>
  .ret (.tup [], σ7)

theorem eq49 (run : RunT) (fu : Nat) (x0 x1 : AV) (σ : Store) : codeK X0 run (.seq .leaf (.seq .leaf (.seq .leaf (.seq .leaf (.seq .leaf .leaf))))) (subC [] b49) ([x0, x1] ++ padA (53 - 2)) σ k49 = c49 run fu x0 x1 σ := by kernel_rfl

theorem ok49 {run : RunT} (hrun : RunOK X0 run) (fu : Nat) (x0 x1 : AV) (σ : Store) : CallOK X0 49 [x0, x1] σ (c49 run fu x0 x1 σ) :=
  KOK.body (fn := Tryz.f49) (c := subC [] b49) (by kernel_rfl) (by kernel_rfl) (by show 2 ≤ 53; decide) (KOK.whole env0 hrun (eq49 run fu x0 x1 σ) ⟨trivial, ⟨trivial, ⟨trivial, ⟨trivial, ⟨trivial, trivial⟩⟩⟩⟩⟩)

-- (*pub-paratext/pub/rscmarkdown.parseState).addLine

noncomputable def b51 : Code := match Tryz.f51.body with | some c => c | none => .skip

noncomputable def k51 : Kont R := retK Tryz.prog []

noncomputable def c51_2 (run : RunT) (fu : Nat) (s1 : W2) (x0 x3 : AV) (σ : Store) : Tr R :=
  ldNK σ x3 5 fun x111 =>
  calK run 58 [x0, x111] σ fun x112 σ1 =>
  .ret (.tup [], σ1)

theorem eq51_2 (run : RunT) (fu : Nat) (s1 : W2) (x0 x3 : AV) (σ : Store) : codeK X0 run .leaf (subC [true, true] (lblC 0 (subC [true, false] b51))) (frS 0 113 [(0, x0), (3, x3)]) σ (scopeK (subC [true, false] b51) (lblU 0 (fun fr σ => s1 (G fr 0) (G fr 3) σ)) k51) = c51_2 run fu s1 x0 x3 σ := by kernel_rfl

theorem ok51_2 {run : RunT} (hrun : RunOK X0 run) (fu : Nat) (s1 : W2) : ∀ fr σ, KOK X0 113 (subC [true, true] (lblC 0 (subC [true, false] b51))) fr σ ((fun fr σ => c51_2 run fu s1 (G fr 0) (G fr 3) σ) fr σ) (scopeK (subC [true, false] b51) (lblU 0 (fun fr σ => s1 (G fr 0) (G fr 3) σ)) k51) := fun fr σ =>
  KOK.piece env0 hrun [0, 3] (eq51_2 run fu s1 (G fr 0) (G fr 3) σ) trivial

noncomputable def c51_3b (run : RunT) (fu : Nat) (s1 : W2) (s3 : W5) (x0 x3 x86 x87 x88 : AV) (σ : Store) : Tr R :=
  cmpK .lss x88 x87 fun x89 =>
  ifK x89 (
  .fail) (
  .fail)

noncomputable def c51_3 (run : RunT) (fu : Nat) (s1 : W2) : Nat → W5
  | 0 => fun _ _ _ _ _ _ => .fail
  | m + 1 => c51_3b run fu s1 (c51_3 run fu s1 m)

theorem eq51_3 (run : RunT) (fu : Nat) (s1 : W2) (s3 : W5) (x0 x3 x86 x87 x88 : AV) (σ : Store) : codeK X0 run (.seq .leaf (.seq (.cond (.sub deadK) (.sub deadK)) .leaf)) (subC [true, false, true, false, false] (lblC 0 (subC [true, false] b51))) (frS 0 113 [(0, x0), (3, x3), (86, x86), (87, x87), (88, x88)]) σ (thenK (fun fr σ => s3 (G fr 0) (G fr 3) (G fr 86) (G fr 87) (G fr 88) σ) (blockK 2 (thenK (fun fr σ => c51_2 run fu s1 (G fr 0) (G fr 3) σ) (scopeK (subC [true, false] b51) (lblU 0 (fun fr σ => s1 (G fr 0) (G fr 3) σ)) k51)))) = c51_3b run fu s1 s3 x0 x3 x86 x87 x88 σ := by kernel_rfl

theorem owed51_3 {run : RunT} (hrun : RunOK X0 run) (fu : Nat) (s1 : W2) (s3 : W5) : Owes X0 run 113 (.seq .leaf (.seq (.cond (.sub deadK) (.sub deadK)) .leaf)) (subC [true, false, true, false, false] (lblC 0 (subC [true, false] b51))) (thenK (fun fr σ => s3 (G fr 0) (G fr 3) (G fr 86) (G fr 87) (G fr 88) σ) (blockK 2 (thenK (fun fr σ => c51_2 run fu s1 (G fr 0) (G fr 3) σ) (scopeK (subC [true, false] b51) (lblU 0 (fun fr σ => s1 (G fr 0) (G fr 3) σ)) k51)))) :=
  ⟨trivial, ⟨⟨KOK.dead, KOK.dead⟩, trivial⟩⟩

theorem ok51_3 {run : RunT} (hrun : RunOK X0 run) (fu : Nat) (s1 : W2) : ∀ fr σ, KOK X0 113 (subC [true, false, true, false] (lblC 0 (subC [true, false] b51))) fr σ ((fun fr σ => c51_3 run fu s1 fu (G fr 0) (G fr 3) (G fr 86) (G fr 87) (G fr 88) σ) fr σ) (blockK 2 (thenK (fun fr σ => c51_2 run fu s1 (G fr 0) (G fr 3) σ) (scopeK (subC [true, false] b51) (lblU 0 (fun fr σ => s1 (G fr 0) (G fr 3) σ)) k51))) := by
  have h := KOK.loop (X := X0) (N := 113) (b := (subC [true, false, true, false, false] (lblC 0 (subC [true, false] b51)))) (k := (blockK 2 (thenK (fun fr σ => c51_2 run fu s1 (G fr 0) (G fr 3) σ) (scopeK (subC [true, false] b51) (lblU 0 (fun fr σ => s1 (G fr 0) (G fr 3) σ)) k51)))) (u := fun m fr σ => c51_3 run fu s1 m (G fr 0) (G fr 3) (G fr 86) (G fr 87) (G fr 88) σ) (fun _ _ => rfl) (fun m fr σ => KOK.piece env0 hrun [0, 3, 86, 87, 88] (eq51_3 run fu s1 (c51_3 run fu s1 m) (G fr 0) (G fr 3) (G fr 86) (G fr 87) (G fr 88) σ) (owed51_3 hrun fu s1 (c51_3 run fu s1 m)))
  exact fun fr σ => h fu fr σ

noncomputable def c51_1Lb (run : RunT) (fu : Nat) (s1 : W2) (x0 x3 : AV) (σ : Store) : Tr R :=
  calK run 57 [] σ fun x86 σ1 =>
  lenLK x86 fun x87 =>
  c51_3 run fu s1 fu x0 x3 x86 x87 (.int .i64 0) σ1

noncomputable def c51_1L (run : RunT) (fu : Nat) : Nat → W2
  | 0 => fun _ _ _ => .fail
  | m + 1 => c51_1Lb run fu (c51_1L run fu m)

theorem eq51_1L (run : RunT) (fu : Nat) (s1 : W2) (x0 x3 : AV) (σ : Store) : codeK X0 run (.seq .leaf (.seq (.seq .leaf (.block (.sub (fun fr σ => c51_3 run fu s1 fu (G fr 0) (G fr 3) (G fr 86) (G fr 87) (G fr 88) σ)))) (.sub (fun fr σ => c51_2 run fu s1 (G fr 0) (G fr 3) σ)))) (subC [] (lblC 0 (subC [true, false] b51))) (frS 0 113 [(0, x0), (3, x3)]) σ (scopeK (subC [true, false] b51) (lblU 0 (fun fr σ => s1 (G fr 0) (G fr 3) σ)) k51) = c51_1Lb run fu s1 x0 x3 σ := by kernel_rfl

theorem owed51_1L {run : RunT} (hrun : RunOK X0 run) (fu : Nat) (s1 : W2) : Owes X0 run 113 (.seq .leaf (.seq (.seq .leaf (.block (.sub (fun fr σ => c51_3 run fu s1 fu (G fr 0) (G fr 3) (G fr 86) (G fr 87) (G fr 88) σ)))) (.sub (fun fr σ => c51_2 run fu s1 (G fr 0) (G fr 3) σ)))) (subC [] (lblC 0 (subC [true, false] b51))) (scopeK (subC [true, false] b51) (lblU 0 (fun fr σ => s1 (G fr 0) (G fr 3) σ)) k51) :=
  ⟨trivial, ⟨⟨trivial, (ok51_3 hrun fu s1)⟩, (ok51_2 hrun fu s1)⟩⟩

noncomputable def c51_5 (run : RunT) (fu : Nat) (x0 x3 : AV) (σ : Store) : Tr R :=
  ldNK σ x3 5 fun x111 =>
  calK run 58 [x0, x111] σ fun x112 σ1 =>
  .ret (.tup [], σ1)

theorem eq51_5 (run : RunT) (fu : Nat) (x0 x3 : AV) (σ : Store) : codeK X0 run .leaf (subC [true, false, true, true, true, true, true] b51) (frS 0 113 [(0, x0), (3, x3)]) σ (scopeK (subC [true, false] b51) (lblU 0 (fun fr σ => c51_1L run fu fu (G fr 0) (G fr 3) σ)) k51) = c51_5 run fu x0 x3 σ := by kernel_rfl

theorem ok51_5 {run : RunT} (hrun : RunOK X0 run) (fu : Nat) : ∀ fr σ, KOK X0 113 (subC [true, false, true, true, true, true, true] b51) fr σ ((fun fr σ => c51_5 run fu (G fr 0) (G fr 3) σ) fr σ) (scopeK (subC [true, false] b51) (lblU 0 (fun fr σ => c51_1L run fu fu (G fr 0) (G fr 3) σ)) k51) := fun fr σ =>
  KOK.piece env0 hrun [0, 3] (eq51_5 run fu (G fr 0) (G fr 3) σ) trivial

noncomputable def c51_6b (run : RunT) (fu : Nat) (s6 : W5) (x0 x3 x86 x87 x88 : AV) (σ : Store) : Tr R :=
  cmpK .lss x88 x87 fun x89 =>
  ifK x89 (
  idxK 1 x86 x88 fun x90 =>
  ld1K σ x90 fun x91 =>
  ldNK σ x3 5 fun x95 =>
  dynK X0 run x91 [x0, x95] σ fun x96 σ1 =>
  extK x96 0 fun x97 =>
  extK x96 1 fun x98 =>
  newK σ1 201 [(.int .i64 0), (.int .i64 0), (.int .i64 0), (.str []), (.int .u8 0)] fun x8 σ2 =>
  stNK σ2 x8 5 x97 fun _ σ3 =>
  ifK x98 (
  .fail) (
  addK x88 (.int .i64 1) fun x109 =>
  s6 x0 x3 x86 x87 x109 σ3)) (
  c51_5 run fu x0 x3 σ)

noncomputable def c51_6 (run : RunT) (fu : Nat) : Nat → W5
  | 0 => fun _ _ _ _ _ _ => .fail
  | m + 1 => c51_6b run fu (c51_6 run fu m)

theorem eq51_6 (run : RunT) (fu : Nat) (s6 : W5) (x0 x3 x86 x87 x88 : AV) (σ : Store) : codeK X0 run (.seq .leaf (.seq (.cond .leaf .leaf) (.seq (.block (.seq .leaf (.seq .leaf (.seq .leaf (.cond (.sub deadK) .leaf))))) .leaf))) (subC [true, false, true, true, true, true, false, true, false, false] b51) (frS 0 113 [(0, x0), (3, x3), (86, x86), (87, x87), (88, x88)]) σ (thenK (fun fr σ => s6 (G fr 0) (G fr 3) (G fr 86) (G fr 87) (G fr 88) σ) (blockK 2 (thenK (fun fr σ => c51_5 run fu (G fr 0) (G fr 3) σ) (scopeK (subC [true, false] b51) (lblU 0 (fun fr σ => c51_1L run fu fu (G fr 0) (G fr 3) σ)) k51)))) = c51_6b run fu s6 x0 x3 x86 x87 x88 σ := by kernel_rfl

theorem owed51_6 {run : RunT} (hrun : RunOK X0 run) (fu : Nat) (s6 : W5) : Owes X0 run 113 (.seq .leaf (.seq (.cond .leaf .leaf) (.seq (.block (.seq .leaf (.seq .leaf (.seq .leaf (.cond (.sub deadK) .leaf))))) .leaf))) (subC [true, false, true, true, true, true, false, true, false, false] b51) (thenK (fun fr σ => s6 (G fr 0) (G fr 3) (G fr 86) (G fr 87) (G fr 88) σ) (blockK 2 (thenK (fun fr σ => c51_5 run fu (G fr 0) (G fr 3) σ) (scopeK (subC [true, false] b51) (lblU 0 (fun fr σ => c51_1L run fu fu (G fr 0) (G fr 3) σ)) k51)))) :=
  ⟨trivial, ⟨⟨trivial, trivial⟩, ⟨⟨trivial, ⟨trivial, ⟨trivial, ⟨KOK.dead, trivial⟩⟩⟩⟩, trivial⟩⟩⟩

theorem ok51_6 {run : RunT} (hrun : RunOK X0 run) (fu : Nat) : ∀ fr σ, KOK X0 113 (subC [true, false, true, true, true, true, false, true, false] b51) fr σ ((fun fr σ => c51_6 run fu fu (G fr 0) (G fr 3) (G fr 86) (G fr 87) (G fr 88) σ) fr σ) (blockK 2 (thenK (fun fr σ => c51_5 run fu (G fr 0) (G fr 3) σ) (scopeK (subC [true, false] b51) (lblU 0 (fun fr σ => c51_1L run fu fu (G fr 0) (G fr 3) σ)) k51))) := by
  have h := KOK.loop (X := X0) (N := 113) (b := (subC [true, false, true, true, true, true, false, true, false, false] b51)) (k := (blockK 2 (thenK (fun fr σ => c51_5 run fu (G fr 0) (G fr 3) σ) (scopeK (subC [true, false] b51) (lblU 0 (fun fr σ => c51_1L run fu fu (G fr 0) (G fr 3) σ)) k51)))) (u := fun m fr σ => c51_6 run fu m (G fr 0) (G fr 3) (G fr 86) (G fr 87) (G fr 88) σ) (fun _ _ => rfl) (fun m fr σ => KOK.piece env0 hrun [0, 3, 86, 87, 88] (eq51_6 run fu (c51_6 run fu m) (G fr 0) (G fr 3) (G fr 86) (G fr 87) (G fr 88) σ) (owed51_6 hrun fu (c51_6 run fu m)))
  exact fun fr σ => h fu fr σ

noncomputable def c51_4 (run : RunT) (fu : Nat) (x0 x3 : AV) (σ : Store) : Tr R :=
  calK run 56 [x3] σ fun x78 σ1 =>
  ifK x78 (
  .fail) (
  calK run 57 [] σ1 fun x86 σ2 =>
  lenLK x86 fun x87 =>
  c51_6 run fu fu x0 x3 x86 x87 (.int .i64 0) σ2)

theorem eq51_4 (run : RunT) (fu : Nat) (x0 x3 : AV) (σ : Store) : codeK X0 run (.seq (.seq .leaf (.cond (.sub deadK) .leaf)) (.seq .leaf (.seq (.seq .leaf (.block (.sub (fun fr σ => c51_6 run fu fu (G fr 0) (G fr 3) (G fr 86) (G fr 87) (G fr 88) σ)))) (.sub (fun fr σ => c51_5 run fu (G fr 0) (G fr 3) σ))))) (subC [true, false, true, true] b51) (frS 0 113 [(0, x0), (3, x3)]) σ (scopeK (subC [true, false] b51) (lblU 0 (fun fr σ => c51_1L run fu fu (G fr 0) (G fr 3) σ)) k51) = c51_4 run fu x0 x3 σ := by kernel_rfl

theorem ok51_4 {run : RunT} (hrun : RunOK X0 run) (fu : Nat) : ∀ fr σ, KOK X0 113 (subC [true, false, true, true] b51) fr σ ((fun fr σ => c51_4 run fu (G fr 0) (G fr 3) σ) fr σ) (scopeK (subC [true, false] b51) (lblU 0 (fun fr σ => c51_1L run fu fu (G fr 0) (G fr 3) σ)) k51) := fun fr σ =>
  KOK.piece env0 hrun [0, 3] (eq51_4 run fu (G fr 0) (G fr 3) σ) ⟨⟨trivial, ⟨KOK.dead, trivial⟩⟩, ⟨trivial, ⟨⟨trivial, (ok51_6 hrun fu)⟩, (ok51_5 hrun fu)⟩⟩⟩

noncomputable def c51_7b (run : RunT) (fu : Nat) (s7 : W2) (x0 x3 : AV) (σ : Store) : Tr R :=
  nchkK x0 fun x14 =>
  addrK x14 5 fun x15 =>
  ld1K σ x15 fun x16 =>
  addK x16 (.int .i64 1) fun x17 =>
  nchkK x0 fun x19 =>
  addrK x19 4 fun x20 =>
  ld1K σ x20 fun x21 =>
  lenLK x21 fun x22 =>
  cmpK .lss x17 x22 fun x23 =>
  ifK x23 (
  .fail) (
  c51_4 run fu x0 x3 σ)

noncomputable def c51_7 (run : RunT) (fu : Nat) : Nat → W2
  | 0 => fun _ _ _ => .fail
  | m + 1 => c51_7b run fu (c51_7 run fu m)

theorem eq51_7 (run : RunT) (fu : Nat) (s7 : W2) (x0 x3 : AV) (σ : Store) : codeK X0 run (.seq (.seq .leaf (.cond (.sub deadK) .leaf)) .leaf) (subC [true, false, true, false, false, false] b51) (frS 0 113 [(0, x0), (3, x3)]) σ (thenK (fun fr σ => s7 (G fr 0) (G fr 3) σ) (blockK 0 (thenK (fun fr σ => c51_4 run fu (G fr 0) (G fr 3) σ) (scopeK (subC [true, false] b51) (lblU 0 (fun fr σ => c51_1L run fu fu (G fr 0) (G fr 3) σ)) k51)))) = c51_7b run fu s7 x0 x3 σ := by kernel_rfl

theorem owed51_7 {run : RunT} (hrun : RunOK X0 run) (fu : Nat) (s7 : W2) : Owes X0 run 113 (.seq (.seq .leaf (.cond (.sub deadK) .leaf)) .leaf) (subC [true, false, true, false, false, false] b51) (thenK (fun fr σ => s7 (G fr 0) (G fr 3) σ) (blockK 0 (thenK (fun fr σ => c51_4 run fu (G fr 0) (G fr 3) σ) (scopeK (subC [true, false] b51) (lblU 0 (fun fr σ => c51_1L run fu fu (G fr 0) (G fr 3) σ)) k51)))) :=
  ⟨⟨trivial, ⟨KOK.dead, trivial⟩⟩, trivial⟩

theorem ok51_7 {run : RunT} (hrun : RunOK X0 run) (fu : Nat) : ∀ fr σ, KOK X0 113 (subC [true, false, true, false, false] b51) fr σ ((fun fr σ => c51_7 run fu fu (G fr 0) (G fr 3) σ) fr σ) (blockK 0 (thenK (fun fr σ => c51_4 run fu (G fr 0) (G fr 3) σ) (scopeK (subC [true, false] b51) (lblU 0 (fun fr σ => c51_1L run fu fu (G fr 0) (G fr 3) σ)) k51))) := by
  have h := KOK.loop (X := X0) (N := 113) (b := (subC [true, false, true, false, false, false] b51)) (k := (blockK 0 (thenK (fun fr σ => c51_4 run fu (G fr 0) (G fr 3) σ) (scopeK (subC [true, false] b51) (lblU 0 (fun fr σ => c51_1L run fu fu (G fr 0) (G fr 3) σ)) k51)))) (u := fun m fr σ => c51_7 run fu m (G fr 0) (G fr 3) σ) (fun _ _ => rfl) (fun m fr σ => KOK.piece env0 hrun [0, 3] (eq51_7 run fu (c51_7 run fu m) (G fr 0) (G fr 3) σ) (owed51_7 hrun fu (c51_7 run fu m)))
  exact fun fr σ => h fu fr σ

noncomputable def c51_1 (run : RunT) (fu : Nat) (x0 x3 : AV) (σ : Store) : Tr R :=
  nchkK x0 fun x11 =>
  addrK x11 5 fun x12 =>
  st1K σ x12 (.int .i64 0) fun _ σ1 =>
  c51_7 run fu fu x0 x3 σ1

theorem eq51_1 (run : RunT) (fu : Nat) (x0 x3 : AV) (σ : Store) : codeK X0 run (.seq .leaf (.seq (.block (.sub (fun fr σ => c51_7 run fu fu (G fr 0) (G fr 3) σ))) (.sub (fun fr σ => c51_4 run fu (G fr 0) (G fr 3) σ)))) (subC [true, false] b51) (frS 0 113 [(0, x0), (3, x3)]) σ (scopeK (subC [true, false] b51) (lblU 0 (fun fr σ => c51_1L run fu fu (G fr 0) (G fr 3) σ)) k51) = c51_1 run fu x0 x3 σ := by kernel_rfl

theorem ok51_1 {run : RunT} (hrun : RunOK X0 run) (fu : Nat) : ∀ fr σ, KOK X0 113 (subC [true] b51) fr σ ((fun fr σ => c51_1 run fu (G fr 0) (G fr 3) σ) fr σ) k51 := fun fr σ =>
  KOK.scope1 (X := X0) (N := 113) (b := (subC [true, false] b51)) (k := k51) 0 (u := fun m fr σ => c51_1L run fu m (G fr 0) (G fr 3) σ) (fun _ _ => rfl) (fun m fr σ => KOK.piece env0 hrun [0, 3] (eq51_1L run fu (c51_1L run fu m) (G fr 0) (G fr 3) σ) (owed51_1L hrun fu (c51_1L run fu m))) fu
    (KOK.piece env0 hrun [0, 3] (eq51_1 run fu (G fr 0) (G fr 3) σ) ⟨trivial, ⟨(ok51_7 hrun fu), (ok51_4 hrun fu)⟩⟩)

noncomputable def c51 (run : RunT) (fu : Nat) (x0 x1 : AV) (σ : Store) : Tr R :=
  boxK σ 201 x1 fun x3 σ1 =>
  c51_1 run fu x0 x3 σ1

theorem eq51 (run : RunT) (fu : Nat) (x0 x1 : AV) (σ : Store) : codeK X0 run (.seq .leaf (.sub (fun fr σ => c51_1 run fu (G fr 0) (G fr 3) σ))) (subC [] b51) ([x0, x1] ++ padA (113 - 2)) σ k51 = c51 run fu x0 x1 σ := by kernel_rfl

theorem ok51 {run : RunT} (hrun : RunOK X0 run) (fu : Nat) (x0 x1 : AV) (σ : Store) : CallOK X0 51 [x0, x1] σ (c51 run fu x0 x1 σ) :=
  KOK.body (fn := Tryz.f51) (c := subC [] b51) (by kernel_rfl) (by kernel_rfl) (by show 2 ≤ 113; decide) (KOK.whole env0 hrun (eq51 run fu x0 x1 σ) ⟨trivial, (ok51_1 hrun fu)⟩)

-- (*pub-paratext/pub/rscmarkdown.parseState).trimStack

noncomputable def b52 : Code := match Tryz.f52.body with | some c => c | none => .skip

noncomputable def k52 : Kont R := retK Tryz.prog []

noncomputable def c52_2b (run : RunT) (fu : Nat) (s2 : W2) (x0 x1 : AV) (σ : Store) : Tr R :=
  nchkK x0 fun x13 =>
  addrK x13 4 fun x14 =>
  ld1K σ x14 fun x15 =>
  lenLK x15 fun x16 =>
  cmpK .gtr x16 x1 fun x18 =>
  ifK x18 (
  calK run 59 [x0] σ fun x20 σ1 =>
  s2 x0 x1 σ1) (
  .ret (.tup [], σ))

noncomputable def c52_2 (run : RunT) (fu : Nat) : Nat → W2
  | 0 => fun _ _ _ => .fail
  | m + 1 => c52_2b run fu (c52_2 run fu m)

theorem eq52_2 (run : RunT) (fu : Nat) (s2 : W2) (x0 x1 : AV) (σ : Store) : codeK X0 run (.seq (.seq .leaf (.cond .leaf .leaf)) (.block .leaf)) (subC [true, false, false] b52) (frS 0 21 [(0, x0), (1, x1)]) σ (thenK (fun fr σ => s2 (G fr 0) (G fr 1) σ) (blockK 0 k52)) = c52_2b run fu s2 x0 x1 σ := by kernel_rfl

theorem owed52_2 {run : RunT} (hrun : RunOK X0 run) (fu : Nat) (s2 : W2) : Owes X0 run 21 (.seq (.seq .leaf (.cond .leaf .leaf)) (.block .leaf)) (subC [true, false, false] b52) (thenK (fun fr σ => s2 (G fr 0) (G fr 1) σ) (blockK 0 k52)) :=
  ⟨⟨trivial, ⟨trivial, trivial⟩⟩, trivial⟩

theorem ok52_2 {run : RunT} (hrun : RunOK X0 run) (fu : Nat) : ∀ fr σ, KOK X0 21 (subC [true, false] b52) fr σ ((fun fr σ => c52_2 run fu fu (G fr 0) (G fr 1) σ) fr σ) (blockK 0 k52) := by
  have h := KOK.loop (X := X0) (N := 21) (b := (subC [true, false, false] b52)) (k := (blockK 0 k52)) (u := fun m fr σ => c52_2 run fu m (G fr 0) (G fr 1) σ) (fun _ _ => rfl) (fun m fr σ => KOK.piece env0 hrun [0, 1] (eq52_2 run fu (c52_2 run fu m) (G fr 0) (G fr 1) σ) (owed52_2 hrun fu (c52_2 run fu m)))
  exact fun fr σ => h fu fr σ

noncomputable def c52_1 (run : RunT) (fu : Nat) (x0 x1 : AV) (σ : Store) : Tr R :=
  c52_2 run fu fu x0 x1 σ

theorem eq52_1 (run : RunT) (fu : Nat) (x0 x1 : AV) (σ : Store) : codeK X0 run (.block (.sub (fun fr σ => c52_2 run fu fu (G fr 0) (G fr 1) σ))) (subC [true] b52) (frS 0 21 [(0, x0), (1, x1)]) σ k52 = c52_1 run fu x0 x1 σ := by kernel_rfl

theorem ok52_1 {run : RunT} (hrun : RunOK X0 run) (fu : Nat) : ∀ fr σ, KOK X0 21 (subC [true] b52) fr σ ((fun fr σ => c52_1 run fu (G fr 0) (G fr 1) σ) fr σ) k52 := fun fr σ =>
  KOK.piece env0 hrun [0, 1] (eq52_1 run fu (G fr 0) (G fr 1) σ) (ok52_2 hrun fu)

noncomputable def c52 (run : RunT) (fu : Nat) (x0 x1 : AV) (σ : Store) : Tr R :=
  nchkK x0 fun x5 =>
  addrK x5 4 fun x6 =>
  ld1K σ x6 fun x7 =>
  lenLK x7 fun x8 =>
  cmpK .lss x8 x1 fun x10 =>
  ifK x10 (
  .fail) (
  c52_1 run fu x0 x1 σ)

theorem eq52 (run : RunT) (fu : Nat) (x0 x1 : AV) (σ : Store) : codeK X0 run (.seq (.seq .leaf (.cond (.sub deadK) .leaf)) (.sub (fun fr σ => c52_1 run fu (G fr 0) (G fr 1) σ))) (subC [] b52) ([x0, x1] ++ padA (21 - 2)) σ k52 = c52 run fu x0 x1 σ := by kernel_rfl

theorem ok52 {run : RunT} (hrun : RunOK X0 run) (fu : Nat) (x0 x1 : AV) (σ : Store) : CallOK X0 52 [x0, x1] σ (c52 run fu x0 x1 σ) :=
  KOK.body (fn := Tryz.f52) (c := subC [] b52) (by kernel_rfl) (by kernel_rfl) (by show 2 ≤ 21; decide) (KOK.whole env0 hrun (eq52 run fu x0 x1 σ) ⟨⟨trivial, ⟨KOK.dead, trivial⟩⟩, (ok52_1 hrun fu)⟩)

-- (*pub-paratext/pub/rscmarkdown.parseState).inline

noncomputable def b53 : Code := match Tryz.f53.body with | some c => c | none => .skip

noncomputable def k53 : Kont R := retK Tryz.prog [.tmp 4]

noncomputable def c53_1 (run : RunT) (fu : Nat) (x0 x1 : AV) (σ : Store) : Tr R :=
  lenSK x1 fun x297 =>
  calK run 73 [x0, x297] σ fun x298 σ1 =>
  nchkK x0 fun x302 =>
  addrK x302 9 fun x303 =>
  ld1K σ1 x303 fun x304 =>
  sliceLK Tryz.prog σ1 84 x304 none (some (.int .i64 0)) fun x305 =>
  nchkK x0 fun x307 =>
  addrK x307 9 fun x308 =>
  ld1K σ1 x308 fun x309 =>
  calK run 77 [x0, x305, x309] σ1 fun x310 σ2 =>
  nchkK x0 fun x311 =>
  addrK x311 9 fun x312 =>
  st1K σ2 x312 x310 fun _ σ3 =>
  nchkK x0 fun x316 =>
  addrK x316 9 fun x317 =>
  ld1K σ3 x317 fun x318 =>
  calK run 78 [x0, x318] σ3 fun x319 σ4 =>
  nchkK x0 fun x320 =>
  addrK x320 9 fun x321 =>
  st1K σ4 x321 x319 fun _ σ5 =>
  nchkK x0 fun x325 =>
  addrK x325 9 fun x326 =>
  ld1K σ5 x326 fun x327 =>
  calK run 79 [x0, x327] σ5 fun x328 σ6 =>
  nchkK x0 fun x329 =>
  addrK x329 9 fun x330 =>
  st1K σ6 x330 x328 fun _ σ7 =>
  nchkK x0 fun x332 =>
  addrK x332 9 fun x333 =>
  ld1K σ7 x333 fun x334 =>
  .ret (x334, σ7)

theorem eq53_1 (run : RunT) (fu : Nat) (x0 x1 : AV) (σ : Store) : codeK X0 run (.seq .leaf (.seq .leaf (.seq .leaf (.seq .leaf (.seq .leaf .leaf))))) (subC [true, true, true, true, true, true, true, true, true, true] b53) (frS 0 335 [(0, x0), (1, x1)]) σ k53 = c53_1 run fu x0 x1 σ := by kernel_rfl

theorem ok53_1 {run : RunT} (hrun : RunOK X0 run) (fu : Nat) : ∀ fr σ, KOK X0 335 (subC [true, true, true, true, true, true, true, true, true, true] b53) fr σ ((fun fr σ => c53_1 run fu (G fr 0) (G fr 1) σ) fr σ) k53 := fun fr σ =>
  KOK.piece env0 hrun [0, 1] (eq53_1 run fu (G fr 0) (G fr 1) σ) ⟨trivial, ⟨trivial, ⟨trivial, ⟨trivial, ⟨trivial, trivial⟩⟩⟩⟩⟩

noncomputable def c53_5 (run : RunT) (fu : Nat) (s2 : W6) (x0 x1 x5 x6 x7 x8 : AV) (σ : Store) : Tr R :=
  addK x8 (.int .i64 1) fun x294 =>
  s2 x0 x1 x5 x6 x7 x294 σ

theorem eq53_5 (run : RunT) (fu : Nat) (s2 : W6) (x0 x1 x5 x6 x7 x8 : AV) (σ : Store) : codeK X0 run .leaf (subC [true, true, true, true, true, true, true, true, true, false, false, false, true, false, true, true, true, true] b53) (frS 0 335 [(0, x0), (1, x1), (5, x5), (6, x6), (7, x7), (8, x8)]) σ (blockK 1 (thenK (fun fr σ => s2 (G fr 0) (G fr 1) (G fr 5) (G fr 6) (G fr 7) (G fr 8) σ) (blockK 0 (thenK (fun fr σ => c53_1 run fu (G fr 0) (G fr 1) σ) k53)))) = c53_5 run fu s2 x0 x1 x5 x6 x7 x8 σ := by kernel_rfl

theorem ok53_5 {run : RunT} (hrun : RunOK X0 run) (fu : Nat) (s2 : W6) : ∀ fr σ, KOK X0 335 (subC [true, true, true, true, true, true, true, true, true, false, false, false, true, false, true, true, true, true] b53) fr σ ((fun fr σ => c53_5 run fu s2 (G fr 0) (G fr 1) (G fr 5) (G fr 6) (G fr 7) (G fr 8) σ) fr σ) (blockK 1 (thenK (fun fr σ => s2 (G fr 0) (G fr 1) (G fr 5) (G fr 6) (G fr 7) (G fr 8) σ) (blockK 0 (thenK (fun fr σ => c53_1 run fu (G fr 0) (G fr 1) σ) k53)))) := fun fr σ =>
  KOK.piece env0 hrun [0, 1, 5, 6, 7, 8] (eq53_5 run fu s2 (G fr 0) (G fr 1) (G fr 5) (G fr 6) (G fr 7) (G fr 8) σ) trivial

noncomputable def c53_6 (run : RunT) (fu : Nat) (s2 : W6) (x0 x1 x5 x6 x7 x16 x17 x19 : AV) (σ : Store) : Tr R :=
  nchkK x0 fun x270 =>
  addrK x270 9 fun x271 =>
  ld1K σ x271 fun x272 =>
  addK x16 (.int .i64 1) fun x274 =>
  sliceLK Tryz.prog σ 84 x272 none (some x274) fun x275 =>
  nchkK x0 fun x276 =>
  addrK x276 9 fun x277 =>
  st1K σ x277 x275 fun _ σ1 =>
  calK run 74 [x0, x19] σ1 fun x280 σ2 =>
  nchkK x17 fun x283 =>
  addrK x283 0 fun x284 =>
  addrK x284 0 fun x285 =>
  ld1K σ2 x285 fun x286 =>
  idxSK x286 (.int .i64 0) fun x287 =>
  cmpK .eql x287 (.int .u8 91) fun x288 =>
  ifK x288 (
  nchkK x17 fun x290 =>
  addrK x290 1 fun x291 =>
  ld1K σ2 x291 fun x292 =>
  s2 x0 x1 x5 x292 x7 x19 σ2) (
  s2 x0 x1 x5 x6 x7 x19 σ2)

theorem eq53_6 (run : RunT) (fu : Nat) (s2 : W6) (x0 x1 x5 x6 x7 x16 x17 x19 : AV) (σ : Store) : codeK X0 run (.seq .leaf (.seq .leaf (.seq .leaf (.seq (.seq .leaf (.cond .leaf .leaf)) .leaf)))) (subC [true, true, true, true, true, true, true, true, true, false, false, false, true, false, true, true, true, false, true, false, true, true, true, true, false, true, true, false, true, true, true, true] b53) (frS 0 335 [(0, x0), (1, x1), (5, x5), (6, x6), (7, x7), (16, x16), (17, x17), (19, x19)]) σ (thenK (fun fr σ => c53_5 run fu s2 (G fr 0) (G fr 1) (G fr 5) (G fr 6) (G fr 7) (G fr 8) σ) (blockK 1 (thenK (fun fr σ => s2 (G fr 0) (G fr 1) (G fr 5) (G fr 6) (G fr 7) (G fr 8) σ) (blockK 0 (thenK (fun fr σ => c53_1 run fu (G fr 0) (G fr 1) σ) k53))))) = c53_6 run fu s2 x0 x1 x5 x6 x7 x16 x17 x19 σ := by kernel_rfl

theorem ok53_6 {run : RunT} (hrun : RunOK X0 run) (fu : Nat) (s2 : W6) : ∀ fr σ, KOK X0 335 (subC [true, true, true, true, true, true, true, true, true, false, false, false, true, false, true, true, true, false, true, false, true, true, true, true, false, true, true, false, true, true, true, true] b53) fr σ ((fun fr σ => c53_6 run fu s2 (G fr 0) (G fr 1) (G fr 5) (G fr 6) (G fr 7) (G fr 16) (G fr 17) (G fr 19) σ) fr σ) (thenK (fun fr σ => c53_5 run fu s2 (G fr 0) (G fr 1) (G fr 5) (G fr 6) (G fr 7) (G fr 8) σ) (blockK 1 (thenK (fun fr σ => s2 (G fr 0) (G fr 1) (G fr 5) (G fr 6) (G fr 7) (G fr 8) σ) (blockK 0 (thenK (fun fr σ => c53_1 run fu (G fr 0) (G fr 1) σ) k53))))) := fun fr σ =>
  KOK.piece env0 hrun [0, 1, 5, 6, 7, 16, 17, 19] (eq53_6 run fu s2 (G fr 0) (G fr 1) (G fr 5) (G fr 6) (G fr 7) (G fr 16) (G fr 17) (G fr 19) σ) ⟨trivial, ⟨trivial, ⟨trivial, ⟨⟨trivial, ⟨trivial, trivial⟩⟩, trivial⟩⟩⟩⟩

noncomputable def c53_4 (run : RunT) (fu : Nat) (s2 : W6) (x0 x1 x5 x6 x7 x8 : AV) (σ : Store) : Tr R :=
  idxSK x1 x8 fun x159 =>
  cmpK .eql x159 (.int .u8 93) fun x160 =>
  grdK x160 true σ (fun f => f x5 σ) fun x162 σ1 =>
  grdK x160 true σ1 (fun f => lenLK x162 fun v => f v σ1) fun x163 σ2 =>
  grdK x160 true σ2 (fun f => cmpK .gtr x163 (.int .i64 0) fun v => f v σ2) fun x164 σ3 =>
  pickK x160 x164 (.bool false) fun x165 =>
  ifK x165 (
  lenLK x5 fun x168 =>
  subK x168 (.int .i64 1) fun x169 =>
  idxK 1 x5 x169 fun x170 =>
  ld1K σ3 x170 fun x171 =>
  nchkK x0 fun x173 =>
  addrK x173 9 fun x174 =>
  ld1K σ3 x174 fun x175 =>
  idxK 1 x175 x171 fun x177 =>
  ld1K σ3 x177 fun x178 =>
  tasK (some .nilp) 128 false x178 fun x179 =>
  lenLK x5 fun x182 =>
  subK x182 (.int .i64 1) fun x183 =>
  sliceLK Tryz.prog σ3 123 x5 none (some x183) fun x184 =>
  nchkK x179 fun x186 =>
  addrK x186 0 fun x187 =>
  addrK x187 0 fun x188 =>
  ld1K σ3 x188 fun x189 =>
  idxSK x189 (.int .i64 0) fun x190 =>
  cmpK .eql x190 (.int .u8 33) fun x191 =>
  grdK x191 false σ3 (fun f => f x6 σ3) fun x193 σ4 =>
  grdK x191 false σ4 (fun f => f x179 σ4) fun x194 σ5 =>
  grdK x191 false σ5 (fun f => nchkK x194 fun v => f v σ5) fun x195 σ6 =>
  grdK x191 false σ6 (fun f => addrK x195 1 fun v => f v σ6) fun x196 σ7 =>
  grdK x191 false σ7 (fun f => ld1K σ7 x196 fun v => f v σ7) fun x197 σ8 =>
  grdK x191 false σ8 (fun f => cmpK .leq x193 x197 fun v => f v σ8) fun x198 σ9 =>
  pickK x191 (.bool true) x198 fun x199 =>
  ifK x199 (
  calK run 75 [x0, x1, x8, x179] σ9 fun x205 σ10 =>
  extK x205 0 fun x206 =>
  extK x205 1 fun x207 =>
  extK x205 2 fun x208 =>
  ifK x208 (
  nchkK x0 fun x212 =>
  addrK x212 6 fun x213 =>
  ld1K σ10 x213 fun x214 =>
  grdK x214 false σ10 (fun f => f x206 σ10) fun x216 σ11 =>
  grdK x214 false σ11 (fun f => nchkK x216 fun v => f v σ11) fun x217 σ12 =>
  grdK x214 false σ12 (fun f => addrK x217 4 fun v => f v σ12) fun x218 σ13 =>
  grdK x214 false σ13 (fun f => ld1K σ13 x218 fun v => f v σ13) fun x219 σ14 =>
  pickK x214 (.bool true) x219 fun x220 =>
  grdK x220 false σ14 (fun f => f x206 σ14) fun x222 σ15 =>
  grdK x220 false σ15 (fun f => nchkK x222 fun v => f v σ15) fun x223 σ16 =>
  grdK x220 false σ16 (fun f => addrK x223 1 fun v => f v σ16) fun x224 σ17 =>
  grdK x220 false σ17 (fun f => ld1K σ17 x224 fun v => f v σ17) fun x225 σ18 =>
  grdK x220 false σ18 (fun f => calK run 76 [x225] σ18 f) fun x226 σ19 =>
  pickK x220 (.bool true) x226 fun x227 =>
  nchkK x0 fun x228 =>
  addrK x228 6 fun x229 =>
  st1K σ19 x229 x227 fun _ σ20 =>
  calK run 73 [x0, x8] σ20 fun x232 σ21 =>
  nchkK x0 fun x236 =>
  addrK x236 9 fun x237 =>
  ld1K σ21 x237 fun x238 =>
  addK x171 (.int .i64 1) fun x240 =>
  sliceLK Tryz.prog σ21 84 x238 (some x240) none fun x241 =>
  calK run 77 [x0, .nils, x241] σ21 fun x242 σ22 =>
  nchkK x206 fun x243 =>
  addrK x243 0 fun x244 =>
  st1K σ22 x244 x242 fun _ σ23 =>
  nchkK x179 fun x246 =>
  addrK x246 0 fun x247 =>
  addrK x247 0 fun x248 =>
  ld1K σ23 x248 fun x249 =>
  idxSK x249 (.int .i64 0) fun x250 =>
  cmpK .eql x250 (.int .u8 33) fun x251 =>
  ifK x251 (
  nchkK x0 fun x253 =>
  addrK x253 9 fun x254 =>
  ld1K σ23 x254 fun x255 =>
  idxK 1 x255 x171 fun x259 =>
  st1K σ23 x259 (.iface 140 x206) fun _ σ24 =>
  c53_6 run fu s2 x0 x1 x184 x6 x7 x171 x179 x207 σ24) (
  nchkK x0 fun x261 =>
  addrK x261 9 fun x262 =>
  ld1K σ23 x262 fun x263 =>
  idxK 1 x263 x171 fun x267 =>
  st1K σ23 x267 (.iface 134 x206) fun _ σ25 =>
  c53_6 run fu s2 x0 x1 x184 x6 x7 x171 x179 x207 σ25)) (
  .fail)) (
  .fail)) (
  c53_5 run fu s2 x0 x1 x5 x6 x7 x8 σ3)

theorem eq53_4 (run : RunT) (fu : Nat) (s2 : W6) (x0 x1 x5 x6 x7 x8 : AV) (σ : Store) : codeK X0 run (.seq (.seq .leaf (.cond (.seq .leaf (.seq .leaf (.seq .leaf (.seq .leaf (.cond (.seq .leaf (.seq .leaf (.cond (.seq .leaf (.seq .leaf (.seq .leaf (.seq (.seq .leaf (.cond .leaf .leaf)) (.sub (fun fr σ => c53_6 run fu s2 (G fr 0) (G fr 1) (G fr 5) (G fr 6) (G fr 7) (G fr 16) (G fr 17) (G fr 19) σ)))))) (.sub deadK)))) (.sub deadK)))))) .leaf)) (.sub (fun fr σ => c53_5 run fu s2 (G fr 0) (G fr 1) (G fr 5) (G fr 6) (G fr 7) (G fr 8) σ))) (subC [true, true, true, true, true, true, true, true, true, false, false, false, true, false, true, true, true] b53) (frS 0 335 [(0, x0), (1, x1), (5, x5), (6, x6), (7, x7), (8, x8)]) σ (blockK 1 (thenK (fun fr σ => s2 (G fr 0) (G fr 1) (G fr 5) (G fr 6) (G fr 7) (G fr 8) σ) (blockK 0 (thenK (fun fr σ => c53_1 run fu (G fr 0) (G fr 1) σ) k53)))) = c53_4 run fu s2 x0 x1 x5 x6 x7 x8 σ := by kernel_rfl

theorem ok53_4 {run : RunT} (hrun : RunOK X0 run) (fu : Nat) (s2 : W6) : ∀ fr σ, KOK X0 335 (subC [true, true, true, true, true, true, true, true, true, false, false, false, true, false, true, true, true] b53) fr σ ((fun fr σ => c53_4 run fu s2 (G fr 0) (G fr 1) (G fr 5) (G fr 6) (G fr 7) (G fr 8) σ) fr σ) (blockK 1 (thenK (fun fr σ => s2 (G fr 0) (G fr 1) (G fr 5) (G fr 6) (G fr 7) (G fr 8) σ) (blockK 0 (thenK (fun fr σ => c53_1 run fu (G fr 0) (G fr 1) σ) k53)))) := fun fr σ =>
  KOK.piece env0 hrun [0, 1, 5, 6, 7, 8] (eq53_4 run fu s2 (G fr 0) (G fr 1) (G fr 5) (G fr 6) (G fr 7) (G fr 8) σ) ⟨⟨trivial, ⟨⟨trivial, ⟨trivial, ⟨trivial, ⟨trivial, ⟨⟨trivial, ⟨trivial, ⟨⟨trivial, ⟨trivial, ⟨trivial, ⟨⟨trivial, ⟨trivial, trivial⟩⟩, (ok53_6 hrun fu s2)⟩⟩⟩⟩, KOK.dead⟩⟩⟩, KOK.dead⟩⟩⟩⟩⟩, trivial⟩⟩, (ok53_5 hrun fu s2)⟩

noncomputable def c53_7 (run : RunT) (fu : Nat) (s2 : W6) (x0 x1 x5 x6 x7 x10 x12 : AV) (σ : Store) : Tr R :=
  nchkK x0 fun x145 =>
  addrK x145 9 fun x146 =>
  ld1K σ x146 fun x147 =>
  opt (fillK [.nili] [(0, 1, x10)]) fun cs => newSK σ 253 cs 1 1 fun x149 σ1 =>
  appK 126 1 16 σ1 x147 x149 fun x150 σ2 =>
  nchkK x0 fun x151 =>
  addrK x151 9 fun x152 =>
  st1K σ2 x152 x150 fun _ σ3 =>
  calK run 74 [x0, x12] σ3 fun x156 σ4 =>
  s2 x0 x1 x5 x6 x7 x12 σ4

theorem eq53_7 (run : RunT) (fu : Nat) (s2 : W6) (x0 x1 x5 x6 x7 x10 x12 : AV) (σ : Store) : codeK X0 run (.seq .leaf (.seq .leaf (.seq .leaf .leaf))) (subC [true, true, true, true, true, true, true, true, true, false, false, false, true, false, true, true, false, true, false, true, true, false, true, true] b53) (frS 0 335 [(0, x0), (1, x1), (5, x5), (6, x6), (7, x7), (10, x10), (12, x12)]) σ (thenK (fun fr σ => c53_4 run fu s2 (G fr 0) (G fr 1) (G fr 5) (G fr 6) (G fr 7) (G fr 8) σ) (blockK 1 (thenK (fun fr σ => s2 (G fr 0) (G fr 1) (G fr 5) (G fr 6) (G fr 7) (G fr 8) σ) (blockK 0 (thenK (fun fr σ => c53_1 run fu (G fr 0) (G fr 1) σ) k53))))) = c53_7 run fu s2 x0 x1 x5 x6 x7 x10 x12 σ := by kernel_rfl

theorem ok53_7 {run : RunT} (hrun : RunOK X0 run) (fu : Nat) (s2 : W6) : ∀ fr σ, KOK X0 335 (subC [true, true, true, true, true, true, true, true, true, false, false, false, true, false, true, true, false, true, false, true, true, false, true, true] b53) fr σ ((fun fr σ => c53_7 run fu s2 (G fr 0) (G fr 1) (G fr 5) (G fr 6) (G fr 7) (G fr 10) (G fr 12) σ) fr σ) (thenK (fun fr σ => c53_4 run fu s2 (G fr 0) (G fr 1) (G fr 5) (G fr 6) (G fr 7) (G fr 8) σ) (blockK 1 (thenK (fun fr σ => s2 (G fr 0) (G fr 1) (G fr 5) (G fr 6) (G fr 7) (G fr 8) σ) (blockK 0 (thenK (fun fr σ => c53_1 run fu (G fr 0) (G fr 1) σ) k53))))) := fun fr σ =>
  KOK.piece env0 hrun [0, 1, 5, 6, 7, 10, 12] (eq53_7 run fu s2 (G fr 0) (G fr 1) (G fr 5) (G fr 6) (G fr 7) (G fr 10) (G fr 12) σ) ⟨trivial, ⟨trivial, ⟨trivial, trivial⟩⟩⟩

noncomputable def c53_3 (run : RunT) (fu : Nat) (s2 : W6) (x0 x1 x5 x6 x7 x8 x9 : AV) (σ : Store) : Tr R :=
  neOK (nilEq nilF) x9 .nilf fun x114 =>
  ifK x114 (
  dynK X0 run x9 [x0, x1, x8] σ fun x120 σ1 =>
  extK x120 0 fun x121 =>
  extK x120 1 fun x122 =>
  extK x120 2 fun x123 =>
  extK x120 3 fun x124 =>
  ifK x124 (
  calK run 73 [x0, x122] σ1 fun x128 σ2 =>
  tasK (some .nilp) 128 true x121 fun x131 =>
  extK x131 0 fun x132 =>
  extK x131 1 fun x133 =>
  ifK x133 (
  nchkK x0 fun x137 =>
  addrK x137 9 fun x138 =>
  ld1K σ2 x138 fun x139 =>
  lenLK x139 fun x140 =>
  opt (fillK [(.int .i64 0)] [(0, 1, x140)]) fun cs => newSK σ2 7 cs 1 1 fun x141 σ3 =>
  appK 3 1 8 σ3 x5 x141 fun x142 σ4 =>
  c53_7 run fu s2 x0 x1 x142 x6 x7 x121 x123 σ4) (
  .fail)) (
  .fail)) (
  c53_4 run fu s2 x0 x1 x5 x6 x7 x8 σ)

theorem eq53_3 (run : RunT) (fu : Nat) (s2 : W6) (x0 x1 x5 x6 x7 x8 x9 : AV) (σ : Store) : codeK X0 run (.seq (.seq .leaf (.cond (.seq .leaf (.seq .leaf (.cond (.seq .leaf (.seq (.seq .leaf (.seq .leaf (.cond .leaf (.sub deadK)))) (.sub (fun fr σ => c53_7 run fu s2 (G fr 0) (G fr 1) (G fr 5) (G fr 6) (G fr 7) (G fr 10) (G fr 12) σ)))) (.sub deadK)))) .leaf)) (.sub (fun fr σ => c53_4 run fu s2 (G fr 0) (G fr 1) (G fr 5) (G fr 6) (G fr 7) (G fr 8) σ))) (subC [true, true, true, true, true, true, true, true, true, false, false, false, true, false, true, true] b53) (frS 0 335 [(0, x0), (1, x1), (5, x5), (6, x6), (7, x7), (8, x8), (9, x9)]) σ (blockK 1 (thenK (fun fr σ => s2 (G fr 0) (G fr 1) (G fr 5) (G fr 6) (G fr 7) (G fr 8) σ) (blockK 0 (thenK (fun fr σ => c53_1 run fu (G fr 0) (G fr 1) σ) k53)))) = c53_3 run fu s2 x0 x1 x5 x6 x7 x8 x9 σ := by kernel_rfl

theorem ok53_3 {run : RunT} (hrun : RunOK X0 run) (fu : Nat) (s2 : W6) : ∀ fr σ, KOK X0 335 (subC [true, true, true, true, true, true, true, true, true, false, false, false, true, false, true, true] b53) fr σ ((fun fr σ => c53_3 run fu s2 (G fr 0) (G fr 1) (G fr 5) (G fr 6) (G fr 7) (G fr 8) (G fr 9) σ) fr σ) (blockK 1 (thenK (fun fr σ => s2 (G fr 0) (G fr 1) (G fr 5) (G fr 6) (G fr 7) (G fr 8) σ) (blockK 0 (thenK (fun fr σ => c53_1 run fu (G fr 0) (G fr 1) σ) k53)))) := fun fr σ =>
  KOK.piece env0 hrun [0, 1, 5, 6, 7, 8, 9] (eq53_3 run fu s2 (G fr 0) (G fr 1) (G fr 5) (G fr 6) (G fr 7) (G fr 8) (G fr 9) σ) ⟨⟨trivial, ⟨⟨trivial, ⟨trivial, ⟨⟨trivial, ⟨⟨trivial, ⟨trivial, ⟨trivial, KOK.dead⟩⟩⟩, (ok53_7 hrun fu s2)⟩⟩, KOK.dead⟩⟩⟩, trivial⟩⟩, (ok53_4 hrun fu s2)⟩

noncomputable def c53_9 (run : RunT) (fu : Nat) (s2 : W6) (x0 x1 x5 x6 x7 x8 x9 x39 x81 : AV) (σ : Store) : Tr R :=
  ifK x81 (
  .fail) (
  cmpK .eql x39 (.int .u8 126) fun x92 =>
  ifK x92 (
  .fail) (
  cmpK .eql x39 (.int .u8 10) fun x101 =>
  ifK x101 (
  .fail) (
  cmpK .eql x39 (.int .u8 38) fun x103 =>
  ifK x103 (
  .fail) (
  cmpK .eql x39 (.int .u8 58) fun x105 =>
  ifK x105 (
  .fail) (
  c53_3 run fu s2 x0 x1 x5 x6 x7 x8 x9 σ)))))

theorem eq53_9 (run : RunT) (fu : Nat) (s2 : W6) (x0 x1 x5 x6 x7 x8 x9 x39 x81 : AV) (σ : Store) : codeK X0 run (.cond (.sub deadK) (.seq .leaf (.cond (.sub deadK) (.seq .leaf (.cond (.sub deadK) (.seq .leaf (.cond (.sub deadK) (.seq .leaf (.cond (.sub deadK) .leaf))))))))) (subC [true, true, true, true, true, true, true, true, true, false, false, false, true, false, true, false, true, false, true, true, true, true, true, true, true, true, true, true, true, true, true, true, true, true, true] b53) (frS 0 335 [(0, x0), (1, x1), (5, x5), (6, x6), (7, x7), (8, x8), (9, x9), (39, x39), (81, x81)]) σ (blockK 2 (thenK (fun fr σ => c53_3 run fu s2 (G fr 0) (G fr 1) (G fr 5) (G fr 6) (G fr 7) (G fr 8) (G fr 9) σ) (blockK 1 (thenK (fun fr σ => s2 (G fr 0) (G fr 1) (G fr 5) (G fr 6) (G fr 7) (G fr 8) σ) (blockK 0 (thenK (fun fr σ => c53_1 run fu (G fr 0) (G fr 1) σ) k53)))))) = c53_9 run fu s2 x0 x1 x5 x6 x7 x8 x9 x39 x81 σ := by kernel_rfl

theorem ok53_9 {run : RunT} (hrun : RunOK X0 run) (fu : Nat) (s2 : W6) : ∀ fr σ, KOK X0 335 (subC [true, true, true, true, true, true, true, true, true, false, false, false, true, false, true, false, true, false, true, true, true, true, true, true, true, true, true, true, true, true, true, true, true, true, true] b53) fr σ ((fun fr σ => c53_9 run fu s2 (G fr 0) (G fr 1) (G fr 5) (G fr 6) (G fr 7) (G fr 8) (G fr 9) (G fr 39) (G fr 81) σ) fr σ) (blockK 2 (thenK (fun fr σ => c53_3 run fu s2 (G fr 0) (G fr 1) (G fr 5) (G fr 6) (G fr 7) (G fr 8) (G fr 9) σ) (blockK 1 (thenK (fun fr σ => s2 (G fr 0) (G fr 1) (G fr 5) (G fr 6) (G fr 7) (G fr 8) σ) (blockK 0 (thenK (fun fr σ => c53_1 run fu (G fr 0) (G fr 1) σ) k53)))))) := fun fr σ =>
  KOK.piece env0 hrun [0, 1, 5, 6, 7, 8, 9, 39, 81] (eq53_9 run fu s2 (G fr 0) (G fr 1) (G fr 5) (G fr 6) (G fr 7) (G fr 8) (G fr 9) (G fr 39) (G fr 81) σ) ⟨KOK.dead, ⟨trivial, ⟨KOK.dead, ⟨trivial, ⟨KOK.dead, ⟨trivial, ⟨KOK.dead, ⟨trivial, ⟨KOK.dead, trivial⟩⟩⟩⟩⟩⟩⟩⟩⟩

noncomputable def c53_8 (run : RunT) (fu : Nat) (s2 : W6) (x0 x1 x5 x6 x7 x8 x9 x39 x60 : AV) (σ : Store) : Tr R :=
  ifK x60 (
  .fail) (
  cmpK .eql x39 (.int .u8 46) fun x64 =>
  ifK x64 (
  .fail) (
  cmpK .eql x39 (.int .u8 45) fun x73 =>
  ifK x73 (
  .fail) (
  cmpK .eql x39 (.int .u8 34) fun x82 =>
  ifK x82 (
  .fail) (
  cmpK .eql x39 (.int .u8 39) fun x83 =>
  c53_9 run fu s2 x0 x1 x5 x6 x7 x8 x9 x39 x83 σ))))

theorem eq53_8 (run : RunT) (fu : Nat) (s2 : W6) (x0 x1 x5 x6 x7 x8 x9 x39 x60 : AV) (σ : Store) : codeK X0 run (.cond (.sub deadK) (.seq .leaf (.cond (.sub deadK) (.seq .leaf (.cond (.sub deadK) (.seq (.seq .leaf (.cond (.sub deadK) .leaf)) (.sub (fun fr σ => c53_9 run fu s2 (G fr 0) (G fr 1) (G fr 5) (G fr 6) (G fr 7) (G fr 8) (G fr 9) (G fr 39) (G fr 81) σ)))))))) (subC [true, true, true, true, true, true, true, true, true, false, false, false, true, false, true, false, true, false, true, true, true, true, true, true, true, true, true, true, true] b53) (frS 0 335 [(0, x0), (1, x1), (5, x5), (6, x6), (7, x7), (8, x8), (9, x9), (39, x39), (60, x60)]) σ (blockK 2 (thenK (fun fr σ => c53_3 run fu s2 (G fr 0) (G fr 1) (G fr 5) (G fr 6) (G fr 7) (G fr 8) (G fr 9) σ) (blockK 1 (thenK (fun fr σ => s2 (G fr 0) (G fr 1) (G fr 5) (G fr 6) (G fr 7) (G fr 8) σ) (blockK 0 (thenK (fun fr σ => c53_1 run fu (G fr 0) (G fr 1) σ) k53)))))) = c53_8 run fu s2 x0 x1 x5 x6 x7 x8 x9 x39 x60 σ := by kernel_rfl

theorem ok53_8 {run : RunT} (hrun : RunOK X0 run) (fu : Nat) (s2 : W6) : ∀ fr σ, KOK X0 335 (subC [true, true, true, true, true, true, true, true, true, false, false, false, true, false, true, false, true, false, true, true, true, true, true, true, true, true, true, true, true] b53) fr σ ((fun fr σ => c53_8 run fu s2 (G fr 0) (G fr 1) (G fr 5) (G fr 6) (G fr 7) (G fr 8) (G fr 9) (G fr 39) (G fr 60) σ) fr σ) (blockK 2 (thenK (fun fr σ => c53_3 run fu s2 (G fr 0) (G fr 1) (G fr 5) (G fr 6) (G fr 7) (G fr 8) (G fr 9) σ) (blockK 1 (thenK (fun fr σ => s2 (G fr 0) (G fr 1) (G fr 5) (G fr 6) (G fr 7) (G fr 8) σ) (blockK 0 (thenK (fun fr σ => c53_1 run fu (G fr 0) (G fr 1) σ) k53)))))) := fun fr σ =>
  KOK.piece env0 hrun [0, 1, 5, 6, 7, 8, 9, 39, 60] (eq53_8 run fu s2 (G fr 0) (G fr 1) (G fr 5) (G fr 6) (G fr 7) (G fr 8) (G fr 9) (G fr 39) (G fr 60) σ) ⟨KOK.dead, ⟨trivial, ⟨KOK.dead, ⟨trivial, ⟨KOK.dead, ⟨⟨trivial, ⟨KOK.dead, trivial⟩⟩, (ok53_9 hrun fu s2)⟩⟩⟩⟩⟩⟩

noncomputable def c53_2b (run : RunT) (fu : Nat) (s2 : W6) (x0 x1 x5 x6 x7 x8 : AV) (σ : Store) : Tr R :=
  lenSK x1 fun x35 =>
  cmpK .lss x8 x35 fun x36 =>
  ifK x36 (
  idxSK x1 x8 fun x39 =>
  cmpK .eql x39 (.int .u8 92) fun x41 =>
  ifK x41 (
  .fail) (
  cmpK .eql x39 (.int .u8 96) fun x43 =>
  ifK x43 (
  .fail) (
  cmpK .eql x39 (.int .u8 60) fun x55 =>
  ifK x55 (
  .fail) (
  cmpK .eql x39 (.int .u8 91) fun x57 =>
  ifK x57 (
  c53_3 run fu s2 x0 x1 x5 x6 x7 x8 (.fn (.func 65) [] []) σ) (
  cmpK .eql x39 (.int .u8 33) fun x59 =>
  ifK x59 (
  c53_3 run fu s2 x0 x1 x5 x6 x7 x8 (.fn (.func 66) [] []) σ) (
  cmpK .eql x39 (.int .u8 95) fun x61 =>
  ifK x61 (
  .fail) (
  cmpK .eql x39 (.int .u8 42) fun x62 =>
  c53_8 run fu s2 x0 x1 x5 x6 x7 x8 .nilf x39 x62 σ))))))) (
  c53_1 run fu x0 x1 σ)

noncomputable def c53_2 (run : RunT) (fu : Nat) : Nat → W6
  | 0 => fun _ _ _ _ _ _ _ => .fail
  | m + 1 => c53_2b run fu (c53_2 run fu m)

theorem eq53_2 (run : RunT) (fu : Nat) (s2 : W6) (x0 x1 x5 x6 x7 x8 : AV) (σ : Store) : codeK X0 run (.seq (.seq .leaf (.cond .leaf .leaf)) (.block (.seq .leaf (.seq (.seq .leaf (.block (.seq .leaf (.cond (.sub deadK) (.seq .leaf (.cond (.sub deadK) (.seq .leaf (.cond (.sub deadK) (.seq .leaf (.cond .leaf (.seq .leaf (.cond .leaf (.seq (.seq .leaf (.cond (.sub deadK) .leaf)) (.sub (fun fr σ => c53_8 run fu s2 (G fr 0) (G fr 1) (G fr 5) (G fr 6) (G fr 7) (G fr 8) (G fr 9) (G fr 39) (G fr 60) σ))))))))))))))) (.sub (fun fr σ => c53_3 run fu s2 (G fr 0) (G fr 1) (G fr 5) (G fr 6) (G fr 7) (G fr 8) (G fr 9) σ)))))) (subC [true, true, true, true, true, true, true, true, true, false, false, false] b53) (frS 0 335 [(0, x0), (1, x1), (5, x5), (6, x6), (7, x7), (8, x8)]) σ (thenK (fun fr σ => s2 (G fr 0) (G fr 1) (G fr 5) (G fr 6) (G fr 7) (G fr 8) σ) (blockK 0 (thenK (fun fr σ => c53_1 run fu (G fr 0) (G fr 1) σ) k53))) = c53_2b run fu s2 x0 x1 x5 x6 x7 x8 σ := by kernel_rfl

theorem owed53_2 {run : RunT} (hrun : RunOK X0 run) (fu : Nat) (s2 : W6) : Owes X0 run 335 (.seq (.seq .leaf (.cond .leaf .leaf)) (.block (.seq .leaf (.seq (.seq .leaf (.block (.seq .leaf (.cond (.sub deadK) (.seq .leaf (.cond (.sub deadK) (.seq .leaf (.cond (.sub deadK) (.seq .leaf (.cond .leaf (.seq .leaf (.cond .leaf (.seq (.seq .leaf (.cond (.sub deadK) .leaf)) (.sub (fun fr σ => c53_8 run fu s2 (G fr 0) (G fr 1) (G fr 5) (G fr 6) (G fr 7) (G fr 8) (G fr 9) (G fr 39) (G fr 60) σ))))))))))))))) (.sub (fun fr σ => c53_3 run fu s2 (G fr 0) (G fr 1) (G fr 5) (G fr 6) (G fr 7) (G fr 8) (G fr 9) σ)))))) (subC [true, true, true, true, true, true, true, true, true, false, false, false] b53) (thenK (fun fr σ => s2 (G fr 0) (G fr 1) (G fr 5) (G fr 6) (G fr 7) (G fr 8) σ) (blockK 0 (thenK (fun fr σ => c53_1 run fu (G fr 0) (G fr 1) σ) k53))) :=
  ⟨⟨trivial, ⟨trivial, trivial⟩⟩, ⟨trivial, ⟨⟨trivial, ⟨trivial, ⟨KOK.dead, ⟨trivial, ⟨KOK.dead, ⟨trivial, ⟨KOK.dead, ⟨trivial, ⟨trivial, ⟨trivial, ⟨trivial, ⟨⟨trivial, ⟨KOK.dead, trivial⟩⟩, (ok53_8 hrun fu s2)⟩⟩⟩⟩⟩⟩⟩⟩⟩⟩⟩⟩, (ok53_3 hrun fu s2)⟩⟩⟩

theorem ok53_2 {run : RunT} (hrun : RunOK X0 run) (fu : Nat) : ∀ fr σ, KOK X0 335 (subC [true, true, true, true, true, true, true, true, true, false, false] b53) fr σ ((fun fr σ => c53_2 run fu fu (G fr 0) (G fr 1) (G fr 5) (G fr 6) (G fr 7) (G fr 8) σ) fr σ) (blockK 0 (thenK (fun fr σ => c53_1 run fu (G fr 0) (G fr 1) σ) k53)) := by
  have h := KOK.loop (X := X0) (N := 335) (b := (subC [true, true, true, true, true, true, true, true, true, false, false, false] b53)) (k := (blockK 0 (thenK (fun fr σ => c53_1 run fu (G fr 0) (G fr 1) σ) k53))) (u := fun m fr σ => c53_2 run fu m (G fr 0) (G fr 1) (G fr 5) (G fr 6) (G fr 7) (G fr 8) σ) (fun _ _ => rfl) (fun m fr σ => KOK.piece env0 hrun [0, 1, 5, 6, 7, 8] (eq53_2 run fu (c53_2 run fu m) (G fr 0) (G fr 1) (G fr 5) (G fr 6) (G fr 7) (G fr 8) σ) (owed53_2 hrun fu (c53_2 run fu m)))
  exact fun fr σ => h fu fr σ

noncomputable def c53 (run : RunT) (fu : Nat) (x0 x1 : AV) (σ : Store) : Tr R :=
  calK run 60 [x1] σ fun x22 σ1 =>
  nchkK x0 fun x25 =>
  addrK x25 7 fun x26 =>
  st1K σ1 x26 x22 fun _ σ2 =>
  nchkK x0 fun x28 =>
  addrK x28 9 fun x29 =>
  st1K σ2 x29 .nils fun _ σ3 =>
  nchkK x0 fun x31 =>
  addrK x31 8 fun x32 =>
  st1K σ3 x32 (.int .i64 0) fun _ σ4 =>
  c53_2 run fu fu x0 x22 .nils (.int .i64 0) (.bool false) (.int .i64 0) σ4

theorem eq53 (run : RunT) (fu : Nat) (x0 x1 : AV) (σ : Store) : codeK X0 run (.seq .leaf (.seq .leaf (.seq .leaf (.seq .leaf (.seq .leaf (.seq .leaf (.seq .leaf (.seq .leaf (.seq .leaf (.seq (.block (.sub (fun fr σ => c53_2 run fu fu (G fr 0) (G fr 1) (G fr 5) (G fr 6) (G fr 7) (G fr 8) σ))) (.sub (fun fr σ => c53_1 run fu (G fr 0) (G fr 1) σ)))))))))))) (subC [] b53) ([x0, x1] ++ padA (335 - 2)) σ k53 = c53 run fu x0 x1 σ := by kernel_rfl

theorem ok53 {run : RunT} (hrun : RunOK X0 run) (fu : Nat) (x0 x1 : AV) (σ : Store) : CallOK X0 53 [x0, x1] σ (c53 run fu x0 x1 σ) :=
  KOK.body (fn := Tryz.f53) (c := subC [] b53) (by kernel_rfl) (by kernel_rfl) (by show 2 ≤ 335; decide) (KOK.whole env0 hrun (eq53 run fu x0 x1 σ) ⟨trivial, ⟨trivial, ⟨trivial, ⟨trivial, ⟨trivial, ⟨trivial, ⟨trivial, ⟨trivial, ⟨trivial, ⟨(ok53_2 hrun fu), (ok53_1 hrun fu)⟩⟩⟩⟩⟩⟩⟩⟩⟩⟩)

-- (*pub-paratext/pub/rscmarkdown.line).isBlank

noncomputable def b56 : Code := match Tryz.f56.body with | some c => c | none => .skip

noncomputable def k56 : Kont R := retK Tryz.prog [.tmp 2]

noncomputable def c56 (run : RunT) (fu : Nat) (x0 : AV) (σ : Store) : Tr R :=
  nchkK x0 fun x4 =>
  addrK x4 3 fun x5 =>
  ld1K σ x5 fun x6 =>
  nchkK x0 fun x8 =>
  addrK x8 1 fun x9 =>
  ld1K σ x9 fun x10 =>
  sliceSK x6 (some x10) none fun x11 =>
  calK run 80 [x11] σ fun x12 σ1 =>
  eqSK x12 (.str []) fun x13 =>
  .ret (x13, σ1)

theorem eq56 (run : RunT) (fu : Nat) (x0 : AV) (σ : Store) : codeK X0 run (.seq .leaf (.seq .leaf .leaf)) (subC [] b56) ([x0] ++ padA (14 - 1)) σ k56 = c56 run fu x0 σ := by kernel_rfl

theorem ok56 {run : RunT} (hrun : RunOK X0 run) (fu : Nat) (x0 : AV) (σ : Store) : CallOK X0 56 [x0] σ (c56 run fu x0 σ) :=
  KOK.body (fn := Tryz.f56) (c := subC [] b56) (by kernel_rfl) (by kernel_rfl) (by show 1 ≤ 14; decide) (KOK.whole env0 hrun (eq56 run fu x0 σ) ⟨trivial, ⟨trivial, trivial⟩⟩)

-- pub-paratext/pub/rscmarkdown.news

noncomputable def b57 : Code := match Tryz.f57.body with | some c => c | none => .skip

noncomputable def k57 : Kont R := retK Tryz.prog [.tmp 0]

noncomputable def c57 (run : RunT) (fu : Nat) (σ : Store) : Tr R :=
  opt (fillK [.nilf, .nilf, .nilf, .nilf, .nilf, .nilf, .nilf, .nilf] [(0, 1, (.fn (.func 81) [] [])), (1, 1, (.fn (.func 82) [] [])), (2, 1, (.fn (.func 83) [] [])), (3, 1, (.fn (.func 84) [] [])), (4, 1, (.fn (.func 85) [] [])), (5, 1, (.fn (.func 86) [] [])), (6, 1, (.fn (.func 87) [] [])), (7, 1, (.fn (.func 88) [] []))]) fun cs => newSK σ 237 cs 8 1 fun x1 σ1 =>
  .ret (x1, σ1)

theorem eq57 (run : RunT) (fu : Nat) (σ : Store) : codeK X0 run (.seq .leaf (.seq .leaf .leaf)) (subC [] b57) ([] ++ padA (2 - 0)) σ k57 = c57 run fu σ := by kernel_rfl

theorem ok57 {run : RunT} (hrun : RunOK X0 run) (fu : Nat) (σ : Store) : CallOK X0 57 [] σ (c57 run fu σ) :=
  KOK.body (fn := Tryz.f57) (c := subC [] b57) (by kernel_rfl) (by kernel_rfl) (by show 0 ≤ 2; decide) (KOK.whole env0 hrun (eq57 run fu σ) ⟨trivial, ⟨trivial, trivial⟩⟩)

-- pub-paratext/pub/rscmarkdown.newPara

noncomputable def b58 : Code := match Tryz.f58.body with | some c => c | none => .skip

noncomputable def k58 : Kont R := retK Tryz.prog [.cell 4 100, .tmp 5]

noncomputable def c58_2 (run : RunT) (fu : Nat) (x4 x6 x8 : AV) (σ : Store) : Tr R :=
  nchkK x6 fun x166 =>
  addrK x166 0 fun x167 =>
  ld1K σ x167 fun x168 =>
  opt (fillK [(.str [])] [(0, 1, x8)]) fun cs => newSK σ 19 cs 1 1 fun x170 σ1 =>
  appK 9 1 16 σ1 x168 x170 fun x171 σ2 =>
  nchkK x6 fun x172 =>
  addrK x172 0 fun x173 =>
  st1K σ2 x173 x171 fun _ σ3 =>
  bldK [(.int .i64 0), (.int .i64 0), (.int .i64 0), (.str []), (.int .u8 0)] [] fun x174 =>
  stNK σ3 x4 5 x174 fun _ σ4 =>
  ldNK σ4 x4 5 fun v5 =>
  .ret (.tup [v5, (.bool true)], σ4)

theorem eq58_2 (run : RunT) (fu : Nat) (x4 x6 x8 : AV) (σ : Store) : codeK X0 run (.seq .leaf (.seq .leaf .leaf)) (subC [true, true, true, true, true, true, true] b58) (frS 0 175 [(4, x4), (6, x6), (8, x8)]) σ k58 = c58_2 run fu x4 x6 x8 σ := by kernel_rfl

theorem ok58_2 {run : RunT} (hrun : RunOK X0 run) (fu : Nat) : ∀ fr σ, KOK X0 175 (subC [true, true, true, true, true, true, true] b58) fr σ ((fun fr σ => c58_2 run fu (G fr 4) (G fr 6) (G fr 8) σ) fr σ) k58 := fun fr σ =>
  KOK.piece env0 hrun [4, 6, 8] (eq58_2 run fu (G fr 4) (G fr 6) (G fr 8) σ) ⟨trivial, ⟨trivial, trivial⟩⟩

noncomputable def c58_1 (run : RunT) (fu : Nat) (x0 x4 x6 x7 x8 : AV) (σ : Store) : Tr R :=
  nchkK x0 fun x52 =>
  addrK x52 0 fun x53 =>
  ld1K σ x53 fun x54 =>
  nchkK x54 fun x55 =>
  addrK x55 5 fun x56 =>
  ld1K σ x56 fun x57 =>
  grdK x57 true σ (fun f => f x6 σ) fun x59 σ1 =>
  grdK x57 true σ1 (fun f => neOK (nilEq nilP) x59 .nilp fun v => f v σ1) fun x60 σ2 =>
  pickK x57 x60 (.bool false) fun x61 =>
  grdK x61 true σ2 (fun f => f x7 σ2) fun x63 σ3 =>
  pickK x61 x63 (.bool false) fun x64 =>
  grdK x64 true σ3 (fun f => f x6 σ3) fun x66 σ4 =>
  grdK x64 true σ4 (fun f => nchkK x66 fun v => f v σ4) fun x67 σ5 =>
  grdK x64 true σ5 (fun f => addrK x67 0 fun v => f v σ5) fun x68 σ6 =>
  grdK x64 true σ6 (fun f => ld1K σ6 x68 fun v => f v σ6) fun x69 σ7 =>
  grdK x64 true σ7 (fun f => lenLK x69 fun v => f v σ7) fun x70 σ8 =>
  grdK x64 true σ8 (fun f => cmpK .gtr x70 (.int .i64 0) fun v => f v σ8) fun x71 σ9 =>
  pickK x64 x71 (.bool false) fun x72 =>
  grdK x72 true σ9 (fun f => f x6 σ9) fun x74 σ10 =>
  grdK x72 true σ10 (fun f => nchkK x74 fun v => f v σ10) fun x75 σ11 =>
  grdK x72 true σ11 (fun f => addrK x75 0 fun v => f v σ11) fun x76 σ12 =>
  grdK x72 true σ12 (fun f => ld1K σ12 x76 fun v => f v σ12) fun x77 σ13 =>
  grdK x72 true σ13 (fun f => f x6 σ13) fun x78 σ14 =>
  grdK x72 true σ14 (fun f => nchkK x78 fun v => f v σ14) fun x79 σ15 =>
  grdK x72 true σ15 (fun f => addrK x79 0 fun v => f v σ15) fun x80 σ16 =>
  grdK x72 true σ16 (fun f => ld1K σ16 x80 fun v => f v σ16) fun x81 σ17 =>
  grdK x72 true σ17 (fun f => lenLK x81 fun v => f v σ17) fun x82 σ18 =>
  grdK x72 true σ18 (fun f => subK x82 (.int .i64 1) fun v => f v σ18) fun x83 σ19 =>
  grdK x72 true σ19 (fun f => idxK 1 x77 x83 fun v => f v σ19) fun x84 σ20 =>
  grdK x72 true σ20 (fun f => ld1K σ20 x84 fun v => f v σ20) fun x85 σ21 =>
  grdK x72 true σ21 (fun f => f x8 σ21) fun x86 σ22 =>
  grdK x72 true σ22 (fun f => calK run 92 [x85, x86] σ22 f) fun x87 σ23 =>
  pickK x72 x87 (.bool false) fun x88 =>
  ifK x88 (
  .fail) (
  neOK (nilEq nilP) x6 .nilp fun x133 =>
  ifK x133 (
  .fail) (
  newK σ23 323 [.nils, .nilp] fun x159 σ24 =>
  calK run 49 [x0, (.iface 156 x159)] σ24 fun x163 σ25 =>
  c58_2 run fu x4 x159 x8 σ25))

theorem eq58_1 (run : RunT) (fu : Nat) (x0 x4 x6 x7 x8 : AV) (σ : Store) : codeK X0 run (.seq (.seq .leaf (.cond (.sub deadK) .leaf)) (.seq (.seq .leaf (.cond (.sub deadK) (.seq .leaf .leaf))) (.sub (fun fr σ => c58_2 run fu (G fr 4) (G fr 6) (G fr 8) σ)))) (subC [true, true, true, true, true] b58) (frS 0 175 [(0, x0), (4, x4), (6, x6), (7, x7), (8, x8)]) σ k58 = c58_1 run fu x0 x4 x6 x7 x8 σ := by kernel_rfl

theorem ok58_1 {run : RunT} (hrun : RunOK X0 run) (fu : Nat) : ∀ fr σ, KOK X0 175 (subC [true, true, true, true, true] b58) fr σ ((fun fr σ => c58_1 run fu (G fr 0) (G fr 4) (G fr 6) (G fr 7) (G fr 8) σ) fr σ) k58 := fun fr σ =>
  KOK.piece env0 hrun [0, 4, 6, 7, 8] (eq58_1 run fu (G fr 0) (G fr 4) (G fr 6) (G fr 7) (G fr 8) σ) ⟨⟨trivial, ⟨KOK.dead, trivial⟩⟩, ⟨⟨trivial, ⟨KOK.dead, ⟨trivial, trivial⟩⟩⟩, (ok58_2 hrun fu)⟩⟩

noncomputable def c58 (run : RunT) (fu : Nat) (x0 x1 : AV) (σ : Store) : Tr R :=
  boxK σ 201 x1 fun x3 σ1 =>
  newK σ1 201 [(.int .i64 0), (.int .i64 0), (.int .i64 0), (.str []), (.int .u8 0)] fun x4 σ2 =>
  calK run 89 [x0] σ2 fun x13 σ3 =>
  nchkK x0 fun x15 =>
  addrK x15 5 fun x16 =>
  ld1K σ3 x16 fun x17 =>
  nchkK x0 fun x19 =>
  addrK x19 4 fun x20 =>
  ld1K σ3 x20 fun x21 =>
  lenLK x21 fun x22 =>
  subK x22 (.int .i64 2) fun x23 =>
  cmpK .eql x17 x23 fun x24 =>
  calK run 90 [x3] σ3 fun x25 σ4 =>
  neOK (nilEq nilP) x13 .nilp fun x27 =>
  grdK x27 true σ4 (fun f => f x13 σ4) fun x29 σ5 =>
  grdK x27 true σ5 (fun f => nchkK x29 fun v => f v σ5) fun x30 σ6 =>
  grdK x27 true σ6 (fun f => addrK x30 1 fun v => f v σ6) fun x31 σ7 =>
  grdK x27 true σ7 (fun f => ld1K σ7 x31 fun v => f v σ7) fun x32 σ8 =>
  grdK x27 true σ8 (fun f => neOK (nilEq nilP) x32 .nilp fun v => f v σ8) fun x33 σ9 =>
  pickK x27 x33 (.bool false) fun x34 =>
  ifK x34 (
  .fail) (
  c58_1 run fu x0 x4 x13 x24 x25 σ9)

theorem eq58 (run : RunT) (fu : Nat) (x0 x1 : AV) (σ : Store) : codeK X0 run (.seq .leaf (.seq .leaf (.seq .leaf (.seq .leaf (.seq (.seq .leaf (.cond (.sub deadK) .leaf)) (.sub (fun fr σ => c58_1 run fu (G fr 0) (G fr 4) (G fr 6) (G fr 7) (G fr 8) σ))))))) (subC [] b58) ([x0, x1] ++ padA (175 - 2)) σ k58 = c58 run fu x0 x1 σ := by kernel_rfl

theorem ok58 {run : RunT} (hrun : RunOK X0 run) (fu : Nat) (x0 x1 : AV) (σ : Store) : CallOK X0 58 [x0, x1] σ (c58 run fu x0 x1 σ) :=
  KOK.body (fn := Tryz.f58) (c := subC [] b58) (by kernel_rfl) (by kernel_rfl) (by show 2 ≤ 175; decide) (KOK.whole env0 hrun (eq58 run fu x0 x1 σ) ⟨trivial, ⟨trivial, ⟨trivial, ⟨trivial, ⟨⟨trivial, ⟨KOK.dead, trivial⟩⟩, (ok58_1 hrun fu)⟩⟩⟩⟩⟩)

-- (*pub-paratext/pub/rscmarkdown.parseState).closeBlock

noncomputable def b59 : Code := match Tryz.f59.body with | some c => c | none => .skip

noncomputable def k59 : Kont R := retK Tryz.prog [.tmp 2]

noncomputable def c59_3 (run : RunT) (fu : Nat) (x4 : AV) (σ : Store) : Tr R :=
  .ret (x4, σ)

theorem eq59_3 (run : RunT) (fu : Nat) (x4 : AV) (σ : Store) : codeK X0 run (.seq .leaf .leaf) (subC [true, true, true, true, true, true, true] b59) (frS 0 118 [(4, x4)]) σ k59 = c59_3 run fu x4 σ := by kernel_rfl

theorem ok59_3 {run : RunT} (hrun : RunOK X0 run) (fu : Nat) : ∀ fr σ, KOK X0 118 (subC [true, true, true, true, true, true, true] b59) fr σ ((fun fr σ => c59_3 run fu (G fr 4) σ) fr σ) k59 := fun fr σ =>
  KOK.piece env0 hrun [4] (eq59_3 run fu (G fr 4) σ) ⟨trivial, trivial⟩

noncomputable def c59_2 (run : RunT) (fu : Nat) (x0 x4 : AV) (σ : Store) : Tr R :=
  nchkK x0 fun x73 =>
  addrK x73 4 fun x74 =>
  ld1K σ x74 fun x75 =>
  nchkK x0 fun x77 =>
  addrK x77 4 fun x78 =>
  ld1K σ x78 fun x79 =>
  lenLK x79 fun x80 =>
  subK x80 (.int .i64 1) fun x81 =>
  sliceLK Tryz.prog σ 83 x75 none (some x81) fun x82 =>
  nchkK x0 fun x83 =>
  addrK x83 4 fun x84 =>
  st1K σ x84 x82 fun _ σ1 =>
  nchkK x0 fun x86 =>
  addrK x86 4 fun x87 =>
  ld1K σ1 x87 fun x88 =>
  lenLK x88 fun x89 =>
  cmpK .gtr x89 (.int .i64 0) fun x90 =>
  ifK x90 (
  nchkK x0 fun x92 =>
  addrK x92 4 fun x93 =>
  ld1K σ1 x93 fun x94 =>
  nchkK x0 fun x96 =>
  addrK x96 4 fun x97 =>
  ld1K σ1 x97 fun x98 =>
  lenLK x98 fun x99 =>
  subK x99 (.int .i64 1) fun x100 =>
  idxK 4 x94 x100 fun x101 =>
  nchkK x101 fun x104 =>
  addrK x104 1 fun x105 =>
  ld1K σ1 x105 fun x106 =>
  opt (fillK [.nili] [(0, 1, x4)]) fun cs => newSK σ1 127 cs 1 1 fun x108 σ2 =>
  appK 63 1 16 σ2 x106 x108 fun x109 σ3 =>
  nchkK x101 fun x110 =>
  addrK x110 1 fun x111 =>
  st1K σ3 x111 x109 fun _ σ4 =>
  c59_3 run fu x4 σ4) (
  tasK (some .nilp) 48 false x4 fun x114 =>
  nchkK x0 fun x115 =>
  addrK x115 1 fun x116 =>
  st1K σ1 x116 x114 fun _ σ5 =>
  c59_3 run fu x4 σ5)

theorem eq59_2 (run : RunT) (fu : Nat) (x0 x4 : AV) (σ : Store) : codeK X0 run (.seq .leaf (.seq (.seq .leaf (.cond (.seq .leaf .leaf) .leaf)) (.sub (fun fr σ => c59_3 run fu (G fr 4) σ)))) (subC [true, true, true, true, true] b59) (frS 0 118 [(0, x0), (4, x4)]) σ k59 = c59_2 run fu x0 x4 σ := by kernel_rfl

theorem ok59_2 {run : RunT} (hrun : RunOK X0 run) (fu : Nat) : ∀ fr σ, KOK X0 118 (subC [true, true, true, true, true] b59) fr σ ((fun fr σ => c59_2 run fu (G fr 0) (G fr 4) σ) fr σ) k59 := fun fr σ =>
  KOK.piece env0 hrun [0, 4] (eq59_2 run fu (G fr 0) (G fr 4) σ) ⟨trivial, ⟨⟨trivial, ⟨⟨trivial, trivial⟩, trivial⟩⟩, (ok59_3 hrun fu)⟩⟩

noncomputable def c59_1 (run : RunT) (fu : Nat) (x0 x3 : AV) (σ : Store) : Tr R :=
  nchkK x3 fun x31 =>
  addrK x31 0 fun x32 =>
  ld1K σ x32 fun x33 =>
  invK X0 run x33 "pub-paratext/pub/rscmarkdown.build" [(.iface 110 x0)] σ fun x36 σ1 =>
  tasK (some .nilp) 107 true x36 fun x39 =>
  extK x39 0 fun x40 =>
  extK x39 1 fun x41 =>
  ifK x41 (
  .fail) (
  c59_2 run fu x0 x36 σ1)

theorem eq59_1 (run : RunT) (fu : Nat) (x0 x3 : AV) (σ : Store) : codeK X0 run (.seq .leaf (.seq (.seq .leaf (.seq .leaf (.cond (.sub deadK) .leaf))) (.sub (fun fr σ => c59_2 run fu (G fr 0) (G fr 4) σ)))) (subC [true, true, true] b59) (frS 0 118 [(0, x0), (3, x3)]) σ k59 = c59_1 run fu x0 x3 σ := by kernel_rfl

theorem ok59_1 {run : RunT} (hrun : RunOK X0 run) (fu : Nat) : ∀ fr σ, KOK X0 118 (subC [true, true, true] b59) fr σ ((fun fr σ => c59_1 run fu (G fr 0) (G fr 3) σ) fr σ) k59 := fun fr σ =>
  KOK.piece env0 hrun [0, 3] (eq59_1 run fu (G fr 0) (G fr 3) σ) ⟨trivial, ⟨⟨trivial, ⟨trivial, ⟨KOK.dead, trivial⟩⟩⟩, (ok59_2 hrun fu)⟩⟩

noncomputable def c59 (run : RunT) (fu : Nat) (x0 : AV) (σ : Store) : Tr R :=
  nchkK x0 fun x9 =>
  addrK x9 4 fun x10 =>
  ld1K σ x10 fun x11 =>
  nchkK x0 fun x13 =>
  addrK x13 4 fun x14 =>
  ld1K σ x14 fun x15 =>
  lenLK x15 fun x16 =>
  subK x16 (.int .i64 1) fun x17 =>
  idxK 4 x11 x17 fun x18 =>
  nchkK x18 fun x20 =>
  addrK x20 0 fun x21 =>
  ld1K σ x21 fun x22 =>
  eqOK (eqIfc Tryz.prog true) x22 .nili fun x23 =>
  ifK x23 (
  .fail) (
  c59_1 run fu x0 x18 σ)

theorem eq59 (run : RunT) (fu : Nat) (x0 : AV) (σ : Store) : codeK X0 run (.seq .leaf (.seq .leaf (.seq (.seq .leaf (.cond (.sub deadK) .leaf)) (.sub (fun fr σ => c59_1 run fu (G fr 0) (G fr 3) σ))))) (subC [] b59) ([x0] ++ padA (118 - 1)) σ k59 = c59 run fu x0 σ := by kernel_rfl

theorem ok59 {run : RunT} (hrun : RunOK X0 run) (fu : Nat) (x0 : AV) (σ : Store) : CallOK X0 59 [x0] σ (c59 run fu x0 σ) :=
  KOK.body (fn := Tryz.f59) (c := subC [] b59) (by kernel_rfl) (by kernel_rfl) (by show 1 ≤ 118; decide) (KOK.whole env0 hrun (eq59 run fu x0 σ) ⟨trivial, ⟨trivial, ⟨⟨trivial, ⟨KOK.dead, trivial⟩⟩, (ok59_1 hrun fu)⟩⟩⟩)

-- pub-paratext/pub/rscmarkdown.parseLinkOpen

noncomputable def b65 : Code := match Tryz.f65.body with | some c => c | none => .skip

noncomputable def k65 : Kont R := retK Tryz.prog [.tmp 6, .tmp 7, .tmp 8, .tmp 9]

noncomputable def c65 (run : RunT) (fu : Nat) (x0 x1 x2 : AV) (σ : Store) : Tr R :=
  addK x2 (.int .i64 1) fun x13 =>
  sliceSK x1 (some x2) (some x13) fun x14 =>
  bldK [(.str [])] [(0, 1, x14)] fun x15 =>
  addK x2 (.int .i64 1) fun x17 =>
  bldK [(.str []), (.int .i64 0)] [(0, 1, x15), (1, 1, x17)] fun x18 =>
  boxK σ 267 x18 fun x19 σ1 =>
  addK x2 (.int .i64 1) fun x23 =>
  .ret (.tup [(.iface 128 x19), x2, x23, (.bool true)], σ1)

theorem eq65 (run : RunT) (fu : Nat) (x0 x1 x2 : AV) (σ : Store) : codeK X0 run (.seq .leaf (.seq .leaf .leaf)) (subC [] b65) ([x0, x1, x2] ++ padA (24 - 3)) σ k65 = c65 run fu x0 x1 x2 σ := by kernel_rfl

theorem ok65 {run : RunT} (hrun : RunOK X0 run) (fu : Nat) (x0 x1 x2 : AV) (σ : Store) : CallOK X0 65 [x0, x1, x2] σ (c65 run fu x0 x1 x2 σ) :=
  KOK.body (fn := Tryz.f65) (c := subC [] b65) (by kernel_rfl) (by kernel_rfl) (by show 3 ≤ 24; decide) (KOK.whole env0 hrun (eq65 run fu x0 x1 x2 σ) ⟨trivial, ⟨trivial, trivial⟩⟩)

-- pub-paratext/pub/rscmarkdown.parseImageOpen

noncomputable def b66 : Code := match Tryz.f66.body with | some c => c | none => .skip

noncomputable def k66 : Kont R := retK Tryz.prog [.tmp 6, .tmp 7, .tmp 8, .tmp 9]

noncomputable def c66 (run : RunT) (fu : Nat) (x0 x1 x2 : AV) (σ : Store) : Tr R :=
  addK x2 (.int .i64 1) fun x11 =>
  lenSK x1 fun x13 =>
  cmpK .lss x11 x13 fun x14 =>
  grdK x14 true σ (fun f => f x1 σ) fun x16 σ1 =>
  grdK x14 true σ1 (fun f => f x2 σ1) fun x17 σ2 =>
  grdK x14 true σ2 (fun f => addK x17 (.int .i64 1) fun v => f v σ2) fun x18 σ3 =>
  grdK x14 true σ3 (fun f => idxSK x16 x18 fun v => f v σ3) fun x19 σ4 =>
  grdK x14 true σ4 (fun f => cmpK .eql x19 (.int .u8 91) fun v => f v σ4) fun x20 σ5 =>
  pickK x14 x20 (.bool false) fun x21 =>
  ifK x21 (
  addK x2 (.int .i64 2) fun x25 =>
  sliceSK x1 (some x2) (some x25) fun x26 =>
  bldK [(.str [])] [(0, 1, x26)] fun x27 =>
  addK x2 (.int .i64 2) fun x29 =>
  bldK [(.str []), (.int .i64 0)] [(0, 1, x27), (1, 1, x29)] fun x30 =>
  boxK σ5 267 x30 fun x31 σ6 =>
  addK x2 (.int .i64 2) fun x35 =>
  .ret (.tup [(.iface 128 x31), x2, x35, (.bool true)], σ6)) (
  .fail)

theorem eq66 (run : RunT) (fu : Nat) (x0 x1 x2 : AV) (σ : Store) : codeK X0 run (.seq .leaf (.seq (.seq .leaf (.cond (.seq .leaf .leaf) (.sub deadK))) .leaf)) (subC [] b66) ([x0, x1, x2] ++ padA (36 - 3)) σ k66 = c66 run fu x0 x1 x2 σ := by kernel_rfl

theorem ok66 {run : RunT} (hrun : RunOK X0 run) (fu : Nat) (x0 x1 x2 : AV) (σ : Store) : CallOK X0 66 [x0, x1, x2] σ (c66 run fu x0 x1 x2 σ) :=
  KOK.body (fn := Tryz.f66) (c := subC [] b66) (by kernel_rfl) (by kernel_rfl) (by show 3 ≤ 36; decide) (KOK.whole env0 hrun (eq66 run fu x0 x1 x2 σ) ⟨trivial, ⟨⟨trivial, ⟨⟨trivial, trivial⟩, KOK.dead⟩⟩, trivial⟩⟩)

-- (*pub-paratext/pub/rscmarkdown.parseState).emit

noncomputable def b73 : Code := match Tryz.f73.body with | some c => c | none => .skip

noncomputable def k73 : Kont R := retK Tryz.prog []

noncomputable def c73 (run : RunT) (fu : Nat) (x0 x1 : AV) (σ : Store) : Tr R :=
  nchkK x0 fun x5 =>
  addrK x5 8 fun x6 =>
  ld1K σ x6 fun x7 =>
  cmpK .lss x7 x1 fun x9 =>
  ifK x9 (
  nchkK x0 fun x12 =>
  addrK x12 9 fun x13 =>
  ld1K σ x13 fun x14 =>
  nchkK x0 fun x16 =>
  addrK x16 7 fun x17 =>
  ld1K σ x17 fun x18 =>
  nchkK x0 fun x20 =>
  addrK x20 8 fun x21 =>
  ld1K σ x21 fun x22 =>
  sliceSK x18 (some x22) (some x1) fun x24 =>
  bldK [(.str [])] [(0, 1, x24)] fun x25 =>
  boxK σ 263 x25 fun x26 σ1 =>
  opt (fillK [.nili] [(0, 1, (.iface 150 x26))]) fun cs => newSK σ1 253 cs 1 1 fun x28 σ2 =>
  appK 126 1 16 σ2 x14 x28 fun x29 σ3 =>
  nchkK x0 fun x30 =>
  addrK x30 9 fun x31 =>
  st1K σ3 x31 x29 fun _ σ4 =>
  ld1K σ1 x13 fun v5 =>
  must (AV.beq v5 x14) (
  ld1K σ2 x13 fun v6 =>
  must (AV.beq v6 x14) (
  nchkK x0 fun x34 =>
  addrK x34 8 fun x35 =>
  st1K σ4 x35 x1 fun _ σ7 =>
  .ret (.tup [], σ7)))) (
  .ret (.tup [], σ))

theorem eq73 (run : RunT) (fu : Nat) (x0 x1 : AV) (σ : Store) : codeK X0 run (.seq .leaf (.cond (.seq .leaf .leaf) .leaf)) (subC [] b73) ([x0, x1] ++ padA (36 - 2)) σ k73 = c73 run fu x0 x1 σ := by kernel_rfl

theorem ok73 {run : RunT} (hrun : RunOK X0 run) (fu : Nat) (x0 x1 : AV) (σ : Store) : CallOK X0 73 [x0, x1] σ (c73 run fu x0 x1 σ) :=
  KOK.body (fn := Tryz.f73) (c := subC [] b73) (by kernel_rfl) (by kernel_rfl) (by show 2 ≤ 36; decide) (KOK.whole env0 hrun (eq73 run fu x0 x1 σ) ⟨trivial, ⟨⟨trivial, trivial⟩, trivial⟩⟩)

-- (*pub-paratext/pub/rscmarkdown.parseState).skip

noncomputable def b74 : Code := match Tryz.f74.body with | some c => c | none => .skip

noncomputable def k74 : Kont R := retK Tryz.prog []

noncomputable def c74 (run : RunT) (fu : Nat) (x0 x1 : AV) (σ : Store) : Tr R :=
  nchkK x0 fun x6 =>
  addrK x6 8 fun x7 =>
  st1K σ x7 x1 fun _ σ1 =>
  .ret (.tup [], σ1)

theorem eq74 (run : RunT) (fu : Nat) (x0 x1 : AV) (σ : Store) : codeK X0 run .leaf (subC [] b74) ([x0, x1] ++ padA (8 - 2)) σ k74 = c74 run fu x0 x1 σ := by kernel_rfl

theorem ok74 {run : RunT} (hrun : RunOK X0 run) (fu : Nat) (x0 x1 : AV) (σ : Store) : CallOK X0 74 [x0, x1] σ (c74 run fu x0 x1 σ) :=
  KOK.body (fn := Tryz.f74) (c := subC [] b74) (by kernel_rfl) (by kernel_rfl) (by show 2 ≤ 8; decide) (KOK.whole env0 hrun (eq74 run fu x0 x1 σ) trivial)

-- (*pub-paratext/pub/rscmarkdown.parseState).parseLinkClose

noncomputable def b75 : Code := match Tryz.f75.body with | some c => c | none => .skip

noncomputable def k75 : Kont R := retK Tryz.prog [.tmp 8, .tmp 9, .tmp 10]

noncomputable def c75_2 (run : RunT) (fu : Nat) (x0 x1 x2 x3 x22 : AV) (σ : Store) : Tr R :=
  nchkK x0 fun x154 =>
  addrK x154 2 fun x155 =>
  ld1K σ x155 fun x156 =>
  nchkK x3 fun x159 =>
  addrK x159 1 fun x160 =>
  ld1K σ x160 fun x161 =>
  sliceSK x1 (some x161) (some x2) fun x163 =>
  calK run 114 [x163] σ fun x164 σ1 =>
  genK (lookA Tryz.prog σ1 82 x156 true) fun x165 σ2 =>
  extK x165 0 fun x166 =>
  extK x165 1 fun x167 =>
  ld1K σ1 x155 fun v3 =>
  must (AV.beq v3 x156) (
  ifK x167 (
  .fail) (
  .fail))

theorem eq75_2 (run : RunT) (fu : Nat) (x0 x1 x2 x3 x22 : AV) (σ : Store) : codeK X0 run (.seq (.seq .leaf (.seq .leaf (.cond (.sub deadK) (.sub deadK)))) .leaf) (subC [true, true, true, true] b75) (frS 0 184 [(0, x0), (1, x1), (2, x2), (3, x3), (22, x22)]) σ k75 = c75_2 run fu x0 x1 x2 x3 x22 σ := by kernel_rfl

theorem ok75_2 {run : RunT} (hrun : RunOK X0 run) (fu : Nat) : ∀ fr σ, KOK X0 184 (subC [true, true, true, true] b75) fr σ ((fun fr σ => c75_2 run fu (G fr 0) (G fr 1) (G fr 2) (G fr 3) (G fr 22) σ) fr σ) k75 := fun fr σ =>
  KOK.piece env0 hrun [0, 1, 2, 3, 22] (eq75_2 run fu (G fr 0) (G fr 1) (G fr 2) (G fr 3) (G fr 22) σ) ⟨⟨trivial, ⟨trivial, ⟨KOK.dead, KOK.dead⟩⟩⟩, trivial⟩

noncomputable def c75_1 (run : RunT) (fu : Nat) (x0 x1 x2 x3 : AV) (σ : Store) : Tr R :=
  addK x2 (.int .i64 1) fun x145 =>
  sliceSK x1 (some x145) none fun x148 =>
  calK run 31 [x148, (.str [91, 93])] σ fun x149 σ1 =>
  ifK x149 (
  .fail) (
  .fail)

theorem eq75_1 (run : RunT) (fu : Nat) (x0 x1 x2 x3 : AV) (σ : Store) : codeK X0 run (.seq .leaf (.seq (.seq .leaf (.cond (.sub deadK) (.sub deadK))) (.sub (fun fr σ => c75_2 run fu (G fr 0) (G fr 1) (G fr 2) (G fr 3) (G fr 22) σ)))) (subC [true, true] b75) (frS 0 184 [(0, x0), (1, x1), (2, x2), (3, x3)]) σ k75 = c75_1 run fu x0 x1 x2 x3 σ := by kernel_rfl

theorem ok75_1 {run : RunT} (hrun : RunOK X0 run) (fu : Nat) : ∀ fr σ, KOK X0 184 (subC [true, true] b75) fr σ ((fun fr σ => c75_1 run fu (G fr 0) (G fr 1) (G fr 2) (G fr 3) σ) fr σ) k75 := fun fr σ =>
  KOK.piece env0 hrun [0, 1, 2, 3] (eq75_1 run fu (G fr 0) (G fr 1) (G fr 2) (G fr 3) σ) ⟨trivial, ⟨⟨trivial, ⟨KOK.dead, KOK.dead⟩⟩, (ok75_2 hrun fu)⟩⟩

noncomputable def c75_3 (run : RunT) (fu : Nat) (x0 x1 x2 x3 x11 x12 x13 x14 x15 : AV) (σ : Store) : Tr R :=
  lenSK x1 fun x89 =>
  cmpK .lss x11 x89 fun x90 =>
  grdK x90 true σ (fun f => f x1 σ) fun x92 σ1 =>
  grdK x90 true σ1 (fun f => f x11 σ1) fun x93 σ2 =>
  grdK x90 true σ2 (fun f => idxSK x92 x93 fun v => f v σ2) fun x94 σ3 =>
  grdK x90 true σ3 (fun f => cmpK .eql x94 (.int .u8 41) fun v => f v σ3) fun x95 σ4 =>
  pickK x90 x95 (.bool false) fun x96 =>
  ifK x96 (
  bldK [.nils, (.str []), (.str []), (.int .u8 0), (.bool false)] [(1, 1, x12), (2, 1, x13), (3, 1, x14), (4, 1, x15)] fun x101 =>
  boxK σ4 277 x101 fun x102 σ5 =>
  addK x11 (.int .i64 1) fun x104 =>
  .ret (.tup [x102, x104, (.bool true)], σ5)) (
  .fail)

theorem eq75_3 (run : RunT) (fu : Nat) (x0 x1 x2 x3 x11 x12 x13 x14 x15 : AV) (σ : Store) : codeK X0 run (.seq .leaf (.cond (.seq .leaf .leaf) (.sub deadK))) (subC [true, false, true, false, true, false, true, false, true, true, true, true, true] b75) (frS 0 184 [(0, x0), (1, x1), (2, x2), (3, x3), (11, x11), (12, x12), (13, x13), (14, x14), (15, x15)]) σ (blockK 0 (thenK (fun fr σ => c75_1 run fu (G fr 0) (G fr 1) (G fr 2) (G fr 3) σ) k75)) = c75_3 run fu x0 x1 x2 x3 x11 x12 x13 x14 x15 σ := by kernel_rfl

theorem ok75_3 {run : RunT} (hrun : RunOK X0 run) (fu : Nat) : ∀ fr σ, KOK X0 184 (subC [true, false, true, false, true, false, true, false, true, true, true, true, true] b75) fr σ ((fun fr σ => c75_3 run fu (G fr 0) (G fr 1) (G fr 2) (G fr 3) (G fr 11) (G fr 12) (G fr 13) (G fr 14) (G fr 15) σ) fr σ) (blockK 0 (thenK (fun fr σ => c75_1 run fu (G fr 0) (G fr 1) (G fr 2) (G fr 3) σ) k75)) := fun fr σ =>
  KOK.piece env0 hrun [0, 1, 2, 3, 11, 12, 13, 14, 15] (eq75_3 run fu (G fr 0) (G fr 1) (G fr 2) (G fr 3) (G fr 11) (G fr 12) (G fr 13) (G fr 14) (G fr 15) σ) ⟨trivial, ⟨⟨trivial, trivial⟩, KOK.dead⟩⟩

noncomputable def c75_4 (run : RunT) (fu : Nat) (x0 x1 x2 x3 x11 x12 x13 x14 x15 x16 : AV) (σ : Store) : Tr R :=
  notK x16 fun x83 =>
  ifK x83 (
  .fail) (
  calK run 110 [x1, x11] σ fun x86 σ1 =>
  c75_3 run fu x0 x1 x2 x3 x86 x12 x13 x14 x15 σ1)

theorem eq75_4 (run : RunT) (fu : Nat) (x0 x1 x2 x3 x11 x12 x13 x14 x15 x16 : AV) (σ : Store) : codeK X0 run (.seq (.seq .leaf (.cond (.sub deadK) .leaf)) .leaf) (subC [true, false, true, false, true, false, true, false, true, true, true, true, false, true, false, true, true, true, true, true, false, true, true] b75) (frS 0 184 [(0, x0), (1, x1), (2, x2), (3, x3), (11, x11), (12, x12), (13, x13), (14, x14), (15, x15), (16, x16)]) σ (thenK (fun fr σ => c75_3 run fu (G fr 0) (G fr 1) (G fr 2) (G fr 3) (G fr 11) (G fr 12) (G fr 13) (G fr 14) (G fr 15) σ) (blockK 0 (thenK (fun fr σ => c75_1 run fu (G fr 0) (G fr 1) (G fr 2) (G fr 3) σ) k75))) = c75_4 run fu x0 x1 x2 x3 x11 x12 x13 x14 x15 x16 σ := by kernel_rfl

theorem ok75_4 {run : RunT} (hrun : RunOK X0 run) (fu : Nat) : ∀ fr σ, KOK X0 184 (subC [true, false, true, false, true, false, true, false, true, true, true, true, false, true, false, true, true, true, true, true, false, true, true] b75) fr σ ((fun fr σ => c75_4 run fu (G fr 0) (G fr 1) (G fr 2) (G fr 3) (G fr 11) (G fr 12) (G fr 13) (G fr 14) (G fr 15) (G fr 16) σ) fr σ) (thenK (fun fr σ => c75_3 run fu (G fr 0) (G fr 1) (G fr 2) (G fr 3) (G fr 11) (G fr 12) (G fr 13) (G fr 14) (G fr 15) σ) (blockK 0 (thenK (fun fr σ => c75_1 run fu (G fr 0) (G fr 1) (G fr 2) (G fr 3) σ) k75))) := fun fr σ =>
  KOK.piece env0 hrun [0, 1, 2, 3, 11, 12, 13, 14, 15, 16] (eq75_4 run fu (G fr 0) (G fr 1) (G fr 2) (G fr 3) (G fr 11) (G fr 12) (G fr 13) (G fr 14) (G fr 15) (G fr 16) σ) ⟨⟨trivial, ⟨KOK.dead, trivial⟩⟩, trivial⟩

noncomputable def c75 (run : RunT) (fu : Nat) (x0 x1 x2 x3 : AV) (σ : Store) : Tr R :=
  addK x2 (.int .i64 1) fun x26 =>
  lenSK x1 fun x28 =>
  cmpK .lss x26 x28 fun x29 =>
  ifK x29 (
  addK x2 (.int .i64 1) fun x32 =>
  idxSK x1 x32 fun x33 =>
  cmpK .eql x33 (.int .u8 40) fun x35 =>
  ifK x35 (
  addK x2 (.int .i64 2) fun x38 =>
  calK run 110 [x1, x38] σ fun x39 σ1 =>
  lenSK x1 fun x42 =>
  cmpK .lss x39 x42 fun x43 =>
  grdK x43 true σ1 (fun f => f x1 σ1) fun x45 σ2 =>
  grdK x43 true σ2 (fun f => f x39 σ2) fun x46 σ3 =>
  grdK x43 true σ3 (fun f => idxSK x45 x46 fun v => f v σ3) fun x47 σ4 =>
  grdK x43 true σ4 (fun f => cmpK .neq x47 (.int .u8 41) fun v => f v σ4) fun x48 σ5 =>
  pickK x43 x48 (.bool false) fun x49 =>
  ifK x49 (
  calK run 111 [x1, x39] σ5 fun x53 σ6 =>
  extK x53 0 fun x54 =>
  extK x53 1 fun x55 =>
  extK x53 2 fun x56 =>
  notK x56 fun x58 =>
  ifK x58 (
  .fail) (
  calK run 110 [x1, x55] σ6 fun x61 σ7 =>
  lenSK x1 fun x64 =>
  cmpK .lss x61 x64 fun x65 =>
  grdK x65 true σ7 (fun f => f x1 σ7) fun x67 σ8 =>
  grdK x65 true σ8 (fun f => f x61 σ8) fun x68 σ9 =>
  grdK x65 true σ9 (fun f => idxSK x67 x68 fun v => f v σ9) fun x69 σ10 =>
  grdK x65 true σ10 (fun f => cmpK .neq x69 (.int .u8 41) fun v => f v σ10) fun x70 σ11 =>
  pickK x65 x70 (.bool false) fun x71 =>
  ifK x71 (
  calK run 112 [x1, x61] σ11 fun x75 σ12 =>
  extK x75 0 fun x76 =>
  extK x75 1 fun x77 =>
  extK x75 2 fun x78 =>
  extK x75 3 fun x79 =>
  eqSK x76 (.str []) fun x81 =>
  ifK x81 (
  .fail) (
  c75_4 run fu x0 x1 x2 x3 x78 x54 x76 x77 (.bool false) x79 σ12)) (
  .fail))) (
  .fail)) (
  .fail)) (
  .fail)

theorem eq75 (run : RunT) (fu : Nat) (x0 x1 x2 x3 : AV) (σ : Store) : codeK X0 run (.seq .leaf (.seq (.seq .leaf (.cond (.seq .leaf (.block (.seq .leaf (.cond (.seq .leaf (.seq .leaf (.seq .leaf (.seq .leaf (.seq (.seq .leaf (.cond (.seq .leaf (.seq .leaf (.seq (.seq .leaf (.cond (.sub deadK) .leaf)) (.seq .leaf (.seq .leaf (.cond (.seq .leaf (.seq (.seq .leaf (.cond (.sub deadK) .leaf)) (.sub (fun fr σ => c75_4 run fu (G fr 0) (G fr 1) (G fr 2) (G fr 3) (G fr 11) (G fr 12) (G fr 13) (G fr 14) (G fr 15) (G fr 16) σ)))) (.sub deadK))))))) (.sub deadK))) (.sub (fun fr σ => c75_3 run fu (G fr 0) (G fr 1) (G fr 2) (G fr 3) (G fr 11) (G fr 12) (G fr 13) (G fr 14) (G fr 15) σ))))))) (.sub deadK))))) (.sub deadK))) (.sub (fun fr σ => c75_1 run fu (G fr 0) (G fr 1) (G fr 2) (G fr 3) σ)))) (subC [] b75) ([x0, x1, x2, x3] ++ padA (184 - 4)) σ k75 = c75 run fu x0 x1 x2 x3 σ := by kernel_rfl

theorem ok75 {run : RunT} (hrun : RunOK X0 run) (fu : Nat) (x0 x1 x2 x3 : AV) (σ : Store) : CallOK X0 75 [x0, x1, x2, x3] σ (c75 run fu x0 x1 x2 x3 σ) :=
  KOK.body (fn := Tryz.f75) (c := subC [] b75) (by kernel_rfl) (by kernel_rfl) (by show 4 ≤ 184; decide) (KOK.whole env0 hrun (eq75 run fu x0 x1 x2 x3 σ) ⟨trivial, ⟨⟨trivial, ⟨⟨trivial, ⟨trivial, ⟨⟨trivial, ⟨trivial, ⟨trivial, ⟨trivial, ⟨⟨trivial, ⟨⟨trivial, ⟨trivial, ⟨⟨trivial, ⟨KOK.dead, trivial⟩⟩, ⟨trivial, ⟨trivial, ⟨⟨trivial, ⟨⟨trivial, ⟨KOK.dead, trivial⟩⟩, (ok75_4 hrun fu)⟩⟩, KOK.dead⟩⟩⟩⟩⟩⟩, KOK.dead⟩⟩, (ok75_3 hrun fu)⟩⟩⟩⟩⟩, KOK.dead⟩⟩⟩, KOK.dead⟩⟩, (ok75_1 hrun fu)⟩⟩)

-- (*pub-paratext/pub/rscmarkdown.parseState).emph

noncomputable def b77 : Code := match Tryz.f77.body with | some c => c | none => .skip

noncomputable def k77 : Kont R := retK Tryz.prog [.tmp 6]

noncomputable def c77_1 (run : RunT) (fu : Nat) (x4 : AV) (σ : Store) : Tr R :=
  ld1K σ x4 fun x435 =>
  .ret (x435, σ)

theorem eq77_1 (run : RunT) (fu : Nat) (x4 : AV) (σ : Store) : codeK X0 run (.seq .leaf .leaf) (subC [true, false, true, true, true, true, true] b77) (frS 0 436 [(4, x4)]) σ (noGotoK k77) = c77_1 run fu x4 σ := by kernel_rfl

theorem ok77_1 {run : RunT} (hrun : RunOK X0 run) (fu : Nat) : ∀ fr σ, KOK X0 436 (subC [true, false, true, true, true, true, true] b77) fr σ ((fun fr σ => c77_1 run fu (G fr 4) σ) fr σ) (noGotoK k77) := fun fr σ =>
  KOK.piece env0 hrun [4] (eq77_1 run fu (G fr 4) σ) ⟨trivial, trivial⟩

noncomputable def c77_3 (run : RunT) (fu : Nat) (s2 : W6) (x2 x4 x7 x8 x9 x10 : AV) (σ : Store) : Tr R :=
  addK x10 (.int .i64 1) fun x28 =>
  s2 x2 x4 x7 x8 x9 x28 σ

theorem eq77_3 (run : RunT) (fu : Nat) (s2 : W6) (x2 x4 x7 x8 x9 x10 : AV) (σ : Store) : codeK X0 run .leaf (subC [true, false, true, true, true, true, false, true, false, false, true, true] b77) (frS 0 436 [(2, x2), (4, x4), (7, x7), (8, x8), (9, x9), (10, x10)]) σ (thenK (fun fr σ => s2 (G fr 2) (G fr 4) (G fr 7) (G fr 8) (G fr 9) (G fr 10) σ) (blockK 0 (thenK (fun fr σ => c77_1 run fu (G fr 4) σ) (noGotoK k77)))) = c77_3 run fu s2 x2 x4 x7 x8 x9 x10 σ := by kernel_rfl

theorem ok77_3 {run : RunT} (hrun : RunOK X0 run) (fu : Nat) (s2 : W6) : ∀ fr σ, KOK X0 436 (subC [true, false, true, true, true, true, false, true, false, false, true, true] b77) fr σ ((fun fr σ => c77_3 run fu s2 (G fr 2) (G fr 4) (G fr 7) (G fr 8) (G fr 9) (G fr 10) σ) fr σ) (thenK (fun fr σ => s2 (G fr 2) (G fr 4) (G fr 7) (G fr 8) (G fr 9) (G fr 10) σ) (blockK 0 (thenK (fun fr σ => c77_1 run fu (G fr 4) σ) (noGotoK k77)))) := fun fr σ =>
  KOK.piece env0 hrun [2, 4, 7, 8, 9, 10] (eq77_3 run fu s2 (G fr 2) (G fr 4) (G fr 7) (G fr 8) (G fr 9) (G fr 10) σ) trivial

noncomputable def c77_2b (run : RunT) (fu : Nat) (s2 : W6) (x2 x4 x7 x8 x9 x10 : AV) (σ : Store) : Tr R :=
  lenLK x2 fun x25 =>
  cmpK .lss x10 x25 fun x26 =>
  ifK x26 (
  idxK 1 x2 x10 fun x32 =>
  ld1K σ x32 fun x33 =>
  tasK (some .nilp) 128 true x33 fun x34 =>
  extK x34 0 fun x35 =>
  extK x34 1 fun x36 =>
  ifK x36 (
  .fail) (
  idxK 1 x2 x10 fun x48 =>
  ld1K σ x48 fun x49 =>
  tasK (some .nilp) 185 true x49 fun x50 =>
  extK x50 0 fun x51 =>
  extK x50 1 fun x52 =>
  notK x52 fun x54 =>
  ifK x54 (
  ld1K σ x4 fun x55 =>
  idxK 1 x2 x10 fun x58 =>
  ld1K σ x58 fun x59 =>
  opt (fillK [.nili] [(0, 1, x59)]) fun cs => newSK σ 253 cs 1 1 fun x60 σ1 =>
  appK 126 1 16 σ1 x55 x60 fun x61 σ2 =>
  st1K σ2 x4 x61 fun _ σ3 =>
  ld1K σ1 x4 fun v4 =>
  must (AV.beq v4 x55) (
  c77_3 run fu s2 x2 x4 x7 x8 x9 x10 σ3)) (
  .fail))) (
  c77_1 run fu x4 σ)

noncomputable def c77_2 (run : RunT) (fu : Nat) : Nat → W6
  | 0 => fun _ _ _ _ _ _ _ => .fail
  | m + 1 => c77_2b run fu (c77_2 run fu m)

theorem eq77_2 (run : RunT) (fu : Nat) (s2 : W6) (x2 x4 x7 x8 x9 x10 : AV) (σ : Store) : codeK X0 run (.seq (.seq .leaf (.cond .leaf .leaf)) (.seq (.block (.seq (.seq .leaf (.seq .leaf (.cond (.sub deadK) .leaf))) (.seq .leaf (.seq (.seq .leaf (.cond (.seq .leaf .leaf) (.sub deadK))) .leaf)))) (.sub (fun fr σ => c77_3 run fu s2 (G fr 2) (G fr 4) (G fr 7) (G fr 8) (G fr 9) (G fr 10) σ)))) (subC [true, false, true, true, true, true, false, true, false, false] b77) (frS 0 436 [(2, x2), (4, x4), (7, x7), (8, x8), (9, x9), (10, x10)]) σ (thenK (fun fr σ => s2 (G fr 2) (G fr 4) (G fr 7) (G fr 8) (G fr 9) (G fr 10) σ) (blockK 0 (thenK (fun fr σ => c77_1 run fu (G fr 4) σ) (noGotoK k77)))) = c77_2b run fu s2 x2 x4 x7 x8 x9 x10 σ := by kernel_rfl

theorem owed77_2 {run : RunT} (hrun : RunOK X0 run) (fu : Nat) (s2 : W6) : Owes X0 run 436 (.seq (.seq .leaf (.cond .leaf .leaf)) (.seq (.block (.seq (.seq .leaf (.seq .leaf (.cond (.sub deadK) .leaf))) (.seq .leaf (.seq (.seq .leaf (.cond (.seq .leaf .leaf) (.sub deadK))) .leaf)))) (.sub (fun fr σ => c77_3 run fu s2 (G fr 2) (G fr 4) (G fr 7) (G fr 8) (G fr 9) (G fr 10) σ)))) (subC [true, false, true, true, true, true, false, true, false, false] b77) (thenK (fun fr σ => s2 (G fr 2) (G fr 4) (G fr 7) (G fr 8) (G fr 9) (G fr 10) σ) (blockK 0 (thenK (fun fr σ => c77_1 run fu (G fr 4) σ) (noGotoK k77)))) :=
  ⟨⟨trivial, ⟨trivial, trivial⟩⟩, ⟨⟨⟨trivial, ⟨trivial, ⟨KOK.dead, trivial⟩⟩⟩, ⟨trivial, ⟨⟨trivial, ⟨⟨trivial, trivial⟩, KOK.dead⟩⟩, trivial⟩⟩⟩, (ok77_3 hrun fu s2)⟩⟩

theorem ok77_2 {run : RunT} (hrun : RunOK X0 run) (fu : Nat) : ∀ fr σ, KOK X0 436 (subC [true, false, true, true, true, true, false, true, false] b77) fr σ ((fun fr σ => c77_2 run fu fu (G fr 2) (G fr 4) (G fr 7) (G fr 8) (G fr 9) (G fr 10) σ) fr σ) (blockK 0 (thenK (fun fr σ => c77_1 run fu (G fr 4) σ) (noGotoK k77))) := by
  have h := KOK.loop (X := X0) (N := 436) (b := (subC [true, false, true, true, true, true, false, true, false, false] b77)) (k := (blockK 0 (thenK (fun fr σ => c77_1 run fu (G fr 4) σ) (noGotoK k77)))) (u := fun m fr σ => c77_2 run fu m (G fr 2) (G fr 4) (G fr 7) (G fr 8) (G fr 9) (G fr 10) σ) (fun _ _ => rfl) (fun m fr σ => KOK.piece env0 hrun [2, 4, 7, 8, 9, 10] (eq77_2 run fu (c77_2 run fu m) (G fr 2) (G fr 4) (G fr 7) (G fr 8) (G fr 9) (G fr 10) σ) (owed77_2 hrun fu (c77_2 run fu m)))
  exact fun fr σ => h fu fr σ

noncomputable def c77 (run : RunT) (fu : Nat) (x0 x1 x2 : AV) (σ : Store) : Tr R :=
  boxK σ 169 x1 fun x4 σ1 =>
  newK σ1 411 [.nils, .nils, .nils, .nils, .nils] fun x7 σ2 =>
  c77_2 run fu fu x2 x4 x7 (.fn (.func 115) [] []) (.fn (.func 116) [] [x7, x4]) (.int .i64 0) σ2

theorem eq77 (run : RunT) (fu : Nat) (x0 x1 x2 : AV) (σ : Store) : codeK X0 run (.seq .leaf (.scope (.seq .leaf (.seq .leaf (.seq .leaf (.seq .leaf (.seq (.seq .leaf (.block (.sub (fun fr σ => c77_2 run fu fu (G fr 2) (G fr 4) (G fr 7) (G fr 8) (G fr 9) (G fr 10) σ)))) (.sub (fun fr σ => c77_1 run fu (G fr 4) σ))))))))) (subC [] b77) ([x0, x1, x2] ++ padA (436 - 3)) σ k77 = c77 run fu x0 x1 x2 σ := by kernel_rfl

theorem ok77 {run : RunT} (hrun : RunOK X0 run) (fu : Nat) (x0 x1 x2 : AV) (σ : Store) : CallOK X0 77 [x0, x1, x2] σ (c77 run fu x0 x1 x2 σ) :=
  KOK.body (fn := Tryz.f77) (c := subC [] b77) (by kernel_rfl) (by kernel_rfl) (by show 3 ≤ 436; decide) (KOK.whole env0 hrun (eq77 run fu x0 x1 x2 σ) ⟨trivial, ⟨trivial, ⟨trivial, ⟨trivial, ⟨trivial, ⟨⟨trivial, (ok77_2 hrun fu)⟩, (ok77_1 hrun fu)⟩⟩⟩⟩⟩⟩)

end Go.Proofs.YtfmgdjkcdmjloaaGreatDoor
