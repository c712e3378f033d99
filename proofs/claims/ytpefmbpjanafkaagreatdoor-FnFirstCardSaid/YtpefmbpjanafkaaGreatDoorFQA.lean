/- Functions of the program, told as Lean functions of abstract values and stores, each with its proof. -/
import Derived.Test.YtpefmbpjanafkaaGreatDoorSnX
import Derived.Test.YtpefmbpjanafkaaGreatDoorSnRe
import Derived.Test.YtpefmbpjanafkaaGreatDoorSnAb
set_option linter.unusedVariables false
set_option linter.unusedSimpArgs false
namespace Go.Proofs.YtpefmbpjanafkaaGreatDoor
open Go.AM
-- pub-paratext/laws.FnFirst

noncomputable def b7 : Code := match Tryz.f7.body with | some c => c | none => .skip

noncomputable def k7 : Kont R := retK Tryz.prog [.tmp 8]

noncomputable def c7_2 (run : RunT) (fu : Nat) (x0 x1 x2 x12 : AV) (σ : Store) : Tr R :=
  calK run 20 [] σ fun x79 σ1 =>
  catK (.str [91]) x12 fun x81 =>
  catK x81 (.str [93, 10, 10, 91]) fun x82 =>
  catK x82 x0 fun x84 =>
  catK x84 (.str [93, 58, 32, 47]) fun x85 =>
  catK x85 x1 fun x87 =>
  catK x87 (.str [10, 91]) fun x88 =>
  catK x88 x12 fun x90 =>
  catK x90 (.str [93, 58, 32, 47]) fun x91 =>
  catK x91 x2 fun x93 =>
  catK x93 (.str [10]) fun x94 =>
  calK run 25 [x79, x94] σ1 fun x95 σ2 =>
  catK (.str [60, 112, 62, 60, 97, 32, 104, 114, 101, 102, 61, 34, 47]) x1 fun x97 =>
  catK x97 (.str [34, 62]) fun x98 =>
  catK x98 x12 fun x100 =>
  catK x100 (.str [60, 47, 97, 62, 60, 47, 112, 62, 10]) fun x101 =>
  eqSK x95 x101 fun x102 =>
  .ret (x102, σ2)

theorem eq7_2 (run : RunT) (fu : Nat) (x0 x1 x2 x12 : AV) (σ : Store) : codeK X0 run (.seq .leaf .leaf) (subC [true, true, true, true, true] b7) (frS 0 103 [(0, x0), (1, x1), (2, x2), (12, x12)]) σ k7 = c7_2 run fu x0 x1 x2 x12 σ := by kernel_rfl

theorem ok7_2 {run : RunT} (hrun : RunOK X0 run) (fu : Nat) : ∀ fr σ, KOK X0 103 (subC [true, true, true, true, true] b7) fr σ ((fun fr σ => c7_2 run fu (G fr 0) (G fr 1) (G fr 2) (G fr 12) σ) fr σ) k7 := fun fr σ =>
  KOK.piece env0 hrun [0, 1, 2, 12] (eq7_2 run fu (G fr 0) (G fr 1) (G fr 2) (G fr 12) σ) ⟨trivial, trivial⟩

noncomputable def c7_3 (run : RunT) (fu : Nat) (x0 x1 x2 x13 : AV) (σ : Store) : Tr R :=
  b2sK σ x13 fun x78 =>
  c7_2 run fu x0 x1 x2 x78 σ

theorem eq7_3 (run : RunT) (fu : Nat) (x0 x1 x2 x13 : AV) (σ : Store) : codeK X0 run .leaf (subC [true, true, true, true, false, true, false, true, true] b7) (frS 0 103 [(0, x0), (1, x1), (2, x2), (13, x13)]) σ (thenK (fun fr σ => c7_2 run fu (G fr 0) (G fr 1) (G fr 2) (G fr 12) σ) k7) = c7_3 run fu x0 x1 x2 x13 σ := by kernel_rfl

theorem ok7_3 {run : RunT} (hrun : RunOK X0 run) (fu : Nat) : ∀ fr σ, KOK X0 103 (subC [true, true, true, true, false, true, false, true, true] b7) fr σ ((fun fr σ => c7_3 run fu (G fr 0) (G fr 1) (G fr 2) (G fr 13) σ) fr σ) (thenK (fun fr σ => c7_2 run fu (G fr 0) (G fr 1) (G fr 2) (G fr 12) σ) k7) := fun fr σ =>
  KOK.piece env0 hrun [0, 1, 2, 13] (eq7_3 run fu (G fr 0) (G fr 1) (G fr 2) (G fr 13) σ) trivial

noncomputable def c7_4b (run : RunT) (fu : Nat) (s4 : W6) (x0 x1 x2 x13 x66 x67 : AV) (σ : Store) : Tr R :=
  cmpK .lss x67 x66 fun x68 =>
  ifK x68 (
  idxK 1 x13 x67 fun x72 =>
  ld1K σ x72 fun x73 =>
  subK x73 (.int .u8 32) fun x74 =>
  idxK 1 x13 x67 fun x75 =>
  st1K σ x75 x74 fun _ σ1 =>
  addK x67 (.int .i64 1) fun x76 =>
  s4 x0 x1 x2 x13 x66 x76 σ1) (
  c7_3 run fu x0 x1 x2 x13 σ)

noncomputable def c7_4 (run : RunT) (fu : Nat) : Nat → W6
  | 0 => fun _ _ _ _ _ _ _ => .fail
  | m + 1 => c7_4b run fu (c7_4 run fu m)

theorem eq7_4 (run : RunT) (fu : Nat) (s4 : W6) (x0 x1 x2 x13 x66 x67 : AV) (σ : Store) : codeK X0 run (.seq .leaf (.seq (.cond .leaf .leaf) (.seq (.block (.seq .leaf .leaf)) .leaf))) (subC [true, true, true, true, false, true, false, true, false, true, false, false] b7) (frS 0 103 [(0, x0), (1, x1), (2, x2), (13, x13), (66, x66), (67, x67)]) σ (thenK (fun fr σ => s4 (G fr 0) (G fr 1) (G fr 2) (G fr 13) (G fr 66) (G fr 67) σ) (blockK 4 (thenK (fun fr σ => c7_3 run fu (G fr 0) (G fr 1) (G fr 2) (G fr 13) σ) (thenK (fun fr σ => c7_2 run fu (G fr 0) (G fr 1) (G fr 2) (G fr 12) σ) k7)))) = c7_4b run fu s4 x0 x1 x2 x13 x66 x67 σ := by kernel_rfl

theorem owed7_4 {run : RunT} (hrun : RunOK X0 run) (fu : Nat) (s4 : W6) : Owes X0 run 103 (.seq .leaf (.seq (.cond .leaf .leaf) (.seq (.block (.seq .leaf .leaf)) .leaf))) (subC [true, true, true, true, false, true, false, true, false, true, false, false] b7) (thenK (fun fr σ => s4 (G fr 0) (G fr 1) (G fr 2) (G fr 13) (G fr 66) (G fr 67) σ) (blockK 4 (thenK (fun fr σ => c7_3 run fu (G fr 0) (G fr 1) (G fr 2) (G fr 13) σ) (thenK (fun fr σ => c7_2 run fu (G fr 0) (G fr 1) (G fr 2) (G fr 12) σ) k7)))) :=
  ⟨trivial, ⟨⟨trivial, trivial⟩, ⟨⟨trivial, trivial⟩, trivial⟩⟩⟩

theorem ok7_4 {run : RunT} (hrun : RunOK X0 run) (fu : Nat) : ∀ fr σ, KOK X0 103 (subC [true, true, true, true, false, true, false, true, false, true, false] b7) fr σ ((fun fr σ => c7_4 run fu fu (G fr 0) (G fr 1) (G fr 2) (G fr 13) (G fr 66) (G fr 67) σ) fr σ) (blockK 4 (thenK (fun fr σ => c7_3 run fu (G fr 0) (G fr 1) (G fr 2) (G fr 13) σ) (thenK (fun fr σ => c7_2 run fu (G fr 0) (G fr 1) (G fr 2) (G fr 12) σ) k7))) := by
  have h := KOK.loop (X := X0) (N := 103) (b := (subC [true, true, true, true, false, true, false, true, false, true, false, false] b7)) (k := (blockK 4 (thenK (fun fr σ => c7_3 run fu (G fr 0) (G fr 1) (G fr 2) (G fr 13) σ) (thenK (fun fr σ => c7_2 run fu (G fr 0) (G fr 1) (G fr 2) (G fr 12) σ) k7)))) (u := fun m fr σ => c7_4 run fu m (G fr 0) (G fr 1) (G fr 2) (G fr 13) (G fr 66) (G fr 67) σ) (fun _ _ => rfl) (fun m fr σ => KOK.piece env0 hrun [0, 1, 2, 13, 66, 67] (eq7_4 run fu (c7_4 run fu m) (G fr 0) (G fr 1) (G fr 2) (G fr 13) (G fr 66) (G fr 67) σ) (owed7_4 hrun fu (c7_4 run fu m)))
  exact fun fr σ => h fu fr σ

noncomputable def c7_1 (run : RunT) (fu : Nat) (x0 x1 x2 x3 : AV) (σ : Store) : Tr R :=
  ifK x3 (
  s2bK σ x0 fun x64 σ1 =>
  lenLK x64 fun x66 =>
  c7_4 run fu fu x0 x1 x2 x64 x66 (.int .i64 0) σ1) (
  c7_2 run fu x0 x1 x2 x0 σ)

theorem eq7_1 (run : RunT) (fu : Nat) (x0 x1 x2 x3 : AV) (σ : Store) : codeK X0 run (.seq .leaf (.seq (.seq .leaf (.cond (.seq .leaf (.seq (.seq .leaf (.block (.sub (fun fr σ => c7_4 run fu fu (G fr 0) (G fr 1) (G fr 2) (G fr 13) (G fr 66) (G fr 67) σ)))) (.sub (fun fr σ => c7_3 run fu (G fr 0) (G fr 1) (G fr 2) (G fr 13) σ)))) .leaf)) (.sub (fun fr σ => c7_2 run fu (G fr 0) (G fr 1) (G fr 2) (G fr 12) σ)))) (subC [true, true, true] b7) (frS 0 103 [(0, x0), (1, x1), (2, x2), (3, x3)]) σ k7 = c7_1 run fu x0 x1 x2 x3 σ := by kernel_rfl

theorem ok7_1 {run : RunT} (hrun : RunOK X0 run) (fu : Nat) : ∀ fr σ, KOK X0 103 (subC [true, true, true] b7) fr σ ((fun fr σ => c7_1 run fu (G fr 0) (G fr 1) (G fr 2) (G fr 3) σ) fr σ) k7 := fun fr σ =>
  KOK.piece env0 hrun [0, 1, 2, 3] (eq7_1 run fu (G fr 0) (G fr 1) (G fr 2) (G fr 3) σ) ⟨trivial, ⟨⟨trivial, ⟨⟨trivial, ⟨⟨trivial, (ok7_4 hrun fu)⟩, (ok7_3 hrun fu)⟩⟩, trivial⟩⟩, (ok7_2 hrun fu)⟩⟩

noncomputable def c7_6 (run : RunT) (fu : Nat) (s5 : W7) (x0 x1 x2 x3 x31 x32 x33 : AV) (σ : Store) : Tr R :=
  addK x33 (.int .i64 1) fun x60 =>
  s5 x0 x1 x2 x3 x31 x32 x60 σ

theorem eq7_6 (run : RunT) (fu : Nat) (s5 : W7) (x0 x1 x2 x3 x31 x32 x33 : AV) (σ : Store) : codeK X0 run .leaf (subC [true, true, false, true, false, false, true, true, true] b7) (frS 0 103 [(0, x0), (1, x1), (2, x2), (3, x3), (31, x31), (32, x32), (33, x33)]) σ (thenK (fun fr σ => s5 (G fr 0) (G fr 1) (G fr 2) (G fr 3) (G fr 31) (G fr 32) (G fr 33) σ) (blockK 0 (thenK (fun fr σ => c7_1 run fu (G fr 0) (G fr 1) (G fr 2) (G fr 3) σ) k7))) = c7_6 run fu s5 x0 x1 x2 x3 x31 x32 x33 σ := by kernel_rfl

theorem ok7_6 {run : RunT} (hrun : RunOK X0 run) (fu : Nat) (s5 : W7) : ∀ fr σ, KOK X0 103 (subC [true, true, false, true, false, false, true, true, true] b7) fr σ ((fun fr σ => c7_6 run fu s5 (G fr 0) (G fr 1) (G fr 2) (G fr 3) (G fr 31) (G fr 32) (G fr 33) σ) fr σ) (thenK (fun fr σ => s5 (G fr 0) (G fr 1) (G fr 2) (G fr 3) (G fr 31) (G fr 32) (G fr 33) σ) (blockK 0 (thenK (fun fr σ => c7_1 run fu (G fr 0) (G fr 1) (G fr 2) (G fr 3) σ) k7))) := fun fr σ =>
  KOK.piece env0 hrun [0, 1, 2, 3, 31, 32, 33] (eq7_6 run fu s5 (G fr 0) (G fr 1) (G fr 2) (G fr 3) (G fr 31) (G fr 32) (G fr 33) σ) trivial

noncomputable def c7_7b (run : RunT) (fu : Nat) (s5 : W7) (s7 : W9) (x0 x1 x2 x3 x10 x11 x31 x32 x33 : AV) (σ : Store) : Tr R :=
  lenSK x10 fun x46 =>
  cmpK .lss x11 x46 fun x47 =>
  ifK x47 (
  idxSK x10 x11 fun x52 =>
  cmpK .lss x52 (.int .u8 97) fun x53 =>
  grdK x53 false σ (fun f => f x10 σ) fun x55 σ1 =>
  grdK x53 false σ1 (fun f => f x11 σ1) fun x56 σ2 =>
  grdK x53 false σ2 (fun f => idxSK x55 x56 fun v => f v σ2) fun x57 σ3 =>
  grdK x53 false σ3 (fun f => cmpK .gtr x57 (.int .u8 122) fun v => f v σ3) fun x58 σ4 =>
  pickK x53 (.bool true) x58 fun x59 =>
  ifK x59 (
  .ret ((.bool true), σ4)) (
  addK x11 (.int .i64 1) fun x49 =>
  s7 x0 x1 x2 x3 x10 x49 x31 x32 x33 σ4)) (
  c7_6 run fu s5 x0 x1 x2 x3 x31 x32 x33 σ)

noncomputable def c7_7 (run : RunT) (fu : Nat) (s5 : W7) : Nat → W9
  | 0 => fun _ _ _ _ _ _ _ _ _ _ => .fail
  | m + 1 => c7_7b run fu s5 (c7_7 run fu s5 m)

theorem eq7_7 (run : RunT) (fu : Nat) (s5 : W7) (s7 : W9) (x0 x1 x2 x3 x10 x11 x31 x32 x33 : AV) (σ : Store) : codeK X0 run (.seq (.seq .leaf (.cond .leaf .leaf)) (.seq (.block (.seq .leaf (.cond (.seq .leaf .leaf) .leaf))) .leaf)) (subC [true, true, false, true, false, false, true, true, false, false, true, true, true, false, false] b7) (frS 0 103 [(0, x0), (1, x1), (2, x2), (3, x3), (10, x10), (11, x11), (31, x31), (32, x32), (33, x33)]) σ (thenK (fun fr σ => s7 (G fr 0) (G fr 1) (G fr 2) (G fr 3) (G fr 10) (G fr 11) (G fr 31) (G fr 32) (G fr 33) σ) (blockK 2 (blockK 1 (thenK (fun fr σ => c7_6 run fu s5 (G fr 0) (G fr 1) (G fr 2) (G fr 3) (G fr 31) (G fr 32) (G fr 33) σ) (thenK (fun fr σ => s5 (G fr 0) (G fr 1) (G fr 2) (G fr 3) (G fr 31) (G fr 32) (G fr 33) σ) (blockK 0 (thenK (fun fr σ => c7_1 run fu (G fr 0) (G fr 1) (G fr 2) (G fr 3) σ) k7))))))) = c7_7b run fu s5 s7 x0 x1 x2 x3 x10 x11 x31 x32 x33 σ := by kernel_rfl

theorem owed7_7 {run : RunT} (hrun : RunOK X0 run) (fu : Nat) (s5 : W7) (s7 : W9) : Owes X0 run 103 (.seq (.seq .leaf (.cond .leaf .leaf)) (.seq (.block (.seq .leaf (.cond (.seq .leaf .leaf) .leaf))) .leaf)) (subC [true, true, false, true, false, false, true, true, false, false, true, true, true, false, false] b7) (thenK (fun fr σ => s7 (G fr 0) (G fr 1) (G fr 2) (G fr 3) (G fr 10) (G fr 11) (G fr 31) (G fr 32) (G fr 33) σ) (blockK 2 (blockK 1 (thenK (fun fr σ => c7_6 run fu s5 (G fr 0) (G fr 1) (G fr 2) (G fr 3) (G fr 31) (G fr 32) (G fr 33) σ) (thenK (fun fr σ => s5 (G fr 0) (G fr 1) (G fr 2) (G fr 3) (G fr 31) (G fr 32) (G fr 33) σ) (blockK 0 (thenK (fun fr σ => c7_1 run fu (G fr 0) (G fr 1) (G fr 2) (G fr 3) σ) k7))))))) :=
  ⟨⟨trivial, ⟨trivial, trivial⟩⟩, ⟨⟨trivial, ⟨⟨trivial, trivial⟩, trivial⟩⟩, trivial⟩⟩

theorem ok7_7 {run : RunT} (hrun : RunOK X0 run) (fu : Nat) (s5 : W7) : ∀ fr σ, KOK X0 103 (subC [true, true, false, true, false, false, true, true, false, false, true, true, true, false] b7) fr σ ((fun fr σ => c7_7 run fu s5 fu (G fr 0) (G fr 1) (G fr 2) (G fr 3) (G fr 10) (G fr 11) (G fr 31) (G fr 32) (G fr 33) σ) fr σ) (blockK 2 (blockK 1 (thenK (fun fr σ => c7_6 run fu s5 (G fr 0) (G fr 1) (G fr 2) (G fr 3) (G fr 31) (G fr 32) (G fr 33) σ) (thenK (fun fr σ => s5 (G fr 0) (G fr 1) (G fr 2) (G fr 3) (G fr 31) (G fr 32) (G fr 33) σ) (blockK 0 (thenK (fun fr σ => c7_1 run fu (G fr 0) (G fr 1) (G fr 2) (G fr 3) σ) k7)))))) := by
  have h := KOK.loop (X := X0) (N := 103) (b := (subC [true, true, false, true, false, false, true, true, false, false, true, true, true, false, false] b7)) (k := (blockK 2 (blockK 1 (thenK (fun fr σ => c7_6 run fu s5 (G fr 0) (G fr 1) (G fr 2) (G fr 3) (G fr 31) (G fr 32) (G fr 33) σ) (thenK (fun fr σ => s5 (G fr 0) (G fr 1) (G fr 2) (G fr 3) (G fr 31) (G fr 32) (G fr 33) σ) (blockK 0 (thenK (fun fr σ => c7_1 run fu (G fr 0) (G fr 1) (G fr 2) (G fr 3) σ) k7))))))) (u := fun m fr σ => c7_7 run fu s5 m (G fr 0) (G fr 1) (G fr 2) (G fr 3) (G fr 10) (G fr 11) (G fr 31) (G fr 32) (G fr 33) σ) (fun _ _ => rfl) (fun m fr σ => KOK.piece env0 hrun [0, 1, 2, 3, 10, 11, 31, 32, 33] (eq7_7 run fu s5 (c7_7 run fu s5 m) (G fr 0) (G fr 1) (G fr 2) (G fr 3) (G fr 10) (G fr 11) (G fr 31) (G fr 32) (G fr 33) σ) (owed7_7 hrun fu s5 (c7_7 run fu s5 m)))
  exact fun fr σ => h fu fr σ

noncomputable def c7_5b (run : RunT) (fu : Nat) (s5 : W7) (x0 x1 x2 x3 x31 x32 x33 : AV) (σ : Store) : Tr R :=
  cmpK .lss x33 x32 fun x34 =>
  ifK x34 (
  idxK 1 x31 x33 fun x35 =>
  ld1K σ x35 fun x36 =>
  eqSK x36 (.str []) fun x38 =>
  grdK x38 false σ (fun f => f x36 σ) fun x40 σ1 =>
  grdK x38 false σ1 (fun f => lenSK x40 fun v => f v σ1) fun x41 σ2 =>
  grdK x38 false σ2 (fun f => cmpK .gtr x41 (.int .i64 60) fun v => f v σ2) fun x42 σ3 =>
  pickK x38 (.bool true) x42 fun x43 =>
  ifK x43 (
  .ret ((.bool true), σ3)) (
  c7_7 run fu s5 fu x0 x1 x2 x3 x36 (.int .i64 0) x31 x32 x33 σ3)) (
  c7_1 run fu x0 x1 x2 x3 σ)

noncomputable def c7_5 (run : RunT) (fu : Nat) : Nat → W7
  | 0 => fun _ _ _ _ _ _ _ _ => .fail
  | m + 1 => c7_5b run fu (c7_5 run fu m)

theorem eq7_5 (run : RunT) (fu : Nat) (s5 : W7) (x0 x1 x2 x3 x31 x32 x33 : AV) (σ : Store) : codeK X0 run (.seq .leaf (.seq (.cond .leaf .leaf) (.seq (.block (.seq .leaf (.seq (.seq .leaf (.cond (.seq .leaf .leaf) .leaf)) (.seq .leaf (.block (.sub (fun fr σ => c7_7 run fu s5 fu (G fr 0) (G fr 1) (G fr 2) (G fr 3) (G fr 10) (G fr 11) (G fr 31) (G fr 32) (G fr 33) σ))))))) (.sub (fun fr σ => c7_6 run fu s5 (G fr 0) (G fr 1) (G fr 2) (G fr 3) (G fr 31) (G fr 32) (G fr 33) σ))))) (subC [true, true, false, true, false, false] b7) (frS 0 103 [(0, x0), (1, x1), (2, x2), (3, x3), (31, x31), (32, x32), (33, x33)]) σ (thenK (fun fr σ => s5 (G fr 0) (G fr 1) (G fr 2) (G fr 3) (G fr 31) (G fr 32) (G fr 33) σ) (blockK 0 (thenK (fun fr σ => c7_1 run fu (G fr 0) (G fr 1) (G fr 2) (G fr 3) σ) k7))) = c7_5b run fu s5 x0 x1 x2 x3 x31 x32 x33 σ := by kernel_rfl

theorem owed7_5 {run : RunT} (hrun : RunOK X0 run) (fu : Nat) (s5 : W7) : Owes X0 run 103 (.seq .leaf (.seq (.cond .leaf .leaf) (.seq (.block (.seq .leaf (.seq (.seq .leaf (.cond (.seq .leaf .leaf) .leaf)) (.seq .leaf (.block (.sub (fun fr σ => c7_7 run fu s5 fu (G fr 0) (G fr 1) (G fr 2) (G fr 3) (G fr 10) (G fr 11) (G fr 31) (G fr 32) (G fr 33) σ))))))) (.sub (fun fr σ => c7_6 run fu s5 (G fr 0) (G fr 1) (G fr 2) (G fr 3) (G fr 31) (G fr 32) (G fr 33) σ))))) (subC [true, true, false, true, false, false] b7) (thenK (fun fr σ => s5 (G fr 0) (G fr 1) (G fr 2) (G fr 3) (G fr 31) (G fr 32) (G fr 33) σ) (blockK 0 (thenK (fun fr σ => c7_1 run fu (G fr 0) (G fr 1) (G fr 2) (G fr 3) σ) k7))) :=
  ⟨trivial, ⟨⟨trivial, trivial⟩, ⟨⟨trivial, ⟨⟨trivial, ⟨⟨trivial, trivial⟩, trivial⟩⟩, ⟨trivial, (ok7_7 hrun fu s5)⟩⟩⟩, (ok7_6 hrun fu s5)⟩⟩⟩

theorem ok7_5 {run : RunT} (hrun : RunOK X0 run) (fu : Nat) : ∀ fr σ, KOK X0 103 (subC [true, true, false, true, false] b7) fr σ ((fun fr σ => c7_5 run fu fu (G fr 0) (G fr 1) (G fr 2) (G fr 3) (G fr 31) (G fr 32) (G fr 33) σ) fr σ) (blockK 0 (thenK (fun fr σ => c7_1 run fu (G fr 0) (G fr 1) (G fr 2) (G fr 3) σ) k7)) := by
  have h := KOK.loop (X := X0) (N := 103) (b := (subC [true, true, false, true, false, false] b7)) (k := (blockK 0 (thenK (fun fr σ => c7_1 run fu (G fr 0) (G fr 1) (G fr 2) (G fr 3) σ) k7))) (u := fun m fr σ => c7_5 run fu m (G fr 0) (G fr 1) (G fr 2) (G fr 3) (G fr 31) (G fr 32) (G fr 33) σ) (fun _ _ => rfl) (fun m fr σ => KOK.piece env0 hrun [0, 1, 2, 3, 31, 32, 33] (eq7_5 run fu (c7_5 run fu m) (G fr 0) (G fr 1) (G fr 2) (G fr 3) (G fr 31) (G fr 32) (G fr 33) σ) (owed7_5 hrun fu (c7_5 run fu m)))
  exact fun fr σ => h fu fr σ

noncomputable def c7 (run : RunT) (fu : Nat) (x0 x1 x2 x3 : AV) (σ : Store) : Tr R :=
  lenSK x0 fun x16 =>
  cmpK .gtr x16 (.int .i64 2147483647) fun x17 =>
  grdK x17 false σ (fun f => f x1 σ) fun x19 σ1 =>
  grdK x17 false σ1 (fun f => lenSK x19 fun v => f v σ1) fun x20 σ2 =>
  grdK x17 false σ2 (fun f => cmpK .gtr x20 (.int .i64 2147483647) fun v => f v σ2) fun x21 σ3 =>
  pickK x17 (.bool true) x21 fun x22 =>
  grdK x22 false σ3 (fun f => f x2 σ3) fun x24 σ4 =>
  grdK x22 false σ4 (fun f => lenSK x24 fun v => f v σ4) fun x25 σ5 =>
  grdK x22 false σ5 (fun f => cmpK .gtr x25 (.int .i64 2147483647) fun v => f v σ5) fun x26 σ6 =>
  pickK x22 (.bool true) x26 fun x27 =>
  ifK x27 (
  .ret ((.bool true), σ6)) (
  opt (fillK [(.str []), (.str []), (.str [])] [(0, 1, x0), (1, 1, x1), (2, 1, x2)]) fun cs => newSK σ6 19 cs 3 1 fun x31 σ7 =>
  lenLK x31 fun x32 =>
  c7_5 run fu fu x0 x1 x2 x3 x31 x32 (.int .i64 0) σ7)

theorem eq7 (run : RunT) (fu : Nat) (x0 x1 x2 x3 : AV) (σ : Store) : codeK X0 run (.seq .leaf (.seq (.seq .leaf (.cond (.seq .leaf .leaf) .leaf)) (.seq (.seq .leaf (.block (.sub (fun fr σ => c7_5 run fu fu (G fr 0) (G fr 1) (G fr 2) (G fr 3) (G fr 31) (G fr 32) (G fr 33) σ)))) (.sub (fun fr σ => c7_1 run fu (G fr 0) (G fr 1) (G fr 2) (G fr 3) σ))))) (subC [] b7) ([x0, x1, x2, x3] ++ padA (103 - 4)) σ k7 = c7 run fu x0 x1 x2 x3 σ := by kernel_rfl

theorem ok7 {run : RunT} (hrun : RunOK X0 run) (fu : Nat) (x0 x1 x2 x3 : AV) (σ : Store) : CallOK X0 7 [x0, x1, x2, x3] σ (c7 run fu x0 x1 x2 x3 σ) :=
  KOK.body (fn := Tryz.f7) (c := subC [] b7) (by kernel_rfl) (by kernel_rfl) (by show 4 ≤ 103; decide) (KOK.whole env0 hrun (eq7 run fu x0 x1 x2 x3 σ) ⟨trivial, ⟨⟨trivial, ⟨⟨trivial, trivial⟩, trivial⟩⟩, ⟨⟨trivial, (ok7_5 hrun fu)⟩, (ok7_1 hrun fu)⟩⟩⟩)

-- pub-paratext/laws.plain

noncomputable def b20 : Code := match Tryz.f20.body with | some c => c | none => .skip

noncomputable def k20 : Kont R := retK Tryz.prog [.cell 0 37]

noncomputable def c20 (run : RunT) (fu : Nat) (σ : Store) : Tr R :=
  newK σ 75 [(.bool false), (.bool false), (.bool false), (.bool false), (.bool false), (.bool false), (.bool false), (.bool false), (.bool false), (.bool false)] fun x0 σ1 =>
  bldK [(.bool false), (.bool false), (.bool false), (.bool false), (.bool false), (.bool false), (.bool false), (.bool false), (.bool false), (.bool false)] [] fun x1 =>
  stNK σ1 x0 10 x1 fun _ σ2 =>
  ldNK σ2 x0 10 fun v3 =>
  .ret (v3, σ2)

theorem eq20 (run : RunT) (fu : Nat) (σ : Store) : codeK X0 run (.seq .leaf (.seq .leaf .leaf)) (subC [] b20) ([] ++ padA (2 - 0)) σ k20 = c20 run fu σ := by kernel_rfl

theorem ok20 {run : RunT} (hrun : RunOK X0 run) (fu : Nat) (σ : Store) : CallOK X0 20 [] σ (c20 run fu σ) :=
  KOK.body (fn := Tryz.f20) (c := subC [] b20) (by kernel_rfl) (by kernel_rfl) (by show 0 ≤ 2; decide) (KOK.whole env0 hrun (eq20 run fu σ) ⟨trivial, ⟨trivial, trivial⟩⟩)

-- pub-paratext/impl.HTML

noncomputable def b25 : Code := match Tryz.f25.body with | some c => c | none => .skip

noncomputable def k25 : Kont R := retK Tryz.prog [.tmp 4]

noncomputable def c25 (run : RunT) (fu : Nat) (x0 x1 : AV) (σ : Store) : Tr R :=
  boxK σ 75 x0 fun x2 σ1 =>
  ldNK σ1 x2 10 fun x5 =>
  calK run 47 [x5] σ1 fun x6 σ2 =>
  calK run 48 [x6, x1] σ2 fun x8 σ3 =>
  calK run 50 [(.iface 83 x8)] σ3 fun x10 σ4 =>
  .ret (x10, σ4)

theorem eq25 (run : RunT) (fu : Nat) (x0 x1 : AV) (σ : Store) : codeK X0 run (.seq .leaf (.seq .leaf .leaf)) (subC [] b25) ([x0, x1] ++ padA (11 - 2)) σ k25 = c25 run fu x0 x1 σ := by kernel_rfl

theorem ok25 {run : RunT} (hrun : RunOK X0 run) (fu : Nat) (x0 x1 : AV) (σ : Store) : CallOK X0 25 [x0, x1] σ (c25 run fu x0 x1 σ) :=
  KOK.body (fn := Tryz.f25) (c := subC [] b25) (by kernel_rfl) (by kernel_rfl) (by show 2 ≤ 11; decide) (KOK.whole env0 hrun (eq25 run fu x0 x1 σ) ⟨trivial, ⟨trivial, trivial⟩⟩)

-- pub-paratext/impl.parser

noncomputable def b47 : Code := match Tryz.f47.body with | some c => c | none => .skip

noncomputable def k47 : Kont R := retK Tryz.prog [.tmp 2]

noncomputable def c47 (run : RunT) (fu : Nat) (x0 : AV) (σ : Store) : Tr R :=
  boxK σ 75 x0 fun x1 σ1 =>
  addrK x1 8 fun x3 =>
  ld1K σ1 x3 fun x4 =>
  addrK x1 0 fun x5 =>
  ld1K σ1 x5 fun x6 =>
  addrK x1 1 fun x7 =>
  ld1K σ1 x7 fun x8 =>
  addrK x1 2 fun x9 =>
  ld1K σ1 x9 fun x10 =>
  addrK x1 3 fun x11 =>
  ld1K σ1 x11 fun x12 =>
  addrK x1 4 fun x13 =>
  ld1K σ1 x13 fun x14 =>
  addrK x1 9 fun x15 =>
  ld1K σ1 x15 fun x16 =>
  addrK x1 5 fun x17 =>
  ld1K σ1 x17 fun x18 =>
  addrK x1 6 fun x19 =>
  ld1K σ1 x19 fun x20 =>
  addrK x1 7 fun x21 =>
  ld1K σ1 x21 fun x22 =>
  bldK [(.bool false), (.bool false), (.bool false), (.bool false), (.bool false), (.bool false), (.bool false), (.bool false), (.bool false), (.bool false)] [(0, 1, x4), (1, 1, x6), (2, 1, x8), (3, 1, x10), (4, 1, x12), (5, 1, x14), (6, 1, x16), (7, 1, x18), (8, 1, x20), (9, 1, x22)] fun x23 =>
  boxK σ1 301 x23 fun x24 σ2 =>
  .ret (x24, σ2)

theorem eq47 (run : RunT) (fu : Nat) (x0 : AV) (σ : Store) : codeK X0 run (.seq .leaf (.seq .leaf .leaf)) (subC [] b47) ([x0] ++ padA (25 - 1)) σ k47 = c47 run fu x0 σ := by kernel_rfl

theorem ok47 {run : RunT} (hrun : RunOK X0 run) (fu : Nat) (x0 : AV) (σ : Store) : CallOK X0 47 [x0] σ (c47 run fu x0 σ) :=
  KOK.body (fn := Tryz.f47) (c := subC [] b47) (by kernel_rfl) (by kernel_rfl) (by show 1 ≤ 25; decide) (KOK.whole env0 hrun (eq47 run fu x0 σ) ⟨trivial, ⟨trivial, trivial⟩⟩)

-- (*pub-paratext/pub/rscmarkdown.Parser).Parse

noncomputable def b48 : Code := match Tryz.f48.body with | some c => c | none => .skip

noncomputable def k48 : Kont R := retK Tryz.prog [.tmp 4]

noncomputable def c48 (run : RunT) (fu : Nat) (x0 x1 : AV) (σ : Store) : Tr R :=
  calK run 73 [x0, x1] σ fun x10 σ1 =>
  extK x10 0 fun x11 =>
  extK x10 1 fun x12 =>
  .ret (x11, σ1)

theorem eq48 (run : RunT) (fu : Nat) (x0 x1 : AV) (σ : Store) : codeK X0 run (.seq .leaf (.seq .leaf (.seq .leaf .leaf))) (subC [] b48) ([x0, x1] ++ padA (14 - 2)) σ k48 = c48 run fu x0 x1 σ := by kernel_rfl

theorem ok48 {run : RunT} (hrun : RunOK X0 run) (fu : Nat) (x0 x1 : AV) (σ : Store) : CallOK X0 48 [x0, x1] σ (c48 run fu x0 x1 σ) :=
  KOK.body (fn := Tryz.f48) (c := subC [] b48) (by kernel_rfl) (by kernel_rfl) (by show 2 ≤ 14; decide) (KOK.whole env0 hrun (eq48 run fu x0 x1 σ) ⟨trivial, ⟨trivial, ⟨trivial, trivial⟩⟩⟩)

-- pub-paratext/pub/rscmarkdown.ToHTML

noncomputable def b50 : Code := match Tryz.f50.body with | some c => c | none => .skip

noncomputable def k50 : Kont R := retK Tryz.prog [.tmp 2]

noncomputable def c50 (run : RunT) (fu : Nat) (x0 : AV) (σ : Store) : Tr R :=
  newK σ 313 [.nils, (.int .i64 0), (.int .i8 0)] fun x3 σ1 =>
  invK X0 run x0 "PrintHTML" [x3] σ1 fun x5 σ2 =>
  calK run 74 [x3] σ2 fun x6 σ3 =>
  .ret (x6, σ3)

theorem eq50 (run : RunT) (fu : Nat) (x0 : AV) (σ : Store) : codeK X0 run (.seq .leaf (.seq .leaf (.seq .leaf (.seq .leaf .leaf)))) (subC [] b50) ([x0] ++ padA (7 - 1)) σ k50 = c50 run fu x0 σ := by kernel_rfl

theorem ok50 {run : RunT} (hrun : RunOK X0 run) (fu : Nat) (x0 : AV) (σ : Store) : CallOK X0 50 [x0] σ (c50 run fu x0 σ) :=
  KOK.body (fn := Tryz.f50) (c := subC [] b50) (by kernel_rfl) (by kernel_rfl) (by show 1 ≤ 7; decide) (KOK.whole env0 hrun (eq50 run fu x0 σ) ⟨trivial, ⟨trivial, ⟨trivial, ⟨trivial, trivial⟩⟩⟩⟩)

-- (*pub-paratext/pub/rscmarkdown.Parser).parse

noncomputable def b73 : Code := match Tryz.f73.body with | some c => c | none => .skip

noncomputable def k73 : Kont R := retK Tryz.prog [.tmp 4, .tmp 5]

noncomputable def c73_4 (run : RunT) (fu : Nat) (x6 : AV) (σ : Store) : Tr R :=
  addrK x6 1 fun x110 =>
  ld1K σ x110 fun x111 =>
  addrK x6 6 fun x112 =>
  ld1K σ x112 fun x113 =>
  .ret (.tup [x111, x113], σ)

theorem eq73_4 (run : RunT) (fu : Nat) (x6 : AV) (σ : Store) : codeK X0 run (.seq .leaf .leaf) (subC [true, true, true, true, true, true, true, true, true, true] b73) (frS 0 114 [(6, x6)]) σ k73 = c73_4 run fu x6 σ := by kernel_rfl

theorem ok73_4 {run : RunT} (hrun : RunOK X0 run) (fu : Nat) : ∀ fr σ, KOK X0 114 (subC [true, true, true, true, true, true, true, true, true, true] b73) fr σ ((fun fr σ => c73_4 run fu (G fr 6) σ) fr σ) k73 := fun fr σ =>
  KOK.piece env0 hrun [6] (eq73_4 run fu (G fr 6) σ) ⟨trivial, trivial⟩

noncomputable def c73_3 (run : RunT) (fu : Nat) (x0 x6 : AV) (σ : Store) : Tr R :=
  nchkK x0 fun x97 =>
  addrK x97 2 fun x98 =>
  ld1K σ x98 fun x99 =>
  ifK x99 (
  .fail) (
  c73_4 run fu x6 σ)

theorem eq73_3 (run : RunT) (fu : Nat) (x0 x6 : AV) (σ : Store) : codeK X0 run (.seq (.seq .leaf (.cond (.sub deadK) .leaf)) (.sub (fun fr σ => c73_4 run fu (G fr 6) σ))) (subC [true, true, true, true, true, true, true, true, true] b73) (frS 0 114 [(0, x0), (6, x6)]) σ k73 = c73_3 run fu x0 x6 σ := by kernel_rfl

theorem ok73_3 {run : RunT} (hrun : RunOK X0 run) (fu : Nat) : ∀ fr σ, KOK X0 114 (subC [true, true, true, true, true, true, true, true, true] b73) fr σ ((fun fr σ => c73_3 run fu (G fr 0) (G fr 6) σ) fr σ) k73 := fun fr σ =>
  KOK.piece env0 hrun [0, 6] (eq73_3 run fu (G fr 0) (G fr 6) σ) ⟨⟨trivial, ⟨KOK.dead, trivial⟩⟩, (ok73_4 hrun fu)⟩

noncomputable def c73_5b (run : RunT) (fu : Nat) (s5 : W5) (x0 x6 x81 x82 x83 : AV) (σ : Store) : Tr R :=
  cmpK .lss x83 x82 fun x84 =>
  ifK x84 (
  idxK 1 x81 x83 fun x85 =>
  ld1K σ x85 fun x86 =>
  nchkK x86 fun x89 =>
  addrK x89 3 fun x90 =>
  ld1K σ x90 fun x91 =>
  calK run 92 [x6, x91] σ fun x92 σ1 =>
  nchkK x86 fun x93 =>
  addrK x93 2 fun x94 =>
  st1K σ1 x94 x92 fun _ σ2 =>
  addK x83 (.int .i64 1) fun x95 =>
  s5 x0 x6 x81 x82 x95 σ2) (
  c73_3 run fu x0 x6 σ)

noncomputable def c73_5 (run : RunT) (fu : Nat) : Nat → W5
  | 0 => fun _ _ _ _ _ _ => .fail
  | m + 1 => c73_5b run fu (c73_5 run fu m)

theorem eq73_5 (run : RunT) (fu : Nat) (s5 : W5) (x0 x6 x81 x82 x83 : AV) (σ : Store) : codeK X0 run (.seq .leaf (.seq (.cond .leaf .leaf) (.seq (.block (.seq .leaf .leaf)) .leaf))) (subC [true, true, true, true, true, true, true, true, false, true, false, false] b73) (frS 0 114 [(0, x0), (6, x6), (81, x81), (82, x82), (83, x83)]) σ (thenK (fun fr σ => s5 (G fr 0) (G fr 6) (G fr 81) (G fr 82) (G fr 83) σ) (blockK 3 (thenK (fun fr σ => c73_3 run fu (G fr 0) (G fr 6) σ) k73))) = c73_5b run fu s5 x0 x6 x81 x82 x83 σ := by kernel_rfl

theorem owed73_5 {run : RunT} (hrun : RunOK X0 run) (fu : Nat) (s5 : W5) : Owes X0 run 114 (.seq .leaf (.seq (.cond .leaf .leaf) (.seq (.block (.seq .leaf .leaf)) .leaf))) (subC [true, true, true, true, true, true, true, true, false, true, false, false] b73) (thenK (fun fr σ => s5 (G fr 0) (G fr 6) (G fr 81) (G fr 82) (G fr 83) σ) (blockK 3 (thenK (fun fr σ => c73_3 run fu (G fr 0) (G fr 6) σ) k73))) :=
  ⟨trivial, ⟨⟨trivial, trivial⟩, ⟨⟨trivial, trivial⟩, trivial⟩⟩⟩

theorem ok73_5 {run : RunT} (hrun : RunOK X0 run) (fu : Nat) : ∀ fr σ, KOK X0 114 (subC [true, true, true, true, true, true, true, true, false, true, false] b73) fr σ ((fun fr σ => c73_5 run fu fu (G fr 0) (G fr 6) (G fr 81) (G fr 82) (G fr 83) σ) fr σ) (blockK 3 (thenK (fun fr σ => c73_3 run fu (G fr 0) (G fr 6) σ) k73)) := by
  have h := KOK.loop (X := X0) (N := 114) (b := (subC [true, true, true, true, true, true, true, true, false, true, false, false] b73)) (k := (blockK 3 (thenK (fun fr σ => c73_3 run fu (G fr 0) (G fr 6) σ) k73))) (u := fun m fr σ => c73_5 run fu m (G fr 0) (G fr 6) (G fr 81) (G fr 82) (G fr 83) σ) (fun _ _ => rfl) (fun m fr σ => KOK.piece env0 hrun [0, 6, 81, 82, 83] (eq73_5 run fu (c73_5 run fu m) (G fr 0) (G fr 6) (G fr 81) (G fr 82) (G fr 83) σ) (owed73_5 hrun fu (c73_5 run fu m)))
  exact fun fr σ => h fu fr σ

noncomputable def c73_2 (run : RunT) (fu : Nat) (x0 x6 : AV) (σ : Store) : Tr R :=
  calK run 91 [x6, (.int .i64 0)] σ fun x79 σ1 =>
  addrK x6 11 fun x80 =>
  ld1K σ1 x80 fun x81 =>
  lenLK x81 fun x82 =>
  c73_5 run fu fu x0 x6 x81 x82 (.int .i64 0) σ1

theorem eq73_2 (run : RunT) (fu : Nat) (x0 x6 : AV) (σ : Store) : codeK X0 run (.seq .leaf (.seq (.seq .leaf (.block (.sub (fun fr σ => c73_5 run fu fu (G fr 0) (G fr 6) (G fr 81) (G fr 82) (G fr 83) σ)))) (.sub (fun fr σ => c73_3 run fu (G fr 0) (G fr 6) σ)))) (subC [true, true, true, true, true, true, true] b73) (frS 0 114 [(0, x0), (6, x6)]) σ k73 = c73_2 run fu x0 x6 σ := by kernel_rfl

theorem ok73_2 {run : RunT} (hrun : RunOK X0 run) (fu : Nat) : ∀ fr σ, KOK X0 114 (subC [true, true, true, true, true, true, true] b73) fr σ ((fun fr σ => c73_2 run fu (G fr 0) (G fr 6) σ) fr σ) k73 := fun fr σ =>
  KOK.piece env0 hrun [0, 6] (eq73_2 run fu (G fr 0) (G fr 6) σ) ⟨trivial, ⟨⟨trivial, (ok73_5 hrun fu)⟩, (ok73_3 hrun fu)⟩⟩

noncomputable def c73_7 (run : RunT) (fu : Nat) (s6 : W3) (x0 x1 x6 x7 x10 : AV) (σ : Store) : Tr R :=
  addrK x6 3 fun x71 =>
  ld1K σ x71 fun x72 =>
  addK x72 (.int .i64 1) fun x73 =>
  addrK x6 3 fun x74 =>
  st1K σ x74 x73 fun _ σ1 =>
  bldK [(.int .i64 0), (.int .i64 0), (.int .i64 0), (.str []), (.int .u8 0)] [(3, 1, x7), (4, 1, x10)] fun x77 =>
  calK run 90 [x6, x77] σ1 fun x78 σ2 =>
  s6 x0 x1 x6 σ2

theorem eq73_7 (run : RunT) (fu : Nat) (s6 : W3) (x0 x1 x6 x7 x10 : AV) (σ : Store) : codeK X0 run (.seq .leaf .leaf) (subC [true, true, true, true, true, true, false, false, false, true, false, true, true, true, true, true] b73) (frS 0 114 [(0, x0), (1, x1), (6, x6), (7, x7), (10, x10)]) σ (blockK 1 (thenK (fun fr σ => s6 (G fr 0) (G fr 1) (G fr 6) σ) (blockK 0 (thenK (fun fr σ => c73_2 run fu (G fr 0) (G fr 6) σ) k73)))) = c73_7 run fu s6 x0 x1 x6 x7 x10 σ := by kernel_rfl

theorem ok73_7 {run : RunT} (hrun : RunOK X0 run) (fu : Nat) (s6 : W3) : ∀ fr σ, KOK X0 114 (subC [true, true, true, true, true, true, false, false, false, true, false, true, true, true, true, true] b73) fr σ ((fun fr σ => c73_7 run fu s6 (G fr 0) (G fr 1) (G fr 6) (G fr 7) (G fr 10) σ) fr σ) (blockK 1 (thenK (fun fr σ => s6 (G fr 0) (G fr 1) (G fr 6) σ) (blockK 0 (thenK (fun fr σ => c73_2 run fu (G fr 0) (G fr 6) σ) k73)))) := fun fr σ =>
  KOK.piece env0 hrun [0, 1, 6, 7, 10] (eq73_7 run fu s6 (G fr 0) (G fr 1) (G fr 6) (G fr 7) (G fr 10) σ) ⟨trivial, trivial⟩

noncomputable def c73_6b (run : RunT) (fu : Nat) (s6 : W3) (x0 x1 x6 : AV) (σ : Store) : Tr R :=
  neSK x1 (.str []) fun x28 =>
  ifK x28 (
  calK run 89 [x1, (.str [10])] σ fun x30 σ1 =>
  calK run 89 [x1, (.str [13])] σ1 fun x32 σ2 =>
  cmpK .geq x32 (.int .i64 0) fun x36 =>
  grdK x36 true σ2 (fun f => f x30 σ2) fun x38 σ3 =>
  grdK x36 true σ3 (fun f => cmpK .lss x38 (.int .i64 0) fun v => f v σ3) fun x39 σ4 =>
  grdK x36 true σ4 (fun f => f x39 σ4) fun x40 σ5 =>
  grdK x40 false σ5 (fun f => f x32 σ5) fun x41 σ6 =>
  grdK x40 false σ6 (fun f => f x30 σ6) fun x42 σ7 =>
  grdK x40 false σ7 (fun f => cmpK .lss x41 x42 fun v => f v σ7) fun x43 σ8 =>
  grdK x36 true σ8 (fun f => pickK x40 (.bool true) x43 fun v => f v σ8) fun x44 σ9 =>
  pickK x36 x44 (.bool false) fun x45 =>
  ifK x45 (
  .fail) (
  cmpK .geq x30 (.int .i64 0) fun x63 =>
  ifK x63 (
  sliceSK x1 none (some x30) fun x66 =>
  addK x30 (.int .i64 1) fun x69 =>
  sliceSK x1 (some x69) none fun x70 =>
  c73_7 run fu s6 x0 x70 x6 x66 (.int .u8 10) σ9) (
  .fail))) (
  c73_2 run fu x0 x6 σ)

noncomputable def c73_6 (run : RunT) (fu : Nat) : Nat → W3
  | 0 => fun _ _ _ _ => .fail
  | m + 1 => c73_6b run fu (c73_6 run fu m)

theorem eq73_6 (run : RunT) (fu : Nat) (s6 : W3) (x0 x1 x6 : AV) (σ : Store) : codeK X0 run (.seq (.seq .leaf (.cond .leaf .leaf)) (.block (.seq .leaf (.seq .leaf (.seq .leaf (.seq .leaf (.seq (.block (.seq .leaf (.cond (.sub deadK) (.seq .leaf (.cond (.seq .leaf .leaf) (.sub deadK)))))) (.sub (fun fr σ => c73_7 run fu s6 (G fr 0) (G fr 1) (G fr 6) (G fr 7) (G fr 10) σ))))))))) (subC [true, true, true, true, true, true, false, false, false] b73) (frS 0 114 [(0, x0), (1, x1), (6, x6)]) σ (thenK (fun fr σ => s6 (G fr 0) (G fr 1) (G fr 6) σ) (blockK 0 (thenK (fun fr σ => c73_2 run fu (G fr 0) (G fr 6) σ) k73))) = c73_6b run fu s6 x0 x1 x6 σ := by kernel_rfl

theorem owed73_6 {run : RunT} (hrun : RunOK X0 run) (fu : Nat) (s6 : W3) : Owes X0 run 114 (.seq (.seq .leaf (.cond .leaf .leaf)) (.block (.seq .leaf (.seq .leaf (.seq .leaf (.seq .leaf (.seq (.block (.seq .leaf (.cond (.sub deadK) (.seq .leaf (.cond (.seq .leaf .leaf) (.sub deadK)))))) (.sub (fun fr σ => c73_7 run fu s6 (G fr 0) (G fr 1) (G fr 6) (G fr 7) (G fr 10) σ))))))))) (subC [true, true, true, true, true, true, false, false, false] b73) (thenK (fun fr σ => s6 (G fr 0) (G fr 1) (G fr 6) σ) (blockK 0 (thenK (fun fr σ => c73_2 run fu (G fr 0) (G fr 6) σ) k73))) :=
  ⟨⟨trivial, ⟨trivial, trivial⟩⟩, ⟨trivial, ⟨trivial, ⟨trivial, ⟨trivial, ⟨⟨trivial, ⟨KOK.dead, ⟨trivial, ⟨⟨trivial, trivial⟩, KOK.dead⟩⟩⟩⟩, (ok73_7 hrun fu s6)⟩⟩⟩⟩⟩⟩

theorem ok73_6 {run : RunT} (hrun : RunOK X0 run) (fu : Nat) : ∀ fr σ, KOK X0 114 (subC [true, true, true, true, true, true, false, false] b73) fr σ ((fun fr σ => c73_6 run fu fu (G fr 0) (G fr 1) (G fr 6) σ) fr σ) (blockK 0 (thenK (fun fr σ => c73_2 run fu (G fr 0) (G fr 6) σ) k73)) := by
  have h := KOK.loop (X := X0) (N := 114) (b := (subC [true, true, true, true, true, true, false, false, false] b73)) (k := (blockK 0 (thenK (fun fr σ => c73_2 run fu (G fr 0) (G fr 6) σ) k73))) (u := fun m fr σ => c73_6 run fu m (G fr 0) (G fr 1) (G fr 6) σ) (fun _ _ => rfl) (fun m fr σ => KOK.piece env0 hrun [0, 1, 6] (eq73_6 run fu (c73_6 run fu m) (G fr 0) (G fr 1) (G fr 6) σ) (owed73_6 hrun fu (c73_6 run fu m)))
  exact fun fr σ => h fu fr σ

noncomputable def c73_1 (run : RunT) (fu : Nat) (x0 x1 x6 : AV) (σ : Store) : Tr R :=
  addrK x6 5 fun x22 =>
  st1K σ x22 (.int .i64 (-1)) fun _ σ1 =>
  bldK [] [] fun x23 =>
  boxK σ1 369 x23 fun x24 σ2 =>
  calK run 88 [x6, (.iface 182 x24)] σ2 fun x26 σ3 =>
  c73_6 run fu fu x0 x1 x6 σ3

theorem eq73_1 (run : RunT) (fu : Nat) (x0 x1 x6 : AV) (σ : Store) : codeK X0 run (.seq .leaf (.seq .leaf (.seq (.block (.sub (fun fr σ => c73_6 run fu fu (G fr 0) (G fr 1) (G fr 6) σ))) (.sub (fun fr σ => c73_2 run fu (G fr 0) (G fr 6) σ))))) (subC [true, true, true, true] b73) (frS 0 114 [(0, x0), (1, x1), (6, x6)]) σ k73 = c73_1 run fu x0 x1 x6 σ := by kernel_rfl

theorem ok73_1 {run : RunT} (hrun : RunOK X0 run) (fu : Nat) : ∀ fr σ, KOK X0 114 (subC [true, true, true, true] b73) fr σ ((fun fr σ => c73_1 run fu (G fr 0) (G fr 1) (G fr 6) σ) fr σ) k73 := fun fr σ =>
  KOK.piece env0 hrun [0, 1, 6] (eq73_1 run fu (G fr 0) (G fr 1) (G fr 6) σ) ⟨trivial, ⟨trivial, ⟨(ok73_6 hrun fu), (ok73_2 hrun fu)⟩⟩⟩

noncomputable def c73 (run : RunT) (fu : Nat) (x0 x1 : AV) (σ : Store) : Tr R :=
  newK σ 357 [.nilp, .nilp, .nilm, (.int .i64 0), .nils, (.int .i64 0), (.bool false), (.str []), (.int .i64 0), .nils, .nils, .nils, (.int .i64 0), (.int .i64 0), (.int .i64 0), (.int .i64 0), (.int .i64 0), (.int .i64 0), (.int .i64 0), (.int .i64 0), (.int .i64 0), (.int .i64 0), (.int .i64 0), (.int .i64 0), (.int .i64 0), (.int .i64 0), (.int .i64 0), (.int .i64 0), (.int .i64 0), (.int .i64 0), (.int .i64 0), (.int .i64 0), (.int .i64 0), (.int .i64 0), (.int .i64 0), (.int .i64 0), (.int .i64 0), (.int .i64 0), (.int .i64 0), (.int .i64 0), (.int .i64 0), (.int .i64 0), (.int .i64 0), (.int .i64 0), (.int .i64 0), (.int .i64 0), (.int .i64 0), (.int .i64 0), (.int .i64 0), (.int .i64 0), (.int .i64 0), (.int .i64 0), (.int .i64 0), (.int .i64 0), (.int .i64 0), (.int .i64 0), (.int .i64 0), (.int .i64 0), (.int .i64 0), (.int .i64 0), (.int .i64 0), (.int .i64 0), (.int .i64 0), (.int .i64 0), (.int .i64 0), (.int .i64 0), (.int .i64 0), (.int .i64 0), (.int .i64 0), (.int .i64 0), (.int .i64 0), (.int .i64 0), (.int .i64 0), (.int .i64 0), (.int .i64 0), (.int .i64 0), (.int .i64 0), (.int .i64 0), (.int .i64 0), (.int .i64 0), (.int .i64 0), (.int .i64 0), (.int .i64 0), (.int .i64 0), (.int .i64 0), (.int .i64 0), (.int .i64 0), (.int .i64 0), (.int .i64 0), (.int .i64 0), (.int .i64 0), (.int .i64 0), (.bool false)] fun x6 σ1 =>
  addrK x6 0 fun x16 =>
  st1K σ1 x16 x0 fun _ σ2 =>
  calK run 86 [x1, (.str [0])] σ2 fun x18 σ3 =>
  ifK x18 (
  .fail) (
  c73_1 run fu x0 x1 x6 σ3)

theorem eq73 (run : RunT) (fu : Nat) (x0 x1 : AV) (σ : Store) : codeK X0 run (.seq .leaf (.seq .leaf (.seq .leaf (.seq (.seq .leaf (.cond (.sub deadK) .leaf)) (.sub (fun fr σ => c73_1 run fu (G fr 0) (G fr 1) (G fr 6) σ)))))) (subC [] b73) ([x0, x1] ++ padA (114 - 2)) σ k73 = c73 run fu x0 x1 σ := by kernel_rfl

theorem ok73 {run : RunT} (hrun : RunOK X0 run) (fu : Nat) (x0 x1 : AV) (σ : Store) : CallOK X0 73 [x0, x1] σ (c73 run fu x0 x1 σ) :=
  KOK.body (fn := Tryz.f73) (c := subC [] b73) (by kernel_rfl) (by kernel_rfl) (by show 2 ≤ 114; decide) (KOK.whole env0 hrun (eq73 run fu x0 x1 σ) ⟨trivial, ⟨trivial, ⟨trivial, ⟨⟨trivial, ⟨KOK.dead, trivial⟩⟩, (ok73_1 hrun fu)⟩⟩⟩⟩)

-- (*strings.Builder).WriteByte

noncomputable def b85 : Code := match Tryz.f85.body with | some c => c | none => .skip

noncomputable def k85 : Kont R := retK Tryz.prog [.tmp 4]

noncomputable def c85 (run : RunT) (fu : Nat) (x0 x1 : AV) (σ : Store) : Tr R :=
  calK run 53 [x0] σ fun x6 σ1 =>
  nchkK x0 fun x9 =>
  addrK x9 1 fun x10 =>
  ld1K σ1 x10 fun x11 =>
  opt (fillK [(.int .u8 0)] [(0, 1, x1)]) fun cs => newSK σ1 11 cs 1 1 fun x13 σ2 =>
  appK 5 1 1 σ2 x11 x13 fun x14 σ3 =>
  nchkK x0 fun x15 =>
  addrK x15 1 fun x16 =>
  st1K σ3 x16 x14 fun _ σ4 =>
  .ret (.nili, σ4)

theorem eq85 (run : RunT) (fu : Nat) (x0 x1 : AV) (σ : Store) : codeK X0 run (.seq .leaf (.seq .leaf (.seq .leaf (.seq .leaf .leaf)))) (subC [] b85) ([x0, x1] ++ padA (17 - 2)) σ k85 = c85 run fu x0 x1 σ := by kernel_rfl

theorem ok85 {run : RunT} (hrun : RunOK X0 run) (fu : Nat) (x0 x1 : AV) (σ : Store) : CallOK X0 85 [x0, x1] σ (c85 run fu x0 x1 σ) :=
  KOK.body (fn := Tryz.f85) (c := subC [] b85) (by kernel_rfl) (by kernel_rfl) (by show 2 ≤ 17; decide) (KOK.whole env0 hrun (eq85 run fu x0 x1 σ) ⟨trivial, ⟨trivial, ⟨trivial, ⟨trivial, trivial⟩⟩⟩⟩)

-- (*pub-paratext/pub/rscmarkdown.parseState).addBlock

noncomputable def b88 : Code := match Tryz.f88.body with | some c => c | none => .skip

noncomputable def k88 : Kont R := retK Tryz.prog []

noncomputable def c88 (run : RunT) (fu : Nat) (x0 x1 : AV) (σ : Store) : Tr R :=
  nchkK x0 fun x7 =>
  addrK x7 5 fun x8 =>
  ld1K σ x8 fun x9 =>
  addK x9 (.int .i64 1) fun x10 =>
  calK run 91 [x0, x10] σ fun x11 σ1 =>
  nchkK x0 fun x14 =>
  addrK x14 4 fun x15 =>
  ld1K σ1 x15 fun x16 =>
  bldK [.nili, .nils, (.int .i64 0), (.int .i64 0)] [] fun x17 =>
  opt (fillK [.nili, .nils, (.int .i64 0), (.int .i64 0)] [(0, 4, x17)]) fun cs => newSK σ1 479 cs 1 4 fun x18 σ2 =>
  appK 239 4 56 σ2 x16 x18 fun x19 σ3 =>
  nchkK x0 fun x20 =>
  addrK x20 4 fun x21 =>
  st1K σ3 x21 x19 fun _ σ4 =>
  nchkK x0 fun x23 =>
  addrK x23 4 fun x24 =>
  ld1K σ4 x24 fun x25 =>
  nchkK x0 fun x27 =>
  addrK x27 4 fun x28 =>
  ld1K σ4 x28 fun x29 =>
  lenLK x29 fun x30 =>
  subK x30 (.int .i64 1) fun x31 =>
  idxK 4 x25 x31 fun x32 =>
  nchkK x32 fun x35 =>
  addrK x35 0 fun x36 =>
  st1K σ4 x36 x1 fun _ σ5 =>
  nchkK x0 fun x39 =>
  addrK x39 3 fun x40 =>
  ld1K σ5 x40 fun x41 =>
  nchkK x32 fun x42 =>
  addrK x42 2 fun x43 =>
  addrK x43 0 fun x44 =>
  st1K σ5 x44 x41 fun _ σ6 =>
  nchkK x0 fun x47 =>
  addrK x47 3 fun x48 =>
  ld1K σ6 x48 fun x49 =>
  nchkK x32 fun x50 =>
  addrK x50 2 fun x51 =>
  addrK x51 1 fun x52 =>
  st1K σ6 x52 x49 fun _ σ7 =>
  .ret (.tup [], σ7)

theorem eq88 (run : RunT) (fu : Nat) (x0 x1 : AV) (σ : Store) : codeK X0 run (.seq .leaf (.seq .leaf (.seq .leaf (.seq .leaf (.seq .leaf .leaf))))) (subC [] b88) ([x0, x1] ++ padA (53 - 2)) σ k88 = c88 run fu x0 x1 σ := by kernel_rfl

theorem ok88 {run : RunT} (hrun : RunOK X0 run) (fu : Nat) (x0 x1 : AV) (σ : Store) : CallOK X0 88 [x0, x1] σ (c88 run fu x0 x1 σ) :=
  KOK.body (fn := Tryz.f88) (c := subC [] b88) (by kernel_rfl) (by kernel_rfl) (by show 2 ≤ 53; decide) (KOK.whole env0 hrun (eq88 run fu x0 x1 σ) ⟨trivial, ⟨trivial, ⟨trivial, ⟨trivial, ⟨trivial, trivial⟩⟩⟩⟩⟩)

-- (*pub-paratext/pub/rscmarkdown.parseState).addLine

noncomputable def b90 : Code := match Tryz.f90.body with | some c => c | none => .skip

noncomputable def k90 : Kont R := retK Tryz.prog []

noncomputable def c90_2 (run : RunT) (fu : Nat) (s1 : W2) (x0 x3 : AV) (σ : Store) : Tr R :=
  ldNK σ x3 5 fun x111 =>
  calK run 114 [x0, x111] σ fun x112 σ1 =>
  .ret (.tup [], σ1)

theorem eq90_2 (run : RunT) (fu : Nat) (s1 : W2) (x0 x3 : AV) (σ : Store) : codeK X0 run .leaf (subC [true, true] (lblC 0 (subC [true, false] b90))) (frS 0 113 [(0, x0), (3, x3)]) σ (scopeK (subC [true, false] b90) (lblU 0 (fun fr σ => s1 (G fr 0) (G fr 3) σ)) k90) = c90_2 run fu s1 x0 x3 σ := by kernel_rfl

theorem ok90_2 {run : RunT} (hrun : RunOK X0 run) (fu : Nat) (s1 : W2) : ∀ fr σ, KOK X0 113 (subC [true, true] (lblC 0 (subC [true, false] b90))) fr σ ((fun fr σ => c90_2 run fu s1 (G fr 0) (G fr 3) σ) fr σ) (scopeK (subC [true, false] b90) (lblU 0 (fun fr σ => s1 (G fr 0) (G fr 3) σ)) k90) := fun fr σ =>
  KOK.piece env0 hrun [0, 3] (eq90_2 run fu s1 (G fr 0) (G fr 3) σ) trivial

noncomputable def c90_3b (run : RunT) (fu : Nat) (s1 : W2) (s3 : W5) (x0 x3 x86 x87 x88 : AV) (σ : Store) : Tr R :=
  cmpK .lss x88 x87 fun x89 =>
  ifK x89 (
  .fail) (
  .fail)

noncomputable def c90_3 (run : RunT) (fu : Nat) (s1 : W2) : Nat → W5
  | 0 => fun _ _ _ _ _ _ => .fail
  | m + 1 => c90_3b run fu s1 (c90_3 run fu s1 m)

theorem eq90_3 (run : RunT) (fu : Nat) (s1 : W2) (s3 : W5) (x0 x3 x86 x87 x88 : AV) (σ : Store) : codeK X0 run (.seq .leaf (.seq (.cond (.sub deadK) (.sub deadK)) .leaf)) (subC [true, false, true, false, false] (lblC 0 (subC [true, false] b90))) (frS 0 113 [(0, x0), (3, x3), (86, x86), (87, x87), (88, x88)]) σ (thenK (fun fr σ => s3 (G fr 0) (G fr 3) (G fr 86) (G fr 87) (G fr 88) σ) (blockK 2 (thenK (fun fr σ => c90_2 run fu s1 (G fr 0) (G fr 3) σ) (scopeK (subC [true, false] b90) (lblU 0 (fun fr σ => s1 (G fr 0) (G fr 3) σ)) k90)))) = c90_3b run fu s1 s3 x0 x3 x86 x87 x88 σ := by kernel_rfl

theorem owed90_3 {run : RunT} (hrun : RunOK X0 run) (fu : Nat) (s1 : W2) (s3 : W5) : Owes X0 run 113 (.seq .leaf (.seq (.cond (.sub deadK) (.sub deadK)) .leaf)) (subC [true, false, true, false, false] (lblC 0 (subC [true, false] b90))) (thenK (fun fr σ => s3 (G fr 0) (G fr 3) (G fr 86) (G fr 87) (G fr 88) σ) (blockK 2 (thenK (fun fr σ => c90_2 run fu s1 (G fr 0) (G fr 3) σ) (scopeK (subC [true, false] b90) (lblU 0 (fun fr σ => s1 (G fr 0) (G fr 3) σ)) k90)))) :=
  ⟨trivial, ⟨⟨KOK.dead, KOK.dead⟩, trivial⟩⟩

theorem ok90_3 {run : RunT} (hrun : RunOK X0 run) (fu : Nat) (s1 : W2) : ∀ fr σ, KOK X0 113 (subC [true, false, true, false] (lblC 0 (subC [true, false] b90))) fr σ ((fun fr σ => c90_3 run fu s1 fu (G fr 0) (G fr 3) (G fr 86) (G fr 87) (G fr 88) σ) fr σ) (blockK 2 (thenK (fun fr σ => c90_2 run fu s1 (G fr 0) (G fr 3) σ) (scopeK (subC [true, false] b90) (lblU 0 (fun fr σ => s1 (G fr 0) (G fr 3) σ)) k90))) := by
  have h := KOK.loop (X := X0) (N := 113) (b := (subC [true, false, true, false, false] (lblC 0 (subC [true, false] b90)))) (k := (blockK 2 (thenK (fun fr σ => c90_2 run fu s1 (G fr 0) (G fr 3) σ) (scopeK (subC [true, false] b90) (lblU 0 (fun fr σ => s1 (G fr 0) (G fr 3) σ)) k90)))) (u := fun m fr σ => c90_3 run fu s1 m (G fr 0) (G fr 3) (G fr 86) (G fr 87) (G fr 88) σ) (fun _ _ => rfl) (fun m fr σ => KOK.piece env0 hrun [0, 3, 86, 87, 88] (eq90_3 run fu s1 (c90_3 run fu s1 m) (G fr 0) (G fr 3) (G fr 86) (G fr 87) (G fr 88) σ) (owed90_3 hrun fu s1 (c90_3 run fu s1 m)))
  exact fun fr σ => h fu fr σ

noncomputable def c90_1Lb (run : RunT) (fu : Nat) (s1 : W2) (x0 x3 : AV) (σ : Store) : Tr R :=
  calK run 113 [] σ fun x86 σ1 =>
  lenLK x86 fun x87 =>
  c90_3 run fu s1 fu x0 x3 x86 x87 (.int .i64 0) σ1

noncomputable def c90_1L (run : RunT) (fu : Nat) : Nat → W2
  | 0 => fun _ _ _ => .fail
  | m + 1 => c90_1Lb run fu (c90_1L run fu m)

theorem eq90_1L (run : RunT) (fu : Nat) (s1 : W2) (x0 x3 : AV) (σ : Store) : codeK X0 run (.seq .leaf (.seq (.seq .leaf (.block (.sub (fun fr σ => c90_3 run fu s1 fu (G fr 0) (G fr 3) (G fr 86) (G fr 87) (G fr 88) σ)))) (.sub (fun fr σ => c90_2 run fu s1 (G fr 0) (G fr 3) σ)))) (subC [] (lblC 0 (subC [true, false] b90))) (frS 0 113 [(0, x0), (3, x3)]) σ (scopeK (subC [true, false] b90) (lblU 0 (fun fr σ => s1 (G fr 0) (G fr 3) σ)) k90) = c90_1Lb run fu s1 x0 x3 σ := by kernel_rfl

theorem owed90_1L {run : RunT} (hrun : RunOK X0 run) (fu : Nat) (s1 : W2) : Owes X0 run 113 (.seq .leaf (.seq (.seq .leaf (.block (.sub (fun fr σ => c90_3 run fu s1 fu (G fr 0) (G fr 3) (G fr 86) (G fr 87) (G fr 88) σ)))) (.sub (fun fr σ => c90_2 run fu s1 (G fr 0) (G fr 3) σ)))) (subC [] (lblC 0 (subC [true, false] b90))) (scopeK (subC [true, false] b90) (lblU 0 (fun fr σ => s1 (G fr 0) (G fr 3) σ)) k90) :=
  ⟨trivial, ⟨⟨trivial, (ok90_3 hrun fu s1)⟩, (ok90_2 hrun fu s1)⟩⟩

noncomputable def c90_5 (run : RunT) (fu : Nat) (x0 x3 : AV) (σ : Store) : Tr R :=
  ldNK σ x3 5 fun x111 =>
  calK run 114 [x0, x111] σ fun x112 σ1 =>
  .ret (.tup [], σ1)

theorem eq90_5 (run : RunT) (fu : Nat) (x0 x3 : AV) (σ : Store) : codeK X0 run .leaf (subC [true, false, true, true, true, true, true] b90) (frS 0 113 [(0, x0), (3, x3)]) σ (scopeK (subC [true, false] b90) (lblU 0 (fun fr σ => c90_1L run fu fu (G fr 0) (G fr 3) σ)) k90) = c90_5 run fu x0 x3 σ := by kernel_rfl

theorem ok90_5 {run : RunT} (hrun : RunOK X0 run) (fu : Nat) : ∀ fr σ, KOK X0 113 (subC [true, false, true, true, true, true, true] b90) fr σ ((fun fr σ => c90_5 run fu (G fr 0) (G fr 3) σ) fr σ) (scopeK (subC [true, false] b90) (lblU 0 (fun fr σ => c90_1L run fu fu (G fr 0) (G fr 3) σ)) k90) := fun fr σ =>
  KOK.piece env0 hrun [0, 3] (eq90_5 run fu (G fr 0) (G fr 3) σ) trivial

noncomputable def c90_6b (run : RunT) (fu : Nat) (s6 : W5) (x0 x3 x86 x87 x88 : AV) (σ : Store) : Tr R :=
  cmpK .lss x88 x87 fun x89 =>
  ifK x89 (
  idxK 1 x86 x88 fun x90 =>
  ld1K σ x90 fun x91 =>
  ldNK σ x3 5 fun x95 =>
  dynK X0 run x91 [x0, x95] σ fun x96 σ1 =>
  extK x96 0 fun x97 =>
  extK x96 1 fun x98 =>
  newK σ1 375 [(.int .i64 0), (.int .i64 0), (.int .i64 0), (.str []), (.int .u8 0)] fun x8 σ2 =>
  stNK σ2 x8 5 x97 fun _ σ3 =>
  ifK x98 (
  .fail) (
  addK x88 (.int .i64 1) fun x109 =>
  s6 x0 x3 x86 x87 x109 σ3)) (
  c90_5 run fu x0 x3 σ)

noncomputable def c90_6 (run : RunT) (fu : Nat) : Nat → W5
  | 0 => fun _ _ _ _ _ _ => .fail
  | m + 1 => c90_6b run fu (c90_6 run fu m)

theorem eq90_6 (run : RunT) (fu : Nat) (s6 : W5) (x0 x3 x86 x87 x88 : AV) (σ : Store) : codeK X0 run (.seq .leaf (.seq (.cond .leaf .leaf) (.seq (.block (.seq .leaf (.seq .leaf (.seq .leaf (.cond (.sub deadK) .leaf))))) .leaf))) (subC [true, false, true, true, true, true, false, true, false, false] b90) (frS 0 113 [(0, x0), (3, x3), (86, x86), (87, x87), (88, x88)]) σ (thenK (fun fr σ => s6 (G fr 0) (G fr 3) (G fr 86) (G fr 87) (G fr 88) σ) (blockK 2 (thenK (fun fr σ => c90_5 run fu (G fr 0) (G fr 3) σ) (scopeK (subC [true, false] b90) (lblU 0 (fun fr σ => c90_1L run fu fu (G fr 0) (G fr 3) σ)) k90)))) = c90_6b run fu s6 x0 x3 x86 x87 x88 σ := by kernel_rfl

theorem owed90_6 {run : RunT} (hrun : RunOK X0 run) (fu : Nat) (s6 : W5) : Owes X0 run 113 (.seq .leaf (.seq (.cond .leaf .leaf) (.seq (.block (.seq .leaf (.seq .leaf (.seq .leaf (.cond (.sub deadK) .leaf))))) .leaf))) (subC [true, false, true, true, true, true, false, true, false, false] b90) (thenK (fun fr σ => s6 (G fr 0) (G fr 3) (G fr 86) (G fr 87) (G fr 88) σ) (blockK 2 (thenK (fun fr σ => c90_5 run fu (G fr 0) (G fr 3) σ) (scopeK (subC [true, false] b90) (lblU 0 (fun fr σ => c90_1L run fu fu (G fr 0) (G fr 3) σ)) k90)))) :=
  ⟨trivial, ⟨⟨trivial, trivial⟩, ⟨⟨trivial, ⟨trivial, ⟨trivial, ⟨KOK.dead, trivial⟩⟩⟩⟩, trivial⟩⟩⟩

theorem ok90_6 {run : RunT} (hrun : RunOK X0 run) (fu : Nat) : ∀ fr σ, KOK X0 113 (subC [true, false, true, true, true, true, false, true, false] b90) fr σ ((fun fr σ => c90_6 run fu fu (G fr 0) (G fr 3) (G fr 86) (G fr 87) (G fr 88) σ) fr σ) (blockK 2 (thenK (fun fr σ => c90_5 run fu (G fr 0) (G fr 3) σ) (scopeK (subC [true, false] b90) (lblU 0 (fun fr σ => c90_1L run fu fu (G fr 0) (G fr 3) σ)) k90))) := by
  have h := KOK.loop (X := X0) (N := 113) (b := (subC [true, false, true, true, true, true, false, true, false, false] b90)) (k := (blockK 2 (thenK (fun fr σ => c90_5 run fu (G fr 0) (G fr 3) σ) (scopeK (subC [true, false] b90) (lblU 0 (fun fr σ => c90_1L run fu fu (G fr 0) (G fr 3) σ)) k90)))) (u := fun m fr σ => c90_6 run fu m (G fr 0) (G fr 3) (G fr 86) (G fr 87) (G fr 88) σ) (fun _ _ => rfl) (fun m fr σ => KOK.piece env0 hrun [0, 3, 86, 87, 88] (eq90_6 run fu (c90_6 run fu m) (G fr 0) (G fr 3) (G fr 86) (G fr 87) (G fr 88) σ) (owed90_6 hrun fu (c90_6 run fu m)))
  exact fun fr σ => h fu fr σ

noncomputable def c90_4 (run : RunT) (fu : Nat) (x0 x3 : AV) (σ : Store) : Tr R :=
  calK run 112 [x3] σ fun x78 σ1 =>
  ifK x78 (
  nchkK x0 fun x81 =>
  addrK x81 5 fun x82 =>
  ld1K σ1 x82 fun x83 =>
  addK x83 (.int .i64 1) fun x84 =>
  calK run 91 [x0, x84] σ1 fun x85 σ2 =>
  .ret (.tup [], σ2)) (
  calK run 113 [] σ1 fun x86 σ3 =>
  lenLK x86 fun x87 =>
  c90_6 run fu fu x0 x3 x86 x87 (.int .i64 0) σ3)

theorem eq90_4 (run : RunT) (fu : Nat) (x0 x3 : AV) (σ : Store) : codeK X0 run (.seq (.seq .leaf (.cond (.seq .leaf .leaf) .leaf)) (.seq .leaf (.seq (.seq .leaf (.block (.sub (fun fr σ => c90_6 run fu fu (G fr 0) (G fr 3) (G fr 86) (G fr 87) (G fr 88) σ)))) (.sub (fun fr σ => c90_5 run fu (G fr 0) (G fr 3) σ))))) (subC [true, false, true, true] b90) (frS 0 113 [(0, x0), (3, x3)]) σ (scopeK (subC [true, false] b90) (lblU 0 (fun fr σ => c90_1L run fu fu (G fr 0) (G fr 3) σ)) k90) = c90_4 run fu x0 x3 σ := by kernel_rfl

theorem ok90_4 {run : RunT} (hrun : RunOK X0 run) (fu : Nat) : ∀ fr σ, KOK X0 113 (subC [true, false, true, true] b90) fr σ ((fun fr σ => c90_4 run fu (G fr 0) (G fr 3) σ) fr σ) (scopeK (subC [true, false] b90) (lblU 0 (fun fr σ => c90_1L run fu fu (G fr 0) (G fr 3) σ)) k90) := fun fr σ =>
  KOK.piece env0 hrun [0, 3] (eq90_4 run fu (G fr 0) (G fr 3) σ) ⟨⟨trivial, ⟨⟨trivial, trivial⟩, trivial⟩⟩, ⟨trivial, ⟨⟨trivial, (ok90_6 hrun fu)⟩, (ok90_5 hrun fu)⟩⟩⟩

noncomputable def c90_8 (run : RunT) (fu : Nat) (s7 : W2) (x0 x3 : AV) (σ : Store) : Tr R :=
  nchkK x0 fun x25 =>
  addrK x25 5 fun x26 =>
  ld1K σ x26 fun x27 =>
  addK x27 (.int .i64 1) fun x28 =>
  nchkK x0 fun x29 =>
  addrK x29 5 fun x30 =>
  st1K σ x30 x28 fun _ σ1 =>
  s7 x0 x3 σ1

theorem eq90_8 (run : RunT) (fu : Nat) (s7 : W2) (x0 x3 : AV) (σ : Store) : codeK X0 run .leaf (subC [true, false, true, false, false, false, true, true] b90) (frS 0 113 [(0, x0), (3, x3)]) σ (thenK (fun fr σ => s7 (G fr 0) (G fr 3) σ) (blockK 0 (thenK (fun fr σ => c90_4 run fu (G fr 0) (G fr 3) σ) (scopeK (subC [true, false] b90) (lblU 0 (fun fr σ => c90_1L run fu fu (G fr 0) (G fr 3) σ)) k90)))) = c90_8 run fu s7 x0 x3 σ := by kernel_rfl

theorem ok90_8 {run : RunT} (hrun : RunOK X0 run) (fu : Nat) (s7 : W2) : ∀ fr σ, KOK X0 113 (subC [true, false, true, false, false, false, true, true] b90) fr σ ((fun fr σ => c90_8 run fu s7 (G fr 0) (G fr 3) σ) fr σ) (thenK (fun fr σ => s7 (G fr 0) (G fr 3) σ) (blockK 0 (thenK (fun fr σ => c90_4 run fu (G fr 0) (G fr 3) σ) (scopeK (subC [true, false] b90) (lblU 0 (fun fr σ => c90_1L run fu fu (G fr 0) (G fr 3) σ)) k90)))) := fun fr σ =>
  KOK.piece env0 hrun [0, 3] (eq90_8 run fu s7 (G fr 0) (G fr 3) σ) trivial

noncomputable def c90_9 (run : RunT) (fu : Nat) (s7 : W2) (x0 x3 x5 : AV) (σ : Store) : Tr R :=
  notK x5 fun x77 =>
  ifK x77 (
  c90_4 run fu x0 x3 σ) (
  .fail)

theorem eq90_9 (run : RunT) (fu : Nat) (s7 : W2) (x0 x3 x5 : AV) (σ : Store) : codeK X0 run (.seq .leaf (.cond .leaf (.sub deadK))) (subC [true, false, true, false, false, false, true, false, false, true, true, true, true] b90) (frS 0 113 [(0, x0), (3, x3), (5, x5)]) σ (blockK 1 (thenK (fun fr σ => c90_8 run fu s7 (G fr 0) (G fr 3) σ) (thenK (fun fr σ => s7 (G fr 0) (G fr 3) σ) (blockK 0 (thenK (fun fr σ => c90_4 run fu (G fr 0) (G fr 3) σ) (scopeK (subC [true, false] b90) (lblU 0 (fun fr σ => c90_1L run fu fu (G fr 0) (G fr 3) σ)) k90)))))) = c90_9 run fu s7 x0 x3 x5 σ := by kernel_rfl

theorem ok90_9 {run : RunT} (hrun : RunOK X0 run) (fu : Nat) (s7 : W2) : ∀ fr σ, KOK X0 113 (subC [true, false, true, false, false, false, true, false, false, true, true, true, true] b90) fr σ ((fun fr σ => c90_9 run fu s7 (G fr 0) (G fr 3) (G fr 5) σ) fr σ) (blockK 1 (thenK (fun fr σ => c90_8 run fu s7 (G fr 0) (G fr 3) σ) (thenK (fun fr σ => s7 (G fr 0) (G fr 3) σ) (blockK 0 (thenK (fun fr σ => c90_4 run fu (G fr 0) (G fr 3) σ) (scopeK (subC [true, false] b90) (lblU 0 (fun fr σ => c90_1L run fu fu (G fr 0) (G fr 3) σ)) k90)))))) := fun fr σ =>
  KOK.piece env0 hrun [0, 3, 5] (eq90_9 run fu s7 (G fr 0) (G fr 3) (G fr 5) σ) ⟨trivial, ⟨trivial, KOK.dead⟩⟩

noncomputable def c90_7b (run : RunT) (fu : Nat) (s7 : W2) (x0 x3 : AV) (σ : Store) : Tr R :=
  nchkK x0 fun x14 =>
  addrK x14 5 fun x15 =>
  ld1K σ x15 fun x16 =>
  addK x16 (.int .i64 1) fun x17 =>
  nchkK x0 fun x19 =>
  addrK x19 4 fun x20 =>
  ld1K σ x20 fun x21 =>
  lenLK x21 fun x22 =>
  cmpK .lss x17 x22 fun x23 =>
  ifK x23 (
  ldNK σ x3 5 fun x31 =>
  newK σ 375 [(.int .i64 0), (.int .i64 0), (.int .i64 0), (.str []), (.int .u8 0)] fun x4 σ1 =>
  stNK σ1 x4 5 x31 fun _ σ2 =>
  nchkK x0 fun x34 =>
  addrK x34 4 fun x35 =>
  ld1K σ2 x35 fun x36 =>
  nchkK x0 fun x38 =>
  addrK x38 5 fun x39 =>
  ld1K σ2 x39 fun x40 =>
  addK x40 (.int .i64 1) fun x41 =>
  idxK 4 x36 x41 fun x42 =>
  addrK x42 0 fun x43 =>
  ld1K σ2 x43 fun x44 =>
  ldNK σ2 x3 5 fun x46 =>
  invK X0 run x44 "pub-paratext/pub/rscmarkdown.extend" [x0, x46] σ2 fun x47 σ3 =>
  extK x47 0 fun x48 =>
  extK x47 1 fun x49 =>
  stNK σ3 x3 5 x48 fun _ σ4 =>
  calK run 112 [x4] σ4 fun x50 σ5 =>
  notK x50 fun x51 =>
  grdK x51 true σ5 (fun f => f x49 σ5) fun x53 σ6 =>
  grdK x51 true σ6 (fun f => f x53 σ6) fun x54 σ7 =>
  grdK x54 false σ7 (fun f => ldNK σ7 x3 5 fun v => f v σ7) fun x55 σ8 =>
  grdK x54 false σ8 (fun f => ldNK σ8 x4 5 fun v => f v σ8) fun x56 σ9 =>
  grdK x54 false σ9 (fun f => neOK (eqStT Tryz.prog 187) x55 x56 fun v => f v σ9) fun x57 σ10 =>
  grdK x51 true σ10 (fun f => pickK x54 (.bool true) x57 fun v => f v σ10) fun x58 σ11 =>
  pickK x51 x58 (.bool false) fun x59 =>
  ifK x59 (
  .fail) (
  c90_9 run fu s7 x0 x3 x49 σ11)) (
  c90_4 run fu x0 x3 σ)

noncomputable def c90_7 (run : RunT) (fu : Nat) : Nat → W2
  | 0 => fun _ _ _ => .fail
  | m + 1 => c90_7b run fu (c90_7 run fu m)

theorem eq90_7 (run : RunT) (fu : Nat) (s7 : W2) (x0 x3 : AV) (σ : Store) : codeK X0 run (.seq (.seq .leaf (.cond .leaf .leaf)) (.seq (.block (.seq .leaf (.seq .leaf (.seq .leaf (.seq (.seq .leaf (.cond (.sub deadK) .leaf)) (.sub (fun fr σ => c90_9 run fu s7 (G fr 0) (G fr 3) (G fr 5) σ))))))) (.sub (fun fr σ => c90_8 run fu s7 (G fr 0) (G fr 3) σ)))) (subC [true, false, true, false, false, false] b90) (frS 0 113 [(0, x0), (3, x3)]) σ (thenK (fun fr σ => s7 (G fr 0) (G fr 3) σ) (blockK 0 (thenK (fun fr σ => c90_4 run fu (G fr 0) (G fr 3) σ) (scopeK (subC [true, false] b90) (lblU 0 (fun fr σ => c90_1L run fu fu (G fr 0) (G fr 3) σ)) k90)))) = c90_7b run fu s7 x0 x3 σ := by kernel_rfl

theorem owed90_7 {run : RunT} (hrun : RunOK X0 run) (fu : Nat) (s7 : W2) : Owes X0 run 113 (.seq (.seq .leaf (.cond .leaf .leaf)) (.seq (.block (.seq .leaf (.seq .leaf (.seq .leaf (.seq (.seq .leaf (.cond (.sub deadK) .leaf)) (.sub (fun fr σ => c90_9 run fu s7 (G fr 0) (G fr 3) (G fr 5) σ))))))) (.sub (fun fr σ => c90_8 run fu s7 (G fr 0) (G fr 3) σ)))) (subC [true, false, true, false, false, false] b90) (thenK (fun fr σ => s7 (G fr 0) (G fr 3) σ) (blockK 0 (thenK (fun fr σ => c90_4 run fu (G fr 0) (G fr 3) σ) (scopeK (subC [true, false] b90) (lblU 0 (fun fr σ => c90_1L run fu fu (G fr 0) (G fr 3) σ)) k90)))) :=
  ⟨⟨trivial, ⟨trivial, trivial⟩⟩, ⟨⟨trivial, ⟨trivial, ⟨trivial, ⟨⟨trivial, ⟨KOK.dead, trivial⟩⟩, (ok90_9 hrun fu s7)⟩⟩⟩⟩, (ok90_8 hrun fu s7)⟩⟩

theorem ok90_7 {run : RunT} (hrun : RunOK X0 run) (fu : Nat) : ∀ fr σ, KOK X0 113 (subC [true, false, true, false, false] b90) fr σ ((fun fr σ => c90_7 run fu fu (G fr 0) (G fr 3) σ) fr σ) (blockK 0 (thenK (fun fr σ => c90_4 run fu (G fr 0) (G fr 3) σ) (scopeK (subC [true, false] b90) (lblU 0 (fun fr σ => c90_1L run fu fu (G fr 0) (G fr 3) σ)) k90))) := by
  have h := KOK.loop (X := X0) (N := 113) (b := (subC [true, false, true, false, false, false] b90)) (k := (blockK 0 (thenK (fun fr σ => c90_4 run fu (G fr 0) (G fr 3) σ) (scopeK (subC [true, false] b90) (lblU 0 (fun fr σ => c90_1L run fu fu (G fr 0) (G fr 3) σ)) k90)))) (u := fun m fr σ => c90_7 run fu m (G fr 0) (G fr 3) σ) (fun _ _ => rfl) (fun m fr σ => KOK.piece env0 hrun [0, 3] (eq90_7 run fu (c90_7 run fu m) (G fr 0) (G fr 3) σ) (owed90_7 hrun fu (c90_7 run fu m)))
  exact fun fr σ => h fu fr σ

noncomputable def c90_1 (run : RunT) (fu : Nat) (x0 x3 : AV) (σ : Store) : Tr R :=
  nchkK x0 fun x11 =>
  addrK x11 5 fun x12 =>
  st1K σ x12 (.int .i64 0) fun _ σ1 =>
  c90_7 run fu fu x0 x3 σ1

theorem eq90_1 (run : RunT) (fu : Nat) (x0 x3 : AV) (σ : Store) : codeK X0 run (.seq .leaf (.seq (.block (.sub (fun fr σ => c90_7 run fu fu (G fr 0) (G fr 3) σ))) (.sub (fun fr σ => c90_4 run fu (G fr 0) (G fr 3) σ)))) (subC [true, false] b90) (frS 0 113 [(0, x0), (3, x3)]) σ (scopeK (subC [true, false] b90) (lblU 0 (fun fr σ => c90_1L run fu fu (G fr 0) (G fr 3) σ)) k90) = c90_1 run fu x0 x3 σ := by kernel_rfl

theorem ok90_1 {run : RunT} (hrun : RunOK X0 run) (fu : Nat) : ∀ fr σ, KOK X0 113 (subC [true] b90) fr σ ((fun fr σ => c90_1 run fu (G fr 0) (G fr 3) σ) fr σ) k90 := fun fr σ =>
  KOK.scope1 (X := X0) (N := 113) (b := (subC [true, false] b90)) (k := k90) 0 (u := fun m fr σ => c90_1L run fu m (G fr 0) (G fr 3) σ) (fun _ _ => rfl) (fun m fr σ => KOK.piece env0 hrun [0, 3] (eq90_1L run fu (c90_1L run fu m) (G fr 0) (G fr 3) σ) (owed90_1L hrun fu (c90_1L run fu m))) fu
    (KOK.piece env0 hrun [0, 3] (eq90_1 run fu (G fr 0) (G fr 3) σ) ⟨trivial, ⟨(ok90_7 hrun fu), (ok90_4 hrun fu)⟩⟩)

noncomputable def c90 (run : RunT) (fu : Nat) (x0 x1 : AV) (σ : Store) : Tr R :=
  boxK σ 375 x1 fun x3 σ1 =>
  c90_1 run fu x0 x3 σ1

theorem eq90 (run : RunT) (fu : Nat) (x0 x1 : AV) (σ : Store) : codeK X0 run (.seq .leaf (.sub (fun fr σ => c90_1 run fu (G fr 0) (G fr 3) σ))) (subC [] b90) ([x0, x1] ++ padA (113 - 2)) σ k90 = c90 run fu x0 x1 σ := by kernel_rfl

theorem ok90 {run : RunT} (hrun : RunOK X0 run) (fu : Nat) (x0 x1 : AV) (σ : Store) : CallOK X0 90 [x0, x1] σ (c90 run fu x0 x1 σ) :=
  KOK.body (fn := Tryz.f90) (c := subC [] b90) (by kernel_rfl) (by kernel_rfl) (by show 2 ≤ 113; decide) (KOK.whole env0 hrun (eq90 run fu x0 x1 σ) ⟨trivial, (ok90_1 hrun fu)⟩)

-- (*pub-paratext/pub/rscmarkdown.parseState).trimStack

noncomputable def b91 : Code := match Tryz.f91.body with | some c => c | none => .skip

noncomputable def k91 : Kont R := retK Tryz.prog []

noncomputable def c91_2b (run : RunT) (fu : Nat) (s2 : W2) (x0 x1 : AV) (σ : Store) : Tr R :=
  nchkK x0 fun x13 =>
  addrK x13 4 fun x14 =>
  ld1K σ x14 fun x15 =>
  lenLK x15 fun x16 =>
  cmpK .gtr x16 x1 fun x18 =>
  ifK x18 (
  calK run 115 [x0] σ fun x20 σ1 =>
  s2 x0 x1 σ1) (
  .ret (.tup [], σ))

noncomputable def c91_2 (run : RunT) (fu : Nat) : Nat → W2
  | 0 => fun _ _ _ => .fail
  | m + 1 => c91_2b run fu (c91_2 run fu m)

theorem eq91_2 (run : RunT) (fu : Nat) (s2 : W2) (x0 x1 : AV) (σ : Store) : codeK X0 run (.seq (.seq .leaf (.cond .leaf .leaf)) (.block .leaf)) (subC [true, false, false] b91) (frS 0 21 [(0, x0), (1, x1)]) σ (thenK (fun fr σ => s2 (G fr 0) (G fr 1) σ) (blockK 0 k91)) = c91_2b run fu s2 x0 x1 σ := by kernel_rfl

theorem owed91_2 {run : RunT} (hrun : RunOK X0 run) (fu : Nat) (s2 : W2) : Owes X0 run 21 (.seq (.seq .leaf (.cond .leaf .leaf)) (.block .leaf)) (subC [true, false, false] b91) (thenK (fun fr σ => s2 (G fr 0) (G fr 1) σ) (blockK 0 k91)) :=
  ⟨⟨trivial, ⟨trivial, trivial⟩⟩, trivial⟩

theorem ok91_2 {run : RunT} (hrun : RunOK X0 run) (fu : Nat) : ∀ fr σ, KOK X0 21 (subC [true, false] b91) fr σ ((fun fr σ => c91_2 run fu fu (G fr 0) (G fr 1) σ) fr σ) (blockK 0 k91) := by
  have h := KOK.loop (X := X0) (N := 21) (b := (subC [true, false, false] b91)) (k := (blockK 0 k91)) (u := fun m fr σ => c91_2 run fu m (G fr 0) (G fr 1) σ) (fun _ _ => rfl) (fun m fr σ => KOK.piece env0 hrun [0, 1] (eq91_2 run fu (c91_2 run fu m) (G fr 0) (G fr 1) σ) (owed91_2 hrun fu (c91_2 run fu m)))
  exact fun fr σ => h fu fr σ

noncomputable def c91_1 (run : RunT) (fu : Nat) (x0 x1 : AV) (σ : Store) : Tr R :=
  c91_2 run fu fu x0 x1 σ

theorem eq91_1 (run : RunT) (fu : Nat) (x0 x1 : AV) (σ : Store) : codeK X0 run (.block (.sub (fun fr σ => c91_2 run fu fu (G fr 0) (G fr 1) σ))) (subC [true] b91) (frS 0 21 [(0, x0), (1, x1)]) σ k91 = c91_1 run fu x0 x1 σ := by kernel_rfl

theorem ok91_1 {run : RunT} (hrun : RunOK X0 run) (fu : Nat) : ∀ fr σ, KOK X0 21 (subC [true] b91) fr σ ((fun fr σ => c91_1 run fu (G fr 0) (G fr 1) σ) fr σ) k91 := fun fr σ =>
  KOK.piece env0 hrun [0, 1] (eq91_1 run fu (G fr 0) (G fr 1) σ) (ok91_2 hrun fu)

noncomputable def c91 (run : RunT) (fu : Nat) (x0 x1 : AV) (σ : Store) : Tr R :=
  nchkK x0 fun x5 =>
  addrK x5 4 fun x6 =>
  ld1K σ x6 fun x7 =>
  lenLK x7 fun x8 =>
  cmpK .lss x8 x1 fun x10 =>
  ifK x10 (
  .fail) (
  c91_1 run fu x0 x1 σ)

theorem eq91 (run : RunT) (fu : Nat) (x0 x1 : AV) (σ : Store) : codeK X0 run (.seq (.seq .leaf (.cond (.sub deadK) .leaf)) (.sub (fun fr σ => c91_1 run fu (G fr 0) (G fr 1) σ))) (subC [] b91) ([x0, x1] ++ padA (21 - 2)) σ k91 = c91 run fu x0 x1 σ := by kernel_rfl

theorem ok91 {run : RunT} (hrun : RunOK X0 run) (fu : Nat) (x0 x1 : AV) (σ : Store) : CallOK X0 91 [x0, x1] σ (c91 run fu x0 x1 σ) :=
  KOK.body (fn := Tryz.f91) (c := subC [] b91) (by kernel_rfl) (by kernel_rfl) (by show 2 ≤ 21; decide) (KOK.whole env0 hrun (eq91 run fu x0 x1 σ) ⟨⟨trivial, ⟨KOK.dead, trivial⟩⟩, (ok91_1 hrun fu)⟩)

-- (*pub-paratext/pub/rscmarkdown.parseState).inline

noncomputable def b92 : Code := match Tryz.f92.body with | some c => c | none => .skip

noncomputable def k92 : Kont R := retK Tryz.prog [.tmp 4]

noncomputable def c92_1 (run : RunT) (fu : Nat) (x0 x1 : AV) (σ : Store) : Tr R :=
  lenSK x1 fun x297 =>
  calK run 129 [x0, x297] σ fun x298 σ1 =>
  nchkK x0 fun x302 =>
  addrK x302 9 fun x303 =>
  ld1K σ1 x303 fun x304 =>
  sliceLK Tryz.prog σ1 103 x304 none (some (.int .i64 0)) fun x305 =>
  nchkK x0 fun x307 =>
  addrK x307 9 fun x308 =>
  ld1K σ1 x308 fun x309 =>
  calK run 133 [x0, x305, x309] σ1 fun x310 σ2 =>
  nchkK x0 fun x311 =>
  addrK x311 9 fun x312 =>
  st1K σ2 x312 x310 fun _ σ3 =>
  nchkK x0 fun x316 =>
  addrK x316 9 fun x317 =>
  ld1K σ3 x317 fun x318 =>
  calK run 134 [x0, x318] σ3 fun x319 σ4 =>
  nchkK x0 fun x320 =>
  addrK x320 9 fun x321 =>
  st1K σ4 x321 x319 fun _ σ5 =>
  nchkK x0 fun x325 =>
  addrK x325 9 fun x326 =>
  ld1K σ5 x326 fun x327 =>
  calK run 135 [x0, x327] σ5 fun x328 σ6 =>
  nchkK x0 fun x329 =>
  addrK x329 9 fun x330 =>
  st1K σ6 x330 x328 fun _ σ7 =>
  nchkK x0 fun x332 =>
  addrK x332 9 fun x333 =>
  ld1K σ7 x333 fun x334 =>
  .ret (x334, σ7)

theorem eq92_1 (run : RunT) (fu : Nat) (x0 x1 : AV) (σ : Store) : codeK X0 run (.seq .leaf (.seq .leaf (.seq .leaf (.seq .leaf (.seq .leaf .leaf))))) (subC [true, true, true, true, true, true, true, true, true, true] b92) (frS 0 335 [(0, x0), (1, x1)]) σ k92 = c92_1 run fu x0 x1 σ := by kernel_rfl

theorem ok92_1 {run : RunT} (hrun : RunOK X0 run) (fu : Nat) : ∀ fr σ, KOK X0 335 (subC [true, true, true, true, true, true, true, true, true, true] b92) fr σ ((fun fr σ => c92_1 run fu (G fr 0) (G fr 1) σ) fr σ) k92 := fun fr σ =>
  KOK.piece env0 hrun [0, 1] (eq92_1 run fu (G fr 0) (G fr 1) σ) ⟨trivial, ⟨trivial, ⟨trivial, ⟨trivial, ⟨trivial, trivial⟩⟩⟩⟩⟩

noncomputable def c92_5 (run : RunT) (fu : Nat) (s2 : W6) (x0 x1 x5 x6 x7 x8 : AV) (σ : Store) : Tr R :=
  addK x8 (.int .i64 1) fun x294 =>
  s2 x0 x1 x5 x6 x7 x294 σ

theorem eq92_5 (run : RunT) (fu : Nat) (s2 : W6) (x0 x1 x5 x6 x7 x8 : AV) (σ : Store) : codeK X0 run .leaf (subC [true, true, true, true, true, true, true, true, true, false, false, false, true, false, true, true, true, true] b92) (frS 0 335 [(0, x0), (1, x1), (5, x5), (6, x6), (7, x7), (8, x8)]) σ (blockK 1 (thenK (fun fr σ => s2 (G fr 0) (G fr 1) (G fr 5) (G fr 6) (G fr 7) (G fr 8) σ) (blockK 0 (thenK (fun fr σ => c92_1 run fu (G fr 0) (G fr 1) σ) k92)))) = c92_5 run fu s2 x0 x1 x5 x6 x7 x8 σ := by kernel_rfl

theorem ok92_5 {run : RunT} (hrun : RunOK X0 run) (fu : Nat) (s2 : W6) : ∀ fr σ, KOK X0 335 (subC [true, true, true, true, true, true, true, true, true, false, false, false, true, false, true, true, true, true] b92) fr σ ((fun fr σ => c92_5 run fu s2 (G fr 0) (G fr 1) (G fr 5) (G fr 6) (G fr 7) (G fr 8) σ) fr σ) (blockK 1 (thenK (fun fr σ => s2 (G fr 0) (G fr 1) (G fr 5) (G fr 6) (G fr 7) (G fr 8) σ) (blockK 0 (thenK (fun fr σ => c92_1 run fu (G fr 0) (G fr 1) σ) k92)))) := fun fr σ =>
  KOK.piece env0 hrun [0, 1, 5, 6, 7, 8] (eq92_5 run fu s2 (G fr 0) (G fr 1) (G fr 5) (G fr 6) (G fr 7) (G fr 8) σ) trivial

noncomputable def c92_6 (run : RunT) (fu : Nat) (s2 : W6) (x0 x1 x5 x6 x7 x16 x17 x19 : AV) (σ : Store) : Tr R :=
  nchkK x0 fun x270 =>
  addrK x270 9 fun x271 =>
  ld1K σ x271 fun x272 =>
  addK x16 (.int .i64 1) fun x274 =>
  sliceLK Tryz.prog σ 103 x272 none (some x274) fun x275 =>
  nchkK x0 fun x276 =>
  addrK x276 9 fun x277 =>
  st1K σ x277 x275 fun _ σ1 =>
  calK run 130 [x0, x19] σ1 fun x280 σ2 =>
  nchkK x17 fun x283 =>
  addrK x283 0 fun x284 =>
  addrK x284 0 fun x285 =>
  ld1K σ2 x285 fun x286 =>
  idxSK x286 (.int .i64 0) fun x287 =>
  cmpK .eql x287 (.int .u8 91) fun x288 =>
  ifK x288 (
  nchkK x17 fun x290 =>
  addrK x290 1 fun x291 =>
  ld1K σ2 x291 fun x292 =>
  s2 x0 x1 x5 x292 x7 x19 σ2) (
  s2 x0 x1 x5 x6 x7 x19 σ2)

theorem eq92_6 (run : RunT) (fu : Nat) (s2 : W6) (x0 x1 x5 x6 x7 x16 x17 x19 : AV) (σ : Store) : codeK X0 run (.seq .leaf (.seq .leaf (.seq .leaf (.seq (.seq .leaf (.cond .leaf .leaf)) .leaf)))) (subC [true, true, true, true, true, true, true, true, true, false, false, false, true, false, true, true, true, false, true, false, true, true, true, true, false, true, true, false, true, true, true, true] b92) (frS 0 335 [(0, x0), (1, x1), (5, x5), (6, x6), (7, x7), (16, x16), (17, x17), (19, x19)]) σ (thenK (fun fr σ => c92_5 run fu s2 (G fr 0) (G fr 1) (G fr 5) (G fr 6) (G fr 7) (G fr 8) σ) (blockK 1 (thenK (fun fr σ => s2 (G fr 0) (G fr 1) (G fr 5) (G fr 6) (G fr 7) (G fr 8) σ) (blockK 0 (thenK (fun fr σ => c92_1 run fu (G fr 0) (G fr 1) σ) k92))))) = c92_6 run fu s2 x0 x1 x5 x6 x7 x16 x17 x19 σ := by kernel_rfl

theorem ok92_6 {run : RunT} (hrun : RunOK X0 run) (fu : Nat) (s2 : W6) : ∀ fr σ, KOK X0 335 (subC [true, true, true, true, true, true, true, true, true, false, false, false, true, false, true, true, true, false, true, false, true, true, true, true, false, true, true, false, true, true, true, true] b92) fr σ ((fun fr σ => c92_6 run fu s2 (G fr 0) (G fr 1) (G fr 5) (G fr 6) (G fr 7) (G fr 16) (G fr 17) (G fr 19) σ) fr σ) (thenK (fun fr σ => c92_5 run fu s2 (G fr 0) (G fr 1) (G fr 5) (G fr 6) (G fr 7) (G fr 8) σ) (blockK 1 (thenK (fun fr σ => s2 (G fr 0) (G fr 1) (G fr 5) (G fr 6) (G fr 7) (G fr 8) σ) (blockK 0 (thenK (fun fr σ => c92_1 run fu (G fr 0) (G fr 1) σ) k92))))) := fun fr σ =>
  KOK.piece env0 hrun [0, 1, 5, 6, 7, 16, 17, 19] (eq92_6 run fu s2 (G fr 0) (G fr 1) (G fr 5) (G fr 6) (G fr 7) (G fr 16) (G fr 17) (G fr 19) σ) ⟨trivial, ⟨trivial, ⟨trivial, ⟨⟨trivial, ⟨trivial, trivial⟩⟩, trivial⟩⟩⟩⟩

noncomputable def c92_4 (run : RunT) (fu : Nat) (s2 : W6) (x0 x1 x5 x6 x7 x8 : AV) (σ : Store) : Tr R :=
  idxSK x1 x8 fun x159 =>
  cmpK .eql x159 (.int .u8 93) fun x160 =>
  grdK x160 true σ (fun f => f x5 σ) fun x162 σ1 =>
  grdK x160 true σ1 (fun f => lenLK x162 fun v => f v σ1) fun x163 σ2 =>
  grdK x160 true σ2 (fun f => cmpK .gtr x163 (.int .i64 0) fun v => f v σ2) fun x164 σ3 =>
  pickK x160 x164 (.bool false) fun x165 =>
  ifK x165 (
  lenLK x5 fun x168 =>
  subK x168 (.int .i64 1) fun x169 =>
  idxK 1 x5 x169 fun x170 =>
  ld1K σ3 x170 fun x171 =>
  nchkK x0 fun x173 =>
  addrK x173 9 fun x174 =>
  ld1K σ3 x174 fun x175 =>
  idxK 1 x175 x171 fun x177 =>
  ld1K σ3 x177 fun x178 =>
  tasK (some .nilp) 249 false x178 fun x179 =>
  lenLK x5 fun x182 =>
  subK x182 (.int .i64 1) fun x183 =>
  sliceLK Tryz.prog σ3 26 x5 none (some x183) fun x184 =>
  nchkK x179 fun x186 =>
  addrK x186 0 fun x187 =>
  addrK x187 0 fun x188 =>
  ld1K σ3 x188 fun x189 =>
  idxSK x189 (.int .i64 0) fun x190 =>
  cmpK .eql x190 (.int .u8 33) fun x191 =>
  grdK x191 false σ3 (fun f => f x6 σ3) fun x193 σ4 =>
  grdK x191 false σ4 (fun f => f x179 σ4) fun x194 σ5 =>
  grdK x191 false σ5 (fun f => nchkK x194 fun v => f v σ5) fun x195 σ6 =>
  grdK x191 false σ6 (fun f => addrK x195 1 fun v => f v σ6) fun x196 σ7 =>
  grdK x191 false σ7 (fun f => ld1K σ7 x196 fun v => f v σ7) fun x197 σ8 =>
  grdK x191 false σ8 (fun f => cmpK .leq x193 x197 fun v => f v σ8) fun x198 σ9 =>
  pickK x191 (.bool true) x198 fun x199 =>
  ifK x199 (
  calK run 131 [x0, x1, x8, x179] σ9 fun x205 σ10 =>
  extK x205 0 fun x206 =>
  extK x205 1 fun x207 =>
  extK x205 2 fun x208 =>
  ifK x208 (
  nchkK x0 fun x212 =>
  addrK x212 6 fun x213 =>
  ld1K σ10 x213 fun x214 =>
  grdK x214 false σ10 (fun f => f x206 σ10) fun x216 σ11 =>
  grdK x214 false σ11 (fun f => nchkK x216 fun v => f v σ11) fun x217 σ12 =>
  grdK x214 false σ12 (fun f => addrK x217 4 fun v => f v σ12) fun x218 σ13 =>
  grdK x214 false σ13 (fun f => ld1K σ13 x218 fun v => f v σ13) fun x219 σ14 =>
  pickK x214 (.bool true) x219 fun x220 =>
  grdK x220 false σ14 (fun f => f x206 σ14) fun x222 σ15 =>
  grdK x220 false σ15 (fun f => nchkK x222 fun v => f v σ15) fun x223 σ16 =>
  grdK x220 false σ16 (fun f => addrK x223 1 fun v => f v σ16) fun x224 σ17 =>
  grdK x220 false σ17 (fun f => ld1K σ17 x224 fun v => f v σ17) fun x225 σ18 =>
  grdK x220 false σ18 (fun f => calK run 132 [x225] σ18 f) fun x226 σ19 =>
  pickK x220 (.bool true) x226 fun x227 =>
  nchkK x0 fun x228 =>
  addrK x228 6 fun x229 =>
  st1K σ19 x229 x227 fun _ σ20 =>
  calK run 129 [x0, x8] σ20 fun x232 σ21 =>
  nchkK x0 fun x236 =>
  addrK x236 9 fun x237 =>
  ld1K σ21 x237 fun x238 =>
  addK x171 (.int .i64 1) fun x240 =>
  sliceLK Tryz.prog σ21 103 x238 (some x240) none fun x241 =>
  calK run 133 [x0, .nils, x241] σ21 fun x242 σ22 =>
  nchkK x206 fun x243 =>
  addrK x243 0 fun x244 =>
  st1K σ22 x244 x242 fun _ σ23 =>
  nchkK x179 fun x246 =>
  addrK x246 0 fun x247 =>
  addrK x247 0 fun x248 =>
  ld1K σ23 x248 fun x249 =>
  idxSK x249 (.int .i64 0) fun x250 =>
  cmpK .eql x250 (.int .u8 33) fun x251 =>
  ifK x251 (
  nchkK x0 fun x253 =>
  addrK x253 9 fun x254 =>
  ld1K σ23 x254 fun x255 =>
  idxK 1 x255 x171 fun x259 =>
  st1K σ23 x259 (.iface 222 x206) fun _ σ24 =>
  c92_6 run fu s2 x0 x1 x184 x6 x7 x171 x179 x207 σ24) (
  nchkK x0 fun x261 =>
  addrK x261 9 fun x262 =>
  ld1K σ23 x262 fun x263 =>
  idxK 1 x263 x171 fun x267 =>
  st1K σ23 x267 (.iface 102 x206) fun _ σ25 =>
  c92_6 run fu s2 x0 x1 x184 x6 x7 x171 x179 x207 σ25)) (
  c92_5 run fu s2 x0 x1 x184 x6 x7 x8 σ10)) (
  c92_5 run fu s2 x0 x1 x184 x6 x7 x8 σ9)) (
  c92_5 run fu s2 x0 x1 x5 x6 x7 x8 σ3)

theorem eq92_4 (run : RunT) (fu : Nat) (s2 : W6) (x0 x1 x5 x6 x7 x8 : AV) (σ : Store) : codeK X0 run (.seq (.seq .leaf (.cond (.seq .leaf (.seq .leaf (.seq .leaf (.seq .leaf (.cond (.seq .leaf (.seq .leaf (.cond (.seq .leaf (.seq .leaf (.seq .leaf (.seq (.seq .leaf (.cond .leaf .leaf)) (.sub (fun fr σ => c92_6 run fu s2 (G fr 0) (G fr 1) (G fr 5) (G fr 6) (G fr 7) (G fr 16) (G fr 17) (G fr 19) σ)))))) .leaf))) .leaf))))) .leaf)) (.sub (fun fr σ => c92_5 run fu s2 (G fr 0) (G fr 1) (G fr 5) (G fr 6) (G fr 7) (G fr 8) σ))) (subC [true, true, true, true, true, true, true, true, true, false, false, false, true, false, true, true, true] b92) (frS 0 335 [(0, x0), (1, x1), (5, x5), (6, x6), (7, x7), (8, x8)]) σ (blockK 1 (thenK (fun fr σ => s2 (G fr 0) (G fr 1) (G fr 5) (G fr 6) (G fr 7) (G fr 8) σ) (blockK 0 (thenK (fun fr σ => c92_1 run fu (G fr 0) (G fr 1) σ) k92)))) = c92_4 run fu s2 x0 x1 x5 x6 x7 x8 σ := by kernel_rfl

theorem ok92_4 {run : RunT} (hrun : RunOK X0 run) (fu : Nat) (s2 : W6) : ∀ fr σ, KOK X0 335 (subC [true, true, true, true, true, true, true, true, true, false, false, false, true, false, true, true, true] b92) fr σ ((fun fr σ => c92_4 run fu s2 (G fr 0) (G fr 1) (G fr 5) (G fr 6) (G fr 7) (G fr 8) σ) fr σ) (blockK 1 (thenK (fun fr σ => s2 (G fr 0) (G fr 1) (G fr 5) (G fr 6) (G fr 7) (G fr 8) σ) (blockK 0 (thenK (fun fr σ => c92_1 run fu (G fr 0) (G fr 1) σ) k92)))) := fun fr σ =>
  KOK.piece env0 hrun [0, 1, 5, 6, 7, 8] (eq92_4 run fu s2 (G fr 0) (G fr 1) (G fr 5) (G fr 6) (G fr 7) (G fr 8) σ) ⟨⟨trivial, ⟨⟨trivial, ⟨trivial, ⟨trivial, ⟨trivial, ⟨⟨trivial, ⟨trivial, ⟨⟨trivial, ⟨trivial, ⟨trivial, ⟨⟨trivial, ⟨trivial, trivial⟩⟩, (ok92_6 hrun fu s2)⟩⟩⟩⟩, trivial⟩⟩⟩, trivial⟩⟩⟩⟩⟩, trivial⟩⟩, (ok92_5 hrun fu s2)⟩

noncomputable def c92_7 (run : RunT) (fu : Nat) (s2 : W6) (x0 x1 x5 x6 x7 x10 x12 : AV) (σ : Store) : Tr R :=
  nchkK x0 fun x145 =>
  addrK x145 9 fun x146 =>
  ld1K σ x146 fun x147 =>
  opt (fillK [.nili] [(0, 1, x10)]) fun cs => newSK σ 335 cs 1 1 fun x149 σ1 =>
  appK 167 1 16 σ1 x147 x149 fun x150 σ2 =>
  nchkK x0 fun x151 =>
  addrK x151 9 fun x152 =>
  st1K σ2 x152 x150 fun _ σ3 =>
  calK run 130 [x0, x12] σ3 fun x156 σ4 =>
  s2 x0 x1 x5 x6 x7 x12 σ4

theorem eq92_7 (run : RunT) (fu : Nat) (s2 : W6) (x0 x1 x5 x6 x7 x10 x12 : AV) (σ : Store) : codeK X0 run (.seq .leaf (.seq .leaf (.seq .leaf .leaf))) (subC [true, true, true, true, true, true, true, true, true, false, false, false, true, false, true, true, false, true, false, true, true, false, true, true] b92) (frS 0 335 [(0, x0), (1, x1), (5, x5), (6, x6), (7, x7), (10, x10), (12, x12)]) σ (thenK (fun fr σ => c92_4 run fu s2 (G fr 0) (G fr 1) (G fr 5) (G fr 6) (G fr 7) (G fr 8) σ) (blockK 1 (thenK (fun fr σ => s2 (G fr 0) (G fr 1) (G fr 5) (G fr 6) (G fr 7) (G fr 8) σ) (blockK 0 (thenK (fun fr σ => c92_1 run fu (G fr 0) (G fr 1) σ) k92))))) = c92_7 run fu s2 x0 x1 x5 x6 x7 x10 x12 σ := by kernel_rfl

theorem ok92_7 {run : RunT} (hrun : RunOK X0 run) (fu : Nat) (s2 : W6) : ∀ fr σ, KOK X0 335 (subC [true, true, true, true, true, true, true, true, true, false, false, false, true, false, true, true, false, true, false, true, true, false, true, true] b92) fr σ ((fun fr σ => c92_7 run fu s2 (G fr 0) (G fr 1) (G fr 5) (G fr 6) (G fr 7) (G fr 10) (G fr 12) σ) fr σ) (thenK (fun fr σ => c92_4 run fu s2 (G fr 0) (G fr 1) (G fr 5) (G fr 6) (G fr 7) (G fr 8) σ) (blockK 1 (thenK (fun fr σ => s2 (G fr 0) (G fr 1) (G fr 5) (G fr 6) (G fr 7) (G fr 8) σ) (blockK 0 (thenK (fun fr σ => c92_1 run fu (G fr 0) (G fr 1) σ) k92))))) := fun fr σ =>
  KOK.piece env0 hrun [0, 1, 5, 6, 7, 10, 12] (eq92_7 run fu s2 (G fr 0) (G fr 1) (G fr 5) (G fr 6) (G fr 7) (G fr 10) (G fr 12) σ) ⟨trivial, ⟨trivial, ⟨trivial, trivial⟩⟩⟩

noncomputable def c92_3 (run : RunT) (fu : Nat) (s2 : W6) (x0 x1 x5 x6 x7 x8 x9 : AV) (σ : Store) : Tr R :=
  neOK (nilEq nilF) x9 .nilf fun x114 =>
  ifK x114 (
  dynK X0 run x9 [x0, x1, x8] σ fun x120 σ1 =>
  extK x120 0 fun x121 =>
  extK x120 1 fun x122 =>
  extK x120 2 fun x123 =>
  extK x120 3 fun x124 =>
  ifK x124 (
  calK run 129 [x0, x122] σ1 fun x128 σ2 =>
  tasK (some .nilp) 249 true x121 fun x131 =>
  extK x131 0 fun x132 =>
  extK x131 1 fun x133 =>
  ifK x133 (
  nchkK x0 fun x137 =>
  addrK x137 9 fun x138 =>
  ld1K σ2 x138 fun x139 =>
  lenLK x139 fun x140 =>
  opt (fillK [(.int .i64 0)] [(0, 1, x140)]) fun cs => newSK σ2 7 cs 1 1 fun x141 σ3 =>
  appK 3 1 8 σ3 x5 x141 fun x142 σ4 =>
  c92_7 run fu s2 x0 x1 x142 x6 x7 x121 x123 σ4) (
  c92_7 run fu s2 x0 x1 x5 x6 x7 x121 x123 σ2)) (
  c92_4 run fu s2 x0 x1 x5 x6 x7 x8 σ1)) (
  c92_4 run fu s2 x0 x1 x5 x6 x7 x8 σ)

theorem eq92_3 (run : RunT) (fu : Nat) (s2 : W6) (x0 x1 x5 x6 x7 x8 x9 : AV) (σ : Store) : codeK X0 run (.seq (.seq .leaf (.cond (.seq .leaf (.seq .leaf (.cond (.seq .leaf (.seq (.seq .leaf (.seq .leaf (.cond .leaf .leaf))) (.sub (fun fr σ => c92_7 run fu s2 (G fr 0) (G fr 1) (G fr 5) (G fr 6) (G fr 7) (G fr 10) (G fr 12) σ)))) .leaf))) .leaf)) (.sub (fun fr σ => c92_4 run fu s2 (G fr 0) (G fr 1) (G fr 5) (G fr 6) (G fr 7) (G fr 8) σ))) (subC [true, true, true, true, true, true, true, true, true, false, false, false, true, false, true, true] b92) (frS 0 335 [(0, x0), (1, x1), (5, x5), (6, x6), (7, x7), (8, x8), (9, x9)]) σ (blockK 1 (thenK (fun fr σ => s2 (G fr 0) (G fr 1) (G fr 5) (G fr 6) (G fr 7) (G fr 8) σ) (blockK 0 (thenK (fun fr σ => c92_1 run fu (G fr 0) (G fr 1) σ) k92)))) = c92_3 run fu s2 x0 x1 x5 x6 x7 x8 x9 σ := by kernel_rfl

theorem ok92_3 {run : RunT} (hrun : RunOK X0 run) (fu : Nat) (s2 : W6) : ∀ fr σ, KOK X0 335 (subC [true, true, true, true, true, true, true, true, true, false, false, false, true, false, true, true] b92) fr σ ((fun fr σ => c92_3 run fu s2 (G fr 0) (G fr 1) (G fr 5) (G fr 6) (G fr 7) (G fr 8) (G fr 9) σ) fr σ) (blockK 1 (thenK (fun fr σ => s2 (G fr 0) (G fr 1) (G fr 5) (G fr 6) (G fr 7) (G fr 8) σ) (blockK 0 (thenK (fun fr σ => c92_1 run fu (G fr 0) (G fr 1) σ) k92)))) := fun fr σ =>
  KOK.piece env0 hrun [0, 1, 5, 6, 7, 8, 9] (eq92_3 run fu s2 (G fr 0) (G fr 1) (G fr 5) (G fr 6) (G fr 7) (G fr 8) (G fr 9) σ) ⟨⟨trivial, ⟨⟨trivial, ⟨trivial, ⟨⟨trivial, ⟨⟨trivial, ⟨trivial, ⟨trivial, trivial⟩⟩⟩, (ok92_7 hrun fu s2)⟩⟩, trivial⟩⟩⟩, trivial⟩⟩, (ok92_4 hrun fu s2)⟩

noncomputable def c92_8 (run : RunT) (fu : Nat) (s2 : W6) (x0 x1 x5 x6 x7 x8 : AV) (σ : Store) : Tr R :=
  nchkK x0 fun x51 =>
  addrK x51 12 fun x52 =>
  c92_3 run fu s2 x0 x1 x5 x6 x7 x8 (.fn (.func 119) [x52] []) σ

theorem eq92_8 (run : RunT) (fu : Nat) (s2 : W6) (x0 x1 x5 x6 x7 x8 : AV) (σ : Store) : codeK X0 run .leaf (subC [true, true, true, true, true, true, true, true, true, false, false, false, true, false, true, false, true, false, true, true, true, false, true] b92) (frS 0 335 [(0, x0), (1, x1), (5, x5), (6, x6), (7, x7), (8, x8)]) σ (blockK 2 (thenK (fun fr σ => c92_3 run fu s2 (G fr 0) (G fr 1) (G fr 5) (G fr 6) (G fr 7) (G fr 8) (G fr 9) σ) (blockK 1 (thenK (fun fr σ => s2 (G fr 0) (G fr 1) (G fr 5) (G fr 6) (G fr 7) (G fr 8) σ) (blockK 0 (thenK (fun fr σ => c92_1 run fu (G fr 0) (G fr 1) σ) k92)))))) = c92_8 run fu s2 x0 x1 x5 x6 x7 x8 σ := by kernel_rfl

theorem ok92_8 {run : RunT} (hrun : RunOK X0 run) (fu : Nat) (s2 : W6) : ∀ fr σ, KOK X0 335 (subC [true, true, true, true, true, true, true, true, true, false, false, false, true, false, true, false, true, false, true, true, true, false, true] b92) fr σ ((fun fr σ => c92_8 run fu s2 (G fr 0) (G fr 1) (G fr 5) (G fr 6) (G fr 7) (G fr 8) σ) fr σ) (blockK 2 (thenK (fun fr σ => c92_3 run fu s2 (G fr 0) (G fr 1) (G fr 5) (G fr 6) (G fr 7) (G fr 8) (G fr 9) σ) (blockK 1 (thenK (fun fr σ => s2 (G fr 0) (G fr 1) (G fr 5) (G fr 6) (G fr 7) (G fr 8) σ) (blockK 0 (thenK (fun fr σ => c92_1 run fu (G fr 0) (G fr 1) σ) k92)))))) := fun fr σ =>
  KOK.piece env0 hrun [0, 1, 5, 6, 7, 8] (eq92_8 run fu s2 (G fr 0) (G fr 1) (G fr 5) (G fr 6) (G fr 7) (G fr 8) σ) trivial

noncomputable def c92_10 (run : RunT) (fu : Nat) (s2 : W6) (x0 x1 x5 x6 x7 x8 x9 x39 x81 : AV) (σ : Store) : Tr R :=
  ifK x81 (
  nchkK x0 fun x85 =>
  addrK x85 0 fun x86 =>
  ld1K σ x86 fun x87 =>
  nchkK x87 fun x88 =>
  addrK x88 9 fun x89 =>
  ld1K σ x89 fun x90 =>
  ifK x90 (
  c92_3 run fu s2 x0 x1 x5 x6 x7 x8 (.fn (.func 123) [] []) σ) (
  c92_3 run fu s2 x0 x1 x5 x6 x7 x8 x9 σ)) (
  cmpK .eql x39 (.int .u8 126) fun x92 =>
  ifK x92 (
  nchkK x0 fun x94 =>
  addrK x94 0 fun x95 =>
  ld1K σ x95 fun x96 =>
  nchkK x96 fun x97 =>
  addrK x97 1 fun x98 =>
  ld1K σ x98 fun x99 =>
  ifK x99 (
  c92_3 run fu s2 x0 x1 x5 x6 x7 x8 (.fn (.func 123) [] []) σ) (
  c92_3 run fu s2 x0 x1 x5 x6 x7 x8 x9 σ)) (
  cmpK .eql x39 (.int .u8 10) fun x101 =>
  ifK x101 (
  c92_3 run fu s2 x0 x1 x5 x6 x7 x8 (.fn (.func 126) [] []) σ) (
  cmpK .eql x39 (.int .u8 38) fun x103 =>
  ifK x103 (
  c92_3 run fu s2 x0 x1 x5 x6 x7 x8 (.fn (.func 127) [] []) σ) (
  cmpK .eql x39 (.int .u8 58) fun x105 =>
  ifK x105 (
  nchkK x0 fun x107 =>
  addrK x107 0 fun x108 =>
  ld1K σ x108 fun x109 =>
  nchkK x109 fun x110 =>
  addrK x110 6 fun x111 =>
  ld1K σ x111 fun x112 =>
  ifK x112 (
  c92_3 run fu s2 x0 x1 x5 x6 x7 x8 (.fn (.func 128) [] []) σ) (
  c92_3 run fu s2 x0 x1 x5 x6 x7 x8 x9 σ)) (
  c92_3 run fu s2 x0 x1 x5 x6 x7 x8 x9 σ)))))

theorem eq92_10 (run : RunT) (fu : Nat) (s2 : W6) (x0 x1 x5 x6 x7 x8 x9 x39 x81 : AV) (σ : Store) : codeK X0 run (.cond (.seq .leaf (.cond .leaf .leaf)) (.seq .leaf (.cond (.seq .leaf (.cond .leaf .leaf)) (.seq .leaf (.cond .leaf (.seq .leaf (.cond .leaf (.seq .leaf (.cond (.seq .leaf (.cond .leaf .leaf)) .leaf))))))))) (subC [true, true, true, true, true, true, true, true, true, false, false, false, true, false, true, false, true, false, true, true, true, true, true, true, true, true, true, true, true, true, true, true, true, true, true] b92) (frS 0 335 [(0, x0), (1, x1), (5, x5), (6, x6), (7, x7), (8, x8), (9, x9), (39, x39), (81, x81)]) σ (blockK 2 (thenK (fun fr σ => c92_3 run fu s2 (G fr 0) (G fr 1) (G fr 5) (G fr 6) (G fr 7) (G fr 8) (G fr 9) σ) (blockK 1 (thenK (fun fr σ => s2 (G fr 0) (G fr 1) (G fr 5) (G fr 6) (G fr 7) (G fr 8) σ) (blockK 0 (thenK (fun fr σ => c92_1 run fu (G fr 0) (G fr 1) σ) k92)))))) = c92_10 run fu s2 x0 x1 x5 x6 x7 x8 x9 x39 x81 σ := by kernel_rfl

theorem ok92_10 {run : RunT} (hrun : RunOK X0 run) (fu : Nat) (s2 : W6) : ∀ fr σ, KOK X0 335 (subC [true, true, true, true, true, true, true, true, true, false, false, false, true, false, true, false, true, false, true, true, true, true, true, true, true, true, true, true, true, true, true, true, true, true, true] b92) fr σ ((fun fr σ => c92_10 run fu s2 (G fr 0) (G fr 1) (G fr 5) (G fr 6) (G fr 7) (G fr 8) (G fr 9) (G fr 39) (G fr 81) σ) fr σ) (blockK 2 (thenK (fun fr σ => c92_3 run fu s2 (G fr 0) (G fr 1) (G fr 5) (G fr 6) (G fr 7) (G fr 8) (G fr 9) σ) (blockK 1 (thenK (fun fr σ => s2 (G fr 0) (G fr 1) (G fr 5) (G fr 6) (G fr 7) (G fr 8) σ) (blockK 0 (thenK (fun fr σ => c92_1 run fu (G fr 0) (G fr 1) σ) k92)))))) := fun fr σ =>
  KOK.piece env0 hrun [0, 1, 5, 6, 7, 8, 9, 39, 81] (eq92_10 run fu s2 (G fr 0) (G fr 1) (G fr 5) (G fr 6) (G fr 7) (G fr 8) (G fr 9) (G fr 39) (G fr 81) σ) ⟨⟨trivial, ⟨trivial, trivial⟩⟩, ⟨trivial, ⟨⟨trivial, ⟨trivial, trivial⟩⟩, ⟨trivial, ⟨trivial, ⟨trivial, ⟨trivial, ⟨trivial, ⟨⟨trivial, ⟨trivial, trivial⟩⟩, trivial⟩⟩⟩⟩⟩⟩⟩⟩⟩

noncomputable def c92_9 (run : RunT) (fu : Nat) (s2 : W6) (x0 x1 x5 x6 x7 x8 x9 x39 x60 : AV) (σ : Store) : Tr R :=
  ifK x60 (
  c92_3 run fu s2 x0 x1 x5 x6 x7 x8 (.fn (.func 123) [] []) σ) (
  cmpK .eql x39 (.int .u8 46) fun x64 =>
  ifK x64 (
  nchkK x0 fun x66 =>
  addrK x66 0 fun x67 =>
  ld1K σ x67 fun x68 =>
  nchkK x68 fun x69 =>
  addrK x69 7 fun x70 =>
  ld1K σ x70 fun x71 =>
  ifK x71 (
  c92_3 run fu s2 x0 x1 x5 x6 x7 x8 (.fn (.func 124) [] []) σ) (
  c92_3 run fu s2 x0 x1 x5 x6 x7 x8 x9 σ)) (
  cmpK .eql x39 (.int .u8 45) fun x73 =>
  ifK x73 (
  nchkK x0 fun x75 =>
  addrK x75 0 fun x76 =>
  ld1K σ x76 fun x77 =>
  nchkK x77 fun x78 =>
  addrK x78 8 fun x79 =>
  ld1K σ x79 fun x80 =>
  ifK x80 (
  c92_3 run fu s2 x0 x1 x5 x6 x7 x8 (.fn (.func 125) [] []) σ) (
  c92_3 run fu s2 x0 x1 x5 x6 x7 x8 x9 σ)) (
  cmpK .eql x39 (.int .u8 34) fun x82 =>
  ifK x82 (
  c92_10 run fu s2 x0 x1 x5 x6 x7 x8 x9 x39 x82 σ) (
  cmpK .eql x39 (.int .u8 39) fun x83 =>
  c92_10 run fu s2 x0 x1 x5 x6 x7 x8 x9 x39 x83 σ))))

theorem eq92_9 (run : RunT) (fu : Nat) (s2 : W6) (x0 x1 x5 x6 x7 x8 x9 x39 x60 : AV) (σ : Store) : codeK X0 run (.cond .leaf (.seq .leaf (.cond (.seq .leaf (.cond .leaf .leaf)) (.seq .leaf (.cond (.seq .leaf (.cond .leaf .leaf)) (.seq (.seq .leaf (.cond .leaf .leaf)) (.sub (fun fr σ => c92_10 run fu s2 (G fr 0) (G fr 1) (G fr 5) (G fr 6) (G fr 7) (G fr 8) (G fr 9) (G fr 39) (G fr 81) σ)))))))) (subC [true, true, true, true, true, true, true, true, true, false, false, false, true, false, true, false, true, false, true, true, true, true, true, true, true, true, true, true, true] b92) (frS 0 335 [(0, x0), (1, x1), (5, x5), (6, x6), (7, x7), (8, x8), (9, x9), (39, x39), (60, x60)]) σ (blockK 2 (thenK (fun fr σ => c92_3 run fu s2 (G fr 0) (G fr 1) (G fr 5) (G fr 6) (G fr 7) (G fr 8) (G fr 9) σ) (blockK 1 (thenK (fun fr σ => s2 (G fr 0) (G fr 1) (G fr 5) (G fr 6) (G fr 7) (G fr 8) σ) (blockK 0 (thenK (fun fr σ => c92_1 run fu (G fr 0) (G fr 1) σ) k92)))))) = c92_9 run fu s2 x0 x1 x5 x6 x7 x8 x9 x39 x60 σ := by kernel_rfl

theorem ok92_9 {run : RunT} (hrun : RunOK X0 run) (fu : Nat) (s2 : W6) : ∀ fr σ, KOK X0 335 (subC [true, true, true, true, true, true, true, true, true, false, false, false, true, false, true, false, true, false, true, true, true, true, true, true, true, true, true, true, true] b92) fr σ ((fun fr σ => c92_9 run fu s2 (G fr 0) (G fr 1) (G fr 5) (G fr 6) (G fr 7) (G fr 8) (G fr 9) (G fr 39) (G fr 60) σ) fr σ) (blockK 2 (thenK (fun fr σ => c92_3 run fu s2 (G fr 0) (G fr 1) (G fr 5) (G fr 6) (G fr 7) (G fr 8) (G fr 9) σ) (blockK 1 (thenK (fun fr σ => s2 (G fr 0) (G fr 1) (G fr 5) (G fr 6) (G fr 7) (G fr 8) σ) (blockK 0 (thenK (fun fr σ => c92_1 run fu (G fr 0) (G fr 1) σ) k92)))))) := fun fr σ =>
  KOK.piece env0 hrun [0, 1, 5, 6, 7, 8, 9, 39, 60] (eq92_9 run fu s2 (G fr 0) (G fr 1) (G fr 5) (G fr 6) (G fr 7) (G fr 8) (G fr 9) (G fr 39) (G fr 60) σ) ⟨trivial, ⟨trivial, ⟨⟨trivial, ⟨trivial, trivial⟩⟩, ⟨trivial, ⟨⟨trivial, ⟨trivial, trivial⟩⟩, ⟨⟨trivial, ⟨trivial, trivial⟩⟩, (ok92_10 hrun fu s2)⟩⟩⟩⟩⟩⟩

noncomputable def c92_2b (run : RunT) (fu : Nat) (s2 : W6) (x0 x1 x5 x6 x7 x8 : AV) (σ : Store) : Tr R :=
  lenSK x1 fun x35 =>
  cmpK .lss x8 x35 fun x36 =>
  ifK x36 (
  idxSK x1 x8 fun x39 =>
  cmpK .eql x39 (.int .u8 92) fun x41 =>
  ifK x41 (
  c92_3 run fu s2 x0 x1 x5 x6 x7 x8 (.fn (.func 117) [] []) σ) (
  cmpK .eql x39 (.int .u8 96) fun x43 =>
  ifK x43 (
  notK x7 fun x45 =>
  ifK x45 (
  nchkK x0 fun x47 =>
  addrK x47 12 fun x48 =>
  calK run 118 [x48] σ fun x49 σ1 =>
  c92_8 run fu s2 x0 x1 x5 x6 (.bool true) x8 σ1) (
  c92_8 run fu s2 x0 x1 x5 x6 x7 x8 σ)) (
  cmpK .eql x39 (.int .u8 60) fun x55 =>
  ifK x55 (
  c92_3 run fu s2 x0 x1 x5 x6 x7 x8 (.fn (.func 120) [] []) σ) (
  cmpK .eql x39 (.int .u8 91) fun x57 =>
  ifK x57 (
  c92_3 run fu s2 x0 x1 x5 x6 x7 x8 (.fn (.func 121) [] []) σ) (
  cmpK .eql x39 (.int .u8 33) fun x59 =>
  ifK x59 (
  c92_3 run fu s2 x0 x1 x5 x6 x7 x8 (.fn (.func 122) [] []) σ) (
  cmpK .eql x39 (.int .u8 95) fun x61 =>
  ifK x61 (
  c92_9 run fu s2 x0 x1 x5 x6 x7 x8 .nilf x39 x61 σ) (
  cmpK .eql x39 (.int .u8 42) fun x62 =>
  c92_9 run fu s2 x0 x1 x5 x6 x7 x8 .nilf x39 x62 σ))))))) (
  c92_1 run fu x0 x1 σ)

noncomputable def c92_2 (run : RunT) (fu : Nat) : Nat → W6
  | 0 => fun _ _ _ _ _ _ _ => .fail
  | m + 1 => c92_2b run fu (c92_2 run fu m)

theorem eq92_2 (run : RunT) (fu : Nat) (s2 : W6) (x0 x1 x5 x6 x7 x8 : AV) (σ : Store) : codeK X0 run (.seq (.seq .leaf (.cond .leaf .leaf)) (.block (.seq .leaf (.seq (.seq .leaf (.block (.seq .leaf (.cond .leaf (.seq .leaf (.cond (.seq (.seq .leaf (.cond (.seq .leaf .leaf) .leaf)) (.sub (fun fr σ => c92_8 run fu s2 (G fr 0) (G fr 1) (G fr 5) (G fr 6) (G fr 7) (G fr 8) σ))) (.seq .leaf (.cond .leaf (.seq .leaf (.cond .leaf (.seq .leaf (.cond .leaf (.seq (.seq .leaf (.cond .leaf .leaf)) (.sub (fun fr σ => c92_9 run fu s2 (G fr 0) (G fr 1) (G fr 5) (G fr 6) (G fr 7) (G fr 8) (G fr 9) (G fr 39) (G fr 60) σ))))))))))))))) (.sub (fun fr σ => c92_3 run fu s2 (G fr 0) (G fr 1) (G fr 5) (G fr 6) (G fr 7) (G fr 8) (G fr 9) σ)))))) (subC [true, true, true, true, true, true, true, true, true, false, false, false] b92) (frS 0 335 [(0, x0), (1, x1), (5, x5), (6, x6), (7, x7), (8, x8)]) σ (thenK (fun fr σ => s2 (G fr 0) (G fr 1) (G fr 5) (G fr 6) (G fr 7) (G fr 8) σ) (blockK 0 (thenK (fun fr σ => c92_1 run fu (G fr 0) (G fr 1) σ) k92))) = c92_2b run fu s2 x0 x1 x5 x6 x7 x8 σ := by kernel_rfl

theorem owed92_2 {run : RunT} (hrun : RunOK X0 run) (fu : Nat) (s2 : W6) : Owes X0 run 335 (.seq (.seq .leaf (.cond .leaf .leaf)) (.block (.seq .leaf (.seq (.seq .leaf (.block (.seq .leaf (.cond .leaf (.seq .leaf (.cond (.seq (.seq .leaf (.cond (.seq .leaf .leaf) .leaf)) (.sub (fun fr σ => c92_8 run fu s2 (G fr 0) (G fr 1) (G fr 5) (G fr 6) (G fr 7) (G fr 8) σ))) (.seq .leaf (.cond .leaf (.seq .leaf (.cond .leaf (.seq .leaf (.cond .leaf (.seq (.seq .leaf (.cond .leaf .leaf)) (.sub (fun fr σ => c92_9 run fu s2 (G fr 0) (G fr 1) (G fr 5) (G fr 6) (G fr 7) (G fr 8) (G fr 9) (G fr 39) (G fr 60) σ))))))))))))))) (.sub (fun fr σ => c92_3 run fu s2 (G fr 0) (G fr 1) (G fr 5) (G fr 6) (G fr 7) (G fr 8) (G fr 9) σ)))))) (subC [true, true, true, true, true, true, true, true, true, false, false, false] b92) (thenK (fun fr σ => s2 (G fr 0) (G fr 1) (G fr 5) (G fr 6) (G fr 7) (G fr 8) σ) (blockK 0 (thenK (fun fr σ => c92_1 run fu (G fr 0) (G fr 1) σ) k92))) :=
  ⟨⟨trivial, ⟨trivial, trivial⟩⟩, ⟨trivial, ⟨⟨trivial, ⟨trivial, ⟨trivial, ⟨trivial, ⟨⟨⟨trivial, ⟨⟨trivial, trivial⟩, trivial⟩⟩, (ok92_8 hrun fu s2)⟩, ⟨trivial, ⟨trivial, ⟨trivial, ⟨trivial, ⟨trivial, ⟨trivial, ⟨⟨trivial, ⟨trivial, trivial⟩⟩, (ok92_9 hrun fu s2)⟩⟩⟩⟩⟩⟩⟩⟩⟩⟩⟩⟩, (ok92_3 hrun fu s2)⟩⟩⟩

theorem ok92_2 {run : RunT} (hrun : RunOK X0 run) (fu : Nat) : ∀ fr σ, KOK X0 335 (subC [true, true, true, true, true, true, true, true, true, false, false] b92) fr σ ((fun fr σ => c92_2 run fu fu (G fr 0) (G fr 1) (G fr 5) (G fr 6) (G fr 7) (G fr 8) σ) fr σ) (blockK 0 (thenK (fun fr σ => c92_1 run fu (G fr 0) (G fr 1) σ) k92)) := by
  have h := KOK.loop (X := X0) (N := 335) (b := (subC [true, true, true, true, true, true, true, true, true, false, false, false] b92)) (k := (blockK 0 (thenK (fun fr σ => c92_1 run fu (G fr 0) (G fr 1) σ) k92))) (u := fun m fr σ => c92_2 run fu m (G fr 0) (G fr 1) (G fr 5) (G fr 6) (G fr 7) (G fr 8) σ) (fun _ _ => rfl) (fun m fr σ => KOK.piece env0 hrun [0, 1, 5, 6, 7, 8] (eq92_2 run fu (c92_2 run fu m) (G fr 0) (G fr 1) (G fr 5) (G fr 6) (G fr 7) (G fr 8) σ) (owed92_2 hrun fu (c92_2 run fu m)))
  exact fun fr σ => h fu fr σ

noncomputable def c92_13 (run : RunT) (fu : Nat) (s2 : W6) (x0 x1 x5 x6 x7 x8 : AV) (σ : Store) : Tr R :=
  addK x8 (.int .i64 1) fun x294 =>
  s2 x0 x1 x5 x6 x7 x294 σ

theorem eq92_13 (run : RunT) (fu : Nat) (s2 : W6) (x0 x1 x5 x6 x7 x8 : AV) (σ : Store) : codeK X0 run .leaf (subC [true, true, true, true, true, true, true, true, true, false, false, false, true, false, true, true, true, true] b92) (frS 0 335 [(0, x0), (1, x1), (5, x5), (6, x6), (7, x7), (8, x8)]) σ (blockK 1 (thenK (fun fr σ => s2 (G fr 0) (G fr 1) (G fr 5) (G fr 6) (G fr 7) (G fr 8) σ) failK)) = c92_13 run fu s2 x0 x1 x5 x6 x7 x8 σ := by kernel_rfl

theorem ok92_13 {run : RunT} (hrun : RunOK X0 run) (fu : Nat) (s2 : W6) : ∀ fr σ, KOK X0 335 (subC [true, true, true, true, true, true, true, true, true, false, false, false, true, false, true, true, true, true] b92) fr σ ((fun fr σ => c92_13 run fu s2 (G fr 0) (G fr 1) (G fr 5) (G fr 6) (G fr 7) (G fr 8) σ) fr σ) (blockK 1 (thenK (fun fr σ => s2 (G fr 0) (G fr 1) (G fr 5) (G fr 6) (G fr 7) (G fr 8) σ) failK)) := fun fr σ =>
  KOK.piece env0 hrun [0, 1, 5, 6, 7, 8] (eq92_13 run fu s2 (G fr 0) (G fr 1) (G fr 5) (G fr 6) (G fr 7) (G fr 8) σ) trivial

noncomputable def c92_14 (run : RunT) (fu : Nat) (s2 : W6) (x0 x1 x5 x6 x7 x16 x17 x19 : AV) (σ : Store) : Tr R :=
  nchkK x0 fun x270 =>
  addrK x270 9 fun x271 =>
  ld1K σ x271 fun x272 =>
  addK x16 (.int .i64 1) fun x274 =>
  sliceLK Tryz.prog σ 103 x272 none (some x274) fun x275 =>
  nchkK x0 fun x276 =>
  addrK x276 9 fun x277 =>
  st1K σ x277 x275 fun _ σ1 =>
  calK run 130 [x0, x19] σ1 fun x280 σ2 =>
  nchkK x17 fun x283 =>
  addrK x283 0 fun x284 =>
  addrK x284 0 fun x285 =>
  ld1K σ2 x285 fun x286 =>
  idxSK x286 (.int .i64 0) fun x287 =>
  cmpK .eql x287 (.int .u8 91) fun x288 =>
  ifK x288 (
  nchkK x17 fun x290 =>
  addrK x290 1 fun x291 =>
  ld1K σ2 x291 fun x292 =>
  s2 x0 x1 x5 x292 x7 x19 σ2) (
  s2 x0 x1 x5 x6 x7 x19 σ2)

theorem eq92_14 (run : RunT) (fu : Nat) (s2 : W6) (x0 x1 x5 x6 x7 x16 x17 x19 : AV) (σ : Store) : codeK X0 run (.seq .leaf (.seq .leaf (.seq .leaf (.seq (.seq .leaf (.cond .leaf .leaf)) .leaf)))) (subC [true, true, true, true, true, true, true, true, true, false, false, false, true, false, true, true, true, false, true, false, true, true, true, true, false, true, true, false, true, true, true, true] b92) (frS 0 335 [(0, x0), (1, x1), (5, x5), (6, x6), (7, x7), (16, x16), (17, x17), (19, x19)]) σ (thenK (fun fr σ => c92_13 run fu s2 (G fr 0) (G fr 1) (G fr 5) (G fr 6) (G fr 7) (G fr 8) σ) (blockK 1 (thenK (fun fr σ => s2 (G fr 0) (G fr 1) (G fr 5) (G fr 6) (G fr 7) (G fr 8) σ) failK))) = c92_14 run fu s2 x0 x1 x5 x6 x7 x16 x17 x19 σ := by kernel_rfl

theorem ok92_14 {run : RunT} (hrun : RunOK X0 run) (fu : Nat) (s2 : W6) : ∀ fr σ, KOK X0 335 (subC [true, true, true, true, true, true, true, true, true, false, false, false, true, false, true, true, true, false, true, false, true, true, true, true, false, true, true, false, true, true, true, true] b92) fr σ ((fun fr σ => c92_14 run fu s2 (G fr 0) (G fr 1) (G fr 5) (G fr 6) (G fr 7) (G fr 16) (G fr 17) (G fr 19) σ) fr σ) (thenK (fun fr σ => c92_13 run fu s2 (G fr 0) (G fr 1) (G fr 5) (G fr 6) (G fr 7) (G fr 8) σ) (blockK 1 (thenK (fun fr σ => s2 (G fr 0) (G fr 1) (G fr 5) (G fr 6) (G fr 7) (G fr 8) σ) failK))) := fun fr σ =>
  KOK.piece env0 hrun [0, 1, 5, 6, 7, 16, 17, 19] (eq92_14 run fu s2 (G fr 0) (G fr 1) (G fr 5) (G fr 6) (G fr 7) (G fr 16) (G fr 17) (G fr 19) σ) ⟨trivial, ⟨trivial, ⟨trivial, ⟨⟨trivial, ⟨trivial, trivial⟩⟩, trivial⟩⟩⟩⟩

noncomputable def c92_12 (run : RunT) (fu : Nat) (s2 : W6) (x0 x1 x5 x6 x7 x8 : AV) (σ : Store) : Tr R :=
  idxSK x1 x8 fun x159 =>
  cmpK .eql x159 (.int .u8 93) fun x160 =>
  grdK x160 true σ (fun f => f x5 σ) fun x162 σ1 =>
  grdK x160 true σ1 (fun f => lenLK x162 fun v => f v σ1) fun x163 σ2 =>
  grdK x160 true σ2 (fun f => cmpK .gtr x163 (.int .i64 0) fun v => f v σ2) fun x164 σ3 =>
  pickK x160 x164 (.bool false) fun x165 =>
  ifK x165 (
  lenLK x5 fun x168 =>
  subK x168 (.int .i64 1) fun x169 =>
  idxK 1 x5 x169 fun x170 =>
  ld1K σ3 x170 fun x171 =>
  nchkK x0 fun x173 =>
  addrK x173 9 fun x174 =>
  ld1K σ3 x174 fun x175 =>
  idxK 1 x175 x171 fun x177 =>
  ld1K σ3 x177 fun x178 =>
  tasK (some .nilp) 249 false x178 fun x179 =>
  lenLK x5 fun x182 =>
  subK x182 (.int .i64 1) fun x183 =>
  sliceLK Tryz.prog σ3 26 x5 none (some x183) fun x184 =>
  nchkK x179 fun x186 =>
  addrK x186 0 fun x187 =>
  addrK x187 0 fun x188 =>
  ld1K σ3 x188 fun x189 =>
  idxSK x189 (.int .i64 0) fun x190 =>
  cmpK .eql x190 (.int .u8 33) fun x191 =>
  grdK x191 false σ3 (fun f => f x6 σ3) fun x193 σ4 =>
  grdK x191 false σ4 (fun f => f x179 σ4) fun x194 σ5 =>
  grdK x191 false σ5 (fun f => nchkK x194 fun v => f v σ5) fun x195 σ6 =>
  grdK x191 false σ6 (fun f => addrK x195 1 fun v => f v σ6) fun x196 σ7 =>
  grdK x191 false σ7 (fun f => ld1K σ7 x196 fun v => f v σ7) fun x197 σ8 =>
  grdK x191 false σ8 (fun f => cmpK .leq x193 x197 fun v => f v σ8) fun x198 σ9 =>
  pickK x191 (.bool true) x198 fun x199 =>
  ifK x199 (
  calK run 131 [x0, x1, x8, x179] σ9 fun x205 σ10 =>
  extK x205 0 fun x206 =>
  extK x205 1 fun x207 =>
  extK x205 2 fun x208 =>
  ifK x208 (
  nchkK x0 fun x212 =>
  addrK x212 6 fun x213 =>
  ld1K σ10 x213 fun x214 =>
  grdK x214 false σ10 (fun f => f x206 σ10) fun x216 σ11 =>
  grdK x214 false σ11 (fun f => nchkK x216 fun v => f v σ11) fun x217 σ12 =>
  grdK x214 false σ12 (fun f => addrK x217 4 fun v => f v σ12) fun x218 σ13 =>
  grdK x214 false σ13 (fun f => ld1K σ13 x218 fun v => f v σ13) fun x219 σ14 =>
  pickK x214 (.bool true) x219 fun x220 =>
  grdK x220 false σ14 (fun f => f x206 σ14) fun x222 σ15 =>
  grdK x220 false σ15 (fun f => nchkK x222 fun v => f v σ15) fun x223 σ16 =>
  grdK x220 false σ16 (fun f => addrK x223 1 fun v => f v σ16) fun x224 σ17 =>
  grdK x220 false σ17 (fun f => ld1K σ17 x224 fun v => f v σ17) fun x225 σ18 =>
  grdK x220 false σ18 (fun f => calK run 132 [x225] σ18 f) fun x226 σ19 =>
  pickK x220 (.bool true) x226 fun x227 =>
  nchkK x0 fun x228 =>
  addrK x228 6 fun x229 =>
  st1K σ19 x229 x227 fun _ σ20 =>
  calK run 129 [x0, x8] σ20 fun x232 σ21 =>
  nchkK x0 fun x236 =>
  addrK x236 9 fun x237 =>
  ld1K σ21 x237 fun x238 =>
  addK x171 (.int .i64 1) fun x240 =>
  sliceLK Tryz.prog σ21 103 x238 (some x240) none fun x241 =>
  calK run 133 [x0, .nils, x241] σ21 fun x242 σ22 =>
  nchkK x206 fun x243 =>
  addrK x243 0 fun x244 =>
  st1K σ22 x244 x242 fun _ σ23 =>
  nchkK x179 fun x246 =>
  addrK x246 0 fun x247 =>
  addrK x247 0 fun x248 =>
  ld1K σ23 x248 fun x249 =>
  idxSK x249 (.int .i64 0) fun x250 =>
  cmpK .eql x250 (.int .u8 33) fun x251 =>
  ifK x251 (
  nchkK x0 fun x253 =>
  addrK x253 9 fun x254 =>
  ld1K σ23 x254 fun x255 =>
  idxK 1 x255 x171 fun x259 =>
  st1K σ23 x259 (.iface 222 x206) fun _ σ24 =>
  c92_14 run fu s2 x0 x1 x184 x6 x7 x171 x179 x207 σ24) (
  nchkK x0 fun x261 =>
  addrK x261 9 fun x262 =>
  ld1K σ23 x262 fun x263 =>
  idxK 1 x263 x171 fun x267 =>
  st1K σ23 x267 (.iface 102 x206) fun _ σ25 =>
  c92_14 run fu s2 x0 x1 x184 x6 x7 x171 x179 x207 σ25)) (
  c92_13 run fu s2 x0 x1 x184 x6 x7 x8 σ10)) (
  c92_13 run fu s2 x0 x1 x184 x6 x7 x8 σ9)) (
  c92_13 run fu s2 x0 x1 x5 x6 x7 x8 σ3)

theorem eq92_12 (run : RunT) (fu : Nat) (s2 : W6) (x0 x1 x5 x6 x7 x8 : AV) (σ : Store) : codeK X0 run (.seq (.seq .leaf (.cond (.seq .leaf (.seq .leaf (.seq .leaf (.seq .leaf (.cond (.seq .leaf (.seq .leaf (.cond (.seq .leaf (.seq .leaf (.seq .leaf (.seq (.seq .leaf (.cond .leaf .leaf)) (.sub (fun fr σ => c92_14 run fu s2 (G fr 0) (G fr 1) (G fr 5) (G fr 6) (G fr 7) (G fr 16) (G fr 17) (G fr 19) σ)))))) .leaf))) .leaf))))) .leaf)) (.sub (fun fr σ => c92_13 run fu s2 (G fr 0) (G fr 1) (G fr 5) (G fr 6) (G fr 7) (G fr 8) σ))) (subC [true, true, true, true, true, true, true, true, true, false, false, false, true, false, true, true, true] b92) (frS 0 335 [(0, x0), (1, x1), (5, x5), (6, x6), (7, x7), (8, x8)]) σ (blockK 1 (thenK (fun fr σ => s2 (G fr 0) (G fr 1) (G fr 5) (G fr 6) (G fr 7) (G fr 8) σ) failK)) = c92_12 run fu s2 x0 x1 x5 x6 x7 x8 σ := by kernel_rfl

theorem ok92_12 {run : RunT} (hrun : RunOK X0 run) (fu : Nat) (s2 : W6) : ∀ fr σ, KOK X0 335 (subC [true, true, true, true, true, true, true, true, true, false, false, false, true, false, true, true, true] b92) fr σ ((fun fr σ => c92_12 run fu s2 (G fr 0) (G fr 1) (G fr 5) (G fr 6) (G fr 7) (G fr 8) σ) fr σ) (blockK 1 (thenK (fun fr σ => s2 (G fr 0) (G fr 1) (G fr 5) (G fr 6) (G fr 7) (G fr 8) σ) failK)) := fun fr σ =>
  KOK.piece env0 hrun [0, 1, 5, 6, 7, 8] (eq92_12 run fu s2 (G fr 0) (G fr 1) (G fr 5) (G fr 6) (G fr 7) (G fr 8) σ) ⟨⟨trivial, ⟨⟨trivial, ⟨trivial, ⟨trivial, ⟨trivial, ⟨⟨trivial, ⟨trivial, ⟨⟨trivial, ⟨trivial, ⟨trivial, ⟨⟨trivial, ⟨trivial, trivial⟩⟩, (ok92_14 hrun fu s2)⟩⟩⟩⟩, trivial⟩⟩⟩, trivial⟩⟩⟩⟩⟩, trivial⟩⟩, (ok92_13 hrun fu s2)⟩

noncomputable def c92_15 (run : RunT) (fu : Nat) (s2 : W6) (x0 x1 x5 x6 x7 x10 x12 : AV) (σ : Store) : Tr R :=
  nchkK x0 fun x145 =>
  addrK x145 9 fun x146 =>
  ld1K σ x146 fun x147 =>
  opt (fillK [.nili] [(0, 1, x10)]) fun cs => newSK σ 335 cs 1 1 fun x149 σ1 =>
  appK 167 1 16 σ1 x147 x149 fun x150 σ2 =>
  nchkK x0 fun x151 =>
  addrK x151 9 fun x152 =>
  st1K σ2 x152 x150 fun _ σ3 =>
  calK run 130 [x0, x12] σ3 fun x156 σ4 =>
  s2 x0 x1 x5 x6 x7 x12 σ4

theorem eq92_15 (run : RunT) (fu : Nat) (s2 : W6) (x0 x1 x5 x6 x7 x10 x12 : AV) (σ : Store) : codeK X0 run (.seq .leaf (.seq .leaf (.seq .leaf .leaf))) (subC [true, true, true, true, true, true, true, true, true, false, false, false, true, false, true, true, false, true, false, true, true, false, true, true] b92) (frS 0 335 [(0, x0), (1, x1), (5, x5), (6, x6), (7, x7), (10, x10), (12, x12)]) σ (thenK (fun fr σ => c92_12 run fu s2 (G fr 0) (G fr 1) (G fr 5) (G fr 6) (G fr 7) (G fr 8) σ) (blockK 1 (thenK (fun fr σ => s2 (G fr 0) (G fr 1) (G fr 5) (G fr 6) (G fr 7) (G fr 8) σ) failK))) = c92_15 run fu s2 x0 x1 x5 x6 x7 x10 x12 σ := by kernel_rfl

theorem ok92_15 {run : RunT} (hrun : RunOK X0 run) (fu : Nat) (s2 : W6) : ∀ fr σ, KOK X0 335 (subC [true, true, true, true, true, true, true, true, true, false, false, false, true, false, true, true, false, true, false, true, true, false, true, true] b92) fr σ ((fun fr σ => c92_15 run fu s2 (G fr 0) (G fr 1) (G fr 5) (G fr 6) (G fr 7) (G fr 10) (G fr 12) σ) fr σ) (thenK (fun fr σ => c92_12 run fu s2 (G fr 0) (G fr 1) (G fr 5) (G fr 6) (G fr 7) (G fr 8) σ) (blockK 1 (thenK (fun fr σ => s2 (G fr 0) (G fr 1) (G fr 5) (G fr 6) (G fr 7) (G fr 8) σ) failK))) := fun fr σ =>
  KOK.piece env0 hrun [0, 1, 5, 6, 7, 10, 12] (eq92_15 run fu s2 (G fr 0) (G fr 1) (G fr 5) (G fr 6) (G fr 7) (G fr 10) (G fr 12) σ) ⟨trivial, ⟨trivial, ⟨trivial, trivial⟩⟩⟩

noncomputable def c92_11 (run : RunT) (fu : Nat) (s2 : W6) (x0 x1 x5 x6 x7 x8 x9 : AV) (σ : Store) : Tr R :=
  neOK (nilEq nilF) x9 .nilf fun x114 =>
  ifK x114 (
  dynK X0 run x9 [x0, x1, x8] σ fun x120 σ1 =>
  extK x120 0 fun x121 =>
  extK x120 1 fun x122 =>
  extK x120 2 fun x123 =>
  extK x120 3 fun x124 =>
  ifK x124 (
  calK run 129 [x0, x122] σ1 fun x128 σ2 =>
  tasK (some .nilp) 249 true x121 fun x131 =>
  extK x131 0 fun x132 =>
  extK x131 1 fun x133 =>
  ifK x133 (
  nchkK x0 fun x137 =>
  addrK x137 9 fun x138 =>
  ld1K σ2 x138 fun x139 =>
  lenLK x139 fun x140 =>
  opt (fillK [(.int .i64 0)] [(0, 1, x140)]) fun cs => newSK σ2 7 cs 1 1 fun x141 σ3 =>
  appK 3 1 8 σ3 x5 x141 fun x142 σ4 =>
  c92_15 run fu s2 x0 x1 x142 x6 x7 x121 x123 σ4) (
  c92_15 run fu s2 x0 x1 x5 x6 x7 x121 x123 σ2)) (
  c92_12 run fu s2 x0 x1 x5 x6 x7 x8 σ1)) (
  c92_12 run fu s2 x0 x1 x5 x6 x7 x8 σ)

theorem eq92_11 (run : RunT) (fu : Nat) (s2 : W6) (x0 x1 x5 x6 x7 x8 x9 : AV) (σ : Store) : codeK X0 run (.seq (.seq .leaf (.cond (.seq .leaf (.seq .leaf (.cond (.seq .leaf (.seq (.seq .leaf (.seq .leaf (.cond .leaf .leaf))) (.sub (fun fr σ => c92_15 run fu s2 (G fr 0) (G fr 1) (G fr 5) (G fr 6) (G fr 7) (G fr 10) (G fr 12) σ)))) .leaf))) .leaf)) (.sub (fun fr σ => c92_12 run fu s2 (G fr 0) (G fr 1) (G fr 5) (G fr 6) (G fr 7) (G fr 8) σ))) (subC [true, true, true, true, true, true, true, true, true, false, false, false, true, false, true, true] b92) (frS 0 335 [(0, x0), (1, x1), (5, x5), (6, x6), (7, x7), (8, x8), (9, x9)]) σ (blockK 1 (thenK (fun fr σ => s2 (G fr 0) (G fr 1) (G fr 5) (G fr 6) (G fr 7) (G fr 8) σ) failK)) = c92_11 run fu s2 x0 x1 x5 x6 x7 x8 x9 σ := by kernel_rfl

theorem ok92_11 {run : RunT} (hrun : RunOK X0 run) (fu : Nat) (s2 : W6) : ∀ fr σ, KOK X0 335 (subC [true, true, true, true, true, true, true, true, true, false, false, false, true, false, true, true] b92) fr σ ((fun fr σ => c92_11 run fu s2 (G fr 0) (G fr 1) (G fr 5) (G fr 6) (G fr 7) (G fr 8) (G fr 9) σ) fr σ) (blockK 1 (thenK (fun fr σ => s2 (G fr 0) (G fr 1) (G fr 5) (G fr 6) (G fr 7) (G fr 8) σ) failK)) := fun fr σ =>
  KOK.piece env0 hrun [0, 1, 5, 6, 7, 8, 9] (eq92_11 run fu s2 (G fr 0) (G fr 1) (G fr 5) (G fr 6) (G fr 7) (G fr 8) (G fr 9) σ) ⟨⟨trivial, ⟨⟨trivial, ⟨trivial, ⟨⟨trivial, ⟨⟨trivial, ⟨trivial, ⟨trivial, trivial⟩⟩⟩, (ok92_15 hrun fu s2)⟩⟩, trivial⟩⟩⟩, trivial⟩⟩, (ok92_12 hrun fu s2)⟩

noncomputable def c92_16 (run : RunT) (fu : Nat) (s2 : W6) (x0 x1 x5 x6 x7 x8 : AV) (σ : Store) : Tr R :=
  nchkK x0 fun x51 =>
  addrK x51 12 fun x52 =>
  c92_11 run fu s2 x0 x1 x5 x6 x7 x8 (.fn (.func 119) [x52] []) σ

theorem eq92_16 (run : RunT) (fu : Nat) (s2 : W6) (x0 x1 x5 x6 x7 x8 : AV) (σ : Store) : codeK X0 run .leaf (subC [true, true, true, true, true, true, true, true, true, false, false, false, true, false, true, false, true, false, true, true, true, false, true] b92) (frS 0 335 [(0, x0), (1, x1), (5, x5), (6, x6), (7, x7), (8, x8)]) σ (blockK 2 (thenK (fun fr σ => c92_11 run fu s2 (G fr 0) (G fr 1) (G fr 5) (G fr 6) (G fr 7) (G fr 8) (G fr 9) σ) (blockK 1 (thenK (fun fr σ => s2 (G fr 0) (G fr 1) (G fr 5) (G fr 6) (G fr 7) (G fr 8) σ) failK)))) = c92_16 run fu s2 x0 x1 x5 x6 x7 x8 σ := by kernel_rfl

theorem ok92_16 {run : RunT} (hrun : RunOK X0 run) (fu : Nat) (s2 : W6) : ∀ fr σ, KOK X0 335 (subC [true, true, true, true, true, true, true, true, true, false, false, false, true, false, true, false, true, false, true, true, true, false, true] b92) fr σ ((fun fr σ => c92_16 run fu s2 (G fr 0) (G fr 1) (G fr 5) (G fr 6) (G fr 7) (G fr 8) σ) fr σ) (blockK 2 (thenK (fun fr σ => c92_11 run fu s2 (G fr 0) (G fr 1) (G fr 5) (G fr 6) (G fr 7) (G fr 8) (G fr 9) σ) (blockK 1 (thenK (fun fr σ => s2 (G fr 0) (G fr 1) (G fr 5) (G fr 6) (G fr 7) (G fr 8) σ) failK)))) := fun fr σ =>
  KOK.piece env0 hrun [0, 1, 5, 6, 7, 8] (eq92_16 run fu s2 (G fr 0) (G fr 1) (G fr 5) (G fr 6) (G fr 7) (G fr 8) σ) trivial

noncomputable def c92_18 (run : RunT) (fu : Nat) (s2 : W6) (x0 x1 x5 x6 x7 x8 x9 x39 x81 : AV) (σ : Store) : Tr R :=
  ifK x81 (
  nchkK x0 fun x85 =>
  addrK x85 0 fun x86 =>
  ld1K σ x86 fun x87 =>
  nchkK x87 fun x88 =>
  addrK x88 9 fun x89 =>
  ld1K σ x89 fun x90 =>
  ifK x90 (
  c92_11 run fu s2 x0 x1 x5 x6 x7 x8 (.fn (.func 123) [] []) σ) (
  c92_11 run fu s2 x0 x1 x5 x6 x7 x8 x9 σ)) (
  cmpK .eql x39 (.int .u8 126) fun x92 =>
  ifK x92 (
  nchkK x0 fun x94 =>
  addrK x94 0 fun x95 =>
  ld1K σ x95 fun x96 =>
  nchkK x96 fun x97 =>
  addrK x97 1 fun x98 =>
  ld1K σ x98 fun x99 =>
  ifK x99 (
  c92_11 run fu s2 x0 x1 x5 x6 x7 x8 (.fn (.func 123) [] []) σ) (
  c92_11 run fu s2 x0 x1 x5 x6 x7 x8 x9 σ)) (
  cmpK .eql x39 (.int .u8 10) fun x101 =>
  ifK x101 (
  c92_11 run fu s2 x0 x1 x5 x6 x7 x8 (.fn (.func 126) [] []) σ) (
  cmpK .eql x39 (.int .u8 38) fun x103 =>
  ifK x103 (
  c92_11 run fu s2 x0 x1 x5 x6 x7 x8 (.fn (.func 127) [] []) σ) (
  cmpK .eql x39 (.int .u8 58) fun x105 =>
  ifK x105 (
  nchkK x0 fun x107 =>
  addrK x107 0 fun x108 =>
  ld1K σ x108 fun x109 =>
  nchkK x109 fun x110 =>
  addrK x110 6 fun x111 =>
  ld1K σ x111 fun x112 =>
  ifK x112 (
  c92_11 run fu s2 x0 x1 x5 x6 x7 x8 (.fn (.func 128) [] []) σ) (
  c92_11 run fu s2 x0 x1 x5 x6 x7 x8 x9 σ)) (
  c92_11 run fu s2 x0 x1 x5 x6 x7 x8 x9 σ)))))

theorem eq92_18 (run : RunT) (fu : Nat) (s2 : W6) (x0 x1 x5 x6 x7 x8 x9 x39 x81 : AV) (σ : Store) : codeK X0 run (.cond (.seq .leaf (.cond .leaf .leaf)) (.seq .leaf (.cond (.seq .leaf (.cond .leaf .leaf)) (.seq .leaf (.cond .leaf (.seq .leaf (.cond .leaf (.seq .leaf (.cond (.seq .leaf (.cond .leaf .leaf)) .leaf))))))))) (subC [true, true, true, true, true, true, true, true, true, false, false, false, true, false, true, false, true, false, true, true, true, true, true, true, true, true, true, true, true, true, true, true, true, true, true] b92) (frS 0 335 [(0, x0), (1, x1), (5, x5), (6, x6), (7, x7), (8, x8), (9, x9), (39, x39), (81, x81)]) σ (blockK 2 (thenK (fun fr σ => c92_11 run fu s2 (G fr 0) (G fr 1) (G fr 5) (G fr 6) (G fr 7) (G fr 8) (G fr 9) σ) (blockK 1 (thenK (fun fr σ => s2 (G fr 0) (G fr 1) (G fr 5) (G fr 6) (G fr 7) (G fr 8) σ) failK)))) = c92_18 run fu s2 x0 x1 x5 x6 x7 x8 x9 x39 x81 σ := by kernel_rfl

theorem ok92_18 {run : RunT} (hrun : RunOK X0 run) (fu : Nat) (s2 : W6) : ∀ fr σ, KOK X0 335 (subC [true, true, true, true, true, true, true, true, true, false, false, false, true, false, true, false, true, false, true, true, true, true, true, true, true, true, true, true, true, true, true, true, true, true, true] b92) fr σ ((fun fr σ => c92_18 run fu s2 (G fr 0) (G fr 1) (G fr 5) (G fr 6) (G fr 7) (G fr 8) (G fr 9) (G fr 39) (G fr 81) σ) fr σ) (blockK 2 (thenK (fun fr σ => c92_11 run fu s2 (G fr 0) (G fr 1) (G fr 5) (G fr 6) (G fr 7) (G fr 8) (G fr 9) σ) (blockK 1 (thenK (fun fr σ => s2 (G fr 0) (G fr 1) (G fr 5) (G fr 6) (G fr 7) (G fr 8) σ) failK)))) := fun fr σ =>
  KOK.piece env0 hrun [0, 1, 5, 6, 7, 8, 9, 39, 81] (eq92_18 run fu s2 (G fr 0) (G fr 1) (G fr 5) (G fr 6) (G fr 7) (G fr 8) (G fr 9) (G fr 39) (G fr 81) σ) ⟨⟨trivial, ⟨trivial, trivial⟩⟩, ⟨trivial, ⟨⟨trivial, ⟨trivial, trivial⟩⟩, ⟨trivial, ⟨trivial, ⟨trivial, ⟨trivial, ⟨trivial, ⟨⟨trivial, ⟨trivial, trivial⟩⟩, trivial⟩⟩⟩⟩⟩⟩⟩⟩⟩

noncomputable def c92_17 (run : RunT) (fu : Nat) (s2 : W6) (x0 x1 x5 x6 x7 x8 x9 x39 x60 : AV) (σ : Store) : Tr R :=
  ifK x60 (
  c92_11 run fu s2 x0 x1 x5 x6 x7 x8 (.fn (.func 123) [] []) σ) (
  cmpK .eql x39 (.int .u8 46) fun x64 =>
  ifK x64 (
  nchkK x0 fun x66 =>
  addrK x66 0 fun x67 =>
  ld1K σ x67 fun x68 =>
  nchkK x68 fun x69 =>
  addrK x69 7 fun x70 =>
  ld1K σ x70 fun x71 =>
  ifK x71 (
  c92_11 run fu s2 x0 x1 x5 x6 x7 x8 (.fn (.func 124) [] []) σ) (
  c92_11 run fu s2 x0 x1 x5 x6 x7 x8 x9 σ)) (
  cmpK .eql x39 (.int .u8 45) fun x73 =>
  ifK x73 (
  nchkK x0 fun x75 =>
  addrK x75 0 fun x76 =>
  ld1K σ x76 fun x77 =>
  nchkK x77 fun x78 =>
  addrK x78 8 fun x79 =>
  ld1K σ x79 fun x80 =>
  ifK x80 (
  c92_11 run fu s2 x0 x1 x5 x6 x7 x8 (.fn (.func 125) [] []) σ) (
  c92_11 run fu s2 x0 x1 x5 x6 x7 x8 x9 σ)) (
  cmpK .eql x39 (.int .u8 34) fun x82 =>
  ifK x82 (
  c92_18 run fu s2 x0 x1 x5 x6 x7 x8 x9 x39 x82 σ) (
  cmpK .eql x39 (.int .u8 39) fun x83 =>
  c92_18 run fu s2 x0 x1 x5 x6 x7 x8 x9 x39 x83 σ))))

theorem eq92_17 (run : RunT) (fu : Nat) (s2 : W6) (x0 x1 x5 x6 x7 x8 x9 x39 x60 : AV) (σ : Store) : codeK X0 run (.cond .leaf (.seq .leaf (.cond (.seq .leaf (.cond .leaf .leaf)) (.seq .leaf (.cond (.seq .leaf (.cond .leaf .leaf)) (.seq (.seq .leaf (.cond .leaf .leaf)) (.sub (fun fr σ => c92_18 run fu s2 (G fr 0) (G fr 1) (G fr 5) (G fr 6) (G fr 7) (G fr 8) (G fr 9) (G fr 39) (G fr 81) σ)))))))) (subC [true, true, true, true, true, true, true, true, true, false, false, false, true, false, true, false, true, false, true, true, true, true, true, true, true, true, true, true, true] b92) (frS 0 335 [(0, x0), (1, x1), (5, x5), (6, x6), (7, x7), (8, x8), (9, x9), (39, x39), (60, x60)]) σ (blockK 2 (thenK (fun fr σ => c92_11 run fu s2 (G fr 0) (G fr 1) (G fr 5) (G fr 6) (G fr 7) (G fr 8) (G fr 9) σ) (blockK 1 (thenK (fun fr σ => s2 (G fr 0) (G fr 1) (G fr 5) (G fr 6) (G fr 7) (G fr 8) σ) failK)))) = c92_17 run fu s2 x0 x1 x5 x6 x7 x8 x9 x39 x60 σ := by kernel_rfl

theorem ok92_17 {run : RunT} (hrun : RunOK X0 run) (fu : Nat) (s2 : W6) : ∀ fr σ, KOK X0 335 (subC [true, true, true, true, true, true, true, true, true, false, false, false, true, false, true, false, true, false, true, true, true, true, true, true, true, true, true, true, true] b92) fr σ ((fun fr σ => c92_17 run fu s2 (G fr 0) (G fr 1) (G fr 5) (G fr 6) (G fr 7) (G fr 8) (G fr 9) (G fr 39) (G fr 60) σ) fr σ) (blockK 2 (thenK (fun fr σ => c92_11 run fu s2 (G fr 0) (G fr 1) (G fr 5) (G fr 6) (G fr 7) (G fr 8) (G fr 9) σ) (blockK 1 (thenK (fun fr σ => s2 (G fr 0) (G fr 1) (G fr 5) (G fr 6) (G fr 7) (G fr 8) σ) failK)))) := fun fr σ =>
  KOK.piece env0 hrun [0, 1, 5, 6, 7, 8, 9, 39, 60] (eq92_17 run fu s2 (G fr 0) (G fr 1) (G fr 5) (G fr 6) (G fr 7) (G fr 8) (G fr 9) (G fr 39) (G fr 60) σ) ⟨trivial, ⟨trivial, ⟨⟨trivial, ⟨trivial, trivial⟩⟩, ⟨trivial, ⟨⟨trivial, ⟨trivial, trivial⟩⟩, ⟨⟨trivial, ⟨trivial, trivial⟩⟩, (ok92_18 hrun fu s2)⟩⟩⟩⟩⟩⟩

noncomputable def c92_2x (run : RunT) (fu : Nat) (s2 : W6) (x0 x1 x5 x6 x7 x8 : AV) (σ : Store) : Tr R :=
  lenSK x1 fun x35 =>
  cmpK .lss x8 x35 fun x36 =>
  ifK x36 (
  idxSK x1 x8 fun x39 =>
  cmpK .eql x39 (.int .u8 92) fun x41 =>
  ifK x41 (
  c92_11 run fu s2 x0 x1 x5 x6 x7 x8 (.fn (.func 117) [] []) σ) (
  cmpK .eql x39 (.int .u8 96) fun x43 =>
  ifK x43 (
  notK x7 fun x45 =>
  ifK x45 (
  nchkK x0 fun x47 =>
  addrK x47 12 fun x48 =>
  calK run 118 [x48] σ fun x49 σ1 =>
  c92_16 run fu s2 x0 x1 x5 x6 (.bool true) x8 σ1) (
  c92_16 run fu s2 x0 x1 x5 x6 x7 x8 σ)) (
  cmpK .eql x39 (.int .u8 60) fun x55 =>
  ifK x55 (
  c92_11 run fu s2 x0 x1 x5 x6 x7 x8 (.fn (.func 120) [] []) σ) (
  cmpK .eql x39 (.int .u8 91) fun x57 =>
  ifK x57 (
  c92_11 run fu s2 x0 x1 x5 x6 x7 x8 (.fn (.func 121) [] []) σ) (
  cmpK .eql x39 (.int .u8 33) fun x59 =>
  ifK x59 (
  c92_11 run fu s2 x0 x1 x5 x6 x7 x8 (.fn (.func 122) [] []) σ) (
  cmpK .eql x39 (.int .u8 95) fun x61 =>
  ifK x61 (
  c92_17 run fu s2 x0 x1 x5 x6 x7 x8 .nilf x39 x61 σ) (
  cmpK .eql x39 (.int .u8 42) fun x62 =>
  c92_17 run fu s2 x0 x1 x5 x6 x7 x8 .nilf x39 x62 σ))))))) (
  .fail)

theorem eq92_2x (run : RunT) (fu : Nat) (s2 : W6) (x0 x1 x5 x6 x7 x8 : AV) (σ : Store) : codeK X0 run (.seq (.seq .leaf (.cond .leaf .leaf)) (.block (.seq .leaf (.seq (.seq .leaf (.block (.seq .leaf (.cond .leaf (.seq .leaf (.cond (.seq (.seq .leaf (.cond (.seq .leaf .leaf) .leaf)) (.sub (fun fr σ => c92_16 run fu s2 (G fr 0) (G fr 1) (G fr 5) (G fr 6) (G fr 7) (G fr 8) σ))) (.seq .leaf (.cond .leaf (.seq .leaf (.cond .leaf (.seq .leaf (.cond .leaf (.seq (.seq .leaf (.cond .leaf .leaf)) (.sub (fun fr σ => c92_17 run fu s2 (G fr 0) (G fr 1) (G fr 5) (G fr 6) (G fr 7) (G fr 8) (G fr 9) (G fr 39) (G fr 60) σ))))))))))))))) (.sub (fun fr σ => c92_11 run fu s2 (G fr 0) (G fr 1) (G fr 5) (G fr 6) (G fr 7) (G fr 8) (G fr 9) σ)))))) (subC [true, true, true, true, true, true, true, true, true, false, false, false] b92) (frS 0 335 [(0, x0), (1, x1), (5, x5), (6, x6), (7, x7), (8, x8)]) σ (thenK (fun fr σ => s2 (G fr 0) (G fr 1) (G fr 5) (G fr 6) (G fr 7) (G fr 8) σ) failK) = c92_2x run fu s2 x0 x1 x5 x6 x7 x8 σ := by kernel_rfl

theorem owed92_2x {run : RunT} (hrun : RunOK X0 run) (fu : Nat) (s2 : W6) : Owes X0 run 335 (.seq (.seq .leaf (.cond .leaf .leaf)) (.block (.seq .leaf (.seq (.seq .leaf (.block (.seq .leaf (.cond .leaf (.seq .leaf (.cond (.seq (.seq .leaf (.cond (.seq .leaf .leaf) .leaf)) (.sub (fun fr σ => c92_16 run fu s2 (G fr 0) (G fr 1) (G fr 5) (G fr 6) (G fr 7) (G fr 8) σ))) (.seq .leaf (.cond .leaf (.seq .leaf (.cond .leaf (.seq .leaf (.cond .leaf (.seq (.seq .leaf (.cond .leaf .leaf)) (.sub (fun fr σ => c92_17 run fu s2 (G fr 0) (G fr 1) (G fr 5) (G fr 6) (G fr 7) (G fr 8) (G fr 9) (G fr 39) (G fr 60) σ))))))))))))))) (.sub (fun fr σ => c92_11 run fu s2 (G fr 0) (G fr 1) (G fr 5) (G fr 6) (G fr 7) (G fr 8) (G fr 9) σ)))))) (subC [true, true, true, true, true, true, true, true, true, false, false, false] b92) (thenK (fun fr σ => s2 (G fr 0) (G fr 1) (G fr 5) (G fr 6) (G fr 7) (G fr 8) σ) failK) :=
  ⟨⟨trivial, ⟨trivial, trivial⟩⟩, ⟨trivial, ⟨⟨trivial, ⟨trivial, ⟨trivial, ⟨trivial, ⟨⟨⟨trivial, ⟨⟨trivial, trivial⟩, trivial⟩⟩, (ok92_16 hrun fu s2)⟩, ⟨trivial, ⟨trivial, ⟨trivial, ⟨trivial, ⟨trivial, ⟨trivial, ⟨⟨trivial, ⟨trivial, trivial⟩⟩, (ok92_17 hrun fu s2)⟩⟩⟩⟩⟩⟩⟩⟩⟩⟩⟩⟩, (ok92_11 hrun fu s2)⟩⟩⟩

noncomputable def c92_2s (run : RunT) (fu : Nat) : Nat → List AV → Store → Tr R :=
  sweepU (planOf none 1 5 [] [] [] []) (fun t2 xs σ => c92_2b run fu (fun y0 y1 y5 y6 y7 y8 σ => t2 [y0, y1, y5, y6, y7, y8] σ) (xs.getD 0 .any) (xs.getD 1 .any) (xs.getD 2 .any) (xs.getD 3 .any) (xs.getD 4 .any) (xs.getD 5 .any) σ) (fun t2 xs σ => c92_2x run fu (fun y0 y1 y5 y6 y7 y8 σ => t2 [y0, y1, y5, y6, y7, y8] σ) (xs.getD 0 .any) (xs.getD 1 .any) (xs.getD 2 .any) (xs.getD 3 .any) (xs.getD 4 .any) (xs.getD 5 .any) σ)

theorem ok92_2s {run : RunT} (hrun : RunOK X0 run) (fu : Nat) : ∀ fr σ, KOK X0 335 (subC [true, true, true, true, true, true, true, true, true, false, false] b92) fr σ ((fun fr σ => c92_2s run fu fu [fr.getD 0 .any, fr.getD 1 .any, fr.getD 5 .any, fr.getD 6 .any, fr.getD 7 .any, fr.getD 8 .any] σ) fr σ) (blockK 0 (thenK (fun fr σ => c92_1 run fu (G fr 0) (G fr 1) σ) k92)) := by
  have h := KOK.sweep (X := X0) (N := 335) (b := (subC [true, true, true, true, true, true, true, true, true, false, false, false] b92)) (k := (blockK 0 (thenK (fun fr σ => c92_1 run fu (G fr 0) (G fr 1) σ) k92))) (js := [0, 1, 5, 6, 7, 8]) (body := (fun t2 xs σ => c92_2b run fu (fun y0 y1 y5 y6 y7 y8 σ => t2 [y0, y1, y5, y6, y7, y8] σ) (xs.getD 0 .any) (xs.getD 1 .any) (xs.getD 2 .any) (xs.getD 3 .any) (xs.getD 4 .any) (xs.getD 5 .any) σ)) (bodyx := (fun t2 xs σ => c92_2x run fu (fun y0 y1 y5 y6 y7 y8 σ => t2 [y0, y1, y5, y6, y7, y8] σ) (xs.getD 0 .any) (xs.getD 1 .any) (xs.getD 2 .any) (xs.getD 3 .any) (xs.getD 4 .any) (xs.getD 5 .any) σ)) rfl (planOf none 1 5 [] [] [] []) (fun t2 fr σ => KOK.piece env0 hrun [0, 1, 5, 6, 7, 8] (eq92_2 run fu (fun y0 y1 y5 y6 y7 y8 σ => t2 [y0, y1, y5, y6, y7, y8] σ) (G fr 0) (G fr 1) (G fr 5) (G fr 6) (G fr 7) (G fr 8) σ) (owed92_2 hrun fu (fun y0 y1 y5 y6 y7 y8 σ => t2 [y0, y1, y5, y6, y7, y8] σ))) (fun t2 fr σ => KOK.piece env0 hrun [0, 1, 5, 6, 7, 8] (eq92_2x run fu (fun y0 y1 y5 y6 y7 y8 σ => t2 [y0, y1, y5, y6, y7, y8] σ) (G fr 0) (G fr 1) (G fr 5) (G fr 6) (G fr 7) (G fr 8) σ) (owed92_2x hrun fu (fun y0 y1 y5 y6 y7 y8 σ => t2 [y0, y1, y5, y6, y7, y8] σ)))
  exact fun fr σ => h fu fr σ

noncomputable def c92 (run : RunT) (fu : Nat) (x0 x1 : AV) (σ : Store) : Tr R :=
  calK run 116 [x1] σ fun x22 σ1 =>
  nchkK x0 fun x25 =>
  addrK x25 7 fun x26 =>
  st1K σ1 x26 x22 fun _ σ2 =>
  nchkK x0 fun x28 =>
  addrK x28 9 fun x29 =>
  st1K σ2 x29 .nils fun _ σ3 =>
  nchkK x0 fun x31 =>
  addrK x31 8 fun x32 =>
  st1K σ3 x32 (.int .i64 0) fun _ σ4 =>
  c92_2s run fu fu [x0, x22, .nils, (.int .i64 0), (.bool false), (.int .i64 0)] σ4

theorem eq92 (run : RunT) (fu : Nat) (x0 x1 : AV) (σ : Store) : codeK X0 run (.seq .leaf (.seq .leaf (.seq .leaf (.seq .leaf (.seq .leaf (.seq .leaf (.seq .leaf (.seq .leaf (.seq .leaf (.seq (.block (.sub (fun fr σ => c92_2s run fu fu [fr.getD 0 .any, fr.getD 1 .any, fr.getD 5 .any, fr.getD 6 .any, fr.getD 7 .any, fr.getD 8 .any] σ))) (.sub (fun fr σ => c92_1 run fu (G fr 0) (G fr 1) σ)))))))))))) (subC [] b92) ([x0, x1] ++ padA (335 - 2)) σ k92 = c92 run fu x0 x1 σ := by kernel_rfl

theorem ok92 {run : RunT} (hrun : RunOK X0 run) (fu : Nat) (x0 x1 : AV) (σ : Store) : CallOK X0 92 [x0, x1] σ (c92 run fu x0 x1 σ) :=
  KOK.body (fn := Tryz.f92) (c := subC [] b92) (by kernel_rfl) (by kernel_rfl) (by show 2 ≤ 335; decide) (KOK.whole env0 hrun (eq92 run fu x0 x1 σ) ⟨trivial, ⟨trivial, ⟨trivial, ⟨trivial, ⟨trivial, ⟨trivial, ⟨trivial, ⟨trivial, ⟨trivial, ⟨(ok92_2s hrun fu), (ok92_1 hrun fu)⟩⟩⟩⟩⟩⟩⟩⟩⟩⟩)

-- (*pub-paratext/pub/rscmarkdown.line).isBlank

noncomputable def b112 : Code := match Tryz.f112.body with | some c => c | none => .skip

noncomputable def k112 : Kont R := retK Tryz.prog [.tmp 2]

noncomputable def c112 (run : RunT) (fu : Nat) (x0 : AV) (σ : Store) : Tr R :=
  nchkK x0 fun x4 =>
  addrK x4 3 fun x5 =>
  ld1K σ x5 fun x6 =>
  nchkK x0 fun x8 =>
  addrK x8 1 fun x9 =>
  ld1K σ x9 fun x10 =>
  sliceSK x6 (some x10) none fun x11 =>
  calK run 143 [x11] σ fun x12 σ1 =>
  eqSK x12 (.str []) fun x13 =>
  .ret (x13, σ1)

theorem eq112 (run : RunT) (fu : Nat) (x0 : AV) (σ : Store) : codeK X0 run (.seq .leaf (.seq .leaf .leaf)) (subC [] b112) ([x0] ++ padA (14 - 1)) σ k112 = c112 run fu x0 σ := by kernel_rfl

theorem ok112 {run : RunT} (hrun : RunOK X0 run) (fu : Nat) (x0 : AV) (σ : Store) : CallOK X0 112 [x0] σ (c112 run fu x0 σ) :=
  KOK.body (fn := Tryz.f112) (c := subC [] b112) (by kernel_rfl) (by kernel_rfl) (by show 1 ≤ 14; decide) (KOK.whole env0 hrun (eq112 run fu x0 σ) ⟨trivial, ⟨trivial, trivial⟩⟩)

-- pub-paratext/pub/rscmarkdown.news

noncomputable def b113 : Code := match Tryz.f113.body with | some c => c | none => .skip

noncomputable def k113 : Kont R := retK Tryz.prog [.tmp 0]

noncomputable def c113 (run : RunT) (fu : Nat) (σ : Store) : Tr R :=
  opt (fillK [.nilf, .nilf, .nilf, .nilf, .nilf, .nilf, .nilf, .nilf] [(0, 1, (.fn (.func 144) [] [])), (1, 1, (.fn (.func 145) [] [])), (2, 1, (.fn (.func 146) [] [])), (3, 1, (.fn (.func 147) [] [])), (4, 1, (.fn (.func 148) [] [])), (5, 1, (.fn (.func 149) [] [])), (6, 1, (.fn (.func 150) [] [])), (7, 1, (.fn (.func 151) [] []))]) fun cs => newSK σ 485 cs 8 1 fun x1 σ1 =>
  .ret (x1, σ1)

theorem eq113 (run : RunT) (fu : Nat) (σ : Store) : codeK X0 run (.seq .leaf (.seq .leaf .leaf)) (subC [] b113) ([] ++ padA (2 - 0)) σ k113 = c113 run fu σ := by kernel_rfl

theorem ok113 {run : RunT} (hrun : RunOK X0 run) (fu : Nat) (σ : Store) : CallOK X0 113 [] σ (c113 run fu σ) :=
  KOK.body (fn := Tryz.f113) (c := subC [] b113) (by kernel_rfl) (by kernel_rfl) (by show 0 ≤ 2; decide) (KOK.whole env0 hrun (eq113 run fu σ) ⟨trivial, ⟨trivial, trivial⟩⟩)

-- pub-paratext/pub/rscmarkdown.newPara

noncomputable def b114 : Code := match Tryz.f114.body with | some c => c | none => .skip

noncomputable def k114 : Kont R := retK Tryz.prog [.cell 4 187, .tmp 5]

noncomputable def c114_2 (run : RunT) (fu : Nat) (x4 x6 x8 : AV) (σ : Store) : Tr R :=
  nchkK x6 fun x166 =>
  addrK x166 0 fun x167 =>
  ld1K σ x167 fun x168 =>
  opt (fillK [(.str [])] [(0, 1, x8)]) fun cs => newSK σ 19 cs 1 1 fun x170 σ1 =>
  appK 9 1 16 σ1 x168 x170 fun x171 σ2 =>
  nchkK x6 fun x172 =>
  addrK x172 0 fun x173 =>
  st1K σ2 x173 x171 fun _ σ3 =>
  bldK [(.int .i64 0), (.int .i64 0), (.int .i64 0), (.str []), (.int .u8 0)] [] fun x174 =>
  stNK σ3 x4 5 x174 fun _ σ4 =>
  ldNK σ4 x4 5 fun v5 =>
  .ret (.tup [v5, (.bool true)], σ4)

theorem eq114_2 (run : RunT) (fu : Nat) (x4 x6 x8 : AV) (σ : Store) : codeK X0 run (.seq .leaf (.seq .leaf .leaf)) (subC [true, true, true, true, true, true, true] b114) (frS 0 175 [(4, x4), (6, x6), (8, x8)]) σ k114 = c114_2 run fu x4 x6 x8 σ := by kernel_rfl

theorem ok114_2 {run : RunT} (hrun : RunOK X0 run) (fu : Nat) : ∀ fr σ, KOK X0 175 (subC [true, true, true, true, true, true, true] b114) fr σ ((fun fr σ => c114_2 run fu (G fr 4) (G fr 6) (G fr 8) σ) fr σ) k114 := fun fr σ =>
  KOK.piece env0 hrun [4, 6, 8] (eq114_2 run fu (G fr 4) (G fr 6) (G fr 8) σ) ⟨trivial, ⟨trivial, trivial⟩⟩

noncomputable def c114_3b (run : RunT) (fu : Nat) (s3 : W5) (x0 x4 x6 x8 x11 : AV) (σ : Store) : Tr R :=
  nchkK x0 fun x140 =>
  addrK x140 4 fun x141 =>
  ld1K σ x141 fun x142 =>
  lenLK x142 fun x143 =>
  cmpK .lss x11 x143 fun x144 =>
  ifK x144 (
  nchkK x0 fun x148 =>
  addrK x148 4 fun x149 =>
  ld1K σ x149 fun x150 =>
  nchkK x0 fun x153 =>
  addrK x153 3 fun x154 =>
  ld1K σ x154 fun x155 =>
  idxK 4 x150 x11 fun x156 =>
  addrK x156 2 fun x157 =>
  addrK x157 1 fun x158 =>
  st1K σ x158 x155 fun _ σ1 =>
  addK x11 (.int .i64 1) fun x146 =>
  s3 x0 x4 x6 x8 x146 σ1) (
  c114_2 run fu x4 x6 x8 σ)

noncomputable def c114_3 (run : RunT) (fu : Nat) : Nat → W5
  | 0 => fun _ _ _ _ _ _ => .fail
  | m + 1 => c114_3b run fu (c114_3 run fu m)

theorem eq114_3 (run : RunT) (fu : Nat) (s3 : W5) (x0 x4 x6 x8 x11 : AV) (σ : Store) : codeK X0 run (.seq (.seq .leaf (.cond .leaf .leaf)) (.seq (.block .leaf) .leaf)) (subC [true, true, true, true, true, true, false, true, false, true, false, false] b114) (frS 0 175 [(0, x0), (4, x4), (6, x6), (8, x8), (11, x11)]) σ (thenK (fun fr σ => s3 (G fr 0) (G fr 4) (G fr 6) (G fr 8) (G fr 11) σ) (blockK 0 (thenK (fun fr σ => c114_2 run fu (G fr 4) (G fr 6) (G fr 8) σ) k114))) = c114_3b run fu s3 x0 x4 x6 x8 x11 σ := by kernel_rfl

theorem owed114_3 {run : RunT} (hrun : RunOK X0 run) (fu : Nat) (s3 : W5) : Owes X0 run 175 (.seq (.seq .leaf (.cond .leaf .leaf)) (.seq (.block .leaf) .leaf)) (subC [true, true, true, true, true, true, false, true, false, true, false, false] b114) (thenK (fun fr σ => s3 (G fr 0) (G fr 4) (G fr 6) (G fr 8) (G fr 11) σ) (blockK 0 (thenK (fun fr σ => c114_2 run fu (G fr 4) (G fr 6) (G fr 8) σ) k114))) :=
  ⟨⟨trivial, ⟨trivial, trivial⟩⟩, ⟨trivial, trivial⟩⟩

theorem ok114_3 {run : RunT} (hrun : RunOK X0 run) (fu : Nat) : ∀ fr σ, KOK X0 175 (subC [true, true, true, true, true, true, false, true, false, true, false] b114) fr σ ((fun fr σ => c114_3 run fu fu (G fr 0) (G fr 4) (G fr 6) (G fr 8) (G fr 11) σ) fr σ) (blockK 0 (thenK (fun fr σ => c114_2 run fu (G fr 4) (G fr 6) (G fr 8) σ) k114)) := by
  have h := KOK.loop (X := X0) (N := 175) (b := (subC [true, true, true, true, true, true, false, true, false, true, false, false] b114)) (k := (blockK 0 (thenK (fun fr σ => c114_2 run fu (G fr 4) (G fr 6) (G fr 8) σ) k114))) (u := fun m fr σ => c114_3 run fu m (G fr 0) (G fr 4) (G fr 6) (G fr 8) (G fr 11) σ) (fun _ _ => rfl) (fun m fr σ => KOK.piece env0 hrun [0, 4, 6, 8, 11] (eq114_3 run fu (c114_3 run fu m) (G fr 0) (G fr 4) (G fr 6) (G fr 8) (G fr 11) σ) (owed114_3 hrun fu (c114_3 run fu m)))
  exact fun fr σ => h fu fr σ

noncomputable def c114_1 (run : RunT) (fu : Nat) (x0 x4 x6 x7 x8 : AV) (σ : Store) : Tr R :=
  nchkK x0 fun x52 =>
  addrK x52 0 fun x53 =>
  ld1K σ x53 fun x54 =>
  nchkK x54 fun x55 =>
  addrK x55 5 fun x56 =>
  ld1K σ x56 fun x57 =>
  grdK x57 true σ (fun f => f x6 σ) fun x59 σ1 =>
  grdK x57 true σ1 (fun f => neOK (nilEq nilP) x59 .nilp fun v => f v σ1) fun x60 σ2 =>
  pickK x57 x60 (.bool false) fun x61 =>
  grdK x61 true σ2 (fun f => f x7 σ2) fun x63 σ3 =>
  pickK x61 x63 (.bool false) fun x64 =>
  grdK x64 true σ3 (fun f => f x6 σ3) fun x66 σ4 =>
  grdK x64 true σ4 (fun f => nchkK x66 fun v => f v σ4) fun x67 σ5 =>
  grdK x64 true σ5 (fun f => addrK x67 0 fun v => f v σ5) fun x68 σ6 =>
  grdK x64 true σ6 (fun f => ld1K σ6 x68 fun v => f v σ6) fun x69 σ7 =>
  grdK x64 true σ7 (fun f => lenLK x69 fun v => f v σ7) fun x70 σ8 =>
  grdK x64 true σ8 (fun f => cmpK .gtr x70 (.int .i64 0) fun v => f v σ8) fun x71 σ9 =>
  pickK x64 x71 (.bool false) fun x72 =>
  grdK x72 true σ9 (fun f => f x6 σ9) fun x74 σ10 =>
  grdK x72 true σ10 (fun f => nchkK x74 fun v => f v σ10) fun x75 σ11 =>
  grdK x72 true σ11 (fun f => addrK x75 0 fun v => f v σ11) fun x76 σ12 =>
  grdK x72 true σ12 (fun f => ld1K σ12 x76 fun v => f v σ12) fun x77 σ13 =>
  grdK x72 true σ13 (fun f => f x6 σ13) fun x78 σ14 =>
  grdK x72 true σ14 (fun f => nchkK x78 fun v => f v σ14) fun x79 σ15 =>
  grdK x72 true σ15 (fun f => addrK x79 0 fun v => f v σ15) fun x80 σ16 =>
  grdK x72 true σ16 (fun f => ld1K σ16 x80 fun v => f v σ16) fun x81 σ17 =>
  grdK x72 true σ17 (fun f => lenLK x81 fun v => f v σ17) fun x82 σ18 =>
  grdK x72 true σ18 (fun f => subK x82 (.int .i64 1) fun v => f v σ18) fun x83 σ19 =>
  grdK x72 true σ19 (fun f => idxK 1 x77 x83 fun v => f v σ19) fun x84 σ20 =>
  grdK x72 true σ20 (fun f => ld1K σ20 x84 fun v => f v σ20) fun x85 σ21 =>
  grdK x72 true σ21 (fun f => f x8 σ21) fun x86 σ22 =>
  grdK x72 true σ22 (fun f => calK run 155 [x85, x86] σ22 f) fun x87 σ23 =>
  pickK x72 x87 (.bool false) fun x88 =>
  ifK x88 (
  .fail) (
  neOK (nilEq nilP) x6 .nilp fun x133 =>
  ifK x133 (
  nchkK x0 fun x135 =>
  addrK x135 5 fun x136 =>
  ld1K σ23 x136 fun x137 =>
  c114_3 run fu fu x0 x4 x6 x8 x137 σ23) (
  newK σ23 539 [.nils, .nilp] fun x159 σ24 =>
  calK run 88 [x0, (.iface 265 x159)] σ24 fun x163 σ25 =>
  c114_2 run fu x4 x159 x8 σ25))

theorem eq114_1 (run : RunT) (fu : Nat) (x0 x4 x6 x7 x8 : AV) (σ : Store) : codeK X0 run (.seq (.seq .leaf (.cond (.sub deadK) .leaf)) (.seq (.seq .leaf (.cond (.seq .leaf (.block (.sub (fun fr σ => c114_3 run fu fu (G fr 0) (G fr 4) (G fr 6) (G fr 8) (G fr 11) σ)))) (.seq .leaf .leaf))) (.sub (fun fr σ => c114_2 run fu (G fr 4) (G fr 6) (G fr 8) σ)))) (subC [true, true, true, true, true] b114) (frS 0 175 [(0, x0), (4, x4), (6, x6), (7, x7), (8, x8)]) σ k114 = c114_1 run fu x0 x4 x6 x7 x8 σ := by kernel_rfl

theorem ok114_1 {run : RunT} (hrun : RunOK X0 run) (fu : Nat) : ∀ fr σ, KOK X0 175 (subC [true, true, true, true, true] b114) fr σ ((fun fr σ => c114_1 run fu (G fr 0) (G fr 4) (G fr 6) (G fr 7) (G fr 8) σ) fr σ) k114 := fun fr σ =>
  KOK.piece env0 hrun [0, 4, 6, 7, 8] (eq114_1 run fu (G fr 0) (G fr 4) (G fr 6) (G fr 7) (G fr 8) σ) ⟨⟨trivial, ⟨KOK.dead, trivial⟩⟩, ⟨⟨trivial, ⟨⟨trivial, (ok114_3 hrun fu)⟩, ⟨trivial, trivial⟩⟩⟩, (ok114_2 hrun fu)⟩⟩

noncomputable def c114 (run : RunT) (fu : Nat) (x0 x1 : AV) (σ : Store) : Tr R :=
  boxK σ 375 x1 fun x3 σ1 =>
  newK σ1 375 [(.int .i64 0), (.int .i64 0), (.int .i64 0), (.str []), (.int .u8 0)] fun x4 σ2 =>
  calK run 152 [x0] σ2 fun x13 σ3 =>
  nchkK x0 fun x15 =>
  addrK x15 5 fun x16 =>
  ld1K σ3 x16 fun x17 =>
  nchkK x0 fun x19 =>
  addrK x19 4 fun x20 =>
  ld1K σ3 x20 fun x21 =>
  lenLK x21 fun x22 =>
  subK x22 (.int .i64 2) fun x23 =>
  cmpK .eql x17 x23 fun x24 =>
  calK run 153 [x3] σ3 fun x25 σ4 =>
  neOK (nilEq nilP) x13 .nilp fun x27 =>
  grdK x27 true σ4 (fun f => f x13 σ4) fun x29 σ5 =>
  grdK x27 true σ5 (fun f => nchkK x29 fun v => f v σ5) fun x30 σ6 =>
  grdK x27 true σ6 (fun f => addrK x30 1 fun v => f v σ6) fun x31 σ7 =>
  grdK x27 true σ7 (fun f => ld1K σ7 x31 fun v => f v σ7) fun x32 σ8 =>
  grdK x27 true σ8 (fun f => neOK (nilEq nilP) x32 .nilp fun v => f v σ8) fun x33 σ9 =>
  pickK x27 x33 (.bool false) fun x34 =>
  ifK x34 (
  .fail) (
  c114_1 run fu x0 x4 x13 x24 x25 σ9)

theorem eq114 (run : RunT) (fu : Nat) (x0 x1 : AV) (σ : Store) : codeK X0 run (.seq .leaf (.seq .leaf (.seq .leaf (.seq .leaf (.seq (.seq .leaf (.cond (.sub deadK) .leaf)) (.sub (fun fr σ => c114_1 run fu (G fr 0) (G fr 4) (G fr 6) (G fr 7) (G fr 8) σ))))))) (subC [] b114) ([x0, x1] ++ padA (175 - 2)) σ k114 = c114 run fu x0 x1 σ := by kernel_rfl

theorem ok114 {run : RunT} (hrun : RunOK X0 run) (fu : Nat) (x0 x1 : AV) (σ : Store) : CallOK X0 114 [x0, x1] σ (c114 run fu x0 x1 σ) :=
  KOK.body (fn := Tryz.f114) (c := subC [] b114) (by kernel_rfl) (by kernel_rfl) (by show 2 ≤ 175; decide) (KOK.whole env0 hrun (eq114 run fu x0 x1 σ) ⟨trivial, ⟨trivial, ⟨trivial, ⟨trivial, ⟨⟨trivial, ⟨KOK.dead, trivial⟩⟩, (ok114_1 hrun fu)⟩⟩⟩⟩⟩)

-- (*pub-paratext/pub/rscmarkdown.parseState).closeBlock

noncomputable def b115 : Code := match Tryz.f115.body with | some c => c | none => .skip

noncomputable def k115 : Kont R := retK Tryz.prog [.tmp 2]

noncomputable def c115_3 (run : RunT) (fu : Nat) (x4 : AV) (σ : Store) : Tr R :=
  .ret (x4, σ)

theorem eq115_3 (run : RunT) (fu : Nat) (x4 : AV) (σ : Store) : codeK X0 run (.seq .leaf .leaf) (subC [true, true, true, true, true, true, true] b115) (frS 0 118 [(4, x4)]) σ k115 = c115_3 run fu x4 σ := by kernel_rfl

theorem ok115_3 {run : RunT} (hrun : RunOK X0 run) (fu : Nat) : ∀ fr σ, KOK X0 118 (subC [true, true, true, true, true, true, true] b115) fr σ ((fun fr σ => c115_3 run fu (G fr 4) σ) fr σ) k115 := fun fr σ =>
  KOK.piece env0 hrun [4] (eq115_3 run fu (G fr 4) σ) ⟨trivial, trivial⟩

noncomputable def c115_2 (run : RunT) (fu : Nat) (x0 x4 : AV) (σ : Store) : Tr R :=
  nchkK x0 fun x73 =>
  addrK x73 4 fun x74 =>
  ld1K σ x74 fun x75 =>
  nchkK x0 fun x77 =>
  addrK x77 4 fun x78 =>
  ld1K σ x78 fun x79 =>
  lenLK x79 fun x80 =>
  subK x80 (.int .i64 1) fun x81 =>
  sliceLK Tryz.prog σ 172 x75 none (some x81) fun x82 =>
  nchkK x0 fun x83 =>
  addrK x83 4 fun x84 =>
  st1K σ x84 x82 fun _ σ1 =>
  nchkK x0 fun x86 =>
  addrK x86 4 fun x87 =>
  ld1K σ1 x87 fun x88 =>
  lenLK x88 fun x89 =>
  cmpK .gtr x89 (.int .i64 0) fun x90 =>
  ifK x90 (
  nchkK x0 fun x92 =>
  addrK x92 4 fun x93 =>
  ld1K σ1 x93 fun x94 =>
  nchkK x0 fun x96 =>
  addrK x96 4 fun x97 =>
  ld1K σ1 x97 fun x98 =>
  lenLK x98 fun x99 =>
  subK x99 (.int .i64 1) fun x100 =>
  idxK 4 x94 x100 fun x101 =>
  nchkK x101 fun x104 =>
  addrK x104 1 fun x105 =>
  ld1K σ1 x105 fun x106 =>
  opt (fillK [.nili] [(0, 1, x4)]) fun cs => newSK σ1 187 cs 1 1 fun x108 σ2 =>
  appK 93 1 16 σ2 x106 x108 fun x109 σ3 =>
  nchkK x101 fun x110 =>
  addrK x110 1 fun x111 =>
  st1K σ3 x111 x109 fun _ σ4 =>
  c115_3 run fu x4 σ4) (
  tasK (some .nilp) 83 false x4 fun x114 =>
  nchkK x0 fun x115 =>
  addrK x115 1 fun x116 =>
  st1K σ1 x116 x114 fun _ σ5 =>
  c115_3 run fu x4 σ5)

theorem eq115_2 (run : RunT) (fu : Nat) (x0 x4 : AV) (σ : Store) : codeK X0 run (.seq .leaf (.seq (.seq .leaf (.cond (.seq .leaf .leaf) .leaf)) (.sub (fun fr σ => c115_3 run fu (G fr 4) σ)))) (subC [true, true, true, true, true] b115) (frS 0 118 [(0, x0), (4, x4)]) σ k115 = c115_2 run fu x0 x4 σ := by kernel_rfl

theorem ok115_2 {run : RunT} (hrun : RunOK X0 run) (fu : Nat) : ∀ fr σ, KOK X0 118 (subC [true, true, true, true, true] b115) fr σ ((fun fr σ => c115_2 run fu (G fr 0) (G fr 4) σ) fr σ) k115 := fun fr σ =>
  KOK.piece env0 hrun [0, 4] (eq115_2 run fu (G fr 0) (G fr 4) σ) ⟨trivial, ⟨⟨trivial, ⟨⟨trivial, trivial⟩, trivial⟩⟩, (ok115_3 hrun fu)⟩⟩

noncomputable def c115_1 (run : RunT) (fu : Nat) (x0 x3 : AV) (σ : Store) : Tr R :=
  nchkK x3 fun x31 =>
  addrK x31 0 fun x32 =>
  ld1K σ x32 fun x33 =>
  invK X0 run x33 "pub-paratext/pub/rscmarkdown.build" [(.iface 235 x0)] σ fun x36 σ1 =>
  tasK (some .nilp) 115 true x36 fun x39 =>
  extK x39 0 fun x40 =>
  extK x39 1 fun x41 =>
  ifK x41 (
  .fail) (
  c115_2 run fu x0 x36 σ1)

theorem eq115_1 (run : RunT) (fu : Nat) (x0 x3 : AV) (σ : Store) : codeK X0 run (.seq .leaf (.seq (.seq .leaf (.seq .leaf (.cond (.sub deadK) .leaf))) (.sub (fun fr σ => c115_2 run fu (G fr 0) (G fr 4) σ)))) (subC [true, true, true] b115) (frS 0 118 [(0, x0), (3, x3)]) σ k115 = c115_1 run fu x0 x3 σ := by kernel_rfl

theorem ok115_1 {run : RunT} (hrun : RunOK X0 run) (fu : Nat) : ∀ fr σ, KOK X0 118 (subC [true, true, true] b115) fr σ ((fun fr σ => c115_1 run fu (G fr 0) (G fr 3) σ) fr σ) k115 := fun fr σ =>
  KOK.piece env0 hrun [0, 3] (eq115_1 run fu (G fr 0) (G fr 3) σ) ⟨trivial, ⟨⟨trivial, ⟨trivial, ⟨KOK.dead, trivial⟩⟩⟩, (ok115_2 hrun fu)⟩⟩

noncomputable def c115 (run : RunT) (fu : Nat) (x0 : AV) (σ : Store) : Tr R :=
  nchkK x0 fun x9 =>
  addrK x9 4 fun x10 =>
  ld1K σ x10 fun x11 =>
  nchkK x0 fun x13 =>
  addrK x13 4 fun x14 =>
  ld1K σ x14 fun x15 =>
  lenLK x15 fun x16 =>
  subK x16 (.int .i64 1) fun x17 =>
  idxK 4 x11 x17 fun x18 =>
  nchkK x18 fun x20 =>
  addrK x20 0 fun x21 =>
  ld1K σ x21 fun x22 =>
  ifcK Tryz.prog σ .eql 237 true x22 .nili fun x23 =>
  ifK x23 (
  .fail) (
  c115_1 run fu x0 x18 σ)

theorem eq115 (run : RunT) (fu : Nat) (x0 : AV) (σ : Store) : codeK X0 run (.seq .leaf (.seq .leaf (.seq (.seq .leaf (.cond (.sub deadK) .leaf)) (.sub (fun fr σ => c115_1 run fu (G fr 0) (G fr 3) σ))))) (subC [] b115) ([x0] ++ padA (118 - 1)) σ k115 = c115 run fu x0 σ := by kernel_rfl

theorem ok115 {run : RunT} (hrun : RunOK X0 run) (fu : Nat) (x0 : AV) (σ : Store) : CallOK X0 115 [x0] σ (c115 run fu x0 σ) :=
  KOK.body (fn := Tryz.f115) (c := subC [] b115) (by kernel_rfl) (by kernel_rfl) (by show 1 ≤ 118; decide) (KOK.whole env0 hrun (eq115 run fu x0 σ) ⟨trivial, ⟨trivial, ⟨⟨trivial, ⟨KOK.dead, trivial⟩⟩, (ok115_1 hrun fu)⟩⟩⟩)

-- pub-paratext/pub/rscmarkdown.trimSpaceTab

noncomputable def b116 : Code := match Tryz.f116.body with | some c => c | none => .skip

noncomputable def k116 : Kont R := retK Tryz.prog [.tmp 2]

noncomputable def c116_2 (run : RunT) (fu : Nat) (x0 x4 : AV) (σ : Store) : Tr R :=
  sliceSK x0 none (some x4) fun x48 =>
  .ret (x48, σ)

theorem eq116_2 (run : RunT) (fu : Nat) (x0 x4 : AV) (σ : Store) : codeK X0 run (.seq .leaf .leaf) (subC [true, true, true, true, true, true] b116) (frS 0 49 [(0, x0), (4, x4)]) σ k116 = c116_2 run fu x0 x4 σ := by kernel_rfl

theorem ok116_2 {run : RunT} (hrun : RunOK X0 run) (fu : Nat) : ∀ fr σ, KOK X0 49 (subC [true, true, true, true, true, true] b116) fr σ ((fun fr σ => c116_2 run fu (G fr 0) (G fr 4) σ) fr σ) k116 := fun fr σ =>
  KOK.piece env0 hrun [0, 4] (eq116_2 run fu (G fr 0) (G fr 4) σ) ⟨trivial, trivial⟩

noncomputable def c116_3b (run : RunT) (fu : Nat) (s3 : W2) (x0 x4 : AV) (σ : Store) : Tr R :=
  cmpK .gtr x4 (.int .i64 0) fun x29 =>
  grdK x29 true σ (fun f => f x0 σ) fun x31 σ1 =>
  grdK x29 true σ1 (fun f => f x4 σ1) fun x32 σ2 =>
  grdK x29 true σ2 (fun f => subK x32 (.int .i64 1) fun v => f v σ2) fun x33 σ3 =>
  grdK x29 true σ3 (fun f => idxSK x31 x33 fun v => f v σ3) fun x34 σ4 =>
  grdK x29 true σ4 (fun f => cmpK .eql x34 (.int .u8 32) fun v => f v σ4) fun x35 σ5 =>
  grdK x29 true σ5 (fun f => f x35 σ5) fun x36 σ6 =>
  grdK x36 false σ6 (fun f => f x0 σ6) fun x37 σ7 =>
  grdK x36 false σ7 (fun f => f x4 σ7) fun x38 σ8 =>
  grdK x36 false σ8 (fun f => subK x38 (.int .i64 1) fun v => f v σ8) fun x39 σ9 =>
  grdK x36 false σ9 (fun f => idxSK x37 x39 fun v => f v σ9) fun x40 σ10 =>
  grdK x36 false σ10 (fun f => cmpK .eql x40 (.int .u8 9) fun v => f v σ10) fun x41 σ11 =>
  grdK x29 true σ11 (fun f => pickK x36 (.bool true) x41 fun v => f v σ11) fun x42 σ12 =>
  pickK x29 x42 (.bool false) fun x43 =>
  ifK x43 (
  .fail) (
  c116_2 run fu x0 x4 σ12)

noncomputable def c116_3 (run : RunT) (fu : Nat) : Nat → W2
  | 0 => fun _ _ _ => .fail
  | m + 1 => c116_3b run fu (c116_3 run fu m)

theorem eq116_3 (run : RunT) (fu : Nat) (s3 : W2) (x0 x4 : AV) (σ : Store) : codeK X0 run (.seq (.seq .leaf (.cond (.sub deadK) .leaf)) .leaf) (subC [true, true, true, true, true, false, false, false] b116) (frS 0 49 [(0, x0), (4, x4)]) σ (thenK (fun fr σ => s3 (G fr 0) (G fr 4) σ) (blockK 2 (thenK (fun fr σ => c116_2 run fu (G fr 0) (G fr 4) σ) k116))) = c116_3b run fu s3 x0 x4 σ := by kernel_rfl

theorem owed116_3 {run : RunT} (hrun : RunOK X0 run) (fu : Nat) (s3 : W2) : Owes X0 run 49 (.seq (.seq .leaf (.cond (.sub deadK) .leaf)) .leaf) (subC [true, true, true, true, true, false, false, false] b116) (thenK (fun fr σ => s3 (G fr 0) (G fr 4) σ) (blockK 2 (thenK (fun fr σ => c116_2 run fu (G fr 0) (G fr 4) σ) k116))) :=
  ⟨⟨trivial, ⟨KOK.dead, trivial⟩⟩, trivial⟩

theorem ok116_3 {run : RunT} (hrun : RunOK X0 run) (fu : Nat) : ∀ fr σ, KOK X0 49 (subC [true, true, true, true, true, false, false] b116) fr σ ((fun fr σ => c116_3 run fu fu (G fr 0) (G fr 4) σ) fr σ) (blockK 2 (thenK (fun fr σ => c116_2 run fu (G fr 0) (G fr 4) σ) k116)) := by
  have h := KOK.loop (X := X0) (N := 49) (b := (subC [true, true, true, true, true, false, false, false] b116)) (k := (blockK 2 (thenK (fun fr σ => c116_2 run fu (G fr 0) (G fr 4) σ) k116))) (u := fun m fr σ => c116_3 run fu m (G fr 0) (G fr 4) σ) (fun _ _ => rfl) (fun m fr σ => KOK.piece env0 hrun [0, 4] (eq116_3 run fu (c116_3 run fu m) (G fr 0) (G fr 4) σ) (owed116_3 hrun fu (c116_3 run fu m)))
  exact fun fr σ => h fu fr σ

noncomputable def c116_1 (run : RunT) (fu : Nat) (x0 x3 : AV) (σ : Store) : Tr R :=
  sliceSK x0 (some x3) none fun x25 =>
  lenSK x25 fun x27 =>
  c116_3 run fu fu x25 x27 σ

theorem eq116_1 (run : RunT) (fu : Nat) (x0 x3 : AV) (σ : Store) : codeK X0 run (.seq .leaf (.seq .leaf (.seq (.block (.sub (fun fr σ => c116_3 run fu fu (G fr 0) (G fr 4) σ))) (.sub (fun fr σ => c116_2 run fu (G fr 0) (G fr 4) σ))))) (subC [true, true, true] b116) (frS 0 49 [(0, x0), (3, x3)]) σ k116 = c116_1 run fu x0 x3 σ := by kernel_rfl

theorem ok116_1 {run : RunT} (hrun : RunOK X0 run) (fu : Nat) : ∀ fr σ, KOK X0 49 (subC [true, true, true] b116) fr σ ((fun fr σ => c116_1 run fu (G fr 0) (G fr 3) σ) fr σ) k116 := fun fr σ =>
  KOK.piece env0 hrun [0, 3] (eq116_1 run fu (G fr 0) (G fr 3) σ) ⟨trivial, ⟨trivial, ⟨(ok116_3 hrun fu), (ok116_2 hrun fu)⟩⟩⟩

noncomputable def c116_4b (run : RunT) (fu : Nat) (s4 : W2) (x0 x3 : AV) (σ : Store) : Tr R :=
  lenSK x0 fun x7 =>
  cmpK .lss x3 x7 fun x8 =>
  grdK x8 true σ (fun f => f x0 σ) fun x10 σ1 =>
  grdK x8 true σ1 (fun f => f x3 σ1) fun x11 σ2 =>
  grdK x8 true σ2 (fun f => idxSK x10 x11 fun v => f v σ2) fun x12 σ3 =>
  grdK x8 true σ3 (fun f => cmpK .eql x12 (.int .u8 32) fun v => f v σ3) fun x13 σ4 =>
  grdK x8 true σ4 (fun f => f x13 σ4) fun x14 σ5 =>
  grdK x14 false σ5 (fun f => f x0 σ5) fun x15 σ6 =>
  grdK x14 false σ6 (fun f => f x3 σ6) fun x16 σ7 =>
  grdK x14 false σ7 (fun f => idxSK x15 x16 fun v => f v σ7) fun x17 σ8 =>
  grdK x14 false σ8 (fun f => cmpK .eql x17 (.int .u8 9) fun v => f v σ8) fun x18 σ9 =>
  grdK x8 true σ9 (fun f => pickK x14 (.bool true) x18 fun v => f v σ9) fun x19 σ10 =>
  pickK x8 x19 (.bool false) fun x20 =>
  ifK x20 (
  .fail) (
  c116_1 run fu x0 x3 σ10)

noncomputable def c116_4 (run : RunT) (fu : Nat) : Nat → W2
  | 0 => fun _ _ _ => .fail
  | m + 1 => c116_4b run fu (c116_4 run fu m)

theorem eq116_4 (run : RunT) (fu : Nat) (s4 : W2) (x0 x3 : AV) (σ : Store) : codeK X0 run (.seq (.seq .leaf (.cond (.sub deadK) .leaf)) .leaf) (subC [true, true, false, false, false] b116) (frS 0 49 [(0, x0), (3, x3)]) σ (thenK (fun fr σ => s4 (G fr 0) (G fr 3) σ) (blockK 0 (thenK (fun fr σ => c116_1 run fu (G fr 0) (G fr 3) σ) k116))) = c116_4b run fu s4 x0 x3 σ := by kernel_rfl

theorem owed116_4 {run : RunT} (hrun : RunOK X0 run) (fu : Nat) (s4 : W2) : Owes X0 run 49 (.seq (.seq .leaf (.cond (.sub deadK) .leaf)) .leaf) (subC [true, true, false, false, false] b116) (thenK (fun fr σ => s4 (G fr 0) (G fr 3) σ) (blockK 0 (thenK (fun fr σ => c116_1 run fu (G fr 0) (G fr 3) σ) k116))) :=
  ⟨⟨trivial, ⟨KOK.dead, trivial⟩⟩, trivial⟩

theorem ok116_4 {run : RunT} (hrun : RunOK X0 run) (fu : Nat) : ∀ fr σ, KOK X0 49 (subC [true, true, false, false] b116) fr σ ((fun fr σ => c116_4 run fu fu (G fr 0) (G fr 3) σ) fr σ) (blockK 0 (thenK (fun fr σ => c116_1 run fu (G fr 0) (G fr 3) σ) k116)) := by
  have h := KOK.loop (X := X0) (N := 49) (b := (subC [true, true, false, false, false] b116)) (k := (blockK 0 (thenK (fun fr σ => c116_1 run fu (G fr 0) (G fr 3) σ) k116))) (u := fun m fr σ => c116_4 run fu m (G fr 0) (G fr 3) σ) (fun _ _ => rfl) (fun m fr σ => KOK.piece env0 hrun [0, 3] (eq116_4 run fu (c116_4 run fu m) (G fr 0) (G fr 3) σ) (owed116_4 hrun fu (c116_4 run fu m)))
  exact fun fr σ => h fu fr σ

noncomputable def c116 (run : RunT) (fu : Nat) (x0 : AV) (σ : Store) : Tr R :=
  c116_4 run fu fu x0 (.int .i64 0) σ

theorem eq116 (run : RunT) (fu : Nat) (x0 : AV) (σ : Store) : codeK X0 run (.seq .leaf (.seq .leaf (.seq (.block (.sub (fun fr σ => c116_4 run fu fu (G fr 0) (G fr 3) σ))) (.sub (fun fr σ => c116_1 run fu (G fr 0) (G fr 3) σ))))) (subC [] b116) ([x0] ++ padA (49 - 1)) σ k116 = c116 run fu x0 σ := by kernel_rfl

theorem ok116 {run : RunT} (hrun : RunOK X0 run) (fu : Nat) (x0 : AV) (σ : Store) : CallOK X0 116 [x0] σ (c116 run fu x0 σ) :=
  KOK.body (fn := Tryz.f116) (c := subC [] b116) (by kernel_rfl) (by kernel_rfl) (by show 1 ≤ 49; decide) (KOK.whole env0 hrun (eq116 run fu x0 σ) ⟨trivial, ⟨trivial, ⟨(ok116_4 hrun fu), (ok116_1 hrun fu)⟩⟩⟩)

-- pub-paratext/pub/rscmarkdown.parseLinkOpen

noncomputable def b121 : Code := match Tryz.f121.body with | some c => c | none => .skip

noncomputable def k121 : Kont R := retK Tryz.prog [.tmp 6, .tmp 7, .tmp 8, .tmp 9]

noncomputable def c121 (run : RunT) (fu : Nat) (x0 x1 x2 : AV) (σ : Store) : Tr R :=
  addK x2 (.int .i64 1) fun x13 =>
  sliceSK x1 (some x2) (some x13) fun x14 =>
  bldK [(.str [])] [(0, 1, x14)] fun x15 =>
  addK x2 (.int .i64 1) fun x17 =>
  bldK [(.str []), (.int .i64 0)] [(0, 1, x15), (1, 1, x17)] fun x18 =>
  boxK σ 505 x18 fun x19 σ1 =>
  addK x2 (.int .i64 1) fun x23 =>
  .ret (.tup [(.iface 249 x19), x2, x23, (.bool true)], σ1)

theorem eq121 (run : RunT) (fu : Nat) (x0 x1 x2 : AV) (σ : Store) : codeK X0 run (.seq .leaf (.seq .leaf .leaf)) (subC [] b121) ([x0, x1, x2] ++ padA (24 - 3)) σ k121 = c121 run fu x0 x1 x2 σ := by kernel_rfl

theorem ok121 {run : RunT} (hrun : RunOK X0 run) (fu : Nat) (x0 x1 x2 : AV) (σ : Store) : CallOK X0 121 [x0, x1, x2] σ (c121 run fu x0 x1 x2 σ) :=
  KOK.body (fn := Tryz.f121) (c := subC [] b121) (by kernel_rfl) (by kernel_rfl) (by show 3 ≤ 24; decide) (KOK.whole env0 hrun (eq121 run fu x0 x1 x2 σ) ⟨trivial, ⟨trivial, trivial⟩⟩)

-- (*pub-paratext/pub/rscmarkdown.parseState).emit

noncomputable def b129 : Code := match Tryz.f129.body with | some c => c | none => .skip

noncomputable def k129 : Kont R := retK Tryz.prog []

noncomputable def c129 (run : RunT) (fu : Nat) (x0 x1 : AV) (σ : Store) : Tr R :=
  nchkK x0 fun x5 =>
  addrK x5 8 fun x6 =>
  ld1K σ x6 fun x7 =>
  cmpK .lss x7 x1 fun x9 =>
  ifK x9 (
  nchkK x0 fun x12 =>
  addrK x12 9 fun x13 =>
  ld1K σ x13 fun x14 =>
  nchkK x0 fun x16 =>
  addrK x16 7 fun x17 =>
  ld1K σ x17 fun x18 =>
  nchkK x0 fun x20 =>
  addrK x20 8 fun x21 =>
  ld1K σ x21 fun x22 =>
  sliceSK x18 (some x22) (some x1) fun x24 =>
  bldK [(.str [])] [(0, 1, x24)] fun x25 =>
  boxK σ 415 x25 fun x26 σ1 =>
  opt (fillK [.nili] [(0, 1, (.iface 204 x26))]) fun cs => newSK σ1 335 cs 1 1 fun x28 σ2 =>
  appK 167 1 16 σ2 x14 x28 fun x29 σ3 =>
  nchkK x0 fun x30 =>
  addrK x30 9 fun x31 =>
  st1K σ3 x31 x29 fun _ σ4 =>
  ld1K σ1 x13 fun v5 =>
  must (AV.beq v5 x14) (
  ld1K σ2 x13 fun v6 =>
  must (AV.beq v6 x14) (
  nchkK x0 fun x34 =>
  addrK x34 8 fun x35 =>
  st1K σ4 x35 x1 fun _ σ7 =>
  .ret (.tup [], σ7)))) (
  .ret (.tup [], σ))

theorem eq129 (run : RunT) (fu : Nat) (x0 x1 : AV) (σ : Store) : codeK X0 run (.seq .leaf (.cond (.seq .leaf .leaf) .leaf)) (subC [] b129) ([x0, x1] ++ padA (36 - 2)) σ k129 = c129 run fu x0 x1 σ := by kernel_rfl

theorem ok129 {run : RunT} (hrun : RunOK X0 run) (fu : Nat) (x0 x1 : AV) (σ : Store) : CallOK X0 129 [x0, x1] σ (c129 run fu x0 x1 σ) :=
  KOK.body (fn := Tryz.f129) (c := subC [] b129) (by kernel_rfl) (by kernel_rfl) (by show 2 ≤ 36; decide) (KOK.whole env0 hrun (eq129 run fu x0 x1 σ) ⟨trivial, ⟨⟨trivial, trivial⟩, trivial⟩⟩)

-- (*pub-paratext/pub/rscmarkdown.parseState).skip

noncomputable def b130 : Code := match Tryz.f130.body with | some c => c | none => .skip

noncomputable def k130 : Kont R := retK Tryz.prog []

noncomputable def c130 (run : RunT) (fu : Nat) (x0 x1 : AV) (σ : Store) : Tr R :=
  nchkK x0 fun x6 =>
  addrK x6 8 fun x7 =>
  st1K σ x7 x1 fun _ σ1 =>
  .ret (.tup [], σ1)

theorem eq130 (run : RunT) (fu : Nat) (x0 x1 : AV) (σ : Store) : codeK X0 run .leaf (subC [] b130) ([x0, x1] ++ padA (8 - 2)) σ k130 = c130 run fu x0 x1 σ := by kernel_rfl

theorem ok130 {run : RunT} (hrun : RunOK X0 run) (fu : Nat) (x0 x1 : AV) (σ : Store) : CallOK X0 130 [x0, x1] σ (c130 run fu x0 x1 σ) :=
  KOK.body (fn := Tryz.f130) (c := subC [] b130) (by kernel_rfl) (by kernel_rfl) (by show 2 ≤ 8; decide) (KOK.whole env0 hrun (eq130 run fu x0 x1 σ) trivial)

-- (*pub-paratext/pub/rscmarkdown.parseState).parseLinkClose

noncomputable def b131 : Code := match Tryz.f131.body with | some c => c | none => .skip

noncomputable def k131 : Kont R := retK Tryz.prog [.tmp 8, .tmp 9, .tmp 10]

noncomputable def c131_2 (run : RunT) (fu : Nat) (x0 x1 x2 x3 x22 : AV) (σ : Store) : Tr R :=
  nchkK x0 fun x154 =>
  addrK x154 2 fun x155 =>
  ld1K σ x155 fun x156 =>
  nchkK x3 fun x159 =>
  addrK x159 1 fun x160 =>
  ld1K σ x160 fun x161 =>
  sliceSK x1 (some x161) (some x2) fun x163 =>
  calK run 178 [x163] σ fun x164 σ1 =>
  genK (lookK Tryz.prog σ1 99 x156 x164 true) fun x165 σ2 =>
  extK x165 0 fun x166 =>
  extK x165 1 fun x167 =>
  ld1K σ1 x155 fun v3 =>
  must (AV.beq v3 x156) (
  ifK x167 (
  nchkK x166 fun x170 =>
  addrK x170 1 fun x171 =>
  ld1K σ2 x171 fun x172 =>
  nchkK x166 fun x174 =>
  addrK x174 2 fun x175 =>
  ld1K σ2 x175 fun x176 =>
  nchkK x166 fun x178 =>
  addrK x178 4 fun x179 =>
  ld1K σ2 x179 fun x180 =>
  bldK [.nils, (.str []), (.str []), (.int .u8 0), (.bool false)] [(1, 1, x172), (2, 1, x176), (4, 1, x180)] fun x181 =>
  boxK σ2 211 x181 fun x182 σ4 =>
  .ret (.tup [x182, x22, (.bool true)], σ4)) (
  .fail))

theorem eq131_2 (run : RunT) (fu : Nat) (x0 x1 x2 x3 x22 : AV) (σ : Store) : codeK X0 run (.seq (.seq .leaf (.seq .leaf (.cond (.seq .leaf .leaf) (.sub deadK)))) .leaf) (subC [true, true, true, true] b131) (frS 0 184 [(0, x0), (1, x1), (2, x2), (3, x3), (22, x22)]) σ k131 = c131_2 run fu x0 x1 x2 x3 x22 σ := by kernel_rfl

theorem ok131_2 {run : RunT} (hrun : RunOK X0 run) (fu : Nat) : ∀ fr σ, KOK X0 184 (subC [true, true, true, true] b131) fr σ ((fun fr σ => c131_2 run fu (G fr 0) (G fr 1) (G fr 2) (G fr 3) (G fr 22) σ) fr σ) k131 := fun fr σ =>
  KOK.piece env0 hrun [0, 1, 2, 3, 22] (eq131_2 run fu (G fr 0) (G fr 1) (G fr 2) (G fr 3) (G fr 22) σ) ⟨⟨trivial, ⟨trivial, ⟨⟨trivial, trivial⟩, KOK.dead⟩⟩⟩, trivial⟩

noncomputable def c131_1 (run : RunT) (fu : Nat) (x0 x1 x2 x3 : AV) (σ : Store) : Tr R :=
  addK x2 (.int .i64 1) fun x145 =>
  sliceSK x1 (some x145) none fun x148 =>
  calK run 179 [x148, (.str [91, 93])] σ fun x149 σ1 =>
  ifK x149 (
  .fail) (
  c131_2 run fu x0 x1 x2 x3 x145 σ1)

theorem eq131_1 (run : RunT) (fu : Nat) (x0 x1 x2 x3 : AV) (σ : Store) : codeK X0 run (.seq .leaf (.seq (.seq .leaf (.cond (.sub deadK) .leaf)) (.sub (fun fr σ => c131_2 run fu (G fr 0) (G fr 1) (G fr 2) (G fr 3) (G fr 22) σ)))) (subC [true, true] b131) (frS 0 184 [(0, x0), (1, x1), (2, x2), (3, x3)]) σ k131 = c131_1 run fu x0 x1 x2 x3 σ := by kernel_rfl

theorem ok131_1 {run : RunT} (hrun : RunOK X0 run) (fu : Nat) : ∀ fr σ, KOK X0 184 (subC [true, true] b131) fr σ ((fun fr σ => c131_1 run fu (G fr 0) (G fr 1) (G fr 2) (G fr 3) σ) fr σ) k131 := fun fr σ =>
  KOK.piece env0 hrun [0, 1, 2, 3] (eq131_1 run fu (G fr 0) (G fr 1) (G fr 2) (G fr 3) σ) ⟨trivial, ⟨⟨trivial, ⟨KOK.dead, trivial⟩⟩, (ok131_2 hrun fu)⟩⟩

noncomputable def c131 (run : RunT) (fu : Nat) (x0 x1 x2 x3 : AV) (σ : Store) : Tr R :=
  addK x2 (.int .i64 1) fun x26 =>
  lenSK x1 fun x28 =>
  cmpK .lss x26 x28 fun x29 =>
  ifK x29 (
  .fail) (
  c131_1 run fu x0 x1 x2 x3 σ)

theorem eq131 (run : RunT) (fu : Nat) (x0 x1 x2 x3 : AV) (σ : Store) : codeK X0 run (.seq .leaf (.seq (.seq .leaf (.cond (.sub deadK) .leaf)) (.sub (fun fr σ => c131_1 run fu (G fr 0) (G fr 1) (G fr 2) (G fr 3) σ)))) (subC [] b131) ([x0, x1, x2, x3] ++ padA (184 - 4)) σ k131 = c131 run fu x0 x1 x2 x3 σ := by kernel_rfl

theorem ok131 {run : RunT} (hrun : RunOK X0 run) (fu : Nat) (x0 x1 x2 x3 : AV) (σ : Store) : CallOK X0 131 [x0, x1, x2, x3] σ (c131 run fu x0 x1 x2 x3 σ) :=
  KOK.body (fn := Tryz.f131) (c := subC [] b131) (by kernel_rfl) (by kernel_rfl) (by show 4 ≤ 184; decide) (KOK.whole env0 hrun (eq131 run fu x0 x1 x2 x3 σ) ⟨trivial, ⟨⟨trivial, ⟨KOK.dead, trivial⟩⟩, (ok131_1 hrun fu)⟩⟩)

-- (*pub-paratext/pub/rscmarkdown.parseState).emph

noncomputable def b133 : Code := match Tryz.f133.body with | some c => c | none => .skip

noncomputable def k133 : Kont R := retK Tryz.prog [.tmp 6]

noncomputable def c133_1 (run : RunT) (fu : Nat) (x4 : AV) (σ : Store) : Tr R :=
  ld1K σ x4 fun x435 =>
  .ret (x435, σ)

theorem eq133_1 (run : RunT) (fu : Nat) (x4 : AV) (σ : Store) : codeK X0 run (.seq .leaf .leaf) (subC [true, false, true, true, true, true, true] b133) (frS 0 436 [(4, x4)]) σ (noGotoK k133) = c133_1 run fu x4 σ := by kernel_rfl

theorem ok133_1 {run : RunT} (hrun : RunOK X0 run) (fu : Nat) : ∀ fr σ, KOK X0 436 (subC [true, false, true, true, true, true, true] b133) fr σ ((fun fr σ => c133_1 run fu (G fr 4) σ) fr σ) (noGotoK k133) := fun fr σ =>
  KOK.piece env0 hrun [4] (eq133_1 run fu (G fr 4) σ) ⟨trivial, trivial⟩

noncomputable def c133_3 (run : RunT) (fu : Nat) (s2 : W6) (x2 x4 x7 x8 x9 x10 : AV) (σ : Store) : Tr R :=
  addK x10 (.int .i64 1) fun x28 =>
  s2 x2 x4 x7 x8 x9 x28 σ

theorem eq133_3 (run : RunT) (fu : Nat) (s2 : W6) (x2 x4 x7 x8 x9 x10 : AV) (σ : Store) : codeK X0 run .leaf (subC [true, false, true, true, true, true, false, true, false, false, true, true] b133) (frS 0 436 [(2, x2), (4, x4), (7, x7), (8, x8), (9, x9), (10, x10)]) σ (thenK (fun fr σ => s2 (G fr 2) (G fr 4) (G fr 7) (G fr 8) (G fr 9) (G fr 10) σ) (blockK 0 (thenK (fun fr σ => c133_1 run fu (G fr 4) σ) (noGotoK k133)))) = c133_3 run fu s2 x2 x4 x7 x8 x9 x10 σ := by kernel_rfl

theorem ok133_3 {run : RunT} (hrun : RunOK X0 run) (fu : Nat) (s2 : W6) : ∀ fr σ, KOK X0 436 (subC [true, false, true, true, true, true, false, true, false, false, true, true] b133) fr σ ((fun fr σ => c133_3 run fu s2 (G fr 2) (G fr 4) (G fr 7) (G fr 8) (G fr 9) (G fr 10) σ) fr σ) (thenK (fun fr σ => s2 (G fr 2) (G fr 4) (G fr 7) (G fr 8) (G fr 9) (G fr 10) σ) (blockK 0 (thenK (fun fr σ => c133_1 run fu (G fr 4) σ) (noGotoK k133)))) := fun fr σ =>
  KOK.piece env0 hrun [2, 4, 7, 8, 9, 10] (eq133_3 run fu s2 (G fr 2) (G fr 4) (G fr 7) (G fr 8) (G fr 9) (G fr 10) σ) trivial

noncomputable def c133_2b (run : RunT) (fu : Nat) (s2 : W6) (x2 x4 x7 x8 x9 x10 : AV) (σ : Store) : Tr R :=
  lenLK x2 fun x25 =>
  cmpK .lss x10 x25 fun x26 =>
  ifK x26 (
  idxK 1 x2 x10 fun x32 =>
  ld1K σ x32 fun x33 =>
  tasK (some .nilp) 249 true x33 fun x34 =>
  extK x34 0 fun x35 =>
  extK x34 1 fun x36 =>
  ifK x36 (
  .fail) (
  idxK 1 x2 x10 fun x48 =>
  ld1K σ x48 fun x49 =>
  tasK (some .nilp) 287 true x49 fun x50 =>
  extK x50 0 fun x51 =>
  extK x50 1 fun x52 =>
  notK x52 fun x54 =>
  ifK x54 (
  ld1K σ x4 fun x55 =>
  idxK 1 x2 x10 fun x58 =>
  ld1K σ x58 fun x59 =>
  opt (fillK [.nili] [(0, 1, x59)]) fun cs => newSK σ 335 cs 1 1 fun x60 σ1 =>
  appK 167 1 16 σ1 x55 x60 fun x61 σ2 =>
  st1K σ2 x4 x61 fun _ σ3 =>
  ld1K σ1 x4 fun v4 =>
  must (AV.beq v4 x55) (
  c133_3 run fu s2 x2 x4 x7 x8 x9 x10 σ3)) (
  .fail))) (
  c133_1 run fu x4 σ)

noncomputable def c133_2 (run : RunT) (fu : Nat) : Nat → W6
  | 0 => fun _ _ _ _ _ _ _ => .fail
  | m + 1 => c133_2b run fu (c133_2 run fu m)

theorem eq133_2 (run : RunT) (fu : Nat) (s2 : W6) (x2 x4 x7 x8 x9 x10 : AV) (σ : Store) : codeK X0 run (.seq (.seq .leaf (.cond .leaf .leaf)) (.seq (.block (.seq (.seq .leaf (.seq .leaf (.cond (.sub deadK) .leaf))) (.seq .leaf (.seq (.seq .leaf (.cond (.seq .leaf .leaf) (.sub deadK))) .leaf)))) (.sub (fun fr σ => c133_3 run fu s2 (G fr 2) (G fr 4) (G fr 7) (G fr 8) (G fr 9) (G fr 10) σ)))) (subC [true, false, true, true, true, true, false, true, false, false] b133) (frS 0 436 [(2, x2), (4, x4), (7, x7), (8, x8), (9, x9), (10, x10)]) σ (thenK (fun fr σ => s2 (G fr 2) (G fr 4) (G fr 7) (G fr 8) (G fr 9) (G fr 10) σ) (blockK 0 (thenK (fun fr σ => c133_1 run fu (G fr 4) σ) (noGotoK k133)))) = c133_2b run fu s2 x2 x4 x7 x8 x9 x10 σ := by kernel_rfl

theorem owed133_2 {run : RunT} (hrun : RunOK X0 run) (fu : Nat) (s2 : W6) : Owes X0 run 436 (.seq (.seq .leaf (.cond .leaf .leaf)) (.seq (.block (.seq (.seq .leaf (.seq .leaf (.cond (.sub deadK) .leaf))) (.seq .leaf (.seq (.seq .leaf (.cond (.seq .leaf .leaf) (.sub deadK))) .leaf)))) (.sub (fun fr σ => c133_3 run fu s2 (G fr 2) (G fr 4) (G fr 7) (G fr 8) (G fr 9) (G fr 10) σ)))) (subC [true, false, true, true, true, true, false, true, false, false] b133) (thenK (fun fr σ => s2 (G fr 2) (G fr 4) (G fr 7) (G fr 8) (G fr 9) (G fr 10) σ) (blockK 0 (thenK (fun fr σ => c133_1 run fu (G fr 4) σ) (noGotoK k133)))) :=
  ⟨⟨trivial, ⟨trivial, trivial⟩⟩, ⟨⟨⟨trivial, ⟨trivial, ⟨KOK.dead, trivial⟩⟩⟩, ⟨trivial, ⟨⟨trivial, ⟨⟨trivial, trivial⟩, KOK.dead⟩⟩, trivial⟩⟩⟩, (ok133_3 hrun fu s2)⟩⟩

theorem ok133_2 {run : RunT} (hrun : RunOK X0 run) (fu : Nat) : ∀ fr σ, KOK X0 436 (subC [true, false, true, true, true, true, false, true, false] b133) fr σ ((fun fr σ => c133_2 run fu fu (G fr 2) (G fr 4) (G fr 7) (G fr 8) (G fr 9) (G fr 10) σ) fr σ) (blockK 0 (thenK (fun fr σ => c133_1 run fu (G fr 4) σ) (noGotoK k133))) := by
  have h := KOK.loop (X := X0) (N := 436) (b := (subC [true, false, true, true, true, true, false, true, false, false] b133)) (k := (blockK 0 (thenK (fun fr σ => c133_1 run fu (G fr 4) σ) (noGotoK k133)))) (u := fun m fr σ => c133_2 run fu m (G fr 2) (G fr 4) (G fr 7) (G fr 8) (G fr 9) (G fr 10) σ) (fun _ _ => rfl) (fun m fr σ => KOK.piece env0 hrun [2, 4, 7, 8, 9, 10] (eq133_2 run fu (c133_2 run fu m) (G fr 2) (G fr 4) (G fr 7) (G fr 8) (G fr 9) (G fr 10) σ) (owed133_2 hrun fu (c133_2 run fu m)))
  exact fun fr σ => h fu fr σ

noncomputable def c133 (run : RunT) (fu : Nat) (x0 x1 x2 : AV) (σ : Store) : Tr R :=
  boxK σ 207 x1 fun x4 σ1 =>
  newK σ1 607 [.nils, .nils, .nils, .nils, .nils] fun x7 σ2 =>
  c133_2 run fu fu x2 x4 x7 (.fn (.func 180) [] []) (.fn (.func 181) [] [x7, x4]) (.int .i64 0) σ2

theorem eq133 (run : RunT) (fu : Nat) (x0 x1 x2 : AV) (σ : Store) : codeK X0 run (.seq .leaf (.scope (.seq .leaf (.seq .leaf (.seq .leaf (.seq .leaf (.seq (.seq .leaf (.block (.sub (fun fr σ => c133_2 run fu fu (G fr 2) (G fr 4) (G fr 7) (G fr 8) (G fr 9) (G fr 10) σ)))) (.sub (fun fr σ => c133_1 run fu (G fr 4) σ))))))))) (subC [] b133) ([x0, x1, x2] ++ padA (436 - 3)) σ k133 = c133 run fu x0 x1 x2 σ := by kernel_rfl

theorem ok133 {run : RunT} (hrun : RunOK X0 run) (fu : Nat) (x0 x1 x2 : AV) (σ : Store) : CallOK X0 133 [x0, x1, x2] σ (c133 run fu x0 x1 x2 σ) :=
  KOK.body (fn := Tryz.f133) (c := subC [] b133) (by kernel_rfl) (by kernel_rfl) (by show 3 ≤ 436; decide) (KOK.whole env0 hrun (eq133 run fu x0 x1 x2 σ) ⟨trivial, ⟨trivial, ⟨trivial, ⟨trivial, ⟨trivial, ⟨⟨trivial, (ok133_2 hrun fu)⟩, (ok133_1 hrun fu)⟩⟩⟩⟩⟩⟩)

-- (*pub-paratext/pub/rscmarkdown.parseState).mergePlain

noncomputable def b134 : Code := match Tryz.f134.body with | some c => c | none => .skip

noncomputable def k134 : Kont R := retK Tryz.prog [.tmp 4]

noncomputable def c134_1 (run : RunT) (fu : Nat) (x5 : AV) (σ : Store) : Tr R :=
  .ret (x5, σ)

theorem eq134_1 (run : RunT) (fu : Nat) (x5 : AV) (σ : Store) : codeK X0 run (.seq .leaf .leaf) (subC [true, true, true, true] b134) (frS 0 50 [(5, x5)]) σ k134 = c134_1 run fu x5 σ := by kernel_rfl

theorem ok134_1 {run : RunT} (hrun : RunOK X0 run) (fu : Nat) : ∀ fr σ, KOK X0 50 (subC [true, true, true, true] b134) fr σ ((fun fr σ => c134_1 run fu (G fr 5) σ) fr σ) k134 := fun fr σ =>
  KOK.piece env0 hrun [5] (eq134_1 run fu (G fr 5) σ) ⟨trivial, trivial⟩

noncomputable def c134_3 (run : RunT) (fu : Nat) (s2 : W4) (x1 x5 x6 x7 : AV) (σ : Store) : Tr R :=
  addK x7 (.int .i64 1) fun x11 =>
  s2 x1 x5 x6 x11 σ

theorem eq134_3 (run : RunT) (fu : Nat) (s2 : W4) (x1 x5 x6 x7 : AV) (σ : Store) : codeK X0 run .leaf (subC [true, true, true, false, true, false, false, true] b134) (frS 0 50 [(1, x1), (5, x5), (6, x6), (7, x7)]) σ (thenK (fun fr σ => s2 (G fr 1) (G fr 5) (G fr 6) (G fr 7) σ) (blockK 0 (thenK (fun fr σ => c134_1 run fu (G fr 5) σ) k134))) = c134_3 run fu s2 x1 x5 x6 x7 σ := by kernel_rfl

theorem ok134_3 {run : RunT} (hrun : RunOK X0 run) (fu : Nat) (s2 : W4) : ∀ fr σ, KOK X0 50 (subC [true, true, true, false, true, false, false, true] b134) fr σ ((fun fr σ => c134_3 run fu s2 (G fr 1) (G fr 5) (G fr 6) (G fr 7) σ) fr σ) (thenK (fun fr σ => s2 (G fr 1) (G fr 5) (G fr 6) (G fr 7) σ) (blockK 0 (thenK (fun fr σ => c134_1 run fu (G fr 5) σ) k134))) := fun fr σ =>
  KOK.piece env0 hrun [1, 5, 6, 7] (eq134_3 run fu s2 (G fr 1) (G fr 5) (G fr 6) (G fr 7) σ) trivial

noncomputable def c134_4 (run : RunT) (fu : Nat) (s2 : W4) (x1 x5 x7 : AV) (σ : Store) : Tr R :=
  lenLK x1 fun x38 =>
  cmpK .geq x7 x38 fun x39 =>
  ifK x39 (
  c134_1 run fu x5 σ) (
  idxK 1 x1 x7 fun x43 =>
  ld1K σ x43 fun x44 =>
  opt (fillK [.nili] [(0, 1, x44)]) fun cs => newSK σ 335 cs 1 1 fun x45 σ1 =>
  appK 167 1 16 σ1 x5 x45 fun x46 σ2 =>
  addK x7 (.int .i64 1) fun x48 =>
  c134_3 run fu s2 x1 x46 x48 x7 σ2)

theorem eq134_4 (run : RunT) (fu : Nat) (s2 : W4) (x1 x5 x7 : AV) (σ : Store) : codeK X0 run (.seq (.seq .leaf (.cond .leaf .leaf)) (.seq .leaf .leaf)) (subC [true, true, true, false, true, false, false, false, false, true, true] b134) (frS 0 50 [(1, x1), (5, x5), (7, x7)]) σ (blockK 1 (thenK (fun fr σ => c134_3 run fu s2 (G fr 1) (G fr 5) (G fr 6) (G fr 7) σ) (thenK (fun fr σ => s2 (G fr 1) (G fr 5) (G fr 6) (G fr 7) σ) (blockK 0 (thenK (fun fr σ => c134_1 run fu (G fr 5) σ) k134))))) = c134_4 run fu s2 x1 x5 x7 σ := by kernel_rfl

theorem ok134_4 {run : RunT} (hrun : RunOK X0 run) (fu : Nat) (s2 : W4) : ∀ fr σ, KOK X0 50 (subC [true, true, true, false, true, false, false, false, false, true, true] b134) fr σ ((fun fr σ => c134_4 run fu s2 (G fr 1) (G fr 5) (G fr 7) σ) fr σ) (blockK 1 (thenK (fun fr σ => c134_3 run fu s2 (G fr 1) (G fr 5) (G fr 6) (G fr 7) σ) (thenK (fun fr σ => s2 (G fr 1) (G fr 5) (G fr 6) (G fr 7) σ) (blockK 0 (thenK (fun fr σ => c134_1 run fu (G fr 5) σ) k134))))) := fun fr σ =>
  KOK.piece env0 hrun [1, 5, 7] (eq134_4 run fu s2 (G fr 1) (G fr 5) (G fr 7) σ) ⟨⟨trivial, ⟨trivial, trivial⟩⟩, ⟨trivial, trivial⟩⟩

noncomputable def c134_2b (run : RunT) (fu : Nat) (s2 : W4) (x1 x5 x6 x7 : AV) (σ : Store) : Tr R :=
  lenLK x1 fun x14 =>
  cmpK .lss x7 x14 fun x15 =>
  grdK x15 true σ (fun f => f x1 σ) fun x17 σ1 =>
  grdK x15 true σ1 (fun f => f x7 σ1) fun x18 σ2 =>
  grdK x15 true σ2 (fun f => idxK 1 x17 x18 fun v => f v σ2) fun x19 σ3 =>
  grdK x15 true σ3 (fun f => ld1K σ3 x19 fun v => f v σ3) fun x20 σ4 =>
  grdK x15 true σ4 (fun f => calK run 142 [x20] σ4 f) fun x21 σ5 =>
  grdK x15 true σ5 (fun f => neOK (nilEq nilP) x21 .nilp fun v => f v σ5) fun x22 σ6 =>
  pickK x15 x22 (.bool false) fun x23 =>
  ifK x23 (
  .fail) (
  cmpK .lss x6 x7 fun x26 =>
  ifK x26 (
  .fail) (
  c134_4 run fu s2 x1 x5 x7 σ6))

noncomputable def c134_2 (run : RunT) (fu : Nat) : Nat → W4
  | 0 => fun _ _ _ _ _ => .fail
  | m + 1 => c134_2b run fu (c134_2 run fu m)

theorem eq134_2 (run : RunT) (fu : Nat) (s2 : W4) (x1 x5 x6 x7 : AV) (σ : Store) : codeK X0 run (.seq (.block (.seq (.seq .leaf (.cond (.sub deadK) .leaf)) (.seq (.seq .leaf (.cond (.sub deadK) .leaf)) (.sub (fun fr σ => c134_4 run fu s2 (G fr 1) (G fr 5) (G fr 7) σ))))) (.sub (fun fr σ => c134_3 run fu s2 (G fr 1) (G fr 5) (G fr 6) (G fr 7) σ))) (subC [true, true, true, false, true, false, false] b134) (frS 0 50 [(1, x1), (5, x5), (6, x6), (7, x7)]) σ (thenK (fun fr σ => s2 (G fr 1) (G fr 5) (G fr 6) (G fr 7) σ) (blockK 0 (thenK (fun fr σ => c134_1 run fu (G fr 5) σ) k134))) = c134_2b run fu s2 x1 x5 x6 x7 σ := by kernel_rfl

theorem owed134_2 {run : RunT} (hrun : RunOK X0 run) (fu : Nat) (s2 : W4) : Owes X0 run 50 (.seq (.block (.seq (.seq .leaf (.cond (.sub deadK) .leaf)) (.seq (.seq .leaf (.cond (.sub deadK) .leaf)) (.sub (fun fr σ => c134_4 run fu s2 (G fr 1) (G fr 5) (G fr 7) σ))))) (.sub (fun fr σ => c134_3 run fu s2 (G fr 1) (G fr 5) (G fr 6) (G fr 7) σ))) (subC [true, true, true, false, true, false, false] b134) (thenK (fun fr σ => s2 (G fr 1) (G fr 5) (G fr 6) (G fr 7) σ) (blockK 0 (thenK (fun fr σ => c134_1 run fu (G fr 5) σ) k134))) :=
  ⟨⟨⟨trivial, ⟨KOK.dead, trivial⟩⟩, ⟨⟨trivial, ⟨KOK.dead, trivial⟩⟩, (ok134_4 hrun fu s2)⟩⟩, (ok134_3 hrun fu s2)⟩

theorem ok134_2 {run : RunT} (hrun : RunOK X0 run) (fu : Nat) : ∀ fr σ, KOK X0 50 (subC [true, true, true, false, true, false] b134) fr σ ((fun fr σ => c134_2 run fu fu (G fr 1) (G fr 5) (G fr 6) (G fr 7) σ) fr σ) (blockK 0 (thenK (fun fr σ => c134_1 run fu (G fr 5) σ) k134)) := by
  have h := KOK.loop (X := X0) (N := 50) (b := (subC [true, true, true, false, true, false, false] b134)) (k := (blockK 0 (thenK (fun fr σ => c134_1 run fu (G fr 5) σ) k134))) (u := fun m fr σ => c134_2 run fu m (G fr 1) (G fr 5) (G fr 6) (G fr 7) σ) (fun _ _ => rfl) (fun m fr σ => KOK.piece env0 hrun [1, 5, 6, 7] (eq134_2 run fu (c134_2 run fu m) (G fr 1) (G fr 5) (G fr 6) (G fr 7) σ) (owed134_2 hrun fu (c134_2 run fu m)))
  exact fun fr σ => h fu fr σ

noncomputable def c134 (run : RunT) (fu : Nat) (x0 x1 : AV) (σ : Store) : Tr R :=
  sliceLK Tryz.prog σ 103 x1 none (some (.int .i64 0)) fun x9 =>
  c134_2 run fu fu x1 x9 (.int .i64 0) (.int .i64 0) σ

theorem eq134 (run : RunT) (fu : Nat) (x0 x1 : AV) (σ : Store) : codeK X0 run (.seq .leaf (.seq .leaf (.seq .leaf (.seq (.seq .leaf (.block (.sub (fun fr σ => c134_2 run fu fu (G fr 1) (G fr 5) (G fr 6) (G fr 7) σ)))) (.sub (fun fr σ => c134_1 run fu (G fr 5) σ)))))) (subC [] b134) ([x0, x1] ++ padA (50 - 2)) σ k134 = c134 run fu x0 x1 σ := by kernel_rfl

theorem ok134 {run : RunT} (hrun : RunOK X0 run) (fu : Nat) (x0 x1 : AV) (σ : Store) : CallOK X0 134 [x0, x1] σ (c134 run fu x0 x1 σ) :=
  KOK.body (fn := Tryz.f134) (c := subC [] b134) (by kernel_rfl) (by kernel_rfl) (by show 2 ≤ 50; decide) (KOK.whole env0 hrun (eq134 run fu x0 x1 σ) ⟨trivial, ⟨trivial, ⟨trivial, ⟨⟨trivial, (ok134_2 hrun fu)⟩, (ok134_1 hrun fu)⟩⟩⟩⟩)

-- (*pub-paratext/pub/rscmarkdown.parseState).autoLinkText

noncomputable def b135 : Code := match Tryz.f135.body with | some c => c | none => .skip

noncomputable def k135 : Kont R := retK Tryz.prog [.tmp 4]

noncomputable def c135 (run : RunT) (fu : Nat) (x0 x1 : AV) (σ : Store) : Tr R :=
  nchkK x0 fun x14 =>
  addrK x14 0 fun x15 =>
  ld1K σ x15 fun x16 =>
  nchkK x16 fun x17 =>
  addrK x17 3 fun x18 =>
  ld1K σ x18 fun x19 =>
  notK x19 fun x20 =>
  ifK x20 (
  .ret (x1, σ)) (
  .fail)

theorem eq135 (run : RunT) (fu : Nat) (x0 x1 : AV) (σ : Store) : codeK X0 run (.seq .leaf (.seq (.seq .leaf (.cond (.seq .leaf .leaf) (.sub deadK))) .leaf)) (subC [] b135) ([x0, x1] ++ padA (98 - 2)) σ k135 = c135 run fu x0 x1 σ := by kernel_rfl

theorem ok135 {run : RunT} (hrun : RunOK X0 run) (fu : Nat) (x0 x1 : AV) (σ : Store) : CallOK X0 135 [x0, x1] σ (c135 run fu x0 x1 σ) :=
  KOK.body (fn := Tryz.f135) (c := subC [] b135) (by kernel_rfl) (by kernel_rfl) (by show 2 ≤ 98; decide) (KOK.whole env0 hrun (eq135 run fu x0 x1 σ) ⟨trivial, ⟨⟨trivial, ⟨⟨trivial, trivial⟩, KOK.dead⟩⟩, trivial⟩⟩)

-- pub-paratext/pub/rscmarkdown.toPlain

noncomputable def b142 : Code := match Tryz.f142.body with | some c => c | none => .skip

noncomputable def k142 : Kont R := retK Tryz.prog [.tmp 2]

noncomputable def c142 (run : RunT) (fu : Nat) (x0 : AV) (σ : Store) : Tr R :=
  tasK (some .nilp) 204 true x0 fun x7 =>
  extK x7 1 fun x8 =>
  extK x7 0 fun x9 =>
  ifK x8 (
  .fail) (
  tasK (some .nilp) 287 true x0 fun x11 =>
  extK x11 1 fun x12 =>
  extK x11 0 fun x13 =>
  ifK x12 (
  .fail) (
  tasK (some .nilp) 249 true x0 fun x17 =>
  extK x17 1 fun x18 =>
  extK x17 0 fun x19 =>
  ifK x18 (
  .fail) (
  .ret (.nilp, σ))))

theorem eq142 (run : RunT) (fu : Nat) (x0 : AV) (σ : Store) : codeK X0 run (.seq .leaf (.seq (.seq .leaf (.block (.seq .leaf (.cond (.sub deadK) (.seq .leaf (.cond (.sub deadK) (.seq .leaf (.cond (.sub deadK) .leaf)))))))) (.seq .leaf .leaf))) (subC [] b142) ([x0] ++ padA (23 - 1)) σ k142 = c142 run fu x0 σ := by kernel_rfl

theorem ok142 {run : RunT} (hrun : RunOK X0 run) (fu : Nat) (x0 : AV) (σ : Store) : CallOK X0 142 [x0] σ (c142 run fu x0 σ) :=
  KOK.body (fn := Tryz.f142) (c := subC [] b142) (by kernel_rfl) (by kernel_rfl) (by show 1 ≤ 23; decide) (KOK.whole env0 hrun (eq142 run fu x0 σ) ⟨trivial, ⟨⟨trivial, ⟨trivial, ⟨KOK.dead, ⟨trivial, ⟨KOK.dead, ⟨trivial, ⟨KOK.dead, trivial⟩⟩⟩⟩⟩⟩⟩, ⟨trivial, trivial⟩⟩⟩)

end Go.Proofs.YtpefmbpjanafkaaGreatDoor
