/- Functions of the program, told as Lean functions of abstract values and stores, each with its proof. -/
import Derived.Test.YtpefmbpjanafkaaGreatDoorSnX
import Derived.Test.YtpefmbpjanafkaaGreatDoorSnRe
import Derived.Test.YtpefmbpjanafkaaGreatDoorSnAb
set_option linter.unusedVariables false
set_option linter.unusedSimpArgs false
namespace Go.Proofs.YtpefmbpjanafkaaGreatDoor
open Go.AM
-- pub-paratext/laws.only

noncomputable def b32 : Code := match Tryz.f32.body with | some c => c | none => .skip

noncomputable def k32 : Kont R := retK Tryz.prog [.tmp 6]

noncomputable def c32_1 (run : RunT) (fu : Nat) (σ : Store) : Tr R :=
  .ret ((.bool true), σ)

theorem eq32_1 (run : RunT) (fu : Nat) (σ : Store) : codeK X0 run (.seq .leaf .leaf) (subC [true, true, true] b32) (frS 0 24 []) σ k32 = c32_1 run fu σ := by kernel_rfl

theorem ok32_1 {run : RunT} (hrun : RunOK X0 run) (fu : Nat) : ∀ fr σ, KOK X0 24 (subC [true, true, true] b32) fr σ ((fun fr σ => c32_1 run fu σ) fr σ) k32 := fun fr σ =>
  KOK.piece env0 hrun [] (eq32_1 run fu σ) ⟨trivial, trivial⟩

noncomputable def c32_2b (run : RunT) (fu : Nat) (s2 : W4) (x0 x1 x13 x14 : AV) (σ : Store) : Tr R :=
  cmpK .lss x14 x13 fun x15 =>
  ifK x15 (
  idxSK x0 x14 fun x20 =>
  calK run 51 [x1, x20] σ fun x21 σ1 =>
  cmpK .lss x21 (.int .i64 0) fun x22 =>
  ifK x22 (
  .ret ((.bool false), σ1)) (
  addK x14 (.int .i64 1) fun x23 =>
  s2 x0 x1 x13 x23 σ1)) (
  c32_1 run fu σ)

noncomputable def c32_2 (run : RunT) (fu : Nat) : Nat → W4
  | 0 => fun _ _ _ _ _ => .fail
  | m + 1 => c32_2b run fu (c32_2 run fu m)

theorem eq32_2 (run : RunT) (fu : Nat) (s2 : W4) (x0 x1 x13 x14 : AV) (σ : Store) : codeK X0 run (.seq .leaf (.seq (.cond .leaf .leaf) (.seq (.block (.seq .leaf (.seq .leaf (.cond (.seq .leaf .leaf) .leaf)))) .leaf))) (subC [true, true, false, true, false, false] b32) (frS 0 24 [(0, x0), (1, x1), (13, x13), (14, x14)]) σ (thenK (fun fr σ => s2 (G fr 0) (G fr 1) (G fr 13) (G fr 14) σ) (blockK 0 (thenK (fun fr σ => c32_1 run fu σ) k32))) = c32_2b run fu s2 x0 x1 x13 x14 σ := by kernel_rfl

theorem owed32_2 {run : RunT} (hrun : RunOK X0 run) (fu : Nat) (s2 : W4) : Owes X0 run 24 (.seq .leaf (.seq (.cond .leaf .leaf) (.seq (.block (.seq .leaf (.seq .leaf (.cond (.seq .leaf .leaf) .leaf)))) .leaf))) (subC [true, true, false, true, false, false] b32) (thenK (fun fr σ => s2 (G fr 0) (G fr 1) (G fr 13) (G fr 14) σ) (blockK 0 (thenK (fun fr σ => c32_1 run fu σ) k32))) :=
  ⟨trivial, ⟨⟨trivial, trivial⟩, ⟨⟨trivial, ⟨trivial, ⟨⟨trivial, trivial⟩, trivial⟩⟩⟩, trivial⟩⟩⟩

theorem ok32_2 {run : RunT} (hrun : RunOK X0 run) (fu : Nat) : ∀ fr σ, KOK X0 24 (subC [true, true, false, true, false] b32) fr σ ((fun fr σ => c32_2 run fu fu (G fr 0) (G fr 1) (G fr 13) (G fr 14) σ) fr σ) (blockK 0 (thenK (fun fr σ => c32_1 run fu σ) k32)) := by
  have h := KOK.loop (X := X0) (N := 24) (b := (subC [true, true, false, true, false, false] b32)) (k := (blockK 0 (thenK (fun fr σ => c32_1 run fu σ) k32))) (u := fun m fr σ => c32_2 run fu m (G fr 0) (G fr 1) (G fr 13) (G fr 14) σ) (fun _ _ => rfl) (fun m fr σ => KOK.piece env0 hrun [0, 1, 13, 14] (eq32_2 run fu (c32_2 run fu m) (G fr 0) (G fr 1) (G fr 13) (G fr 14) σ) (owed32_2 hrun fu (c32_2 run fu m)))
  exact fun fr σ => h fu fr σ

noncomputable def c32 (run : RunT) (fu : Nat) (x0 x1 x2 : AV) (σ : Store) : Tr R :=
  lenSK x0 fun x9 =>
  cmpK .gtr x9 x2 fun x11 =>
  ifK x11 (
  .ret ((.bool false), σ)) (
  lenSK x0 fun x13 =>
  c32_2 run fu fu x0 x1 x13 (.int .i64 0) σ)

theorem eq32 (run : RunT) (fu : Nat) (x0 x1 x2 : AV) (σ : Store) : codeK X0 run (.seq .leaf (.seq (.seq .leaf (.cond (.seq .leaf .leaf) .leaf)) (.seq (.seq .leaf (.block (.sub (fun fr σ => c32_2 run fu fu (G fr 0) (G fr 1) (G fr 13) (G fr 14) σ)))) (.sub (fun fr σ => c32_1 run fu σ))))) (subC [] b32) ([x0, x1, x2] ++ padA (24 - 3)) σ k32 = c32 run fu x0 x1 x2 σ := by kernel_rfl

theorem ok32 {run : RunT} (hrun : RunOK X0 run) (fu : Nat) (x0 x1 x2 : AV) (σ : Store) : CallOK X0 32 [x0, x1, x2] σ (c32 run fu x0 x1 x2 σ) :=
  KOK.body (fn := Tryz.f32) (c := subC [] b32) (by kernel_rfl) (by kernel_rfl) (by show 3 ≤ 24; decide) (KOK.whole env0 hrun (eq32 run fu x0 x1 x2 σ) ⟨trivial, ⟨⟨trivial, ⟨⟨trivial, trivial⟩, trivial⟩⟩, ⟨⟨trivial, (ok32_2 hrun fu)⟩, (ok32_1 hrun fu)⟩⟩⟩)

-- pub-paratext/pub/rscmarkdown.zzContains

noncomputable def b86 : Code := match Tryz.f86.body with | some c => c | none => .skip

noncomputable def k86 : Kont R := retK Tryz.prog [.tmp 4]

noncomputable def c86 (run : RunT) (fu : Nat) (x0 x1 : AV) (σ : Store) : Tr R :=
  calK run 89 [x0, x1] σ fun x7 σ1 =>
  cmpK .geq x7 (.int .i64 0) fun x8 =>
  .ret (x8, σ1)

theorem eq86 (run : RunT) (fu : Nat) (x0 x1 : AV) (σ : Store) : codeK X0 run (.seq .leaf (.seq .leaf .leaf)) (subC [] b86) ([x0, x1] ++ padA (9 - 2)) σ k86 = c86 run fu x0 x1 σ := by kernel_rfl

theorem ok86 {run : RunT} (hrun : RunOK X0 run) (fu : Nat) (x0 x1 : AV) (σ : Store) : CallOK X0 86 [x0, x1] σ (c86 run fu x0 x1 σ) :=
  KOK.body (fn := Tryz.f86) (c := subC [] b86) (by kernel_rfl) (by kernel_rfl) (by show 2 ≤ 9; decide) (KOK.whole env0 hrun (eq86 run fu x0 x1 σ) ⟨trivial, ⟨trivial, trivial⟩⟩)

-- pub-paratext/pub/rscmarkdown.zzIndex

noncomputable def b89 : Code := match Tryz.f89.body with | some c => c | none => .skip

noncomputable def k89 : Kont R := retK Tryz.prog [.tmp 4]

noncomputable def c89_1 (run : RunT) (fu : Nat) (σ : Store) : Tr R :=
  .ret ((.int .i64 (-1)), σ)

theorem eq89_1 (run : RunT) (fu : Nat) (σ : Store) : codeK X0 run (.seq .leaf .leaf) (subC [true, true] b89) (frS 0 25 []) σ k89 = c89_1 run fu σ := by kernel_rfl

theorem ok89_1 {run : RunT} (hrun : RunOK X0 run) (fu : Nat) : ∀ fr σ, KOK X0 25 (subC [true, true] b89) fr σ ((fun fr σ => c89_1 run fu σ) fr σ) k89 := fun fr σ =>
  KOK.piece env0 hrun [] (eq89_1 run fu σ) ⟨trivial, trivial⟩

noncomputable def c89_2b (run : RunT) (fu : Nat) (s2 : W3) (x0 x1 x5 : AV) (σ : Store) : Tr R :=
  lenSK x1 fun x8 =>
  addK x5 x8 fun x9 =>
  lenSK x0 fun x11 =>
  cmpK .leq x9 x11 fun x12 =>
  ifK x12 (
  lenSK x1 fun x19 =>
  addK x5 x19 fun x20 =>
  sliceSK x0 (some x5) (some x20) fun x21 =>
  eqSK x21 x1 fun x23 =>
  ifK x23 (
  .ret (x5, σ)) (
  addK x5 (.int .i64 1) fun x14 =>
  s2 x0 x1 x14 σ)) (
  c89_1 run fu σ)

noncomputable def c89_2 (run : RunT) (fu : Nat) : Nat → W3
  | 0 => fun _ _ _ _ => .fail
  | m + 1 => c89_2b run fu (c89_2 run fu m)

theorem eq89_2 (run : RunT) (fu : Nat) (s2 : W3) (x0 x1 x5 : AV) (σ : Store) : codeK X0 run (.seq (.seq .leaf (.cond .leaf .leaf)) (.seq (.block (.seq .leaf (.cond (.seq .leaf .leaf) .leaf))) .leaf)) (subC [true, false, true, false, false] b89) (frS 0 25 [(0, x0), (1, x1), (5, x5)]) σ (thenK (fun fr σ => s2 (G fr 0) (G fr 1) (G fr 5) σ) (blockK 0 (thenK (fun fr σ => c89_1 run fu σ) k89))) = c89_2b run fu s2 x0 x1 x5 σ := by kernel_rfl

theorem owed89_2 {run : RunT} (hrun : RunOK X0 run) (fu : Nat) (s2 : W3) : Owes X0 run 25 (.seq (.seq .leaf (.cond .leaf .leaf)) (.seq (.block (.seq .leaf (.cond (.seq .leaf .leaf) .leaf))) .leaf)) (subC [true, false, true, false, false] b89) (thenK (fun fr σ => s2 (G fr 0) (G fr 1) (G fr 5) σ) (blockK 0 (thenK (fun fr σ => c89_1 run fu σ) k89))) :=
  ⟨⟨trivial, ⟨trivial, trivial⟩⟩, ⟨⟨trivial, ⟨⟨trivial, trivial⟩, trivial⟩⟩, trivial⟩⟩

theorem ok89_2 {run : RunT} (hrun : RunOK X0 run) (fu : Nat) : ∀ fr σ, KOK X0 25 (subC [true, false, true, false] b89) fr σ ((fun fr σ => c89_2 run fu fu (G fr 0) (G fr 1) (G fr 5) σ) fr σ) (blockK 0 (thenK (fun fr σ => c89_1 run fu σ) k89)) := by
  have h := KOK.loop (X := X0) (N := 25) (b := (subC [true, false, true, false, false] b89)) (k := (blockK 0 (thenK (fun fr σ => c89_1 run fu σ) k89))) (u := fun m fr σ => c89_2 run fu m (G fr 0) (G fr 1) (G fr 5) σ) (fun _ _ => rfl) (fun m fr σ => KOK.piece env0 hrun [0, 1, 5] (eq89_2 run fu (c89_2 run fu m) (G fr 0) (G fr 1) (G fr 5) σ) (owed89_2 hrun fu (c89_2 run fu m)))
  exact fun fr σ => h fu fr σ

noncomputable def c89 (run : RunT) (fu : Nat) (x0 x1 : AV) (σ : Store) : Tr R :=
  c89_2 run fu fu x0 x1 (.int .i64 0) σ

theorem eq89 (run : RunT) (fu : Nat) (x0 x1 : AV) (σ : Store) : codeK X0 run (.seq .leaf (.seq (.seq .leaf (.block (.sub (fun fr σ => c89_2 run fu fu (G fr 0) (G fr 1) (G fr 5) σ)))) (.sub (fun fr σ => c89_1 run fu σ)))) (subC [] b89) ([x0, x1] ++ padA (25 - 2)) σ k89 = c89 run fu x0 x1 σ := by kernel_rfl

theorem ok89 {run : RunT} (hrun : RunOK X0 run) (fu : Nat) (x0 x1 : AV) (σ : Store) : CallOK X0 89 [x0, x1] σ (c89 run fu x0 x1 σ) :=
  KOK.body (fn := Tryz.f89) (c := subC [] b89) (by kernel_rfl) (by kernel_rfl) (by show 2 ≤ 25; decide) (KOK.whole env0 hrun (eq89 run fu x0 x1 σ) ⟨trivial, ⟨⟨trivial, (ok89_2 hrun fu)⟩, (ok89_1 hrun fu)⟩⟩)

-- (pub-paratext/pub/rscmarkdown.zzPairs).WriteString

noncomputable def b314 : Code := match Tryz.f314.body with | some c => c | none => .skip

noncomputable def k314 : Kont R := retK Tryz.prog []

noncomputable def c314_2 (run : RunT) (fu : Nat) (s1 : W4) (x0 x1 x2 x6 : AV) (σ : Store) : Tr R :=
  addK x6 (.int .i64 1) fun x13 =>
  s1 x0 x1 x2 x13 σ

theorem eq314_2 (run : RunT) (fu : Nat) (s1 : W4) (x0 x1 x2 x6 : AV) (σ : Store) : codeK X0 run .leaf (subC [false, true, true, false, false, true, true] b314) (frS 0 41 [(0, x0), (1, x1), (2, x2), (6, x6)]) σ (thenK (fun fr σ => s1 (G fr 0) (G fr 1) (G fr 2) (G fr 6) σ) (blockK 0 (noGotoK k314))) = c314_2 run fu s1 x0 x1 x2 x6 σ := by kernel_rfl

theorem ok314_2 {run : RunT} (hrun : RunOK X0 run) (fu : Nat) (s1 : W4) : ∀ fr σ, KOK X0 41 (subC [false, true, true, false, false, true, true] b314) fr σ ((fun fr σ => c314_2 run fu s1 (G fr 0) (G fr 1) (G fr 2) (G fr 6) σ) fr σ) (thenK (fun fr σ => s1 (G fr 0) (G fr 1) (G fr 2) (G fr 6) σ) (blockK 0 (noGotoK k314))) := fun fr σ =>
  KOK.piece env0 hrun [0, 1, 2, 6] (eq314_2 run fu s1 (G fr 0) (G fr 1) (G fr 2) (G fr 6) σ) trivial

noncomputable def c314_3 (run : RunT) (fu : Nat) (s1 : W4) (x0 x1 x2 x6 : AV) (σ : Store) : Tr R :=
  idxSK x2 x6 fun x39 =>
  calK run 318 [x1, x39] σ fun x40 σ1 =>
  c314_2 run fu s1 x0 x1 x2 x6 σ1

theorem eq314_3 (run : RunT) (fu : Nat) (s1 : W4) (x0 x1 x2 x6 : AV) (σ : Store) : codeK X0 run .leaf (subC [false, true, true, false, false, true, false, false, true] b314) (frS 0 41 [(0, x0), (1, x1), (2, x2), (6, x6)]) σ (blockK 1 (thenK (fun fr σ => c314_2 run fu s1 (G fr 0) (G fr 1) (G fr 2) (G fr 6) σ) (thenK (fun fr σ => s1 (G fr 0) (G fr 1) (G fr 2) (G fr 6) σ) (blockK 0 (noGotoK k314))))) = c314_3 run fu s1 x0 x1 x2 x6 σ := by kernel_rfl

theorem ok314_3 {run : RunT} (hrun : RunOK X0 run) (fu : Nat) (s1 : W4) : ∀ fr σ, KOK X0 41 (subC [false, true, true, false, false, true, false, false, true] b314) fr σ ((fun fr σ => c314_3 run fu s1 (G fr 0) (G fr 1) (G fr 2) (G fr 6) σ) fr σ) (blockK 1 (thenK (fun fr σ => c314_2 run fu s1 (G fr 0) (G fr 1) (G fr 2) (G fr 6) σ) (thenK (fun fr σ => s1 (G fr 0) (G fr 1) (G fr 2) (G fr 6) σ) (blockK 0 (noGotoK k314))))) := fun fr σ =>
  KOK.piece env0 hrun [0, 1, 2, 6] (eq314_3 run fu s1 (G fr 0) (G fr 1) (G fr 2) (G fr 6) σ) trivial

noncomputable def c314_4b (run : RunT) (fu : Nat) (s1 : W4) (s4 : W5) (x0 x1 x2 x6 x7 : AV) (σ : Store) : Tr R :=
  lenLK x0 fun x16 =>
  cmpK .lss x7 x16 fun x17 =>
  ifK x17 (
  idxSK x2 x6 fun x22 =>
  idxK 1 x0 x7 fun x25 =>
  ld1K σ x25 fun x26 =>
  idxSK x26 (.int .i64 0) fun x27 =>
  cmpK .eql x22 x27 fun x28 =>
  ifK x28 (
  addK x7 (.int .i64 1) fun x32 =>
  idxK 1 x0 x32 fun x33 =>
  ld1K σ x33 fun x34 =>
  calK run 308 [x1, x34] σ fun x35 σ1 =>
  c314_2 run fu s1 x0 x1 x2 x6 σ1) (
  addK x7 (.int .i64 2) fun x19 =>
  s4 x0 x1 x2 x6 x19 σ)) (
  c314_3 run fu s1 x0 x1 x2 x6 σ)

noncomputable def c314_4 (run : RunT) (fu : Nat) (s1 : W4) : Nat → W5
  | 0 => fun _ _ _ _ _ _ => .fail
  | m + 1 => c314_4b run fu s1 (c314_4 run fu s1 m)

theorem eq314_4 (run : RunT) (fu : Nat) (s1 : W4) (s4 : W5) (x0 x1 x2 x6 x7 : AV) (σ : Store) : codeK X0 run (.seq (.seq .leaf (.cond .leaf .leaf)) (.seq (.block (.seq .leaf (.cond (.seq .leaf .leaf) .leaf))) .leaf)) (subC [false, true, true, false, false, true, false, false, false, true, false, false] b314) (frS 0 41 [(0, x0), (1, x1), (2, x2), (6, x6), (7, x7)]) σ (thenK (fun fr σ => s4 (G fr 0) (G fr 1) (G fr 2) (G fr 6) (G fr 7) σ) (blockK 2 (thenK (fun fr σ => c314_3 run fu s1 (G fr 0) (G fr 1) (G fr 2) (G fr 6) σ) (blockK 1 (thenK (fun fr σ => c314_2 run fu s1 (G fr 0) (G fr 1) (G fr 2) (G fr 6) σ) (thenK (fun fr σ => s1 (G fr 0) (G fr 1) (G fr 2) (G fr 6) σ) (blockK 0 (noGotoK k314)))))))) = c314_4b run fu s1 s4 x0 x1 x2 x6 x7 σ := by kernel_rfl

theorem owed314_4 {run : RunT} (hrun : RunOK X0 run) (fu : Nat) (s1 : W4) (s4 : W5) : Owes X0 run 41 (.seq (.seq .leaf (.cond .leaf .leaf)) (.seq (.block (.seq .leaf (.cond (.seq .leaf .leaf) .leaf))) .leaf)) (subC [false, true, true, false, false, true, false, false, false, true, false, false] b314) (thenK (fun fr σ => s4 (G fr 0) (G fr 1) (G fr 2) (G fr 6) (G fr 7) σ) (blockK 2 (thenK (fun fr σ => c314_3 run fu s1 (G fr 0) (G fr 1) (G fr 2) (G fr 6) σ) (blockK 1 (thenK (fun fr σ => c314_2 run fu s1 (G fr 0) (G fr 1) (G fr 2) (G fr 6) σ) (thenK (fun fr σ => s1 (G fr 0) (G fr 1) (G fr 2) (G fr 6) σ) (blockK 0 (noGotoK k314)))))))) :=
  ⟨⟨trivial, ⟨trivial, trivial⟩⟩, ⟨⟨trivial, ⟨⟨trivial, trivial⟩, trivial⟩⟩, trivial⟩⟩

theorem ok314_4 {run : RunT} (hrun : RunOK X0 run) (fu : Nat) (s1 : W4) : ∀ fr σ, KOK X0 41 (subC [false, true, true, false, false, true, false, false, false, true, false] b314) fr σ ((fun fr σ => c314_4 run fu s1 fu (G fr 0) (G fr 1) (G fr 2) (G fr 6) (G fr 7) σ) fr σ) (blockK 2 (thenK (fun fr σ => c314_3 run fu s1 (G fr 0) (G fr 1) (G fr 2) (G fr 6) σ) (blockK 1 (thenK (fun fr σ => c314_2 run fu s1 (G fr 0) (G fr 1) (G fr 2) (G fr 6) σ) (thenK (fun fr σ => s1 (G fr 0) (G fr 1) (G fr 2) (G fr 6) σ) (blockK 0 (noGotoK k314))))))) := by
  have h := KOK.loop (X := X0) (N := 41) (b := (subC [false, true, true, false, false, true, false, false, false, true, false, false] b314)) (k := (blockK 2 (thenK (fun fr σ => c314_3 run fu s1 (G fr 0) (G fr 1) (G fr 2) (G fr 6) σ) (blockK 1 (thenK (fun fr σ => c314_2 run fu s1 (G fr 0) (G fr 1) (G fr 2) (G fr 6) σ) (thenK (fun fr σ => s1 (G fr 0) (G fr 1) (G fr 2) (G fr 6) σ) (blockK 0 (noGotoK k314)))))))) (u := fun m fr σ => c314_4 run fu s1 m (G fr 0) (G fr 1) (G fr 2) (G fr 6) (G fr 7) σ) (fun _ _ => rfl) (fun m fr σ => KOK.piece env0 hrun [0, 1, 2, 6, 7] (eq314_4 run fu s1 (c314_4 run fu s1 m) (G fr 0) (G fr 1) (G fr 2) (G fr 6) (G fr 7) σ) (owed314_4 hrun fu s1 (c314_4 run fu s1 m)))
  exact fun fr σ => h fu fr σ

noncomputable def c314_1b (run : RunT) (fu : Nat) (s1 : W4) (x0 x1 x2 x6 : AV) (σ : Store) : Tr R :=
  lenSK x2 fun x10 =>
  cmpK .lss x6 x10 fun x11 =>
  ifK x11 (
  c314_4 run fu s1 fu x0 x1 x2 x6 (.int .i64 0) σ) (
  .ret (.tup [], σ))

noncomputable def c314_1 (run : RunT) (fu : Nat) : Nat → W4
  | 0 => fun _ _ _ _ _ => .fail
  | m + 1 => c314_1b run fu (c314_1 run fu m)

theorem eq314_1 (run : RunT) (fu : Nat) (s1 : W4) (x0 x1 x2 x6 : AV) (σ : Store) : codeK X0 run (.seq (.seq .leaf (.cond .leaf .leaf)) (.seq (.block (.seq (.seq .leaf (.block (.sub (fun fr σ => c314_4 run fu s1 fu (G fr 0) (G fr 1) (G fr 2) (G fr 6) (G fr 7) σ)))) (.sub (fun fr σ => c314_3 run fu s1 (G fr 0) (G fr 1) (G fr 2) (G fr 6) σ)))) (.sub (fun fr σ => c314_2 run fu s1 (G fr 0) (G fr 1) (G fr 2) (G fr 6) σ)))) (subC [false, true, true, false, false] b314) (frS 0 41 [(0, x0), (1, x1), (2, x2), (6, x6)]) σ (thenK (fun fr σ => s1 (G fr 0) (G fr 1) (G fr 2) (G fr 6) σ) (blockK 0 (noGotoK k314))) = c314_1b run fu s1 x0 x1 x2 x6 σ := by kernel_rfl

theorem owed314_1 {run : RunT} (hrun : RunOK X0 run) (fu : Nat) (s1 : W4) : Owes X0 run 41 (.seq (.seq .leaf (.cond .leaf .leaf)) (.seq (.block (.seq (.seq .leaf (.block (.sub (fun fr σ => c314_4 run fu s1 fu (G fr 0) (G fr 1) (G fr 2) (G fr 6) (G fr 7) σ)))) (.sub (fun fr σ => c314_3 run fu s1 (G fr 0) (G fr 1) (G fr 2) (G fr 6) σ)))) (.sub (fun fr σ => c314_2 run fu s1 (G fr 0) (G fr 1) (G fr 2) (G fr 6) σ)))) (subC [false, true, true, false, false] b314) (thenK (fun fr σ => s1 (G fr 0) (G fr 1) (G fr 2) (G fr 6) σ) (blockK 0 (noGotoK k314))) :=
  ⟨⟨trivial, ⟨trivial, trivial⟩⟩, ⟨⟨⟨trivial, (ok314_4 hrun fu s1)⟩, (ok314_3 hrun fu s1)⟩, (ok314_2 hrun fu s1)⟩⟩

theorem ok314_1 {run : RunT} (hrun : RunOK X0 run) (fu : Nat) : ∀ fr σ, KOK X0 41 (subC [false, true, true, false] b314) fr σ ((fun fr σ => c314_1 run fu fu (G fr 0) (G fr 1) (G fr 2) (G fr 6) σ) fr σ) (blockK 0 (noGotoK k314)) := by
  have h := KOK.loop (X := X0) (N := 41) (b := (subC [false, true, true, false, false] b314)) (k := (blockK 0 (noGotoK k314))) (u := fun m fr σ => c314_1 run fu m (G fr 0) (G fr 1) (G fr 2) (G fr 6) σ) (fun _ _ => rfl) (fun m fr σ => KOK.piece env0 hrun [0, 1, 2, 6] (eq314_1 run fu (c314_1 run fu m) (G fr 0) (G fr 1) (G fr 2) (G fr 6) σ) (owed314_1 hrun fu (c314_1 run fu m)))
  exact fun fr σ => h fu fr σ

noncomputable def c314 (run : RunT) (fu : Nat) (x0 x1 x2 : AV) (σ : Store) : Tr R :=
  c314_1 run fu fu x0 x1 x2 (.int .i64 0) σ

theorem eq314 (run : RunT) (fu : Nat) (x0 x1 x2 : AV) (σ : Store) : codeK X0 run (.scope (.seq .leaf (.seq .leaf (.block (.sub (fun fr σ => c314_1 run fu fu (G fr 0) (G fr 1) (G fr 2) (G fr 6) σ)))))) (subC [] b314) ([x0, x1, x2] ++ padA (41 - 3)) σ k314 = c314 run fu x0 x1 x2 σ := by kernel_rfl

theorem ok314 {run : RunT} (hrun : RunOK X0 run) (fu : Nat) (x0 x1 x2 : AV) (σ : Store) : CallOK X0 314 [x0, x1, x2] σ (c314 run fu x0 x1 x2 σ) :=
  KOK.body (fn := Tryz.f314) (c := subC [] b314) (by kernel_rfl) (by kernel_rfl) (by show 3 ≤ 41; decide) (KOK.whole env0 hrun (eq314 run fu x0 x1 x2 σ) ⟨trivial, ⟨trivial, (ok314_1 hrun fu)⟩⟩)

end Go.Proofs.YtpefmbpjanafkaaGreatDoor
