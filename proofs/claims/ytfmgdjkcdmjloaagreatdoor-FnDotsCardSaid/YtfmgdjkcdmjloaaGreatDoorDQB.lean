/- Functions of the program, told as Lean functions of abstract values and stores, each with its proof. -/
import Derived.Test.YtfmgdjkcdmjloaaGreatDoorSnX
import Derived.Test.YtfmgdjkcdmjloaaGreatDoorSnNc
import Derived.Test.YtfmgdjkcdmjloaaGreatDoorSnAb
set_option linter.unusedVariables false
set_option linter.unusedSimpArgs false
namespace Go.Proofs.YtfmgdjkcdmjloaaGreatDoor
open Go.AM
-- pub-paratext/pub/rscmarkdown.mergePlain1

noncomputable def b118 : Code := match Tryz.f118.body with | some c => c | none => .skip

noncomputable def k118 : Kont R := retK Tryz.prog [.tmp 2]

noncomputable def c118_1 (run : RunT) (fu : Nat) (x3 : AV) (σ : Store) : Tr R :=
  calK run 164 [x3, (.str [])] σ fun x29 σ1 =>
  bldK [(.str [])] [(0, 1, x29)] fun x30 =>
  boxK σ1 263 x30 fun x31 σ2 =>
  .ret (x31, σ2)

theorem eq118_1 (run : RunT) (fu : Nat) (x3 : AV) (σ : Store) : codeK X0 run (.seq .leaf .leaf) (subC [true, true, true, true] b118) (frS 0 32 [(3, x3)]) σ k118 = c118_1 run fu x3 σ := by kernel_rfl

theorem ok118_1 {run : RunT} (hrun : RunOK X0 run) (fu : Nat) : ∀ fr σ, KOK X0 32 (subC [true, true, true, true] b118) fr σ ((fun fr σ => c118_1 run fu (G fr 3) σ) fr σ) k118 := fun fr σ =>
  KOK.piece env0 hrun [3] (eq118_1 run fu (G fr 3) σ) ⟨trivial, trivial⟩

noncomputable def c118_2b (run : RunT) (fu : Nat) (s2 : W4) (x3 x13 x14 x15 : AV) (σ : Store) : Tr R :=
  cmpK .lss x15 x14 fun x16 =>
  ifK x16 (
  idxK 1 x13 x15 fun x17 =>
  ld1K σ x17 fun x18 =>
  calK run 117 [x18] σ fun x21 σ1 =>
  nchkK x21 fun x22 =>
  addrK x22 0 fun x23 =>
  ld1K σ1 x23 fun x24 =>
  opt (fillK [(.str [])] [(0, 1, x24)]) fun cs => newSK σ1 19 cs 1 1 fun x25 σ2 =>
  appK 9 1 16 σ2 x3 x25 fun x26 σ3 =>
  addK x15 (.int .i64 1) fun x27 =>
  s2 x26 x13 x14 x27 σ3) (
  c118_1 run fu x3 σ)

noncomputable def c118_2 (run : RunT) (fu : Nat) : Nat → W4
  | 0 => fun _ _ _ _ _ => .fail
  | m + 1 => c118_2b run fu (c118_2 run fu m)

theorem eq118_2 (run : RunT) (fu : Nat) (s2 : W4) (x3 x13 x14 x15 : AV) (σ : Store) : codeK X0 run (.seq .leaf (.seq (.cond .leaf .leaf) (.seq (.block (.seq .leaf .leaf)) .leaf))) (subC [true, true, true, false, true, false, false] b118) (frS 0 32 [(3, x3), (13, x13), (14, x14), (15, x15)]) σ (thenK (fun fr σ => s2 (G fr 3) (G fr 13) (G fr 14) (G fr 15) σ) (blockK 0 (thenK (fun fr σ => c118_1 run fu (G fr 3) σ) k118))) = c118_2b run fu s2 x3 x13 x14 x15 σ := by kernel_rfl

theorem owed118_2 {run : RunT} (hrun : RunOK X0 run) (fu : Nat) (s2 : W4) : Owes X0 run 32 (.seq .leaf (.seq (.cond .leaf .leaf) (.seq (.block (.seq .leaf .leaf)) .leaf))) (subC [true, true, true, false, true, false, false] b118) (thenK (fun fr σ => s2 (G fr 3) (G fr 13) (G fr 14) (G fr 15) σ) (blockK 0 (thenK (fun fr σ => c118_1 run fu (G fr 3) σ) k118))) :=
  ⟨trivial, ⟨⟨trivial, trivial⟩, ⟨⟨trivial, trivial⟩, trivial⟩⟩⟩

theorem ok118_2 {run : RunT} (hrun : RunOK X0 run) (fu : Nat) : ∀ fr σ, KOK X0 32 (subC [true, true, true, false, true, false] b118) fr σ ((fun fr σ => c118_2 run fu fu (G fr 3) (G fr 13) (G fr 14) (G fr 15) σ) fr σ) (blockK 0 (thenK (fun fr σ => c118_1 run fu (G fr 3) σ) k118)) := by
  have h := KOK.loop (X := X0) (N := 32) (b := (subC [true, true, true, false, true, false, false] b118)) (k := (blockK 0 (thenK (fun fr σ => c118_1 run fu (G fr 3) σ) k118))) (u := fun m fr σ => c118_2 run fu m (G fr 3) (G fr 13) (G fr 14) (G fr 15) σ) (fun _ _ => rfl) (fun m fr σ => KOK.piece env0 hrun [3, 13, 14, 15] (eq118_2 run fu (c118_2 run fu m) (G fr 3) (G fr 13) (G fr 14) (G fr 15) σ) (owed118_2 hrun fu (c118_2 run fu m)))
  exact fun fr σ => h fu fr σ

noncomputable def c118_2x (run : RunT) (fu : Nat) (s2 : W4) (x3 x13 x14 x15 : AV) (σ : Store) : Tr R :=
  cmpK .lss x15 x14 fun x16 =>
  ifK x16 (
  idxK 1 x13 x15 fun x17 =>
  ld1K σ x17 fun x18 =>
  calK run 117 [x18] σ fun x21 σ1 =>
  nchkK x21 fun x22 =>
  addrK x22 0 fun x23 =>
  ld1K σ1 x23 fun x24 =>
  opt (fillK [(.str [])] [(0, 1, x24)]) fun cs => newSK σ1 19 cs 1 1 fun x25 σ2 =>
  appK 9 1 16 σ2 x3 x25 fun x26 σ3 =>
  addK x15 (.int .i64 1) fun x27 =>
  s2 x26 x13 x14 x27 σ3) (
  .fail)

theorem eq118_2x (run : RunT) (fu : Nat) (s2 : W4) (x3 x13 x14 x15 : AV) (σ : Store) : codeK X0 run (.seq .leaf (.seq (.cond .leaf .leaf) (.seq (.block (.seq .leaf .leaf)) .leaf))) (subC [true, true, true, false, true, false, false] b118) (frS 0 32 [(3, x3), (13, x13), (14, x14), (15, x15)]) σ (thenK (fun fr σ => s2 (G fr 3) (G fr 13) (G fr 14) (G fr 15) σ) failK) = c118_2x run fu s2 x3 x13 x14 x15 σ := by kernel_rfl

theorem owed118_2x {run : RunT} (hrun : RunOK X0 run) (fu : Nat) (s2 : W4) : Owes X0 run 32 (.seq .leaf (.seq (.cond .leaf .leaf) (.seq (.block (.seq .leaf .leaf)) .leaf))) (subC [true, true, true, false, true, false, false] b118) (thenK (fun fr σ => s2 (G fr 3) (G fr 13) (G fr 14) (G fr 15) σ) failK) :=
  ⟨trivial, ⟨⟨trivial, trivial⟩, ⟨⟨trivial, trivial⟩, trivial⟩⟩⟩

noncomputable def c118_2s (run : RunT) (fu : Nat) : Nat → List AV → Store → Tr R :=
  sweepWN 0 9 (sweepNd (planRun 1 none 3 [] [] [] [0]) (planWith 1 (planN 0 10 0 9)) (fun t2 xs σ => c118_2b run fu (fun y3 y13 y14 y15 σ => t2 [y3, y13, y14, y15] σ) (xs.getD 0 .any) (xs.getD 1 .any) (xs.getD 2 .any) (xs.getD 3 .any) σ) (fun t2 xs σ => c118_2x run fu (fun y3 y13 y14 y15 σ => t2 [y3, y13, y14, y15] σ) (xs.getD 0 .any) (xs.getD 1 .any) (xs.getD 2 .any) (xs.getD 3 .any) σ))

theorem ok118_2s {run : RunT} (hrun : RunOK X0 run) (fu : Nat) : ∀ fr σ, KOK X0 32 (subC [true, true, true, false, true, false] b118) fr σ ((fun fr σ => c118_2s run fu fu [fr.getD 3 .any, fr.getD 13 .any, fr.getD 14 .any, fr.getD 15 .any] σ) fr σ) (blockK 0 (thenK (fun fr σ => c118_1 run fu (G fr 3) σ) k118)) := by
  have h := KOK.sweepWN rfl 0 9 (KOK.sweepForget (X := X0) (N := 32) (b := (subC [true, true, true, false, true, false, false] b118)) (k := (blockK 0 (thenK (fun fr σ => c118_1 run fu (G fr 3) σ) k118))) (js := [3, 13, 14, 15]) (body := (fun t2 xs σ => c118_2b run fu (fun y3 y13 y14 y15 σ => t2 [y3, y13, y14, y15] σ) (xs.getD 0 .any) (xs.getD 1 .any) (xs.getD 2 .any) (xs.getD 3 .any) σ)) (bodyx := (fun t2 xs σ => c118_2x run fu (fun y3 y13 y14 y15 σ => t2 [y3, y13, y14, y15] σ) (xs.getD 0 .any) (xs.getD 1 .any) (xs.getD 2 .any) (xs.getD 3 .any) σ)) rfl (planRun 1 none 3 [] [] [] [0]) (planWith 1 (planN 0 10 0 9)) (fun t2 fr σ => KOK.piece env0 hrun [3, 13, 14, 15] (eq118_2 run fu (fun y3 y13 y14 y15 σ => t2 [y3, y13, y14, y15] σ) (G fr 3) (G fr 13) (G fr 14) (G fr 15) σ) (owed118_2 hrun fu (fun y3 y13 y14 y15 σ => t2 [y3, y13, y14, y15] σ))) (fun t2 fr σ => KOK.piece env0 hrun [3, 13, 14, 15] (eq118_2x run fu (fun y3 y13 y14 y15 σ => t2 [y3, y13, y14, y15] σ) (G fr 3) (G fr 13) (G fr 14) (G fr 15) σ) (owed118_2x hrun fu (fun y3 y13 y14 y15 σ => t2 [y3, y13, y14, y15] σ))))
  exact fun fr σ => h fu fr σ

noncomputable def c118 (run : RunT) (fu : Nat) (x0 : AV) (σ : Store) : Tr R :=
  lenLK x0 fun x7 =>
  cmpK .eql x7 (.int .i64 1) fun x8 =>
  ifK x8 (
  idxK 1 x0 (.int .i64 0) fun x10 =>
  ld1K σ x10 fun x11 =>
  calK run 117 [x11] σ fun x12 σ1 =>
  .ret (x12, σ1)) (
  lenLK x0 fun x14 =>
  c118_2s run fu fu [.nils, x0, x14, (.int .i64 0)] σ)

theorem eq118 (run : RunT) (fu : Nat) (x0 : AV) (σ : Store) : codeK X0 run (.seq .leaf (.seq (.seq .leaf (.cond (.seq .leaf .leaf) .leaf)) (.seq .leaf (.seq (.seq .leaf (.block (.sub (fun fr σ => c118_2s run fu fu [fr.getD 3 .any, fr.getD 13 .any, fr.getD 14 .any, fr.getD 15 .any] σ)))) (.sub (fun fr σ => c118_1 run fu (G fr 3) σ)))))) (subC [] b118) ([x0] ++ padA (32 - 1)) σ k118 = c118 run fu x0 σ := by kernel_rfl

theorem ok118 {run : RunT} (hrun : RunOK X0 run) (fu : Nat) (x0 : AV) (σ : Store) : CallOK X0 118 [x0] σ (c118 run fu x0 σ) :=
  KOK.body (fn := Tryz.f118) (c := subC [] b118) (by kernel_rfl) (by kernel_rfl) (by show 1 ≤ 32; decide) (KOK.whole env0 hrun (eq118 run fu x0 σ) ⟨trivial, ⟨⟨trivial, ⟨⟨trivial, trivial⟩, trivial⟩⟩, ⟨trivial, ⟨⟨trivial, (ok118_2s hrun fu)⟩, (ok118_1 hrun fu)⟩⟩⟩⟩)

-- pub-paratext/pub/rscmarkdown.trimQuote

noncomputable def b120 : Code := match Tryz.f120.body with | some c => c | none => .skip

noncomputable def k120 : Kont R := retK Tryz.prog [.cell 2 100, .tmp 3]

noncomputable def c120 (run : RunT) (fu : Nat) (x0 : AV) (σ : Store) : Tr R :=
  boxK σ 201 x0 fun x1 σ1 =>
  newK σ1 201 [(.int .i64 0), (.int .i64 0), (.int .i64 0), (.str []), (.int .u8 0)] fun x2 σ2 =>
  ldNK σ2 x1 5 fun x5 =>
  newK σ2 201 [(.int .i64 0), (.int .i64 0), (.int .i64 0), (.str []), (.int .u8 0)] fun x4 σ3 =>
  stNK σ3 x4 5 x5 fun _ σ4 =>
  calK run 139 [x4, (.int .i64 0), (.int .i64 3), (.bool false)] σ4 fun x6 σ5 =>
  calK run 168 [x4, (.int .u8 62)] σ5 fun x7 σ6 =>
  notK x7 fun x8 =>
  ifK x8 (
  ldNK σ6 x1 5 fun x9 =>
  stNK σ6 x2 5 x9 fun _ σ7 =>
  ldNK σ7 x2 5 fun v8 =>
  .ret (.tup [v8, (.bool false)], σ7)) (
  .fail)

theorem eq120 (run : RunT) (fu : Nat) (x0 : AV) (σ : Store) : codeK X0 run (.seq .leaf (.seq .leaf (.seq .leaf (.seq (.seq .leaf (.cond (.seq .leaf .leaf) (.sub deadK))) .leaf)))) (subC [] b120) ([x0] ++ padA (12 - 1)) σ k120 = c120 run fu x0 σ := by kernel_rfl

theorem ok120 {run : RunT} (hrun : RunOK X0 run) (fu : Nat) (x0 : AV) (σ : Store) : CallOK X0 120 [x0] σ (c120 run fu x0 σ) :=
  KOK.body (fn := Tryz.f120) (c := subC [] b120) (by kernel_rfl) (by kernel_rfl) (by show 1 ≤ 12; decide) (KOK.whole env0 hrun (eq120 run fu x0 σ) ⟨trivial, ⟨trivial, ⟨trivial, ⟨⟨trivial, ⟨⟨trivial, trivial⟩, KOK.dead⟩⟩, trivial⟩⟩⟩⟩)

-- (*pub-paratext/pub/rscmarkdown.line).trimHeading

noncomputable def b121 : Code := match Tryz.f121.body with | some c => c | none => .skip

noncomputable def k121 : Kont R := retK Tryz.prog [.tmp 4]

noncomputable def c121 (run : RunT) (fu : Nat) (x0 x1 : AV) (σ : Store) : Tr R :=
  nchkK x0 fun x8 =>
  ldNK σ x8 5 fun x9 =>
  newK σ 201 [(.int .i64 0), (.int .i64 0), (.int .i64 0), (.str []), (.int .u8 0)] fun x5 σ1 =>
  stNK σ1 x5 5 x9 fun _ σ2 =>
  calK run 139 [x5, (.int .i64 0), (.int .i64 3), (.bool false)] σ2 fun x10 σ3 =>
  calK run 168 [x5, (.int .u8 35)] σ3 fun x11 σ4 =>
  notK x11 fun x12 =>
  ifK x12 (
  .ret ((.bool false), σ4)) (
  .fail)

theorem eq121 (run : RunT) (fu : Nat) (x0 x1 : AV) (σ : Store) : codeK X0 run (.seq .leaf (.seq .leaf (.seq .leaf (.seq (.seq .leaf (.cond (.seq .leaf .leaf) (.sub deadK))) .leaf)))) (subC [] b121) ([x0, x1] ++ padA (28 - 2)) σ k121 = c121 run fu x0 x1 σ := by kernel_rfl

theorem ok121 {run : RunT} (hrun : RunOK X0 run) (fu : Nat) (x0 x1 : AV) (σ : Store) : CallOK X0 121 [x0, x1] σ (c121 run fu x0 x1 σ) :=
  KOK.body (fn := Tryz.f121) (c := subC [] b121) (by kernel_rfl) (by kernel_rfl) (by show 2 ≤ 28; decide) (KOK.whole env0 hrun (eq121 run fu x0 x1 σ) ⟨trivial, ⟨trivial, ⟨trivial, ⟨⟨trivial, ⟨⟨trivial, trivial⟩, KOK.dead⟩⟩, trivial⟩⟩⟩⟩)

-- (*pub-paratext/pub/rscmarkdown.parseState).newText

noncomputable def b128 : Code := match Tryz.f128.body with | some c => c | none => .skip

noncomputable def k128 : Kont R := retK Tryz.prog [.tmp 6]

noncomputable def c128 (run : RunT) (fu : Nat) (x0 x1 x2 : AV) (σ : Store) : Tr R :=
  boxK σ 209 x1 fun x4 σ1 =>
  ldNK σ1 x4 2 fun x8 =>
  bldK [(.int .i64 0), (.int .i64 0), .nils, (.str [])] [(0, 2, x8), (3, 1, x2)] fun x10 =>
  boxK σ1 213 x10 fun x11 σ2 =>
  nchkK x0 fun x14 =>
  addrK x14 11 fun x15 =>
  ld1K σ2 x15 fun x16 =>
  opt (fillK [.nilp] [(0, 1, x11)]) fun cs => newSK σ2 203 cs 1 1 fun x18 σ3 =>
  appK 101 1 8 σ3 x16 x18 fun x19 σ4 =>
  nchkK x0 fun x20 =>
  addrK x20 11 fun x21 =>
  st1K σ4 x21 x19 fun _ σ5 =>
  .ret (x11, σ5)

theorem eq128 (run : RunT) (fu : Nat) (x0 x1 x2 : AV) (σ : Store) : codeK X0 run (.seq .leaf (.seq .leaf (.seq .leaf (.seq .leaf .leaf)))) (subC [] b128) ([x0, x1, x2] ++ padA (23 - 3)) σ k128 = c128 run fu x0 x1 x2 σ := by kernel_rfl

theorem ok128 {run : RunT} (hrun : RunOK X0 run) (fu : Nat) (x0 x1 x2 : AV) (σ : Store) : CallOK X0 128 [x0, x1, x2] σ (c128 run fu x0 x1 x2 σ) :=
  KOK.body (fn := Tryz.f128) (c := subC [] b128) (by kernel_rfl) (by kernel_rfl) (by show 3 ≤ 23; decide) (KOK.whole env0 hrun (eq128 run fu x0 x1 x2 σ) ⟨trivial, ⟨trivial, ⟨trivial, ⟨trivial, trivial⟩⟩⟩⟩)

-- (*pub-paratext/pub/rscmarkdown.parseState).nextB

noncomputable def b129 : Code := match Tryz.f129.body with | some c => c | none => .skip

noncomputable def k129 : Kont R := retK Tryz.prog [.tmp 2]

noncomputable def c129 (run : RunT) (fu : Nat) (x0 : AV) (σ : Store) : Tr R :=
  nchkK x0 fun x4 =>
  addrK x4 5 fun x5 =>
  ld1K σ x5 fun x6 =>
  addK x6 (.int .i64 1) fun x7 =>
  nchkK x0 fun x9 =>
  addrK x9 4 fun x10 =>
  ld1K σ x10 fun x11 =>
  lenLK x11 fun x12 =>
  cmpK .lss x7 x12 fun x13 =>
  ifK x13 (
  .fail) (
  .ret (.nili, σ))

theorem eq129 (run : RunT) (fu : Nat) (x0 : AV) (σ : Store) : codeK X0 run (.seq .leaf (.seq (.seq .leaf (.cond (.sub deadK) .leaf)) (.seq .leaf .leaf))) (subC [] b129) ([x0] ++ padA (26 - 1)) σ k129 = c129 run fu x0 σ := by kernel_rfl

theorem ok129 {run : RunT} (hrun : RunOK X0 run) (fu : Nat) (x0 : AV) (σ : Store) : CallOK X0 129 [x0] σ (c129 run fu x0 σ) :=
  KOK.body (fn := Tryz.f129) (c := subC [] b129) (by kernel_rfl) (by kernel_rfl) (by show 1 ≤ 26; decide) (KOK.whole env0 hrun (eq129 run fu x0 σ) ⟨trivial, ⟨⟨trivial, ⟨KOK.dead, trivial⟩⟩, ⟨trivial, trivial⟩⟩⟩)

-- pub-paratext/pub/rscmarkdown.isHR

noncomputable def b133 : Code := match Tryz.f133.body with | some c => c | none => .skip

noncomputable def k133 : Kont R := retK Tryz.prog [.tmp 2]

noncomputable def c133_1 (run : RunT) (fu : Nat) (σ : Store) : Tr R :=
  .ret ((.bool false), σ)

theorem eq133_1 (run : RunT) (fu : Nat) (σ : Store) : codeK X0 run (.seq .leaf .leaf) (subC [true, true, true, true] b133) (frS 0 23 []) σ k133 = c133_1 run fu σ := by kernel_rfl

theorem ok133_1 {run : RunT} (hrun : RunOK X0 run) (fu : Nat) : ∀ fr σ, KOK X0 23 (subC [true, true, true, true] b133) fr σ ((fun fr σ => c133_1 run fu σ) fr σ) k133 := fun fr σ =>
  KOK.piece env0 hrun [] (eq133_1 run fu σ) ⟨trivial, trivial⟩

noncomputable def c133_2 (run : RunT) (fu : Nat) (x3 x4 x10 : AV) (σ : Store) : Tr R :=
  ifK x10 (
  .fail) (
  c133_1 run fu σ)

theorem eq133_2 (run : RunT) (fu : Nat) (x3 x4 x10 : AV) (σ : Store) : codeK X0 run (.cond (.sub deadK) .leaf) (subC [true, true, true, false, true, true, false, true] b133) (frS 0 23 [(3, x3), (4, x4), (10, x10)]) σ (blockK 0 (thenK (fun fr σ => c133_1 run fu σ) k133)) = c133_2 run fu x3 x4 x10 σ := by kernel_rfl

theorem ok133_2 {run : RunT} (hrun : RunOK X0 run) (fu : Nat) : ∀ fr σ, KOK X0 23 (subC [true, true, true, false, true, true, false, true] b133) fr σ ((fun fr σ => c133_2 run fu (G fr 3) (G fr 4) (G fr 10) σ) fr σ) (blockK 0 (thenK (fun fr σ => c133_1 run fu σ) k133)) := fun fr σ =>
  KOK.piece env0 hrun [3, 4, 10] (eq133_2 run fu (G fr 3) (G fr 4) (G fr 10) σ) ⟨KOK.dead, trivial⟩

noncomputable def c133 (run : RunT) (fu : Nat) (x0 : AV) (σ : Store) : Tr R :=
  boxK σ 201 x0 fun x1 σ1 =>
  ldNK σ1 x1 5 fun x6 =>
  newK σ1 201 [(.int .i64 0), (.int .i64 0), (.int .i64 0), (.str []), (.int .u8 0)] fun x3 σ2 =>
  stNK σ2 x3 5 x6 fun _ σ3 =>
  calK run 139 [x3, (.int .i64 0), (.int .i64 3), (.bool false)] σ3 fun x7 σ4 =>
  calK run 170 [x3] σ4 fun x8 σ5 =>
  cmpK .eql x8 (.int .u8 45) fun x11 =>
  ifK x11 (
  .fail) (
  cmpK .eql x8 (.int .u8 95) fun x12 =>
  ifK x12 (
  .fail) (
  cmpK .eql x8 (.int .u8 42) fun x13 =>
  c133_2 run fu x3 x8 x13 σ5))

theorem eq133 (run : RunT) (fu : Nat) (x0 : AV) (σ : Store) : codeK X0 run (.seq .leaf (.seq .leaf (.seq .leaf (.seq (.seq .leaf (.seq .leaf (.block (.seq (.seq .leaf (.cond (.sub deadK) (.seq .leaf (.cond (.sub deadK) .leaf)))) (.sub (fun fr σ => c133_2 run fu (G fr 3) (G fr 4) (G fr 10) σ)))))) (.sub (fun fr σ => c133_1 run fu σ)))))) (subC [] b133) ([x0] ++ padA (23 - 1)) σ k133 = c133 run fu x0 σ := by kernel_rfl

theorem ok133 {run : RunT} (hrun : RunOK X0 run) (fu : Nat) (x0 : AV) (σ : Store) : CallOK X0 133 [x0] σ (c133 run fu x0 σ) :=
  KOK.body (fn := Tryz.f133) (c := subC [] b133) (by kernel_rfl) (by kernel_rfl) (by show 1 ≤ 23; decide) (KOK.whole env0 hrun (eq133 run fu x0 σ) ⟨trivial, ⟨trivial, ⟨trivial, ⟨⟨trivial, ⟨trivial, ⟨⟨trivial, ⟨KOK.dead, ⟨trivial, ⟨KOK.dead, trivial⟩⟩⟩⟩, (ok133_2 hrun fu)⟩⟩⟩, (ok133_1 hrun fu)⟩⟩⟩⟩)

-- (*pub-paratext/pub/rscmarkdown.parseState).curB

noncomputable def b134 : Code := match Tryz.f134.body with | some c => c | none => .skip

noncomputable def k134 : Kont R := retK Tryz.prog [.tmp 2]

noncomputable def c134 (run : RunT) (fu : Nat) (x0 : AV) (σ : Store) : Tr R :=
  nchkK x0 fun x4 =>
  addrK x4 5 fun x5 =>
  ld1K σ x5 fun x6 =>
  nchkK x0 fun x8 =>
  addrK x8 4 fun x9 =>
  ld1K σ x9 fun x10 =>
  lenLK x10 fun x11 =>
  cmpK .lss x6 x11 fun x12 =>
  ifK x12 (
  nchkK x0 fun x14 =>
  addrK x14 4 fun x15 =>
  ld1K σ x15 fun x16 =>
  nchkK x0 fun x18 =>
  addrK x18 5 fun x19 =>
  ld1K σ x19 fun x20 =>
  idxK 4 x16 x20 fun x21 =>
  addrK x21 0 fun x22 =>
  ld1K σ x22 fun x23 =>
  .ret (x23, σ)) (
  .fail)

theorem eq134 (run : RunT) (fu : Nat) (x0 : AV) (σ : Store) : codeK X0 run (.seq .leaf (.seq (.seq .leaf (.cond (.seq .leaf .leaf) (.sub deadK))) .leaf)) (subC [] b134) ([x0] ++ padA (24 - 1)) σ k134 = c134 run fu x0 σ := by kernel_rfl

theorem ok134 {run : RunT} (hrun : RunOK X0 run) (fu : Nat) (x0 : AV) (σ : Store) : CallOK X0 134 [x0] σ (c134 run fu x0 σ) :=
  KOK.body (fn := Tryz.f134) (c := subC [] b134) (by kernel_rfl) (by kernel_rfl) (by show 1 ≤ 24; decide) (KOK.whole env0 hrun (eq134 run fu x0 σ) ⟨trivial, ⟨⟨trivial, ⟨⟨trivial, trivial⟩, KOK.dead⟩⟩, trivial⟩⟩)

-- (*pub-paratext/pub/rscmarkdown.parseState).startListItem

noncomputable def b135 : Code := match Tryz.f135.body with | some c => c | none => .skip

noncomputable def k135 : Kont R := retK Tryz.prog [.tmp 4]

noncomputable def c135_2 (run : RunT) (fu : Nat) (x2 x5 x6 x8 x9 : AV) (σ : Store) : Tr R :=
  calK run 139 [x5, (.int .i64 1), (.int .i64 1), (.bool true)] σ fun x98 σ1 =>
  notK x98 fun x99 =>
  ifK x99 (
  .fail) (
  .fail)

theorem eq135_2 (run : RunT) (fu : Nat) (x2 x5 x6 x8 x9 : AV) (σ : Store) : codeK X0 run (.seq (.seq .leaf (.cond (.sub deadK) (.sub deadK))) .leaf) (subC [true, false, true, true, true, true, true, true, true] b135) (frS 0 181 [(2, x2), (5, x5), (6, x6), (8, x8), (9, x9)]) σ (noGotoK k135) = c135_2 run fu x2 x5 x6 x8 x9 σ := by kernel_rfl

theorem ok135_2 {run : RunT} (hrun : RunOK X0 run) (fu : Nat) : ∀ fr σ, KOK X0 181 (subC [true, false, true, true, true, true, true, true, true] b135) fr σ ((fun fr σ => c135_2 run fu (G fr 2) (G fr 5) (G fr 6) (G fr 8) (G fr 9) σ) fr σ) (noGotoK k135) := fun fr σ =>
  KOK.piece env0 hrun [2, 5, 6, 8, 9] (eq135_2 run fu (G fr 2) (G fr 5) (G fr 6) (G fr 8) (G fr 9) σ) ⟨⟨trivial, ⟨KOK.dead, KOK.dead⟩⟩, trivial⟩

noncomputable def c135_4 (run : RunT) (fu : Nat) (x2 x5 x6 x9 x40 : AV) (σ : Store) : Tr R :=
  ifK x40 (
  .fail) (
  .ret ((.bool false), σ))

theorem eq135_4 (run : RunT) (fu : Nat) (x2 x5 x6 x9 x40 : AV) (σ : Store) : codeK X0 run (.cond (.sub deadK) (.seq .leaf .leaf)) (subC [true, false, true, true, true, true, true, true, false, true, false, true, true, true] b135) (frS 0 181 [(2, x2), (5, x5), (6, x6), (9, x9), (40, x40)]) σ (blockK 2 (thenK (fun fr σ => c135_2 run fu (G fr 2) (G fr 5) (G fr 6) (G fr 8) (G fr 9) σ) (noGotoK k135))) = c135_4 run fu x2 x5 x6 x9 x40 σ := by kernel_rfl

theorem ok135_4 {run : RunT} (hrun : RunOK X0 run) (fu : Nat) : ∀ fr σ, KOK X0 181 (subC [true, false, true, true, true, true, true, true, false, true, false, true, true, true] b135) fr σ ((fun fr σ => c135_4 run fu (G fr 2) (G fr 5) (G fr 6) (G fr 9) (G fr 40) σ) fr σ) (blockK 2 (thenK (fun fr σ => c135_2 run fu (G fr 2) (G fr 5) (G fr 6) (G fr 8) (G fr 9) σ) (noGotoK k135))) := fun fr σ =>
  KOK.piece env0 hrun [2, 5, 6, 9, 40] (eq135_4 run fu (G fr 2) (G fr 5) (G fr 6) (G fr 9) (G fr 40) σ) ⟨KOK.dead, ⟨trivial, trivial⟩⟩

noncomputable def c135_3 (run : RunT) (fu : Nat) (x2 x5 x6 x8 x9 x31 x32 : AV) (σ : Store) : Tr R :=
  ifK x32 (
  .fail) (
  cmpK .eql x31 (.int .u8 48) fun x41 =>
  ifK x41 (
  .fail) (
  cmpK .eql x31 (.int .u8 49) fun x42 =>
  ifK x42 (
  .fail) (
  cmpK .eql x31 (.int .u8 50) fun x43 =>
  ifK x43 (
  .fail) (
  cmpK .eql x31 (.int .u8 51) fun x44 =>
  ifK x44 (
  .fail) (
  cmpK .eql x31 (.int .u8 52) fun x45 =>
  ifK x45 (
  .fail) (
  cmpK .eql x31 (.int .u8 53) fun x46 =>
  ifK x46 (
  .fail) (
  cmpK .eql x31 (.int .u8 54) fun x47 =>
  ifK x47 (
  .fail) (
  cmpK .eql x31 (.int .u8 55) fun x48 =>
  ifK x48 (
  .fail) (
  cmpK .eql x31 (.int .u8 56) fun x49 =>
  ifK x49 (
  .fail) (
  cmpK .eql x31 (.int .u8 57) fun x50 =>
  c135_4 run fu x2 x5 x6 x9 x50 σ))))))))))

theorem eq135_3 (run : RunT) (fu : Nat) (x2 x5 x6 x8 x9 x31 x32 : AV) (σ : Store) : codeK X0 run (.cond (.sub deadK) (.seq (.seq .leaf (.cond (.sub deadK) (.seq .leaf (.cond (.sub deadK) (.seq .leaf (.cond (.sub deadK) (.seq .leaf (.cond (.sub deadK) (.seq .leaf (.cond (.sub deadK) (.seq .leaf (.cond (.sub deadK) (.seq .leaf (.cond (.sub deadK) (.seq .leaf (.cond (.sub deadK) (.seq .leaf (.cond (.sub deadK) .leaf)))))))))))))))))) (.sub (fun fr σ => c135_4 run fu (G fr 2) (G fr 5) (G fr 6) (G fr 9) (G fr 40) σ)))) (subC [true, false, true, true, true, true, true, true, false, true, false, true] b135) (frS 0 181 [(2, x2), (5, x5), (6, x6), (8, x8), (9, x9), (31, x31), (32, x32)]) σ (blockK 2 (thenK (fun fr σ => c135_2 run fu (G fr 2) (G fr 5) (G fr 6) (G fr 8) (G fr 9) σ) (noGotoK k135))) = c135_3 run fu x2 x5 x6 x8 x9 x31 x32 σ := by kernel_rfl

theorem ok135_3 {run : RunT} (hrun : RunOK X0 run) (fu : Nat) : ∀ fr σ, KOK X0 181 (subC [true, false, true, true, true, true, true, true, false, true, false, true] b135) fr σ ((fun fr σ => c135_3 run fu (G fr 2) (G fr 5) (G fr 6) (G fr 8) (G fr 9) (G fr 31) (G fr 32) σ) fr σ) (blockK 2 (thenK (fun fr σ => c135_2 run fu (G fr 2) (G fr 5) (G fr 6) (G fr 8) (G fr 9) σ) (noGotoK k135))) := fun fr σ =>
  KOK.piece env0 hrun [2, 5, 6, 8, 9, 31, 32] (eq135_3 run fu (G fr 2) (G fr 5) (G fr 6) (G fr 8) (G fr 9) (G fr 31) (G fr 32) σ) ⟨KOK.dead, ⟨⟨trivial, ⟨KOK.dead, ⟨trivial, ⟨KOK.dead, ⟨trivial, ⟨KOK.dead, ⟨trivial, ⟨KOK.dead, ⟨trivial, ⟨KOK.dead, ⟨trivial, ⟨KOK.dead, ⟨trivial, ⟨KOK.dead, ⟨trivial, ⟨KOK.dead, ⟨trivial, ⟨KOK.dead, trivial⟩⟩⟩⟩⟩⟩⟩⟩⟩⟩⟩⟩⟩⟩⟩⟩⟩⟩, (ok135_4 hrun fu)⟩⟩

noncomputable def c135_1 (run : RunT) (fu : Nat) (x2 x5 x6 : AV) (σ : Store) : Tr R :=
  calK run 170 [x5] σ fun x30 σ1 =>
  cmpK .eql x30 (.int .u8 45) fun x33 =>
  ifK x33 (
  .fail) (
  cmpK .eql x30 (.int .u8 42) fun x34 =>
  ifK x34 (
  .fail) (
  cmpK .eql x30 (.int .u8 43) fun x35 =>
  c135_3 run fu x2 x5 x6 x30 (.int .i64 0) x30 x35 σ1))

theorem eq135_1 (run : RunT) (fu : Nat) (x2 x5 x6 : AV) (σ : Store) : codeK X0 run (.seq .leaf (.seq .leaf (.seq .leaf (.seq (.seq .leaf (.block (.seq (.seq .leaf (.cond (.sub deadK) (.seq .leaf (.cond (.sub deadK) .leaf)))) (.sub (fun fr σ => c135_3 run fu (G fr 2) (G fr 5) (G fr 6) (G fr 8) (G fr 9) (G fr 31) (G fr 32) σ))))) (.sub (fun fr σ => c135_2 run fu (G fr 2) (G fr 5) (G fr 6) (G fr 8) (G fr 9) σ)))))) (subC [true, false, true, true, true] b135) (frS 0 181 [(2, x2), (5, x5), (6, x6)]) σ (noGotoK k135) = c135_1 run fu x2 x5 x6 σ := by kernel_rfl

theorem ok135_1 {run : RunT} (hrun : RunOK X0 run) (fu : Nat) : ∀ fr σ, KOK X0 181 (subC [true, false, true, true, true] b135) fr σ ((fun fr σ => c135_1 run fu (G fr 2) (G fr 5) (G fr 6) σ) fr σ) (noGotoK k135) := fun fr σ =>
  KOK.piece env0 hrun [2, 5, 6] (eq135_1 run fu (G fr 2) (G fr 5) (G fr 6) σ) ⟨trivial, ⟨trivial, ⟨trivial, ⟨⟨trivial, ⟨⟨trivial, ⟨KOK.dead, ⟨trivial, ⟨KOK.dead, trivial⟩⟩⟩⟩, (ok135_3 hrun fu)⟩⟩, (ok135_2 hrun fu)⟩⟩⟩⟩

noncomputable def c135_5b (run : RunT) (fu : Nat) (s5 : W4) (x2 x5 x6 x7 : AV) (σ : Store) : Tr R :=
  cmpK .lss x7 (.int .i64 3) fun x23 =>
  ifK x23 (
  calK run 139 [x5, (.int .i64 1), (.int .i64 1), (.bool false)] σ fun x26 σ1 =>
  notK x26 fun x27 =>
  ifK x27 (
  c135_1 run fu x2 x5 x6 σ1) (
  .fail)) (
  .fail)

noncomputable def c135_5 (run : RunT) (fu : Nat) : Nat → W4
  | 0 => fun _ _ _ _ _ => .fail
  | m + 1 => c135_5b run fu (c135_5 run fu m)

theorem eq135_5 (run : RunT) (fu : Nat) (s5 : W4) (x2 x5 x6 x7 : AV) (σ : Store) : codeK X0 run (.seq (.seq .leaf (.cond .leaf (.sub deadK))) (.seq (.block (.seq (.seq .leaf (.cond .leaf (.sub deadK))) .leaf)) .leaf)) (subC [true, false, true, true, false, true, false, false] b135) (frS 0 181 [(2, x2), (5, x5), (6, x6), (7, x7)]) σ (thenK (fun fr σ => s5 (G fr 2) (G fr 5) (G fr 6) (G fr 7) σ) (blockK 0 (thenK (fun fr σ => c135_1 run fu (G fr 2) (G fr 5) (G fr 6) σ) (noGotoK k135)))) = c135_5b run fu s5 x2 x5 x6 x7 σ := by kernel_rfl

theorem owed135_5 {run : RunT} (hrun : RunOK X0 run) (fu : Nat) (s5 : W4) : Owes X0 run 181 (.seq (.seq .leaf (.cond .leaf (.sub deadK))) (.seq (.block (.seq (.seq .leaf (.cond .leaf (.sub deadK))) .leaf)) .leaf)) (subC [true, false, true, true, false, true, false, false] b135) (thenK (fun fr σ => s5 (G fr 2) (G fr 5) (G fr 6) (G fr 7) σ) (blockK 0 (thenK (fun fr σ => c135_1 run fu (G fr 2) (G fr 5) (G fr 6) σ) (noGotoK k135)))) :=
  ⟨⟨trivial, ⟨trivial, KOK.dead⟩⟩, ⟨⟨⟨trivial, ⟨trivial, KOK.dead⟩⟩, trivial⟩, trivial⟩⟩

theorem ok135_5 {run : RunT} (hrun : RunOK X0 run) (fu : Nat) : ∀ fr σ, KOK X0 181 (subC [true, false, true, true, false, true, false] b135) fr σ ((fun fr σ => c135_5 run fu fu (G fr 2) (G fr 5) (G fr 6) (G fr 7) σ) fr σ) (blockK 0 (thenK (fun fr σ => c135_1 run fu (G fr 2) (G fr 5) (G fr 6) σ) (noGotoK k135))) := by
  have h := KOK.loop (X := X0) (N := 181) (b := (subC [true, false, true, true, false, true, false, false] b135)) (k := (blockK 0 (thenK (fun fr σ => c135_1 run fu (G fr 2) (G fr 5) (G fr 6) σ) (noGotoK k135)))) (u := fun m fr σ => c135_5 run fu m (G fr 2) (G fr 5) (G fr 6) (G fr 7) σ) (fun _ _ => rfl) (fun m fr σ => KOK.piece env0 hrun [2, 5, 6, 7] (eq135_5 run fu (c135_5 run fu m) (G fr 2) (G fr 5) (G fr 6) (G fr 7) σ) (owed135_5 hrun fu (c135_5 run fu m)))
  exact fun fr σ => h fu fr σ

noncomputable def c135 (run : RunT) (fu : Nat) (x0 x1 : AV) (σ : Store) : Tr R :=
  boxK σ 221 x0 fun x2 σ1 =>
  nchkK x1 fun x20 =>
  ldNK σ1 x20 5 fun x21 =>
  newK σ1 201 [(.int .i64 0), (.int .i64 0), (.int .i64 0), (.str []), (.int .u8 0)] fun x5 σ2 =>
  stNK σ2 x5 5 x21 fun _ σ3 =>
  c135_5 run fu fu x2 x5 (.int .i64 0) (.int .i64 0) σ3

theorem eq135 (run : RunT) (fu : Nat) (x0 x1 : AV) (σ : Store) : codeK X0 run (.seq .leaf (.scope (.seq .leaf (.seq .leaf (.seq (.seq .leaf (.block (.sub (fun fr σ => c135_5 run fu fu (G fr 2) (G fr 5) (G fr 6) (G fr 7) σ)))) (.sub (fun fr σ => c135_1 run fu (G fr 2) (G fr 5) (G fr 6) σ))))))) (subC [] b135) ([x0, x1] ++ padA (181 - 2)) σ k135 = c135 run fu x0 x1 σ := by kernel_rfl

theorem ok135 {run : RunT} (hrun : RunOK X0 run) (fu : Nat) (x0 x1 : AV) (σ : Store) : CallOK X0 135 [x0, x1] σ (c135 run fu x0 x1 σ) :=
  KOK.body (fn := Tryz.f135) (c := subC [] b135) (by kernel_rfl) (by kernel_rfl) (by show 2 ≤ 181; decide) (KOK.whole env0 hrun (eq135 run fu x0 x1 σ) ⟨trivial, ⟨trivial, ⟨trivial, ⟨⟨trivial, (ok135_5 hrun fu)⟩, (ok135_1 hrun fu)⟩⟩⟩⟩)

-- (*pub-paratext/pub/rscmarkdown.parseState).startHTML

noncomputable def b136 : Code := match Tryz.f136.body with | some c => c | none => .skip

noncomputable def k136 : Kont R := retK Tryz.prog [.tmp 4]

noncomputable def c136_3 (run : RunT) (fu : Nat) (s1 : W5) (σ : Store) : Tr R :=
  .ret ((.bool false), σ)

theorem eq136_3 (run : RunT) (fu : Nat) (s1 : W5) (σ : Store) : codeK X0 run (.seq .leaf .leaf) (subC [true, true, true] (lblC 0 (subC [true, false] b136))) (frS 0 368 []) σ (scopeK (subC [true, false] b136) (lblU 0 (fun fr σ => s1 (G fr 0) (G fr 1) (G fr 6) (G fr 9) (G fr 10) σ)) k136) = c136_3 run fu s1 σ := by kernel_rfl

theorem ok136_3 {run : RunT} (hrun : RunOK X0 run) (fu : Nat) (s1 : W5) : ∀ fr σ, KOK X0 368 (subC [true, true, true] (lblC 0 (subC [true, false] b136))) fr σ ((fun fr σ => c136_3 run fu s1 σ) fr σ) (scopeK (subC [true, false] b136) (lblU 0 (fun fr σ => s1 (G fr 0) (G fr 1) (G fr 6) (G fr 9) (G fr 10) σ)) k136) := fun fr σ =>
  KOK.piece env0 hrun [] (eq136_3 run fu s1 σ) ⟨trivial, trivial⟩

noncomputable def c136_2 (run : RunT) (fu : Nat) (s1 : W5) (x0 x1 x6 : AV) (σ : Store) : Tr R :=
  calK run 89 [x0] σ fun x293 σ1 =>
  eqOK (nilEq nilP) x293 .nilp fun x294 =>
  ifK x294 (
  .fail) (
  .fail)

theorem eq136_2 (run : RunT) (fu : Nat) (s1 : W5) (x0 x1 x6 : AV) (σ : Store) : codeK X0 run (.seq (.seq .leaf (.cond (.sub deadK) (.sub deadK))) (.sub (fun fr σ => c136_3 run fu s1 σ))) (subC [true, true] (lblC 0 (subC [true, false] b136))) (frS 0 368 [(0, x0), (1, x1), (6, x6)]) σ (scopeK (subC [true, false] b136) (lblU 0 (fun fr σ => s1 (G fr 0) (G fr 1) (G fr 6) (G fr 9) (G fr 10) σ)) k136) = c136_2 run fu s1 x0 x1 x6 σ := by kernel_rfl

theorem ok136_2 {run : RunT} (hrun : RunOK X0 run) (fu : Nat) (s1 : W5) : ∀ fr σ, KOK X0 368 (subC [true, true] (lblC 0 (subC [true, false] b136))) fr σ ((fun fr σ => c136_2 run fu s1 (G fr 0) (G fr 1) (G fr 6) σ) fr σ) (scopeK (subC [true, false] b136) (lblU 0 (fun fr σ => s1 (G fr 0) (G fr 1) (G fr 6) (G fr 9) (G fr 10) σ)) k136) := fun fr σ =>
  KOK.piece env0 hrun [0, 1, 6] (eq136_2 run fu s1 (G fr 0) (G fr 1) (G fr 6) σ) ⟨⟨trivial, ⟨KOK.dead, KOK.dead⟩⟩, (ok136_3 hrun fu s1)⟩

noncomputable def c136_1Lb (run : RunT) (fu : Nat) (s1 : W5) (x0 x1 x6 x9 x10 : AV) (σ : Store) : Tr R :=
  lenSK x6 fun x233 =>
  cmpK .gtr x233 (.int .i64 1) fun x234 =>
  grdK x234 true σ (fun f => f x6 σ) fun x236 σ1 =>
  grdK x234 true σ1 (fun f => idxSK x236 (.int .i64 1) fun v => f v σ1) fun x237 σ2 =>
  grdK x234 true σ2 (fun f => cmpK .neq x237 (.int .u8 47) fun v => f v σ2) fun x238 σ3 =>
  pickK x234 x238 (.bool false) fun x239 =>
  grdK x239 true σ3 (fun f => f x9 σ3) fun x241 σ4 =>
  grdK x239 true σ4 (fun f => f x6 σ4) fun x242 σ5 =>
  grdK x239 true σ5 (fun f => lenSK x242 fun v => f v σ5) fun x243 σ6 =>
  grdK x239 true σ6 (fun f => cmpK .geq x241 x243 fun v => f v σ6) fun x244 σ7 =>
  grdK x239 true σ7 (fun f => f x244 σ7) fun x245 σ8 =>
  grdK x245 false σ8 (fun f => f x6 σ8) fun x246 σ9 =>
  grdK x245 false σ9 (fun f => f x9 σ9) fun x247 σ10 =>
  grdK x245 false σ10 (fun f => idxSK x246 x247 fun v => f v σ10) fun x248 σ11 =>
  grdK x245 false σ11 (fun f => cmpK .eql x248 (.int .u8 32) fun v => f v σ11) fun x249 σ12 =>
  grdK x239 true σ12 (fun f => pickK x245 (.bool true) x249 fun v => f v σ12) fun x250 σ13 =>
  grdK x239 true σ13 (fun f => f x250 σ13) fun x251 σ14 =>
  grdK x251 false σ14 (fun f => f x6 σ14) fun x252 σ15 =>
  grdK x251 false σ15 (fun f => f x9 σ15) fun x253 σ16 =>
  grdK x251 false σ16 (fun f => idxSK x252 x253 fun v => f v σ16) fun x254 σ17 =>
  grdK x251 false σ17 (fun f => cmpK .eql x254 (.int .u8 9) fun v => f v σ17) fun x255 σ18 =>
  grdK x239 true σ18 (fun f => pickK x251 (.bool true) x255 fun v => f v σ18) fun x256 σ19 =>
  grdK x239 true σ19 (fun f => f x256 σ19) fun x257 σ20 =>
  grdK x257 false σ20 (fun f => f x6 σ20) fun x258 σ21 =>
  grdK x257 false σ21 (fun f => f x9 σ21) fun x259 σ22 =>
  grdK x257 false σ22 (fun f => idxSK x258 x259 fun v => f v σ22) fun x260 σ23 =>
  grdK x257 false σ23 (fun f => cmpK .eql x260 (.int .u8 62) fun v => f v σ23) fun x261 σ24 =>
  grdK x239 true σ24 (fun f => pickK x257 (.bool true) x261 fun v => f v σ24) fun x262 σ25 =>
  pickK x239 x262 (.bool false) fun x263 =>
  ifK x263 (
  .fail) (
  .fail)

noncomputable def c136_1L (run : RunT) (fu : Nat) : Nat → W5
  | 0 => fun _ _ _ _ _ _ => .fail
  | m + 1 => c136_1Lb run fu (c136_1L run fu m)

theorem eq136_1L (run : RunT) (fu : Nat) (s1 : W5) (x0 x1 x6 x9 x10 : AV) (σ : Store) : codeK X0 run (.seq .leaf (.seq (.seq .leaf (.cond (.sub deadK) (.sub deadK))) (.sub (fun fr σ => c136_2 run fu s1 (G fr 0) (G fr 1) (G fr 6) σ)))) (subC [] (lblC 0 (subC [true, false] b136))) (frS 0 368 [(0, x0), (1, x1), (6, x6), (9, x9), (10, x10)]) σ (scopeK (subC [true, false] b136) (lblU 0 (fun fr σ => s1 (G fr 0) (G fr 1) (G fr 6) (G fr 9) (G fr 10) σ)) k136) = c136_1Lb run fu s1 x0 x1 x6 x9 x10 σ := by kernel_rfl

theorem owed136_1L {run : RunT} (hrun : RunOK X0 run) (fu : Nat) (s1 : W5) : Owes X0 run 368 (.seq .leaf (.seq (.seq .leaf (.cond (.sub deadK) (.sub deadK))) (.sub (fun fr σ => c136_2 run fu s1 (G fr 0) (G fr 1) (G fr 6) σ)))) (subC [] (lblC 0 (subC [true, false] b136))) (scopeK (subC [true, false] b136) (lblU 0 (fun fr σ => s1 (G fr 0) (G fr 1) (G fr 6) (G fr 9) (G fr 10) σ)) k136) :=
  ⟨trivial, ⟨⟨trivial, ⟨KOK.dead, KOK.dead⟩⟩, (ok136_2 hrun fu s1)⟩⟩

noncomputable def c136_1 (run : RunT) (fu : Nat) (x0 x1 : AV) (σ : Store) : Tr R :=
  nchkK x1 fun x28 =>
  ldNK σ x28 5 fun x29 =>
  newK σ 201 [(.int .i64 0), (.int .i64 0), (.int .i64 0), (.str []), (.int .u8 0)] fun x5 σ1 =>
  stNK σ1 x5 5 x29 fun _ σ2 =>
  calK run 139 [x5, (.int .i64 0), (.int .i64 3), (.bool false)] σ2 fun x30 σ3 =>
  calK run 170 [x5] σ3 fun x31 σ4 =>
  cmpK .neq x31 (.int .u8 60) fun x32 =>
  ifK x32 (
  .ret ((.bool false), σ4)) (
  .fail)

theorem eq136_1 (run : RunT) (fu : Nat) (x0 x1 : AV) (σ : Store) : codeK X0 run (.seq .leaf (.seq .leaf (.seq (.seq .leaf (.cond (.seq .leaf .leaf) (.sub deadK))) .leaf))) (subC [true, false] b136) (frS 0 368 [(0, x0), (1, x1)]) σ (scopeK (subC [true, false] b136) (lblU 0 (fun fr σ => c136_1L run fu fu (G fr 0) (G fr 1) (G fr 6) (G fr 9) (G fr 10) σ)) k136) = c136_1 run fu x0 x1 σ := by kernel_rfl

theorem ok136_1 {run : RunT} (hrun : RunOK X0 run) (fu : Nat) : ∀ fr σ, KOK X0 368 (subC [true] b136) fr σ ((fun fr σ => c136_1 run fu (G fr 0) (G fr 1) σ) fr σ) k136 := fun fr σ =>
  KOK.scope1 (X := X0) (N := 368) (b := (subC [true, false] b136)) (k := k136) 0 (u := fun m fr σ => c136_1L run fu m (G fr 0) (G fr 1) (G fr 6) (G fr 9) (G fr 10) σ) (fun _ _ => rfl) (fun m fr σ => KOK.piece env0 hrun [0, 1, 6, 9, 10] (eq136_1L run fu (c136_1L run fu m) (G fr 0) (G fr 1) (G fr 6) (G fr 9) (G fr 10) σ) (owed136_1L hrun fu (c136_1L run fu m))) fu
    (KOK.piece env0 hrun [0, 1] (eq136_1 run fu (G fr 0) (G fr 1) σ) ⟨trivial, ⟨trivial, ⟨⟨trivial, ⟨⟨trivial, trivial⟩, KOK.dead⟩⟩, trivial⟩⟩⟩)

noncomputable def c136 (run : RunT) (fu : Nat) (x0 x1 : AV) (σ : Store) : Tr R :=
  c136_1 run fu x0 x1 σ

theorem eq136 (run : RunT) (fu : Nat) (x0 x1 : AV) (σ : Store) : codeK X0 run (.seq .leaf (.sub (fun fr σ => c136_1 run fu (G fr 0) (G fr 1) σ))) (subC [] b136) ([x0, x1] ++ padA (368 - 2)) σ k136 = c136 run fu x0 x1 σ := by kernel_rfl

theorem ok136 {run : RunT} (hrun : RunOK X0 run) (fu : Nat) (x0 x1 : AV) (σ : Store) : CallOK X0 136 [x0, x1] σ (c136 run fu x0 x1 σ) :=
  KOK.body (fn := Tryz.f136) (c := subC [] b136) (by kernel_rfl) (by kernel_rfl) (by show 2 ≤ 368; decide) (KOK.whole env0 hrun (eq136 run fu x0 x1 σ) ⟨trivial, (ok136_1 hrun fu)⟩)

-- (*pub-paratext/pub/rscmarkdown.line).trimFence

noncomputable def b137 : Code := match Tryz.f137.body with | some c => c | none => .skip

noncomputable def k137 : Kont R := retK Tryz.prog [.tmp 8]

noncomputable def c137_2 (run : RunT) (fu : Nat) (σ : Store) : Tr R :=
  .ret ((.bool false), σ)

theorem eq137_2 (run : RunT) (fu : Nat) (σ : Store) : codeK X0 run (.seq .leaf .leaf) (subC [true, true, true, true, true] b137) (frS 0 69 []) σ k137 = c137_2 run fu σ := by kernel_rfl

theorem ok137_2 {run : RunT} (hrun : RunOK X0 run) (fu : Nat) : ∀ fr σ, KOK X0 69 (subC [true, true, true, true, true] b137) fr σ ((fun fr σ => c137_2 run fu σ) fr σ) k137 := fun fr σ =>
  KOK.piece env0 hrun [] (eq137_2 run fu σ) ⟨trivial, trivial⟩

noncomputable def c137_3 (run : RunT) (fu : Nat) (x0 x1 x2 x9 x10 x34 : AV) (σ : Store) : Tr R :=
  ifK x34 (
  .fail) (
  c137_2 run fu σ)

theorem eq137_3 (run : RunT) (fu : Nat) (x0 x1 x2 x9 x10 x34 : AV) (σ : Store) : codeK X0 run (.cond (.sub deadK) .leaf) (subC [true, true, true, true, false, true, true, false, true] b137) (frS 0 69 [(0, x0), (1, x1), (2, x2), (9, x9), (10, x10), (34, x34)]) σ (blockK 2 (thenK (fun fr σ => c137_2 run fu σ) k137)) = c137_3 run fu x0 x1 x2 x9 x10 x34 σ := by kernel_rfl

theorem ok137_3 {run : RunT} (hrun : RunOK X0 run) (fu : Nat) : ∀ fr σ, KOK X0 69 (subC [true, true, true, true, false, true, true, false, true] b137) fr σ ((fun fr σ => c137_3 run fu (G fr 0) (G fr 1) (G fr 2) (G fr 9) (G fr 10) (G fr 34) σ) fr σ) (blockK 2 (thenK (fun fr σ => c137_2 run fu σ) k137)) := fun fr σ =>
  KOK.piece env0 hrun [0, 1, 2, 9, 10, 34] (eq137_3 run fu (G fr 0) (G fr 1) (G fr 2) (G fr 9) (G fr 10) (G fr 34) σ) ⟨KOK.dead, trivial⟩

noncomputable def c137_1 (run : RunT) (fu : Nat) (x0 x1 x2 x9 : AV) (σ : Store) : Tr R :=
  calK run 170 [x9] σ fun x32 σ1 =>
  cmpK .eql x32 (.int .u8 96) fun x35 =>
  ifK x35 (
  .fail) (
  cmpK .eql x32 (.int .u8 126) fun x36 =>
  c137_3 run fu x0 x1 x2 x9 x32 x36 σ1)

theorem eq137_1 (run : RunT) (fu : Nat) (x0 x1 x2 x9 : AV) (σ : Store) : codeK X0 run (.seq (.seq .leaf (.seq .leaf (.block (.seq (.seq .leaf (.cond (.sub deadK) .leaf)) (.sub (fun fr σ => c137_3 run fu (G fr 0) (G fr 1) (G fr 2) (G fr 9) (G fr 10) (G fr 34) σ)))))) (.sub (fun fr σ => c137_2 run fu σ))) (subC [true, true, true, true] b137) (frS 0 69 [(0, x0), (1, x1), (2, x2), (9, x9)]) σ k137 = c137_1 run fu x0 x1 x2 x9 σ := by kernel_rfl

theorem ok137_1 {run : RunT} (hrun : RunOK X0 run) (fu : Nat) : ∀ fr σ, KOK X0 69 (subC [true, true, true, true] b137) fr σ ((fun fr σ => c137_1 run fu (G fr 0) (G fr 1) (G fr 2) (G fr 9) σ) fr σ) k137 := fun fr σ =>
  KOK.piece env0 hrun [0, 1, 2, 9] (eq137_1 run fu (G fr 0) (G fr 1) (G fr 2) (G fr 9) σ) ⟨⟨trivial, ⟨trivial, ⟨⟨trivial, ⟨KOK.dead, trivial⟩⟩, (ok137_3 hrun fu)⟩⟩⟩, (ok137_2 hrun fu)⟩

noncomputable def c137_4b (run : RunT) (fu : Nat) (s4 : W5) (x0 x1 x2 x3 x9 : AV) (σ : Store) : Tr R :=
  nchkK x3 fun x21 =>
  ld1K σ x21 fun x22 =>
  cmpK .lss x22 (.int .i64 3) fun x23 =>
  grdK x23 true σ (fun f => calK run 139 [x9, (.int .i64 1), (.int .i64 1), (.bool false)] σ f) fun x25 σ1 =>
  pickK x23 x25 (.bool false) fun x26 =>
  ifK x26 (
  .fail) (
  c137_1 run fu x0 x1 x2 x9 σ1)

noncomputable def c137_4 (run : RunT) (fu : Nat) : Nat → W5
  | 0 => fun _ _ _ _ _ _ => .fail
  | m + 1 => c137_4b run fu (c137_4 run fu m)

theorem eq137_4 (run : RunT) (fu : Nat) (s4 : W5) (x0 x1 x2 x3 x9 : AV) (σ : Store) : codeK X0 run (.seq (.seq .leaf (.cond (.sub deadK) .leaf)) .leaf) (subC [true, true, true, false, false, false] b137) (frS 0 69 [(0, x0), (1, x1), (2, x2), (3, x3), (9, x9)]) σ (thenK (fun fr σ => s4 (G fr 0) (G fr 1) (G fr 2) (G fr 3) (G fr 9) σ) (blockK 0 (thenK (fun fr σ => c137_1 run fu (G fr 0) (G fr 1) (G fr 2) (G fr 9) σ) k137))) = c137_4b run fu s4 x0 x1 x2 x3 x9 σ := by kernel_rfl

theorem owed137_4 {run : RunT} (hrun : RunOK X0 run) (fu : Nat) (s4 : W5) : Owes X0 run 69 (.seq (.seq .leaf (.cond (.sub deadK) .leaf)) .leaf) (subC [true, true, true, false, false, false] b137) (thenK (fun fr σ => s4 (G fr 0) (G fr 1) (G fr 2) (G fr 3) (G fr 9) σ) (blockK 0 (thenK (fun fr σ => c137_1 run fu (G fr 0) (G fr 1) (G fr 2) (G fr 9) σ) k137))) :=
  ⟨⟨trivial, ⟨KOK.dead, trivial⟩⟩, trivial⟩

theorem ok137_4 {run : RunT} (hrun : RunOK X0 run) (fu : Nat) : ∀ fr σ, KOK X0 69 (subC [true, true, true, false, false] b137) fr σ ((fun fr σ => c137_4 run fu fu (G fr 0) (G fr 1) (G fr 2) (G fr 3) (G fr 9) σ) fr σ) (blockK 0 (thenK (fun fr σ => c137_1 run fu (G fr 0) (G fr 1) (G fr 2) (G fr 9) σ) k137)) := by
  have h := KOK.loop (X := X0) (N := 69) (b := (subC [true, true, true, false, false, false] b137)) (k := (blockK 0 (thenK (fun fr σ => c137_1 run fu (G fr 0) (G fr 1) (G fr 2) (G fr 9) σ) k137))) (u := fun m fr σ => c137_4 run fu m (G fr 0) (G fr 1) (G fr 2) (G fr 3) (G fr 9) σ) (fun _ _ => rfl) (fun m fr σ => KOK.piece env0 hrun [0, 1, 2, 3, 9] (eq137_4 run fu (c137_4 run fu m) (G fr 0) (G fr 1) (G fr 2) (G fr 3) (G fr 9) σ) (owed137_4 hrun fu (c137_4 run fu m)))
  exact fun fr σ => h fu fr σ

noncomputable def c137 (run : RunT) (fu : Nat) (x0 x1 x2 x3 : AV) (σ : Store) : Tr R :=
  nchkK x0 fun x16 =>
  ldNK σ x16 5 fun x17 =>
  newK σ 201 [(.int .i64 0), (.int .i64 0), (.int .i64 0), (.str []), (.int .u8 0)] fun x9 σ1 =>
  stNK σ1 x9 5 x17 fun _ σ2 =>
  nchkK x3 fun x19 =>
  st1K σ2 x19 (.int .i64 0) fun _ σ3 =>
  c137_4 run fu fu x0 x1 x2 x3 x9 σ3

theorem eq137 (run : RunT) (fu : Nat) (x0 x1 x2 x3 : AV) (σ : Store) : codeK X0 run (.seq .leaf (.seq .leaf (.seq .leaf (.seq (.block (.sub (fun fr σ => c137_4 run fu fu (G fr 0) (G fr 1) (G fr 2) (G fr 3) (G fr 9) σ))) (.sub (fun fr σ => c137_1 run fu (G fr 0) (G fr 1) (G fr 2) (G fr 9) σ)))))) (subC [] b137) ([x0, x1, x2, x3] ++ padA (69 - 4)) σ k137 = c137 run fu x0 x1 x2 x3 σ := by kernel_rfl

theorem ok137 {run : RunT} (hrun : RunOK X0 run) (fu : Nat) (x0 x1 x2 x3 : AV) (σ : Store) : CallOK X0 137 [x0, x1, x2, x3] σ (c137 run fu x0 x1 x2 x3 σ) :=
  KOK.body (fn := Tryz.f137) (c := subC [] b137) (by kernel_rfl) (by kernel_rfl) (by show 4 ≤ 69; decide) (KOK.whole env0 hrun (eq137 run fu x0 x1 x2 x3 σ) ⟨trivial, ⟨trivial, ⟨trivial, ⟨(ok137_4 hrun fu), (ok137_1 hrun fu)⟩⟩⟩⟩)

-- (*pub-paratext/pub/rscmarkdown.line).trimSpace

noncomputable def b139 : Code := match Tryz.f139.body with | some c => c | none => .skip

noncomputable def k139 : Kont R := retK Tryz.prog [.tmp 8]

noncomputable def c139_1 (run : RunT) (fu : Nat) (x0 x9 : AV) (σ : Store) : Tr R :=
  ldNK σ x9 5 fun x74 =>
  nchkK x0 fun x75 =>
  stNK σ x75 5 x74 fun _ σ1 =>
  .ret ((.bool true), σ1)

theorem eq139_1 (run : RunT) (fu : Nat) (x0 x9 : AV) (σ : Store) : codeK X0 run (.seq .leaf (.seq .leaf .leaf)) (subC [true, true, true] b139) (frS 0 76 [(0, x0), (9, x9)]) σ k139 = c139_1 run fu x0 x9 σ := by kernel_rfl

theorem ok139_1 {run : RunT} (hrun : RunOK X0 run) (fu : Nat) : ∀ fr σ, KOK X0 76 (subC [true, true, true] b139) fr σ ((fun fr σ => c139_1 run fu (G fr 0) (G fr 9) σ) fr σ) k139 := fun fr σ =>
  KOK.piece env0 hrun [0, 9] (eq139_1 run fu (G fr 0) (G fr 9) σ) ⟨trivial, ⟨trivial, trivial⟩⟩

noncomputable def c139_3 (run : RunT) (fu : Nat) (s2 : W6) (x0 x1 x2 x3 x9 x10 : AV) (σ : Store) : Tr R :=
  addK x10 (.int .i64 1) fun x18 =>
  s2 x0 x1 x2 x3 x9 x18 σ

theorem eq139_3 (run : RunT) (fu : Nat) (s2 : W6) (x0 x1 x2 x3 x9 x10 : AV) (σ : Store) : codeK X0 run .leaf (subC [true, true, false, true, false, false, true, true] b139) (frS 0 76 [(0, x0), (1, x1), (2, x2), (3, x3), (9, x9), (10, x10)]) σ (thenK (fun fr σ => s2 (G fr 0) (G fr 1) (G fr 2) (G fr 3) (G fr 9) (G fr 10) σ) (blockK 0 (thenK (fun fr σ => c139_1 run fu (G fr 0) (G fr 9) σ) k139))) = c139_3 run fu s2 x0 x1 x2 x3 x9 x10 σ := by kernel_rfl

theorem ok139_3 {run : RunT} (hrun : RunOK X0 run) (fu : Nat) (s2 : W6) : ∀ fr σ, KOK X0 76 (subC [true, true, false, true, false, false, true, true] b139) fr σ ((fun fr σ => c139_3 run fu s2 (G fr 0) (G fr 1) (G fr 2) (G fr 3) (G fr 9) (G fr 10) σ) fr σ) (thenK (fun fr σ => s2 (G fr 0) (G fr 1) (G fr 2) (G fr 3) (G fr 9) (G fr 10) σ) (blockK 0 (thenK (fun fr σ => c139_1 run fu (G fr 0) (G fr 9) σ) k139))) := fun fr σ =>
  KOK.piece env0 hrun [0, 1, 2, 3, 9, 10] (eq139_3 run fu s2 (G fr 0) (G fr 1) (G fr 2) (G fr 3) (G fr 9) (G fr 10) σ) trivial

noncomputable def c139_4 (run : RunT) (fu : Nat) (s2 : W6) (x0 x1 x9 x10 : AV) (σ : Store) : Tr R :=
  cmpK .geq x10 x1 fun x72 =>
  ifK x72 (
  c139_1 run fu x0 x9 σ) (
  .ret ((.bool false), σ))

theorem eq139_4 (run : RunT) (fu : Nat) (s2 : W6) (x0 x1 x9 x10 : AV) (σ : Store) : codeK X0 run (.seq (.seq .leaf (.cond .leaf .leaf)) (.seq .leaf .leaf)) (subC [true, true, false, true, false, false, true, false, false, true, true, true] b139) (frS 0 76 [(0, x0), (1, x1), (9, x9), (10, x10)]) σ (blockK 1 (thenK (fun fr σ => c139_3 run fu s2 (G fr 0) (G fr 1) (G fr 2) (G fr 3) (G fr 9) (G fr 10) σ) (thenK (fun fr σ => s2 (G fr 0) (G fr 1) (G fr 2) (G fr 3) (G fr 9) (G fr 10) σ) (blockK 0 (thenK (fun fr σ => c139_1 run fu (G fr 0) (G fr 9) σ) k139))))) = c139_4 run fu s2 x0 x1 x9 x10 σ := by kernel_rfl

theorem ok139_4 {run : RunT} (hrun : RunOK X0 run) (fu : Nat) (s2 : W6) : ∀ fr σ, KOK X0 76 (subC [true, true, false, true, false, false, true, false, false, true, true, true] b139) fr σ ((fun fr σ => c139_4 run fu s2 (G fr 0) (G fr 1) (G fr 9) (G fr 10) σ) fr σ) (blockK 1 (thenK (fun fr σ => c139_3 run fu s2 (G fr 0) (G fr 1) (G fr 2) (G fr 3) (G fr 9) (G fr 10) σ) (thenK (fun fr σ => s2 (G fr 0) (G fr 1) (G fr 2) (G fr 3) (G fr 9) (G fr 10) σ) (blockK 0 (thenK (fun fr σ => c139_1 run fu (G fr 0) (G fr 9) σ) k139))))) := fun fr σ =>
  KOK.piece env0 hrun [0, 1, 9, 10] (eq139_4 run fu s2 (G fr 0) (G fr 1) (G fr 9) (G fr 10) σ) ⟨⟨trivial, ⟨trivial, trivial⟩⟩, ⟨trivial, trivial⟩⟩

noncomputable def c139_2b (run : RunT) (fu : Nat) (s2 : W6) (x0 x1 x2 x3 x9 x10 : AV) (σ : Store) : Tr R :=
  cmpK .lss x10 x2 fun x16 =>
  ifK x16 (
  addrK x9 0 fun x19 =>
  ld1K σ x19 fun x20 =>
  cmpK .gtr x20 (.int .i64 0) fun x21 =>
  ifK x21 (
  .fail) (
  addrK x9 1 fun x26 =>
  ld1K σ x26 fun x27 =>
  addrK x9 3 fun x28 =>
  ld1K σ x28 fun x29 =>
  lenSK x29 fun x30 =>
  cmpK .geq x27 x30 fun x31 =>
  grdK x31 true σ (fun f => f x3 σ) fun x33 σ1 =>
  pickK x31 x33 (.bool false) fun x34 =>
  ifK x34 (
  .fail) (
  addrK x9 1 fun x35 =>
  ld1K σ1 x35 fun x36 =>
  addrK x9 3 fun x37 =>
  ld1K σ1 x37 fun x38 =>
  lenSK x38 fun x39 =>
  cmpK .lss x36 x39 fun x40 =>
  ifK x40 (
  addrK x9 3 fun x41 =>
  ld1K σ1 x41 fun x42 =>
  addrK x9 1 fun x43 =>
  ld1K σ1 x43 fun x44 =>
  idxSK x42 x44 fun x45 =>
  cmpK .eql x45 (.int .u8 9) fun x47 =>
  ifK x47 (
  .fail) (
  cmpK .eql x45 (.int .u8 32) fun x65 =>
  ifK x65 (
  .fail) (
  c139_4 run fu s2 x0 x1 x9 x10 σ1))) (
  .fail)))) (
  .fail)

noncomputable def c139_2 (run : RunT) (fu : Nat) : Nat → W6
  | 0 => fun _ _ _ _ _ _ _ => .fail
  | m + 1 => c139_2b run fu (c139_2 run fu m)

theorem eq139_2 (run : RunT) (fu : Nat) (s2 : W6) (x0 x1 x2 x3 x9 x10 : AV) (σ : Store) : codeK X0 run (.seq (.seq .leaf (.cond .leaf (.sub deadK))) (.seq (.block (.seq (.seq .leaf (.cond (.sub deadK) .leaf)) (.seq (.seq .leaf (.cond (.sub deadK) .leaf)) (.seq (.seq .leaf (.cond (.seq .leaf (.block (.seq .leaf (.cond (.sub deadK) (.seq .leaf (.cond (.sub deadK) .leaf)))))) (.sub deadK))) (.sub (fun fr σ => c139_4 run fu s2 (G fr 0) (G fr 1) (G fr 9) (G fr 10) σ)))))) (.sub (fun fr σ => c139_3 run fu s2 (G fr 0) (G fr 1) (G fr 2) (G fr 3) (G fr 9) (G fr 10) σ)))) (subC [true, true, false, true, false, false] b139) (frS 0 76 [(0, x0), (1, x1), (2, x2), (3, x3), (9, x9), (10, x10)]) σ (thenK (fun fr σ => s2 (G fr 0) (G fr 1) (G fr 2) (G fr 3) (G fr 9) (G fr 10) σ) (blockK 0 (thenK (fun fr σ => c139_1 run fu (G fr 0) (G fr 9) σ) k139))) = c139_2b run fu s2 x0 x1 x2 x3 x9 x10 σ := by kernel_rfl

theorem owed139_2 {run : RunT} (hrun : RunOK X0 run) (fu : Nat) (s2 : W6) : Owes X0 run 76 (.seq (.seq .leaf (.cond .leaf (.sub deadK))) (.seq (.block (.seq (.seq .leaf (.cond (.sub deadK) .leaf)) (.seq (.seq .leaf (.cond (.sub deadK) .leaf)) (.seq (.seq .leaf (.cond (.seq .leaf (.block (.seq .leaf (.cond (.sub deadK) (.seq .leaf (.cond (.sub deadK) .leaf)))))) (.sub deadK))) (.sub (fun fr σ => c139_4 run fu s2 (G fr 0) (G fr 1) (G fr 9) (G fr 10) σ)))))) (.sub (fun fr σ => c139_3 run fu s2 (G fr 0) (G fr 1) (G fr 2) (G fr 3) (G fr 9) (G fr 10) σ)))) (subC [true, true, false, true, false, false] b139) (thenK (fun fr σ => s2 (G fr 0) (G fr 1) (G fr 2) (G fr 3) (G fr 9) (G fr 10) σ) (blockK 0 (thenK (fun fr σ => c139_1 run fu (G fr 0) (G fr 9) σ) k139))) :=
  ⟨⟨trivial, ⟨trivial, KOK.dead⟩⟩, ⟨⟨⟨trivial, ⟨KOK.dead, trivial⟩⟩, ⟨⟨trivial, ⟨KOK.dead, trivial⟩⟩, ⟨⟨trivial, ⟨⟨trivial, ⟨trivial, ⟨KOK.dead, ⟨trivial, ⟨KOK.dead, trivial⟩⟩⟩⟩⟩, KOK.dead⟩⟩, (ok139_4 hrun fu s2)⟩⟩⟩, (ok139_3 hrun fu s2)⟩⟩

theorem ok139_2 {run : RunT} (hrun : RunOK X0 run) (fu : Nat) : ∀ fr σ, KOK X0 76 (subC [true, true, false, true, false] b139) fr σ ((fun fr σ => c139_2 run fu fu (G fr 0) (G fr 1) (G fr 2) (G fr 3) (G fr 9) (G fr 10) σ) fr σ) (blockK 0 (thenK (fun fr σ => c139_1 run fu (G fr 0) (G fr 9) σ) k139)) := by
  have h := KOK.loop (X := X0) (N := 76) (b := (subC [true, true, false, true, false, false] b139)) (k := (blockK 0 (thenK (fun fr σ => c139_1 run fu (G fr 0) (G fr 9) σ) k139))) (u := fun m fr σ => c139_2 run fu m (G fr 0) (G fr 1) (G fr 2) (G fr 3) (G fr 9) (G fr 10) σ) (fun _ _ => rfl) (fun m fr σ => KOK.piece env0 hrun [0, 1, 2, 3, 9, 10] (eq139_2 run fu (c139_2 run fu m) (G fr 0) (G fr 1) (G fr 2) (G fr 3) (G fr 9) (G fr 10) σ) (owed139_2 hrun fu (c139_2 run fu m)))
  exact fun fr σ => h fu fr σ

noncomputable def c139 (run : RunT) (fu : Nat) (x0 x1 x2 x3 : AV) (σ : Store) : Tr R :=
  nchkK x0 fun x12 =>
  ldNK σ x12 5 fun x13 =>
  newK σ 201 [(.int .i64 0), (.int .i64 0), (.int .i64 0), (.str []), (.int .u8 0)] fun x9 σ1 =>
  stNK σ1 x9 5 x13 fun _ σ2 =>
  c139_2 run fu fu x0 x1 x2 x3 x9 (.int .i64 0) σ2

theorem eq139 (run : RunT) (fu : Nat) (x0 x1 x2 x3 : AV) (σ : Store) : codeK X0 run (.seq .leaf (.seq .leaf (.seq (.seq .leaf (.block (.sub (fun fr σ => c139_2 run fu fu (G fr 0) (G fr 1) (G fr 2) (G fr 3) (G fr 9) (G fr 10) σ)))) (.sub (fun fr σ => c139_1 run fu (G fr 0) (G fr 9) σ))))) (subC [] b139) ([x0, x1, x2, x3] ++ padA (76 - 4)) σ k139 = c139 run fu x0 x1 x2 x3 σ := by kernel_rfl

theorem ok139 {run : RunT} (hrun : RunOK X0 run) (fu : Nat) (x0 x1 x2 x3 : AV) (σ : Store) : CallOK X0 139 [x0, x1, x2, x3] σ (c139 run fu x0 x1 x2 x3 σ) :=
  KOK.body (fn := Tryz.f139) (c := subC [] b139) (by kernel_rfl) (by kernel_rfl) (by show 4 ≤ 76; decide) (KOK.whole env0 hrun (eq139 run fu x0 x1 x2 x3 σ) ⟨trivial, ⟨trivial, ⟨⟨trivial, (ok139_2 hrun fu)⟩, (ok139_1 hrun fu)⟩⟩⟩)

-- strings.Join

noncomputable def b164 : Code := match Tryz.f164.body with | some c => c | none => .skip

noncomputable def k164 : Kont R := retK Tryz.prog [.tmp 4]

noncomputable def c164 (run : RunT) (fu : Nat) (x0 x1 : AV) (σ : Store) : Tr R :=
  lenLK x0 fun x12 =>
  cmpK .eql x12 (.int .i64 0) fun x14 =>
  ifK x14 (
  .fail) (
  cmpK .eql x12 (.int .i64 1) fun x16 =>
  ifK x16 (
  idxK 1 x0 (.int .i64 0) fun x18 =>
  ld1K σ x18 fun x19 =>
  .ret (x19, σ)) (
  .fail))

theorem eq164 (run : RunT) (fu : Nat) (x0 x1 : AV) (σ : Store) : codeK X0 run (.seq .leaf (.seq (.seq .leaf (.block (.seq .leaf (.cond (.sub deadK) (.seq .leaf (.cond (.seq .leaf .leaf) (.sub deadK))))))) .leaf)) (subC [] b164) ([x0, x1] ++ padA (75 - 2)) σ k164 = c164 run fu x0 x1 σ := by kernel_rfl

theorem ok164 {run : RunT} (hrun : RunOK X0 run) (fu : Nat) (x0 x1 : AV) (σ : Store) : CallOK X0 164 [x0, x1] σ (c164 run fu x0 x1 σ) :=
  KOK.body (fn := Tryz.f164) (c := subC [] b164) (by kernel_rfl) (by kernel_rfl) (by show 2 ≤ 75; decide) (KOK.whole env0 hrun (eq164 run fu x0 x1 σ) ⟨trivial, ⟨⟨trivial, ⟨trivial, ⟨KOK.dead, ⟨trivial, ⟨⟨trivial, trivial⟩, KOK.dead⟩⟩⟩⟩⟩, trivial⟩⟩)

-- (*pub-paratext/pub/rscmarkdown.line).trim

noncomputable def b168 : Code := match Tryz.f168.body with | some c => c | none => .skip

noncomputable def k168 : Kont R := retK Tryz.prog [.tmp 4]

noncomputable def c168 (run : RunT) (fu : Nat) (x0 x1 : AV) (σ : Store) : Tr R :=
  nchkK x0 fun x6 =>
  addrK x6 0 fun x7 =>
  ld1K σ x7 fun x8 =>
  cmpK .gtr x8 (.int .i64 0) fun x9 =>
  ifK x9 (
  .fail) (
  nchkK x0 fun x20 =>
  addrK x20 1 fun x21 =>
  ld1K σ x21 fun x22 =>
  nchkK x0 fun x24 =>
  addrK x24 3 fun x25 =>
  ld1K σ x25 fun x26 =>
  lenSK x26 fun x27 =>
  cmpK .lss x22 x27 fun x28 =>
  grdK x28 true σ (fun f => f x0 σ) fun x30 σ1 =>
  grdK x28 true σ1 (fun f => nchkK x30 fun v => f v σ1) fun x31 σ2 =>
  grdK x28 true σ2 (fun f => addrK x31 3 fun v => f v σ2) fun x32 σ3 =>
  grdK x28 true σ3 (fun f => ld1K σ3 x32 fun v => f v σ3) fun x33 σ4 =>
  grdK x28 true σ4 (fun f => f x0 σ4) fun x34 σ5 =>
  grdK x28 true σ5 (fun f => nchkK x34 fun v => f v σ5) fun x35 σ6 =>
  grdK x28 true σ6 (fun f => addrK x35 1 fun v => f v σ6) fun x36 σ7 =>
  grdK x28 true σ7 (fun f => ld1K σ7 x36 fun v => f v σ7) fun x37 σ8 =>
  grdK x28 true σ8 (fun f => idxSK x33 x37 fun v => f v σ8) fun x38 σ9 =>
  grdK x28 true σ9 (fun f => f x1 σ9) fun x39 σ10 =>
  grdK x28 true σ10 (fun f => cmpK .eql x38 x39 fun v => f v σ10) fun x40 σ11 =>
  pickK x28 x40 (.bool false) fun x41 =>
  ifK x41 (
  .fail) (
  .ret ((.bool false), σ11)))

theorem eq168 (run : RunT) (fu : Nat) (x0 x1 : AV) (σ : Store) : codeK X0 run (.seq .leaf (.seq (.seq .leaf (.cond (.sub deadK) .leaf)) (.seq (.seq .leaf (.cond (.sub deadK) .leaf)) (.seq .leaf .leaf)))) (subC [] b168) ([x0, x1] ++ padA (49 - 2)) σ k168 = c168 run fu x0 x1 σ := by kernel_rfl

theorem ok168 {run : RunT} (hrun : RunOK X0 run) (fu : Nat) (x0 x1 : AV) (σ : Store) : CallOK X0 168 [x0, x1] σ (c168 run fu x0 x1 σ) :=
  KOK.body (fn := Tryz.f168) (c := subC [] b168) (by kernel_rfl) (by kernel_rfl) (by show 2 ≤ 49; decide) (KOK.whole env0 hrun (eq168 run fu x0 x1 σ) ⟨trivial, ⟨⟨trivial, ⟨KOK.dead, trivial⟩⟩, ⟨⟨trivial, ⟨KOK.dead, trivial⟩⟩, ⟨trivial, trivial⟩⟩⟩⟩)

-- (*pub-paratext/pub/rscmarkdown.line).peek

noncomputable def b170 : Code := match Tryz.f170.body with | some c => c | none => .skip

noncomputable def k170 : Kont R := retK Tryz.prog [.tmp 2]

noncomputable def c170 (run : RunT) (fu : Nat) (x0 : AV) (σ : Store) : Tr R :=
  nchkK x0 fun x4 =>
  addrK x4 0 fun x5 =>
  ld1K σ x5 fun x6 =>
  cmpK .gtr x6 (.int .i64 0) fun x7 =>
  ifK x7 (
  .fail) (
  nchkK x0 fun x9 =>
  addrK x9 1 fun x10 =>
  ld1K σ x10 fun x11 =>
  nchkK x0 fun x13 =>
  addrK x13 3 fun x14 =>
  ld1K σ x14 fun x15 =>
  lenSK x15 fun x16 =>
  cmpK .geq x11 x16 fun x17 =>
  ifK x17 (
  .fail) (
  nchkK x0 fun x19 =>
  addrK x19 3 fun x20 =>
  ld1K σ x20 fun x21 =>
  nchkK x0 fun x23 =>
  addrK x23 1 fun x24 =>
  ld1K σ x24 fun x25 =>
  idxSK x21 x25 fun x26 =>
  .ret (x26, σ)))

theorem eq170 (run : RunT) (fu : Nat) (x0 : AV) (σ : Store) : codeK X0 run (.seq .leaf (.seq (.seq .leaf (.cond (.sub deadK) .leaf)) (.seq (.seq .leaf (.cond (.sub deadK) .leaf)) (.seq .leaf .leaf)))) (subC [] b170) ([x0] ++ padA (27 - 1)) σ k170 = c170 run fu x0 σ := by kernel_rfl

theorem ok170 {run : RunT} (hrun : RunOK X0 run) (fu : Nat) (x0 : AV) (σ : Store) : CallOK X0 170 [x0] σ (c170 run fu x0 σ) :=
  KOK.body (fn := Tryz.f170) (c := subC [] b170) (by kernel_rfl) (by kernel_rfl) (by show 1 ≤ 27; decide) (KOK.whole env0 hrun (eq170 run fu x0 σ) ⟨trivial, ⟨⟨trivial, ⟨KOK.dead, trivial⟩⟩, ⟨⟨trivial, ⟨KOK.dead, trivial⟩⟩, ⟨trivial, trivial⟩⟩⟩⟩)

-- (*pub-paratext/pub/rscmarkdown.Document).PrintHTML

noncomputable def b232 : Code := match Tryz.f232.body with | some c => c | none => .skip

noncomputable def k232 : Kont R := retK Tryz.prog []

noncomputable def c232_1b (run : RunT) (fu : Nat) (s1 : W4) (x1 x9 x10 x11 : AV) (σ : Store) : Tr R :=
  cmpK .lss x11 x10 fun x12 =>
  ifK x12 (
  idxK 1 x9 x11 fun x13 =>
  ld1K σ x13 fun x14 =>
  invK X0 run x14 "PrintHTML" [x1] σ fun x17 σ1 =>
  addK x11 (.int .i64 1) fun x18 =>
  s1 x1 x9 x10 x18 σ1) (
  .ret (.tup [], σ))

noncomputable def c232_1 (run : RunT) (fu : Nat) : Nat → W4
  | 0 => fun _ _ _ _ _ => .fail
  | m + 1 => c232_1b run fu (c232_1 run fu m)

theorem eq232_1 (run : RunT) (fu : Nat) (s1 : W4) (x1 x9 x10 x11 : AV) (σ : Store) : codeK X0 run (.seq .leaf (.seq (.cond .leaf .leaf) (.seq (.block (.seq .leaf .leaf)) .leaf))) (subC [true, false, false] b232) (frS 0 19 [(1, x1), (9, x9), (10, x10), (11, x11)]) σ (thenK (fun fr σ => s1 (G fr 1) (G fr 9) (G fr 10) (G fr 11) σ) (blockK 0 k232)) = c232_1b run fu s1 x1 x9 x10 x11 σ := by kernel_rfl

theorem owed232_1 {run : RunT} (hrun : RunOK X0 run) (fu : Nat) (s1 : W4) : Owes X0 run 19 (.seq .leaf (.seq (.cond .leaf .leaf) (.seq (.block (.seq .leaf .leaf)) .leaf))) (subC [true, false, false] b232) (thenK (fun fr σ => s1 (G fr 1) (G fr 9) (G fr 10) (G fr 11) σ) (blockK 0 k232)) :=
  ⟨trivial, ⟨⟨trivial, trivial⟩, ⟨⟨trivial, trivial⟩, trivial⟩⟩⟩

theorem ok232_1 {run : RunT} (hrun : RunOK X0 run) (fu : Nat) : ∀ fr σ, KOK X0 19 (subC [true, false] b232) fr σ ((fun fr σ => c232_1 run fu fu (G fr 1) (G fr 9) (G fr 10) (G fr 11) σ) fr σ) (blockK 0 k232) := by
  have h := KOK.loop (X := X0) (N := 19) (b := (subC [true, false, false] b232)) (k := (blockK 0 k232)) (u := fun m fr σ => c232_1 run fu m (G fr 1) (G fr 9) (G fr 10) (G fr 11) σ) (fun _ _ => rfl) (fun m fr σ => KOK.piece env0 hrun [1, 9, 10, 11] (eq232_1 run fu (c232_1 run fu m) (G fr 1) (G fr 9) (G fr 10) (G fr 11) σ) (owed232_1 hrun fu (c232_1 run fu m)))
  exact fun fr σ => h fu fr σ

noncomputable def c232 (run : RunT) (fu : Nat) (x0 x1 : AV) (σ : Store) : Tr R :=
  nchkK x0 fun x7 =>
  addrK x7 2 fun x8 =>
  ld1K σ x8 fun x9 =>
  lenLK x9 fun x10 =>
  c232_1 run fu fu x1 x9 x10 (.int .i64 0) σ

theorem eq232 (run : RunT) (fu : Nat) (x0 x1 : AV) (σ : Store) : codeK X0 run (.seq .leaf (.block (.sub (fun fr σ => c232_1 run fu fu (G fr 1) (G fr 9) (G fr 10) (G fr 11) σ)))) (subC [] b232) ([x0, x1] ++ padA (19 - 2)) σ k232 = c232 run fu x0 x1 σ := by kernel_rfl

theorem ok232 {run : RunT} (hrun : RunOK X0 run) (fu : Nat) (x0 x1 : AV) (σ : Store) : CallOK X0 232 [x0, x1] σ (c232 run fu x0 x1 σ) :=
  KOK.body (fn := Tryz.f232) (c := subC [] b232) (by kernel_rfl) (by kernel_rfl) (by show 2 ≤ 19; decide) (KOK.whole env0 hrun (eq232 run fu x0 x1 σ) ⟨trivial, (ok232_1 hrun fu)⟩)

-- (*pub-paratext/pub/rscmarkdown.rootBuilder).build

noncomputable def b234 : Code := match Tryz.f234.body with | some c => c | none => .skip

noncomputable def k234 : Kont R := retK Tryz.prog [.tmp 4]

noncomputable def c234 (run : RunT) (fu : Nat) (x0 x1 : AV) (σ : Store) : Tr R :=
  invK X0 run x1 "pub-paratext/pub/rscmarkdown.pos" [] σ fun x6 σ1 =>
  invK X0 run x1 "pub-paratext/pub/rscmarkdown.blocks" [] σ1 fun x8 σ2 =>
  tasK (some .nilp) 110 false x1 fun x10 =>
  nchkK x10 fun x11 =>
  addrK x11 2 fun x12 =>
  ld1K σ2 x12 fun x13 =>
  bldK [(.int .i64 0), (.int .i64 0), .nils, .nilm] [(0, 2, x6), (2, 1, x8), (3, 1, x13)] fun x14 =>
  boxK σ2 669 x14 fun x15 σ3 =>
  ld1K σ x12 fun v4 =>
  must (AV.beq v4 x13) (
  ld1K σ1 x12 fun v5 =>
  must (AV.beq v5 x13) (
  .ret ((.iface 48 x15), σ3)))

theorem eq234 (run : RunT) (fu : Nat) (x0 x1 : AV) (σ : Store) : codeK X0 run (.seq .leaf (.seq .leaf .leaf)) (subC [] b234) ([x0, x1] ++ padA (17 - 2)) σ k234 = c234 run fu x0 x1 σ := by kernel_rfl

theorem ok234 {run : RunT} (hrun : RunOK X0 run) (fu : Nat) (x0 x1 : AV) (σ : Store) : CallOK X0 234 [x0, x1] σ (c234 run fu x0 x1 σ) :=
  KOK.body (fn := Tryz.f234) (c := subC [] b234) (by kernel_rfl) (by kernel_rfl) (by show 2 ≤ 17; decide) (KOK.whole env0 hrun (eq234 run fu x0 x1 σ) ⟨trivial, ⟨trivial, trivial⟩⟩)

-- (*pub-paratext/pub/rscmarkdown.Text).PrintHTML

noncomputable def b236 : Code := match Tryz.f236.body with | some c => c | none => .skip

noncomputable def k236 : Kont R := retK Tryz.prog []

noncomputable def c236_1b (run : RunT) (fu : Nat) (s1 : W4) (x1 x9 x10 x11 : AV) (σ : Store) : Tr R :=
  cmpK .lss x11 x10 fun x12 =>
  ifK x12 (
  idxK 1 x9 x11 fun x13 =>
  ld1K σ x13 fun x14 =>
  invK X0 run x14 "PrintHTML" [x1] σ fun x17 σ1 =>
  addK x11 (.int .i64 1) fun x18 =>
  s1 x1 x9 x10 x18 σ1) (
  .ret (.tup [], σ))

noncomputable def c236_1 (run : RunT) (fu : Nat) : Nat → W4
  | 0 => fun _ _ _ _ _ => .fail
  | m + 1 => c236_1b run fu (c236_1 run fu m)

theorem eq236_1 (run : RunT) (fu : Nat) (s1 : W4) (x1 x9 x10 x11 : AV) (σ : Store) : codeK X0 run (.seq .leaf (.seq (.cond .leaf .leaf) (.seq (.block (.seq .leaf .leaf)) .leaf))) (subC [true, false, false] b236) (frS 0 19 [(1, x1), (9, x9), (10, x10), (11, x11)]) σ (thenK (fun fr σ => s1 (G fr 1) (G fr 9) (G fr 10) (G fr 11) σ) (blockK 0 k236)) = c236_1b run fu s1 x1 x9 x10 x11 σ := by kernel_rfl

theorem owed236_1 {run : RunT} (hrun : RunOK X0 run) (fu : Nat) (s1 : W4) : Owes X0 run 19 (.seq .leaf (.seq (.cond .leaf .leaf) (.seq (.block (.seq .leaf .leaf)) .leaf))) (subC [true, false, false] b236) (thenK (fun fr σ => s1 (G fr 1) (G fr 9) (G fr 10) (G fr 11) σ) (blockK 0 k236)) :=
  ⟨trivial, ⟨⟨trivial, trivial⟩, ⟨⟨trivial, trivial⟩, trivial⟩⟩⟩

theorem ok236_1 {run : RunT} (hrun : RunOK X0 run) (fu : Nat) : ∀ fr σ, KOK X0 19 (subC [true, false] b236) fr σ ((fun fr σ => c236_1 run fu fu (G fr 1) (G fr 9) (G fr 10) (G fr 11) σ) fr σ) (blockK 0 k236) := by
  have h := KOK.loop (X := X0) (N := 19) (b := (subC [true, false, false] b236)) (k := (blockK 0 k236)) (u := fun m fr σ => c236_1 run fu m (G fr 1) (G fr 9) (G fr 10) (G fr 11) σ) (fun _ _ => rfl) (fun m fr σ => KOK.piece env0 hrun [1, 9, 10, 11] (eq236_1 run fu (c236_1 run fu m) (G fr 1) (G fr 9) (G fr 10) (G fr 11) σ) (owed236_1 hrun fu (c236_1 run fu m)))
  exact fun fr σ => h fu fr σ

noncomputable def c236 (run : RunT) (fu : Nat) (x0 x1 : AV) (σ : Store) : Tr R :=
  nchkK x0 fun x7 =>
  addrK x7 2 fun x8 =>
  ld1K σ x8 fun x9 =>
  lenLK x9 fun x10 =>
  c236_1 run fu fu x1 x9 x10 (.int .i64 0) σ

theorem eq236 (run : RunT) (fu : Nat) (x0 x1 : AV) (σ : Store) : codeK X0 run (.seq .leaf (.block (.sub (fun fr σ => c236_1 run fu fu (G fr 1) (G fr 9) (G fr 10) (G fr 11) σ)))) (subC [] b236) ([x0, x1] ++ padA (19 - 2)) σ k236 = c236 run fu x0 x1 σ := by kernel_rfl

theorem ok236 {run : RunT} (hrun : RunOK X0 run) (fu : Nat) (x0 x1 : AV) (σ : Store) : CallOK X0 236 [x0, x1] σ (c236 run fu x0 x1 σ) :=
  KOK.body (fn := Tryz.f236) (c := subC [] b236) (by kernel_rfl) (by kernel_rfl) (by show 2 ≤ 19; decide) (KOK.whole env0 hrun (eq236 run fu x0 x1 σ) ⟨trivial, (ok236_1 hrun fu)⟩)

-- (*pub-paratext/pub/rscmarkdown.parseState).blocks

noncomputable def b246 : Code := match Tryz.f246.body with | some c => c | none => .skip

noncomputable def k246 : Kont R := retK Tryz.prog [.tmp 2]

noncomputable def c246 (run : RunT) (fu : Nat) (x0 : AV) (σ : Store) : Tr R :=
  nchkK x0 fun x5 =>
  addrK x5 4 fun x6 =>
  ld1K σ x6 fun x7 =>
  nchkK x0 fun x9 =>
  addrK x9 4 fun x10 =>
  ld1K σ x10 fun x11 =>
  lenLK x11 fun x12 =>
  subK x12 (.int .i64 1) fun x13 =>
  idxK 4 x7 x13 fun x14 =>
  nchkK x14 fun x16 =>
  addrK x16 1 fun x17 =>
  ld1K σ x17 fun x18 =>
  .ret (x18, σ)

theorem eq246 (run : RunT) (fu : Nat) (x0 : AV) (σ : Store) : codeK X0 run (.seq .leaf (.seq .leaf (.seq .leaf .leaf))) (subC [] b246) ([x0] ++ padA (19 - 1)) σ k246 = c246 run fu x0 σ := by kernel_rfl

theorem ok246 {run : RunT} (hrun : RunOK X0 run) (fu : Nat) (x0 : AV) (σ : Store) : CallOK X0 246 [x0] σ (c246 run fu x0 σ) :=
  KOK.body (fn := Tryz.f246) (c := subC [] b246) (by kernel_rfl) (by kernel_rfl) (by show 1 ≤ 19; decide) (KOK.whole env0 hrun (eq246 run fu x0 σ) ⟨trivial, ⟨trivial, ⟨trivial, trivial⟩⟩⟩)

-- (*pub-paratext/pub/rscmarkdown.parseState).pos

noncomputable def b247 : Code := match Tryz.f247.body with | some c => c | none => .skip

noncomputable def k247 : Kont R := retK Tryz.prog [.cell 2 104]

noncomputable def c247 (run : RunT) (fu : Nat) (x0 : AV) (σ : Store) : Tr R :=
  newK σ 209 [(.int .i64 0), (.int .i64 0)] fun x2 σ1 =>
  nchkK x0 fun x5 =>
  addrK x5 4 fun x6 =>
  ld1K σ1 x6 fun x7 =>
  nchkK x0 fun x9 =>
  addrK x9 4 fun x10 =>
  ld1K σ1 x10 fun x11 =>
  lenLK x11 fun x12 =>
  subK x12 (.int .i64 1) fun x13 =>
  idxK 4 x7 x13 fun x14 =>
  nchkK x14 fun x16 =>
  addrK x16 2 fun x17 =>
  ldNK σ1 x17 2 fun x18 =>
  stNK σ1 x2 2 x18 fun _ σ2 =>
  ldNK σ2 x2 2 fun v3 =>
  .ret (v3, σ2)

theorem eq247 (run : RunT) (fu : Nat) (x0 : AV) (σ : Store) : codeK X0 run (.seq .leaf (.seq .leaf (.seq .leaf .leaf))) (subC [] b247) ([x0] ++ padA (19 - 1)) σ k247 = c247 run fu x0 σ := by kernel_rfl

theorem ok247 {run : RunT} (hrun : RunOK X0 run) (fu : Nat) (x0 : AV) (σ : Store) : CallOK X0 247 [x0] σ (c247 run fu x0 σ) :=
  KOK.body (fn := Tryz.f247) (c := subC [] b247) (by kernel_rfl) (by kernel_rfl) (by show 1 ≤ 19; decide) (KOK.whole env0 hrun (eq247 run fu x0 σ) ⟨trivial, ⟨trivial, ⟨trivial, trivial⟩⟩⟩)

-- (*pub-paratext/pub/rscmarkdown.Plain).PrintHTML

noncomputable def b249 : Code := match Tryz.f249.body with | some c => c | none => .skip

noncomputable def k249 : Kont R := retK Tryz.prog []

noncomputable def c249 (run : RunT) (fu : Nat) (x0 x1 : AV) (σ : Store) : Tr R :=
  calK run 252 [] σ fun x4 σ1 =>
  nchkK x0 fun x7 =>
  addrK x7 0 fun x8 =>
  ld1K σ1 x8 fun x9 =>
  calK run 253 [x4, x1, x9] σ1 fun x10 σ2 =>
  ld1K σ x8 fun v3 =>
  must (AV.beq v3 x9) (
  .ret (.tup [], σ2))

theorem eq249 (run : RunT) (fu : Nat) (x0 x1 : AV) (σ : Store) : codeK X0 run .leaf (subC [] b249) ([x0, x1] ++ padA (11 - 2)) σ k249 = c249 run fu x0 x1 σ := by kernel_rfl

theorem ok249 {run : RunT} (hrun : RunOK X0 run) (fu : Nat) (x0 x1 : AV) (σ : Store) : CallOK X0 249 [x0, x1] σ (c249 run fu x0 x1 σ) :=
  KOK.body (fn := Tryz.f249) (c := subC [] b249) (by kernel_rfl) (by kernel_rfl) (by show 2 ≤ 11; decide) (KOK.whole env0 hrun (eq249 run fu x0 x1 σ) trivial)

-- pub-paratext/pub/rscmarkdown.htmlEscaper

noncomputable def b252 : Code := match Tryz.f252.body with | some c => c | none => .skip

noncomputable def k252 : Kont R := retK Tryz.prog [.tmp 0]

noncomputable def c252 (run : RunT) (fu : Nat) (σ : Store) : Tr R :=
  opt (fillK [(.str []), (.str []), (.str []), (.str []), (.str []), (.str []), (.str []), (.str [])] [(0, 1, (.str [34])), (1, 1, (.str [38, 113, 117, 111, 116, 59])), (2, 1, (.str [38])), (3, 1, (.str [38, 97, 109, 112, 59])), (4, 1, (.str [60])), (5, 1, (.str [38, 108, 116, 59])), (6, 1, (.str [62])), (7, 1, (.str [38, 103, 116, 59]))]) fun cs => newSK σ 19 cs 8 1 fun x1 σ1 =>
  .ret (x1, σ1)

theorem eq252 (run : RunT) (fu : Nat) (σ : Store) : codeK X0 run (.seq .leaf (.seq .leaf .leaf)) (subC [] b252) ([] ++ padA (2 - 0)) σ k252 = c252 run fu σ := by kernel_rfl

theorem ok252 {run : RunT} (hrun : RunOK X0 run) (fu : Nat) (σ : Store) : CallOK X0 252 [] σ (c252 run fu σ) :=
  KOK.body (fn := Tryz.f252) (c := subC [] b252) (by kernel_rfl) (by kernel_rfl) (by show 0 ≤ 2; decide) (KOK.whole env0 hrun (eq252 run fu σ) ⟨trivial, ⟨trivial, trivial⟩⟩)

-- (*pub-paratext/pub/rscmarkdown.Paragraph).PrintHTML

noncomputable def b269 : Code := match Tryz.f269.body with | some c => c | none => .skip

noncomputable def k269 : Kont R := retK Tryz.prog []

noncomputable def c269 (run : RunT) (fu : Nat) (x0 x1 : AV) (σ : Store) : Tr R :=
  calK run 240 [x1, (.str [60, 112, 62])] σ fun x5 σ1 =>
  nchkK x0 fun x7 =>
  addrK x7 2 fun x8 =>
  ld1K σ1 x8 fun x9 =>
  calK run 236 [x9, x1] σ1 fun x11 σ2 =>
  calK run 240 [x1, (.str [60, 47, 112, 62, 10])] σ2 fun x13 σ3 =>
  .ret (.tup [], σ3)

theorem eq269 (run : RunT) (fu : Nat) (x0 x1 : AV) (σ : Store) : codeK X0 run (.seq .leaf (.seq .leaf .leaf)) (subC [] b269) ([x0, x1] ++ padA (14 - 2)) σ k269 = c269 run fu x0 x1 σ := by kernel_rfl

theorem ok269 {run : RunT} (hrun : RunOK X0 run) (fu : Nat) (x0 x1 : AV) (σ : Store) : CallOK X0 269 [x0, x1] σ (c269 run fu x0 x1 σ) :=
  KOK.body (fn := Tryz.f269) (c := subC [] b269) (by kernel_rfl) (by kernel_rfl) (by show 2 ≤ 14; decide) (KOK.whole env0 hrun (eq269 run fu x0 x1 σ) ⟨trivial, ⟨trivial, trivial⟩⟩)

-- (*pub-paratext/pub/rscmarkdown.paraBuilder).build

noncomputable def b275 : Code := match Tryz.f275.body with | some c => c | none => .skip

noncomputable def k275 : Kont R := retK Tryz.prog [.tmp 4]

noncomputable def c275_1 (run : RunT) (fu : Nat) (x0 x1 x5 : AV) (σ : Store) : Tr R :=
  eqSK x5 (.str []) fun x41 =>
  ifK x41 (
  .fail) (
  invK X0 run x1 "pub-paratext/pub/rscmarkdown.pos" [] σ fun x48 σ1 =>
  newK σ1 209 [(.int .i64 0), (.int .i64 0)] fun x8 σ2 =>
  stNK σ2 x8 2 x48 fun _ σ3 =>
  addrK x8 0 fun x49 =>
  ld1K σ3 x49 fun x50 =>
  nchkK x0 fun x52 =>
  addrK x52 0 fun x53 =>
  ld1K σ3 x53 fun x54 =>
  lenLK x54 fun x55 =>
  addK x50 x55 fun x56 =>
  subK x56 (.int .i64 1) fun x57 =>
  addrK x8 1 fun x58 =>
  st1K σ3 x58 x57 fun _ σ4 =>
  ldNK σ4 x8 2 fun x59 =>
  ldNK σ4 x8 2 fun x61 =>
  invK X0 run x1 "pub-paratext/pub/rscmarkdown.newText" [x61, x5] σ4 fun x63 σ5 =>
  bldK [(.int .i64 0), (.int .i64 0), .nilp] [(0, 2, x59), (2, 1, x63)] fun x64 =>
  boxK σ5 299 x64 fun x65 σ6 =>
  ldNK σ5 x8 2 fun v7 =>
  must (AV.beq v7 x59) (
  .ret ((.iface 147 x65), σ6)))

theorem eq275_1 (run : RunT) (fu : Nat) (x0 x1 x5 : AV) (σ : Store) : codeK X0 run (.seq (.seq .leaf (.cond (.sub deadK) .leaf)) (.seq .leaf (.seq .leaf (.seq .leaf .leaf)))) (subC [true, true, true, true] b275) (frS 0 67 [(0, x0), (1, x1), (5, x5)]) σ k275 = c275_1 run fu x0 x1 x5 σ := by kernel_rfl

theorem ok275_1 {run : RunT} (hrun : RunOK X0 run) (fu : Nat) : ∀ fr σ, KOK X0 67 (subC [true, true, true, true] b275) fr σ ((fun fr σ => c275_1 run fu (G fr 0) (G fr 1) (G fr 5) σ) fr σ) k275 := fun fr σ =>
  KOK.piece env0 hrun [0, 1, 5] (eq275_1 run fu (G fr 0) (G fr 1) (G fr 5) σ) ⟨⟨trivial, ⟨KOK.dead, trivial⟩⟩, ⟨trivial, ⟨trivial, ⟨trivial, trivial⟩⟩⟩⟩

noncomputable def c275_2b (run : RunT) (fu : Nat) (s2 : W3) (x0 x1 x5 : AV) (σ : Store) : Tr R :=
  neSK x5 (.str []) fun x26 =>
  ifK x26 (
  calK run 278 [x1, x5] σ fun x30 σ1 =>
  extK x30 0 fun x31 =>
  extK x30 1 fun x32 =>
  notK x32 fun x34 =>
  ifK x34 (
  c275_1 run fu x0 x1 x5 σ1) (
  .fail)) (
  .fail)

noncomputable def c275_2 (run : RunT) (fu : Nat) : Nat → W3
  | 0 => fun _ _ _ _ => .fail
  | m + 1 => c275_2b run fu (c275_2 run fu m)

theorem eq275_2 (run : RunT) (fu : Nat) (s2 : W3) (x0 x1 x5 : AV) (σ : Store) : codeK X0 run (.seq (.seq .leaf (.cond .leaf (.sub deadK))) (.block (.seq .leaf (.seq (.seq .leaf (.cond .leaf (.sub deadK))) .leaf)))) (subC [true, true, true, false, false, false] b275) (frS 0 67 [(0, x0), (1, x1), (5, x5)]) σ (thenK (fun fr σ => s2 (G fr 0) (G fr 1) (G fr 5) σ) (blockK 0 (thenK (fun fr σ => c275_1 run fu (G fr 0) (G fr 1) (G fr 5) σ) k275))) = c275_2b run fu s2 x0 x1 x5 σ := by kernel_rfl

theorem owed275_2 {run : RunT} (hrun : RunOK X0 run) (fu : Nat) (s2 : W3) : Owes X0 run 67 (.seq (.seq .leaf (.cond .leaf (.sub deadK))) (.block (.seq .leaf (.seq (.seq .leaf (.cond .leaf (.sub deadK))) .leaf)))) (subC [true, true, true, false, false, false] b275) (thenK (fun fr σ => s2 (G fr 0) (G fr 1) (G fr 5) σ) (blockK 0 (thenK (fun fr σ => c275_1 run fu (G fr 0) (G fr 1) (G fr 5) σ) k275))) :=
  ⟨⟨trivial, ⟨trivial, KOK.dead⟩⟩, ⟨trivial, ⟨⟨trivial, ⟨trivial, KOK.dead⟩⟩, trivial⟩⟩⟩

theorem ok275_2 {run : RunT} (hrun : RunOK X0 run) (fu : Nat) : ∀ fr σ, KOK X0 67 (subC [true, true, true, false, false] b275) fr σ ((fun fr σ => c275_2 run fu fu (G fr 0) (G fr 1) (G fr 5) σ) fr σ) (blockK 0 (thenK (fun fr σ => c275_1 run fu (G fr 0) (G fr 1) (G fr 5) σ) k275)) := by
  have h := KOK.loop (X := X0) (N := 67) (b := (subC [true, true, true, false, false, false] b275)) (k := (blockK 0 (thenK (fun fr σ => c275_1 run fu (G fr 0) (G fr 1) (G fr 5) σ) k275))) (u := fun m fr σ => c275_2 run fu m (G fr 0) (G fr 1) (G fr 5) σ) (fun _ _ => rfl) (fun m fr σ => KOK.piece env0 hrun [0, 1, 5] (eq275_2 run fu (c275_2 run fu m) (G fr 0) (G fr 1) (G fr 5) σ) (owed275_2 hrun fu (c275_2 run fu m)))
  exact fun fr σ => h fu fr σ

noncomputable def c275 (run : RunT) (fu : Nat) (x0 x1 : AV) (σ : Store) : Tr R :=
  nchkK x0 fun x10 =>
  addrK x10 1 fun x11 =>
  ld1K σ x11 fun x12 =>
  neOK (nilEq nilP) x12 .nilp fun x13 =>
  ifK x13 (
  .fail) (
  nchkK x0 fun x21 =>
  addrK x21 0 fun x22 =>
  ld1K σ x22 fun x23 =>
  calK run 164 [x23, (.str [10])] σ fun x24 σ1 =>
  c275_2 run fu fu x0 x1 x24 σ1)

theorem eq275 (run : RunT) (fu : Nat) (x0 x1 : AV) (σ : Store) : codeK X0 run (.seq .leaf (.seq (.seq .leaf (.cond (.sub deadK) .leaf)) (.seq .leaf (.seq (.block (.sub (fun fr σ => c275_2 run fu fu (G fr 0) (G fr 1) (G fr 5) σ))) (.sub (fun fr σ => c275_1 run fu (G fr 0) (G fr 1) (G fr 5) σ)))))) (subC [] b275) ([x0, x1] ++ padA (67 - 2)) σ k275 = c275 run fu x0 x1 σ := by kernel_rfl

theorem ok275 {run : RunT} (hrun : RunOK X0 run) (fu : Nat) (x0 x1 : AV) (σ : Store) : CallOK X0 275 [x0, x1] σ (c275 run fu x0 x1 σ) :=
  KOK.body (fn := Tryz.f275) (c := subC [] b275) (by kernel_rfl) (by kernel_rfl) (by show 2 ≤ 67; decide) (KOK.whole env0 hrun (eq275 run fu x0 x1 σ) ⟨trivial, ⟨⟨trivial, ⟨KOK.dead, trivial⟩⟩, ⟨trivial, ⟨(ok275_2 hrun fu), (ok275_1 hrun fu)⟩⟩⟩⟩)

-- pub-paratext/pub/rscmarkdown.parseLinkRefDef

noncomputable def b278 : Code := match Tryz.f278.body with | some c => c | none => .skip

noncomputable def k278 : Kont R := retK Tryz.prog [.tmp 4, .tmp 5]

noncomputable def c278 (run : RunT) (fu : Nat) (x0 x1 : AV) (σ : Store) : Tr R :=
  calK run 110 [x1, (.int .i64 0)] σ fun x21 σ1 =>
  tasK (some .nilp) 110 false x0 fun x24 =>
  calK run 113 [x24, x1, x21] σ1 fun x27 σ2 =>
  extK x27 0 fun x28 =>
  extK x27 1 fun x29 =>
  extK x27 2 fun x30 =>
  notK x30 fun x32 =>
  grdK x32 false σ2 (fun f => f x29 σ2) fun x34 σ3 =>
  grdK x32 false σ3 (fun f => f x1 σ3) fun x35 σ4 =>
  grdK x32 false σ4 (fun f => lenSK x35 fun v => f v σ4) fun x36 σ5 =>
  grdK x32 false σ5 (fun f => cmpK .geq x34 x36 fun v => f v σ5) fun x37 σ6 =>
  pickK x32 (.bool true) x37 fun x38 =>
  grdK x38 false σ6 (fun f => f x1 σ6) fun x40 σ7 =>
  grdK x38 false σ7 (fun f => f x29 σ7) fun x41 σ8 =>
  grdK x38 false σ8 (fun f => idxSK x40 x41 fun v => f v σ8) fun x42 σ9 =>
  grdK x38 false σ9 (fun f => cmpK .neq x42 (.int .u8 58) fun v => f v σ9) fun x43 σ10 =>
  pickK x38 (.bool true) x43 fun x44 =>
  ifK x44 (
  .ret (.tup [(.int .i64 0), (.bool false)], σ10)) (
  .fail)

theorem eq278 (run : RunT) (fu : Nat) (x0 x1 : AV) (σ : Store) : codeK X0 run (.seq .leaf (.seq .leaf (.seq .leaf (.seq (.seq .leaf (.cond (.seq .leaf .leaf) (.sub deadK))) .leaf)))) (subC [] b278) ([x0, x1] ++ padA (200 - 2)) σ k278 = c278 run fu x0 x1 σ := by kernel_rfl

theorem ok278 {run : RunT} (hrun : RunOK X0 run) (fu : Nat) (x0 x1 : AV) (σ : Store) : CallOK X0 278 [x0, x1] σ (c278 run fu x0 x1 σ) :=
  KOK.body (fn := Tryz.f278) (c := subC [] b278) (by kernel_rfl) (by kernel_rfl) (by show 2 ≤ 200; decide) (KOK.whole env0 hrun (eq278 run fu x0 x1 σ) ⟨trivial, ⟨trivial, ⟨trivial, ⟨⟨trivial, ⟨⟨trivial, trivial⟩, KOK.dead⟩⟩, trivial⟩⟩⟩⟩)

end Go.Proofs.YtfmgdjkcdmjloaaGreatDoor
