/- Functions of the program, told as Lean functions of abstract values and stores, each with its proof. -/
import Derived.Test.YtfmgdjkcdmjloaaGreatDoorSxX
import Derived.Test.YtfmgdjkcdmjloaaGreatDoorSxWc
import Derived.Test.YtfmgdjkcdmjloaaGreatDoorSxAb
set_option linter.unusedVariables false
set_option linter.unusedSimpArgs false
namespace Go.Proofs.YtfmgdjkcdmjloaaGreatDoor
open Go.AM
-- pub-paratext/pub/rscmarkdown.parseLinkLabel

noncomputable def b113 : Code := match Tryz.f113.body with | some c => c | none => .skip

noncomputable def k113 : Kont R := retK Tryz.prog [.tmp 6, .tmp 7, .tmp 8]

noncomputable def c113_1 (run : RunT) (fu : Nat) (σ : Store) : Tr R :=
  .ret (.tup [(.str []), (.int .i64 0), (.bool false)], σ)

theorem eq113_1 (run : RunT) (fu : Nat) (σ : Store) : codeK X0 run (.seq .leaf .leaf) (subC [true, true, true, true] b113) (frS 0 69 []) σ k113 = c113_1 run fu σ := by kernel_rfl

theorem ok113_1 {run : RunT} (hrun : RunOK X0 run) (fu : Nat) : ∀ fr σ, KOK X0 69 (subC [true, true, true, true] b113) fr σ ((fun fr σ => c113_1 run fu σ) fr σ) k113 := fun fr σ =>
  KOK.piece env0 hrun [] (eq113_1 run fu σ) ⟨trivial, trivial⟩

noncomputable def c113_3 (run : RunT) (fu : Nat) (s2 : W4) (x0 x1 x2 x9 : AV) (σ : Store) : Tr R :=
  addK x9 (.int .i64 1) fun x28 =>
  s2 x0 x1 x2 x28 σ

theorem eq113_3 (run : RunT) (fu : Nat) (s2 : W4) (x0 x1 x2 x9 : AV) (σ : Store) : codeK X0 run .leaf (subC [true, true, true, false, false, false, true, true] b113) (frS 0 69 [(0, x0), (1, x1), (2, x2), (9, x9)]) σ (thenK (fun fr σ => s2 (G fr 0) (G fr 1) (G fr 2) (G fr 9) σ) (blockK 0 (thenK (fun fr σ => c113_1 run fu σ) k113))) = c113_3 run fu s2 x0 x1 x2 x9 σ := by kernel_rfl

theorem ok113_3 {run : RunT} (hrun : RunOK X0 run) (fu : Nat) (s2 : W4) : ∀ fr σ, KOK X0 69 (subC [true, true, true, false, false, false, true, true] b113) fr σ ((fun fr σ => c113_3 run fu s2 (G fr 0) (G fr 1) (G fr 2) (G fr 9) σ) fr σ) (thenK (fun fr σ => s2 (G fr 0) (G fr 1) (G fr 2) (G fr 9) σ) (blockK 0 (thenK (fun fr σ => c113_1 run fu σ) k113))) := fun fr σ =>
  KOK.piece env0 hrun [0, 1, 2, 9] (eq113_3 run fu s2 (G fr 0) (G fr 1) (G fr 2) (G fr 9) σ) trivial

noncomputable def c113_2b (run : RunT) (fu : Nat) (s2 : W4) (x0 x1 x2 x9 : AV) (σ : Store) : Tr R :=
  lenSK x1 fun x25 =>
  cmpK .lss x9 x25 fun x26 =>
  ifK x26 (
  idxSK x1 x9 fun x31 =>
  cmpK .eql x31 (.int .u8 93) fun x32 =>
  ifK x32 (
  addK x2 (.int .i64 1) fun x35 =>
  subK x9 x35 fun x36 =>
  cmpK .gtr x36 (.int .i64 999) fun x37 =>
  ifK x37 (
  nchkK x0 fun x39 =>
  addrK x39 6 fun x40 =>
  st1K σ x40 (.bool true) fun _ σ1 =>
  c113_1 run fu σ1) (
  addK x2 (.int .i64 1) fun x43 =>
  sliceSK x1 (some x43) (some x9) fun x45 =>
  calK run 163 [x45] σ fun x46 σ2 =>
  neSK x46 (.str []) fun x48 =>
  ifK x48 (
  addK x9 (.int .i64 1) fun x51 =>
  .ret (.tup [x46, x51, (.bool true)], σ2)) (
  c113_1 run fu σ2))) (
  idxSK x1 x9 fun x54 =>
  cmpK .eql x54 (.int .u8 91) fun x55 =>
  ifK x55 (
  c113_1 run fu σ) (
  idxSK x1 x9 fun x58 =>
  cmpK .eql x58 (.int .u8 92) fun x59 =>
  grdK x59 true σ (fun f => f x9 σ) fun x61 σ3 =>
  grdK x59 true σ3 (fun f => addK x61 (.int .i64 1) fun v => f v σ3) fun x62 σ4 =>
  grdK x59 true σ4 (fun f => f x1 σ4) fun x63 σ5 =>
  grdK x59 true σ5 (fun f => lenSK x63 fun v => f v σ5) fun x64 σ6 =>
  grdK x59 true σ6 (fun f => cmpK .lss x62 x64 fun v => f v σ6) fun x65 σ7 =>
  pickK x59 x65 (.bool false) fun x66 =>
  ifK x66 (
  addK x9 (.int .i64 1) fun x68 =>
  c113_3 run fu s2 x0 x1 x2 x68 σ7) (
  c113_3 run fu s2 x0 x1 x2 x9 σ7)))) (
  c113_1 run fu σ)

noncomputable def c113_2 (run : RunT) (fu : Nat) : Nat → W4
  | 0 => fun _ _ _ _ _ => .fail
  | m + 1 => c113_2b run fu (c113_2 run fu m)

theorem eq113_2 (run : RunT) (fu : Nat) (s2 : W4) (x0 x1 x2 x9 : AV) (σ : Store) : codeK X0 run (.seq (.seq .leaf (.cond .leaf .leaf)) (.seq (.block (.seq (.seq .leaf (.cond (.seq (.seq .leaf (.cond (.seq .leaf .leaf) .leaf)) (.seq (.seq .leaf (.seq .leaf (.cond (.seq .leaf .leaf) .leaf))) .leaf)) .leaf)) (.seq (.seq .leaf (.cond .leaf .leaf)) (.seq .leaf (.cond .leaf .leaf))))) (.sub (fun fr σ => c113_3 run fu s2 (G fr 0) (G fr 1) (G fr 2) (G fr 9) σ)))) (subC [true, true, true, false, false, false] b113) (frS 0 69 [(0, x0), (1, x1), (2, x2), (9, x9)]) σ (thenK (fun fr σ => s2 (G fr 0) (G fr 1) (G fr 2) (G fr 9) σ) (blockK 0 (thenK (fun fr σ => c113_1 run fu σ) k113))) = c113_2b run fu s2 x0 x1 x2 x9 σ := by kernel_rfl

theorem owed113_2 {run : RunT} (hrun : RunOK X0 run) (fu : Nat) (s2 : W4) : Owes X0 run 69 (.seq (.seq .leaf (.cond .leaf .leaf)) (.seq (.block (.seq (.seq .leaf (.cond (.seq (.seq .leaf (.cond (.seq .leaf .leaf) .leaf)) (.seq (.seq .leaf (.seq .leaf (.cond (.seq .leaf .leaf) .leaf))) .leaf)) .leaf)) (.seq (.seq .leaf (.cond .leaf .leaf)) (.seq .leaf (.cond .leaf .leaf))))) (.sub (fun fr σ => c113_3 run fu s2 (G fr 0) (G fr 1) (G fr 2) (G fr 9) σ)))) (subC [true, true, true, false, false, false] b113) (thenK (fun fr σ => s2 (G fr 0) (G fr 1) (G fr 2) (G fr 9) σ) (blockK 0 (thenK (fun fr σ => c113_1 run fu σ) k113))) :=
  ⟨⟨trivial, ⟨trivial, trivial⟩⟩, ⟨⟨⟨trivial, ⟨⟨⟨trivial, ⟨⟨trivial, trivial⟩, trivial⟩⟩, ⟨⟨trivial, ⟨trivial, ⟨⟨trivial, trivial⟩, trivial⟩⟩⟩, trivial⟩⟩, trivial⟩⟩, ⟨⟨trivial, ⟨trivial, trivial⟩⟩, ⟨trivial, ⟨trivial, trivial⟩⟩⟩⟩, (ok113_3 hrun fu s2)⟩⟩

theorem ok113_2 {run : RunT} (hrun : RunOK X0 run) (fu : Nat) : ∀ fr σ, KOK X0 69 (subC [true, true, true, false, false] b113) fr σ ((fun fr σ => c113_2 run fu fu (G fr 0) (G fr 1) (G fr 2) (G fr 9) σ) fr σ) (blockK 0 (thenK (fun fr σ => c113_1 run fu σ) k113)) := by
  have h := KOK.loop (X := X0) (N := 69) (b := (subC [true, true, true, false, false, false] b113)) (k := (blockK 0 (thenK (fun fr σ => c113_1 run fu σ) k113))) (u := fun m fr σ => c113_2 run fu m (G fr 0) (G fr 1) (G fr 2) (G fr 9) σ) (fun _ _ => rfl) (fun m fr σ => KOK.piece env0 hrun [0, 1, 2, 9] (eq113_2 run fu (c113_2 run fu m) (G fr 0) (G fr 1) (G fr 2) (G fr 9) σ) (owed113_2 hrun fu (c113_2 run fu m)))
  exact fun fr σ => h fu fr σ

noncomputable def c113 (run : RunT) (fu : Nat) (x0 x1 x2 : AV) (σ : Store) : Tr R :=
  lenSK x1 fun x13 =>
  cmpK .geq x2 x13 fun x14 =>
  grdK x14 false σ (fun f => f x1 σ) fun x16 σ1 =>
  grdK x14 false σ1 (fun f => f x2 σ1) fun x17 σ2 =>
  grdK x14 false σ2 (fun f => idxSK x16 x17 fun v => f v σ2) fun x18 σ3 =>
  grdK x14 false σ3 (fun f => cmpK .neq x18 (.int .u8 91) fun v => f v σ3) fun x19 σ4 =>
  pickK x14 (.bool true) x19 fun x20 =>
  ifK x20 (
  .ret (.tup [(.str []), (.int .i64 0), (.bool false)], σ4)) (
  addK x2 (.int .i64 1) fun x22 =>
  c113_2 run fu fu x0 x1 x2 x22 σ4)

theorem eq113 (run : RunT) (fu : Nat) (x0 x1 x2 : AV) (σ : Store) : codeK X0 run (.seq .leaf (.seq (.seq .leaf (.cond (.seq .leaf .leaf) .leaf)) (.seq .leaf (.seq (.block (.sub (fun fr σ => c113_2 run fu fu (G fr 0) (G fr 1) (G fr 2) (G fr 9) σ))) (.sub (fun fr σ => c113_1 run fu σ)))))) (subC [] b113) ([x0, x1, x2] ++ padA (69 - 3)) σ k113 = c113 run fu x0 x1 x2 σ := by kernel_rfl

theorem ok113 {run : RunT} (hrun : RunOK X0 run) (fu : Nat) (x0 x1 x2 : AV) (σ : Store) : CallOK X0 113 [x0, x1, x2] σ (c113 run fu x0 x1 x2 σ) :=
  KOK.body (fn := Tryz.f113) (c := subC [] b113) (by kernel_rfl) (by kernel_rfl) (by show 3 ≤ 69; decide) (KOK.whole env0 hrun (eq113 run fu x0 x1 x2 σ) ⟨trivial, ⟨⟨trivial, ⟨⟨trivial, trivial⟩, trivial⟩⟩, ⟨trivial, ⟨(ok113_2 hrun fu), (ok113_1 hrun fu)⟩⟩⟩⟩)

-- pub-paratext/pub/rscmarkdown.toPlain

noncomputable def b117 : Code := match Tryz.f117.body with | some c => c | none => .skip

noncomputable def k117 : Kont R := retK Tryz.prog [.tmp 2]

noncomputable def c117 (run : RunT) (fu : Nat) (x0 : AV) (σ : Store) : Tr R :=
  tasK (some .nilp) 150 true x0 fun x7 =>
  extK x7 1 fun x8 =>
  extK x7 0 fun x9 =>
  ifK x8 (
  .ret (x9, σ)) (
  tasK (some .nilp) 185 true x0 fun x11 =>
  extK x11 1 fun x12 =>
  extK x11 0 fun x13 =>
  ifK x12 (
  nchkK x13 fun x15 =>
  addrK x15 0 fun x16 =>
  .ret (x16, σ)) (
  tasK (some .nilp) 128 true x0 fun x17 =>
  extK x17 1 fun x18 =>
  extK x17 0 fun x19 =>
  ifK x18 (
  nchkK x19 fun x21 =>
  addrK x21 0 fun x22 =>
  .ret (x22, σ)) (
  .ret (.nilp, σ))))

theorem eq117 (run : RunT) (fu : Nat) (x0 : AV) (σ : Store) : codeK X0 run (.seq .leaf (.seq (.seq .leaf (.block (.seq .leaf (.cond (.seq .leaf (.seq .leaf .leaf)) (.seq .leaf (.cond (.seq .leaf (.seq .leaf .leaf)) (.seq .leaf (.cond (.seq .leaf (.seq .leaf .leaf)) .leaf)))))))) (.seq .leaf .leaf))) (subC [] b117) ([x0] ++ padA (23 - 1)) σ k117 = c117 run fu x0 σ := by kernel_rfl

theorem ok117 {run : RunT} (hrun : RunOK X0 run) (fu : Nat) (x0 : AV) (σ : Store) : CallOK X0 117 [x0] σ (c117 run fu x0 σ) :=
  KOK.body (fn := Tryz.f117) (c := subC [] b117) (by kernel_rfl) (by kernel_rfl) (by show 1 ≤ 23; decide) (KOK.whole env0 hrun (eq117 run fu x0 σ) ⟨trivial, ⟨⟨trivial, ⟨trivial, ⟨⟨trivial, ⟨trivial, trivial⟩⟩, ⟨trivial, ⟨⟨trivial, ⟨trivial, trivial⟩⟩, ⟨trivial, ⟨⟨trivial, ⟨trivial, trivial⟩⟩, trivial⟩⟩⟩⟩⟩⟩⟩, ⟨trivial, trivial⟩⟩⟩)

-- pub-paratext/pub/rscmarkdown.mergePlain1

noncomputable def b118 : Code := match Tryz.f118.body with | some c => c | none => .skip

noncomputable def k118 : Kont R := retK Tryz.prog [.tmp 2]

noncomputable def c118_1 (run : RunT) (fu : Nat) (x3 : AV) (σ : Store) : Tr R :=
  calK run 164 [x3, (.str [])] σ fun x29 σ1 =>
  bldK [(.str [])] [(0, 1, x29)] fun x30 =>
  boxK σ1 263 x30 fun x31 σ2 =>
  .ret (x31, σ2)

theorem eq118_1 (run : RunT) (fu : Nat) (x3 : AV) (σ : Store) : codeK X0 run (.seq .leaf .leaf) (subC [true, true, true, true] b118) (frS 0 32 [(3, x3)]) σ k118 = c118_1 run fu x3 σ := by kernel_rfl

theorem ok118_1 {run : RunT} (hrun : RunOK X0 run) (fu : Nat) : ∀ fr σ, KOK X0 32 (subC [true, true, true, true] b118) fr σ ((fun fr σ => c118_1 run fu (G fr 3) σ) fr σ) k118 := fun fr σ =>
  KOK.piece env0 hrun [3] (eq118_1 run fu (G fr 3) σ) ⟨trivial, trivial⟩

noncomputable def c118_2b (run : RunT) (fu : Nat) (s2 : W4) (x3 x13 x14 x15 : AV) (σ : Store) : Tr R :=
  cmpK .lss x15 x14 fun x16 =>
  ifK x16 (
  idxK 1 x13 x15 fun x17 =>
  ld1K σ x17 fun x18 =>
  calK run 117 [x18] σ fun x21 σ1 =>
  nchkK x21 fun x22 =>
  addrK x22 0 fun x23 =>
  ld1K σ1 x23 fun x24 =>
  opt (fillK [(.str [])] [(0, 1, x24)]) fun cs => newSK σ1 19 cs 1 1 fun x25 σ2 =>
  appK 9 1 16 σ2 x3 x25 fun x26 σ3 =>
  addK x15 (.int .i64 1) fun x27 =>
  s2 x26 x13 x14 x27 σ3) (
  c118_1 run fu x3 σ)

noncomputable def c118_2 (run : RunT) (fu : Nat) : Nat → W4
  | 0 => fun _ _ _ _ _ => .fail
  | m + 1 => c118_2b run fu (c118_2 run fu m)

theorem eq118_2 (run : RunT) (fu : Nat) (s2 : W4) (x3 x13 x14 x15 : AV) (σ : Store) : codeK X0 run (.seq .leaf (.seq (.cond .leaf .leaf) (.seq (.block (.seq .leaf .leaf)) .leaf))) (subC [true, true, true, false, true, false, false] b118) (frS 0 32 [(3, x3), (13, x13), (14, x14), (15, x15)]) σ (thenK (fun fr σ => s2 (G fr 3) (G fr 13) (G fr 14) (G fr 15) σ) (blockK 0 (thenK (fun fr σ => c118_1 run fu (G fr 3) σ) k118))) = c118_2b run fu s2 x3 x13 x14 x15 σ := by kernel_rfl

theorem owed118_2 {run : RunT} (hrun : RunOK X0 run) (fu : Nat) (s2 : W4) : Owes X0 run 32 (.seq .leaf (.seq (.cond .leaf .leaf) (.seq (.block (.seq .leaf .leaf)) .leaf))) (subC [true, true, true, false, true, false, false] b118) (thenK (fun fr σ => s2 (G fr 3) (G fr 13) (G fr 14) (G fr 15) σ) (blockK 0 (thenK (fun fr σ => c118_1 run fu (G fr 3) σ) k118))) :=
  ⟨trivial, ⟨⟨trivial, trivial⟩, ⟨⟨trivial, trivial⟩, trivial⟩⟩⟩

theorem ok118_2 {run : RunT} (hrun : RunOK X0 run) (fu : Nat) : ∀ fr σ, KOK X0 32 (subC [true, true, true, false, true, false] b118) fr σ ((fun fr σ => c118_2 run fu fu (G fr 3) (G fr 13) (G fr 14) (G fr 15) σ) fr σ) (blockK 0 (thenK (fun fr σ => c118_1 run fu (G fr 3) σ) k118)) := by
  have h := KOK.loop (X := X0) (N := 32) (b := (subC [true, true, true, false, true, false, false] b118)) (k := (blockK 0 (thenK (fun fr σ => c118_1 run fu (G fr 3) σ) k118))) (u := fun m fr σ => c118_2 run fu m (G fr 3) (G fr 13) (G fr 14) (G fr 15) σ) (fun _ _ => rfl) (fun m fr σ => KOK.piece env0 hrun [3, 13, 14, 15] (eq118_2 run fu (c118_2 run fu m) (G fr 3) (G fr 13) (G fr 14) (G fr 15) σ) (owed118_2 hrun fu (c118_2 run fu m)))
  exact fun fr σ => h fu fr σ

noncomputable def c118 (run : RunT) (fu : Nat) (x0 : AV) (σ : Store) : Tr R :=
  lenLK x0 fun x7 =>
  cmpK .eql x7 (.int .i64 1) fun x8 =>
  ifK x8 (
  idxK 1 x0 (.int .i64 0) fun x10 =>
  ld1K σ x10 fun x11 =>
  calK run 117 [x11] σ fun x12 σ1 =>
  .ret (x12, σ1)) (
  lenLK x0 fun x14 =>
  c118_2 run fu fu .nils x0 x14 (.int .i64 0) σ)

theorem eq118 (run : RunT) (fu : Nat) (x0 : AV) (σ : Store) : codeK X0 run (.seq .leaf (.seq (.seq .leaf (.cond (.seq .leaf .leaf) .leaf)) (.seq .leaf (.seq (.seq .leaf (.block (.sub (fun fr σ => c118_2 run fu fu (G fr 3) (G fr 13) (G fr 14) (G fr 15) σ)))) (.sub (fun fr σ => c118_1 run fu (G fr 3) σ)))))) (subC [] b118) ([x0] ++ padA (32 - 1)) σ k118 = c118 run fu x0 σ := by kernel_rfl

theorem ok118 {run : RunT} (hrun : RunOK X0 run) (fu : Nat) (x0 : AV) (σ : Store) : CallOK X0 118 [x0] σ (c118 run fu x0 σ) :=
  KOK.body (fn := Tryz.f118) (c := subC [] b118) (by kernel_rfl) (by kernel_rfl) (by show 1 ≤ 32; decide) (KOK.whole env0 hrun (eq118 run fu x0 σ) ⟨trivial, ⟨⟨trivial, ⟨⟨trivial, trivial⟩, trivial⟩⟩, ⟨trivial, ⟨⟨trivial, (ok118_2 hrun fu)⟩, (ok118_1 hrun fu)⟩⟩⟩⟩)

-- (*pub-paratext/pub/rscmarkdown.parseState).autoLinkPlain

noncomputable def b119 : Code := match Tryz.f119.body with | some c => c | none => .skip

noncomputable def k119 : Kont R := retK Tryz.prog [.tmp 4]

noncomputable def c119_2 (run : RunT) (fu : Nat) (s1 : W4) (x1 x6 : AV) (σ : Store) : Tr R :=
  eqOK (nilEq nilS) x6 .nils fun x123 =>
  ifK x123 (
  .ret (.nils, σ)) (
  bldK [(.str [])] [(0, 1, x1)] fun x126 =>
  boxK σ 263 x126 fun x127 σ1 =>
  opt (fillK [.nili] [(0, 1, (.iface 150 x127))]) fun cs => newSK σ1 253 cs 1 1 fun x129 σ2 =>
  appK 126 1 16 σ2 x6 x129 fun x130 σ3 =>
  .ret (x130, σ3))

theorem eq119_2 (run : RunT) (fu : Nat) (s1 : W4) (x1 x6 : AV) (σ : Store) : codeK X0 run (.seq (.seq .leaf (.cond (.seq .leaf .leaf) .leaf)) (.seq .leaf (.seq .leaf .leaf))) (subC [true, true] (lblC 0 (subC [true, false] b119))) (frS 0 132 [(1, x1), (6, x6)]) σ (scopeK (subC [true, false] b119) (lblU 0 (fun fr σ => s1 (G fr 0) (G fr 1) (G fr 5) (G fr 6) σ)) k119) = c119_2 run fu s1 x1 x6 σ := by kernel_rfl

theorem ok119_2 {run : RunT} (hrun : RunOK X0 run) (fu : Nat) (s1 : W4) : ∀ fr σ, KOK X0 132 (subC [true, true] (lblC 0 (subC [true, false] b119))) fr σ ((fun fr σ => c119_2 run fu s1 (G fr 1) (G fr 6) σ) fr σ) (scopeK (subC [true, false] b119) (lblU 0 (fun fr σ => s1 (G fr 0) (G fr 1) (G fr 5) (G fr 6) σ)) k119) := fun fr σ =>
  KOK.piece env0 hrun [1, 6] (eq119_2 run fu s1 (G fr 1) (G fr 6) σ) ⟨⟨trivial, ⟨⟨trivial, trivial⟩, trivial⟩⟩, ⟨trivial, ⟨trivial, trivial⟩⟩⟩

noncomputable def c119_4 (run : RunT) (fu : Nat) (s1 : W4) (s3 : W5) (x0 x1 x5 x6 x7 : AV) (σ : Store) : Tr R :=
  addK x7 (.int .i64 1) fun x24 =>
  s3 x0 x1 x5 x6 x24 σ

theorem eq119_4 (run : RunT) (fu : Nat) (s1 : W4) (s3 : W5) (x0 x1 x5 x6 x7 : AV) (σ : Store) : codeK X0 run .leaf (subC [true, false, true, false, false, true, true] (lblC 0 (subC [true, false] b119))) (frS 0 132 [(0, x0), (1, x1), (5, x5), (6, x6), (7, x7)]) σ (thenK (fun fr σ => s3 (G fr 0) (G fr 1) (G fr 5) (G fr 6) (G fr 7) σ) (blockK 0 (thenK (fun fr σ => c119_2 run fu s1 (G fr 1) (G fr 6) σ) (scopeK (subC [true, false] b119) (lblU 0 (fun fr σ => s1 (G fr 0) (G fr 1) (G fr 5) (G fr 6) σ)) k119)))) = c119_4 run fu s1 s3 x0 x1 x5 x6 x7 σ := by kernel_rfl

theorem ok119_4 {run : RunT} (hrun : RunOK X0 run) (fu : Nat) (s1 : W4) (s3 : W5) : ∀ fr σ, KOK X0 132 (subC [true, false, true, false, false, true, true] (lblC 0 (subC [true, false] b119))) fr σ ((fun fr σ => c119_4 run fu s1 s3 (G fr 0) (G fr 1) (G fr 5) (G fr 6) (G fr 7) σ) fr σ) (thenK (fun fr σ => s3 (G fr 0) (G fr 1) (G fr 5) (G fr 6) (G fr 7) σ) (blockK 0 (thenK (fun fr σ => c119_2 run fu s1 (G fr 1) (G fr 6) σ) (scopeK (subC [true, false] b119) (lblU 0 (fun fr σ => s1 (G fr 0) (G fr 1) (G fr 5) (G fr 6) σ)) k119)))) := fun fr σ =>
  KOK.piece env0 hrun [0, 1, 5, 6, 7] (eq119_4 run fu s1 s3 (G fr 0) (G fr 1) (G fr 5) (G fr 6) (G fr 7) σ) trivial

noncomputable def c119_6 (run : RunT) (fu : Nat) (s1 : W4) (s3 : W5) (x0 x1 x5 x6 x13 x14 : AV) (σ : Store) : Tr R :=
  opt (fillK [.nili] [(0, 1, (.iface 134 x13))]) fun cs => newSK σ 253 cs 1 1 fun x112 σ1 =>
  appK 126 1 16 σ1 x6 x112 fun x113 σ2 =>
  lenSK x1 fun x116 =>
  lenSK x14 fun x118 =>
  subK x116 x118 fun x119 =>
  calK run 166 [x5, x119] σ2 fun x120 σ3 =>
  s1 x0 x14 x5 x113 σ3

theorem eq119_6 (run : RunT) (fu : Nat) (s1 : W4) (s3 : W5) (x0 x1 x5 x6 x13 x14 : AV) (σ : Store) : codeK X0 run (.seq .leaf (.seq .leaf (.seq .leaf .leaf))) (subC [true, false, true, false, false, true, false, false, true, true, true, false, true, true, false, true] (lblC 0 (subC [true, false] b119))) (frS 0 132 [(0, x0), (1, x1), (5, x5), (6, x6), (13, x13), (14, x14)]) σ (blockK 1 (thenK (fun fr σ => c119_4 run fu s1 s3 (G fr 0) (G fr 1) (G fr 5) (G fr 6) (G fr 7) σ) (thenK (fun fr σ => s3 (G fr 0) (G fr 1) (G fr 5) (G fr 6) (G fr 7) σ) (blockK 0 (thenK (fun fr σ => c119_2 run fu s1 (G fr 1) (G fr 6) σ) (scopeK (subC [true, false] b119) (lblU 0 (fun fr σ => s1 (G fr 0) (G fr 1) (G fr 5) (G fr 6) σ)) k119)))))) = c119_6 run fu s1 s3 x0 x1 x5 x6 x13 x14 σ := by kernel_rfl

theorem ok119_6 {run : RunT} (hrun : RunOK X0 run) (fu : Nat) (s1 : W4) (s3 : W5) : ∀ fr σ, KOK X0 132 (subC [true, false, true, false, false, true, false, false, true, true, true, false, true, true, false, true] (lblC 0 (subC [true, false] b119))) fr σ ((fun fr σ => c119_6 run fu s1 s3 (G fr 0) (G fr 1) (G fr 5) (G fr 6) (G fr 13) (G fr 14) σ) fr σ) (blockK 1 (thenK (fun fr σ => c119_4 run fu s1 s3 (G fr 0) (G fr 1) (G fr 5) (G fr 6) (G fr 7) σ) (thenK (fun fr σ => s3 (G fr 0) (G fr 1) (G fr 5) (G fr 6) (G fr 7) σ) (blockK 0 (thenK (fun fr σ => c119_2 run fu s1 (G fr 1) (G fr 6) σ) (scopeK (subC [true, false] b119) (lblU 0 (fun fr σ => s1 (G fr 0) (G fr 1) (G fr 5) (G fr 6) σ)) k119)))))) := fun fr σ =>
  KOK.piece env0 hrun [0, 1, 5, 6, 13, 14] (eq119_6 run fu s1 s3 (G fr 0) (G fr 1) (G fr 5) (G fr 6) (G fr 13) (G fr 14) σ) ⟨trivial, ⟨trivial, ⟨trivial, trivial⟩⟩⟩

noncomputable def c119_5 (run : RunT) (fu : Nat) (s1 : W4) (s3 : W5) (x0 x1 x5 x6 x7 x8 : AV) (σ : Store) : Tr R :=
  cmpK .eql x8 (.int .u8 104) fun x63 =>
  grdK x63 false σ (fun f => f x8 σ) fun x65 σ1 =>
  grdK x63 false σ1 (fun f => cmpK .eql x65 (.int .u8 109) fun v => f v σ1) fun x66 σ2 =>
  pickK x63 (.bool true) x66 fun x67 =>
  grdK x67 false σ2 (fun f => f x8 σ2) fun x69 σ3 =>
  grdK x67 false σ3 (fun f => cmpK .eql x69 (.int .u8 120) fun v => f v σ3) fun x70 σ4 =>
  pickK x67 (.bool true) x70 fun x71 =>
  grdK x71 false σ4 (fun f => f x8 σ4) fun x73 σ5 =>
  grdK x71 false σ5 (fun f => cmpK .eql x73 (.int .u8 119) fun v => f v σ5) fun x74 σ6 =>
  pickK x71 (.bool true) x74 fun x75 =>
  grdK x75 true σ6 (fun f => f x7 σ6) fun x77 σ7 =>
  grdK x75 true σ7 (fun f => cmpK .eql x77 (.int .i64 0) fun v => f v σ7) fun x78 σ8 =>
  grdK x75 true σ8 (fun f => f x78 σ8) fun x79 σ9 =>
  grdK x79 false σ9 (fun f => f x1 σ9) fun x80 σ10 =>
  grdK x79 false σ10 (fun f => f x7 σ10) fun x81 σ11 =>
  grdK x79 false σ11 (fun f => subK x81 (.int .i64 1) fun v => f v σ11) fun x82 σ12 =>
  grdK x79 false σ12 (fun f => idxSK x80 x82 fun v => f v σ12) fun x83 σ13 =>
  grdK x79 false σ13 (fun f => calK run 138 [x83] σ13 f) fun x84 σ14 =>
  grdK x79 false σ14 (fun f => notK x84 fun v => f v σ14) fun x85 σ15 =>
  grdK x75 true σ15 (fun f => pickK x79 (.bool true) x85 fun v => f v σ15) fun x86 σ16 =>
  pickK x75 x86 (.bool false) fun x87 =>
  ifK x87 (
  calK run 167 [x0, x1, x7, x5] σ16 fun x93 σ17 =>
  extK x93 0 fun x94 =>
  extK x93 1 fun x95 =>
  extK x93 2 fun x96 =>
  ifK x96 (
  cmpK .gtr x7 (.int .i64 0) fun x99 =>
  ifK x99 (
  sliceSK x1 none (some x7) fun x103 =>
  bldK [(.str [])] [(0, 1, x103)] fun x104 =>
  boxK σ17 263 x104 fun x105 σ18 =>
  opt (fillK [.nili] [(0, 1, (.iface 150 x105))]) fun cs => newSK σ18 253 cs 1 1 fun x107 σ19 =>
  appK 126 1 16 σ19 x6 x107 fun x108 σ20 =>
  c119_6 run fu s1 s3 x0 x1 x5 x108 x94 x95 σ20) (
  c119_6 run fu s1 s3 x0 x1 x5 x6 x94 x95 σ17)) (
  c119_4 run fu s1 s3 x0 x1 x5 x6 x7 σ17)) (
  c119_4 run fu s1 s3 x0 x1 x5 x6 x7 σ16)

theorem eq119_5 (run : RunT) (fu : Nat) (s1 : W4) (s3 : W5) (x0 x1 x5 x6 x7 x8 : AV) (σ : Store) : codeK X0 run (.seq .leaf (.cond (.seq .leaf (.seq .leaf (.cond (.seq (.seq .leaf (.cond .leaf .leaf)) (.sub (fun fr σ => c119_6 run fu s1 s3 (G fr 0) (G fr 1) (G fr 5) (G fr 6) (G fr 13) (G fr 14) σ))) .leaf))) .leaf)) (subC [true, false, true, false, false, true, false, false, true, true] (lblC 0 (subC [true, false] b119))) (frS 0 132 [(0, x0), (1, x1), (5, x5), (6, x6), (7, x7), (8, x8)]) σ (blockK 1 (thenK (fun fr σ => c119_4 run fu s1 s3 (G fr 0) (G fr 1) (G fr 5) (G fr 6) (G fr 7) σ) (thenK (fun fr σ => s3 (G fr 0) (G fr 1) (G fr 5) (G fr 6) (G fr 7) σ) (blockK 0 (thenK (fun fr σ => c119_2 run fu s1 (G fr 1) (G fr 6) σ) (scopeK (subC [true, false] b119) (lblU 0 (fun fr σ => s1 (G fr 0) (G fr 1) (G fr 5) (G fr 6) σ)) k119)))))) = c119_5 run fu s1 s3 x0 x1 x5 x6 x7 x8 σ := by kernel_rfl

theorem ok119_5 {run : RunT} (hrun : RunOK X0 run) (fu : Nat) (s1 : W4) (s3 : W5) : ∀ fr σ, KOK X0 132 (subC [true, false, true, false, false, true, false, false, true, true] (lblC 0 (subC [true, false] b119))) fr σ ((fun fr σ => c119_5 run fu s1 s3 (G fr 0) (G fr 1) (G fr 5) (G fr 6) (G fr 7) (G fr 8) σ) fr σ) (blockK 1 (thenK (fun fr σ => c119_4 run fu s1 s3 (G fr 0) (G fr 1) (G fr 5) (G fr 6) (G fr 7) σ) (thenK (fun fr σ => s3 (G fr 0) (G fr 1) (G fr 5) (G fr 6) (G fr 7) σ) (blockK 0 (thenK (fun fr σ => c119_2 run fu s1 (G fr 1) (G fr 6) σ) (scopeK (subC [true, false] b119) (lblU 0 (fun fr σ => s1 (G fr 0) (G fr 1) (G fr 5) (G fr 6) σ)) k119)))))) := fun fr σ =>
  KOK.piece env0 hrun [0, 1, 5, 6, 7, 8] (eq119_5 run fu s1 s3 (G fr 0) (G fr 1) (G fr 5) (G fr 6) (G fr 7) (G fr 8) σ) ⟨trivial, ⟨⟨trivial, ⟨trivial, ⟨⟨⟨trivial, ⟨trivial, trivial⟩⟩, (ok119_6 hrun fu s1 s3)⟩, trivial⟩⟩⟩, trivial⟩⟩

noncomputable def c119_7 (run : RunT) (fu : Nat) (s1 : W4) (s3 : W5) (x0 x1 x5 x6 x10 x11 : AV) (σ : Store) : Tr R :=
  opt (fillK [.nili] [(0, 1, (.iface 134 x10))]) fun cs => newSK σ 253 cs 1 1 fun x52 σ1 =>
  appK 126 1 16 σ1 x6 x52 fun x53 σ2 =>
  lenSK x1 fun x56 =>
  lenSK x11 fun x58 =>
  subK x56 x58 fun x59 =>
  calK run 166 [x5, x59] σ2 fun x60 σ3 =>
  s1 x0 x11 x5 x53 σ3

theorem eq119_7 (run : RunT) (fu : Nat) (s1 : W4) (s3 : W5) (x0 x1 x5 x6 x10 x11 : AV) (σ : Store) : codeK X0 run (.seq .leaf (.seq .leaf (.seq .leaf .leaf))) (subC [true, false, true, false, false, true, false, false, true, false, true, false, true, true, false, true] (lblC 0 (subC [true, false] b119))) (frS 0 132 [(0, x0), (1, x1), (5, x5), (6, x6), (10, x10), (11, x11)]) σ (thenK (fun fr σ => c119_5 run fu s1 s3 (G fr 0) (G fr 1) (G fr 5) (G fr 6) (G fr 7) (G fr 8) σ) (blockK 1 (thenK (fun fr σ => c119_4 run fu s1 s3 (G fr 0) (G fr 1) (G fr 5) (G fr 6) (G fr 7) σ) (thenK (fun fr σ => s3 (G fr 0) (G fr 1) (G fr 5) (G fr 6) (G fr 7) σ) (blockK 0 (thenK (fun fr σ => c119_2 run fu s1 (G fr 1) (G fr 6) σ) (scopeK (subC [true, false] b119) (lblU 0 (fun fr σ => s1 (G fr 0) (G fr 1) (G fr 5) (G fr 6) σ)) k119))))))) = c119_7 run fu s1 s3 x0 x1 x5 x6 x10 x11 σ := by kernel_rfl

theorem ok119_7 {run : RunT} (hrun : RunOK X0 run) (fu : Nat) (s1 : W4) (s3 : W5) : ∀ fr σ, KOK X0 132 (subC [true, false, true, false, false, true, false, false, true, false, true, false, true, true, false, true] (lblC 0 (subC [true, false] b119))) fr σ ((fun fr σ => c119_7 run fu s1 s3 (G fr 0) (G fr 1) (G fr 5) (G fr 6) (G fr 10) (G fr 11) σ) fr σ) (thenK (fun fr σ => c119_5 run fu s1 s3 (G fr 0) (G fr 1) (G fr 5) (G fr 6) (G fr 7) (G fr 8) σ) (blockK 1 (thenK (fun fr σ => c119_4 run fu s1 s3 (G fr 0) (G fr 1) (G fr 5) (G fr 6) (G fr 7) σ) (thenK (fun fr σ => s3 (G fr 0) (G fr 1) (G fr 5) (G fr 6) (G fr 7) σ) (blockK 0 (thenK (fun fr σ => c119_2 run fu s1 (G fr 1) (G fr 6) σ) (scopeK (subC [true, false] b119) (lblU 0 (fun fr σ => s1 (G fr 0) (G fr 1) (G fr 5) (G fr 6) σ)) k119))))))) := fun fr σ =>
  KOK.piece env0 hrun [0, 1, 5, 6, 10, 11] (eq119_7 run fu s1 s3 (G fr 0) (G fr 1) (G fr 5) (G fr 6) (G fr 10) (G fr 11) σ) ⟨trivial, ⟨trivial, ⟨trivial, trivial⟩⟩⟩

noncomputable def c119_3b (run : RunT) (fu : Nat) (s1 : W4) (s3 : W5) (x0 x1 x5 x6 x7 : AV) (σ : Store) : Tr R :=
  lenSK x1 fun x21 =>
  cmpK .lss x7 x21 fun x22 =>
  ifK x22 (
  idxSK x1 x7 fun x27 =>
  cmpK .eql x27 (.int .u8 64) fun x29 =>
  ifK x29 (
  calK run 165 [x0, x1, x7] σ fun x34 σ1 =>
  extK x34 0 fun x35 =>
  extK x34 1 fun x36 =>
  extK x34 2 fun x37 =>
  extK x34 3 fun x38 =>
  ifK x38 (
  neSK x35 (.str []) fun x41 =>
  ifK x41 (
  bldK [(.str [])] [(0, 1, x35)] fun x44 =>
  boxK σ1 263 x44 fun x45 σ2 =>
  opt (fillK [.nili] [(0, 1, (.iface 150 x45))]) fun cs => newSK σ2 253 cs 1 1 fun x47 σ3 =>
  appK 126 1 16 σ3 x6 x47 fun x48 σ4 =>
  c119_7 run fu s1 s3 x0 x1 x5 x48 x36 x37 σ4) (
  c119_7 run fu s1 s3 x0 x1 x5 x6 x36 x37 σ1)) (
  c119_5 run fu s1 s3 x0 x1 x5 x6 x7 x27 σ1)) (
  c119_5 run fu s1 s3 x0 x1 x5 x6 x7 x27 σ)) (
  c119_2 run fu s1 x1 x6 σ)

noncomputable def c119_3 (run : RunT) (fu : Nat) (s1 : W4) : Nat → W5
  | 0 => fun _ _ _ _ _ _ => .fail
  | m + 1 => c119_3b run fu s1 (c119_3 run fu s1 m)

theorem eq119_3 (run : RunT) (fu : Nat) (s1 : W4) (s3 : W5) (x0 x1 x5 x6 x7 : AV) (σ : Store) : codeK X0 run (.seq (.seq .leaf (.cond .leaf .leaf)) (.seq (.block (.seq .leaf (.seq (.seq .leaf (.cond (.seq .leaf (.seq .leaf (.cond (.seq (.seq .leaf (.cond .leaf .leaf)) (.sub (fun fr σ => c119_7 run fu s1 s3 (G fr 0) (G fr 1) (G fr 5) (G fr 6) (G fr 10) (G fr 11) σ))) .leaf))) .leaf)) (.sub (fun fr σ => c119_5 run fu s1 s3 (G fr 0) (G fr 1) (G fr 5) (G fr 6) (G fr 7) (G fr 8) σ))))) (.sub (fun fr σ => c119_4 run fu s1 s3 (G fr 0) (G fr 1) (G fr 5) (G fr 6) (G fr 7) σ)))) (subC [true, false, true, false, false] (lblC 0 (subC [true, false] b119))) (frS 0 132 [(0, x0), (1, x1), (5, x5), (6, x6), (7, x7)]) σ (thenK (fun fr σ => s3 (G fr 0) (G fr 1) (G fr 5) (G fr 6) (G fr 7) σ) (blockK 0 (thenK (fun fr σ => c119_2 run fu s1 (G fr 1) (G fr 6) σ) (scopeK (subC [true, false] b119) (lblU 0 (fun fr σ => s1 (G fr 0) (G fr 1) (G fr 5) (G fr 6) σ)) k119)))) = c119_3b run fu s1 s3 x0 x1 x5 x6 x7 σ := by kernel_rfl

theorem owed119_3 {run : RunT} (hrun : RunOK X0 run) (fu : Nat) (s1 : W4) (s3 : W5) : Owes X0 run 132 (.seq (.seq .leaf (.cond .leaf .leaf)) (.seq (.block (.seq .leaf (.seq (.seq .leaf (.cond (.seq .leaf (.seq .leaf (.cond (.seq (.seq .leaf (.cond .leaf .leaf)) (.sub (fun fr σ => c119_7 run fu s1 s3 (G fr 0) (G fr 1) (G fr 5) (G fr 6) (G fr 10) (G fr 11) σ))) .leaf))) .leaf)) (.sub (fun fr σ => c119_5 run fu s1 s3 (G fr 0) (G fr 1) (G fr 5) (G fr 6) (G fr 7) (G fr 8) σ))))) (.sub (fun fr σ => c119_4 run fu s1 s3 (G fr 0) (G fr 1) (G fr 5) (G fr 6) (G fr 7) σ)))) (subC [true, false, true, false, false] (lblC 0 (subC [true, false] b119))) (thenK (fun fr σ => s3 (G fr 0) (G fr 1) (G fr 5) (G fr 6) (G fr 7) σ) (blockK 0 (thenK (fun fr σ => c119_2 run fu s1 (G fr 1) (G fr 6) σ) (scopeK (subC [true, false] b119) (lblU 0 (fun fr σ => s1 (G fr 0) (G fr 1) (G fr 5) (G fr 6) σ)) k119)))) :=
  ⟨⟨trivial, ⟨trivial, trivial⟩⟩, ⟨⟨trivial, ⟨⟨trivial, ⟨⟨trivial, ⟨trivial, ⟨⟨⟨trivial, ⟨trivial, trivial⟩⟩, (ok119_7 hrun fu s1 s3)⟩, trivial⟩⟩⟩, trivial⟩⟩, (ok119_5 hrun fu s1 s3)⟩⟩, (ok119_4 hrun fu s1 s3)⟩⟩

theorem ok119_3 {run : RunT} (hrun : RunOK X0 run) (fu : Nat) (s1 : W4) : ∀ fr σ, KOK X0 132 (subC [true, false, true, false] (lblC 0 (subC [true, false] b119))) fr σ ((fun fr σ => c119_3 run fu s1 fu (G fr 0) (G fr 1) (G fr 5) (G fr 6) (G fr 7) σ) fr σ) (blockK 0 (thenK (fun fr σ => c119_2 run fu s1 (G fr 1) (G fr 6) σ) (scopeK (subC [true, false] b119) (lblU 0 (fun fr σ => s1 (G fr 0) (G fr 1) (G fr 5) (G fr 6) σ)) k119))) := by
  have h := KOK.loop (X := X0) (N := 132) (b := (subC [true, false, true, false, false] (lblC 0 (subC [true, false] b119)))) (k := (blockK 0 (thenK (fun fr σ => c119_2 run fu s1 (G fr 1) (G fr 6) σ) (scopeK (subC [true, false] b119) (lblU 0 (fun fr σ => s1 (G fr 0) (G fr 1) (G fr 5) (G fr 6) σ)) k119)))) (u := fun m fr σ => c119_3 run fu s1 m (G fr 0) (G fr 1) (G fr 5) (G fr 6) (G fr 7) σ) (fun _ _ => rfl) (fun m fr σ => KOK.piece env0 hrun [0, 1, 5, 6, 7] (eq119_3 run fu s1 (c119_3 run fu s1 m) (G fr 0) (G fr 1) (G fr 5) (G fr 6) (G fr 7) σ) (owed119_3 hrun fu s1 (c119_3 run fu s1 m)))
  exact fun fr σ => h fu fr σ

noncomputable def c119_8 (run : RunT) (fu : Nat) (s3 : W5) (x0 x1 x5 x6 x7 : AV) (σ : Store) : Tr R :=
  addK x7 (.int .i64 1) fun x24 =>
  s3 x0 x1 x5 x6 x24 σ

theorem eq119_8 (run : RunT) (fu : Nat) (s3 : W5) (x0 x1 x5 x6 x7 : AV) (σ : Store) : codeK X0 run .leaf (subC [true, false, true, false, false, true, true] (lblC 0 (subC [true, false] b119))) (frS 0 132 [(0, x0), (1, x1), (5, x5), (6, x6), (7, x7)]) σ (thenK (fun fr σ => s3 (G fr 0) (G fr 1) (G fr 5) (G fr 6) (G fr 7) σ) failK) = c119_8 run fu s3 x0 x1 x5 x6 x7 σ := by kernel_rfl

theorem ok119_8 {run : RunT} (hrun : RunOK X0 run) (fu : Nat) (s3 : W5) : ∀ fr σ, KOK X0 132 (subC [true, false, true, false, false, true, true] (lblC 0 (subC [true, false] b119))) fr σ ((fun fr σ => c119_8 run fu s3 (G fr 0) (G fr 1) (G fr 5) (G fr 6) (G fr 7) σ) fr σ) (thenK (fun fr σ => s3 (G fr 0) (G fr 1) (G fr 5) (G fr 6) (G fr 7) σ) failK) := fun fr σ =>
  KOK.piece env0 hrun [0, 1, 5, 6, 7] (eq119_8 run fu s3 (G fr 0) (G fr 1) (G fr 5) (G fr 6) (G fr 7) σ) trivial

noncomputable def c119_10 (run : RunT) (fu : Nat) (s3 : W5) (x0 x1 x5 x6 x13 x14 : AV) (σ : Store) : Tr R :=
  opt (fillK [.nili] [(0, 1, (.iface 134 x13))]) fun cs => newSK σ 253 cs 1 1 fun x112 σ1 =>
  appK 126 1 16 σ1 x6 x112 fun x113 σ2 =>
  lenSK x1 fun x116 =>
  lenSK x14 fun x118 =>
  subK x116 x118 fun x119 =>
  calK run 166 [x5, x119] σ2 fun x120 σ3 =>
  .fail

theorem eq119_10 (run : RunT) (fu : Nat) (s3 : W5) (x0 x1 x5 x6 x13 x14 : AV) (σ : Store) : codeK X0 run (.seq .leaf (.seq .leaf (.seq .leaf .leaf))) (subC [true, false, true, false, false, true, false, false, true, true, true, false, true, true, false, true] (lblC 0 (subC [true, false] b119))) (frS 0 132 [(0, x0), (1, x1), (5, x5), (6, x6), (13, x13), (14, x14)]) σ (blockK 1 (thenK (fun fr σ => c119_8 run fu s3 (G fr 0) (G fr 1) (G fr 5) (G fr 6) (G fr 7) σ) (thenK (fun fr σ => s3 (G fr 0) (G fr 1) (G fr 5) (G fr 6) (G fr 7) σ) failK))) = c119_10 run fu s3 x0 x1 x5 x6 x13 x14 σ := by kernel_rfl

theorem ok119_10 {run : RunT} (hrun : RunOK X0 run) (fu : Nat) (s3 : W5) : ∀ fr σ, KOK X0 132 (subC [true, false, true, false, false, true, false, false, true, true, true, false, true, true, false, true] (lblC 0 (subC [true, false] b119))) fr σ ((fun fr σ => c119_10 run fu s3 (G fr 0) (G fr 1) (G fr 5) (G fr 6) (G fr 13) (G fr 14) σ) fr σ) (blockK 1 (thenK (fun fr σ => c119_8 run fu s3 (G fr 0) (G fr 1) (G fr 5) (G fr 6) (G fr 7) σ) (thenK (fun fr σ => s3 (G fr 0) (G fr 1) (G fr 5) (G fr 6) (G fr 7) σ) failK))) := fun fr σ =>
  KOK.piece env0 hrun [0, 1, 5, 6, 13, 14] (eq119_10 run fu s3 (G fr 0) (G fr 1) (G fr 5) (G fr 6) (G fr 13) (G fr 14) σ) ⟨trivial, ⟨trivial, ⟨trivial, trivial⟩⟩⟩

noncomputable def c119_9 (run : RunT) (fu : Nat) (s3 : W5) (x0 x1 x5 x6 x7 x8 : AV) (σ : Store) : Tr R :=
  cmpK .eql x8 (.int .u8 104) fun x63 =>
  grdK x63 false σ (fun f => f x8 σ) fun x65 σ1 =>
  grdK x63 false σ1 (fun f => cmpK .eql x65 (.int .u8 109) fun v => f v σ1) fun x66 σ2 =>
  pickK x63 (.bool true) x66 fun x67 =>
  grdK x67 false σ2 (fun f => f x8 σ2) fun x69 σ3 =>
  grdK x67 false σ3 (fun f => cmpK .eql x69 (.int .u8 120) fun v => f v σ3) fun x70 σ4 =>
  pickK x67 (.bool true) x70 fun x71 =>
  grdK x71 false σ4 (fun f => f x8 σ4) fun x73 σ5 =>
  grdK x71 false σ5 (fun f => cmpK .eql x73 (.int .u8 119) fun v => f v σ5) fun x74 σ6 =>
  pickK x71 (.bool true) x74 fun x75 =>
  grdK x75 true σ6 (fun f => f x7 σ6) fun x77 σ7 =>
  grdK x75 true σ7 (fun f => cmpK .eql x77 (.int .i64 0) fun v => f v σ7) fun x78 σ8 =>
  grdK x75 true σ8 (fun f => f x78 σ8) fun x79 σ9 =>
  grdK x79 false σ9 (fun f => f x1 σ9) fun x80 σ10 =>
  grdK x79 false σ10 (fun f => f x7 σ10) fun x81 σ11 =>
  grdK x79 false σ11 (fun f => subK x81 (.int .i64 1) fun v => f v σ11) fun x82 σ12 =>
  grdK x79 false σ12 (fun f => idxSK x80 x82 fun v => f v σ12) fun x83 σ13 =>
  grdK x79 false σ13 (fun f => calK run 138 [x83] σ13 f) fun x84 σ14 =>
  grdK x79 false σ14 (fun f => notK x84 fun v => f v σ14) fun x85 σ15 =>
  grdK x75 true σ15 (fun f => pickK x79 (.bool true) x85 fun v => f v σ15) fun x86 σ16 =>
  pickK x75 x86 (.bool false) fun x87 =>
  ifK x87 (
  calK run 167 [x0, x1, x7, x5] σ16 fun x93 σ17 =>
  extK x93 0 fun x94 =>
  extK x93 1 fun x95 =>
  extK x93 2 fun x96 =>
  ifK x96 (
  cmpK .gtr x7 (.int .i64 0) fun x99 =>
  ifK x99 (
  sliceSK x1 none (some x7) fun x103 =>
  bldK [(.str [])] [(0, 1, x103)] fun x104 =>
  boxK σ17 263 x104 fun x105 σ18 =>
  opt (fillK [.nili] [(0, 1, (.iface 150 x105))]) fun cs => newSK σ18 253 cs 1 1 fun x107 σ19 =>
  appK 126 1 16 σ19 x6 x107 fun x108 σ20 =>
  c119_10 run fu s3 x0 x1 x5 x108 x94 x95 σ20) (
  c119_10 run fu s3 x0 x1 x5 x6 x94 x95 σ17)) (
  c119_8 run fu s3 x0 x1 x5 x6 x7 σ17)) (
  c119_8 run fu s3 x0 x1 x5 x6 x7 σ16)

theorem eq119_9 (run : RunT) (fu : Nat) (s3 : W5) (x0 x1 x5 x6 x7 x8 : AV) (σ : Store) : codeK X0 run (.seq .leaf (.cond (.seq .leaf (.seq .leaf (.cond (.seq (.seq .leaf (.cond .leaf .leaf)) (.sub (fun fr σ => c119_10 run fu s3 (G fr 0) (G fr 1) (G fr 5) (G fr 6) (G fr 13) (G fr 14) σ))) .leaf))) .leaf)) (subC [true, false, true, false, false, true, false, false, true, true] (lblC 0 (subC [true, false] b119))) (frS 0 132 [(0, x0), (1, x1), (5, x5), (6, x6), (7, x7), (8, x8)]) σ (blockK 1 (thenK (fun fr σ => c119_8 run fu s3 (G fr 0) (G fr 1) (G fr 5) (G fr 6) (G fr 7) σ) (thenK (fun fr σ => s3 (G fr 0) (G fr 1) (G fr 5) (G fr 6) (G fr 7) σ) failK))) = c119_9 run fu s3 x0 x1 x5 x6 x7 x8 σ := by kernel_rfl

theorem ok119_9 {run : RunT} (hrun : RunOK X0 run) (fu : Nat) (s3 : W5) : ∀ fr σ, KOK X0 132 (subC [true, false, true, false, false, true, false, false, true, true] (lblC 0 (subC [true, false] b119))) fr σ ((fun fr σ => c119_9 run fu s3 (G fr 0) (G fr 1) (G fr 5) (G fr 6) (G fr 7) (G fr 8) σ) fr σ) (blockK 1 (thenK (fun fr σ => c119_8 run fu s3 (G fr 0) (G fr 1) (G fr 5) (G fr 6) (G fr 7) σ) (thenK (fun fr σ => s3 (G fr 0) (G fr 1) (G fr 5) (G fr 6) (G fr 7) σ) failK))) := fun fr σ =>
  KOK.piece env0 hrun [0, 1, 5, 6, 7, 8] (eq119_9 run fu s3 (G fr 0) (G fr 1) (G fr 5) (G fr 6) (G fr 7) (G fr 8) σ) ⟨trivial, ⟨⟨trivial, ⟨trivial, ⟨⟨⟨trivial, ⟨trivial, trivial⟩⟩, (ok119_10 hrun fu s3)⟩, trivial⟩⟩⟩, trivial⟩⟩

noncomputable def c119_11 (run : RunT) (fu : Nat) (s3 : W5) (x0 x1 x5 x6 x10 x11 : AV) (σ : Store) : Tr R :=
  opt (fillK [.nili] [(0, 1, (.iface 134 x10))]) fun cs => newSK σ 253 cs 1 1 fun x52 σ1 =>
  appK 126 1 16 σ1 x6 x52 fun x53 σ2 =>
  lenSK x1 fun x56 =>
  lenSK x11 fun x58 =>
  subK x56 x58 fun x59 =>
  calK run 166 [x5, x59] σ2 fun x60 σ3 =>
  .fail

theorem eq119_11 (run : RunT) (fu : Nat) (s3 : W5) (x0 x1 x5 x6 x10 x11 : AV) (σ : Store) : codeK X0 run (.seq .leaf (.seq .leaf (.seq .leaf .leaf))) (subC [true, false, true, false, false, true, false, false, true, false, true, false, true, true, false, true] (lblC 0 (subC [true, false] b119))) (frS 0 132 [(0, x0), (1, x1), (5, x5), (6, x6), (10, x10), (11, x11)]) σ (thenK (fun fr σ => c119_9 run fu s3 (G fr 0) (G fr 1) (G fr 5) (G fr 6) (G fr 7) (G fr 8) σ) (blockK 1 (thenK (fun fr σ => c119_8 run fu s3 (G fr 0) (G fr 1) (G fr 5) (G fr 6) (G fr 7) σ) (thenK (fun fr σ => s3 (G fr 0) (G fr 1) (G fr 5) (G fr 6) (G fr 7) σ) failK)))) = c119_11 run fu s3 x0 x1 x5 x6 x10 x11 σ := by kernel_rfl

theorem ok119_11 {run : RunT} (hrun : RunOK X0 run) (fu : Nat) (s3 : W5) : ∀ fr σ, KOK X0 132 (subC [true, false, true, false, false, true, false, false, true, false, true, false, true, true, false, true] (lblC 0 (subC [true, false] b119))) fr σ ((fun fr σ => c119_11 run fu s3 (G fr 0) (G fr 1) (G fr 5) (G fr 6) (G fr 10) (G fr 11) σ) fr σ) (thenK (fun fr σ => c119_9 run fu s3 (G fr 0) (G fr 1) (G fr 5) (G fr 6) (G fr 7) (G fr 8) σ) (blockK 1 (thenK (fun fr σ => c119_8 run fu s3 (G fr 0) (G fr 1) (G fr 5) (G fr 6) (G fr 7) σ) (thenK (fun fr σ => s3 (G fr 0) (G fr 1) (G fr 5) (G fr 6) (G fr 7) σ) failK)))) := fun fr σ =>
  KOK.piece env0 hrun [0, 1, 5, 6, 10, 11] (eq119_11 run fu s3 (G fr 0) (G fr 1) (G fr 5) (G fr 6) (G fr 10) (G fr 11) σ) ⟨trivial, ⟨trivial, ⟨trivial, trivial⟩⟩⟩

noncomputable def c119_3x (run : RunT) (fu : Nat) (s3 : W5) (x0 x1 x5 x6 x7 : AV) (σ : Store) : Tr R :=
  lenSK x1 fun x21 =>
  cmpK .lss x7 x21 fun x22 =>
  ifK x22 (
  idxSK x1 x7 fun x27 =>
  cmpK .eql x27 (.int .u8 64) fun x29 =>
  ifK x29 (
  calK run 165 [x0, x1, x7] σ fun x34 σ1 =>
  extK x34 0 fun x35 =>
  extK x34 1 fun x36 =>
  extK x34 2 fun x37 =>
  extK x34 3 fun x38 =>
  ifK x38 (
  neSK x35 (.str []) fun x41 =>
  ifK x41 (
  bldK [(.str [])] [(0, 1, x35)] fun x44 =>
  boxK σ1 263 x44 fun x45 σ2 =>
  opt (fillK [.nili] [(0, 1, (.iface 150 x45))]) fun cs => newSK σ2 253 cs 1 1 fun x47 σ3 =>
  appK 126 1 16 σ3 x6 x47 fun x48 σ4 =>
  c119_11 run fu s3 x0 x1 x5 x48 x36 x37 σ4) (
  c119_11 run fu s3 x0 x1 x5 x6 x36 x37 σ1)) (
  c119_9 run fu s3 x0 x1 x5 x6 x7 x27 σ1)) (
  c119_9 run fu s3 x0 x1 x5 x6 x7 x27 σ)) (
  .fail)

theorem eq119_3x (run : RunT) (fu : Nat) (s3 : W5) (x0 x1 x5 x6 x7 : AV) (σ : Store) : codeK X0 run (.seq (.seq .leaf (.cond .leaf .leaf)) (.seq (.block (.seq .leaf (.seq (.seq .leaf (.cond (.seq .leaf (.seq .leaf (.cond (.seq (.seq .leaf (.cond .leaf .leaf)) (.sub (fun fr σ => c119_11 run fu s3 (G fr 0) (G fr 1) (G fr 5) (G fr 6) (G fr 10) (G fr 11) σ))) .leaf))) .leaf)) (.sub (fun fr σ => c119_9 run fu s3 (G fr 0) (G fr 1) (G fr 5) (G fr 6) (G fr 7) (G fr 8) σ))))) (.sub (fun fr σ => c119_8 run fu s3 (G fr 0) (G fr 1) (G fr 5) (G fr 6) (G fr 7) σ)))) (subC [true, false, true, false, false] (lblC 0 (subC [true, false] b119))) (frS 0 132 [(0, x0), (1, x1), (5, x5), (6, x6), (7, x7)]) σ (thenK (fun fr σ => s3 (G fr 0) (G fr 1) (G fr 5) (G fr 6) (G fr 7) σ) failK) = c119_3x run fu s3 x0 x1 x5 x6 x7 σ := by kernel_rfl

theorem owed119_3x {run : RunT} (hrun : RunOK X0 run) (fu : Nat) (s3 : W5) : Owes X0 run 132 (.seq (.seq .leaf (.cond .leaf .leaf)) (.seq (.block (.seq .leaf (.seq (.seq .leaf (.cond (.seq .leaf (.seq .leaf (.cond (.seq (.seq .leaf (.cond .leaf .leaf)) (.sub (fun fr σ => c119_11 run fu s3 (G fr 0) (G fr 1) (G fr 5) (G fr 6) (G fr 10) (G fr 11) σ))) .leaf))) .leaf)) (.sub (fun fr σ => c119_9 run fu s3 (G fr 0) (G fr 1) (G fr 5) (G fr 6) (G fr 7) (G fr 8) σ))))) (.sub (fun fr σ => c119_8 run fu s3 (G fr 0) (G fr 1) (G fr 5) (G fr 6) (G fr 7) σ)))) (subC [true, false, true, false, false] (lblC 0 (subC [true, false] b119))) (thenK (fun fr σ => s3 (G fr 0) (G fr 1) (G fr 5) (G fr 6) (G fr 7) σ) failK) :=
  ⟨⟨trivial, ⟨trivial, trivial⟩⟩, ⟨⟨trivial, ⟨⟨trivial, ⟨⟨trivial, ⟨trivial, ⟨⟨⟨trivial, ⟨trivial, trivial⟩⟩, (ok119_11 hrun fu s3)⟩, trivial⟩⟩⟩, trivial⟩⟩, (ok119_9 hrun fu s3)⟩⟩, (ok119_8 hrun fu s3)⟩⟩

noncomputable def c119_3s (run : RunT) (fu : Nat) (s1 : W4) : Nat → List AV → W0 :=
  sweepU (planOf none 1 4 [] [] []) (fun s2 xs σ => c119_3b run fu s1 (fun y0 y1 y5 y6 y7 σ => s2 [y0, y1, y5, y6, y7] σ) (xs.getD 0 .any) (xs.getD 1 .any) (xs.getD 2 .any) (xs.getD 3 .any) (xs.getD 4 .any) σ) (fun s2 xs σ => c119_3x run fu (fun y0 y1 y5 y6 y7 σ => s2 [y0, y1, y5, y6, y7] σ) (xs.getD 0 .any) (xs.getD 1 .any) (xs.getD 2 .any) (xs.getD 3 .any) (xs.getD 4 .any) σ)

theorem ok119_3s {run : RunT} (hrun : RunOK X0 run) (fu : Nat) (s1 : W4) : ∀ fr σ, KOK X0 132 (subC [true, false, true, false] (lblC 0 (subC [true, false] b119))) fr σ ((fun fr σ => c119_3s run fu s1 fu [fr.getD 0 .any, fr.getD 1 .any, fr.getD 5 .any, fr.getD 6 .any, fr.getD 7 .any] σ) fr σ) (blockK 0 (thenK (fun fr σ => c119_2 run fu s1 (G fr 1) (G fr 6) σ) (scopeK (subC [true, false] b119) (lblU 0 (fun fr σ => s1 (G fr 0) (G fr 1) (G fr 5) (G fr 6) σ)) k119))) := by
  have h := KOK.sweep (X := X0) (N := 132) (b := (subC [true, false, true, false, false] (lblC 0 (subC [true, false] b119)))) (k := (blockK 0 (thenK (fun fr σ => c119_2 run fu s1 (G fr 1) (G fr 6) σ) (scopeK (subC [true, false] b119) (lblU 0 (fun fr σ => s1 (G fr 0) (G fr 1) (G fr 5) (G fr 6) σ)) k119)))) (js := [0, 1, 5, 6, 7]) (body := (fun s2 xs σ => c119_3b run fu s1 (fun y0 y1 y5 y6 y7 σ => s2 [y0, y1, y5, y6, y7] σ) (xs.getD 0 .any) (xs.getD 1 .any) (xs.getD 2 .any) (xs.getD 3 .any) (xs.getD 4 .any) σ)) (bodyx := (fun s2 xs σ => c119_3x run fu (fun y0 y1 y5 y6 y7 σ => s2 [y0, y1, y5, y6, y7] σ) (xs.getD 0 .any) (xs.getD 1 .any) (xs.getD 2 .any) (xs.getD 3 .any) (xs.getD 4 .any) σ)) rfl (planOf none 1 4 [] [] []) (fun s2 fr σ => KOK.piece env0 hrun [0, 1, 5, 6, 7] (eq119_3 run fu s1 (fun y0 y1 y5 y6 y7 σ => s2 [y0, y1, y5, y6, y7] σ) (G fr 0) (G fr 1) (G fr 5) (G fr 6) (G fr 7) σ) (owed119_3 hrun fu s1 (fun y0 y1 y5 y6 y7 σ => s2 [y0, y1, y5, y6, y7] σ))) (fun s2 fr σ => KOK.piece env0 hrun [0, 1, 5, 6, 7] (eq119_3x run fu (fun y0 y1 y5 y6 y7 σ => s2 [y0, y1, y5, y6, y7] σ) (G fr 0) (G fr 1) (G fr 5) (G fr 6) (G fr 7) σ) (owed119_3x hrun fu (fun y0 y1 y5 y6 y7 σ => s2 [y0, y1, y5, y6, y7] σ)))
  exact fun fr σ => h fu fr σ

noncomputable def c119_1Lb (run : RunT) (fu : Nat) (s1 : W4) (x0 x1 x5 x6 : AV) (σ : Store) : Tr R :=
  c119_3s run fu s1 fu [x0, x1, x5, x6, (.int .i64 0)] σ

noncomputable def c119_1L (run : RunT) (fu : Nat) : Nat → W4
  | 0 => fun _ _ _ _ _ => .fail
  | m + 1 => c119_1Lb run fu (c119_1L run fu m)

theorem eq119_1L (run : RunT) (fu : Nat) (s1 : W4) (x0 x1 x5 x6 : AV) (σ : Store) : codeK X0 run (.seq .leaf (.seq (.seq .leaf (.block (.sub (fun fr σ => c119_3s run fu s1 fu [fr.getD 0 .any, fr.getD 1 .any, fr.getD 5 .any, fr.getD 6 .any, fr.getD 7 .any] σ)))) (.sub (fun fr σ => c119_2 run fu s1 (G fr 1) (G fr 6) σ)))) (subC [] (lblC 0 (subC [true, false] b119))) (frS 0 132 [(0, x0), (1, x1), (5, x5), (6, x6)]) σ (scopeK (subC [true, false] b119) (lblU 0 (fun fr σ => s1 (G fr 0) (G fr 1) (G fr 5) (G fr 6) σ)) k119) = c119_1Lb run fu s1 x0 x1 x5 x6 σ := by kernel_rfl

theorem owed119_1L {run : RunT} (hrun : RunOK X0 run) (fu : Nat) (s1 : W4) : Owes X0 run 132 (.seq .leaf (.seq (.seq .leaf (.block (.sub (fun fr σ => c119_3s run fu s1 fu [fr.getD 0 .any, fr.getD 1 .any, fr.getD 5 .any, fr.getD 6 .any, fr.getD 7 .any] σ)))) (.sub (fun fr σ => c119_2 run fu s1 (G fr 1) (G fr 6) σ)))) (subC [] (lblC 0 (subC [true, false] b119))) (scopeK (subC [true, false] b119) (lblU 0 (fun fr σ => s1 (G fr 0) (G fr 1) (G fr 5) (G fr 6) σ)) k119) :=
  ⟨trivial, ⟨⟨trivial, (ok119_3s hrun fu s1)⟩, (ok119_2 hrun fu s1)⟩⟩

noncomputable def c119_12 (run : RunT) (fu : Nat) (x1 x6 : AV) (σ : Store) : Tr R :=
  eqOK (nilEq nilS) x6 .nils fun x123 =>
  ifK x123 (
  .ret (.nils, σ)) (
  bldK [(.str [])] [(0, 1, x1)] fun x126 =>
  boxK σ 263 x126 fun x127 σ1 =>
  opt (fillK [.nili] [(0, 1, (.iface 150 x127))]) fun cs => newSK σ1 253 cs 1 1 fun x129 σ2 =>
  appK 126 1 16 σ2 x6 x129 fun x130 σ3 =>
  .ret (x130, σ3))

theorem eq119_12 (run : RunT) (fu : Nat) (x1 x6 : AV) (σ : Store) : codeK X0 run (.seq (.seq .leaf (.cond (.seq .leaf .leaf) .leaf)) (.seq .leaf (.seq .leaf .leaf))) (subC [true, false, true, true, true, true] b119) (frS 0 132 [(1, x1), (6, x6)]) σ (scopeK (subC [true, false] b119) (lblU 0 (fun fr σ => c119_1L run fu fu (G fr 0) (G fr 1) (G fr 5) (G fr 6) σ)) k119) = c119_12 run fu x1 x6 σ := by kernel_rfl

theorem ok119_12 {run : RunT} (hrun : RunOK X0 run) (fu : Nat) : ∀ fr σ, KOK X0 132 (subC [true, false, true, true, true, true] b119) fr σ ((fun fr σ => c119_12 run fu (G fr 1) (G fr 6) σ) fr σ) (scopeK (subC [true, false] b119) (lblU 0 (fun fr σ => c119_1L run fu fu (G fr 0) (G fr 1) (G fr 5) (G fr 6) σ)) k119) := fun fr σ =>
  KOK.piece env0 hrun [1, 6] (eq119_12 run fu (G fr 1) (G fr 6) σ) ⟨⟨trivial, ⟨⟨trivial, trivial⟩, trivial⟩⟩, ⟨trivial, ⟨trivial, trivial⟩⟩⟩

noncomputable def c119_14 (run : RunT) (fu : Nat) (s13 : W5) (x0 x1 x5 x6 x7 : AV) (σ : Store) : Tr R :=
  addK x7 (.int .i64 1) fun x24 =>
  s13 x0 x1 x5 x6 x24 σ

theorem eq119_14 (run : RunT) (fu : Nat) (s13 : W5) (x0 x1 x5 x6 x7 : AV) (σ : Store) : codeK X0 run .leaf (subC [true, false, true, true, true, false, true, false, false, true, true] b119) (frS 0 132 [(0, x0), (1, x1), (5, x5), (6, x6), (7, x7)]) σ (thenK (fun fr σ => s13 (G fr 0) (G fr 1) (G fr 5) (G fr 6) (G fr 7) σ) (blockK 0 (thenK (fun fr σ => c119_12 run fu (G fr 1) (G fr 6) σ) (scopeK (subC [true, false] b119) (lblU 0 (fun fr σ => c119_1L run fu fu (G fr 0) (G fr 1) (G fr 5) (G fr 6) σ)) k119)))) = c119_14 run fu s13 x0 x1 x5 x6 x7 σ := by kernel_rfl

theorem ok119_14 {run : RunT} (hrun : RunOK X0 run) (fu : Nat) (s13 : W5) : ∀ fr σ, KOK X0 132 (subC [true, false, true, true, true, false, true, false, false, true, true] b119) fr σ ((fun fr σ => c119_14 run fu s13 (G fr 0) (G fr 1) (G fr 5) (G fr 6) (G fr 7) σ) fr σ) (thenK (fun fr σ => s13 (G fr 0) (G fr 1) (G fr 5) (G fr 6) (G fr 7) σ) (blockK 0 (thenK (fun fr σ => c119_12 run fu (G fr 1) (G fr 6) σ) (scopeK (subC [true, false] b119) (lblU 0 (fun fr σ => c119_1L run fu fu (G fr 0) (G fr 1) (G fr 5) (G fr 6) σ)) k119)))) := fun fr σ =>
  KOK.piece env0 hrun [0, 1, 5, 6, 7] (eq119_14 run fu s13 (G fr 0) (G fr 1) (G fr 5) (G fr 6) (G fr 7) σ) trivial

noncomputable def c119_16 (run : RunT) (fu : Nat) (s13 : W5) (x0 x1 x5 x6 x13 x14 : AV) (σ : Store) : Tr R :=
  opt (fillK [.nili] [(0, 1, (.iface 134 x13))]) fun cs => newSK σ 253 cs 1 1 fun x112 σ1 =>
  appK 126 1 16 σ1 x6 x112 fun x113 σ2 =>
  lenSK x1 fun x116 =>
  lenSK x14 fun x118 =>
  subK x116 x118 fun x119 =>
  calK run 166 [x5, x119] σ2 fun x120 σ3 =>
  c119_1L run fu fu x0 x14 x5 x113 σ3

theorem eq119_16 (run : RunT) (fu : Nat) (s13 : W5) (x0 x1 x5 x6 x13 x14 : AV) (σ : Store) : codeK X0 run (.seq .leaf (.seq .leaf (.seq .leaf .leaf))) (subC [true, false, true, true, true, false, true, false, false, true, false, false, true, true, true, false, true, true, false, true] b119) (frS 0 132 [(0, x0), (1, x1), (5, x5), (6, x6), (13, x13), (14, x14)]) σ (blockK 1 (thenK (fun fr σ => c119_14 run fu s13 (G fr 0) (G fr 1) (G fr 5) (G fr 6) (G fr 7) σ) (thenK (fun fr σ => s13 (G fr 0) (G fr 1) (G fr 5) (G fr 6) (G fr 7) σ) (blockK 0 (thenK (fun fr σ => c119_12 run fu (G fr 1) (G fr 6) σ) (scopeK (subC [true, false] b119) (lblU 0 (fun fr σ => c119_1L run fu fu (G fr 0) (G fr 1) (G fr 5) (G fr 6) σ)) k119)))))) = c119_16 run fu s13 x0 x1 x5 x6 x13 x14 σ := by kernel_rfl

theorem ok119_16 {run : RunT} (hrun : RunOK X0 run) (fu : Nat) (s13 : W5) : ∀ fr σ, KOK X0 132 (subC [true, false, true, true, true, false, true, false, false, true, false, false, true, true, true, false, true, true, false, true] b119) fr σ ((fun fr σ => c119_16 run fu s13 (G fr 0) (G fr 1) (G fr 5) (G fr 6) (G fr 13) (G fr 14) σ) fr σ) (blockK 1 (thenK (fun fr σ => c119_14 run fu s13 (G fr 0) (G fr 1) (G fr 5) (G fr 6) (G fr 7) σ) (thenK (fun fr σ => s13 (G fr 0) (G fr 1) (G fr 5) (G fr 6) (G fr 7) σ) (blockK 0 (thenK (fun fr σ => c119_12 run fu (G fr 1) (G fr 6) σ) (scopeK (subC [true, false] b119) (lblU 0 (fun fr σ => c119_1L run fu fu (G fr 0) (G fr 1) (G fr 5) (G fr 6) σ)) k119)))))) := fun fr σ =>
  KOK.piece env0 hrun [0, 1, 5, 6, 13, 14] (eq119_16 run fu s13 (G fr 0) (G fr 1) (G fr 5) (G fr 6) (G fr 13) (G fr 14) σ) ⟨trivial, ⟨trivial, ⟨trivial, trivial⟩⟩⟩

noncomputable def c119_15 (run : RunT) (fu : Nat) (s13 : W5) (x0 x1 x5 x6 x7 x8 : AV) (σ : Store) : Tr R :=
  cmpK .eql x8 (.int .u8 104) fun x63 =>
  grdK x63 false σ (fun f => f x8 σ) fun x65 σ1 =>
  grdK x63 false σ1 (fun f => cmpK .eql x65 (.int .u8 109) fun v => f v σ1) fun x66 σ2 =>
  pickK x63 (.bool true) x66 fun x67 =>
  grdK x67 false σ2 (fun f => f x8 σ2) fun x69 σ3 =>
  grdK x67 false σ3 (fun f => cmpK .eql x69 (.int .u8 120) fun v => f v σ3) fun x70 σ4 =>
  pickK x67 (.bool true) x70 fun x71 =>
  grdK x71 false σ4 (fun f => f x8 σ4) fun x73 σ5 =>
  grdK x71 false σ5 (fun f => cmpK .eql x73 (.int .u8 119) fun v => f v σ5) fun x74 σ6 =>
  pickK x71 (.bool true) x74 fun x75 =>
  grdK x75 true σ6 (fun f => f x7 σ6) fun x77 σ7 =>
  grdK x75 true σ7 (fun f => cmpK .eql x77 (.int .i64 0) fun v => f v σ7) fun x78 σ8 =>
  grdK x75 true σ8 (fun f => f x78 σ8) fun x79 σ9 =>
  grdK x79 false σ9 (fun f => f x1 σ9) fun x80 σ10 =>
  grdK x79 false σ10 (fun f => f x7 σ10) fun x81 σ11 =>
  grdK x79 false σ11 (fun f => subK x81 (.int .i64 1) fun v => f v σ11) fun x82 σ12 =>
  grdK x79 false σ12 (fun f => idxSK x80 x82 fun v => f v σ12) fun x83 σ13 =>
  grdK x79 false σ13 (fun f => calK run 138 [x83] σ13 f) fun x84 σ14 =>
  grdK x79 false σ14 (fun f => notK x84 fun v => f v σ14) fun x85 σ15 =>
  grdK x75 true σ15 (fun f => pickK x79 (.bool true) x85 fun v => f v σ15) fun x86 σ16 =>
  pickK x75 x86 (.bool false) fun x87 =>
  ifK x87 (
  calK run 167 [x0, x1, x7, x5] σ16 fun x93 σ17 =>
  extK x93 0 fun x94 =>
  extK x93 1 fun x95 =>
  extK x93 2 fun x96 =>
  ifK x96 (
  cmpK .gtr x7 (.int .i64 0) fun x99 =>
  ifK x99 (
  sliceSK x1 none (some x7) fun x103 =>
  bldK [(.str [])] [(0, 1, x103)] fun x104 =>
  boxK σ17 263 x104 fun x105 σ18 =>
  opt (fillK [.nili] [(0, 1, (.iface 150 x105))]) fun cs => newSK σ18 253 cs 1 1 fun x107 σ19 =>
  appK 126 1 16 σ19 x6 x107 fun x108 σ20 =>
  c119_16 run fu s13 x0 x1 x5 x108 x94 x95 σ20) (
  c119_16 run fu s13 x0 x1 x5 x6 x94 x95 σ17)) (
  c119_14 run fu s13 x0 x1 x5 x6 x7 σ17)) (
  c119_14 run fu s13 x0 x1 x5 x6 x7 σ16)

theorem eq119_15 (run : RunT) (fu : Nat) (s13 : W5) (x0 x1 x5 x6 x7 x8 : AV) (σ : Store) : codeK X0 run (.seq .leaf (.cond (.seq .leaf (.seq .leaf (.cond (.seq (.seq .leaf (.cond .leaf .leaf)) (.sub (fun fr σ => c119_16 run fu s13 (G fr 0) (G fr 1) (G fr 5) (G fr 6) (G fr 13) (G fr 14) σ))) .leaf))) .leaf)) (subC [true, false, true, true, true, false, true, false, false, true, false, false, true, true] b119) (frS 0 132 [(0, x0), (1, x1), (5, x5), (6, x6), (7, x7), (8, x8)]) σ (blockK 1 (thenK (fun fr σ => c119_14 run fu s13 (G fr 0) (G fr 1) (G fr 5) (G fr 6) (G fr 7) σ) (thenK (fun fr σ => s13 (G fr 0) (G fr 1) (G fr 5) (G fr 6) (G fr 7) σ) (blockK 0 (thenK (fun fr σ => c119_12 run fu (G fr 1) (G fr 6) σ) (scopeK (subC [true, false] b119) (lblU 0 (fun fr σ => c119_1L run fu fu (G fr 0) (G fr 1) (G fr 5) (G fr 6) σ)) k119)))))) = c119_15 run fu s13 x0 x1 x5 x6 x7 x8 σ := by kernel_rfl

theorem ok119_15 {run : RunT} (hrun : RunOK X0 run) (fu : Nat) (s13 : W5) : ∀ fr σ, KOK X0 132 (subC [true, false, true, true, true, false, true, false, false, true, false, false, true, true] b119) fr σ ((fun fr σ => c119_15 run fu s13 (G fr 0) (G fr 1) (G fr 5) (G fr 6) (G fr 7) (G fr 8) σ) fr σ) (blockK 1 (thenK (fun fr σ => c119_14 run fu s13 (G fr 0) (G fr 1) (G fr 5) (G fr 6) (G fr 7) σ) (thenK (fun fr σ => s13 (G fr 0) (G fr 1) (G fr 5) (G fr 6) (G fr 7) σ) (blockK 0 (thenK (fun fr σ => c119_12 run fu (G fr 1) (G fr 6) σ) (scopeK (subC [true, false] b119) (lblU 0 (fun fr σ => c119_1L run fu fu (G fr 0) (G fr 1) (G fr 5) (G fr 6) σ)) k119)))))) := fun fr σ =>
  KOK.piece env0 hrun [0, 1, 5, 6, 7, 8] (eq119_15 run fu s13 (G fr 0) (G fr 1) (G fr 5) (G fr 6) (G fr 7) (G fr 8) σ) ⟨trivial, ⟨⟨trivial, ⟨trivial, ⟨⟨⟨trivial, ⟨trivial, trivial⟩⟩, (ok119_16 hrun fu s13)⟩, trivial⟩⟩⟩, trivial⟩⟩

noncomputable def c119_17 (run : RunT) (fu : Nat) (s13 : W5) (x0 x1 x5 x6 x10 x11 : AV) (σ : Store) : Tr R :=
  opt (fillK [.nili] [(0, 1, (.iface 134 x10))]) fun cs => newSK σ 253 cs 1 1 fun x52 σ1 =>
  appK 126 1 16 σ1 x6 x52 fun x53 σ2 =>
  lenSK x1 fun x56 =>
  lenSK x11 fun x58 =>
  subK x56 x58 fun x59 =>
  calK run 166 [x5, x59] σ2 fun x60 σ3 =>
  c119_1L run fu fu x0 x11 x5 x53 σ3

theorem eq119_17 (run : RunT) (fu : Nat) (s13 : W5) (x0 x1 x5 x6 x10 x11 : AV) (σ : Store) : codeK X0 run (.seq .leaf (.seq .leaf (.seq .leaf .leaf))) (subC [true, false, true, true, true, false, true, false, false, true, false, false, true, false, true, false, true, true, false, true] b119) (frS 0 132 [(0, x0), (1, x1), (5, x5), (6, x6), (10, x10), (11, x11)]) σ (thenK (fun fr σ => c119_15 run fu s13 (G fr 0) (G fr 1) (G fr 5) (G fr 6) (G fr 7) (G fr 8) σ) (blockK 1 (thenK (fun fr σ => c119_14 run fu s13 (G fr 0) (G fr 1) (G fr 5) (G fr 6) (G fr 7) σ) (thenK (fun fr σ => s13 (G fr 0) (G fr 1) (G fr 5) (G fr 6) (G fr 7) σ) (blockK 0 (thenK (fun fr σ => c119_12 run fu (G fr 1) (G fr 6) σ) (scopeK (subC [true, false] b119) (lblU 0 (fun fr σ => c119_1L run fu fu (G fr 0) (G fr 1) (G fr 5) (G fr 6) σ)) k119))))))) = c119_17 run fu s13 x0 x1 x5 x6 x10 x11 σ := by kernel_rfl

theorem ok119_17 {run : RunT} (hrun : RunOK X0 run) (fu : Nat) (s13 : W5) : ∀ fr σ, KOK X0 132 (subC [true, false, true, true, true, false, true, false, false, true, false, false, true, false, true, false, true, true, false, true] b119) fr σ ((fun fr σ => c119_17 run fu s13 (G fr 0) (G fr 1) (G fr 5) (G fr 6) (G fr 10) (G fr 11) σ) fr σ) (thenK (fun fr σ => c119_15 run fu s13 (G fr 0) (G fr 1) (G fr 5) (G fr 6) (G fr 7) (G fr 8) σ) (blockK 1 (thenK (fun fr σ => c119_14 run fu s13 (G fr 0) (G fr 1) (G fr 5) (G fr 6) (G fr 7) σ) (thenK (fun fr σ => s13 (G fr 0) (G fr 1) (G fr 5) (G fr 6) (G fr 7) σ) (blockK 0 (thenK (fun fr σ => c119_12 run fu (G fr 1) (G fr 6) σ) (scopeK (subC [true, false] b119) (lblU 0 (fun fr σ => c119_1L run fu fu (G fr 0) (G fr 1) (G fr 5) (G fr 6) σ)) k119))))))) := fun fr σ =>
  KOK.piece env0 hrun [0, 1, 5, 6, 10, 11] (eq119_17 run fu s13 (G fr 0) (G fr 1) (G fr 5) (G fr 6) (G fr 10) (G fr 11) σ) ⟨trivial, ⟨trivial, ⟨trivial, trivial⟩⟩⟩

noncomputable def c119_13b (run : RunT) (fu : Nat) (s13 : W5) (x0 x1 x5 x6 x7 : AV) (σ : Store) : Tr R :=
  lenSK x1 fun x21 =>
  cmpK .lss x7 x21 fun x22 =>
  ifK x22 (
  idxSK x1 x7 fun x27 =>
  cmpK .eql x27 (.int .u8 64) fun x29 =>
  ifK x29 (
  calK run 165 [x0, x1, x7] σ fun x34 σ1 =>
  extK x34 0 fun x35 =>
  extK x34 1 fun x36 =>
  extK x34 2 fun x37 =>
  extK x34 3 fun x38 =>
  ifK x38 (
  neSK x35 (.str []) fun x41 =>
  ifK x41 (
  bldK [(.str [])] [(0, 1, x35)] fun x44 =>
  boxK σ1 263 x44 fun x45 σ2 =>
  opt (fillK [.nili] [(0, 1, (.iface 150 x45))]) fun cs => newSK σ2 253 cs 1 1 fun x47 σ3 =>
  appK 126 1 16 σ3 x6 x47 fun x48 σ4 =>
  c119_17 run fu s13 x0 x1 x5 x48 x36 x37 σ4) (
  c119_17 run fu s13 x0 x1 x5 x6 x36 x37 σ1)) (
  c119_15 run fu s13 x0 x1 x5 x6 x7 x27 σ1)) (
  c119_15 run fu s13 x0 x1 x5 x6 x7 x27 σ)) (
  c119_12 run fu x1 x6 σ)

noncomputable def c119_13 (run : RunT) (fu : Nat) : Nat → W5
  | 0 => fun _ _ _ _ _ _ => .fail
  | m + 1 => c119_13b run fu (c119_13 run fu m)

theorem eq119_13 (run : RunT) (fu : Nat) (s13 : W5) (x0 x1 x5 x6 x7 : AV) (σ : Store) : codeK X0 run (.seq (.seq .leaf (.cond .leaf .leaf)) (.seq (.block (.seq .leaf (.seq (.seq .leaf (.cond (.seq .leaf (.seq .leaf (.cond (.seq (.seq .leaf (.cond .leaf .leaf)) (.sub (fun fr σ => c119_17 run fu s13 (G fr 0) (G fr 1) (G fr 5) (G fr 6) (G fr 10) (G fr 11) σ))) .leaf))) .leaf)) (.sub (fun fr σ => c119_15 run fu s13 (G fr 0) (G fr 1) (G fr 5) (G fr 6) (G fr 7) (G fr 8) σ))))) (.sub (fun fr σ => c119_14 run fu s13 (G fr 0) (G fr 1) (G fr 5) (G fr 6) (G fr 7) σ)))) (subC [true, false, true, true, true, false, true, false, false] b119) (frS 0 132 [(0, x0), (1, x1), (5, x5), (6, x6), (7, x7)]) σ (thenK (fun fr σ => s13 (G fr 0) (G fr 1) (G fr 5) (G fr 6) (G fr 7) σ) (blockK 0 (thenK (fun fr σ => c119_12 run fu (G fr 1) (G fr 6) σ) (scopeK (subC [true, false] b119) (lblU 0 (fun fr σ => c119_1L run fu fu (G fr 0) (G fr 1) (G fr 5) (G fr 6) σ)) k119)))) = c119_13b run fu s13 x0 x1 x5 x6 x7 σ := by kernel_rfl

theorem owed119_13 {run : RunT} (hrun : RunOK X0 run) (fu : Nat) (s13 : W5) : Owes X0 run 132 (.seq (.seq .leaf (.cond .leaf .leaf)) (.seq (.block (.seq .leaf (.seq (.seq .leaf (.cond (.seq .leaf (.seq .leaf (.cond (.seq (.seq .leaf (.cond .leaf .leaf)) (.sub (fun fr σ => c119_17 run fu s13 (G fr 0) (G fr 1) (G fr 5) (G fr 6) (G fr 10) (G fr 11) σ))) .leaf))) .leaf)) (.sub (fun fr σ => c119_15 run fu s13 (G fr 0) (G fr 1) (G fr 5) (G fr 6) (G fr 7) (G fr 8) σ))))) (.sub (fun fr σ => c119_14 run fu s13 (G fr 0) (G fr 1) (G fr 5) (G fr 6) (G fr 7) σ)))) (subC [true, false, true, true, true, false, true, false, false] b119) (thenK (fun fr σ => s13 (G fr 0) (G fr 1) (G fr 5) (G fr 6) (G fr 7) σ) (blockK 0 (thenK (fun fr σ => c119_12 run fu (G fr 1) (G fr 6) σ) (scopeK (subC [true, false] b119) (lblU 0 (fun fr σ => c119_1L run fu fu (G fr 0) (G fr 1) (G fr 5) (G fr 6) σ)) k119)))) :=
  ⟨⟨trivial, ⟨trivial, trivial⟩⟩, ⟨⟨trivial, ⟨⟨trivial, ⟨⟨trivial, ⟨trivial, ⟨⟨⟨trivial, ⟨trivial, trivial⟩⟩, (ok119_17 hrun fu s13)⟩, trivial⟩⟩⟩, trivial⟩⟩, (ok119_15 hrun fu s13)⟩⟩, (ok119_14 hrun fu s13)⟩⟩

theorem ok119_13 {run : RunT} (hrun : RunOK X0 run) (fu : Nat) : ∀ fr σ, KOK X0 132 (subC [true, false, true, true, true, false, true, false] b119) fr σ ((fun fr σ => c119_13 run fu fu (G fr 0) (G fr 1) (G fr 5) (G fr 6) (G fr 7) σ) fr σ) (blockK 0 (thenK (fun fr σ => c119_12 run fu (G fr 1) (G fr 6) σ) (scopeK (subC [true, false] b119) (lblU 0 (fun fr σ => c119_1L run fu fu (G fr 0) (G fr 1) (G fr 5) (G fr 6) σ)) k119))) := by
  have h := KOK.loop (X := X0) (N := 132) (b := (subC [true, false, true, true, true, false, true, false, false] b119)) (k := (blockK 0 (thenK (fun fr σ => c119_12 run fu (G fr 1) (G fr 6) σ) (scopeK (subC [true, false] b119) (lblU 0 (fun fr σ => c119_1L run fu fu (G fr 0) (G fr 1) (G fr 5) (G fr 6) σ)) k119)))) (u := fun m fr σ => c119_13 run fu m (G fr 0) (G fr 1) (G fr 5) (G fr 6) (G fr 7) σ) (fun _ _ => rfl) (fun m fr σ => KOK.piece env0 hrun [0, 1, 5, 6, 7] (eq119_13 run fu (c119_13 run fu m) (G fr 0) (G fr 1) (G fr 5) (G fr 6) (G fr 7) σ) (owed119_13 hrun fu (c119_13 run fu m)))
  exact fun fr σ => h fu fr σ

noncomputable def c119_18 (run : RunT) (fu : Nat) (s13 : W5) (x0 x1 x5 x6 x7 : AV) (σ : Store) : Tr R :=
  addK x7 (.int .i64 1) fun x24 =>
  s13 x0 x1 x5 x6 x24 σ

theorem eq119_18 (run : RunT) (fu : Nat) (s13 : W5) (x0 x1 x5 x6 x7 : AV) (σ : Store) : codeK X0 run .leaf (subC [true, false, true, true, true, false, true, false, false, true, true] b119) (frS 0 132 [(0, x0), (1, x1), (5, x5), (6, x6), (7, x7)]) σ (thenK (fun fr σ => s13 (G fr 0) (G fr 1) (G fr 5) (G fr 6) (G fr 7) σ) failK) = c119_18 run fu s13 x0 x1 x5 x6 x7 σ := by kernel_rfl

theorem ok119_18 {run : RunT} (hrun : RunOK X0 run) (fu : Nat) (s13 : W5) : ∀ fr σ, KOK X0 132 (subC [true, false, true, true, true, false, true, false, false, true, true] b119) fr σ ((fun fr σ => c119_18 run fu s13 (G fr 0) (G fr 1) (G fr 5) (G fr 6) (G fr 7) σ) fr σ) (thenK (fun fr σ => s13 (G fr 0) (G fr 1) (G fr 5) (G fr 6) (G fr 7) σ) failK) := fun fr σ =>
  KOK.piece env0 hrun [0, 1, 5, 6, 7] (eq119_18 run fu s13 (G fr 0) (G fr 1) (G fr 5) (G fr 6) (G fr 7) σ) trivial

noncomputable def c119_20 (run : RunT) (fu : Nat) (s13 : W5) (x0 x1 x5 x6 x13 x14 : AV) (σ : Store) : Tr R :=
  opt (fillK [.nili] [(0, 1, (.iface 134 x13))]) fun cs => newSK σ 253 cs 1 1 fun x112 σ1 =>
  appK 126 1 16 σ1 x6 x112 fun x113 σ2 =>
  lenSK x1 fun x116 =>
  lenSK x14 fun x118 =>
  subK x116 x118 fun x119 =>
  calK run 166 [x5, x119] σ2 fun x120 σ3 =>
  .fail

theorem eq119_20 (run : RunT) (fu : Nat) (s13 : W5) (x0 x1 x5 x6 x13 x14 : AV) (σ : Store) : codeK X0 run (.seq .leaf (.seq .leaf (.seq .leaf .leaf))) (subC [true, false, true, true, true, false, true, false, false, true, false, false, true, true, true, false, true, true, false, true] b119) (frS 0 132 [(0, x0), (1, x1), (5, x5), (6, x6), (13, x13), (14, x14)]) σ (blockK 1 (thenK (fun fr σ => c119_18 run fu s13 (G fr 0) (G fr 1) (G fr 5) (G fr 6) (G fr 7) σ) (thenK (fun fr σ => s13 (G fr 0) (G fr 1) (G fr 5) (G fr 6) (G fr 7) σ) failK))) = c119_20 run fu s13 x0 x1 x5 x6 x13 x14 σ := by kernel_rfl

theorem ok119_20 {run : RunT} (hrun : RunOK X0 run) (fu : Nat) (s13 : W5) : ∀ fr σ, KOK X0 132 (subC [true, false, true, true, true, false, true, false, false, true, false, false, true, true, true, false, true, true, false, true] b119) fr σ ((fun fr σ => c119_20 run fu s13 (G fr 0) (G fr 1) (G fr 5) (G fr 6) (G fr 13) (G fr 14) σ) fr σ) (blockK 1 (thenK (fun fr σ => c119_18 run fu s13 (G fr 0) (G fr 1) (G fr 5) (G fr 6) (G fr 7) σ) (thenK (fun fr σ => s13 (G fr 0) (G fr 1) (G fr 5) (G fr 6) (G fr 7) σ) failK))) := fun fr σ =>
  KOK.piece env0 hrun [0, 1, 5, 6, 13, 14] (eq119_20 run fu s13 (G fr 0) (G fr 1) (G fr 5) (G fr 6) (G fr 13) (G fr 14) σ) ⟨trivial, ⟨trivial, ⟨trivial, trivial⟩⟩⟩

noncomputable def c119_19 (run : RunT) (fu : Nat) (s13 : W5) (x0 x1 x5 x6 x7 x8 : AV) (σ : Store) : Tr R :=
  cmpK .eql x8 (.int .u8 104) fun x63 =>
  grdK x63 false σ (fun f => f x8 σ) fun x65 σ1 =>
  grdK x63 false σ1 (fun f => cmpK .eql x65 (.int .u8 109) fun v => f v σ1) fun x66 σ2 =>
  pickK x63 (.bool true) x66 fun x67 =>
  grdK x67 false σ2 (fun f => f x8 σ2) fun x69 σ3 =>
  grdK x67 false σ3 (fun f => cmpK .eql x69 (.int .u8 120) fun v => f v σ3) fun x70 σ4 =>
  pickK x67 (.bool true) x70 fun x71 =>
  grdK x71 false σ4 (fun f => f x8 σ4) fun x73 σ5 =>
  grdK x71 false σ5 (fun f => cmpK .eql x73 (.int .u8 119) fun v => f v σ5) fun x74 σ6 =>
  pickK x71 (.bool true) x74 fun x75 =>
  grdK x75 true σ6 (fun f => f x7 σ6) fun x77 σ7 =>
  grdK x75 true σ7 (fun f => cmpK .eql x77 (.int .i64 0) fun v => f v σ7) fun x78 σ8 =>
  grdK x75 true σ8 (fun f => f x78 σ8) fun x79 σ9 =>
  grdK x79 false σ9 (fun f => f x1 σ9) fun x80 σ10 =>
  grdK x79 false σ10 (fun f => f x7 σ10) fun x81 σ11 =>
  grdK x79 false σ11 (fun f => subK x81 (.int .i64 1) fun v => f v σ11) fun x82 σ12 =>
  grdK x79 false σ12 (fun f => idxSK x80 x82 fun v => f v σ12) fun x83 σ13 =>
  grdK x79 false σ13 (fun f => calK run 138 [x83] σ13 f) fun x84 σ14 =>
  grdK x79 false σ14 (fun f => notK x84 fun v => f v σ14) fun x85 σ15 =>
  grdK x75 true σ15 (fun f => pickK x79 (.bool true) x85 fun v => f v σ15) fun x86 σ16 =>
  pickK x75 x86 (.bool false) fun x87 =>
  ifK x87 (
  calK run 167 [x0, x1, x7, x5] σ16 fun x93 σ17 =>
  extK x93 0 fun x94 =>
  extK x93 1 fun x95 =>
  extK x93 2 fun x96 =>
  ifK x96 (
  cmpK .gtr x7 (.int .i64 0) fun x99 =>
  ifK x99 (
  sliceSK x1 none (some x7) fun x103 =>
  bldK [(.str [])] [(0, 1, x103)] fun x104 =>
  boxK σ17 263 x104 fun x105 σ18 =>
  opt (fillK [.nili] [(0, 1, (.iface 150 x105))]) fun cs => newSK σ18 253 cs 1 1 fun x107 σ19 =>
  appK 126 1 16 σ19 x6 x107 fun x108 σ20 =>
  c119_20 run fu s13 x0 x1 x5 x108 x94 x95 σ20) (
  c119_20 run fu s13 x0 x1 x5 x6 x94 x95 σ17)) (
  c119_18 run fu s13 x0 x1 x5 x6 x7 σ17)) (
  c119_18 run fu s13 x0 x1 x5 x6 x7 σ16)

theorem eq119_19 (run : RunT) (fu : Nat) (s13 : W5) (x0 x1 x5 x6 x7 x8 : AV) (σ : Store) : codeK X0 run (.seq .leaf (.cond (.seq .leaf (.seq .leaf (.cond (.seq (.seq .leaf (.cond .leaf .leaf)) (.sub (fun fr σ => c119_20 run fu s13 (G fr 0) (G fr 1) (G fr 5) (G fr 6) (G fr 13) (G fr 14) σ))) .leaf))) .leaf)) (subC [true, false, true, true, true, false, true, false, false, true, false, false, true, true] b119) (frS 0 132 [(0, x0), (1, x1), (5, x5), (6, x6), (7, x7), (8, x8)]) σ (blockK 1 (thenK (fun fr σ => c119_18 run fu s13 (G fr 0) (G fr 1) (G fr 5) (G fr 6) (G fr 7) σ) (thenK (fun fr σ => s13 (G fr 0) (G fr 1) (G fr 5) (G fr 6) (G fr 7) σ) failK))) = c119_19 run fu s13 x0 x1 x5 x6 x7 x8 σ := by kernel_rfl

theorem ok119_19 {run : RunT} (hrun : RunOK X0 run) (fu : Nat) (s13 : W5) : ∀ fr σ, KOK X0 132 (subC [true, false, true, true, true, false, true, false, false, true, false, false, true, true] b119) fr σ ((fun fr σ => c119_19 run fu s13 (G fr 0) (G fr 1) (G fr 5) (G fr 6) (G fr 7) (G fr 8) σ) fr σ) (blockK 1 (thenK (fun fr σ => c119_18 run fu s13 (G fr 0) (G fr 1) (G fr 5) (G fr 6) (G fr 7) σ) (thenK (fun fr σ => s13 (G fr 0) (G fr 1) (G fr 5) (G fr 6) (G fr 7) σ) failK))) := fun fr σ =>
  KOK.piece env0 hrun [0, 1, 5, 6, 7, 8] (eq119_19 run fu s13 (G fr 0) (G fr 1) (G fr 5) (G fr 6) (G fr 7) (G fr 8) σ) ⟨trivial, ⟨⟨trivial, ⟨trivial, ⟨⟨⟨trivial, ⟨trivial, trivial⟩⟩, (ok119_20 hrun fu s13)⟩, trivial⟩⟩⟩, trivial⟩⟩

noncomputable def c119_21 (run : RunT) (fu : Nat) (s13 : W5) (x0 x1 x5 x6 x10 x11 : AV) (σ : Store) : Tr R :=
  opt (fillK [.nili] [(0, 1, (.iface 134 x10))]) fun cs => newSK σ 253 cs 1 1 fun x52 σ1 =>
  appK 126 1 16 σ1 x6 x52 fun x53 σ2 =>
  lenSK x1 fun x56 =>
  lenSK x11 fun x58 =>
  subK x56 x58 fun x59 =>
  calK run 166 [x5, x59] σ2 fun x60 σ3 =>
  .fail

theorem eq119_21 (run : RunT) (fu : Nat) (s13 : W5) (x0 x1 x5 x6 x10 x11 : AV) (σ : Store) : codeK X0 run (.seq .leaf (.seq .leaf (.seq .leaf .leaf))) (subC [true, false, true, true, true, false, true, false, false, true, false, false, true, false, true, false, true, true, false, true] b119) (frS 0 132 [(0, x0), (1, x1), (5, x5), (6, x6), (10, x10), (11, x11)]) σ (thenK (fun fr σ => c119_19 run fu s13 (G fr 0) (G fr 1) (G fr 5) (G fr 6) (G fr 7) (G fr 8) σ) (blockK 1 (thenK (fun fr σ => c119_18 run fu s13 (G fr 0) (G fr 1) (G fr 5) (G fr 6) (G fr 7) σ) (thenK (fun fr σ => s13 (G fr 0) (G fr 1) (G fr 5) (G fr 6) (G fr 7) σ) failK)))) = c119_21 run fu s13 x0 x1 x5 x6 x10 x11 σ := by kernel_rfl

theorem ok119_21 {run : RunT} (hrun : RunOK X0 run) (fu : Nat) (s13 : W5) : ∀ fr σ, KOK X0 132 (subC [true, false, true, true, true, false, true, false, false, true, false, false, true, false, true, false, true, true, false, true] b119) fr σ ((fun fr σ => c119_21 run fu s13 (G fr 0) (G fr 1) (G fr 5) (G fr 6) (G fr 10) (G fr 11) σ) fr σ) (thenK (fun fr σ => c119_19 run fu s13 (G fr 0) (G fr 1) (G fr 5) (G fr 6) (G fr 7) (G fr 8) σ) (blockK 1 (thenK (fun fr σ => c119_18 run fu s13 (G fr 0) (G fr 1) (G fr 5) (G fr 6) (G fr 7) σ) (thenK (fun fr σ => s13 (G fr 0) (G fr 1) (G fr 5) (G fr 6) (G fr 7) σ) failK)))) := fun fr σ =>
  KOK.piece env0 hrun [0, 1, 5, 6, 10, 11] (eq119_21 run fu s13 (G fr 0) (G fr 1) (G fr 5) (G fr 6) (G fr 10) (G fr 11) σ) ⟨trivial, ⟨trivial, ⟨trivial, trivial⟩⟩⟩

noncomputable def c119_13x (run : RunT) (fu : Nat) (s13 : W5) (x0 x1 x5 x6 x7 : AV) (σ : Store) : Tr R :=
  lenSK x1 fun x21 =>
  cmpK .lss x7 x21 fun x22 =>
  ifK x22 (
  idxSK x1 x7 fun x27 =>
  cmpK .eql x27 (.int .u8 64) fun x29 =>
  ifK x29 (
  calK run 165 [x0, x1, x7] σ fun x34 σ1 =>
  extK x34 0 fun x35 =>
  extK x34 1 fun x36 =>
  extK x34 2 fun x37 =>
  extK x34 3 fun x38 =>
  ifK x38 (
  neSK x35 (.str []) fun x41 =>
  ifK x41 (
  bldK [(.str [])] [(0, 1, x35)] fun x44 =>
  boxK σ1 263 x44 fun x45 σ2 =>
  opt (fillK [.nili] [(0, 1, (.iface 150 x45))]) fun cs => newSK σ2 253 cs 1 1 fun x47 σ3 =>
  appK 126 1 16 σ3 x6 x47 fun x48 σ4 =>
  c119_21 run fu s13 x0 x1 x5 x48 x36 x37 σ4) (
  c119_21 run fu s13 x0 x1 x5 x6 x36 x37 σ1)) (
  c119_19 run fu s13 x0 x1 x5 x6 x7 x27 σ1)) (
  c119_19 run fu s13 x0 x1 x5 x6 x7 x27 σ)) (
  .fail)

theorem eq119_13x (run : RunT) (fu : Nat) (s13 : W5) (x0 x1 x5 x6 x7 : AV) (σ : Store) : codeK X0 run (.seq (.seq .leaf (.cond .leaf .leaf)) (.seq (.block (.seq .leaf (.seq (.seq .leaf (.cond (.seq .leaf (.seq .leaf (.cond (.seq (.seq .leaf (.cond .leaf .leaf)) (.sub (fun fr σ => c119_21 run fu s13 (G fr 0) (G fr 1) (G fr 5) (G fr 6) (G fr 10) (G fr 11) σ))) .leaf))) .leaf)) (.sub (fun fr σ => c119_19 run fu s13 (G fr 0) (G fr 1) (G fr 5) (G fr 6) (G fr 7) (G fr 8) σ))))) (.sub (fun fr σ => c119_18 run fu s13 (G fr 0) (G fr 1) (G fr 5) (G fr 6) (G fr 7) σ)))) (subC [true, false, true, true, true, false, true, false, false] b119) (frS 0 132 [(0, x0), (1, x1), (5, x5), (6, x6), (7, x7)]) σ (thenK (fun fr σ => s13 (G fr 0) (G fr 1) (G fr 5) (G fr 6) (G fr 7) σ) failK) = c119_13x run fu s13 x0 x1 x5 x6 x7 σ := by kernel_rfl

theorem owed119_13x {run : RunT} (hrun : RunOK X0 run) (fu : Nat) (s13 : W5) : Owes X0 run 132 (.seq (.seq .leaf (.cond .leaf .leaf)) (.seq (.block (.seq .leaf (.seq (.seq .leaf (.cond (.seq .leaf (.seq .leaf (.cond (.seq (.seq .leaf (.cond .leaf .leaf)) (.sub (fun fr σ => c119_21 run fu s13 (G fr 0) (G fr 1) (G fr 5) (G fr 6) (G fr 10) (G fr 11) σ))) .leaf))) .leaf)) (.sub (fun fr σ => c119_19 run fu s13 (G fr 0) (G fr 1) (G fr 5) (G fr 6) (G fr 7) (G fr 8) σ))))) (.sub (fun fr σ => c119_18 run fu s13 (G fr 0) (G fr 1) (G fr 5) (G fr 6) (G fr 7) σ)))) (subC [true, false, true, true, true, false, true, false, false] b119) (thenK (fun fr σ => s13 (G fr 0) (G fr 1) (G fr 5) (G fr 6) (G fr 7) σ) failK) :=
  ⟨⟨trivial, ⟨trivial, trivial⟩⟩, ⟨⟨trivial, ⟨⟨trivial, ⟨⟨trivial, ⟨trivial, ⟨⟨⟨trivial, ⟨trivial, trivial⟩⟩, (ok119_21 hrun fu s13)⟩, trivial⟩⟩⟩, trivial⟩⟩, (ok119_19 hrun fu s13)⟩⟩, (ok119_18 hrun fu s13)⟩⟩

noncomputable def c119_13s (run : RunT) (fu : Nat) : Nat → List AV → W0 :=
  sweepU (planOf none 1 4 [] [] []) (fun s2 xs σ => c119_13b run fu (fun y0 y1 y5 y6 y7 σ => s2 [y0, y1, y5, y6, y7] σ) (xs.getD 0 .any) (xs.getD 1 .any) (xs.getD 2 .any) (xs.getD 3 .any) (xs.getD 4 .any) σ) (fun s2 xs σ => c119_13x run fu (fun y0 y1 y5 y6 y7 σ => s2 [y0, y1, y5, y6, y7] σ) (xs.getD 0 .any) (xs.getD 1 .any) (xs.getD 2 .any) (xs.getD 3 .any) (xs.getD 4 .any) σ)

theorem ok119_13s {run : RunT} (hrun : RunOK X0 run) (fu : Nat) : ∀ fr σ, KOK X0 132 (subC [true, false, true, true, true, false, true, false] b119) fr σ ((fun fr σ => c119_13s run fu fu [fr.getD 0 .any, fr.getD 1 .any, fr.getD 5 .any, fr.getD 6 .any, fr.getD 7 .any] σ) fr σ) (blockK 0 (thenK (fun fr σ => c119_12 run fu (G fr 1) (G fr 6) σ) (scopeK (subC [true, false] b119) (lblU 0 (fun fr σ => c119_1L run fu fu (G fr 0) (G fr 1) (G fr 5) (G fr 6) σ)) k119))) := by
  have h := KOK.sweep (X := X0) (N := 132) (b := (subC [true, false, true, true, true, false, true, false, false] b119)) (k := (blockK 0 (thenK (fun fr σ => c119_12 run fu (G fr 1) (G fr 6) σ) (scopeK (subC [true, false] b119) (lblU 0 (fun fr σ => c119_1L run fu fu (G fr 0) (G fr 1) (G fr 5) (G fr 6) σ)) k119)))) (js := [0, 1, 5, 6, 7]) (body := (fun s2 xs σ => c119_13b run fu (fun y0 y1 y5 y6 y7 σ => s2 [y0, y1, y5, y6, y7] σ) (xs.getD 0 .any) (xs.getD 1 .any) (xs.getD 2 .any) (xs.getD 3 .any) (xs.getD 4 .any) σ)) (bodyx := (fun s2 xs σ => c119_13x run fu (fun y0 y1 y5 y6 y7 σ => s2 [y0, y1, y5, y6, y7] σ) (xs.getD 0 .any) (xs.getD 1 .any) (xs.getD 2 .any) (xs.getD 3 .any) (xs.getD 4 .any) σ)) rfl (planOf none 1 4 [] [] []) (fun s2 fr σ => KOK.piece env0 hrun [0, 1, 5, 6, 7] (eq119_13 run fu (fun y0 y1 y5 y6 y7 σ => s2 [y0, y1, y5, y6, y7] σ) (G fr 0) (G fr 1) (G fr 5) (G fr 6) (G fr 7) σ) (owed119_13 hrun fu (fun y0 y1 y5 y6 y7 σ => s2 [y0, y1, y5, y6, y7] σ))) (fun s2 fr σ => KOK.piece env0 hrun [0, 1, 5, 6, 7] (eq119_13x run fu (fun y0 y1 y5 y6 y7 σ => s2 [y0, y1, y5, y6, y7] σ) (G fr 0) (G fr 1) (G fr 5) (G fr 6) (G fr 7) σ) (owed119_13x hrun fu (fun y0 y1 y5 y6 y7 σ => s2 [y0, y1, y5, y6, y7] σ)))
  exact fun fr σ => h fu fr σ

noncomputable def c119_1 (run : RunT) (fu : Nat) (x0 x1 : AV) (σ : Store) : Tr R :=
  bldK [(.str []), (.int .i64 0)] [(0, 1, x1)] fun x17 =>
  boxK σ 539 x17 fun x18 σ1 =>
  c119_13s run fu fu [x0, x1, x18, .nils, (.int .i64 0)] σ1

theorem eq119_1 (run : RunT) (fu : Nat) (x0 x1 : AV) (σ : Store) : codeK X0 run (.seq .leaf (.seq .leaf (.seq .leaf (.seq (.seq .leaf (.block (.sub (fun fr σ => c119_13s run fu fu [fr.getD 0 .any, fr.getD 1 .any, fr.getD 5 .any, fr.getD 6 .any, fr.getD 7 .any] σ)))) (.sub (fun fr σ => c119_12 run fu (G fr 1) (G fr 6) σ)))))) (subC [true, false] b119) (frS 0 132 [(0, x0), (1, x1)]) σ (scopeK (subC [true, false] b119) (lblU 0 (fun fr σ => c119_1L run fu fu (G fr 0) (G fr 1) (G fr 5) (G fr 6) σ)) k119) = c119_1 run fu x0 x1 σ := by kernel_rfl

theorem ok119_1 {run : RunT} (hrun : RunOK X0 run) (fu : Nat) : ∀ fr σ, KOK X0 132 (subC [true] b119) fr σ ((fun fr σ => c119_1 run fu (G fr 0) (G fr 1) σ) fr σ) k119 := fun fr σ =>
  KOK.scope1 (X := X0) (N := 132) (b := (subC [true, false] b119)) (k := k119) 0 (u := fun m fr σ => c119_1L run fu m (G fr 0) (G fr 1) (G fr 5) (G fr 6) σ) (fun _ _ => rfl) (fun m fr σ => KOK.piece env0 hrun [0, 1, 5, 6] (eq119_1L run fu (c119_1L run fu m) (G fr 0) (G fr 1) (G fr 5) (G fr 6) σ) (owed119_1L hrun fu (c119_1L run fu m))) fu
    (KOK.piece env0 hrun [0, 1] (eq119_1 run fu (G fr 0) (G fr 1) σ) ⟨trivial, ⟨trivial, ⟨trivial, ⟨⟨trivial, (ok119_13s hrun fu)⟩, (ok119_12 hrun fu)⟩⟩⟩⟩)

noncomputable def c119 (run : RunT) (fu : Nat) (x0 x1 : AV) (σ : Store) : Tr R :=
  c119_1 run fu x0 x1 σ

theorem eq119 (run : RunT) (fu : Nat) (x0 x1 : AV) (σ : Store) : codeK X0 run (.seq .leaf (.sub (fun fr σ => c119_1 run fu (G fr 0) (G fr 1) σ))) (subC [] b119) ([x0, x1] ++ padA (132 - 2)) σ k119 = c119 run fu x0 x1 σ := by kernel_rfl

theorem ok119 {run : RunT} (hrun : RunOK X0 run) (fu : Nat) (x0 x1 : AV) (σ : Store) : CallOK X0 119 [x0, x1] σ (c119 run fu x0 x1 σ) :=
  KOK.body (fn := Tryz.f119) (c := subC [] b119) (by kernel_rfl) (by kernel_rfl) (by show 2 ≤ 132; decide) (KOK.whole env0 hrun (eq119 run fu x0 x1 σ) ⟨trivial, (ok119_1 hrun fu)⟩)

-- pub-paratext/pub/rscmarkdown.trimQuote

noncomputable def b120 : Code := match Tryz.f120.body with | some c => c | none => .skip

noncomputable def k120 : Kont R := retK Tryz.prog [.cell 2 100, .tmp 3]

noncomputable def c120 (run : RunT) (fu : Nat) (x0 : AV) (σ : Store) : Tr R :=
  boxK σ 201 x0 fun x1 σ1 =>
  newK σ1 201 [(.int .i64 0), (.int .i64 0), (.int .i64 0), (.str []), (.int .u8 0)] fun x2 σ2 =>
  ldNK σ2 x1 5 fun x5 =>
  newK σ2 201 [(.int .i64 0), (.int .i64 0), (.int .i64 0), (.str []), (.int .u8 0)] fun x4 σ3 =>
  stNK σ3 x4 5 x5 fun _ σ4 =>
  calK run 139 [x4, (.int .i64 0), (.int .i64 3), (.bool false)] σ4 fun x6 σ5 =>
  calK run 168 [x4, (.int .u8 62)] σ5 fun x7 σ6 =>
  notK x7 fun x8 =>
  ifK x8 (
  ldNK σ6 x1 5 fun x9 =>
  stNK σ6 x2 5 x9 fun _ σ7 =>
  ldNK σ7 x2 5 fun v8 =>
  .ret (.tup [v8, (.bool false)], σ7)) (
  calK run 139 [x4, (.int .i64 0), (.int .i64 1), (.bool true)] σ6 fun x10 σ9 =>
  ldNK σ9 x4 5 fun x11 =>
  stNK σ9 x2 5 x11 fun _ σ10 =>
  ldNK σ10 x2 5 fun v11 =>
  .ret (.tup [v11, (.bool true)], σ10))

theorem eq120 (run : RunT) (fu : Nat) (x0 : AV) (σ : Store) : codeK X0 run (.seq .leaf (.seq .leaf (.seq .leaf (.seq (.seq .leaf (.cond (.seq .leaf .leaf) .leaf)) (.seq .leaf (.seq .leaf .leaf)))))) (subC [] b120) ([x0] ++ padA (12 - 1)) σ k120 = c120 run fu x0 σ := by kernel_rfl

theorem ok120 {run : RunT} (hrun : RunOK X0 run) (fu : Nat) (x0 : AV) (σ : Store) : CallOK X0 120 [x0] σ (c120 run fu x0 σ) :=
  KOK.body (fn := Tryz.f120) (c := subC [] b120) (by kernel_rfl) (by kernel_rfl) (by show 1 ≤ 12; decide) (KOK.whole env0 hrun (eq120 run fu x0 σ) ⟨trivial, ⟨trivial, ⟨trivial, ⟨⟨trivial, ⟨⟨trivial, trivial⟩, trivial⟩⟩, ⟨trivial, ⟨trivial, trivial⟩⟩⟩⟩⟩⟩)

-- (*pub-paratext/pub/rscmarkdown.line).trimHeading

noncomputable def b121 : Code := match Tryz.f121.body with | some c => c | none => .skip

noncomputable def k121 : Kont R := retK Tryz.prog [.tmp 4]

noncomputable def c121_1 (run : RunT) (fu : Nat) (x0 x1 x5 x6 : AV) (σ : Store) : Tr R :=
  calK run 139 [x5, (.int .i64 1), (.int .i64 1), (.bool true)] σ fun x20 σ1 =>
  notK x20 fun x21 =>
  ifK x21 (
  .ret ((.bool false), σ1)) (
  nchkK x1 fun x24 =>
  st1K σ1 x24 x6 fun _ σ2 =>
  ldNK σ2 x5 5 fun x26 =>
  nchkK x0 fun x27 =>
  stNK σ2 x27 5 x26 fun _ σ3 =>
  .ret ((.bool true), σ3))

theorem eq121_1 (run : RunT) (fu : Nat) (x0 x1 x5 x6 : AV) (σ : Store) : codeK X0 run (.seq (.seq .leaf (.cond (.seq .leaf .leaf) .leaf)) (.seq .leaf (.seq .leaf (.seq .leaf .leaf)))) (subC [true, true, true, true, true, true] b121) (frS 0 28 [(0, x0), (1, x1), (5, x5), (6, x6)]) σ k121 = c121_1 run fu x0 x1 x5 x6 σ := by kernel_rfl

theorem ok121_1 {run : RunT} (hrun : RunOK X0 run) (fu : Nat) : ∀ fr σ, KOK X0 28 (subC [true, true, true, true, true, true] b121) fr σ ((fun fr σ => c121_1 run fu (G fr 0) (G fr 1) (G fr 5) (G fr 6) σ) fr σ) k121 := fun fr σ =>
  KOK.piece env0 hrun [0, 1, 5, 6] (eq121_1 run fu (G fr 0) (G fr 1) (G fr 5) (G fr 6) σ) ⟨⟨trivial, ⟨⟨trivial, trivial⟩, trivial⟩⟩, ⟨trivial, ⟨trivial, ⟨trivial, trivial⟩⟩⟩⟩

noncomputable def c121_2b (run : RunT) (fu : Nat) (s2 : W4) (x0 x1 x5 x6 : AV) (σ : Store) : Tr R :=
  cmpK .lss x6 (.int .i64 6) fun x14 =>
  grdK x14 true σ (fun f => calK run 168 [x5, (.int .u8 35)] σ f) fun x16 σ1 =>
  pickK x14 x16 (.bool false) fun x17 =>
  ifK x17 (
  addK x6 (.int .i64 1) fun x19 =>
  s2 x0 x1 x5 x19 σ1) (
  c121_1 run fu x0 x1 x5 x6 σ1)

noncomputable def c121_2 (run : RunT) (fu : Nat) : Nat → W4
  | 0 => fun _ _ _ _ _ => .fail
  | m + 1 => c121_2b run fu (c121_2 run fu m)

theorem eq121_2 (run : RunT) (fu : Nat) (s2 : W4) (x0 x1 x5 x6 : AV) (σ : Store) : codeK X0 run (.seq (.seq .leaf (.cond .leaf .leaf)) (.block .leaf)) (subC [true, true, true, true, true, false, false, false] b121) (frS 0 28 [(0, x0), (1, x1), (5, x5), (6, x6)]) σ (thenK (fun fr σ => s2 (G fr 0) (G fr 1) (G fr 5) (G fr 6) σ) (blockK 0 (thenK (fun fr σ => c121_1 run fu (G fr 0) (G fr 1) (G fr 5) (G fr 6) σ) k121))) = c121_2b run fu s2 x0 x1 x5 x6 σ := by kernel_rfl

theorem owed121_2 {run : RunT} (hrun : RunOK X0 run) (fu : Nat) (s2 : W4) : Owes X0 run 28 (.seq (.seq .leaf (.cond .leaf .leaf)) (.block .leaf)) (subC [true, true, true, true, true, false, false, false] b121) (thenK (fun fr σ => s2 (G fr 0) (G fr 1) (G fr 5) (G fr 6) σ) (blockK 0 (thenK (fun fr σ => c121_1 run fu (G fr 0) (G fr 1) (G fr 5) (G fr 6) σ) k121))) :=
  ⟨⟨trivial, ⟨trivial, trivial⟩⟩, trivial⟩

theorem ok121_2 {run : RunT} (hrun : RunOK X0 run) (fu : Nat) : ∀ fr σ, KOK X0 28 (subC [true, true, true, true, true, false, false] b121) fr σ ((fun fr σ => c121_2 run fu fu (G fr 0) (G fr 1) (G fr 5) (G fr 6) σ) fr σ) (blockK 0 (thenK (fun fr σ => c121_1 run fu (G fr 0) (G fr 1) (G fr 5) (G fr 6) σ) k121)) := by
  have h := KOK.loop (X := X0) (N := 28) (b := (subC [true, true, true, true, true, false, false, false] b121)) (k := (blockK 0 (thenK (fun fr σ => c121_1 run fu (G fr 0) (G fr 1) (G fr 5) (G fr 6) σ) k121))) (u := fun m fr σ => c121_2 run fu m (G fr 0) (G fr 1) (G fr 5) (G fr 6) σ) (fun _ _ => rfl) (fun m fr σ => KOK.piece env0 hrun [0, 1, 5, 6] (eq121_2 run fu (c121_2 run fu m) (G fr 0) (G fr 1) (G fr 5) (G fr 6) σ) (owed121_2 hrun fu (c121_2 run fu m)))
  exact fun fr σ => h fu fr σ

noncomputable def c121 (run : RunT) (fu : Nat) (x0 x1 : AV) (σ : Store) : Tr R :=
  nchkK x0 fun x8 =>
  ldNK σ x8 5 fun x9 =>
  newK σ 201 [(.int .i64 0), (.int .i64 0), (.int .i64 0), (.str []), (.int .u8 0)] fun x5 σ1 =>
  stNK σ1 x5 5 x9 fun _ σ2 =>
  calK run 139 [x5, (.int .i64 0), (.int .i64 3), (.bool false)] σ2 fun x10 σ3 =>
  calK run 168 [x5, (.int .u8 35)] σ3 fun x11 σ4 =>
  notK x11 fun x12 =>
  ifK x12 (
  .ret ((.bool false), σ4)) (
  c121_2 run fu fu x0 x1 x5 (.int .i64 1) σ4)

theorem eq121 (run : RunT) (fu : Nat) (x0 x1 : AV) (σ : Store) : codeK X0 run (.seq .leaf (.seq .leaf (.seq .leaf (.seq (.seq .leaf (.cond (.seq .leaf .leaf) .leaf)) (.seq .leaf (.seq (.block (.sub (fun fr σ => c121_2 run fu fu (G fr 0) (G fr 1) (G fr 5) (G fr 6) σ))) (.sub (fun fr σ => c121_1 run fu (G fr 0) (G fr 1) (G fr 5) (G fr 6) σ)))))))) (subC [] b121) ([x0, x1] ++ padA (28 - 2)) σ k121 = c121 run fu x0 x1 σ := by kernel_rfl

theorem ok121 {run : RunT} (hrun : RunOK X0 run) (fu : Nat) (x0 x1 : AV) (σ : Store) : CallOK X0 121 [x0, x1] σ (c121 run fu x0 x1 σ) :=
  KOK.body (fn := Tryz.f121) (c := subC [] b121) (by kernel_rfl) (by kernel_rfl) (by show 2 ≤ 28; decide) (KOK.whole env0 hrun (eq121 run fu x0 x1 σ) ⟨trivial, ⟨trivial, ⟨trivial, ⟨⟨trivial, ⟨⟨trivial, trivial⟩, trivial⟩⟩, ⟨trivial, ⟨(ok121_2 hrun fu), (ok121_1 hrun fu)⟩⟩⟩⟩⟩⟩)

-- pub-paratext/pub/rscmarkdown.isLetterDigit

noncomputable def b126 : Code := match Tryz.f126.body with | some c => c | none => .skip

noncomputable def k126 : Kont R := retK Tryz.prog [.tmp 2]

noncomputable def c126 (run : RunT) (fu : Nat) (x0 : AV) (σ : Store) : Tr R :=
  cmpK .leq (.int .u8 65) x0 fun x4 =>
  grdK x4 true σ (fun f => f x0 σ) fun x6 σ1 =>
  grdK x4 true σ1 (fun f => cmpK .leq x6 (.int .u8 90) fun v => f v σ1) fun x7 σ2 =>
  pickK x4 x7 (.bool false) fun x8 =>
  grdK x8 false σ2 (fun f => f x0 σ2) fun x10 σ3 =>
  grdK x8 false σ3 (fun f => cmpK .leq (.int .u8 97) x10 fun v => f v σ3) fun x11 σ4 =>
  grdK x8 false σ4 (fun f => f x11 σ4) fun x12 σ5 =>
  grdK x12 true σ5 (fun f => f x0 σ5) fun x13 σ6 =>
  grdK x12 true σ6 (fun f => cmpK .leq x13 (.int .u8 122) fun v => f v σ6) fun x14 σ7 =>
  grdK x8 false σ7 (fun f => pickK x12 x14 (.bool false) fun v => f v σ7) fun x15 σ8 =>
  pickK x8 (.bool true) x15 fun x16 =>
  grdK x16 false σ8 (fun f => f x0 σ8) fun x18 σ9 =>
  grdK x16 false σ9 (fun f => cmpK .leq (.int .u8 48) x18 fun v => f v σ9) fun x19 σ10 =>
  grdK x16 false σ10 (fun f => f x19 σ10) fun x20 σ11 =>
  grdK x20 true σ11 (fun f => f x0 σ11) fun x21 σ12 =>
  grdK x20 true σ12 (fun f => cmpK .leq x21 (.int .u8 57) fun v => f v σ12) fun x22 σ13 =>
  grdK x16 false σ13 (fun f => pickK x20 x22 (.bool false) fun v => f v σ13) fun x23 σ14 =>
  pickK x16 (.bool true) x23 fun x24 =>
  .ret (x24, σ14)

theorem eq126 (run : RunT) (fu : Nat) (x0 : AV) (σ : Store) : codeK X0 run (.seq .leaf (.seq .leaf .leaf)) (subC [] b126) ([x0] ++ padA (25 - 1)) σ k126 = c126 run fu x0 σ := by kernel_rfl

theorem ok126 {run : RunT} (hrun : RunOK X0 run) (fu : Nat) (x0 : AV) (σ : Store) : CallOK X0 126 [x0] σ (c126 run fu x0 σ) :=
  KOK.body (fn := Tryz.f126) (c := subC [] b126) (by kernel_rfl) (by kernel_rfl) (by show 1 ≤ 25; decide) (KOK.whole env0 hrun (eq126 run fu x0 σ) ⟨trivial, ⟨trivial, trivial⟩⟩)

-- (*pub-paratext/pub/rscmarkdown.parseState).newText

noncomputable def b128 : Code := match Tryz.f128.body with | some c => c | none => .skip

noncomputable def k128 : Kont R := retK Tryz.prog [.tmp 6]

noncomputable def c128 (run : RunT) (fu : Nat) (x0 x1 x2 : AV) (σ : Store) : Tr R :=
  boxK σ 209 x1 fun x4 σ1 =>
  ldNK σ1 x4 2 fun x8 =>
  bldK [(.int .i64 0), (.int .i64 0), .nils, (.str [])] [(0, 2, x8), (3, 1, x2)] fun x10 =>
  boxK σ1 213 x10 fun x11 σ2 =>
  nchkK x0 fun x14 =>
  addrK x14 11 fun x15 =>
  ld1K σ2 x15 fun x16 =>
  opt (fillK [.nilp] [(0, 1, x11)]) fun cs => newSK σ2 203 cs 1 1 fun x18 σ3 =>
  appK 101 1 8 σ3 x16 x18 fun x19 σ4 =>
  nchkK x0 fun x20 =>
  addrK x20 11 fun x21 =>
  st1K σ4 x21 x19 fun _ σ5 =>
  .ret (x11, σ5)

theorem eq128 (run : RunT) (fu : Nat) (x0 x1 x2 : AV) (σ : Store) : codeK X0 run (.seq .leaf (.seq .leaf (.seq .leaf (.seq .leaf .leaf)))) (subC [] b128) ([x0, x1, x2] ++ padA (23 - 3)) σ k128 = c128 run fu x0 x1 x2 σ := by kernel_rfl

theorem ok128 {run : RunT} (hrun : RunOK X0 run) (fu : Nat) (x0 x1 x2 : AV) (σ : Store) : CallOK X0 128 [x0, x1, x2] σ (c128 run fu x0 x1 x2 σ) :=
  KOK.body (fn := Tryz.f128) (c := subC [] b128) (by kernel_rfl) (by kernel_rfl) (by show 3 ≤ 23; decide) (KOK.whole env0 hrun (eq128 run fu x0 x1 x2 σ) ⟨trivial, ⟨trivial, ⟨trivial, ⟨trivial, trivial⟩⟩⟩⟩)

-- (*pub-paratext/pub/rscmarkdown.parseState).nextB

noncomputable def b129 : Code := match Tryz.f129.body with | some c => c | none => .skip

noncomputable def k129 : Kont R := retK Tryz.prog [.tmp 2]

noncomputable def c129 (run : RunT) (fu : Nat) (x0 : AV) (σ : Store) : Tr R :=
  nchkK x0 fun x4 =>
  addrK x4 5 fun x5 =>
  ld1K σ x5 fun x6 =>
  addK x6 (.int .i64 1) fun x7 =>
  nchkK x0 fun x9 =>
  addrK x9 4 fun x10 =>
  ld1K σ x10 fun x11 =>
  lenLK x11 fun x12 =>
  cmpK .lss x7 x12 fun x13 =>
  ifK x13 (
  nchkK x0 fun x15 =>
  addrK x15 4 fun x16 =>
  ld1K σ x16 fun x17 =>
  nchkK x0 fun x19 =>
  addrK x19 5 fun x20 =>
  ld1K σ x20 fun x21 =>
  addK x21 (.int .i64 1) fun x22 =>
  idxK 4 x17 x22 fun x23 =>
  addrK x23 0 fun x24 =>
  ld1K σ x24 fun x25 =>
  .ret (x25, σ)) (
  .ret (.nili, σ))

theorem eq129 (run : RunT) (fu : Nat) (x0 : AV) (σ : Store) : codeK X0 run (.seq .leaf (.seq (.seq .leaf (.cond (.seq .leaf .leaf) .leaf)) (.seq .leaf .leaf))) (subC [] b129) ([x0] ++ padA (26 - 1)) σ k129 = c129 run fu x0 σ := by kernel_rfl

theorem ok129 {run : RunT} (hrun : RunOK X0 run) (fu : Nat) (x0 : AV) (σ : Store) : CallOK X0 129 [x0] σ (c129 run fu x0 σ) :=
  KOK.body (fn := Tryz.f129) (c := subC [] b129) (by kernel_rfl) (by kernel_rfl) (by show 1 ≤ 26; decide) (KOK.whole env0 hrun (eq129 run fu x0 σ) ⟨trivial, ⟨⟨trivial, ⟨⟨trivial, trivial⟩, trivial⟩⟩, ⟨trivial, trivial⟩⟩⟩)

-- pub-paratext/pub/rscmarkdown.isHR

noncomputable def b133 : Code := match Tryz.f133.body with | some c => c | none => .skip

noncomputable def k133 : Kont R := retK Tryz.prog [.tmp 2]

noncomputable def c133_1 (run : RunT) (fu : Nat) (σ : Store) : Tr R :=
  .ret ((.bool false), σ)

theorem eq133_1 (run : RunT) (fu : Nat) (σ : Store) : codeK X0 run (.seq .leaf .leaf) (subC [true, true, true, true] b133) (frS 0 23 []) σ k133 = c133_1 run fu σ := by kernel_rfl

theorem ok133_1 {run : RunT} (hrun : RunOK X0 run) (fu : Nat) : ∀ fr σ, KOK X0 23 (subC [true, true, true, true] b133) fr σ ((fun fr σ => c133_1 run fu σ) fr σ) k133 := fun fr σ =>
  KOK.piece env0 hrun [] (eq133_1 run fu σ) ⟨trivial, trivial⟩

noncomputable def c133_3 (run : RunT) (fu : Nat) (x3 : AV) (σ : Store) : Tr R :=
  calK run 172 [x3] σ fun x22 σ1 =>
  .ret (x22, σ1)

theorem eq133_3 (run : RunT) (fu : Nat) (x3 : AV) (σ : Store) : codeK X0 run (.seq .leaf .leaf) (subC [true, true, true, false, true, true, false, true, false, true] b133) (frS 0 23 [(3, x3)]) σ (blockK 0 (thenK (fun fr σ => c133_1 run fu σ) k133)) = c133_3 run fu x3 σ := by kernel_rfl

theorem ok133_3 {run : RunT} (hrun : RunOK X0 run) (fu : Nat) : ∀ fr σ, KOK X0 23 (subC [true, true, true, false, true, true, false, true, false, true] b133) fr σ ((fun fr σ => c133_3 run fu (G fr 3) σ) fr σ) (blockK 0 (thenK (fun fr σ => c133_1 run fu σ) k133)) := fun fr σ =>
  KOK.piece env0 hrun [3] (eq133_3 run fu (G fr 3) σ) ⟨trivial, trivial⟩

noncomputable def c133_4b (run : RunT) (fu : Nat) (s4 : W3) (x3 x4 x5 : AV) (σ : Store) : Tr R :=
  calK run 168 [x3, x4] σ fun x17 σ1 =>
  notK x17 fun x18 =>
  ifK x18 (
  cmpK .geq x5 (.int .i64 3) fun x20 =>
  ifK x20 (
  c133_3 run fu x3 σ1) (
  .ret ((.bool false), σ1))) (
  calK run 171 [x3] σ1 fun x21 σ2 =>
  addK x5 (.int .i64 1) fun x15 =>
  s4 x3 x4 x15 σ2)

noncomputable def c133_4 (run : RunT) (fu : Nat) : Nat → W3
  | 0 => fun _ _ _ _ => .fail
  | m + 1 => c133_4b run fu (c133_4 run fu m)

theorem eq133_4 (run : RunT) (fu : Nat) (s4 : W3) (x3 x4 x5 : AV) (σ : Store) : codeK X0 run (.seq (.block (.seq (.seq .leaf (.cond (.seq (.seq .leaf (.cond .leaf .leaf)) (.seq .leaf .leaf)) .leaf)) .leaf)) .leaf) (subC [true, true, true, false, true, true, false, true, false, false, true, false, false] b133) (frS 0 23 [(3, x3), (4, x4), (5, x5)]) σ (thenK (fun fr σ => s4 (G fr 3) (G fr 4) (G fr 5) σ) (blockK 1 (thenK (fun fr σ => c133_3 run fu (G fr 3) σ) (blockK 0 (thenK (fun fr σ => c133_1 run fu σ) k133))))) = c133_4b run fu s4 x3 x4 x5 σ := by kernel_rfl

theorem owed133_4 {run : RunT} (hrun : RunOK X0 run) (fu : Nat) (s4 : W3) : Owes X0 run 23 (.seq (.block (.seq (.seq .leaf (.cond (.seq (.seq .leaf (.cond .leaf .leaf)) (.seq .leaf .leaf)) .leaf)) .leaf)) .leaf) (subC [true, true, true, false, true, true, false, true, false, false, true, false, false] b133) (thenK (fun fr σ => s4 (G fr 3) (G fr 4) (G fr 5) σ) (blockK 1 (thenK (fun fr σ => c133_3 run fu (G fr 3) σ) (blockK 0 (thenK (fun fr σ => c133_1 run fu σ) k133))))) :=
  ⟨⟨⟨trivial, ⟨⟨⟨trivial, ⟨trivial, trivial⟩⟩, ⟨trivial, trivial⟩⟩, trivial⟩⟩, trivial⟩, trivial⟩

theorem ok133_4 {run : RunT} (hrun : RunOK X0 run) (fu : Nat) : ∀ fr σ, KOK X0 23 (subC [true, true, true, false, true, true, false, true, false, false, true, false] b133) fr σ ((fun fr σ => c133_4 run fu fu (G fr 3) (G fr 4) (G fr 5) σ) fr σ) (blockK 1 (thenK (fun fr σ => c133_3 run fu (G fr 3) σ) (blockK 0 (thenK (fun fr σ => c133_1 run fu σ) k133)))) := by
  have h := KOK.loop (X := X0) (N := 23) (b := (subC [true, true, true, false, true, true, false, true, false, false, true, false, false] b133)) (k := (blockK 1 (thenK (fun fr σ => c133_3 run fu (G fr 3) σ) (blockK 0 (thenK (fun fr σ => c133_1 run fu σ) k133))))) (u := fun m fr σ => c133_4 run fu m (G fr 3) (G fr 4) (G fr 5) σ) (fun _ _ => rfl) (fun m fr σ => KOK.piece env0 hrun [3, 4, 5] (eq133_4 run fu (c133_4 run fu m) (G fr 3) (G fr 4) (G fr 5) σ) (owed133_4 hrun fu (c133_4 run fu m)))
  exact fun fr σ => h fu fr σ

noncomputable def c133_2 (run : RunT) (fu : Nat) (x3 x4 x10 : AV) (σ : Store) : Tr R :=
  ifK x10 (
  c133_4 run fu fu x3 x4 (.int .i64 0) σ) (
  c133_1 run fu σ)

theorem eq133_2 (run : RunT) (fu : Nat) (x3 x4 x10 : AV) (σ : Store) : codeK X0 run (.cond (.seq (.seq .leaf (.block (.sub (fun fr σ => c133_4 run fu fu (G fr 3) (G fr 4) (G fr 5) σ)))) (.sub (fun fr σ => c133_3 run fu (G fr 3) σ))) .leaf) (subC [true, true, true, false, true, true, false, true] b133) (frS 0 23 [(3, x3), (4, x4), (10, x10)]) σ (blockK 0 (thenK (fun fr σ => c133_1 run fu σ) k133)) = c133_2 run fu x3 x4 x10 σ := by kernel_rfl

theorem ok133_2 {run : RunT} (hrun : RunOK X0 run) (fu : Nat) : ∀ fr σ, KOK X0 23 (subC [true, true, true, false, true, true, false, true] b133) fr σ ((fun fr σ => c133_2 run fu (G fr 3) (G fr 4) (G fr 10) σ) fr σ) (blockK 0 (thenK (fun fr σ => c133_1 run fu σ) k133)) := fun fr σ =>
  KOK.piece env0 hrun [3, 4, 10] (eq133_2 run fu (G fr 3) (G fr 4) (G fr 10) σ) ⟨⟨⟨trivial, (ok133_4 hrun fu)⟩, (ok133_3 hrun fu)⟩, trivial⟩

noncomputable def c133 (run : RunT) (fu : Nat) (x0 : AV) (σ : Store) : Tr R :=
  boxK σ 201 x0 fun x1 σ1 =>
  ldNK σ1 x1 5 fun x6 =>
  newK σ1 201 [(.int .i64 0), (.int .i64 0), (.int .i64 0), (.str []), (.int .u8 0)] fun x3 σ2 =>
  stNK σ2 x3 5 x6 fun _ σ3 =>
  calK run 139 [x3, (.int .i64 0), (.int .i64 3), (.bool false)] σ3 fun x7 σ4 =>
  calK run 170 [x3] σ4 fun x8 σ5 =>
  cmpK .eql x8 (.int .u8 45) fun x11 =>
  ifK x11 (
  c133_2 run fu x3 x8 x11 σ5) (
  cmpK .eql x8 (.int .u8 95) fun x12 =>
  ifK x12 (
  c133_2 run fu x3 x8 x12 σ5) (
  cmpK .eql x8 (.int .u8 42) fun x13 =>
  c133_2 run fu x3 x8 x13 σ5))

theorem eq133 (run : RunT) (fu : Nat) (x0 : AV) (σ : Store) : codeK X0 run (.seq .leaf (.seq .leaf (.seq .leaf (.seq (.seq .leaf (.seq .leaf (.block (.seq (.seq .leaf (.cond .leaf (.seq .leaf (.cond .leaf .leaf)))) (.sub (fun fr σ => c133_2 run fu (G fr 3) (G fr 4) (G fr 10) σ)))))) (.sub (fun fr σ => c133_1 run fu σ)))))) (subC [] b133) ([x0] ++ padA (23 - 1)) σ k133 = c133 run fu x0 σ := by kernel_rfl

theorem ok133 {run : RunT} (hrun : RunOK X0 run) (fu : Nat) (x0 : AV) (σ : Store) : CallOK X0 133 [x0] σ (c133 run fu x0 σ) :=
  KOK.body (fn := Tryz.f133) (c := subC [] b133) (by kernel_rfl) (by kernel_rfl) (by show 1 ≤ 23; decide) (KOK.whole env0 hrun (eq133 run fu x0 σ) ⟨trivial, ⟨trivial, ⟨trivial, ⟨⟨trivial, ⟨trivial, ⟨⟨trivial, ⟨trivial, ⟨trivial, ⟨trivial, trivial⟩⟩⟩⟩, (ok133_2 hrun fu)⟩⟩⟩, (ok133_1 hrun fu)⟩⟩⟩⟩)

-- (*pub-paratext/pub/rscmarkdown.parseState).curB

noncomputable def b134 : Code := match Tryz.f134.body with | some c => c | none => .skip

noncomputable def k134 : Kont R := retK Tryz.prog [.tmp 2]

noncomputable def c134 (run : RunT) (fu : Nat) (x0 : AV) (σ : Store) : Tr R :=
  nchkK x0 fun x4 =>
  addrK x4 5 fun x5 =>
  ld1K σ x5 fun x6 =>
  nchkK x0 fun x8 =>
  addrK x8 4 fun x9 =>
  ld1K σ x9 fun x10 =>
  lenLK x10 fun x11 =>
  cmpK .lss x6 x11 fun x12 =>
  ifK x12 (
  nchkK x0 fun x14 =>
  addrK x14 4 fun x15 =>
  ld1K σ x15 fun x16 =>
  nchkK x0 fun x18 =>
  addrK x18 5 fun x19 =>
  ld1K σ x19 fun x20 =>
  idxK 4 x16 x20 fun x21 =>
  addrK x21 0 fun x22 =>
  ld1K σ x22 fun x23 =>
  .ret (x23, σ)) (
  .ret (.nili, σ))

theorem eq134 (run : RunT) (fu : Nat) (x0 : AV) (σ : Store) : codeK X0 run (.seq .leaf (.seq (.seq .leaf (.cond (.seq .leaf .leaf) .leaf)) (.seq .leaf .leaf))) (subC [] b134) ([x0] ++ padA (24 - 1)) σ k134 = c134 run fu x0 σ := by kernel_rfl

theorem ok134 {run : RunT} (hrun : RunOK X0 run) (fu : Nat) (x0 : AV) (σ : Store) : CallOK X0 134 [x0] σ (c134 run fu x0 σ) :=
  KOK.body (fn := Tryz.f134) (c := subC [] b134) (by kernel_rfl) (by kernel_rfl) (by show 1 ≤ 24; decide) (KOK.whole env0 hrun (eq134 run fu x0 σ) ⟨trivial, ⟨⟨trivial, ⟨⟨trivial, trivial⟩, trivial⟩⟩, ⟨trivial, trivial⟩⟩⟩)

-- (*pub-paratext/pub/rscmarkdown.parseState).startListItem

noncomputable def b135 : Code := match Tryz.f135.body with | some c => c | none => .skip

noncomputable def k135 : Kont R := retK Tryz.prog [.tmp 4]

noncomputable def c135_6 (run : RunT) (fu : Nat) (x2 x5 x6 x15 : AV) (σ : Store) : Tr R :=
  .fail

theorem eq135_6 (run : RunT) (fu : Nat) (x2 x5 x6 x15 : AV) (σ : Store) : codeK X0 run (.seq .leaf .leaf) (subC [true, false, true, true, true, true, true, true, true, true, true, true, true, true, true, true, true, true] b135) (frS 0 181 [(2, x2), (5, x5), (6, x6), (15, x15)]) σ (noGotoK k135) = c135_6 run fu x2 x5 x6 x15 σ := by kernel_rfl

theorem ok135_6 {run : RunT} (hrun : RunOK X0 run) (fu : Nat) : ∀ fr σ, KOK X0 181 (subC [true, false, true, true, true, true, true, true, true, true, true, true, true, true, true, true, true, true] b135) fr σ ((fun fr σ => c135_6 run fu (G fr 2) (G fr 5) (G fr 6) (G fr 15) σ) fr σ) (noGotoK k135) := fun fr σ =>
  KOK.piece env0 hrun [2, 5, 6, 15] (eq135_6 run fu (G fr 2) (G fr 5) (G fr 6) (G fr 15) σ) ⟨trivial, trivial⟩

noncomputable def c135_5 (run : RunT) (fu : Nat) (x2 x5 x6 x8 x9 x15 : AV) (σ : Store) : Tr R :=
  ld1K σ x15 fun x126 =>
  eqOK (nilEq nilP) x126 .nilp fun x127 =>
  grdK x127 false σ (fun f => ld1K σ x15 fun v => f v σ) fun x129 σ1 =>
  grdK x127 false σ1 (fun f => nchkK x129 fun v => f v σ1) fun x130 σ2 =>
  grdK x127 false σ2 (fun f => addrK x130 0 fun v => f v σ2) fun x131 σ3 =>
  grdK x127 false σ3 (fun f => ld1K σ3 x131 fun v => f v σ3) fun x132 σ4 =>
  grdK x127 false σ4 (fun f => f x8 σ4) fun x133 σ5 =>
  grdK x127 false σ5 (fun f => fitsK .i32 x133 fun v => f v σ5) fun x134 σ6 =>
  grdK x127 false σ6 (fun f => cmpK .neq x132 x134 fun v => f v σ6) fun x135 σ7 =>
  pickK x127 (.bool true) x135 fun x136 =>
  ifK x136 (
  ld1K σ7 x15 fun x137 =>
  eqOK (nilEq nilP) x137 .nilp fun x138 =>
  grdK x138 true σ7 (fun f => ld1K σ7 x2 fun v => f v σ7) fun x140 σ8 =>
  grdK x138 true σ8 (fun f => calK run 89 [x140] σ8 f) fun x141 σ9 =>
  grdK x138 true σ9 (fun f => neOK (nilEq nilP) x141 .nilp fun v => f v σ9) fun x142 σ10 =>
  pickK x138 x142 (.bool false) fun x143 =>
  grdK x143 true σ10 (fun f => calK run 56 [x5] σ10 f) fun x145 σ11 =>
  grdK x143 true σ11 (fun f => f x145 σ11) fun x146 σ12 =>
  grdK x146 false σ12 (fun f => f x8 σ12) fun x147 σ13 =>
  grdK x146 false σ13 (fun f => cmpK .eql x147 (.int .u8 46) fun v => f v σ13) fun x148 σ14 =>
  grdK x146 false σ14 (fun f => f x148 σ14) fun x149 σ15 =>
  grdK x149 false σ15 (fun f => f x8 σ15) fun x150 σ16 =>
  grdK x149 false σ16 (fun f => cmpK .eql x150 (.int .u8 41) fun v => f v σ16) fun x151 σ17 =>
  grdK x146 false σ17 (fun f => pickK x149 (.bool true) x151 fun v => f v σ17) fun x152 σ18 =>
  grdK x146 false σ18 (fun f => f x152 σ18) fun x153 σ19 =>
  grdK x153 true σ19 (fun f => f x9 σ19) fun x154 σ20 =>
  grdK x153 true σ20 (fun f => cmpK .neq x154 (.int .i64 1) fun v => f v σ20) fun x155 σ21 =>
  grdK x146 false σ21 (fun f => pickK x153 x155 (.bool false) fun v => f v σ21) fun x156 σ22 =>
  grdK x143 true σ22 (fun f => pickK x146 (.bool true) x156 fun v => f v σ22) fun x157 σ23 =>
  pickK x143 x157 (.bool false) fun x158 =>
  ifK x158 (
  ld1K σ23 x2 fun x159 =>
  nchkK x159 fun x160 =>
  addrK x160 6 fun x161 =>
  st1K σ23 x161 (.bool true) fun _ σ24 =>
  .ret ((.bool false), σ24)) (
  fitsK .i32 x8 fun x163 =>
  bldK [(.int .i32 0), (.int .i64 0), (.bool false), .nilp, .nilf] [(0, 1, x163), (1, 1, x9)] fun x165 =>
  boxK σ23 485 x165 fun x166 σ25 =>
  st1K σ25 x15 x166 fun _ σ26 =>
  ld1K σ26 x2 fun x167 =>
  ld1K σ26 x15 fun x168 =>
  calK run 49 [x167, (.iface 237 x168)] σ26 fun x170 σ27 =>
  c135_6 run fu x2 x5 x6 x15 σ27)) (
  c135_6 run fu x2 x5 x6 x15 σ7)

theorem eq135_5 (run : RunT) (fu : Nat) (x2 x5 x6 x8 x9 x15 : AV) (σ : Store) : codeK X0 run (.seq (.seq .leaf (.cond (.seq (.seq .leaf (.cond (.seq .leaf (.seq .leaf .leaf)) .leaf)) (.seq .leaf .leaf)) .leaf)) (.sub (fun fr σ => c135_6 run fu (G fr 2) (G fr 5) (G fr 6) (G fr 15) σ))) (subC [true, false, true, true, true, true, true, true, true, true, true, true, true, true, true, true, true] b135) (frS 0 181 [(2, x2), (5, x5), (6, x6), (8, x8), (9, x9), (15, x15)]) σ (noGotoK k135) = c135_5 run fu x2 x5 x6 x8 x9 x15 σ := by kernel_rfl

theorem ok135_5 {run : RunT} (hrun : RunOK X0 run) (fu : Nat) : ∀ fr σ, KOK X0 181 (subC [true, false, true, true, true, true, true, true, true, true, true, true, true, true, true, true, true] b135) fr σ ((fun fr σ => c135_5 run fu (G fr 2) (G fr 5) (G fr 6) (G fr 8) (G fr 9) (G fr 15) σ) fr σ) (noGotoK k135) := fun fr σ =>
  KOK.piece env0 hrun [2, 5, 6, 8, 9, 15] (eq135_5 run fu (G fr 2) (G fr 5) (G fr 6) (G fr 8) (G fr 9) (G fr 15) σ) ⟨⟨trivial, ⟨⟨⟨trivial, ⟨⟨trivial, ⟨trivial, trivial⟩⟩, trivial⟩⟩, ⟨trivial, trivial⟩⟩, trivial⟩⟩, (ok135_6 hrun fu)⟩

noncomputable def c135_4 (run : RunT) (fu : Nat) (x2 x5 x6 x8 x9 : AV) (σ : Store) : Tr R :=
  newK σ 475 [.nilp] fun x15 σ1 =>
  ld1K σ1 x2 fun x119 =>
  calK run 129 [x119] σ1 fun x120 σ2 =>
  tasK (some .nilp) 237 true x120 fun x121 =>
  extK x121 0 fun x122 =>
  extK x121 1 fun x123 =>
  ifK x123 (
  st1K σ2 x15 x122 fun _ σ3 =>
  c135_5 run fu x2 x5 x6 x8 x9 x15 σ3) (
  c135_5 run fu x2 x5 x6 x8 x9 x15 σ2)

theorem eq135_4 (run : RunT) (fu : Nat) (x2 x5 x6 x8 x9 : AV) (σ : Store) : codeK X0 run (.seq .leaf (.seq (.seq .leaf (.seq .leaf (.cond .leaf .leaf))) (.sub (fun fr σ => c135_5 run fu (G fr 2) (G fr 5) (G fr 6) (G fr 8) (G fr 9) (G fr 15) σ)))) (subC [true, false, true, true, true, true, true, true, true, true, true, true, true, true, true] b135) (frS 0 181 [(2, x2), (5, x5), (6, x6), (8, x8), (9, x9)]) σ (noGotoK k135) = c135_4 run fu x2 x5 x6 x8 x9 σ := by kernel_rfl

theorem ok135_4 {run : RunT} (hrun : RunOK X0 run) (fu : Nat) : ∀ fr σ, KOK X0 181 (subC [true, false, true, true, true, true, true, true, true, true, true, true, true, true, true] b135) fr σ ((fun fr σ => c135_4 run fu (G fr 2) (G fr 5) (G fr 6) (G fr 8) (G fr 9) σ) fr σ) (noGotoK k135) := fun fr σ =>
  KOK.piece env0 hrun [2, 5, 6, 8, 9] (eq135_4 run fu (G fr 2) (G fr 5) (G fr 6) (G fr 8) (G fr 9) σ) ⟨trivial, ⟨⟨trivial, ⟨trivial, ⟨trivial, trivial⟩⟩⟩, (ok135_5 hrun fu)⟩⟩

noncomputable def c135_3 (run : RunT) (fu : Nat) (x2 x5 x6 x8 x9 x12 x13 : AV) (σ : Store) : Tr R :=
  calK run 139 [x12, (.int .i64 1), (.int .i64 1), (.bool true)] σ fun x112 σ1 =>
  notK x112 fun x113 =>
  ifK x113 (
  addK x6 x13 fun x116 =>
  ldNK σ1 x12 5 fun x117 =>
  stNK σ1 x5 5 x117 fun _ σ2 =>
  c135_4 run fu x2 x5 x116 x8 x9 σ2) (
  c135_4 run fu x2 x5 x6 x8 x9 σ1)

theorem eq135_3 (run : RunT) (fu : Nat) (x2 x5 x6 x8 x9 x12 x13 : AV) (σ : Store) : codeK X0 run (.seq (.seq .leaf (.cond (.seq .leaf .leaf) .leaf)) (.sub (fun fr σ => c135_4 run fu (G fr 2) (G fr 5) (G fr 6) (G fr 8) (G fr 9) σ))) (subC [true, false, true, true, true, true, true, true, true, true, true, true, true, true] b135) (frS 0 181 [(2, x2), (5, x5), (6, x6), (8, x8), (9, x9), (12, x12), (13, x13)]) σ (noGotoK k135) = c135_3 run fu x2 x5 x6 x8 x9 x12 x13 σ := by kernel_rfl

theorem ok135_3 {run : RunT} (hrun : RunOK X0 run) (fu : Nat) : ∀ fr σ, KOK X0 181 (subC [true, false, true, true, true, true, true, true, true, true, true, true, true, true] b135) fr σ ((fun fr σ => c135_3 run fu (G fr 2) (G fr 5) (G fr 6) (G fr 8) (G fr 9) (G fr 12) (G fr 13) σ) fr σ) (noGotoK k135) := fun fr σ =>
  KOK.piece env0 hrun [2, 5, 6, 8, 9, 12, 13] (eq135_3 run fu (G fr 2) (G fr 5) (G fr 6) (G fr 8) (G fr 9) (G fr 12) (G fr 13) σ) ⟨⟨trivial, ⟨⟨trivial, trivial⟩, trivial⟩⟩, (ok135_4 hrun fu)⟩

noncomputable def c135_7b (run : RunT) (fu : Nat) (s7 : W8) (x2 x5 x6 x8 x9 x12 x13 x14 : AV) (σ : Store) : Tr R :=
  cmpK .lss x14 (.int .i64 3) fun x104 =>
  grdK x104 true σ (fun f => calK run 139 [x12, (.int .i64 1), (.int .i64 1), (.bool false)] σ f) fun x106 σ1 =>
  pickK x104 x106 (.bool false) fun x107 =>
  ifK x107 (
  addK x13 (.int .i64 1) fun x111 =>
  addK x14 (.int .i64 1) fun x109 =>
  s7 x2 x5 x6 x8 x9 x12 x111 x109 σ1) (
  c135_3 run fu x2 x5 x6 x8 x9 x12 x13 σ1)

noncomputable def c135_7 (run : RunT) (fu : Nat) : Nat → W8
  | 0 => fun _ _ _ _ _ _ _ _ _ => .fail
  | m + 1 => c135_7b run fu (c135_7 run fu m)

theorem eq135_7 (run : RunT) (fu : Nat) (s7 : W8) (x2 x5 x6 x8 x9 x12 x13 x14 : AV) (σ : Store) : codeK X0 run (.seq (.seq .leaf (.cond .leaf .leaf)) (.seq (.block .leaf) .leaf)) (subC [true, false, true, true, true, true, true, true, true, true, true, true, true, false, true, false, false] b135) (frS 0 181 [(2, x2), (5, x5), (6, x6), (8, x8), (9, x9), (12, x12), (13, x13), (14, x14)]) σ (thenK (fun fr σ => s7 (G fr 2) (G fr 5) (G fr 6) (G fr 8) (G fr 9) (G fr 12) (G fr 13) (G fr 14) σ) (blockK 5 (thenK (fun fr σ => c135_3 run fu (G fr 2) (G fr 5) (G fr 6) (G fr 8) (G fr 9) (G fr 12) (G fr 13) σ) (noGotoK k135)))) = c135_7b run fu s7 x2 x5 x6 x8 x9 x12 x13 x14 σ := by kernel_rfl

theorem owed135_7 {run : RunT} (hrun : RunOK X0 run) (fu : Nat) (s7 : W8) : Owes X0 run 181 (.seq (.seq .leaf (.cond .leaf .leaf)) (.seq (.block .leaf) .leaf)) (subC [true, false, true, true, true, true, true, true, true, true, true, true, true, false, true, false, false] b135) (thenK (fun fr σ => s7 (G fr 2) (G fr 5) (G fr 6) (G fr 8) (G fr 9) (G fr 12) (G fr 13) (G fr 14) σ) (blockK 5 (thenK (fun fr σ => c135_3 run fu (G fr 2) (G fr 5) (G fr 6) (G fr 8) (G fr 9) (G fr 12) (G fr 13) σ) (noGotoK k135)))) :=
  ⟨⟨trivial, ⟨trivial, trivial⟩⟩, ⟨trivial, trivial⟩⟩

theorem ok135_7 {run : RunT} (hrun : RunOK X0 run) (fu : Nat) : ∀ fr σ, KOK X0 181 (subC [true, false, true, true, true, true, true, true, true, true, true, true, true, false, true, false] b135) fr σ ((fun fr σ => c135_7 run fu fu (G fr 2) (G fr 5) (G fr 6) (G fr 8) (G fr 9) (G fr 12) (G fr 13) (G fr 14) σ) fr σ) (blockK 5 (thenK (fun fr σ => c135_3 run fu (G fr 2) (G fr 5) (G fr 6) (G fr 8) (G fr 9) (G fr 12) (G fr 13) σ) (noGotoK k135))) := by
  have h := KOK.loop (X := X0) (N := 181) (b := (subC [true, false, true, true, true, true, true, true, true, true, true, true, true, false, true, false, false] b135)) (k := (blockK 5 (thenK (fun fr σ => c135_3 run fu (G fr 2) (G fr 5) (G fr 6) (G fr 8) (G fr 9) (G fr 12) (G fr 13) σ) (noGotoK k135)))) (u := fun m fr σ => c135_7 run fu m (G fr 2) (G fr 5) (G fr 6) (G fr 8) (G fr 9) (G fr 12) (G fr 13) (G fr 14) σ) (fun _ _ => rfl) (fun m fr σ => KOK.piece env0 hrun [2, 5, 6, 8, 9, 12, 13, 14] (eq135_7 run fu (c135_7 run fu m) (G fr 2) (G fr 5) (G fr 6) (G fr 8) (G fr 9) (G fr 12) (G fr 13) (G fr 14) σ) (owed135_7 hrun fu (c135_7 run fu m)))
  exact fun fr σ => h fu fr σ

noncomputable def c135_2 (run : RunT) (fu : Nat) (x2 x5 x6 x8 x9 : AV) (σ : Store) : Tr R :=
  calK run 139 [x5, (.int .i64 1), (.int .i64 1), (.bool true)] σ fun x98 σ1 =>
  notK x98 fun x99 =>
  ifK x99 (
  .ret ((.bool false), σ1)) (
  addK x6 (.int .i64 1) fun x101 =>
  ldNK σ1 x5 5 fun x102 =>
  newK σ1 201 [(.int .i64 0), (.int .i64 0), (.int .i64 0), (.str []), (.int .u8 0)] fun x12 σ2 =>
  stNK σ2 x12 5 x102 fun _ σ3 =>
  c135_7 run fu fu x2 x5 x101 x8 x9 x12 (.int .i64 0) (.int .i64 0) σ3)

theorem eq135_2 (run : RunT) (fu : Nat) (x2 x5 x6 x8 x9 : AV) (σ : Store) : codeK X0 run (.seq (.seq .leaf (.cond (.seq .leaf .leaf) .leaf)) (.seq .leaf (.seq .leaf (.seq .leaf (.seq (.seq .leaf (.block (.sub (fun fr σ => c135_7 run fu fu (G fr 2) (G fr 5) (G fr 6) (G fr 8) (G fr 9) (G fr 12) (G fr 13) (G fr 14) σ)))) (.sub (fun fr σ => c135_3 run fu (G fr 2) (G fr 5) (G fr 6) (G fr 8) (G fr 9) (G fr 12) (G fr 13) σ))))))) (subC [true, false, true, true, true, true, true, true, true] b135) (frS 0 181 [(2, x2), (5, x5), (6, x6), (8, x8), (9, x9)]) σ (noGotoK k135) = c135_2 run fu x2 x5 x6 x8 x9 σ := by kernel_rfl

theorem ok135_2 {run : RunT} (hrun : RunOK X0 run) (fu : Nat) : ∀ fr σ, KOK X0 181 (subC [true, false, true, true, true, true, true, true, true] b135) fr σ ((fun fr σ => c135_2 run fu (G fr 2) (G fr 5) (G fr 6) (G fr 8) (G fr 9) σ) fr σ) (noGotoK k135) := fun fr σ =>
  KOK.piece env0 hrun [2, 5, 6, 8, 9] (eq135_2 run fu (G fr 2) (G fr 5) (G fr 6) (G fr 8) (G fr 9) σ) ⟨⟨trivial, ⟨⟨trivial, trivial⟩, trivial⟩⟩, ⟨trivial, ⟨trivial, ⟨trivial, ⟨⟨trivial, (ok135_7 hrun fu)⟩, (ok135_3 hrun fu)⟩⟩⟩⟩⟩

noncomputable def c135_10b (run : RunT) (fu : Nat) (s10 : W5) (x2 x5 x6 x9 x10 : AV) (σ : Store) : Tr R :=
  addrK x5 3 fun x56 =>
  ld1K σ x56 fun x57 =>
  lenSK x57 fun x58 =>
  cmpK .geq x10 x58 fun x59 =>
  ifK x59 (
  .ret ((.bool false), σ)) (
  addrK x5 3 fun x60 =>
  ld1K σ x60 fun x61 =>
  idxSK x61 x10 fun x63 =>
  cmpK .eql x63 (.int .u8 46) fun x65 =>
  grdK x65 false σ (fun f => f x63 σ) fun x67 σ1 =>
  grdK x65 false σ1 (fun f => cmpK .eql x67 (.int .u8 41) fun v => f v σ1) fun x68 σ2 =>
  pickK x65 (.bool true) x68 fun x69 =>
  ifK x69 (
  addK x10 (.int .i64 1) fun x72 =>
  addrK x5 1 fun x75 =>
  ld1K σ2 x75 fun x76 =>
  subK x72 x76 fun x77 =>
  addK x6 x77 fun x78 =>
  addrK x5 1 fun x80 =>
  st1K σ2 x80 x72 fun _ σ3 =>
  c135_2 run fu x2 x5 x78 x63 x9 σ3) (
  cmpK .lss x63 (.int .u8 48) fun x82 =>
  grdK x82 false σ2 (fun f => f x63 σ2) fun x84 σ4 =>
  grdK x82 false σ4 (fun f => cmpK .lss (.int .u8 57) x84 fun v => f v σ4) fun x85 σ5 =>
  pickK x82 (.bool true) x85 fun x86 =>
  ifK x86 (
  .ret ((.bool false), σ5)) (
  addrK x5 1 fun x88 =>
  ld1K σ5 x88 fun x89 =>
  subK x10 x89 fun x90 =>
  cmpK .geq x90 (.int .i64 9) fun x91 =>
  ifK x91 (
  .ret ((.bool false), σ5)) (
  mulK x9 (.int .i64 10) fun x93 =>
  fitsK .i64 x63 fun x95 =>
  addK x93 x95 fun x96 =>
  subK x96 (.int .i64 48) fun x97 =>
  addK x10 (.int .i64 1) fun x54 =>
  s10 x2 x5 x6 x97 x54 σ5))))

noncomputable def c135_10 (run : RunT) (fu : Nat) : Nat → W5
  | 0 => fun _ _ _ _ _ _ => .fail
  | m + 1 => c135_10b run fu (c135_10 run fu m)

theorem eq135_10 (run : RunT) (fu : Nat) (s10 : W5) (x2 x5 x6 x9 x10 : AV) (σ : Store) : codeK X0 run (.seq (.block (.seq (.seq .leaf (.cond (.seq .leaf .leaf) .leaf)) (.seq .leaf (.seq (.seq .leaf (.cond (.seq .leaf (.seq .leaf (.seq .leaf (.seq .leaf .leaf)))) .leaf)) (.seq (.seq .leaf (.cond (.seq .leaf .leaf) .leaf)) (.seq (.seq .leaf (.cond (.seq .leaf .leaf) .leaf)) .leaf)))))) .leaf) (subC [true, false, true, true, true, true, true, true, false, true, false, true, true, true, false, true, false, false] b135) (frS 0 181 [(2, x2), (5, x5), (6, x6), (9, x9), (10, x10)]) σ (thenK (fun fr σ => s10 (G fr 2) (G fr 5) (G fr 6) (G fr 9) (G fr 10) σ) (blockK 3 (blockK 2 (thenK (fun fr σ => c135_2 run fu (G fr 2) (G fr 5) (G fr 6) (G fr 8) (G fr 9) σ) (noGotoK k135))))) = c135_10b run fu s10 x2 x5 x6 x9 x10 σ := by kernel_rfl

theorem owed135_10 {run : RunT} (hrun : RunOK X0 run) (fu : Nat) (s10 : W5) : Owes X0 run 181 (.seq (.block (.seq (.seq .leaf (.cond (.seq .leaf .leaf) .leaf)) (.seq .leaf (.seq (.seq .leaf (.cond (.seq .leaf (.seq .leaf (.seq .leaf (.seq .leaf .leaf)))) .leaf)) (.seq (.seq .leaf (.cond (.seq .leaf .leaf) .leaf)) (.seq (.seq .leaf (.cond (.seq .leaf .leaf) .leaf)) .leaf)))))) .leaf) (subC [true, false, true, true, true, true, true, true, false, true, false, true, true, true, false, true, false, false] b135) (thenK (fun fr σ => s10 (G fr 2) (G fr 5) (G fr 6) (G fr 9) (G fr 10) σ) (blockK 3 (blockK 2 (thenK (fun fr σ => c135_2 run fu (G fr 2) (G fr 5) (G fr 6) (G fr 8) (G fr 9) σ) (noGotoK k135))))) :=
  ⟨⟨⟨trivial, ⟨⟨trivial, trivial⟩, trivial⟩⟩, ⟨trivial, ⟨⟨trivial, ⟨⟨trivial, ⟨trivial, ⟨trivial, ⟨trivial, trivial⟩⟩⟩⟩, trivial⟩⟩, ⟨⟨trivial, ⟨⟨trivial, trivial⟩, trivial⟩⟩, ⟨⟨trivial, ⟨⟨trivial, trivial⟩, trivial⟩⟩, trivial⟩⟩⟩⟩⟩, trivial⟩

theorem ok135_10 {run : RunT} (hrun : RunOK X0 run) (fu : Nat) : ∀ fr σ, KOK X0 181 (subC [true, false, true, true, true, true, true, true, false, true, false, true, true, true, false, true, false] b135) fr σ ((fun fr σ => c135_10 run fu fu (G fr 2) (G fr 5) (G fr 6) (G fr 9) (G fr 10) σ) fr σ) (blockK 3 (blockK 2 (thenK (fun fr σ => c135_2 run fu (G fr 2) (G fr 5) (G fr 6) (G fr 8) (G fr 9) σ) (noGotoK k135)))) := by
  have h := KOK.loop (X := X0) (N := 181) (b := (subC [true, false, true, true, true, true, true, true, false, true, false, true, true, true, false, true, false, false] b135)) (k := (blockK 3 (blockK 2 (thenK (fun fr σ => c135_2 run fu (G fr 2) (G fr 5) (G fr 6) (G fr 8) (G fr 9) σ) (noGotoK k135))))) (u := fun m fr σ => c135_10 run fu m (G fr 2) (G fr 5) (G fr 6) (G fr 9) (G fr 10) σ) (fun _ _ => rfl) (fun m fr σ => KOK.piece env0 hrun [2, 5, 6, 9, 10] (eq135_10 run fu (c135_10 run fu m) (G fr 2) (G fr 5) (G fr 6) (G fr 9) (G fr 10) σ) (owed135_10 hrun fu (c135_10 run fu m)))
  exact fun fr σ => h fu fr σ

noncomputable def c135_10x (run : RunT) (fu : Nat) (s10 : W5) (x2 x5 x6 x9 x10 : AV) (σ : Store) : Tr R :=
  addrK x5 3 fun x56 =>
  ld1K σ x56 fun x57 =>
  lenSK x57 fun x58 =>
  cmpK .geq x10 x58 fun x59 =>
  ifK x59 (
  .fail) (
  addrK x5 3 fun x60 =>
  ld1K σ x60 fun x61 =>
  idxSK x61 x10 fun x63 =>
  cmpK .eql x63 (.int .u8 46) fun x65 =>
  grdK x65 false σ (fun f => f x63 σ) fun x67 σ1 =>
  grdK x65 false σ1 (fun f => cmpK .eql x67 (.int .u8 41) fun v => f v σ1) fun x68 σ2 =>
  pickK x65 (.bool true) x68 fun x69 =>
  ifK x69 (
  addK x10 (.int .i64 1) fun x72 =>
  addrK x5 1 fun x75 =>
  ld1K σ2 x75 fun x76 =>
  subK x72 x76 fun x77 =>
  addK x6 x77 fun x78 =>
  addrK x5 1 fun x80 =>
  st1K σ2 x80 x72 fun _ σ3 =>
  .fail) (
  cmpK .lss x63 (.int .u8 48) fun x82 =>
  grdK x82 false σ2 (fun f => f x63 σ2) fun x84 σ4 =>
  grdK x82 false σ4 (fun f => cmpK .lss (.int .u8 57) x84 fun v => f v σ4) fun x85 σ5 =>
  pickK x82 (.bool true) x85 fun x86 =>
  ifK x86 (
  .fail) (
  addrK x5 1 fun x88 =>
  ld1K σ5 x88 fun x89 =>
  subK x10 x89 fun x90 =>
  cmpK .geq x90 (.int .i64 9) fun x91 =>
  ifK x91 (
  .fail) (
  mulK x9 (.int .i64 10) fun x93 =>
  fitsK .i64 x63 fun x95 =>
  addK x93 x95 fun x96 =>
  subK x96 (.int .i64 48) fun x97 =>
  addK x10 (.int .i64 1) fun x54 =>
  s10 x2 x5 x6 x97 x54 σ5))))

theorem eq135_10x (run : RunT) (fu : Nat) (s10 : W5) (x2 x5 x6 x9 x10 : AV) (σ : Store) : codeK X0 run (.seq (.block (.seq (.seq .leaf (.cond (.seq .leaf .leaf) .leaf)) (.seq .leaf (.seq (.seq .leaf (.cond (.seq .leaf (.seq .leaf (.seq .leaf (.seq .leaf .leaf)))) .leaf)) (.seq (.seq .leaf (.cond (.seq .leaf .leaf) .leaf)) (.seq (.seq .leaf (.cond (.seq .leaf .leaf) .leaf)) .leaf)))))) .leaf) (subC [true, false, true, true, true, true, true, true, false, true, false, true, true, true, false, true, false, false] b135) (frS 0 181 [(2, x2), (5, x5), (6, x6), (9, x9), (10, x10)]) σ (thenK (fun fr σ => s10 (G fr 2) (G fr 5) (G fr 6) (G fr 9) (G fr 10) σ) failK) = c135_10x run fu s10 x2 x5 x6 x9 x10 σ := by kernel_rfl

theorem owed135_10x {run : RunT} (hrun : RunOK X0 run) (fu : Nat) (s10 : W5) : Owes X0 run 181 (.seq (.block (.seq (.seq .leaf (.cond (.seq .leaf .leaf) .leaf)) (.seq .leaf (.seq (.seq .leaf (.cond (.seq .leaf (.seq .leaf (.seq .leaf (.seq .leaf .leaf)))) .leaf)) (.seq (.seq .leaf (.cond (.seq .leaf .leaf) .leaf)) (.seq (.seq .leaf (.cond (.seq .leaf .leaf) .leaf)) .leaf)))))) .leaf) (subC [true, false, true, true, true, true, true, true, false, true, false, true, true, true, false, true, false, false] b135) (thenK (fun fr σ => s10 (G fr 2) (G fr 5) (G fr 6) (G fr 9) (G fr 10) σ) failK) :=
  ⟨⟨⟨trivial, ⟨⟨trivial, trivial⟩, trivial⟩⟩, ⟨trivial, ⟨⟨trivial, ⟨⟨trivial, ⟨trivial, ⟨trivial, ⟨trivial, trivial⟩⟩⟩⟩, trivial⟩⟩, ⟨⟨trivial, ⟨⟨trivial, trivial⟩, trivial⟩⟩, ⟨⟨trivial, ⟨⟨trivial, trivial⟩, trivial⟩⟩, trivial⟩⟩⟩⟩⟩, trivial⟩

noncomputable def c135_10s (run : RunT) (fu : Nat) : Nat → List AV → W0 :=
  sweepU (planOf (some 1) 103 4 [] [] [3]) (fun s2 xs σ => c135_10b run fu (fun y2 y5 y6 y9 y10 σ => s2 [y2, y5, y6, y9, y10] σ) (xs.getD 0 .any) (xs.getD 1 .any) (xs.getD 2 .any) (xs.getD 3 .any) (xs.getD 4 .any) σ) (fun s2 xs σ => c135_10x run fu (fun y2 y5 y6 y9 y10 σ => s2 [y2, y5, y6, y9, y10] σ) (xs.getD 0 .any) (xs.getD 1 .any) (xs.getD 2 .any) (xs.getD 3 .any) (xs.getD 4 .any) σ)

theorem ok135_10s {run : RunT} (hrun : RunOK X0 run) (fu : Nat) : ∀ fr σ, KOK X0 181 (subC [true, false, true, true, true, true, true, true, false, true, false, true, true, true, false, true, false] b135) fr σ ((fun fr σ => c135_10s run fu fu [fr.getD 2 .any, fr.getD 5 .any, fr.getD 6 .any, fr.getD 9 .any, fr.getD 10 .any] σ) fr σ) (blockK 3 (blockK 2 (thenK (fun fr σ => c135_2 run fu (G fr 2) (G fr 5) (G fr 6) (G fr 8) (G fr 9) σ) (noGotoK k135)))) := by
  have h := KOK.sweep (X := X0) (N := 181) (b := (subC [true, false, true, true, true, true, true, true, false, true, false, true, true, true, false, true, false, false] b135)) (k := (blockK 3 (blockK 2 (thenK (fun fr σ => c135_2 run fu (G fr 2) (G fr 5) (G fr 6) (G fr 8) (G fr 9) σ) (noGotoK k135))))) (js := [2, 5, 6, 9, 10]) (body := (fun s2 xs σ => c135_10b run fu (fun y2 y5 y6 y9 y10 σ => s2 [y2, y5, y6, y9, y10] σ) (xs.getD 0 .any) (xs.getD 1 .any) (xs.getD 2 .any) (xs.getD 3 .any) (xs.getD 4 .any) σ)) (bodyx := (fun s2 xs σ => c135_10x run fu (fun y2 y5 y6 y9 y10 σ => s2 [y2, y5, y6, y9, y10] σ) (xs.getD 0 .any) (xs.getD 1 .any) (xs.getD 2 .any) (xs.getD 3 .any) (xs.getD 4 .any) σ)) rfl (planOf (some 1) 103 4 [] [] [3]) (fun s2 fr σ => KOK.piece env0 hrun [2, 5, 6, 9, 10] (eq135_10 run fu (fun y2 y5 y6 y9 y10 σ => s2 [y2, y5, y6, y9, y10] σ) (G fr 2) (G fr 5) (G fr 6) (G fr 9) (G fr 10) σ) (owed135_10 hrun fu (fun y2 y5 y6 y9 y10 σ => s2 [y2, y5, y6, y9, y10] σ))) (fun s2 fr σ => KOK.piece env0 hrun [2, 5, 6, 9, 10] (eq135_10x run fu (fun y2 y5 y6 y9 y10 σ => s2 [y2, y5, y6, y9, y10] σ) (G fr 2) (G fr 5) (G fr 6) (G fr 9) (G fr 10) σ) (owed135_10x hrun fu (fun y2 y5 y6 y9 y10 σ => s2 [y2, y5, y6, y9, y10] σ)))
  exact fun fr σ => h fu fr σ

noncomputable def c135_9 (run : RunT) (fu : Nat) (x2 x5 x6 x9 x40 : AV) (σ : Store) : Tr R :=
  ifK x40 (
  addrK x5 1 fun x51 =>
  ld1K σ x51 fun x52 =>
  c135_10s run fu fu [x2, x5, x6, x9, x52] σ) (
  .ret ((.bool false), σ))

theorem eq135_9 (run : RunT) (fu : Nat) (x2 x5 x6 x9 x40 : AV) (σ : Store) : codeK X0 run (.cond (.seq .leaf (.block (.sub (fun fr σ => c135_10s run fu fu [fr.getD 2 .any, fr.getD 5 .any, fr.getD 6 .any, fr.getD 9 .any, fr.getD 10 .any] σ)))) (.seq .leaf .leaf)) (subC [true, false, true, true, true, true, true, true, false, true, false, true, true, true] b135) (frS 0 181 [(2, x2), (5, x5), (6, x6), (9, x9), (40, x40)]) σ (blockK 2 (thenK (fun fr σ => c135_2 run fu (G fr 2) (G fr 5) (G fr 6) (G fr 8) (G fr 9) σ) (noGotoK k135))) = c135_9 run fu x2 x5 x6 x9 x40 σ := by kernel_rfl

theorem ok135_9 {run : RunT} (hrun : RunOK X0 run) (fu : Nat) : ∀ fr σ, KOK X0 181 (subC [true, false, true, true, true, true, true, true, false, true, false, true, true, true] b135) fr σ ((fun fr σ => c135_9 run fu (G fr 2) (G fr 5) (G fr 6) (G fr 9) (G fr 40) σ) fr σ) (blockK 2 (thenK (fun fr σ => c135_2 run fu (G fr 2) (G fr 5) (G fr 6) (G fr 8) (G fr 9) σ) (noGotoK k135))) := fun fr σ =>
  KOK.piece env0 hrun [2, 5, 6, 9, 40] (eq135_9 run fu (G fr 2) (G fr 5) (G fr 6) (G fr 9) (G fr 40) σ) ⟨⟨trivial, (ok135_10s hrun fu)⟩, ⟨trivial, trivial⟩⟩

noncomputable def c135_8 (run : RunT) (fu : Nat) (x2 x5 x6 x8 x9 x31 x32 : AV) (σ : Store) : Tr R :=
  ifK x32 (
  calK run 168 [x5, x8] σ fun x37 σ1 =>
  addK x6 (.int .i64 1) fun x39 =>
  c135_2 run fu x2 x5 x39 x8 x9 σ1) (
  cmpK .eql x31 (.int .u8 48) fun x41 =>
  ifK x41 (
  c135_9 run fu x2 x5 x6 x9 x41 σ) (
  cmpK .eql x31 (.int .u8 49) fun x42 =>
  ifK x42 (
  c135_9 run fu x2 x5 x6 x9 x42 σ) (
  cmpK .eql x31 (.int .u8 50) fun x43 =>
  ifK x43 (
  c135_9 run fu x2 x5 x6 x9 x43 σ) (
  cmpK .eql x31 (.int .u8 51) fun x44 =>
  ifK x44 (
  c135_9 run fu x2 x5 x6 x9 x44 σ) (
  cmpK .eql x31 (.int .u8 52) fun x45 =>
  ifK x45 (
  c135_9 run fu x2 x5 x6 x9 x45 σ) (
  cmpK .eql x31 (.int .u8 53) fun x46 =>
  ifK x46 (
  c135_9 run fu x2 x5 x6 x9 x46 σ) (
  cmpK .eql x31 (.int .u8 54) fun x47 =>
  ifK x47 (
  c135_9 run fu x2 x5 x6 x9 x47 σ) (
  cmpK .eql x31 (.int .u8 55) fun x48 =>
  ifK x48 (
  c135_9 run fu x2 x5 x6 x9 x48 σ) (
  cmpK .eql x31 (.int .u8 56) fun x49 =>
  ifK x49 (
  c135_9 run fu x2 x5 x6 x9 x49 σ) (
  cmpK .eql x31 (.int .u8 57) fun x50 =>
  c135_9 run fu x2 x5 x6 x9 x50 σ))))))))))

theorem eq135_8 (run : RunT) (fu : Nat) (x2 x5 x6 x8 x9 x31 x32 : AV) (σ : Store) : codeK X0 run (.cond (.seq .leaf .leaf) (.seq (.seq .leaf (.cond .leaf (.seq .leaf (.cond .leaf (.seq .leaf (.cond .leaf (.seq .leaf (.cond .leaf (.seq .leaf (.cond .leaf (.seq .leaf (.cond .leaf (.seq .leaf (.cond .leaf (.seq .leaf (.cond .leaf (.seq .leaf (.cond .leaf .leaf)))))))))))))))))) (.sub (fun fr σ => c135_9 run fu (G fr 2) (G fr 5) (G fr 6) (G fr 9) (G fr 40) σ)))) (subC [true, false, true, true, true, true, true, true, false, true, false, true] b135) (frS 0 181 [(2, x2), (5, x5), (6, x6), (8, x8), (9, x9), (31, x31), (32, x32)]) σ (blockK 2 (thenK (fun fr σ => c135_2 run fu (G fr 2) (G fr 5) (G fr 6) (G fr 8) (G fr 9) σ) (noGotoK k135))) = c135_8 run fu x2 x5 x6 x8 x9 x31 x32 σ := by kernel_rfl

theorem ok135_8 {run : RunT} (hrun : RunOK X0 run) (fu : Nat) : ∀ fr σ, KOK X0 181 (subC [true, false, true, true, true, true, true, true, false, true, false, true] b135) fr σ ((fun fr σ => c135_8 run fu (G fr 2) (G fr 5) (G fr 6) (G fr 8) (G fr 9) (G fr 31) (G fr 32) σ) fr σ) (blockK 2 (thenK (fun fr σ => c135_2 run fu (G fr 2) (G fr 5) (G fr 6) (G fr 8) (G fr 9) σ) (noGotoK k135))) := fun fr σ =>
  KOK.piece env0 hrun [2, 5, 6, 8, 9, 31, 32] (eq135_8 run fu (G fr 2) (G fr 5) (G fr 6) (G fr 8) (G fr 9) (G fr 31) (G fr 32) σ) ⟨⟨trivial, trivial⟩, ⟨⟨trivial, ⟨trivial, ⟨trivial, ⟨trivial, ⟨trivial, ⟨trivial, ⟨trivial, ⟨trivial, ⟨trivial, ⟨trivial, ⟨trivial, ⟨trivial, ⟨trivial, ⟨trivial, ⟨trivial, ⟨trivial, ⟨trivial, ⟨trivial, trivial⟩⟩⟩⟩⟩⟩⟩⟩⟩⟩⟩⟩⟩⟩⟩⟩⟩⟩, (ok135_9 hrun fu)⟩⟩

noncomputable def c135_1 (run : RunT) (fu : Nat) (x2 x5 x6 : AV) (σ : Store) : Tr R :=
  calK run 170 [x5] σ fun x30 σ1 =>
  cmpK .eql x30 (.int .u8 45) fun x33 =>
  ifK x33 (
  c135_8 run fu x2 x5 x6 x30 (.int .i64 0) x30 x33 σ1) (
  cmpK .eql x30 (.int .u8 42) fun x34 =>
  ifK x34 (
  c135_8 run fu x2 x5 x6 x30 (.int .i64 0) x30 x34 σ1) (
  cmpK .eql x30 (.int .u8 43) fun x35 =>
  c135_8 run fu x2 x5 x6 x30 (.int .i64 0) x30 x35 σ1))

theorem eq135_1 (run : RunT) (fu : Nat) (x2 x5 x6 : AV) (σ : Store) : codeK X0 run (.seq .leaf (.seq .leaf (.seq .leaf (.seq (.seq .leaf (.block (.seq (.seq .leaf (.cond .leaf (.seq .leaf (.cond .leaf .leaf)))) (.sub (fun fr σ => c135_8 run fu (G fr 2) (G fr 5) (G fr 6) (G fr 8) (G fr 9) (G fr 31) (G fr 32) σ))))) (.sub (fun fr σ => c135_2 run fu (G fr 2) (G fr 5) (G fr 6) (G fr 8) (G fr 9) σ)))))) (subC [true, false, true, true, true] b135) (frS 0 181 [(2, x2), (5, x5), (6, x6)]) σ (noGotoK k135) = c135_1 run fu x2 x5 x6 σ := by kernel_rfl

theorem ok135_1 {run : RunT} (hrun : RunOK X0 run) (fu : Nat) : ∀ fr σ, KOK X0 181 (subC [true, false, true, true, true] b135) fr σ ((fun fr σ => c135_1 run fu (G fr 2) (G fr 5) (G fr 6) σ) fr σ) (noGotoK k135) := fun fr σ =>
  KOK.piece env0 hrun [2, 5, 6] (eq135_1 run fu (G fr 2) (G fr 5) (G fr 6) σ) ⟨trivial, ⟨trivial, ⟨trivial, ⟨⟨trivial, ⟨⟨trivial, ⟨trivial, ⟨trivial, ⟨trivial, trivial⟩⟩⟩⟩, (ok135_8 hrun fu)⟩⟩, (ok135_2 hrun fu)⟩⟩⟩⟩

noncomputable def c135_11b (run : RunT) (fu : Nat) (s11 : W4) (x2 x5 x6 x7 : AV) (σ : Store) : Tr R :=
  cmpK .lss x7 (.int .i64 3) fun x23 =>
  ifK x23 (
  calK run 139 [x5, (.int .i64 1), (.int .i64 1), (.bool false)] σ fun x26 σ1 =>
  notK x26 fun x27 =>
  ifK x27 (
  c135_1 run fu x2 x5 x6 σ1) (
  addK x6 (.int .i64 1) fun x29 =>
  addK x7 (.int .i64 1) fun x25 =>
  s11 x2 x5 x29 x25 σ1)) (
  c135_1 run fu x2 x5 x6 σ)

noncomputable def c135_11 (run : RunT) (fu : Nat) : Nat → W4
  | 0 => fun _ _ _ _ _ => .fail
  | m + 1 => c135_11b run fu (c135_11 run fu m)

theorem eq135_11 (run : RunT) (fu : Nat) (s11 : W4) (x2 x5 x6 x7 : AV) (σ : Store) : codeK X0 run (.seq (.seq .leaf (.cond .leaf .leaf)) (.seq (.block (.seq (.seq .leaf (.cond .leaf .leaf)) .leaf)) .leaf)) (subC [true, false, true, true, false, true, false, false] b135) (frS 0 181 [(2, x2), (5, x5), (6, x6), (7, x7)]) σ (thenK (fun fr σ => s11 (G fr 2) (G fr 5) (G fr 6) (G fr 7) σ) (blockK 0 (thenK (fun fr σ => c135_1 run fu (G fr 2) (G fr 5) (G fr 6) σ) (noGotoK k135)))) = c135_11b run fu s11 x2 x5 x6 x7 σ := by kernel_rfl

theorem owed135_11 {run : RunT} (hrun : RunOK X0 run) (fu : Nat) (s11 : W4) : Owes X0 run 181 (.seq (.seq .leaf (.cond .leaf .leaf)) (.seq (.block (.seq (.seq .leaf (.cond .leaf .leaf)) .leaf)) .leaf)) (subC [true, false, true, true, false, true, false, false] b135) (thenK (fun fr σ => s11 (G fr 2) (G fr 5) (G fr 6) (G fr 7) σ) (blockK 0 (thenK (fun fr σ => c135_1 run fu (G fr 2) (G fr 5) (G fr 6) σ) (noGotoK k135)))) :=
  ⟨⟨trivial, ⟨trivial, trivial⟩⟩, ⟨⟨⟨trivial, ⟨trivial, trivial⟩⟩, trivial⟩, trivial⟩⟩

theorem ok135_11 {run : RunT} (hrun : RunOK X0 run) (fu : Nat) : ∀ fr σ, KOK X0 181 (subC [true, false, true, true, false, true, false] b135) fr σ ((fun fr σ => c135_11 run fu fu (G fr 2) (G fr 5) (G fr 6) (G fr 7) σ) fr σ) (blockK 0 (thenK (fun fr σ => c135_1 run fu (G fr 2) (G fr 5) (G fr 6) σ) (noGotoK k135))) := by
  have h := KOK.loop (X := X0) (N := 181) (b := (subC [true, false, true, true, false, true, false, false] b135)) (k := (blockK 0 (thenK (fun fr σ => c135_1 run fu (G fr 2) (G fr 5) (G fr 6) σ) (noGotoK k135)))) (u := fun m fr σ => c135_11 run fu m (G fr 2) (G fr 5) (G fr 6) (G fr 7) σ) (fun _ _ => rfl) (fun m fr σ => KOK.piece env0 hrun [2, 5, 6, 7] (eq135_11 run fu (c135_11 run fu m) (G fr 2) (G fr 5) (G fr 6) (G fr 7) σ) (owed135_11 hrun fu (c135_11 run fu m)))
  exact fun fr σ => h fu fr σ

noncomputable def c135 (run : RunT) (fu : Nat) (x0 x1 : AV) (σ : Store) : Tr R :=
  boxK σ 221 x0 fun x2 σ1 =>
  nchkK x1 fun x20 =>
  ldNK σ1 x20 5 fun x21 =>
  newK σ1 201 [(.int .i64 0), (.int .i64 0), (.int .i64 0), (.str []), (.int .u8 0)] fun x5 σ2 =>
  stNK σ2 x5 5 x21 fun _ σ3 =>
  c135_11 run fu fu x2 x5 (.int .i64 0) (.int .i64 0) σ3

theorem eq135 (run : RunT) (fu : Nat) (x0 x1 : AV) (σ : Store) : codeK X0 run (.seq .leaf (.scope (.seq .leaf (.seq .leaf (.seq (.seq .leaf (.block (.sub (fun fr σ => c135_11 run fu fu (G fr 2) (G fr 5) (G fr 6) (G fr 7) σ)))) (.sub (fun fr σ => c135_1 run fu (G fr 2) (G fr 5) (G fr 6) σ))))))) (subC [] b135) ([x0, x1] ++ padA (181 - 2)) σ k135 = c135 run fu x0 x1 σ := by kernel_rfl

theorem ok135 {run : RunT} (hrun : RunOK X0 run) (fu : Nat) (x0 x1 : AV) (σ : Store) : CallOK X0 135 [x0, x1] σ (c135 run fu x0 x1 σ) :=
  KOK.body (fn := Tryz.f135) (c := subC [] b135) (by kernel_rfl) (by kernel_rfl) (by show 2 ≤ 181; decide) (KOK.whole env0 hrun (eq135 run fu x0 x1 σ) ⟨trivial, ⟨trivial, ⟨trivial, ⟨⟨trivial, (ok135_11 hrun fu)⟩, (ok135_1 hrun fu)⟩⟩⟩⟩)

-- (*pub-paratext/pub/rscmarkdown.parseState).startHTML

noncomputable def b136 : Code := match Tryz.f136.body with | some c => c | none => .skip

noncomputable def k136 : Kont R := retK Tryz.prog [.tmp 4]

noncomputable def c136_3 (run : RunT) (fu : Nat) (s1 : W5) (σ : Store) : Tr R :=
  .ret ((.bool false), σ)

theorem eq136_3 (run : RunT) (fu : Nat) (s1 : W5) (σ : Store) : codeK X0 run (.seq .leaf .leaf) (subC [true, true, true] (lblC 0 (subC [true, false] b136))) (frS 0 368 []) σ (scopeK (subC [true, false] b136) (lblU 0 (fun fr σ => s1 (G fr 0) (G fr 1) (G fr 6) (G fr 9) (G fr 10) σ)) k136) = c136_3 run fu s1 σ := by kernel_rfl

theorem ok136_3 {run : RunT} (hrun : RunOK X0 run) (fu : Nat) (s1 : W5) : ∀ fr σ, KOK X0 368 (subC [true, true, true] (lblC 0 (subC [true, false] b136))) fr σ ((fun fr σ => c136_3 run fu s1 σ) fr σ) (scopeK (subC [true, false] b136) (lblU 0 (fun fr σ => s1 (G fr 0) (G fr 1) (G fr 6) (G fr 9) (G fr 10) σ)) k136) := fun fr σ =>
  KOK.piece env0 hrun [] (eq136_3 run fu s1 σ) ⟨trivial, trivial⟩

noncomputable def c136_4 (run : RunT) (fu : Nat) (s1 : W5) (x0 x1 x6 : AV) (σ : Store) : Tr R :=
  calK run 149 [x0, x6, (.int .i64 0)] σ fun x338 σ1 =>
  extK x338 0 fun x339 =>
  extK x338 1 fun x340 =>
  extK x338 2 fun x341 =>
  grdK x341 true σ1 (fun f => f x6 σ1) fun x344 σ2 =>
  grdK x341 true σ2 (fun f => f x340 σ2) fun x345 σ3 =>
  grdK x341 true σ3 (fun f => calK run 110 [x344, x345] σ3 f) fun x346 σ4 =>
  grdK x341 true σ4 (fun f => f x6 σ4) fun x347 σ5 =>
  grdK x341 true σ5 (fun f => lenSK x347 fun v => f v σ5) fun x348 σ6 =>
  grdK x341 true σ6 (fun f => cmpK .eql x346 x348 fun v => f v σ6) fun x349 σ7 =>
  pickK x341 x349 (.bool false) fun x350 =>
  ifK x350 (
  bldK [(.bool false), .nils, .nilf] [(0, 1, (.bool true))] fun x351 =>
  boxK σ7 559 x351 fun x352 σ8 =>
  calK run 49 [x0, (.iface 277 x352)] σ8 fun x356 σ9 =>
  nchkK x352 fun x359 =>
  addrK x359 1 fun x360 =>
  ld1K σ9 x360 fun x361 =>
  calK run 122 [x1] σ9 fun x363 σ10 =>
  opt (fillK [(.str [])] [(0, 1, x363)]) fun cs => newSK σ10 19 cs 1 1 fun x364 σ11 =>
  appK 9 1 16 σ11 x361 x364 fun x365 σ12 =>
  nchkK x352 fun x366 =>
  addrK x366 1 fun x367 =>
  st1K σ12 x367 x365 fun _ σ13 =>
  ld1K σ10 x360 fun v14 =>
  must (AV.beq v14 x361) (
  ld1K σ11 x360 fun v15 =>
  must (AV.beq v15 x361) (
  .ret ((.bool true), σ13)))) (
  c136_3 run fu s1 σ7)

theorem eq136_4 (run : RunT) (fu : Nat) (s1 : W5) (x0 x1 x6 : AV) (σ : Store) : codeK X0 run (.seq .leaf (.seq .leaf (.cond (.seq .leaf (.seq .leaf (.seq .leaf (.seq .leaf .leaf)))) .leaf))) (subC [true, true, false, true, false, true] (lblC 0 (subC [true, false] b136))) (frS 0 368 [(0, x0), (1, x1), (6, x6)]) σ (thenK (fun fr σ => c136_3 run fu s1 σ) (scopeK (subC [true, false] b136) (lblU 0 (fun fr σ => s1 (G fr 0) (G fr 1) (G fr 6) (G fr 9) (G fr 10) σ)) k136)) = c136_4 run fu s1 x0 x1 x6 σ := by kernel_rfl

theorem ok136_4 {run : RunT} (hrun : RunOK X0 run) (fu : Nat) (s1 : W5) : ∀ fr σ, KOK X0 368 (subC [true, true, false, true, false, true] (lblC 0 (subC [true, false] b136))) fr σ ((fun fr σ => c136_4 run fu s1 (G fr 0) (G fr 1) (G fr 6) σ) fr σ) (thenK (fun fr σ => c136_3 run fu s1 σ) (scopeK (subC [true, false] b136) (lblU 0 (fun fr σ => s1 (G fr 0) (G fr 1) (G fr 6) (G fr 9) (G fr 10) σ)) k136)) := fun fr σ =>
  KOK.piece env0 hrun [0, 1, 6] (eq136_4 run fu s1 (G fr 0) (G fr 1) (G fr 6) σ) ⟨trivial, ⟨trivial, ⟨⟨trivial, ⟨trivial, ⟨trivial, ⟨trivial, trivial⟩⟩⟩⟩, trivial⟩⟩⟩

noncomputable def c136_5 (run : RunT) (fu : Nat) (s1 : W5) (x0 x1 : AV) (σ : Store) : Tr R :=
  bldK [(.bool false), .nils, .nilf] [(0, 1, (.bool true))] fun x318 =>
  boxK σ 559 x318 fun x319 σ1 =>
  calK run 49 [x0, (.iface 277 x319)] σ1 fun x323 σ2 =>
  nchkK x319 fun x326 =>
  addrK x326 1 fun x327 =>
  ld1K σ2 x327 fun x328 =>
  calK run 122 [x1] σ2 fun x330 σ3 =>
  opt (fillK [(.str [])] [(0, 1, x330)]) fun cs => newSK σ3 19 cs 1 1 fun x331 σ4 =>
  appK 9 1 16 σ4 x328 x331 fun x332 σ5 =>
  nchkK x319 fun x333 =>
  addrK x333 1 fun x334 =>
  st1K σ5 x334 x332 fun _ σ6 =>
  ld1K σ3 x327 fun v7 =>
  must (AV.beq v7 x328) (
  ld1K σ4 x327 fun v8 =>
  must (AV.beq v8 x328) (
  .ret ((.bool true), σ6)))

theorem eq136_5 (run : RunT) (fu : Nat) (s1 : W5) (x0 x1 : AV) (σ : Store) : codeK X0 run (.seq .leaf (.seq .leaf (.seq .leaf (.seq .leaf .leaf)))) (subC [true, true, false, true, false, false, true, true, false, true] (lblC 0 (subC [true, false] b136))) (frS 0 368 [(0, x0), (1, x1)]) σ (thenK (fun fr σ => c136_4 run fu s1 (G fr 0) (G fr 1) (G fr 6) σ) (thenK (fun fr σ => c136_3 run fu s1 σ) (scopeK (subC [true, false] b136) (lblU 0 (fun fr σ => s1 (G fr 0) (G fr 1) (G fr 6) (G fr 9) (G fr 10) σ)) k136))) = c136_5 run fu s1 x0 x1 σ := by kernel_rfl

theorem ok136_5 {run : RunT} (hrun : RunOK X0 run) (fu : Nat) (s1 : W5) : ∀ fr σ, KOK X0 368 (subC [true, true, false, true, false, false, true, true, false, true] (lblC 0 (subC [true, false] b136))) fr σ ((fun fr σ => c136_5 run fu s1 (G fr 0) (G fr 1) σ) fr σ) (thenK (fun fr σ => c136_4 run fu s1 (G fr 0) (G fr 1) (G fr 6) σ) (thenK (fun fr σ => c136_3 run fu s1 σ) (scopeK (subC [true, false] b136) (lblU 0 (fun fr σ => s1 (G fr 0) (G fr 1) (G fr 6) (G fr 9) (G fr 10) σ)) k136))) := fun fr σ =>
  KOK.piece env0 hrun [0, 1] (eq136_5 run fu s1 (G fr 0) (G fr 1) σ) ⟨trivial, ⟨trivial, ⟨trivial, ⟨trivial, trivial⟩⟩⟩⟩

noncomputable def c136_2 (run : RunT) (fu : Nat) (s1 : W5) (x0 x1 x6 : AV) (σ : Store) : Tr R :=
  calK run 89 [x0] σ fun x293 σ1 =>
  eqOK (nilEq nilP) x293 .nilp fun x294 =>
  ifK x294 (
  calK run 148 [x0, x6, (.int .i64 0)] σ1 fun x298 σ2 =>
  extK x298 0 fun x299 =>
  extK x298 1 fun x300 =>
  extK x298 2 fun x301 =>
  grdK x301 true σ2 (fun f => f x6 σ2) fun x304 σ3 =>
  grdK x301 true σ3 (fun f => f x300 σ3) fun x305 σ4 =>
  grdK x301 true σ4 (fun f => calK run 110 [x304, x305] σ4 f) fun x306 σ5 =>
  grdK x301 true σ5 (fun f => f x6 σ5) fun x307 σ6 =>
  grdK x301 true σ6 (fun f => lenSK x307 fun v => f v σ6) fun x308 σ7 =>
  grdK x301 true σ7 (fun f => cmpK .eql x306 x308 fun v => f v σ7) fun x309 σ8 =>
  pickK x301 x309 (.bool false) fun x310 =>
  ifK x310 (
  lenSK x6 fun x313 =>
  cmpK .neq x300 x313 fun x314 =>
  ifK x314 (
  nchkK x0 fun x316 =>
  addrK x316 6 fun x317 =>
  st1K σ8 x317 (.bool true) fun _ σ9 =>
  c136_5 run fu s1 x0 x1 σ9) (
  c136_5 run fu s1 x0 x1 σ8)) (
  c136_4 run fu s1 x0 x1 x6 σ8)) (
  c136_3 run fu s1 σ1)

theorem eq136_2 (run : RunT) (fu : Nat) (s1 : W5) (x0 x1 x6 : AV) (σ : Store) : codeK X0 run (.seq (.seq .leaf (.cond (.seq (.seq .leaf (.seq .leaf (.cond (.seq (.seq .leaf (.cond .leaf .leaf)) (.sub (fun fr σ => c136_5 run fu s1 (G fr 0) (G fr 1) σ))) .leaf))) (.sub (fun fr σ => c136_4 run fu s1 (G fr 0) (G fr 1) (G fr 6) σ))) .leaf)) (.sub (fun fr σ => c136_3 run fu s1 σ))) (subC [true, true] (lblC 0 (subC [true, false] b136))) (frS 0 368 [(0, x0), (1, x1), (6, x6)]) σ (scopeK (subC [true, false] b136) (lblU 0 (fun fr σ => s1 (G fr 0) (G fr 1) (G fr 6) (G fr 9) (G fr 10) σ)) k136) = c136_2 run fu s1 x0 x1 x6 σ := by kernel_rfl

theorem ok136_2 {run : RunT} (hrun : RunOK X0 run) (fu : Nat) (s1 : W5) : ∀ fr σ, KOK X0 368 (subC [true, true] (lblC 0 (subC [true, false] b136))) fr σ ((fun fr σ => c136_2 run fu s1 (G fr 0) (G fr 1) (G fr 6) σ) fr σ) (scopeK (subC [true, false] b136) (lblU 0 (fun fr σ => s1 (G fr 0) (G fr 1) (G fr 6) (G fr 9) (G fr 10) σ)) k136) := fun fr σ =>
  KOK.piece env0 hrun [0, 1, 6] (eq136_2 run fu s1 (G fr 0) (G fr 1) (G fr 6) σ) ⟨⟨trivial, ⟨⟨⟨trivial, ⟨trivial, ⟨⟨⟨trivial, ⟨trivial, trivial⟩⟩, (ok136_5 hrun fu s1)⟩, trivial⟩⟩⟩, (ok136_4 hrun fu s1)⟩, trivial⟩⟩, (ok136_3 hrun fu s1)⟩

noncomputable def c136_7 (run : RunT) (fu : Nat) (s1 : W5) (σ : Store) : Tr R :=
  .ret ((.bool true), σ)

theorem eq136_7 (run : RunT) (fu : Nat) (s1 : W5) (σ : Store) : codeK X0 run (.seq .leaf .leaf) (subC [true, false, true, false, true, false, true, false, true, true, true, true] (lblC 0 (subC [true, false] b136))) (frS 0 368 []) σ (blockK 6 (thenK (fun fr σ => c136_2 run fu s1 (G fr 0) (G fr 1) (G fr 6) σ) (scopeK (subC [true, false] b136) (lblU 0 (fun fr σ => s1 (G fr 0) (G fr 1) (G fr 6) (G fr 9) (G fr 10) σ)) k136))) = c136_7 run fu s1 σ := by kernel_rfl

theorem ok136_7 {run : RunT} (hrun : RunOK X0 run) (fu : Nat) (s1 : W5) : ∀ fr σ, KOK X0 368 (subC [true, false, true, false, true, false, true, false, true, true, true, true] (lblC 0 (subC [true, false] b136))) fr σ ((fun fr σ => c136_7 run fu s1 σ) fr σ) (blockK 6 (thenK (fun fr σ => c136_2 run fu s1 (G fr 0) (G fr 1) (G fr 6) σ) (scopeK (subC [true, false] b136) (lblU 0 (fun fr σ => s1 (G fr 0) (G fr 1) (G fr 6) (G fr 9) (G fr 10) σ)) k136))) := fun fr σ =>
  KOK.piece env0 hrun [] (eq136_7 run fu s1 σ) ⟨trivial, trivial⟩

noncomputable def c136_6 (run : RunT) (fu : Nat) (s1 : W5) (x0 x1 x6 x266 : AV) (σ : Store) : Tr R :=
  ifK x266 (
  bldK [(.bool false), .nils, .nilf] [(2, 1, (.fn (.func 176) [] []))] fun x271 =>
  boxK σ 559 x271 fun x272 σ1 =>
  calK run 49 [x0, (.iface 277 x272)] σ1 fun x276 σ2 =>
  nchkK x272 fun x279 =>
  addrK x279 1 fun x280 =>
  ld1K σ2 x280 fun x281 =>
  calK run 122 [x1] σ2 fun x283 σ3 =>
  opt (fillK [(.str [])] [(0, 1, x283)]) fun cs => newSK σ3 19 cs 1 1 fun x284 σ4 =>
  appK 9 1 16 σ4 x281 x284 fun x285 σ5 =>
  nchkK x272 fun x286 =>
  addrK x286 1 fun x287 =>
  st1K σ5 x287 x285 fun _ σ6 =>
  ld1K σ3 x280 fun v7 =>
  must (AV.beq v7 x281) (
  ld1K σ4 x280 fun v8 =>
  must (AV.beq v8 x281) (
  calK run 176 [x6] σ6 fun x289 σ9 =>
  ifK x289 (
  calK run 59 [x0] σ9 fun x291 σ10 =>
  c136_7 run fu s1 σ10) (
  c136_7 run fu s1 σ9)))) (
  c136_2 run fu s1 x0 x1 x6 σ)

theorem eq136_6 (run : RunT) (fu : Nat) (s1 : W5) (x0 x1 x6 x266 : AV) (σ : Store) : codeK X0 run (.cond (.seq .leaf (.seq .leaf (.seq .leaf (.seq (.seq .leaf (.cond .leaf .leaf)) (.sub (fun fr σ => c136_7 run fu s1 σ)))))) .leaf) (subC [true, false, true, false, true, false, true] (lblC 0 (subC [true, false] b136))) (frS 0 368 [(0, x0), (1, x1), (6, x6), (266, x266)]) σ (blockK 6 (thenK (fun fr σ => c136_2 run fu s1 (G fr 0) (G fr 1) (G fr 6) σ) (scopeK (subC [true, false] b136) (lblU 0 (fun fr σ => s1 (G fr 0) (G fr 1) (G fr 6) (G fr 9) (G fr 10) σ)) k136))) = c136_6 run fu s1 x0 x1 x6 x266 σ := by kernel_rfl

theorem ok136_6 {run : RunT} (hrun : RunOK X0 run) (fu : Nat) (s1 : W5) : ∀ fr σ, KOK X0 368 (subC [true, false, true, false, true, false, true] (lblC 0 (subC [true, false] b136))) fr σ ((fun fr σ => c136_6 run fu s1 (G fr 0) (G fr 1) (G fr 6) (G fr 266) σ) fr σ) (blockK 6 (thenK (fun fr σ => c136_2 run fu s1 (G fr 0) (G fr 1) (G fr 6) σ) (scopeK (subC [true, false] b136) (lblU 0 (fun fr σ => s1 (G fr 0) (G fr 1) (G fr 6) (G fr 9) (G fr 10) σ)) k136))) := fun fr σ =>
  KOK.piece env0 hrun [0, 1, 6, 266] (eq136_6 run fu s1 (G fr 0) (G fr 1) (G fr 6) (G fr 266) σ) ⟨⟨trivial, ⟨trivial, ⟨trivial, ⟨⟨trivial, ⟨trivial, trivial⟩⟩, (ok136_7 hrun fu s1)⟩⟩⟩⟩, trivial⟩

noncomputable def c136_1Lb (run : RunT) (fu : Nat) (s1 : W5) (x0 x1 x6 x9 x10 : AV) (σ : Store) : Tr R :=
  lenSK x6 fun x233 =>
  cmpK .gtr x233 (.int .i64 1) fun x234 =>
  grdK x234 true σ (fun f => f x6 σ) fun x236 σ1 =>
  grdK x234 true σ1 (fun f => idxSK x236 (.int .i64 1) fun v => f v σ1) fun x237 σ2 =>
  grdK x234 true σ2 (fun f => cmpK .neq x237 (.int .u8 47) fun v => f v σ2) fun x238 σ3 =>
  pickK x234 x238 (.bool false) fun x239 =>
  grdK x239 true σ3 (fun f => f x9 σ3) fun x241 σ4 =>
  grdK x239 true σ4 (fun f => f x6 σ4) fun x242 σ5 =>
  grdK x239 true σ5 (fun f => lenSK x242 fun v => f v σ5) fun x243 σ6 =>
  grdK x239 true σ6 (fun f => cmpK .geq x241 x243 fun v => f v σ6) fun x244 σ7 =>
  grdK x239 true σ7 (fun f => f x244 σ7) fun x245 σ8 =>
  grdK x245 false σ8 (fun f => f x6 σ8) fun x246 σ9 =>
  grdK x245 false σ9 (fun f => f x9 σ9) fun x247 σ10 =>
  grdK x245 false σ10 (fun f => idxSK x246 x247 fun v => f v σ10) fun x248 σ11 =>
  grdK x245 false σ11 (fun f => cmpK .eql x248 (.int .u8 32) fun v => f v σ11) fun x249 σ12 =>
  grdK x239 true σ12 (fun f => pickK x245 (.bool true) x249 fun v => f v σ12) fun x250 σ13 =>
  grdK x239 true σ13 (fun f => f x250 σ13) fun x251 σ14 =>
  grdK x251 false σ14 (fun f => f x6 σ14) fun x252 σ15 =>
  grdK x251 false σ15 (fun f => f x9 σ15) fun x253 σ16 =>
  grdK x251 false σ16 (fun f => idxSK x252 x253 fun v => f v σ16) fun x254 σ17 =>
  grdK x251 false σ17 (fun f => cmpK .eql x254 (.int .u8 9) fun v => f v σ17) fun x255 σ18 =>
  grdK x239 true σ18 (fun f => pickK x251 (.bool true) x255 fun v => f v σ18) fun x256 σ19 =>
  grdK x239 true σ19 (fun f => f x256 σ19) fun x257 σ20 =>
  grdK x257 false σ20 (fun f => f x6 σ20) fun x258 σ21 =>
  grdK x257 false σ21 (fun f => f x9 σ21) fun x259 σ22 =>
  grdK x257 false σ22 (fun f => idxSK x258 x259 fun v => f v σ22) fun x260 σ23 =>
  grdK x257 false σ23 (fun f => cmpK .eql x260 (.int .u8 62) fun v => f v σ23) fun x261 σ24 =>
  grdK x239 true σ24 (fun f => pickK x257 (.bool true) x261 fun v => f v σ24) fun x262 σ25 =>
  pickK x239 x262 (.bool false) fun x263 =>
  ifK x263 (
  b2sK σ25 x10 fun x265 =>
  eqSK x265 (.str [112, 114, 101]) fun x267 =>
  ifK x267 (
  c136_6 run fu s1 x0 x1 x6 x267 σ25) (
  eqSK x265 (.str [115, 99, 114, 105, 112, 116]) fun x268 =>
  ifK x268 (
  c136_6 run fu s1 x0 x1 x6 x268 σ25) (
  eqSK x265 (.str [115, 116, 121, 108, 101]) fun x269 =>
  ifK x269 (
  c136_6 run fu s1 x0 x1 x6 x269 σ25) (
  eqSK x265 (.str [116, 101, 120, 116, 97, 114, 101, 97]) fun x270 =>
  c136_6 run fu s1 x0 x1 x6 x270 σ25)))) (
  c136_2 run fu s1 x0 x1 x6 σ25)

noncomputable def c136_1L (run : RunT) (fu : Nat) : Nat → W5
  | 0 => fun _ _ _ _ _ _ => .fail
  | m + 1 => c136_1Lb run fu (c136_1L run fu m)

theorem eq136_1L (run : RunT) (fu : Nat) (s1 : W5) (x0 x1 x6 x9 x10 : AV) (σ : Store) : codeK X0 run (.seq .leaf (.seq (.seq .leaf (.cond (.seq .leaf (.block (.seq (.seq .leaf (.cond .leaf (.seq .leaf (.cond .leaf (.seq .leaf (.cond .leaf .leaf)))))) (.sub (fun fr σ => c136_6 run fu s1 (G fr 0) (G fr 1) (G fr 6) (G fr 266) σ))))) .leaf)) (.sub (fun fr σ => c136_2 run fu s1 (G fr 0) (G fr 1) (G fr 6) σ)))) (subC [] (lblC 0 (subC [true, false] b136))) (frS 0 368 [(0, x0), (1, x1), (6, x6), (9, x9), (10, x10)]) σ (scopeK (subC [true, false] b136) (lblU 0 (fun fr σ => s1 (G fr 0) (G fr 1) (G fr 6) (G fr 9) (G fr 10) σ)) k136) = c136_1Lb run fu s1 x0 x1 x6 x9 x10 σ := by kernel_rfl

theorem owed136_1L {run : RunT} (hrun : RunOK X0 run) (fu : Nat) (s1 : W5) : Owes X0 run 368 (.seq .leaf (.seq (.seq .leaf (.cond (.seq .leaf (.block (.seq (.seq .leaf (.cond .leaf (.seq .leaf (.cond .leaf (.seq .leaf (.cond .leaf .leaf)))))) (.sub (fun fr σ => c136_6 run fu s1 (G fr 0) (G fr 1) (G fr 6) (G fr 266) σ))))) .leaf)) (.sub (fun fr σ => c136_2 run fu s1 (G fr 0) (G fr 1) (G fr 6) σ)))) (subC [] (lblC 0 (subC [true, false] b136))) (scopeK (subC [true, false] b136) (lblU 0 (fun fr σ => s1 (G fr 0) (G fr 1) (G fr 6) (G fr 9) (G fr 10) σ)) k136) :=
  ⟨trivial, ⟨⟨trivial, ⟨⟨trivial, ⟨⟨trivial, ⟨trivial, ⟨trivial, ⟨trivial, ⟨trivial, ⟨trivial, trivial⟩⟩⟩⟩⟩⟩, (ok136_6 hrun fu s1)⟩⟩, trivial⟩⟩, (ok136_2 hrun fu s1)⟩⟩

noncomputable def c136_13 (run : RunT) (fu : Nat) (x0 x1 : AV) (σ : Store) : Tr R :=
  bldK [(.bool false), .nils, .nilf] [(0, 1, (.bool true))] fun x215 =>
  boxK σ 559 x215 fun x216 σ1 =>
  calK run 49 [x0, (.iface 277 x216)] σ1 fun x220 σ2 =>
  nchkK x216 fun x223 =>
  addrK x223 1 fun x224 =>
  ld1K σ2 x224 fun x225 =>
  calK run 122 [x1] σ2 fun x227 σ3 =>
  opt (fillK [(.str [])] [(0, 1, x227)]) fun cs => newSK σ3 19 cs 1 1 fun x228 σ4 =>
  appK 9 1 16 σ4 x225 x228 fun x229 σ5 =>
  nchkK x216 fun x230 =>
  addrK x230 1 fun x231 =>
  st1K σ5 x231 x229 fun _ σ6 =>
  ld1K σ3 x224 fun v7 =>
  must (AV.beq v7 x225) (
  ld1K σ4 x224 fun v8 =>
  must (AV.beq v8 x225) (
  .ret ((.bool true), σ6)))

theorem eq136_13 (run : RunT) (fu : Nat) (x0 x1 : AV) (σ : Store) : codeK X0 run (.seq (.seq .leaf (.seq .leaf (.seq .leaf (.seq .leaf .leaf)))) .leaf) (subC [true, false, true, true, true, true, true, true, true, true, true, true, true, true, true, true, true] b136) (frS 0 368 [(0, x0), (1, x1)]) σ (scopeK (subC [true, false] b136) (lblU 0 (fun fr σ => c136_1L run fu fu (G fr 0) (G fr 1) (G fr 6) (G fr 9) (G fr 10) σ)) k136) = c136_13 run fu x0 x1 σ := by kernel_rfl

theorem ok136_13 {run : RunT} (hrun : RunOK X0 run) (fu : Nat) : ∀ fr σ, KOK X0 368 (subC [true, false, true, true, true, true, true, true, true, true, true, true, true, true, true, true, true] b136) fr σ ((fun fr σ => c136_13 run fu (G fr 0) (G fr 1) σ) fr σ) (scopeK (subC [true, false] b136) (lblU 0 (fun fr σ => c136_1L run fu fu (G fr 0) (G fr 1) (G fr 6) (G fr 9) (G fr 10) σ)) k136) := fun fr σ =>
  KOK.piece env0 hrun [0, 1] (eq136_13 run fu (G fr 0) (G fr 1) σ) ⟨⟨trivial, ⟨trivial, ⟨trivial, ⟨trivial, trivial⟩⟩⟩⟩, trivial⟩

noncomputable def c136_14 (run : RunT) (fu : Nat) (x0 x1 x6 x9 x10 x14 : AV) (σ : Store) : Tr R :=
  notK x14 fun x214 =>
  ifK x214 (
  c136_1L run fu fu x0 x1 x6 x9 x10 σ) (
  c136_13 run fu x0 x1 σ)

theorem eq136_14 (run : RunT) (fu : Nat) (x0 x1 x6 x9 x10 x14 : AV) (σ : Store) : codeK X0 run (.seq .leaf (.cond .leaf .leaf)) (subC [true, false, true, true, true, true, true, true, true, true, true, true, true, true, true, true, false, true, true, true] b136) (frS 0 368 [(0, x0), (1, x1), (6, x6), (9, x9), (10, x10), (14, x14)]) σ (thenK (fun fr σ => c136_13 run fu (G fr 0) (G fr 1) σ) (scopeK (subC [true, false] b136) (lblU 0 (fun fr σ => c136_1L run fu fu (G fr 0) (G fr 1) (G fr 6) (G fr 9) (G fr 10) σ)) k136)) = c136_14 run fu x0 x1 x6 x9 x10 x14 σ := by kernel_rfl

theorem ok136_14 {run : RunT} (hrun : RunOK X0 run) (fu : Nat) : ∀ fr σ, KOK X0 368 (subC [true, false, true, true, true, true, true, true, true, true, true, true, true, true, true, true, false, true, true, true] b136) fr σ ((fun fr σ => c136_14 run fu (G fr 0) (G fr 1) (G fr 6) (G fr 9) (G fr 10) (G fr 14) σ) fr σ) (thenK (fun fr σ => c136_13 run fu (G fr 0) (G fr 1) σ) (scopeK (subC [true, false] b136) (lblU 0 (fun fr σ => c136_1L run fu fu (G fr 0) (G fr 1) (G fr 6) (G fr 9) (G fr 10) σ)) k136)) := fun fr σ =>
  KOK.piece env0 hrun [0, 1, 6, 9, 10, 14] (eq136_14 run fu (G fr 0) (G fr 1) (G fr 6) (G fr 9) (G fr 10) (G fr 14) σ) ⟨trivial, ⟨trivial, trivial⟩⟩

noncomputable def c136_16 (run : RunT) (fu : Nat) (s15 : W11) (x0 x1 x6 x9 x10 x12 x13 x14 x184 x185 x186 : AV) (σ : Store) : Tr R :=
  addK x186 (.int .i64 1) fun x212 =>
  s15 x0 x1 x6 x9 x10 x12 x13 x14 x184 x185 x212 σ

theorem eq136_16 (run : RunT) (fu : Nat) (s15 : W11) (x0 x1 x6 x9 x10 x12 x13 x14 x184 x185 x186 : AV) (σ : Store) : codeK X0 run .leaf (subC [true, false, true, true, true, true, true, true, true, true, true, true, true, true, true, true, false, true, true, false, true, false, false, true, true, true] b136) (frS 0 368 [(0, x0), (1, x1), (6, x6), (9, x9), (10, x10), (12, x12), (13, x13), (14, x14), (184, x184), (185, x185), (186, x186)]) σ (thenK (fun fr σ => s15 (G fr 0) (G fr 1) (G fr 6) (G fr 9) (G fr 10) (G fr 12) (G fr 13) (G fr 14) (G fr 184) (G fr 185) (G fr 186) σ) (blockK 4 (thenK (fun fr σ => c136_14 run fu (G fr 0) (G fr 1) (G fr 6) (G fr 9) (G fr 10) (G fr 14) σ) (thenK (fun fr σ => c136_13 run fu (G fr 0) (G fr 1) σ) (scopeK (subC [true, false] b136) (lblU 0 (fun fr σ => c136_1L run fu fu (G fr 0) (G fr 1) (G fr 6) (G fr 9) (G fr 10) σ)) k136))))) = c136_16 run fu s15 x0 x1 x6 x9 x10 x12 x13 x14 x184 x185 x186 σ := by kernel_rfl

theorem ok136_16 {run : RunT} (hrun : RunOK X0 run) (fu : Nat) (s15 : W11) : ∀ fr σ, KOK X0 368 (subC [true, false, true, true, true, true, true, true, true, true, true, true, true, true, true, true, false, true, true, false, true, false, false, true, true, true] b136) fr σ ((fun fr σ => c136_16 run fu s15 (G fr 0) (G fr 1) (G fr 6) (G fr 9) (G fr 10) (G fr 12) (G fr 13) (G fr 14) (G fr 184) (G fr 185) (G fr 186) σ) fr σ) (thenK (fun fr σ => s15 (G fr 0) (G fr 1) (G fr 6) (G fr 9) (G fr 10) (G fr 12) (G fr 13) (G fr 14) (G fr 184) (G fr 185) (G fr 186) σ) (blockK 4 (thenK (fun fr σ => c136_14 run fu (G fr 0) (G fr 1) (G fr 6) (G fr 9) (G fr 10) (G fr 14) σ) (thenK (fun fr σ => c136_13 run fu (G fr 0) (G fr 1) σ) (scopeK (subC [true, false] b136) (lblU 0 (fun fr σ => c136_1L run fu fu (G fr 0) (G fr 1) (G fr 6) (G fr 9) (G fr 10) σ)) k136))))) := fun fr σ =>
  KOK.piece env0 hrun [0, 1, 6, 9, 10, 12, 13, 14, 184, 185, 186] (eq136_16 run fu s15 (G fr 0) (G fr 1) (G fr 6) (G fr 9) (G fr 10) (G fr 12) (G fr 13) (G fr 14) (G fr 184) (G fr 185) (G fr 186) σ) trivial

noncomputable def c136_17 (run : RunT) (fu : Nat) (s15 : W11) (x0 x1 x6 x9 x10 : AV) (σ : Store) : Tr R :=
  c136_14 run fu x0 x1 x6 x9 x10 (.bool true) σ

theorem eq136_17 (run : RunT) (fu : Nat) (s15 : W11) (x0 x1 x6 x9 x10 : AV) (σ : Store) : codeK X0 run (.seq .leaf .leaf) (subC [true, false, true, true, true, true, true, true, true, true, true, true, true, true, true, true, false, true, true, false, true, false, false, true, true, false, false, true, true, false, true] b136) (frS 0 368 [(0, x0), (1, x1), (6, x6), (9, x9), (10, x10)]) σ (blockK 5 (thenK (fun fr σ => c136_16 run fu s15 (G fr 0) (G fr 1) (G fr 6) (G fr 9) (G fr 10) (G fr 12) (G fr 13) (G fr 14) (G fr 184) (G fr 185) (G fr 186) σ) (thenK (fun fr σ => s15 (G fr 0) (G fr 1) (G fr 6) (G fr 9) (G fr 10) (G fr 12) (G fr 13) (G fr 14) (G fr 184) (G fr 185) (G fr 186) σ) (blockK 4 (thenK (fun fr σ => c136_14 run fu (G fr 0) (G fr 1) (G fr 6) (G fr 9) (G fr 10) (G fr 14) σ) (thenK (fun fr σ => c136_13 run fu (G fr 0) (G fr 1) σ) (scopeK (subC [true, false] b136) (lblU 0 (fun fr σ => c136_1L run fu fu (G fr 0) (G fr 1) (G fr 6) (G fr 9) (G fr 10) σ)) k136))))))) = c136_17 run fu s15 x0 x1 x6 x9 x10 σ := by kernel_rfl

theorem ok136_17 {run : RunT} (hrun : RunOK X0 run) (fu : Nat) (s15 : W11) : ∀ fr σ, KOK X0 368 (subC [true, false, true, true, true, true, true, true, true, true, true, true, true, true, true, true, false, true, true, false, true, false, false, true, true, false, false, true, true, false, true] b136) fr σ ((fun fr σ => c136_17 run fu s15 (G fr 0) (G fr 1) (G fr 6) (G fr 9) (G fr 10) σ) fr σ) (blockK 5 (thenK (fun fr σ => c136_16 run fu s15 (G fr 0) (G fr 1) (G fr 6) (G fr 9) (G fr 10) (G fr 12) (G fr 13) (G fr 14) (G fr 184) (G fr 185) (G fr 186) σ) (thenK (fun fr σ => s15 (G fr 0) (G fr 1) (G fr 6) (G fr 9) (G fr 10) (G fr 12) (G fr 13) (G fr 14) (G fr 184) (G fr 185) (G fr 186) σ) (blockK 4 (thenK (fun fr σ => c136_14 run fu (G fr 0) (G fr 1) (G fr 6) (G fr 9) (G fr 10) (G fr 14) σ) (thenK (fun fr σ => c136_13 run fu (G fr 0) (G fr 1) σ) (scopeK (subC [true, false] b136) (lblU 0 (fun fr σ => c136_1L run fu fu (G fr 0) (G fr 1) (G fr 6) (G fr 9) (G fr 10) σ)) k136))))))) := fun fr σ =>
  KOK.piece env0 hrun [0, 1, 6, 9, 10] (eq136_17 run fu s15 (G fr 0) (G fr 1) (G fr 6) (G fr 9) (G fr 10) σ) ⟨trivial, trivial⟩

noncomputable def c136_15b (run : RunT) (fu : Nat) (s15 : W11) (x0 x1 x6 x9 x10 x12 x13 x14 x184 x185 x186 : AV) (σ : Store) : Tr R :=
  cmpK .lss x186 x185 fun x187 =>
  ifK x187 (
  idxK 1 x184 x186 fun x188 =>
  ld1K σ x188 fun x189 =>
  idxSK x189 (.int .i64 0) fun x191 =>
  cmpK .eql x191 x13 fun x193 =>
  grdK x193 true σ (fun f => f x189 σ) fun x195 σ1 =>
  grdK x193 true σ1 (fun f => lenSK x195 fun v => f v σ1) fun x196 σ2 =>
  grdK x193 true σ2 (fun f => f x10 σ2) fun x197 σ3 =>
  grdK x193 true σ3 (fun f => lenLK x197 fun v => f v σ3) fun x198 σ4 =>
  grdK x193 true σ4 (fun f => cmpK .eql x196 x198 fun v => f v σ4) fun x199 σ5 =>
  pickK x193 x199 (.bool false) fun x200 =>
  grdK x200 true σ5 (fun f => f x189 σ5) fun x202 σ6 =>
  grdK x200 true σ6 (fun f => f x10 σ6) fun x203 σ7 =>
  grdK x200 true σ7 (fun f => b2sK σ7 x203 fun v => f v σ7) fun x204 σ8 =>
  grdK x200 true σ8 (fun f => eqSK x202 x204 fun v => f v σ8) fun x205 σ9 =>
  pickK x200 x205 (.bool false) fun x206 =>
  ifK x206 (
  cmpK .eql x12 (.int .u8 9) fun x208 =>
  ifK x208 (
  nchkK x0 fun x210 =>
  addrK x210 6 fun x211 =>
  st1K σ9 x211 (.bool true) fun _ σ10 =>
  c136_17 run fu s15 x0 x1 x6 x9 x10 σ10) (
  c136_17 run fu s15 x0 x1 x6 x9 x10 σ9)) (
  c136_16 run fu s15 x0 x1 x6 x9 x10 x12 x13 x14 x184 x185 x186 σ9)) (
  c136_14 run fu x0 x1 x6 x9 x10 x14 σ)

noncomputable def c136_15 (run : RunT) (fu : Nat) : Nat → W11
  | 0 => fun _ _ _ _ _ _ _ _ _ _ _ _ => .fail
  | m + 1 => c136_15b run fu (c136_15 run fu m)

theorem eq136_15 (run : RunT) (fu : Nat) (s15 : W11) (x0 x1 x6 x9 x10 x12 x13 x14 x184 x185 x186 : AV) (σ : Store) : codeK X0 run (.seq .leaf (.seq (.cond .leaf .leaf) (.seq (.block (.seq .leaf (.seq .leaf (.cond (.seq (.seq .leaf (.cond .leaf .leaf)) (.sub (fun fr σ => c136_17 run fu s15 (G fr 0) (G fr 1) (G fr 6) (G fr 9) (G fr 10) σ))) .leaf)))) (.sub (fun fr σ => c136_16 run fu s15 (G fr 0) (G fr 1) (G fr 6) (G fr 9) (G fr 10) (G fr 12) (G fr 13) (G fr 14) (G fr 184) (G fr 185) (G fr 186) σ))))) (subC [true, false, true, true, true, true, true, true, true, true, true, true, true, true, true, true, false, true, true, false, true, false, false] b136) (frS 0 368 [(0, x0), (1, x1), (6, x6), (9, x9), (10, x10), (12, x12), (13, x13), (14, x14), (184, x184), (185, x185), (186, x186)]) σ (thenK (fun fr σ => s15 (G fr 0) (G fr 1) (G fr 6) (G fr 9) (G fr 10) (G fr 12) (G fr 13) (G fr 14) (G fr 184) (G fr 185) (G fr 186) σ) (blockK 4 (thenK (fun fr σ => c136_14 run fu (G fr 0) (G fr 1) (G fr 6) (G fr 9) (G fr 10) (G fr 14) σ) (thenK (fun fr σ => c136_13 run fu (G fr 0) (G fr 1) σ) (scopeK (subC [true, false] b136) (lblU 0 (fun fr σ => c136_1L run fu fu (G fr 0) (G fr 1) (G fr 6) (G fr 9) (G fr 10) σ)) k136))))) = c136_15b run fu s15 x0 x1 x6 x9 x10 x12 x13 x14 x184 x185 x186 σ := by kernel_rfl

theorem owed136_15 {run : RunT} (hrun : RunOK X0 run) (fu : Nat) (s15 : W11) : Owes X0 run 368 (.seq .leaf (.seq (.cond .leaf .leaf) (.seq (.block (.seq .leaf (.seq .leaf (.cond (.seq (.seq .leaf (.cond .leaf .leaf)) (.sub (fun fr σ => c136_17 run fu s15 (G fr 0) (G fr 1) (G fr 6) (G fr 9) (G fr 10) σ))) .leaf)))) (.sub (fun fr σ => c136_16 run fu s15 (G fr 0) (G fr 1) (G fr 6) (G fr 9) (G fr 10) (G fr 12) (G fr 13) (G fr 14) (G fr 184) (G fr 185) (G fr 186) σ))))) (subC [true, false, true, true, true, true, true, true, true, true, true, true, true, true, true, true, false, true, true, false, true, false, false] b136) (thenK (fun fr σ => s15 (G fr 0) (G fr 1) (G fr 6) (G fr 9) (G fr 10) (G fr 12) (G fr 13) (G fr 14) (G fr 184) (G fr 185) (G fr 186) σ) (blockK 4 (thenK (fun fr σ => c136_14 run fu (G fr 0) (G fr 1) (G fr 6) (G fr 9) (G fr 10) (G fr 14) σ) (thenK (fun fr σ => c136_13 run fu (G fr 0) (G fr 1) σ) (scopeK (subC [true, false] b136) (lblU 0 (fun fr σ => c136_1L run fu fu (G fr 0) (G fr 1) (G fr 6) (G fr 9) (G fr 10) σ)) k136))))) :=
  ⟨trivial, ⟨⟨trivial, trivial⟩, ⟨⟨trivial, ⟨trivial, ⟨⟨⟨trivial, ⟨trivial, trivial⟩⟩, (ok136_17 hrun fu s15)⟩, trivial⟩⟩⟩, (ok136_16 hrun fu s15)⟩⟩⟩

theorem ok136_15 {run : RunT} (hrun : RunOK X0 run) (fu : Nat) : ∀ fr σ, KOK X0 368 (subC [true, false, true, true, true, true, true, true, true, true, true, true, true, true, true, true, false, true, true, false, true, false] b136) fr σ ((fun fr σ => c136_15 run fu fu (G fr 0) (G fr 1) (G fr 6) (G fr 9) (G fr 10) (G fr 12) (G fr 13) (G fr 14) (G fr 184) (G fr 185) (G fr 186) σ) fr σ) (blockK 4 (thenK (fun fr σ => c136_14 run fu (G fr 0) (G fr 1) (G fr 6) (G fr 9) (G fr 10) (G fr 14) σ) (thenK (fun fr σ => c136_13 run fu (G fr 0) (G fr 1) σ) (scopeK (subC [true, false] b136) (lblU 0 (fun fr σ => c136_1L run fu fu (G fr 0) (G fr 1) (G fr 6) (G fr 9) (G fr 10) σ)) k136)))) := by
  have h := KOK.loop (X := X0) (N := 368) (b := (subC [true, false, true, true, true, true, true, true, true, true, true, true, true, true, true, true, false, true, true, false, true, false, false] b136)) (k := (blockK 4 (thenK (fun fr σ => c136_14 run fu (G fr 0) (G fr 1) (G fr 6) (G fr 9) (G fr 10) (G fr 14) σ) (thenK (fun fr σ => c136_13 run fu (G fr 0) (G fr 1) σ) (scopeK (subC [true, false] b136) (lblU 0 (fun fr σ => c136_1L run fu fu (G fr 0) (G fr 1) (G fr 6) (G fr 9) (G fr 10) σ)) k136))))) (u := fun m fr σ => c136_15 run fu m (G fr 0) (G fr 1) (G fr 6) (G fr 9) (G fr 10) (G fr 12) (G fr 13) (G fr 14) (G fr 184) (G fr 185) (G fr 186) σ) (fun _ _ => rfl) (fun m fr σ => KOK.piece env0 hrun [0, 1, 6, 9, 10, 12, 13, 14, 184, 185, 186] (eq136_15 run fu (c136_15 run fu m) (G fr 0) (G fr 1) (G fr 6) (G fr 9) (G fr 10) (G fr 12) (G fr 13) (G fr 14) (G fr 184) (G fr 185) (G fr 186) σ) (owed136_15 hrun fu (c136_15 run fu m)))
  exact fun fr σ => h fu fr σ

noncomputable def c136_12 (run : RunT) (fu : Nat) (x0 x1 x6 x9 x10 x12 : AV) (σ : Store) : Tr R :=
  lenLK x10 fun x179 =>
  cmpK .eql x179 (.int .i64 0) fun x180 =>
  ifK x180 (
  c136_1L run fu fu x0 x1 x6 x9 x10 σ) (
  idxK 1 x10 (.int .i64 0) fun x182 =>
  ld1K σ x182 fun x183 =>
  calK run 175 [] σ fun x184 σ1 =>
  lenLK x184 fun x185 =>
  c136_15 run fu fu x0 x1 x6 x9 x10 x12 x183 (.bool false) x184 x185 (.int .i64 0) σ1)

theorem eq136_12 (run : RunT) (fu : Nat) (x0 x1 x6 x9 x10 x12 : AV) (σ : Store) : codeK X0 run (.seq (.seq .leaf (.cond .leaf .leaf)) (.seq (.seq .leaf (.seq .leaf (.seq (.seq .leaf (.block (.sub (fun fr σ => c136_15 run fu fu (G fr 0) (G fr 1) (G fr 6) (G fr 9) (G fr 10) (G fr 12) (G fr 13) (G fr 14) (G fr 184) (G fr 185) (G fr 186) σ)))) (.sub (fun fr σ => c136_14 run fu (G fr 0) (G fr 1) (G fr 6) (G fr 9) (G fr 10) (G fr 14) σ))))) (.sub (fun fr σ => c136_13 run fu (G fr 0) (G fr 1) σ)))) (subC [true, false, true, true, true, true, true, true, true, true, true, true, true, true, true] b136) (frS 0 368 [(0, x0), (1, x1), (6, x6), (9, x9), (10, x10), (12, x12)]) σ (scopeK (subC [true, false] b136) (lblU 0 (fun fr σ => c136_1L run fu fu (G fr 0) (G fr 1) (G fr 6) (G fr 9) (G fr 10) σ)) k136) = c136_12 run fu x0 x1 x6 x9 x10 x12 σ := by kernel_rfl

theorem ok136_12 {run : RunT} (hrun : RunOK X0 run) (fu : Nat) : ∀ fr σ, KOK X0 368 (subC [true, false, true, true, true, true, true, true, true, true, true, true, true, true, true] b136) fr σ ((fun fr σ => c136_12 run fu (G fr 0) (G fr 1) (G fr 6) (G fr 9) (G fr 10) (G fr 12) σ) fr σ) (scopeK (subC [true, false] b136) (lblU 0 (fun fr σ => c136_1L run fu fu (G fr 0) (G fr 1) (G fr 6) (G fr 9) (G fr 10) σ)) k136) := fun fr σ =>
  KOK.piece env0 hrun [0, 1, 6, 9, 10, 12] (eq136_12 run fu (G fr 0) (G fr 1) (G fr 6) (G fr 9) (G fr 10) (G fr 12) σ) ⟨⟨trivial, ⟨trivial, trivial⟩⟩, ⟨⟨trivial, ⟨trivial, ⟨⟨trivial, (ok136_15 hrun fu)⟩, (ok136_14 hrun fu)⟩⟩⟩, (ok136_13 hrun fu)⟩⟩

noncomputable def c136_18 (run : RunT) (fu : Nat) (x0 x1 x6 x9 x10 x12 x156 x157 : AV) (σ : Store) : Tr R :=
  ifK x157 (
  idxSK x6 x9 fun x163 =>
  c136_12 run fu x0 x1 x6 x9 x10 x163 σ) (
  cmpK .eql x156 (.int .u8 47) fun x165 =>
  ifK x165 (
  addK x9 (.int .i64 1) fun x167 =>
  lenSK x6 fun x169 =>
  cmpK .geq x167 x169 fun x170 =>
  grdK x170 false σ (fun f => f x6 σ) fun x172 σ1 =>
  grdK x170 false σ1 (fun f => f x9 σ1) fun x173 σ2 =>
  grdK x170 false σ2 (fun f => addK x173 (.int .i64 1) fun v => f v σ2) fun x174 σ3 =>
  grdK x170 false σ3 (fun f => idxSK x172 x174 fun v => f v σ3) fun x175 σ4 =>
  grdK x170 false σ4 (fun f => cmpK .neq x175 (.int .u8 62) fun v => f v σ4) fun x176 σ5 =>
  pickK x170 (.bool true) x176 fun x177 =>
  ifK x177 (
  c136_1L run fu fu x0 x1 x6 x9 x10 σ5) (
  c136_12 run fu x0 x1 x6 x9 x10 x12 σ5)) (
  c136_1L run fu fu x0 x1 x6 x9 x10 σ))

theorem eq136_18 (run : RunT) (fu : Nat) (x0 x1 x6 x9 x10 x12 x156 x157 : AV) (σ : Store) : codeK X0 run (.cond .leaf (.seq .leaf (.cond (.seq .leaf (.cond .leaf .leaf)) .leaf))) (subC [true, false, true, true, true, true, true, true, true, true, true, true, true, true, false, true, false, true, false, true] b136) (frS 0 368 [(0, x0), (1, x1), (6, x6), (9, x9), (10, x10), (12, x12), (156, x156), (157, x157)]) σ (blockK 3 (thenK (fun fr σ => c136_12 run fu (G fr 0) (G fr 1) (G fr 6) (G fr 9) (G fr 10) (G fr 12) σ) (scopeK (subC [true, false] b136) (lblU 0 (fun fr σ => c136_1L run fu fu (G fr 0) (G fr 1) (G fr 6) (G fr 9) (G fr 10) σ)) k136))) = c136_18 run fu x0 x1 x6 x9 x10 x12 x156 x157 σ := by kernel_rfl

theorem ok136_18 {run : RunT} (hrun : RunOK X0 run) (fu : Nat) : ∀ fr σ, KOK X0 368 (subC [true, false, true, true, true, true, true, true, true, true, true, true, true, true, false, true, false, true, false, true] b136) fr σ ((fun fr σ => c136_18 run fu (G fr 0) (G fr 1) (G fr 6) (G fr 9) (G fr 10) (G fr 12) (G fr 156) (G fr 157) σ) fr σ) (blockK 3 (thenK (fun fr σ => c136_12 run fu (G fr 0) (G fr 1) (G fr 6) (G fr 9) (G fr 10) (G fr 12) σ) (scopeK (subC [true, false] b136) (lblU 0 (fun fr σ => c136_1L run fu fu (G fr 0) (G fr 1) (G fr 6) (G fr 9) (G fr 10) σ)) k136))) := fun fr σ =>
  KOK.piece env0 hrun [0, 1, 6, 9, 10, 12, 156, 157] (eq136_18 run fu (G fr 0) (G fr 1) (G fr 6) (G fr 9) (G fr 10) (G fr 12) (G fr 156) (G fr 157) σ) ⟨trivial, ⟨trivial, ⟨⟨trivial, ⟨trivial, trivial⟩⟩, trivial⟩⟩⟩

noncomputable def c136_11 (run : RunT) (fu : Nat) (x0 x1 x6 x9 x10 : AV) (σ : Store) : Tr R :=
  lenSK x6 fun x152 =>
  cmpK .lss x9 x152 fun x153 =>
  ifK x153 (
  idxSK x6 x9 fun x156 =>
  cmpK .eql x156 (.int .u8 32) fun x158 =>
  ifK x158 (
  c136_18 run fu x0 x1 x6 x9 x10 (.int .u8 0) x156 x158 σ) (
  cmpK .eql x156 (.int .u8 9) fun x159 =>
  ifK x159 (
  c136_18 run fu x0 x1 x6 x9 x10 (.int .u8 0) x156 x159 σ) (
  cmpK .eql x156 (.int .u8 62) fun x160 =>
  c136_18 run fu x0 x1 x6 x9 x10 (.int .u8 0) x156 x160 σ))) (
  c136_12 run fu x0 x1 x6 x9 x10 (.int .u8 0) σ)

theorem eq136_11 (run : RunT) (fu : Nat) (x0 x1 x6 x9 x10 : AV) (σ : Store) : codeK X0 run (.seq .leaf (.seq (.seq .leaf (.cond (.seq .leaf (.block (.seq (.seq .leaf (.cond .leaf (.seq .leaf (.cond .leaf .leaf)))) (.sub (fun fr σ => c136_18 run fu (G fr 0) (G fr 1) (G fr 6) (G fr 9) (G fr 10) (G fr 12) (G fr 156) (G fr 157) σ))))) .leaf)) (.sub (fun fr σ => c136_12 run fu (G fr 0) (G fr 1) (G fr 6) (G fr 9) (G fr 10) (G fr 12) σ)))) (subC [true, false, true, true, true, true, true, true, true, true, true, true, true] b136) (frS 0 368 [(0, x0), (1, x1), (6, x6), (9, x9), (10, x10)]) σ (scopeK (subC [true, false] b136) (lblU 0 (fun fr σ => c136_1L run fu fu (G fr 0) (G fr 1) (G fr 6) (G fr 9) (G fr 10) σ)) k136) = c136_11 run fu x0 x1 x6 x9 x10 σ := by kernel_rfl

theorem ok136_11 {run : RunT} (hrun : RunOK X0 run) (fu : Nat) : ∀ fr σ, KOK X0 368 (subC [true, false, true, true, true, true, true, true, true, true, true, true, true] b136) fr σ ((fun fr σ => c136_11 run fu (G fr 0) (G fr 1) (G fr 6) (G fr 9) (G fr 10) σ) fr σ) (scopeK (subC [true, false] b136) (lblU 0 (fun fr σ => c136_1L run fu fu (G fr 0) (G fr 1) (G fr 6) (G fr 9) (G fr 10) σ)) k136) := fun fr σ =>
  KOK.piece env0 hrun [0, 1, 6, 9, 10] (eq136_11 run fu (G fr 0) (G fr 1) (G fr 6) (G fr 9) (G fr 10) σ) ⟨trivial, ⟨⟨trivial, ⟨⟨trivial, ⟨⟨trivial, ⟨trivial, ⟨trivial, ⟨trivial, trivial⟩⟩⟩⟩, (ok136_18 hrun fu)⟩⟩, trivial⟩⟩, (ok136_12 hrun fu)⟩⟩

noncomputable def c136_20 (run : RunT) (fu : Nat) (s19 : W5) (x0 x1 x6 x9 x10 : AV) (σ : Store) : Tr R :=
  addK x9 (.int .i64 1) fun x118 =>
  s19 x0 x1 x6 x118 x10 σ

theorem eq136_20 (run : RunT) (fu : Nat) (s19 : W5) (x0 x1 x6 x9 x10 : AV) (σ : Store) : codeK X0 run .leaf (subC [true, false, true, true, true, true, true, true, true, true, true, true, false, false, false, true, true] b136) (frS 0 368 [(0, x0), (1, x1), (6, x6), (9, x9), (10, x10)]) σ (thenK (fun fr σ => s19 (G fr 0) (G fr 1) (G fr 6) (G fr 9) (G fr 10) σ) (blockK 1 (thenK (fun fr σ => c136_11 run fu (G fr 0) (G fr 1) (G fr 6) (G fr 9) (G fr 10) σ) (scopeK (subC [true, false] b136) (lblU 0 (fun fr σ => c136_1L run fu fu (G fr 0) (G fr 1) (G fr 6) (G fr 9) (G fr 10) σ)) k136)))) = c136_20 run fu s19 x0 x1 x6 x9 x10 σ := by kernel_rfl

theorem ok136_20 {run : RunT} (hrun : RunOK X0 run) (fu : Nat) (s19 : W5) : ∀ fr σ, KOK X0 368 (subC [true, false, true, true, true, true, true, true, true, true, true, true, false, false, false, true, true] b136) fr σ ((fun fr σ => c136_20 run fu s19 (G fr 0) (G fr 1) (G fr 6) (G fr 9) (G fr 10) σ) fr σ) (thenK (fun fr σ => s19 (G fr 0) (G fr 1) (G fr 6) (G fr 9) (G fr 10) σ) (blockK 1 (thenK (fun fr σ => c136_11 run fu (G fr 0) (G fr 1) (G fr 6) (G fr 9) (G fr 10) σ) (scopeK (subC [true, false] b136) (lblU 0 (fun fr σ => c136_1L run fu fu (G fr 0) (G fr 1) (G fr 6) (G fr 9) (G fr 10) σ)) k136)))) := fun fr σ =>
  KOK.piece env0 hrun [0, 1, 6, 9, 10] (eq136_20 run fu s19 (G fr 0) (G fr 1) (G fr 6) (G fr 9) (G fr 10) σ) trivial

noncomputable def c136_21 (run : RunT) (fu : Nat) (s19 : W5) (x0 x1 x6 x9 x10 x11 : AV) (σ : Store) : Tr R :=
  cmpK .leq (.int .u8 97) x11 fun x131 =>
  grdK x131 true σ (fun f => f x11 σ) fun x133 σ1 =>
  grdK x131 true σ1 (fun f => cmpK .leq x133 (.int .u8 122) fun v => f v σ1) fun x134 σ2 =>
  pickK x131 x134 (.bool false) fun x135 =>
  notK x135 fun x136 =>
  grdK x136 true σ2 (fun f => f x11 σ2) fun x138 σ3 =>
  grdK x136 true σ3 (fun f => cmpK .leq (.int .u8 48) x138 fun v => f v σ3) fun x139 σ4 =>
  grdK x136 true σ4 (fun f => f x139 σ4) fun x140 σ5 =>
  grdK x140 true σ5 (fun f => f x11 σ5) fun x141 σ6 =>
  grdK x140 true σ6 (fun f => cmpK .leq x141 (.int .u8 57) fun v => f v σ6) fun x142 σ7 =>
  grdK x136 true σ7 (fun f => pickK x140 x142 (.bool false) fun v => f v σ7) fun x143 σ8 =>
  grdK x136 true σ8 (fun f => notK x143 fun v => f v σ8) fun x144 σ9 =>
  pickK x136 x144 (.bool false) fun x145 =>
  ifK x145 (
  c136_11 run fu x0 x1 x6 x9 x10 σ9) (
  opt (fillK [(.int .u8 0)] [(0, 1, x11)]) fun cs => newSK σ9 11 cs 1 1 fun x148 σ10 =>
  appK 5 1 1 σ10 x10 x148 fun x149 σ11 =>
  c136_20 run fu s19 x0 x1 x6 x9 x149 σ11)

theorem eq136_21 (run : RunT) (fu : Nat) (s19 : W5) (x0 x1 x6 x9 x10 x11 : AV) (σ : Store) : codeK X0 run (.seq (.seq .leaf (.cond .leaf .leaf)) .leaf) (subC [true, false, true, true, true, true, true, true, true, true, true, true, false, false, false, true, false, false, true, true] b136) (frS 0 368 [(0, x0), (1, x1), (6, x6), (9, x9), (10, x10), (11, x11)]) σ (blockK 2 (thenK (fun fr σ => c136_20 run fu s19 (G fr 0) (G fr 1) (G fr 6) (G fr 9) (G fr 10) σ) (thenK (fun fr σ => s19 (G fr 0) (G fr 1) (G fr 6) (G fr 9) (G fr 10) σ) (blockK 1 (thenK (fun fr σ => c136_11 run fu (G fr 0) (G fr 1) (G fr 6) (G fr 9) (G fr 10) σ) (scopeK (subC [true, false] b136) (lblU 0 (fun fr σ => c136_1L run fu fu (G fr 0) (G fr 1) (G fr 6) (G fr 9) (G fr 10) σ)) k136)))))) = c136_21 run fu s19 x0 x1 x6 x9 x10 x11 σ := by kernel_rfl

theorem ok136_21 {run : RunT} (hrun : RunOK X0 run) (fu : Nat) (s19 : W5) : ∀ fr σ, KOK X0 368 (subC [true, false, true, true, true, true, true, true, true, true, true, true, false, false, false, true, false, false, true, true] b136) fr σ ((fun fr σ => c136_21 run fu s19 (G fr 0) (G fr 1) (G fr 6) (G fr 9) (G fr 10) (G fr 11) σ) fr σ) (blockK 2 (thenK (fun fr σ => c136_20 run fu s19 (G fr 0) (G fr 1) (G fr 6) (G fr 9) (G fr 10) σ) (thenK (fun fr σ => s19 (G fr 0) (G fr 1) (G fr 6) (G fr 9) (G fr 10) σ) (blockK 1 (thenK (fun fr σ => c136_11 run fu (G fr 0) (G fr 1) (G fr 6) (G fr 9) (G fr 10) σ) (scopeK (subC [true, false] b136) (lblU 0 (fun fr σ => c136_1L run fu fu (G fr 0) (G fr 1) (G fr 6) (G fr 9) (G fr 10) σ)) k136)))))) := fun fr σ =>
  KOK.piece env0 hrun [0, 1, 6, 9, 10, 11] (eq136_21 run fu s19 (G fr 0) (G fr 1) (G fr 6) (G fr 9) (G fr 10) (G fr 11) σ) ⟨⟨trivial, ⟨trivial, trivial⟩⟩, trivial⟩

noncomputable def c136_19b (run : RunT) (fu : Nat) (s19 : W5) (x0 x1 x6 x9 x10 : AV) (σ : Store) : Tr R :=
  lenSK x6 fun x110 =>
  cmpK .lss x9 x110 fun x111 =>
  grdK x111 true σ (fun f => f x10 σ) fun x113 σ1 =>
  grdK x111 true σ1 (fun f => lenLK x113 fun v => f v σ1) fun x114 σ2 =>
  grdK x111 true σ2 (fun f => cmpK .lss x114 (.int .i64 16) fun v => f v σ2) fun x115 σ3 =>
  pickK x111 x115 (.bool false) fun x116 =>
  ifK x116 (
  idxSK x6 x9 fun x121 =>
  cmpK .leq (.int .u8 65) x121 fun x123 =>
  grdK x123 true σ3 (fun f => f x121 σ3) fun x125 σ4 =>
  grdK x123 true σ4 (fun f => cmpK .leq x125 (.int .u8 90) fun v => f v σ4) fun x126 σ5 =>
  pickK x123 x126 (.bool false) fun x127 =>
  ifK x127 (
  addK x121 (.int .u8 32) fun x129 =>
  c136_21 run fu s19 x0 x1 x6 x9 x10 x129 σ5) (
  c136_21 run fu s19 x0 x1 x6 x9 x10 x121 σ5)) (
  c136_11 run fu x0 x1 x6 x9 x10 σ3)

noncomputable def c136_19 (run : RunT) (fu : Nat) : Nat → W5
  | 0 => fun _ _ _ _ _ _ => .fail
  | m + 1 => c136_19b run fu (c136_19 run fu m)

theorem eq136_19 (run : RunT) (fu : Nat) (s19 : W5) (x0 x1 x6 x9 x10 : AV) (σ : Store) : codeK X0 run (.seq (.seq .leaf (.cond .leaf .leaf)) (.seq (.block (.seq .leaf (.seq (.seq .leaf (.cond .leaf .leaf)) (.sub (fun fr σ => c136_21 run fu s19 (G fr 0) (G fr 1) (G fr 6) (G fr 9) (G fr 10) (G fr 11) σ))))) (.sub (fun fr σ => c136_20 run fu s19 (G fr 0) (G fr 1) (G fr 6) (G fr 9) (G fr 10) σ)))) (subC [true, false, true, true, true, true, true, true, true, true, true, true, false, false, false] b136) (frS 0 368 [(0, x0), (1, x1), (6, x6), (9, x9), (10, x10)]) σ (thenK (fun fr σ => s19 (G fr 0) (G fr 1) (G fr 6) (G fr 9) (G fr 10) σ) (blockK 1 (thenK (fun fr σ => c136_11 run fu (G fr 0) (G fr 1) (G fr 6) (G fr 9) (G fr 10) σ) (scopeK (subC [true, false] b136) (lblU 0 (fun fr σ => c136_1L run fu fu (G fr 0) (G fr 1) (G fr 6) (G fr 9) (G fr 10) σ)) k136)))) = c136_19b run fu s19 x0 x1 x6 x9 x10 σ := by kernel_rfl

theorem owed136_19 {run : RunT} (hrun : RunOK X0 run) (fu : Nat) (s19 : W5) : Owes X0 run 368 (.seq (.seq .leaf (.cond .leaf .leaf)) (.seq (.block (.seq .leaf (.seq (.seq .leaf (.cond .leaf .leaf)) (.sub (fun fr σ => c136_21 run fu s19 (G fr 0) (G fr 1) (G fr 6) (G fr 9) (G fr 10) (G fr 11) σ))))) (.sub (fun fr σ => c136_20 run fu s19 (G fr 0) (G fr 1) (G fr 6) (G fr 9) (G fr 10) σ)))) (subC [true, false, true, true, true, true, true, true, true, true, true, true, false, false, false] b136) (thenK (fun fr σ => s19 (G fr 0) (G fr 1) (G fr 6) (G fr 9) (G fr 10) σ) (blockK 1 (thenK (fun fr σ => c136_11 run fu (G fr 0) (G fr 1) (G fr 6) (G fr 9) (G fr 10) σ) (scopeK (subC [true, false] b136) (lblU 0 (fun fr σ => c136_1L run fu fu (G fr 0) (G fr 1) (G fr 6) (G fr 9) (G fr 10) σ)) k136)))) :=
  ⟨⟨trivial, ⟨trivial, trivial⟩⟩, ⟨⟨trivial, ⟨⟨trivial, ⟨trivial, trivial⟩⟩, (ok136_21 hrun fu s19)⟩⟩, (ok136_20 hrun fu s19)⟩⟩

theorem ok136_19 {run : RunT} (hrun : RunOK X0 run) (fu : Nat) : ∀ fr σ, KOK X0 368 (subC [true, false, true, true, true, true, true, true, true, true, true, true, false, false] b136) fr σ ((fun fr σ => c136_19 run fu fu (G fr 0) (G fr 1) (G fr 6) (G fr 9) (G fr 10) σ) fr σ) (blockK 1 (thenK (fun fr σ => c136_11 run fu (G fr 0) (G fr 1) (G fr 6) (G fr 9) (G fr 10) σ) (scopeK (subC [true, false] b136) (lblU 0 (fun fr σ => c136_1L run fu fu (G fr 0) (G fr 1) (G fr 6) (G fr 9) (G fr 10) σ)) k136))) := by
  have h := KOK.loop (X := X0) (N := 368) (b := (subC [true, false, true, true, true, true, true, true, true, true, true, true, false, false, false] b136)) (k := (blockK 1 (thenK (fun fr σ => c136_11 run fu (G fr 0) (G fr 1) (G fr 6) (G fr 9) (G fr 10) σ) (scopeK (subC [true, false] b136) (lblU 0 (fun fr σ => c136_1L run fu fu (G fr 0) (G fr 1) (G fr 6) (G fr 9) (G fr 10) σ)) k136)))) (u := fun m fr σ => c136_19 run fu m (G fr 0) (G fr 1) (G fr 6) (G fr 9) (G fr 10) σ) (fun _ _ => rfl) (fun m fr σ => KOK.piece env0 hrun [0, 1, 6, 9, 10] (eq136_19 run fu (c136_19 run fu m) (G fr 0) (G fr 1) (G fr 6) (G fr 9) (G fr 10) σ) (owed136_19 hrun fu (c136_19 run fu m)))
  exact fun fr σ => h fu fr σ

noncomputable def c136_10 (run : RunT) (fu : Nat) (x0 x1 x6 x9 : AV) (σ : Store) : Tr R :=
  genK (makeSliceA Tryz.prog σ 34 (.int .i64 0) (.int .i64 16)) fun x107 σ1 =>
  c136_19 run fu fu x0 x1 x6 x9 x107 σ1

theorem eq136_10 (run : RunT) (fu : Nat) (x0 x1 x6 x9 : AV) (σ : Store) : codeK X0 run (.seq .leaf (.seq (.block (.sub (fun fr σ => c136_19 run fu fu (G fr 0) (G fr 1) (G fr 6) (G fr 9) (G fr 10) σ))) (.sub (fun fr σ => c136_11 run fu (G fr 0) (G fr 1) (G fr 6) (G fr 9) (G fr 10) σ)))) (subC [true, false, true, true, true, true, true, true, true, true, true] b136) (frS 0 368 [(0, x0), (1, x1), (6, x6), (9, x9)]) σ (scopeK (subC [true, false] b136) (lblU 0 (fun fr σ => c136_1L run fu fu (G fr 0) (G fr 1) (G fr 6) (G fr 9) (G fr 10) σ)) k136) = c136_10 run fu x0 x1 x6 x9 σ := by kernel_rfl

theorem ok136_10 {run : RunT} (hrun : RunOK X0 run) (fu : Nat) : ∀ fr σ, KOK X0 368 (subC [true, false, true, true, true, true, true, true, true, true, true] b136) fr σ ((fun fr σ => c136_10 run fu (G fr 0) (G fr 1) (G fr 6) (G fr 9) σ) fr σ) (scopeK (subC [true, false] b136) (lblU 0 (fun fr σ => c136_1L run fu fu (G fr 0) (G fr 1) (G fr 6) (G fr 9) (G fr 10) σ)) k136) := fun fr σ =>
  KOK.piece env0 hrun [0, 1, 6, 9] (eq136_10 run fu (G fr 0) (G fr 1) (G fr 6) (G fr 9) σ) ⟨trivial, ⟨(ok136_19 hrun fu), (ok136_11 hrun fu)⟩⟩

noncomputable def c136_9 (run : RunT) (fu : Nat) (x0 x1 x6 : AV) (σ : Store) : Tr R :=
  lenSK x6 fun x97 =>
  cmpK .lss (.int .i64 1) x97 fun x98 =>
  grdK x98 true σ (fun f => f x6 σ) fun x100 σ1 =>
  grdK x98 true σ1 (fun f => f (.int .i64 1) σ1) fun x101 σ2 =>
  grdK x98 true σ2 (fun f => idxSK x100 x101 fun v => f v σ2) fun x102 σ3 =>
  grdK x98 true σ3 (fun f => cmpK .eql x102 (.int .u8 47) fun v => f v σ3) fun x103 σ4 =>
  pickK x98 x103 (.bool false) fun x104 =>
  ifK x104 (
  addK (.int .i64 1) (.int .i64 1) fun x106 =>
  c136_10 run fu x0 x1 x6 x106 σ4) (
  c136_10 run fu x0 x1 x6 (.int .i64 1) σ4)

theorem eq136_9 (run : RunT) (fu : Nat) (x0 x1 x6 : AV) (σ : Store) : codeK X0 run (.seq .leaf (.seq (.seq .leaf (.cond .leaf .leaf)) (.sub (fun fr σ => c136_10 run fu (G fr 0) (G fr 1) (G fr 6) (G fr 9) σ)))) (subC [true, false, true, true, true, true, true, true, true] b136) (frS 0 368 [(0, x0), (1, x1), (6, x6)]) σ (scopeK (subC [true, false] b136) (lblU 0 (fun fr σ => c136_1L run fu fu (G fr 0) (G fr 1) (G fr 6) (G fr 9) (G fr 10) σ)) k136) = c136_9 run fu x0 x1 x6 σ := by kernel_rfl

theorem ok136_9 {run : RunT} (hrun : RunOK X0 run) (fu : Nat) : ∀ fr σ, KOK X0 368 (subC [true, false, true, true, true, true, true, true, true] b136) fr σ ((fun fr σ => c136_9 run fu (G fr 0) (G fr 1) (G fr 6) σ) fr σ) (scopeK (subC [true, false] b136) (lblU 0 (fun fr σ => c136_1L run fu fu (G fr 0) (G fr 1) (G fr 6) (G fr 9) (G fr 10) σ)) k136) := fun fr σ =>
  KOK.piece env0 hrun [0, 1, 6] (eq136_9 run fu (G fr 0) (G fr 1) (G fr 6) σ) ⟨trivial, ⟨⟨trivial, ⟨trivial, trivial⟩⟩, (ok136_10 hrun fu)⟩⟩

noncomputable def c136_22 (run : RunT) (fu : Nat) (σ : Store) : Tr R :=
  .ret ((.bool true), σ)

theorem eq136_22 (run : RunT) (fu : Nat) (σ : Store) : codeK X0 run (.seq .leaf .leaf) (subC [true, false, true, true, true, true, true, true, false, true, false, true, true, true, true] b136) (frS 0 368 []) σ (thenK (fun fr σ => c136_9 run fu (G fr 0) (G fr 1) (G fr 6) σ) (scopeK (subC [true, false] b136) (lblU 0 (fun fr σ => c136_1L run fu fu (G fr 0) (G fr 1) (G fr 6) (G fr 9) (G fr 10) σ)) k136)) = c136_22 run fu σ := by kernel_rfl

theorem ok136_22 {run : RunT} (hrun : RunOK X0 run) (fu : Nat) : ∀ fr σ, KOK X0 368 (subC [true, false, true, true, true, true, true, true, false, true, false, true, true, true, true] b136) fr σ ((fun fr σ => c136_22 run fu σ) fr σ) (thenK (fun fr σ => c136_9 run fu (G fr 0) (G fr 1) (G fr 6) σ) (scopeK (subC [true, false] b136) (lblU 0 (fun fr σ => c136_1L run fu fu (G fr 0) (G fr 1) (G fr 6) (G fr 9) (G fr 10) σ)) k136)) := fun fr σ =>
  KOK.piece env0 hrun [] (eq136_22 run fu σ) ⟨trivial, trivial⟩

noncomputable def c136_8 (run : RunT) (fu : Nat) (x0 x1 x6 x7 : AV) (σ : Store) : Tr R :=
  ld1K σ x7 fun x67 =>
  neSK x67 (.str []) fun x68 =>
  ifK x68 (
  bldK [(.bool false), .nils, .nilf] [(2, 1, (.fn (.func 174) [] [x7]))] fun x70 =>
  boxK σ 559 x70 fun x71 σ1 =>
  calK run 49 [x0, (.iface 277 x71)] σ1 fun x75 σ2 =>
  nchkK x71 fun x78 =>
  addrK x78 1 fun x79 =>
  ld1K σ2 x79 fun x80 =>
  calK run 122 [x1] σ2 fun x82 σ3 =>
  opt (fillK [(.str [])] [(0, 1, x82)]) fun cs => newSK σ3 19 cs 1 1 fun x83 σ4 =>
  appK 9 1 16 σ4 x80 x83 fun x84 σ5 =>
  nchkK x71 fun x85 =>
  addrK x85 1 fun x86 =>
  st1K σ5 x86 x84 fun _ σ6 =>
  ld1K σ3 x79 fun v7 =>
  must (AV.beq v7 x80) (
  ld1K σ4 x79 fun v8 =>
  must (AV.beq v8 x80) (
  nchkK x71 fun x88 =>
  addrK x88 2 fun x89 =>
  ld1K σ6 x89 fun x90 =>
  dynK X0 run x90 [x6] σ6 fun x92 σ9 =>
  ifK x92 (
  calK run 59 [x0] σ9 fun x94 σ10 =>
  c136_22 run fu σ10) (
  c136_22 run fu σ9)))) (
  c136_9 run fu x0 x1 x6 σ)

theorem eq136_8 (run : RunT) (fu : Nat) (x0 x1 x6 x7 : AV) (σ : Store) : codeK X0 run (.seq (.seq .leaf (.cond (.seq .leaf (.seq .leaf (.seq .leaf (.seq (.seq .leaf (.cond .leaf .leaf)) (.sub (fun fr σ => c136_22 run fu σ)))))) .leaf)) (.sub (fun fr σ => c136_9 run fu (G fr 0) (G fr 1) (G fr 6) σ))) (subC [true, false, true, true, true, true, true, true] b136) (frS 0 368 [(0, x0), (1, x1), (6, x6), (7, x7)]) σ (scopeK (subC [true, false] b136) (lblU 0 (fun fr σ => c136_1L run fu fu (G fr 0) (G fr 1) (G fr 6) (G fr 9) (G fr 10) σ)) k136) = c136_8 run fu x0 x1 x6 x7 σ := by kernel_rfl

theorem ok136_8 {run : RunT} (hrun : RunOK X0 run) (fu : Nat) : ∀ fr σ, KOK X0 368 (subC [true, false, true, true, true, true, true, true] b136) fr σ ((fun fr σ => c136_8 run fu (G fr 0) (G fr 1) (G fr 6) (G fr 7) σ) fr σ) (scopeK (subC [true, false] b136) (lblU 0 (fun fr σ => c136_1L run fu fu (G fr 0) (G fr 1) (G fr 6) (G fr 9) (G fr 10) σ)) k136) := fun fr σ =>
  KOK.piece env0 hrun [0, 1, 6, 7] (eq136_8 run fu (G fr 0) (G fr 1) (G fr 6) (G fr 7) σ) ⟨⟨trivial, ⟨⟨trivial, ⟨trivial, ⟨trivial, ⟨⟨trivial, ⟨trivial, trivial⟩⟩, (ok136_22 hrun fu)⟩⟩⟩⟩, trivial⟩⟩, (ok136_9 hrun fu)⟩

noncomputable def c136_23 (run : RunT) (fu : Nat) (x0 x1 x6 x7 : AV) (σ : Store) : Tr R :=
  st1K σ x7 (.str [62]) fun _ σ1 =>
  c136_8 run fu x0 x1 x6 x7 σ1

theorem eq136_23 (run : RunT) (fu : Nat) (x0 x1 x6 x7 : AV) (σ : Store) : codeK X0 run .leaf (subC [true, false, true, true, true, true, true, false, false, true, true, true, true, true, true, true, false, true] b136) (frS 0 368 [(0, x0), (1, x1), (6, x6), (7, x7)]) σ (blockK 0 (thenK (fun fr σ => c136_8 run fu (G fr 0) (G fr 1) (G fr 6) (G fr 7) σ) (scopeK (subC [true, false] b136) (lblU 0 (fun fr σ => c136_1L run fu fu (G fr 0) (G fr 1) (G fr 6) (G fr 9) (G fr 10) σ)) k136))) = c136_23 run fu x0 x1 x6 x7 σ := by kernel_rfl

theorem ok136_23 {run : RunT} (hrun : RunOK X0 run) (fu : Nat) : ∀ fr σ, KOK X0 368 (subC [true, false, true, true, true, true, true, false, false, true, true, true, true, true, true, true, false, true] b136) fr σ ((fun fr σ => c136_23 run fu (G fr 0) (G fr 1) (G fr 6) (G fr 7) σ) fr σ) (blockK 0 (thenK (fun fr σ => c136_8 run fu (G fr 0) (G fr 1) (G fr 6) (G fr 7) σ) (scopeK (subC [true, false] b136) (lblU 0 (fun fr σ => c136_1L run fu fu (G fr 0) (G fr 1) (G fr 6) (G fr 9) (G fr 10) σ)) k136))) := fun fr σ =>
  KOK.piece env0 hrun [0, 1, 6, 7] (eq136_23 run fu (G fr 0) (G fr 1) (G fr 6) (G fr 7) σ) trivial

noncomputable def c136_1 (run : RunT) (fu : Nat) (x0 x1 : AV) (σ : Store) : Tr R :=
  nchkK x1 fun x28 =>
  ldNK σ x28 5 fun x29 =>
  newK σ 201 [(.int .i64 0), (.int .i64 0), (.int .i64 0), (.str []), (.int .u8 0)] fun x5 σ1 =>
  stNK σ1 x5 5 x29 fun _ σ2 =>
  calK run 139 [x5, (.int .i64 0), (.int .i64 3), (.bool false)] σ2 fun x30 σ3 =>
  calK run 170 [x5] σ3 fun x31 σ4 =>
  cmpK .neq x31 (.int .u8 60) fun x32 =>
  ifK x32 (
  .ret ((.bool false), σ4)) (
  calK run 122 [x5] σ4 fun x33 σ5 =>
  newK σ5 19 [(.str [])] fun x7 σ6 =>
  calK run 31 [x33, (.str [60, 33, 45, 45])] σ6 fun x36 σ7 =>
  ifK x36 (
  st1K σ7 x7 (.str [45, 45, 62]) fun _ σ8 =>
  c136_8 run fu x0 x1 x33 x7 σ8) (
  calK run 31 [x33, (.str [60, 63])] σ7 fun x39 σ9 =>
  ifK x39 (
  st1K σ9 x7 (.str [63, 62]) fun _ σ10 =>
  c136_8 run fu x0 x1 x33 x7 σ10) (
  calK run 31 [x33, (.str [60, 33, 91, 67, 68, 65, 84, 65, 91])] σ9 fun x42 σ11 =>
  ifK x42 (
  st1K σ11 x7 (.str [93, 93, 62]) fun _ σ12 =>
  c136_8 run fu x0 x1 x33 x7 σ12) (
  calK run 31 [x33, (.str [60, 33])] σ11 fun x45 σ13 =>
  grdK x45 true σ13 (fun f => f x33 σ13) fun x47 σ14 =>
  grdK x45 true σ14 (fun f => lenSK x47 fun v => f v σ14) fun x48 σ15 =>
  grdK x45 true σ15 (fun f => cmpK .geq x48 (.int .i64 3) fun v => f v σ15) fun x49 σ16 =>
  pickK x45 x49 (.bool false) fun x50 =>
  grdK x50 true σ16 (fun f => f x33 σ16) fun x52 σ17 =>
  grdK x50 true σ17 (fun f => idxSK x52 (.int .i64 2) fun v => f v σ17) fun x53 σ18 =>
  grdK x50 true σ18 (fun f => calK run 138 [x53] σ18 f) fun x54 σ19 =>
  pickK x50 x54 (.bool false) fun x55 =>
  ifK x55 (
  idxSK x33 (.int .i64 2) fun x57 =>
  cmpK .leq (.int .u8 97) x57 fun x58 =>
  grdK x58 true σ19 (fun f => f x33 σ19) fun x60 σ20 =>
  grdK x58 true σ20 (fun f => idxSK x60 (.int .i64 2) fun v => f v σ20) fun x61 σ21 =>
  grdK x58 true σ21 (fun f => cmpK .leq x61 (.int .u8 122) fun v => f v σ21) fun x62 σ22 =>
  pickK x58 x62 (.bool false) fun x63 =>
  ifK x63 (
  nchkK x0 fun x65 =>
  addrK x65 6 fun x66 =>
  st1K σ22 x66 (.bool true) fun _ σ23 =>
  c136_23 run fu x0 x1 x33 x7 σ23) (
  c136_23 run fu x0 x1 x33 x7 σ22)) (
  c136_8 run fu x0 x1 x33 x7 σ19)))))

theorem eq136_1 (run : RunT) (fu : Nat) (x0 x1 : AV) (σ : Store) : codeK X0 run (.seq .leaf (.seq .leaf (.seq (.seq .leaf (.cond (.seq .leaf .leaf) .leaf)) (.seq .leaf (.seq .leaf (.seq (.block (.seq .leaf (.cond .leaf (.seq .leaf (.cond .leaf (.seq .leaf (.cond .leaf (.seq .leaf (.cond (.seq (.seq .leaf (.cond .leaf .leaf)) (.sub (fun fr σ => c136_23 run fu (G fr 0) (G fr 1) (G fr 6) (G fr 7) σ))) .leaf))))))))) (.sub (fun fr σ => c136_8 run fu (G fr 0) (G fr 1) (G fr 6) (G fr 7) σ)))))))) (subC [true, false] b136) (frS 0 368 [(0, x0), (1, x1)]) σ (scopeK (subC [true, false] b136) (lblU 0 (fun fr σ => c136_1L run fu fu (G fr 0) (G fr 1) (G fr 6) (G fr 9) (G fr 10) σ)) k136) = c136_1 run fu x0 x1 σ := by kernel_rfl

theorem ok136_1 {run : RunT} (hrun : RunOK X0 run) (fu : Nat) : ∀ fr σ, KOK X0 368 (subC [true] b136) fr σ ((fun fr σ => c136_1 run fu (G fr 0) (G fr 1) σ) fr σ) k136 := fun fr σ =>
  KOK.scope1 (X := X0) (N := 368) (b := (subC [true, false] b136)) (k := k136) 0 (u := fun m fr σ => c136_1L run fu m (G fr 0) (G fr 1) (G fr 6) (G fr 9) (G fr 10) σ) (fun _ _ => rfl) (fun m fr σ => KOK.piece env0 hrun [0, 1, 6, 9, 10] (eq136_1L run fu (c136_1L run fu m) (G fr 0) (G fr 1) (G fr 6) (G fr 9) (G fr 10) σ) (owed136_1L hrun fu (c136_1L run fu m))) fu
    (KOK.piece env0 hrun [0, 1] (eq136_1 run fu (G fr 0) (G fr 1) σ) ⟨trivial, ⟨trivial, ⟨⟨trivial, ⟨⟨trivial, trivial⟩, trivial⟩⟩, ⟨trivial, ⟨trivial, ⟨⟨trivial, ⟨trivial, ⟨trivial, ⟨trivial, ⟨trivial, ⟨trivial, ⟨trivial, ⟨⟨⟨trivial, ⟨trivial, trivial⟩⟩, (ok136_23 hrun fu)⟩, trivial⟩⟩⟩⟩⟩⟩⟩⟩, (ok136_8 hrun fu)⟩⟩⟩⟩⟩⟩)

noncomputable def c136 (run : RunT) (fu : Nat) (x0 x1 : AV) (σ : Store) : Tr R :=
  c136_1 run fu x0 x1 σ

theorem eq136 (run : RunT) (fu : Nat) (x0 x1 : AV) (σ : Store) : codeK X0 run (.seq .leaf (.sub (fun fr σ => c136_1 run fu (G fr 0) (G fr 1) σ))) (subC [] b136) ([x0, x1] ++ padA (368 - 2)) σ k136 = c136 run fu x0 x1 σ := by kernel_rfl

theorem ok136 {run : RunT} (hrun : RunOK X0 run) (fu : Nat) (x0 x1 : AV) (σ : Store) : CallOK X0 136 [x0, x1] σ (c136 run fu x0 x1 σ) :=
  KOK.body (fn := Tryz.f136) (c := subC [] b136) (by kernel_rfl) (by kernel_rfl) (by show 2 ≤ 368; decide) (KOK.whole env0 hrun (eq136 run fu x0 x1 σ) ⟨trivial, (ok136_1 hrun fu)⟩)

-- (*pub-paratext/pub/rscmarkdown.line).trimFence

noncomputable def b137 : Code := match Tryz.f137.body with | some c => c | none => .skip

noncomputable def k137 : Kont R := retK Tryz.prog [.tmp 8]

noncomputable def c137_2 (run : RunT) (fu : Nat) (σ : Store) : Tr R :=
  .ret ((.bool false), σ)

theorem eq137_2 (run : RunT) (fu : Nat) (σ : Store) : codeK X0 run (.seq .leaf .leaf) (subC [true, true, true, true, true] b137) (frS 0 69 []) σ k137 = c137_2 run fu σ := by kernel_rfl

theorem ok137_2 {run : RunT} (hrun : RunOK X0 run) (fu : Nat) : ∀ fr σ, KOK X0 69 (subC [true, true, true, true, true] b137) fr σ ((fun fr σ => c137_2 run fu σ) fr σ) k137 := fun fr σ =>
  KOK.piece env0 hrun [] (eq137_2 run fu σ) ⟨trivial, trivial⟩

noncomputable def c137_4 (run : RunT) (fu : Nat) (x0 x1 x2 x9 x10 x11 x12 : AV) (σ : Store) : Tr R :=
  bldK [] [] fun x47 =>
  calK run 177 [x9] σ fun x48 σ1 =>
  calK run 162 [x47, x48] σ1 fun x49 σ2 =>
  cmpK .eql x10 (.int .u8 96) fun x51 =>
  grdK x51 true σ2 (fun f => f x49 σ2) fun x53 σ3 =>
  grdK x51 true σ3 (fun f => calK run 47 [x53, (.str [96])] σ3 f) fun x54 σ4 =>
  pickK x51 x54 (.bool false) fun x55 =>
  ifK x55 (
  .ret ((.bool false), σ4)) (
  calK run 60 [x49] σ4 fun x57 σ5 =>
  nchkK x2 fun x60 =>
  st1K σ5 x60 x57 fun _ σ6 =>
  sliceSK x11 none (some x12) fun x64 =>
  nchkK x1 fun x65 =>
  st1K σ6 x65 x64 fun _ σ7 =>
  bldK [(.int .i64 0), (.int .i64 0), (.int .i64 0), (.str []), (.int .u8 0)] [] fun x67 =>
  nchkK x0 fun x68 =>
  stNK σ7 x68 5 x67 fun _ σ8 =>
  .ret ((.bool true), σ8))

theorem eq137_4 (run : RunT) (fu : Nat) (x0 x1 x2 x9 x10 x11 x12 : AV) (σ : Store) : codeK X0 run (.seq .leaf (.seq (.seq .leaf (.cond (.seq .leaf .leaf) .leaf)) (.seq .leaf (.seq .leaf (.seq .leaf (.seq .leaf (.seq .leaf .leaf))))))) (subC [true, true, true, true, false, true, true, false, true, false, true, true, true] b137) (frS 0 69 [(0, x0), (1, x1), (2, x2), (9, x9), (10, x10), (11, x11), (12, x12)]) σ (blockK 2 (thenK (fun fr σ => c137_2 run fu σ) k137)) = c137_4 run fu x0 x1 x2 x9 x10 x11 x12 σ := by kernel_rfl

theorem ok137_4 {run : RunT} (hrun : RunOK X0 run) (fu : Nat) : ∀ fr σ, KOK X0 69 (subC [true, true, true, true, false, true, true, false, true, false, true, true, true] b137) fr σ ((fun fr σ => c137_4 run fu (G fr 0) (G fr 1) (G fr 2) (G fr 9) (G fr 10) (G fr 11) (G fr 12) σ) fr σ) (blockK 2 (thenK (fun fr σ => c137_2 run fu σ) k137)) := fun fr σ =>
  KOK.piece env0 hrun [0, 1, 2, 9, 10, 11, 12] (eq137_4 run fu (G fr 0) (G fr 1) (G fr 2) (G fr 9) (G fr 10) (G fr 11) (G fr 12) σ) ⟨trivial, ⟨⟨trivial, ⟨⟨trivial, trivial⟩, trivial⟩⟩, ⟨trivial, ⟨trivial, ⟨trivial, ⟨trivial, ⟨trivial, trivial⟩⟩⟩⟩⟩⟩⟩

noncomputable def c137_5b (run : RunT) (fu : Nat) (s5 : W8) (x0 x1 x2 x9 x10 x11 x12 x13 : AV) (σ : Store) : Tr R :=
  calK run 168 [x9, x10] σ fun x41 σ1 =>
  notK x41 fun x42 =>
  ifK x42 (
  cmpK .geq x13 (.int .i64 3) fun x44 =>
  ifK x44 (
  c137_4 run fu x0 x1 x2 x9 x10 x11 x12 σ1) (
  .ret ((.bool false), σ1))) (
  addK x12 (.int .i64 1) fun x46 =>
  addK x13 (.int .i64 1) fun x39 =>
  s5 x0 x1 x2 x9 x10 x11 x46 x39 σ1)

noncomputable def c137_5 (run : RunT) (fu : Nat) : Nat → W8
  | 0 => fun _ _ _ _ _ _ _ _ _ => .fail
  | m + 1 => c137_5b run fu (c137_5 run fu m)

theorem eq137_5 (run : RunT) (fu : Nat) (s5 : W8) (x0 x1 x2 x9 x10 x11 x12 x13 : AV) (σ : Store) : codeK X0 run (.seq (.block (.seq (.seq .leaf (.cond (.seq (.seq .leaf (.cond .leaf .leaf)) (.seq .leaf .leaf)) .leaf)) .leaf)) .leaf) (subC [true, true, true, true, false, true, true, false, true, false, true, true, false, true, false, false] b137) (frS 0 69 [(0, x0), (1, x1), (2, x2), (9, x9), (10, x10), (11, x11), (12, x12), (13, x13)]) σ (thenK (fun fr σ => s5 (G fr 0) (G fr 1) (G fr 2) (G fr 9) (G fr 10) (G fr 11) (G fr 12) (G fr 13) σ) (blockK 3 (thenK (fun fr σ => c137_4 run fu (G fr 0) (G fr 1) (G fr 2) (G fr 9) (G fr 10) (G fr 11) (G fr 12) σ) (blockK 2 (thenK (fun fr σ => c137_2 run fu σ) k137))))) = c137_5b run fu s5 x0 x1 x2 x9 x10 x11 x12 x13 σ := by kernel_rfl

theorem owed137_5 {run : RunT} (hrun : RunOK X0 run) (fu : Nat) (s5 : W8) : Owes X0 run 69 (.seq (.block (.seq (.seq .leaf (.cond (.seq (.seq .leaf (.cond .leaf .leaf)) (.seq .leaf .leaf)) .leaf)) .leaf)) .leaf) (subC [true, true, true, true, false, true, true, false, true, false, true, true, false, true, false, false] b137) (thenK (fun fr σ => s5 (G fr 0) (G fr 1) (G fr 2) (G fr 9) (G fr 10) (G fr 11) (G fr 12) (G fr 13) σ) (blockK 3 (thenK (fun fr σ => c137_4 run fu (G fr 0) (G fr 1) (G fr 2) (G fr 9) (G fr 10) (G fr 11) (G fr 12) σ) (blockK 2 (thenK (fun fr σ => c137_2 run fu σ) k137))))) :=
  ⟨⟨⟨trivial, ⟨⟨⟨trivial, ⟨trivial, trivial⟩⟩, ⟨trivial, trivial⟩⟩, trivial⟩⟩, trivial⟩, trivial⟩

theorem ok137_5 {run : RunT} (hrun : RunOK X0 run) (fu : Nat) : ∀ fr σ, KOK X0 69 (subC [true, true, true, true, false, true, true, false, true, false, true, true, false, true, false] b137) fr σ ((fun fr σ => c137_5 run fu fu (G fr 0) (G fr 1) (G fr 2) (G fr 9) (G fr 10) (G fr 11) (G fr 12) (G fr 13) σ) fr σ) (blockK 3 (thenK (fun fr σ => c137_4 run fu (G fr 0) (G fr 1) (G fr 2) (G fr 9) (G fr 10) (G fr 11) (G fr 12) σ) (blockK 2 (thenK (fun fr σ => c137_2 run fu σ) k137)))) := by
  have h := KOK.loop (X := X0) (N := 69) (b := (subC [true, true, true, true, false, true, true, false, true, false, true, true, false, true, false, false] b137)) (k := (blockK 3 (thenK (fun fr σ => c137_4 run fu (G fr 0) (G fr 1) (G fr 2) (G fr 9) (G fr 10) (G fr 11) (G fr 12) σ) (blockK 2 (thenK (fun fr σ => c137_2 run fu σ) k137))))) (u := fun m fr σ => c137_5 run fu m (G fr 0) (G fr 1) (G fr 2) (G fr 9) (G fr 10) (G fr 11) (G fr 12) (G fr 13) σ) (fun _ _ => rfl) (fun m fr σ => KOK.piece env0 hrun [0, 1, 2, 9, 10, 11, 12, 13] (eq137_5 run fu (c137_5 run fu m) (G fr 0) (G fr 1) (G fr 2) (G fr 9) (G fr 10) (G fr 11) (G fr 12) (G fr 13) σ) (owed137_5 hrun fu (c137_5 run fu m)))
  exact fun fr σ => h fu fr σ

noncomputable def c137_3 (run : RunT) (fu : Nat) (x0 x1 x2 x9 x10 x34 : AV) (σ : Store) : Tr R :=
  ifK x34 (
  calK run 122 [x9] σ fun x37 σ1 =>
  c137_5 run fu fu x0 x1 x2 x9 x10 x37 (.int .i64 0) (.int .i64 0) σ1) (
  c137_2 run fu σ)

theorem eq137_3 (run : RunT) (fu : Nat) (x0 x1 x2 x9 x10 x34 : AV) (σ : Store) : codeK X0 run (.cond (.seq .leaf (.seq .leaf (.seq (.seq .leaf (.block (.sub (fun fr σ => c137_5 run fu fu (G fr 0) (G fr 1) (G fr 2) (G fr 9) (G fr 10) (G fr 11) (G fr 12) (G fr 13) σ)))) (.sub (fun fr σ => c137_4 run fu (G fr 0) (G fr 1) (G fr 2) (G fr 9) (G fr 10) (G fr 11) (G fr 12) σ))))) .leaf) (subC [true, true, true, true, false, true, true, false, true] b137) (frS 0 69 [(0, x0), (1, x1), (2, x2), (9, x9), (10, x10), (34, x34)]) σ (blockK 2 (thenK (fun fr σ => c137_2 run fu σ) k137)) = c137_3 run fu x0 x1 x2 x9 x10 x34 σ := by kernel_rfl

theorem ok137_3 {run : RunT} (hrun : RunOK X0 run) (fu : Nat) : ∀ fr σ, KOK X0 69 (subC [true, true, true, true, false, true, true, false, true] b137) fr σ ((fun fr σ => c137_3 run fu (G fr 0) (G fr 1) (G fr 2) (G fr 9) (G fr 10) (G fr 34) σ) fr σ) (blockK 2 (thenK (fun fr σ => c137_2 run fu σ) k137)) := fun fr σ =>
  KOK.piece env0 hrun [0, 1, 2, 9, 10, 34] (eq137_3 run fu (G fr 0) (G fr 1) (G fr 2) (G fr 9) (G fr 10) (G fr 34) σ) ⟨⟨trivial, ⟨trivial, ⟨⟨trivial, (ok137_5 hrun fu)⟩, (ok137_4 hrun fu)⟩⟩⟩, trivial⟩

noncomputable def c137_1 (run : RunT) (fu : Nat) (x0 x1 x2 x9 : AV) (σ : Store) : Tr R :=
  calK run 170 [x9] σ fun x32 σ1 =>
  cmpK .eql x32 (.int .u8 96) fun x35 =>
  ifK x35 (
  c137_3 run fu x0 x1 x2 x9 x32 x35 σ1) (
  cmpK .eql x32 (.int .u8 126) fun x36 =>
  c137_3 run fu x0 x1 x2 x9 x32 x36 σ1)

theorem eq137_1 (run : RunT) (fu : Nat) (x0 x1 x2 x9 : AV) (σ : Store) : codeK X0 run (.seq (.seq .leaf (.seq .leaf (.block (.seq (.seq .leaf (.cond .leaf .leaf)) (.sub (fun fr σ => c137_3 run fu (G fr 0) (G fr 1) (G fr 2) (G fr 9) (G fr 10) (G fr 34) σ)))))) (.sub (fun fr σ => c137_2 run fu σ))) (subC [true, true, true, true] b137) (frS 0 69 [(0, x0), (1, x1), (2, x2), (9, x9)]) σ k137 = c137_1 run fu x0 x1 x2 x9 σ := by kernel_rfl

theorem ok137_1 {run : RunT} (hrun : RunOK X0 run) (fu : Nat) : ∀ fr σ, KOK X0 69 (subC [true, true, true, true] b137) fr σ ((fun fr σ => c137_1 run fu (G fr 0) (G fr 1) (G fr 2) (G fr 9) σ) fr σ) k137 := fun fr σ =>
  KOK.piece env0 hrun [0, 1, 2, 9] (eq137_1 run fu (G fr 0) (G fr 1) (G fr 2) (G fr 9) σ) ⟨⟨trivial, ⟨trivial, ⟨⟨trivial, ⟨trivial, trivial⟩⟩, (ok137_3 hrun fu)⟩⟩⟩, (ok137_2 hrun fu)⟩

noncomputable def c137_6b (run : RunT) (fu : Nat) (s6 : W5) (x0 x1 x2 x3 x9 : AV) (σ : Store) : Tr R :=
  nchkK x3 fun x21 =>
  ld1K σ x21 fun x22 =>
  cmpK .lss x22 (.int .i64 3) fun x23 =>
  grdK x23 true σ (fun f => calK run 139 [x9, (.int .i64 1), (.int .i64 1), (.bool false)] σ f) fun x25 σ1 =>
  pickK x23 x25 (.bool false) fun x26 =>
  ifK x26 (
  nchkK x3 fun x28 =>
  ld1K σ1 x28 fun x29 =>
  addK x29 (.int .i64 1) fun x30 =>
  nchkK x3 fun x31 =>
  st1K σ1 x31 x30 fun _ σ2 =>
  s6 x0 x1 x2 x3 x9 σ2) (
  c137_1 run fu x0 x1 x2 x9 σ1)

noncomputable def c137_6 (run : RunT) (fu : Nat) : Nat → W5
  | 0 => fun _ _ _ _ _ _ => .fail
  | m + 1 => c137_6b run fu (c137_6 run fu m)

theorem eq137_6 (run : RunT) (fu : Nat) (s6 : W5) (x0 x1 x2 x3 x9 : AV) (σ : Store) : codeK X0 run (.seq (.seq .leaf (.cond .leaf .leaf)) (.block .leaf)) (subC [true, true, true, false, false, false] b137) (frS 0 69 [(0, x0), (1, x1), (2, x2), (3, x3), (9, x9)]) σ (thenK (fun fr σ => s6 (G fr 0) (G fr 1) (G fr 2) (G fr 3) (G fr 9) σ) (blockK 0 (thenK (fun fr σ => c137_1 run fu (G fr 0) (G fr 1) (G fr 2) (G fr 9) σ) k137))) = c137_6b run fu s6 x0 x1 x2 x3 x9 σ := by kernel_rfl

theorem owed137_6 {run : RunT} (hrun : RunOK X0 run) (fu : Nat) (s6 : W5) : Owes X0 run 69 (.seq (.seq .leaf (.cond .leaf .leaf)) (.block .leaf)) (subC [true, true, true, false, false, false] b137) (thenK (fun fr σ => s6 (G fr 0) (G fr 1) (G fr 2) (G fr 3) (G fr 9) σ) (blockK 0 (thenK (fun fr σ => c137_1 run fu (G fr 0) (G fr 1) (G fr 2) (G fr 9) σ) k137))) :=
  ⟨⟨trivial, ⟨trivial, trivial⟩⟩, trivial⟩

theorem ok137_6 {run : RunT} (hrun : RunOK X0 run) (fu : Nat) : ∀ fr σ, KOK X0 69 (subC [true, true, true, false, false] b137) fr σ ((fun fr σ => c137_6 run fu fu (G fr 0) (G fr 1) (G fr 2) (G fr 3) (G fr 9) σ) fr σ) (blockK 0 (thenK (fun fr σ => c137_1 run fu (G fr 0) (G fr 1) (G fr 2) (G fr 9) σ) k137)) := by
  have h := KOK.loop (X := X0) (N := 69) (b := (subC [true, true, true, false, false, false] b137)) (k := (blockK 0 (thenK (fun fr σ => c137_1 run fu (G fr 0) (G fr 1) (G fr 2) (G fr 9) σ) k137))) (u := fun m fr σ => c137_6 run fu m (G fr 0) (G fr 1) (G fr 2) (G fr 3) (G fr 9) σ) (fun _ _ => rfl) (fun m fr σ => KOK.piece env0 hrun [0, 1, 2, 3, 9] (eq137_6 run fu (c137_6 run fu m) (G fr 0) (G fr 1) (G fr 2) (G fr 3) (G fr 9) σ) (owed137_6 hrun fu (c137_6 run fu m)))
  exact fun fr σ => h fu fr σ

noncomputable def c137 (run : RunT) (fu : Nat) (x0 x1 x2 x3 : AV) (σ : Store) : Tr R :=
  nchkK x0 fun x16 =>
  ldNK σ x16 5 fun x17 =>
  newK σ 201 [(.int .i64 0), (.int .i64 0), (.int .i64 0), (.str []), (.int .u8 0)] fun x9 σ1 =>
  stNK σ1 x9 5 x17 fun _ σ2 =>
  nchkK x3 fun x19 =>
  st1K σ2 x19 (.int .i64 0) fun _ σ3 =>
  c137_6 run fu fu x0 x1 x2 x3 x9 σ3

theorem eq137 (run : RunT) (fu : Nat) (x0 x1 x2 x3 : AV) (σ : Store) : codeK X0 run (.seq .leaf (.seq .leaf (.seq .leaf (.seq (.block (.sub (fun fr σ => c137_6 run fu fu (G fr 0) (G fr 1) (G fr 2) (G fr 3) (G fr 9) σ))) (.sub (fun fr σ => c137_1 run fu (G fr 0) (G fr 1) (G fr 2) (G fr 9) σ)))))) (subC [] b137) ([x0, x1, x2, x3] ++ padA (69 - 4)) σ k137 = c137 run fu x0 x1 x2 x3 σ := by kernel_rfl

theorem ok137 {run : RunT} (hrun : RunOK X0 run) (fu : Nat) (x0 x1 x2 x3 : AV) (σ : Store) : CallOK X0 137 [x0, x1, x2, x3] σ (c137 run fu x0 x1 x2 x3 σ) :=
  KOK.body (fn := Tryz.f137) (c := subC [] b137) (by kernel_rfl) (by kernel_rfl) (by show 4 ≤ 69; decide) (KOK.whole env0 hrun (eq137 run fu x0 x1 x2 x3 σ) ⟨trivial, ⟨trivial, ⟨trivial, ⟨(ok137_6 hrun fu), (ok137_1 hrun fu)⟩⟩⟩⟩)

-- pub-paratext/pub/rscmarkdown.isLetter

noncomputable def b138 : Code := match Tryz.f138.body with | some c => c | none => .skip

noncomputable def k138 : Kont R := retK Tryz.prog [.tmp 2]

noncomputable def c138 (run : RunT) (fu : Nat) (x0 : AV) (σ : Store) : Tr R :=
  cmpK .leq (.int .u8 65) x0 fun x4 =>
  grdK x4 true σ (fun f => f x0 σ) fun x6 σ1 =>
  grdK x4 true σ1 (fun f => cmpK .leq x6 (.int .u8 90) fun v => f v σ1) fun x7 σ2 =>
  pickK x4 x7 (.bool false) fun x8 =>
  grdK x8 false σ2 (fun f => f x0 σ2) fun x10 σ3 =>
  grdK x8 false σ3 (fun f => cmpK .leq (.int .u8 97) x10 fun v => f v σ3) fun x11 σ4 =>
  grdK x8 false σ4 (fun f => f x11 σ4) fun x12 σ5 =>
  grdK x12 true σ5 (fun f => f x0 σ5) fun x13 σ6 =>
  grdK x12 true σ6 (fun f => cmpK .leq x13 (.int .u8 122) fun v => f v σ6) fun x14 σ7 =>
  grdK x8 false σ7 (fun f => pickK x12 x14 (.bool false) fun v => f v σ7) fun x15 σ8 =>
  pickK x8 (.bool true) x15 fun x16 =>
  .ret (x16, σ8)

theorem eq138 (run : RunT) (fu : Nat) (x0 : AV) (σ : Store) : codeK X0 run (.seq .leaf (.seq .leaf .leaf)) (subC [] b138) ([x0] ++ padA (17 - 1)) σ k138 = c138 run fu x0 σ := by kernel_rfl

theorem ok138 {run : RunT} (hrun : RunOK X0 run) (fu : Nat) (x0 : AV) (σ : Store) : CallOK X0 138 [x0] σ (c138 run fu x0 σ) :=
  KOK.body (fn := Tryz.f138) (c := subC [] b138) (by kernel_rfl) (by kernel_rfl) (by show 1 ≤ 17; decide) (KOK.whole env0 hrun (eq138 run fu x0 σ) ⟨trivial, ⟨trivial, trivial⟩⟩)

-- (*pub-paratext/pub/rscmarkdown.line).trimSpace

noncomputable def b139 : Code := match Tryz.f139.body with | some c => c | none => .skip

noncomputable def k139 : Kont R := retK Tryz.prog [.tmp 8]

noncomputable def c139_1 (run : RunT) (fu : Nat) (x0 x9 : AV) (σ : Store) : Tr R :=
  ldNK σ x9 5 fun x74 =>
  nchkK x0 fun x75 =>
  stNK σ x75 5 x74 fun _ σ1 =>
  .ret ((.bool true), σ1)

theorem eq139_1 (run : RunT) (fu : Nat) (x0 x9 : AV) (σ : Store) : codeK X0 run (.seq .leaf (.seq .leaf .leaf)) (subC [true, true, true] b139) (frS 0 76 [(0, x0), (9, x9)]) σ k139 = c139_1 run fu x0 x9 σ := by kernel_rfl

theorem ok139_1 {run : RunT} (hrun : RunOK X0 run) (fu : Nat) : ∀ fr σ, KOK X0 76 (subC [true, true, true] b139) fr σ ((fun fr σ => c139_1 run fu (G fr 0) (G fr 9) σ) fr σ) k139 := fun fr σ =>
  KOK.piece env0 hrun [0, 9] (eq139_1 run fu (G fr 0) (G fr 9) σ) ⟨trivial, ⟨trivial, trivial⟩⟩

noncomputable def c139_3 (run : RunT) (fu : Nat) (s2 : W6) (x0 x1 x2 x3 x9 x10 : AV) (σ : Store) : Tr R :=
  addK x10 (.int .i64 1) fun x18 =>
  s2 x0 x1 x2 x3 x9 x18 σ

theorem eq139_3 (run : RunT) (fu : Nat) (s2 : W6) (x0 x1 x2 x3 x9 x10 : AV) (σ : Store) : codeK X0 run .leaf (subC [true, true, false, true, false, false, true, true] b139) (frS 0 76 [(0, x0), (1, x1), (2, x2), (3, x3), (9, x9), (10, x10)]) σ (thenK (fun fr σ => s2 (G fr 0) (G fr 1) (G fr 2) (G fr 3) (G fr 9) (G fr 10) σ) (blockK 0 (thenK (fun fr σ => c139_1 run fu (G fr 0) (G fr 9) σ) k139))) = c139_3 run fu s2 x0 x1 x2 x3 x9 x10 σ := by kernel_rfl

theorem ok139_3 {run : RunT} (hrun : RunOK X0 run) (fu : Nat) (s2 : W6) : ∀ fr σ, KOK X0 76 (subC [true, true, false, true, false, false, true, true] b139) fr σ ((fun fr σ => c139_3 run fu s2 (G fr 0) (G fr 1) (G fr 2) (G fr 3) (G fr 9) (G fr 10) σ) fr σ) (thenK (fun fr σ => s2 (G fr 0) (G fr 1) (G fr 2) (G fr 3) (G fr 9) (G fr 10) σ) (blockK 0 (thenK (fun fr σ => c139_1 run fu (G fr 0) (G fr 9) σ) k139))) := fun fr σ =>
  KOK.piece env0 hrun [0, 1, 2, 3, 9, 10] (eq139_3 run fu s2 (G fr 0) (G fr 1) (G fr 2) (G fr 3) (G fr 9) (G fr 10) σ) trivial

noncomputable def c139_4 (run : RunT) (fu : Nat) (s2 : W6) (x0 x1 x9 x10 : AV) (σ : Store) : Tr R :=
  cmpK .geq x10 x1 fun x72 =>
  ifK x72 (
  c139_1 run fu x0 x9 σ) (
  .ret ((.bool false), σ))

theorem eq139_4 (run : RunT) (fu : Nat) (s2 : W6) (x0 x1 x9 x10 : AV) (σ : Store) : codeK X0 run (.seq (.seq .leaf (.cond .leaf .leaf)) (.seq .leaf .leaf)) (subC [true, true, false, true, false, false, true, false, false, true, true, true] b139) (frS 0 76 [(0, x0), (1, x1), (9, x9), (10, x10)]) σ (blockK 1 (thenK (fun fr σ => c139_3 run fu s2 (G fr 0) (G fr 1) (G fr 2) (G fr 3) (G fr 9) (G fr 10) σ) (thenK (fun fr σ => s2 (G fr 0) (G fr 1) (G fr 2) (G fr 3) (G fr 9) (G fr 10) σ) (blockK 0 (thenK (fun fr σ => c139_1 run fu (G fr 0) (G fr 9) σ) k139))))) = c139_4 run fu s2 x0 x1 x9 x10 σ := by kernel_rfl

theorem ok139_4 {run : RunT} (hrun : RunOK X0 run) (fu : Nat) (s2 : W6) : ∀ fr σ, KOK X0 76 (subC [true, true, false, true, false, false, true, false, false, true, true, true] b139) fr σ ((fun fr σ => c139_4 run fu s2 (G fr 0) (G fr 1) (G fr 9) (G fr 10) σ) fr σ) (blockK 1 (thenK (fun fr σ => c139_3 run fu s2 (G fr 0) (G fr 1) (G fr 2) (G fr 3) (G fr 9) (G fr 10) σ) (thenK (fun fr σ => s2 (G fr 0) (G fr 1) (G fr 2) (G fr 3) (G fr 9) (G fr 10) σ) (blockK 0 (thenK (fun fr σ => c139_1 run fu (G fr 0) (G fr 9) σ) k139))))) := fun fr σ =>
  KOK.piece env0 hrun [0, 1, 9, 10] (eq139_4 run fu s2 (G fr 0) (G fr 1) (G fr 9) (G fr 10) σ) ⟨⟨trivial, ⟨trivial, trivial⟩⟩, ⟨trivial, trivial⟩⟩

noncomputable def c139_2b (run : RunT) (fu : Nat) (s2 : W6) (x0 x1 x2 x3 x9 x10 : AV) (σ : Store) : Tr R :=
  cmpK .lss x10 x2 fun x16 =>
  ifK x16 (
  addrK x9 0 fun x19 =>
  ld1K σ x19 fun x20 =>
  cmpK .gtr x20 (.int .i64 0) fun x21 =>
  ifK x21 (
  addrK x9 0 fun x22 =>
  ld1K σ x22 fun x23 =>
  subK x23 (.int .i64 1) fun x24 =>
  addrK x9 0 fun x25 =>
  st1K σ x25 x24 fun _ σ1 =>
  c139_3 run fu s2 x0 x1 x2 x3 x9 x10 σ1) (
  addrK x9 1 fun x26 =>
  ld1K σ x26 fun x27 =>
  addrK x9 3 fun x28 =>
  ld1K σ x28 fun x29 =>
  lenSK x29 fun x30 =>
  cmpK .geq x27 x30 fun x31 =>
  grdK x31 true σ (fun f => f x3 σ) fun x33 σ2 =>
  pickK x31 x33 (.bool false) fun x34 =>
  ifK x34 (
  c139_3 run fu s2 x0 x1 x2 x3 x9 x10 σ2) (
  addrK x9 1 fun x35 =>
  ld1K σ2 x35 fun x36 =>
  addrK x9 3 fun x37 =>
  ld1K σ2 x37 fun x38 =>
  lenSK x38 fun x39 =>
  cmpK .lss x36 x39 fun x40 =>
  ifK x40 (
  addrK x9 3 fun x41 =>
  ld1K σ2 x41 fun x42 =>
  addrK x9 1 fun x43 =>
  ld1K σ2 x43 fun x44 =>
  idxSK x42 x44 fun x45 =>
  cmpK .eql x45 (.int .u8 9) fun x47 =>
  ifK x47 (
  addrK x9 1 fun x48 =>
  ld1K σ2 x48 fun x49 =>
  addrK x9 2 fun x50 =>
  ld1K σ2 x50 fun x51 =>
  subK x49 x51 fun x52 =>
  bitK Tryz.prog .and x52 (.int .i64 3) fun x53 =>
  subK (.int .i64 4) x53 fun x54 =>
  subK x54 (.int .i64 1) fun x55 =>
  addrK x9 0 fun x56 =>
  st1K σ2 x56 x55 fun _ σ3 =>
  addrK x9 1 fun x57 =>
  ld1K σ3 x57 fun x58 =>
  addK x58 (.int .i64 1) fun x59 =>
  addrK x9 1 fun x60 =>
  st1K σ3 x60 x59 fun _ σ4 =>
  addrK x9 1 fun x61 =>
  ld1K σ4 x61 fun x62 =>
  addrK x9 2 fun x63 =>
  st1K σ4 x63 x62 fun _ σ5 =>
  c139_3 run fu s2 x0 x1 x2 x3 x9 x10 σ5) (
  cmpK .eql x45 (.int .u8 32) fun x65 =>
  ifK x65 (
  addrK x9 1 fun x66 =>
  ld1K σ2 x66 fun x67 =>
  addK x67 (.int .i64 1) fun x68 =>
  addrK x9 1 fun x69 =>
  st1K σ2 x69 x68 fun _ σ6 =>
  c139_3 run fu s2 x0 x1 x2 x3 x9 x10 σ6) (
  c139_4 run fu s2 x0 x1 x9 x10 σ2))) (
  c139_4 run fu s2 x0 x1 x9 x10 σ2)))) (
  c139_1 run fu x0 x9 σ)

noncomputable def c139_2 (run : RunT) (fu : Nat) : Nat → W6
  | 0 => fun _ _ _ _ _ _ _ => .fail
  | m + 1 => c139_2b run fu (c139_2 run fu m)

theorem eq139_2 (run : RunT) (fu : Nat) (s2 : W6) (x0 x1 x2 x3 x9 x10 : AV) (σ : Store) : codeK X0 run (.seq (.seq .leaf (.cond .leaf .leaf)) (.seq (.block (.seq (.seq .leaf (.cond (.seq .leaf .leaf) .leaf)) (.seq (.seq .leaf (.cond .leaf .leaf)) (.seq (.seq .leaf (.cond (.seq .leaf (.block (.seq .leaf (.cond (.seq .leaf (.seq .leaf (.seq .leaf .leaf))) (.seq .leaf (.cond (.seq .leaf .leaf) .leaf)))))) .leaf)) (.sub (fun fr σ => c139_4 run fu s2 (G fr 0) (G fr 1) (G fr 9) (G fr 10) σ)))))) (.sub (fun fr σ => c139_3 run fu s2 (G fr 0) (G fr 1) (G fr 2) (G fr 3) (G fr 9) (G fr 10) σ)))) (subC [true, true, false, true, false, false] b139) (frS 0 76 [(0, x0), (1, x1), (2, x2), (3, x3), (9, x9), (10, x10)]) σ (thenK (fun fr σ => s2 (G fr 0) (G fr 1) (G fr 2) (G fr 3) (G fr 9) (G fr 10) σ) (blockK 0 (thenK (fun fr σ => c139_1 run fu (G fr 0) (G fr 9) σ) k139))) = c139_2b run fu s2 x0 x1 x2 x3 x9 x10 σ := by kernel_rfl

theorem owed139_2 {run : RunT} (hrun : RunOK X0 run) (fu : Nat) (s2 : W6) : Owes X0 run 76 (.seq (.seq .leaf (.cond .leaf .leaf)) (.seq (.block (.seq (.seq .leaf (.cond (.seq .leaf .leaf) .leaf)) (.seq (.seq .leaf (.cond .leaf .leaf)) (.seq (.seq .leaf (.cond (.seq .leaf (.block (.seq .leaf (.cond (.seq .leaf (.seq .leaf (.seq .leaf .leaf))) (.seq .leaf (.cond (.seq .leaf .leaf) .leaf)))))) .leaf)) (.sub (fun fr σ => c139_4 run fu s2 (G fr 0) (G fr 1) (G fr 9) (G fr 10) σ)))))) (.sub (fun fr σ => c139_3 run fu s2 (G fr 0) (G fr 1) (G fr 2) (G fr 3) (G fr 9) (G fr 10) σ)))) (subC [true, true, false, true, false, false] b139) (thenK (fun fr σ => s2 (G fr 0) (G fr 1) (G fr 2) (G fr 3) (G fr 9) (G fr 10) σ) (blockK 0 (thenK (fun fr σ => c139_1 run fu (G fr 0) (G fr 9) σ) k139))) :=
  ⟨⟨trivial, ⟨trivial, trivial⟩⟩, ⟨⟨⟨trivial, ⟨⟨trivial, trivial⟩, trivial⟩⟩, ⟨⟨trivial, ⟨trivial, trivial⟩⟩, ⟨⟨trivial, ⟨⟨trivial, ⟨trivial, ⟨⟨trivial, ⟨trivial, ⟨trivial, trivial⟩⟩⟩, ⟨trivial, ⟨⟨trivial, trivial⟩, trivial⟩⟩⟩⟩⟩, trivial⟩⟩, (ok139_4 hrun fu s2)⟩⟩⟩, (ok139_3 hrun fu s2)⟩⟩

theorem ok139_2 {run : RunT} (hrun : RunOK X0 run) (fu : Nat) : ∀ fr σ, KOK X0 76 (subC [true, true, false, true, false] b139) fr σ ((fun fr σ => c139_2 run fu fu (G fr 0) (G fr 1) (G fr 2) (G fr 3) (G fr 9) (G fr 10) σ) fr σ) (blockK 0 (thenK (fun fr σ => c139_1 run fu (G fr 0) (G fr 9) σ) k139)) := by
  have h := KOK.loop (X := X0) (N := 76) (b := (subC [true, true, false, true, false, false] b139)) (k := (blockK 0 (thenK (fun fr σ => c139_1 run fu (G fr 0) (G fr 9) σ) k139))) (u := fun m fr σ => c139_2 run fu m (G fr 0) (G fr 1) (G fr 2) (G fr 3) (G fr 9) (G fr 10) σ) (fun _ _ => rfl) (fun m fr σ => KOK.piece env0 hrun [0, 1, 2, 3, 9, 10] (eq139_2 run fu (c139_2 run fu m) (G fr 0) (G fr 1) (G fr 2) (G fr 3) (G fr 9) (G fr 10) σ) (owed139_2 hrun fu (c139_2 run fu m)))
  exact fun fr σ => h fu fr σ

noncomputable def c139 (run : RunT) (fu : Nat) (x0 x1 x2 x3 : AV) (σ : Store) : Tr R :=
  nchkK x0 fun x12 =>
  ldNK σ x12 5 fun x13 =>
  newK σ 201 [(.int .i64 0), (.int .i64 0), (.int .i64 0), (.str []), (.int .u8 0)] fun x9 σ1 =>
  stNK σ1 x9 5 x13 fun _ σ2 =>
  c139_2 run fu fu x0 x1 x2 x3 x9 (.int .i64 0) σ2

theorem eq139 (run : RunT) (fu : Nat) (x0 x1 x2 x3 : AV) (σ : Store) : codeK X0 run (.seq .leaf (.seq .leaf (.seq (.seq .leaf (.block (.sub (fun fr σ => c139_2 run fu fu (G fr 0) (G fr 1) (G fr 2) (G fr 3) (G fr 9) (G fr 10) σ)))) (.sub (fun fr σ => c139_1 run fu (G fr 0) (G fr 9) σ))))) (subC [] b139) ([x0, x1, x2, x3] ++ padA (76 - 4)) σ k139 = c139 run fu x0 x1 x2 x3 σ := by kernel_rfl

theorem ok139 {run : RunT} (hrun : RunOK X0 run) (fu : Nat) (x0 x1 x2 x3 : AV) (σ : Store) : CallOK X0 139 [x0, x1, x2, x3] σ (c139 run fu x0 x1 x2 x3 σ) :=
  KOK.body (fn := Tryz.f139) (c := subC [] b139) (by kernel_rfl) (by kernel_rfl) (by show 4 ≤ 76; decide) (KOK.whole env0 hrun (eq139 run fu x0 x1 x2 x3 σ) ⟨trivial, ⟨trivial, ⟨⟨trivial, (ok139_2 hrun fu)⟩, (ok139_1 hrun fu)⟩⟩⟩)

-- strings.Join

noncomputable def b164 : Code := match Tryz.f164.body with | some c => c | none => .skip

noncomputable def k164 : Kont R := retK Tryz.prog [.tmp 4]

noncomputable def c164_3 (run : RunT) (fu : Nat) (x8 : AV) (σ : Store) : Tr R :=
  calK run 20 [x8] σ fun x74 σ1 =>
  .ret (x74, σ1)

theorem eq164_3 (run : RunT) (fu : Nat) (x8 : AV) (σ : Store) : codeK X0 run (.seq .leaf .leaf) (subC [true, true, true, true, true, true, true, true, true] b164) (frS 0 75 [(8, x8)]) σ k164 = c164_3 run fu x8 σ := by kernel_rfl

theorem ok164_3 {run : RunT} (hrun : RunOK X0 run) (fu : Nat) : ∀ fr σ, KOK X0 75 (subC [true, true, true, true, true, true, true, true, true] b164) fr σ ((fun fr σ => c164_3 run fu (G fr 8) σ) fr σ) k164 := fun fr σ =>
  KOK.piece env0 hrun [8] (eq164_3 run fu (G fr 8) σ) ⟨trivial, trivial⟩

noncomputable def c164_4b (run : RunT) (fu : Nat) (s4 : W5) (x1 x8 x63 x64 x65 : AV) (σ : Store) : Tr R :=
  cmpK .lss x65 x64 fun x66 =>
  ifK x66 (
  idxK 1 x63 x65 fun x67 =>
  ld1K σ x67 fun x68 =>
  calK run 29 [x8, x1] σ fun x70 σ1 =>
  calK run 29 [x8, x68] σ1 fun x72 σ2 =>
  addK x65 (.int .i64 1) fun x73 =>
  s4 x1 x8 x63 x64 x73 σ2) (
  c164_3 run fu x8 σ)

noncomputable def c164_4 (run : RunT) (fu : Nat) : Nat → W5
  | 0 => fun _ _ _ _ _ _ => .fail
  | m + 1 => c164_4b run fu (c164_4 run fu m)

theorem eq164_4 (run : RunT) (fu : Nat) (s4 : W5) (x1 x8 x63 x64 x65 : AV) (σ : Store) : codeK X0 run (.seq .leaf (.seq (.cond .leaf .leaf) (.seq (.block (.seq .leaf (.seq .leaf .leaf))) .leaf))) (subC [true, true, true, true, true, true, true, true, false, true, false, false] b164) (frS 0 75 [(1, x1), (8, x8), (63, x63), (64, x64), (65, x65)]) σ (thenK (fun fr σ => s4 (G fr 1) (G fr 8) (G fr 63) (G fr 64) (G fr 65) σ) (blockK 3 (thenK (fun fr σ => c164_3 run fu (G fr 8) σ) k164))) = c164_4b run fu s4 x1 x8 x63 x64 x65 σ := by kernel_rfl

theorem owed164_4 {run : RunT} (hrun : RunOK X0 run) (fu : Nat) (s4 : W5) : Owes X0 run 75 (.seq .leaf (.seq (.cond .leaf .leaf) (.seq (.block (.seq .leaf (.seq .leaf .leaf))) .leaf))) (subC [true, true, true, true, true, true, true, true, false, true, false, false] b164) (thenK (fun fr σ => s4 (G fr 1) (G fr 8) (G fr 63) (G fr 64) (G fr 65) σ) (blockK 3 (thenK (fun fr σ => c164_3 run fu (G fr 8) σ) k164))) :=
  ⟨trivial, ⟨⟨trivial, trivial⟩, ⟨⟨trivial, ⟨trivial, trivial⟩⟩, trivial⟩⟩⟩

theorem ok164_4 {run : RunT} (hrun : RunOK X0 run) (fu : Nat) : ∀ fr σ, KOK X0 75 (subC [true, true, true, true, true, true, true, true, false, true, false] b164) fr σ ((fun fr σ => c164_4 run fu fu (G fr 1) (G fr 8) (G fr 63) (G fr 64) (G fr 65) σ) fr σ) (blockK 3 (thenK (fun fr σ => c164_3 run fu (G fr 8) σ) k164)) := by
  have h := KOK.loop (X := X0) (N := 75) (b := (subC [true, true, true, true, true, true, true, true, false, true, false, false] b164)) (k := (blockK 3 (thenK (fun fr σ => c164_3 run fu (G fr 8) σ) k164))) (u := fun m fr σ => c164_4 run fu m (G fr 1) (G fr 8) (G fr 63) (G fr 64) (G fr 65) σ) (fun _ _ => rfl) (fun m fr σ => KOK.piece env0 hrun [1, 8, 63, 64, 65] (eq164_4 run fu (c164_4 run fu m) (G fr 1) (G fr 8) (G fr 63) (G fr 64) (G fr 65) σ) (owed164_4 hrun fu (c164_4 run fu m)))
  exact fun fr σ => h fu fr σ

noncomputable def c164_2 (run : RunT) (fu : Nat) (x0 x1 x5 : AV) (σ : Store) : Tr R :=
  newK σ 73 [.nilp, .nils] fun x8 σ1 =>
  calK run 32 [x8, x5] σ1 fun x57 σ2 =>
  idxK 1 x0 (.int .i64 0) fun x59 =>
  ld1K σ2 x59 fun x60 =>
  calK run 29 [x8, x60] σ2 fun x61 σ3 =>
  sliceLK Tryz.prog σ3 158 x0 (some (.int .i64 1)) none fun x63 =>
  lenLK x63 fun x64 =>
  c164_4 run fu fu x1 x8 x63 x64 (.int .i64 0) σ3

theorem eq164_2 (run : RunT) (fu : Nat) (x0 x1 x5 : AV) (σ : Store) : codeK X0 run (.seq .leaf (.seq .leaf (.seq .leaf (.seq (.seq .leaf (.block (.sub (fun fr σ => c164_4 run fu fu (G fr 1) (G fr 8) (G fr 63) (G fr 64) (G fr 65) σ)))) (.sub (fun fr σ => c164_3 run fu (G fr 8) σ)))))) (subC [true, true, true, true, true] b164) (frS 0 75 [(0, x0), (1, x1), (5, x5)]) σ k164 = c164_2 run fu x0 x1 x5 σ := by kernel_rfl

theorem ok164_2 {run : RunT} (hrun : RunOK X0 run) (fu : Nat) : ∀ fr σ, KOK X0 75 (subC [true, true, true, true, true] b164) fr σ ((fun fr σ => c164_2 run fu (G fr 0) (G fr 1) (G fr 5) σ) fr σ) k164 := fun fr σ =>
  KOK.piece env0 hrun [0, 1, 5] (eq164_2 run fu (G fr 0) (G fr 1) (G fr 5) σ) ⟨trivial, ⟨trivial, ⟨trivial, ⟨⟨trivial, (ok164_4 hrun fu)⟩, (ok164_3 hrun fu)⟩⟩⟩⟩

noncomputable def c164_6 (run : RunT) (fu : Nat) (s5 : W6) (x0 x1 x5 x39 x40 x41 : AV) (σ : Store) : Tr R :=
  addK x41 (.int .i64 1) fun x55 =>
  s5 x0 x1 x5 x39 x40 x55 σ

theorem eq164_6 (run : RunT) (fu : Nat) (s5 : W6) (x0 x1 x5 x39 x40 x41 : AV) (σ : Store) : codeK X0 run .leaf (subC [true, true, true, true, false, true, false, false, true, true, true] b164) (frS 0 75 [(0, x0), (1, x1), (5, x5), (39, x39), (40, x40), (41, x41)]) σ (thenK (fun fr σ => s5 (G fr 0) (G fr 1) (G fr 5) (G fr 39) (G fr 40) (G fr 41) σ) (blockK 1 (thenK (fun fr σ => c164_2 run fu (G fr 0) (G fr 1) (G fr 5) σ) k164))) = c164_6 run fu s5 x0 x1 x5 x39 x40 x41 σ := by kernel_rfl

theorem ok164_6 {run : RunT} (hrun : RunOK X0 run) (fu : Nat) (s5 : W6) : ∀ fr σ, KOK X0 75 (subC [true, true, true, true, false, true, false, false, true, true, true] b164) fr σ ((fun fr σ => c164_6 run fu s5 (G fr 0) (G fr 1) (G fr 5) (G fr 39) (G fr 40) (G fr 41) σ) fr σ) (thenK (fun fr σ => s5 (G fr 0) (G fr 1) (G fr 5) (G fr 39) (G fr 40) (G fr 41) σ) (blockK 1 (thenK (fun fr σ => c164_2 run fu (G fr 0) (G fr 1) (G fr 5) σ) k164))) := fun fr σ =>
  KOK.piece env0 hrun [0, 1, 5, 39, 40, 41] (eq164_6 run fu s5 (G fr 0) (G fr 1) (G fr 5) (G fr 39) (G fr 40) (G fr 41) σ) trivial

noncomputable def c164_7 (run : RunT) (fu : Nat) (s5 : W6) (x0 x1 x5 x7 x39 x40 x41 : AV) (σ : Store) : Tr R :=
  lenSK x7 fun x53 =>
  addK x5 x53 fun x54 =>
  c164_6 run fu s5 x0 x1 x54 x39 x40 x41 σ

theorem eq164_7 (run : RunT) (fu : Nat) (s5 : W6) (x0 x1 x5 x7 x39 x40 x41 : AV) (σ : Store) : codeK X0 run .leaf (subC [true, true, true, true, false, true, false, false, true, true, false, false, true, true] b164) (frS 0 75 [(0, x0), (1, x1), (5, x5), (7, x7), (39, x39), (40, x40), (41, x41)]) σ (blockK 2 (thenK (fun fr σ => c164_6 run fu s5 (G fr 0) (G fr 1) (G fr 5) (G fr 39) (G fr 40) (G fr 41) σ) (thenK (fun fr σ => s5 (G fr 0) (G fr 1) (G fr 5) (G fr 39) (G fr 40) (G fr 41) σ) (blockK 1 (thenK (fun fr σ => c164_2 run fu (G fr 0) (G fr 1) (G fr 5) σ) k164))))) = c164_7 run fu s5 x0 x1 x5 x7 x39 x40 x41 σ := by kernel_rfl

theorem ok164_7 {run : RunT} (hrun : RunOK X0 run) (fu : Nat) (s5 : W6) : ∀ fr σ, KOK X0 75 (subC [true, true, true, true, false, true, false, false, true, true, false, false, true, true] b164) fr σ ((fun fr σ => c164_7 run fu s5 (G fr 0) (G fr 1) (G fr 5) (G fr 7) (G fr 39) (G fr 40) (G fr 41) σ) fr σ) (blockK 2 (thenK (fun fr σ => c164_6 run fu s5 (G fr 0) (G fr 1) (G fr 5) (G fr 39) (G fr 40) (G fr 41) σ) (thenK (fun fr σ => s5 (G fr 0) (G fr 1) (G fr 5) (G fr 39) (G fr 40) (G fr 41) σ) (blockK 1 (thenK (fun fr σ => c164_2 run fu (G fr 0) (G fr 1) (G fr 5) σ) k164))))) := fun fr σ =>
  KOK.piece env0 hrun [0, 1, 5, 7, 39, 40, 41] (eq164_7 run fu s5 (G fr 0) (G fr 1) (G fr 5) (G fr 7) (G fr 39) (G fr 40) (G fr 41) σ) trivial

noncomputable def c164_5b (run : RunT) (fu : Nat) (s5 : W6) (x0 x1 x5 x39 x40 x41 : AV) (σ : Store) : Tr R :=
  cmpK .lss x41 x40 fun x42 =>
  ifK x42 (
  idxK 1 x39 x41 fun x43 =>
  ld1K σ x43 fun x44 =>
  lenSK x44 fun x46 =>
  subK (.int .i64 9223372036854775807) x5 fun x48 =>
  cmpK .gtr x46 x48 fun x49 =>
  ifK x49 (
  .fail) (
  c164_7 run fu s5 x0 x1 x5 x44 x39 x40 x41 σ)) (
  c164_2 run fu x0 x1 x5 σ)

noncomputable def c164_5 (run : RunT) (fu : Nat) : Nat → W6
  | 0 => fun _ _ _ _ _ _ _ => .fail
  | m + 1 => c164_5b run fu (c164_5 run fu m)

theorem eq164_5 (run : RunT) (fu : Nat) (s5 : W6) (x0 x1 x5 x39 x40 x41 : AV) (σ : Store) : codeK X0 run (.seq .leaf (.seq (.cond .leaf .leaf) (.seq (.block (.seq .leaf (.seq (.seq .leaf (.cond .leaf .leaf)) (.sub (fun fr σ => c164_7 run fu s5 (G fr 0) (G fr 1) (G fr 5) (G fr 7) (G fr 39) (G fr 40) (G fr 41) σ))))) (.sub (fun fr σ => c164_6 run fu s5 (G fr 0) (G fr 1) (G fr 5) (G fr 39) (G fr 40) (G fr 41) σ))))) (subC [true, true, true, true, false, true, false, false] b164) (frS 0 75 [(0, x0), (1, x1), (5, x5), (39, x39), (40, x40), (41, x41)]) σ (thenK (fun fr σ => s5 (G fr 0) (G fr 1) (G fr 5) (G fr 39) (G fr 40) (G fr 41) σ) (blockK 1 (thenK (fun fr σ => c164_2 run fu (G fr 0) (G fr 1) (G fr 5) σ) k164))) = c164_5b run fu s5 x0 x1 x5 x39 x40 x41 σ := by kernel_rfl

theorem owed164_5 {run : RunT} (hrun : RunOK X0 run) (fu : Nat) (s5 : W6) : Owes X0 run 75 (.seq .leaf (.seq (.cond .leaf .leaf) (.seq (.block (.seq .leaf (.seq (.seq .leaf (.cond .leaf .leaf)) (.sub (fun fr σ => c164_7 run fu s5 (G fr 0) (G fr 1) (G fr 5) (G fr 7) (G fr 39) (G fr 40) (G fr 41) σ))))) (.sub (fun fr σ => c164_6 run fu s5 (G fr 0) (G fr 1) (G fr 5) (G fr 39) (G fr 40) (G fr 41) σ))))) (subC [true, true, true, true, false, true, false, false] b164) (thenK (fun fr σ => s5 (G fr 0) (G fr 1) (G fr 5) (G fr 39) (G fr 40) (G fr 41) σ) (blockK 1 (thenK (fun fr σ => c164_2 run fu (G fr 0) (G fr 1) (G fr 5) σ) k164))) :=
  ⟨trivial, ⟨⟨trivial, trivial⟩, ⟨⟨trivial, ⟨⟨trivial, ⟨trivial, trivial⟩⟩, (ok164_7 hrun fu s5)⟩⟩, (ok164_6 hrun fu s5)⟩⟩⟩

theorem ok164_5 {run : RunT} (hrun : RunOK X0 run) (fu : Nat) : ∀ fr σ, KOK X0 75 (subC [true, true, true, true, false, true, false] b164) fr σ ((fun fr σ => c164_5 run fu fu (G fr 0) (G fr 1) (G fr 5) (G fr 39) (G fr 40) (G fr 41) σ) fr σ) (blockK 1 (thenK (fun fr σ => c164_2 run fu (G fr 0) (G fr 1) (G fr 5) σ) k164)) := by
  have h := KOK.loop (X := X0) (N := 75) (b := (subC [true, true, true, true, false, true, false, false] b164)) (k := (blockK 1 (thenK (fun fr σ => c164_2 run fu (G fr 0) (G fr 1) (G fr 5) σ) k164))) (u := fun m fr σ => c164_5 run fu m (G fr 0) (G fr 1) (G fr 5) (G fr 39) (G fr 40) (G fr 41) σ) (fun _ _ => rfl) (fun m fr σ => KOK.piece env0 hrun [0, 1, 5, 39, 40, 41] (eq164_5 run fu (c164_5 run fu m) (G fr 0) (G fr 1) (G fr 5) (G fr 39) (G fr 40) (G fr 41) σ) (owed164_5 hrun fu (c164_5 run fu m)))
  exact fun fr σ => h fu fr σ

noncomputable def c164_1 (run : RunT) (fu : Nat) (x0 x1 x5 : AV) (σ : Store) : Tr R :=
  lenLK x0 fun x40 =>
  c164_5 run fu fu x0 x1 x5 x0 x40 (.int .i64 0) σ

theorem eq164_1 (run : RunT) (fu : Nat) (x0 x1 x5 : AV) (σ : Store) : codeK X0 run (.seq (.seq .leaf (.block (.sub (fun fr σ => c164_5 run fu fu (G fr 0) (G fr 1) (G fr 5) (G fr 39) (G fr 40) (G fr 41) σ)))) (.sub (fun fr σ => c164_2 run fu (G fr 0) (G fr 1) (G fr 5) σ))) (subC [true, true, true, true] b164) (frS 0 75 [(0, x0), (1, x1), (5, x5)]) σ k164 = c164_1 run fu x0 x1 x5 σ := by kernel_rfl

theorem ok164_1 {run : RunT} (hrun : RunOK X0 run) (fu : Nat) : ∀ fr σ, KOK X0 75 (subC [true, true, true, true] b164) fr σ ((fun fr σ => c164_1 run fu (G fr 0) (G fr 1) (G fr 5) σ) fr σ) k164 := fun fr σ =>
  KOK.piece env0 hrun [0, 1, 5] (eq164_1 run fu (G fr 0) (G fr 1) (G fr 5) σ) ⟨⟨trivial, (ok164_5 hrun fu)⟩, (ok164_2 hrun fu)⟩

noncomputable def c164_8 (run : RunT) (fu : Nat) (x0 x1 x5 : AV) (σ : Store) : Tr R :=
  lenSK x1 fun x33 =>
  lenLK x0 fun x35 =>
  subK x35 (.int .i64 1) fun x36 =>
  mulK x33 x36 fun x37 =>
  addK x5 x37 fun x38 =>
  c164_1 run fu x0 x1 x38 σ

theorem eq164_8 (run : RunT) (fu : Nat) (x0 x1 x5 : AV) (σ : Store) : codeK X0 run .leaf (subC [true, true, true, false, true, false, true] b164) (frS 0 75 [(0, x0), (1, x1), (5, x5)]) σ (thenK (fun fr σ => c164_1 run fu (G fr 0) (G fr 1) (G fr 5) σ) k164) = c164_8 run fu x0 x1 x5 σ := by kernel_rfl

theorem ok164_8 {run : RunT} (hrun : RunOK X0 run) (fu : Nat) : ∀ fr σ, KOK X0 75 (subC [true, true, true, false, true, false, true] b164) fr σ ((fun fr σ => c164_8 run fu (G fr 0) (G fr 1) (G fr 5) σ) fr σ) (thenK (fun fr σ => c164_1 run fu (G fr 0) (G fr 1) (G fr 5) σ) k164) := fun fr σ =>
  KOK.piece env0 hrun [0, 1, 5] (eq164_8 run fu (G fr 0) (G fr 1) (G fr 5) σ) trivial

noncomputable def c164 (run : RunT) (fu : Nat) (x0 x1 : AV) (σ : Store) : Tr R :=
  lenLK x0 fun x12 =>
  cmpK .eql x12 (.int .i64 0) fun x14 =>
  ifK x14 (
  .ret ((.str []), σ)) (
  cmpK .eql x12 (.int .i64 1) fun x16 =>
  ifK x16 (
  idxK 1 x0 (.int .i64 0) fun x18 =>
  ld1K σ x18 fun x19 =>
  .ret (x19, σ)) (
  lenSK x1 fun x21 =>
  cmpK .gtr x21 (.int .i64 0) fun x22 =>
  ifK x22 (
  lenSK x1 fun x24 =>
  lenLK x0 fun x26 =>
  subK x26 (.int .i64 1) fun x27 =>
  quoK (.int .i64 9223372036854775807) x27 fun x28 =>
  cmpK .geq x24 x28 fun x29 =>
  ifK x29 (
  .fail) (
  c164_8 run fu x0 x1 (.int .i64 0) σ)) (
  c164_1 run fu x0 x1 (.int .i64 0) σ)))

theorem eq164 (run : RunT) (fu : Nat) (x0 x1 : AV) (σ : Store) : codeK X0 run (.seq .leaf (.seq (.seq .leaf (.block (.seq .leaf (.cond (.seq .leaf .leaf) (.seq .leaf (.cond (.seq .leaf .leaf) .leaf)))))) (.seq .leaf (.seq (.seq .leaf (.cond (.seq (.seq .leaf (.cond .leaf .leaf)) (.sub (fun fr σ => c164_8 run fu (G fr 0) (G fr 1) (G fr 5) σ))) .leaf)) (.sub (fun fr σ => c164_1 run fu (G fr 0) (G fr 1) (G fr 5) σ)))))) (subC [] b164) ([x0, x1] ++ padA (75 - 2)) σ k164 = c164 run fu x0 x1 σ := by kernel_rfl

theorem ok164 {run : RunT} (hrun : RunOK X0 run) (fu : Nat) (x0 x1 : AV) (σ : Store) : CallOK X0 164 [x0, x1] σ (c164 run fu x0 x1 σ) :=
  KOK.body (fn := Tryz.f164) (c := subC [] b164) (by kernel_rfl) (by kernel_rfl) (by show 2 ≤ 75; decide) (KOK.whole env0 hrun (eq164 run fu x0 x1 σ) ⟨trivial, ⟨⟨trivial, ⟨trivial, ⟨⟨trivial, trivial⟩, ⟨trivial, ⟨⟨trivial, trivial⟩, trivial⟩⟩⟩⟩⟩, ⟨trivial, ⟨⟨trivial, ⟨⟨⟨trivial, ⟨trivial, trivial⟩⟩, (ok164_8 hrun fu)⟩, trivial⟩⟩, (ok164_1 hrun fu)⟩⟩⟩⟩)

-- (*pub-paratext/pub/rscmarkdown.validDomainChecker).skip

noncomputable def b166 : Code := match Tryz.f166.body with | some c => c | none => .skip

noncomputable def k166 : Kont R := retK Tryz.prog []

noncomputable def c166 (run : RunT) (fu : Nat) (x0 x1 : AV) (σ : Store) : Tr R :=
  nchkK x0 fun x6 =>
  addrK x6 0 fun x7 =>
  ld1K σ x7 fun x8 =>
  sliceSK x8 (some x1) none fun x10 =>
  nchkK x0 fun x11 =>
  addrK x11 0 fun x12 =>
  st1K σ x12 x10 fun _ σ1 =>
  nchkK x0 fun x14 =>
  addrK x14 1 fun x15 =>
  ld1K σ1 x15 fun x16 =>
  subK x16 x1 fun x18 =>
  nchkK x0 fun x19 =>
  addrK x19 1 fun x20 =>
  st1K σ1 x20 x18 fun _ σ2 =>
  .ret (.tup [], σ2)

theorem eq166 (run : RunT) (fu : Nat) (x0 x1 : AV) (σ : Store) : codeK X0 run (.seq .leaf .leaf) (subC [] b166) ([x0, x1] ++ padA (21 - 2)) σ k166 = c166 run fu x0 x1 σ := by kernel_rfl

theorem ok166 {run : RunT} (hrun : RunOK X0 run) (fu : Nat) (x0 x1 : AV) (σ : Store) : CallOK X0 166 [x0, x1] σ (c166 run fu x0 x1 σ) :=
  KOK.body (fn := Tryz.f166) (c := subC [] b166) (by kernel_rfl) (by kernel_rfl) (by show 2 ≤ 21; decide) (KOK.whole env0 hrun (eq166 run fu x0 x1 σ) ⟨trivial, trivial⟩)

-- (*pub-paratext/pub/rscmarkdown.parseState).parseAutoProto

noncomputable def b167 : Code := match Tryz.f167.body with | some c => c | none => .skip

noncomputable def k167 : Kont R := retK Tryz.prog [.tmp 8, .tmp 9, .tmp 10]

noncomputable def c167_1 (run : RunT) (fu : Nat) (x0 x1 x2 x3 x11 : AV) (σ : Store) : Tr R :=
  addK x2 x11 fun x33 =>
  sliceSK x1 (some x2) (some x33) fun x34 =>
  addK x2 x11 fun x39 =>
  addK x2 x11 fun x42 =>
  addK x42 (.int .i64 1) fun x43 =>
  calK run 189 [x0, x34, x1, x2, x39, x43, x3] σ fun x45 σ1 =>
  extK x45 0 fun x46 =>
  extK x45 1 fun x47 =>
  extK x45 2 fun x48 =>
  .ret (.tup [x46, x47, x48], σ1)

theorem eq167_1 (run : RunT) (fu : Nat) (x0 x1 x2 x3 x11 : AV) (σ : Store) : codeK X0 run (.seq .leaf .leaf) (subC [true, true, false, true, false, true, false, true, true] b167) (frS 0 103 [(0, x0), (1, x1), (2, x2), (3, x3), (11, x11)]) σ (blockK 0 (thenK (fun fr σ => codeK X0 run .leaf (subC [true, true, true] b167) fr σ k167) k167)) = c167_1 run fu x0 x1 x2 x3 x11 σ := by kernel_rfl

theorem ok167_1 {run : RunT} (hrun : RunOK X0 run) (fu : Nat) : ∀ fr σ, KOK X0 103 (subC [true, true, false, true, false, true, false, true, true] b167) fr σ ((fun fr σ => c167_1 run fu (G fr 0) (G fr 1) (G fr 2) (G fr 3) (G fr 11) σ) fr σ) (blockK 0 (thenK (fun fr σ => codeK X0 run .leaf (subC [true, true, true] b167) fr σ k167) k167)) := fun fr σ =>
  KOK.piece env0 hrun [0, 1, 2, 3, 11] (eq167_1 run fu (G fr 0) (G fr 1) (G fr 2) (G fr 3) (G fr 11) σ) ⟨trivial, trivial⟩

noncomputable def c167_2 (run : RunT) (fu : Nat) (x0 x1 x2 x3 x12 : AV) (σ : Store) : Tr R :=
  addK x2 (.int .i64 3) fun x69 =>
  calK run 189 [x0, x12, x1, x2, x2, x69, x3] σ fun x71 σ1 =>
  extK x71 0 fun x72 =>
  extK x71 1 fun x73 =>
  extK x71 2 fun x74 =>
  .ret (.tup [x72, x73, x74], σ1)

theorem eq167_2 (run : RunT) (fu : Nat) (x0 x1 x2 x3 x12 : AV) (σ : Store) : codeK X0 run (.seq .leaf .leaf) (subC [true, true, false, true, false, true, true, true, false, true, true, true] b167) (frS 0 103 [(0, x0), (1, x1), (2, x2), (3, x3), (12, x12)]) σ (blockK 0 (thenK (fun fr σ => codeK X0 run .leaf (subC [true, true, true] b167) fr σ k167) k167)) = c167_2 run fu x0 x1 x2 x3 x12 σ := by kernel_rfl

theorem ok167_2 {run : RunT} (hrun : RunOK X0 run) (fu : Nat) : ∀ fr σ, KOK X0 103 (subC [true, true, false, true, false, true, true, true, false, true, true, true] b167) fr σ ((fun fr σ => c167_2 run fu (G fr 0) (G fr 1) (G fr 2) (G fr 3) (G fr 12) σ) fr σ) (blockK 0 (thenK (fun fr σ => codeK X0 run .leaf (subC [true, true, true] b167) fr σ k167) k167)) := fun fr σ =>
  KOK.piece env0 hrun [0, 1, 2, 3, 12] (eq167_2 run fu (G fr 0) (G fr 1) (G fr 2) (G fr 3) (G fr 12) σ) ⟨trivial, trivial⟩

noncomputable def c167 (run : RunT) (fu : Nat) (x0 x1 x2 x3 : AV) (σ : Store) : Tr R :=
  eqSK x1 (.str []) fun x14 =>
  ifK x14 (
  .ret (.tup [.nilp, (.str []), (.bool false)], σ)) (
  idxSK x1 x2 fun x17 =>
  cmpK .eql x17 (.int .u8 104) fun x19 =>
  ifK x19 (
  sliceSK x1 (some x2) none fun x22 =>
  calK run 31 [x22, (.str [104, 116, 116, 112, 115, 58, 47, 47])] σ fun x23 σ1 =>
  ifK x23 (
  c167_1 run fu x0 x1 x2 x3 (.int .i64 8) σ1) (
  sliceSK x1 (some x2) none fun x26 =>
  calK run 31 [x26, (.str [104, 116, 116, 112, 58, 47, 47])] σ1 fun x27 σ2 =>
  ifK x27 (
  c167_1 run fu x0 x1 x2 x3 (.int .i64 7) σ2) (
  .ret (.tup [.nilp, (.str []), (.bool false)], σ2)))) (
  cmpK .eql x17 (.int .u8 119) fun x50 =>
  ifK x50 (
  sliceSK x1 (some x2) none fun x53 =>
  calK run 31 [x53, (.str [119, 119, 119, 46])] σ fun x54 σ3 =>
  notK x54 fun x55 =>
  ifK x55 (
  .ret (.tup [.nilp, (.str []), (.bool false)], σ3)) (
  nchkK x0 fun x57 =>
  addrK x57 0 fun x58 =>
  ld1K σ3 x58 fun x59 =>
  nchkK x59 fun x60 =>
  addrK x60 4 fun x61 =>
  ld1K σ3 x61 fun x62 =>
  ifK x62 (
  c167_2 run fu x0 x1 x2 x3 (.str [104, 116, 116, 112, 58, 47, 47]) σ3) (
  c167_2 run fu x0 x1 x2 x3 (.str [104, 116, 116, 112, 115, 58, 47, 47]) σ3))) (
  cmpK .eql x17 (.int .u8 109) fun x76 =>
  ifK x76 (
  sliceSK x1 (some x2) none fun x79 =>
  calK run 31 [x79, (.str [109, 97, 105, 108, 116, 111, 58])] σ fun x80 σ4 =>
  notK x80 fun x81 =>
  ifK x81 (
  .ret (.tup [.nilp, (.str []), (.bool false)], σ4)) (
  calK run 190 [x0, x1, x2] σ4 fun x85 σ5 =>
  extK x85 0 fun x86 =>
  extK x85 1 fun x87 =>
  extK x85 2 fun x88 =>
  .ret (.tup [x86, x87, x88], σ5))) (
  cmpK .eql x17 (.int .u8 120) fun x90 =>
  ifK x90 (
  sliceSK x1 (some x2) none fun x93 =>
  calK run 31 [x93, (.str [120, 109, 112, 112, 58])] σ fun x94 σ6 =>
  notK x94 fun x95 =>
  ifK x95 (
  .ret (.tup [.nilp, (.str []), (.bool false)], σ6)) (
  calK run 191 [x0, x1, x2] σ6 fun x99 σ7 =>
  extK x99 0 fun x100 =>
  extK x99 1 fun x101 =>
  extK x99 2 fun x102 =>
  .ret (.tup [x100, x101, x102], σ7))) (
  .ret (.tup [.nilp, (.str []), (.bool false)], σ))))))

theorem eq167 (run : RunT) (fu : Nat) (x0 x1 x2 x3 : AV) (σ : Store) : codeK X0 run (.seq .leaf (.seq (.seq .leaf (.cond .leaf .leaf)) (.seq (.seq .leaf (.block (.seq .leaf (.cond (.seq .leaf (.seq (.seq .leaf (.cond .leaf (.seq .leaf (.cond .leaf .leaf)))) (.sub (fun fr σ => c167_1 run fu (G fr 0) (G fr 1) (G fr 2) (G fr 3) (G fr 11) σ)))) (.seq .leaf (.cond (.seq (.seq .leaf (.cond .leaf .leaf)) (.seq .leaf (.seq (.seq .leaf (.cond .leaf .leaf)) (.sub (fun fr σ => c167_2 run fu (G fr 0) (G fr 1) (G fr 2) (G fr 3) (G fr 12) σ))))) (.seq .leaf (.cond (.seq (.seq .leaf (.cond .leaf .leaf)) (.seq .leaf .leaf)) (.seq .leaf (.cond (.seq (.seq .leaf (.cond .leaf .leaf)) (.seq .leaf .leaf)) .leaf)))))))))) .leaf))) (subC [] b167) ([x0, x1, x2, x3] ++ padA (103 - 4)) σ k167 = c167 run fu x0 x1 x2 x3 σ := by kernel_rfl

theorem ok167 {run : RunT} (hrun : RunOK X0 run) (fu : Nat) (x0 x1 x2 x3 : AV) (σ : Store) : CallOK X0 167 [x0, x1, x2, x3] σ (c167 run fu x0 x1 x2 x3 σ) :=
  KOK.body (fn := Tryz.f167) (c := subC [] b167) (by kernel_rfl) (by kernel_rfl) (by show 4 ≤ 103; decide) (KOK.whole env0 hrun (eq167 run fu x0 x1 x2 x3 σ) ⟨trivial, ⟨⟨trivial, ⟨trivial, trivial⟩⟩, ⟨⟨trivial, ⟨trivial, ⟨⟨trivial, ⟨⟨trivial, ⟨trivial, ⟨trivial, ⟨trivial, trivial⟩⟩⟩⟩, (ok167_1 hrun fu)⟩⟩, ⟨trivial, ⟨⟨⟨trivial, ⟨trivial, trivial⟩⟩, ⟨trivial, ⟨⟨trivial, ⟨trivial, trivial⟩⟩, (ok167_2 hrun fu)⟩⟩⟩, ⟨trivial, ⟨⟨⟨trivial, ⟨trivial, trivial⟩⟩, ⟨trivial, trivial⟩⟩, ⟨trivial, ⟨⟨⟨trivial, ⟨trivial, trivial⟩⟩, ⟨trivial, trivial⟩⟩, trivial⟩⟩⟩⟩⟩⟩⟩⟩⟩, trivial⟩⟩⟩)

-- (*pub-paratext/pub/rscmarkdown.line).trim

noncomputable def b168 : Code := match Tryz.f168.body with | some c => c | none => .skip

noncomputable def k168 : Kont R := retK Tryz.prog [.tmp 4]

noncomputable def c168 (run : RunT) (fu : Nat) (x0 x1 : AV) (σ : Store) : Tr R :=
  nchkK x0 fun x6 =>
  addrK x6 0 fun x7 =>
  ld1K σ x7 fun x8 =>
  cmpK .gtr x8 (.int .i64 0) fun x9 =>
  ifK x9 (
  cmpK .eql x1 (.int .u8 32) fun x11 =>
  ifK x11 (
  nchkK x0 fun x13 =>
  addrK x13 0 fun x14 =>
  ld1K σ x14 fun x15 =>
  subK x15 (.int .i64 1) fun x16 =>
  nchkK x0 fun x17 =>
  addrK x17 0 fun x18 =>
  st1K σ x18 x16 fun _ σ1 =>
  .ret ((.bool true), σ1)) (
  .ret ((.bool false), σ))) (
  nchkK x0 fun x20 =>
  addrK x20 1 fun x21 =>
  ld1K σ x21 fun x22 =>
  nchkK x0 fun x24 =>
  addrK x24 3 fun x25 =>
  ld1K σ x25 fun x26 =>
  lenSK x26 fun x27 =>
  cmpK .lss x22 x27 fun x28 =>
  grdK x28 true σ (fun f => f x0 σ) fun x30 σ2 =>
  grdK x28 true σ2 (fun f => nchkK x30 fun v => f v σ2) fun x31 σ3 =>
  grdK x28 true σ3 (fun f => addrK x31 3 fun v => f v σ3) fun x32 σ4 =>
  grdK x28 true σ4 (fun f => ld1K σ4 x32 fun v => f v σ4) fun x33 σ5 =>
  grdK x28 true σ5 (fun f => f x0 σ5) fun x34 σ6 =>
  grdK x28 true σ6 (fun f => nchkK x34 fun v => f v σ6) fun x35 σ7 =>
  grdK x28 true σ7 (fun f => addrK x35 1 fun v => f v σ7) fun x36 σ8 =>
  grdK x28 true σ8 (fun f => ld1K σ8 x36 fun v => f v σ8) fun x37 σ9 =>
  grdK x28 true σ9 (fun f => idxSK x33 x37 fun v => f v σ9) fun x38 σ10 =>
  grdK x28 true σ10 (fun f => f x1 σ10) fun x39 σ11 =>
  grdK x28 true σ11 (fun f => cmpK .eql x38 x39 fun v => f v σ11) fun x40 σ12 =>
  pickK x28 x40 (.bool false) fun x41 =>
  ifK x41 (
  nchkK x0 fun x43 =>
  addrK x43 1 fun x44 =>
  ld1K σ12 x44 fun x45 =>
  addK x45 (.int .i64 1) fun x46 =>
  nchkK x0 fun x47 =>
  addrK x47 1 fun x48 =>
  st1K σ12 x48 x46 fun _ σ13 =>
  .ret ((.bool true), σ13)) (
  .ret ((.bool false), σ12)))

theorem eq168 (run : RunT) (fu : Nat) (x0 x1 : AV) (σ : Store) : codeK X0 run (.seq .leaf (.seq (.seq .leaf (.cond (.seq (.seq .leaf (.cond (.seq .leaf (.seq .leaf .leaf)) .leaf)) (.seq .leaf .leaf)) .leaf)) (.seq (.seq .leaf (.cond (.seq .leaf (.seq .leaf .leaf)) .leaf)) (.seq .leaf .leaf)))) (subC [] b168) ([x0, x1] ++ padA (49 - 2)) σ k168 = c168 run fu x0 x1 σ := by kernel_rfl

theorem ok168 {run : RunT} (hrun : RunOK X0 run) (fu : Nat) (x0 x1 : AV) (σ : Store) : CallOK X0 168 [x0, x1] σ (c168 run fu x0 x1 σ) :=
  KOK.body (fn := Tryz.f168) (c := subC [] b168) (by kernel_rfl) (by kernel_rfl) (by show 2 ≤ 49; decide) (KOK.whole env0 hrun (eq168 run fu x0 x1 σ) ⟨trivial, ⟨⟨trivial, ⟨⟨⟨trivial, ⟨⟨trivial, ⟨trivial, trivial⟩⟩, trivial⟩⟩, ⟨trivial, trivial⟩⟩, trivial⟩⟩, ⟨⟨trivial, ⟨⟨trivial, ⟨trivial, trivial⟩⟩, trivial⟩⟩, ⟨trivial, trivial⟩⟩⟩⟩)

-- (*pub-paratext/pub/rscmarkdown.line).peek

noncomputable def b170 : Code := match Tryz.f170.body with | some c => c | none => .skip

noncomputable def k170 : Kont R := retK Tryz.prog [.tmp 2]

noncomputable def c170 (run : RunT) (fu : Nat) (x0 : AV) (σ : Store) : Tr R :=
  nchkK x0 fun x4 =>
  addrK x4 0 fun x5 =>
  ld1K σ x5 fun x6 =>
  cmpK .gtr x6 (.int .i64 0) fun x7 =>
  ifK x7 (
  .ret ((.int .u8 32), σ)) (
  nchkK x0 fun x9 =>
  addrK x9 1 fun x10 =>
  ld1K σ x10 fun x11 =>
  nchkK x0 fun x13 =>
  addrK x13 3 fun x14 =>
  ld1K σ x14 fun x15 =>
  lenSK x15 fun x16 =>
  cmpK .geq x11 x16 fun x17 =>
  ifK x17 (
  .ret ((.int .u8 0), σ)) (
  nchkK x0 fun x19 =>
  addrK x19 3 fun x20 =>
  ld1K σ x20 fun x21 =>
  nchkK x0 fun x23 =>
  addrK x23 1 fun x24 =>
  ld1K σ x24 fun x25 =>
  idxSK x21 x25 fun x26 =>
  .ret (x26, σ)))

theorem eq170 (run : RunT) (fu : Nat) (x0 : AV) (σ : Store) : codeK X0 run (.seq .leaf (.seq (.seq .leaf (.cond (.seq .leaf .leaf) .leaf)) (.seq (.seq .leaf (.cond (.seq .leaf .leaf) .leaf)) (.seq .leaf .leaf)))) (subC [] b170) ([x0] ++ padA (27 - 1)) σ k170 = c170 run fu x0 σ := by kernel_rfl

theorem ok170 {run : RunT} (hrun : RunOK X0 run) (fu : Nat) (x0 : AV) (σ : Store) : CallOK X0 170 [x0] σ (c170 run fu x0 σ) :=
  KOK.body (fn := Tryz.f170) (c := subC [] b170) (by kernel_rfl) (by kernel_rfl) (by show 1 ≤ 27; decide) (KOK.whole env0 hrun (eq170 run fu x0 σ) ⟨trivial, ⟨⟨trivial, ⟨⟨trivial, trivial⟩, trivial⟩⟩, ⟨⟨trivial, ⟨⟨trivial, trivial⟩, trivial⟩⟩, ⟨trivial, trivial⟩⟩⟩⟩)

-- pub-paratext/pub/rscmarkdown.isLDH

noncomputable def b180 : Code := match Tryz.f180.body with | some c => c | none => .skip

noncomputable def k180 : Kont R := retK Tryz.prog [.tmp 2]

noncomputable def c180 (run : RunT) (fu : Nat) (x0 : AV) (σ : Store) : Tr R :=
  calK run 126 [x0] σ fun x4 σ1 =>
  grdK x4 false σ1 (fun f => f x0 σ1) fun x6 σ2 =>
  grdK x4 false σ2 (fun f => cmpK .eql x6 (.int .u8 45) fun v => f v σ2) fun x7 σ3 =>
  pickK x4 (.bool true) x7 fun x8 =>
  .ret (x8, σ3)

theorem eq180 (run : RunT) (fu : Nat) (x0 : AV) (σ : Store) : codeK X0 run (.seq .leaf (.seq .leaf .leaf)) (subC [] b180) ([x0] ++ padA (9 - 1)) σ k180 = c180 run fu x0 σ := by kernel_rfl

theorem ok180 {run : RunT} (hrun : RunOK X0 run) (fu : Nat) (x0 : AV) (σ : Store) : CallOK X0 180 [x0] σ (c180 run fu x0 σ) :=
  KOK.body (fn := Tryz.f180) (c := subC [] b180) (by kernel_rfl) (by kernel_rfl) (by show 1 ≤ 9; decide) (KOK.whole env0 hrun (eq180 run fu x0 σ) ⟨trivial, ⟨trivial, trivial⟩⟩)

end Go.Proofs.YtfmgdjkcdmjloaaGreatDoor
