/- Functions of the program, told as Lean functions of abstract values and stores, each with its proof. -/
import Derived.Test.YtfmgdjkcdmjloaaGreatDoorSzX
import Derived.Test.YtfmgdjkcdmjloaaGreatDoorSzRe
import Derived.Test.YtfmgdjkcdmjloaaGreatDoorSzAb
set_option linter.unusedVariables false
set_option linter.unusedSimpArgs false
namespace Go.Proofs.YtfmgdjkcdmjloaaGreatDoor
open Go.AM
-- (*pub-paratext/pub/rscmarkdown.line).trim

noncomputable def b168 : Code := match Tryz.f168.body with | some c => c | none => .skip

noncomputable def k168 : Kont R := retK Tryz.prog [.tmp 4]

noncomputable def c168 (run : RunT) (fu : Nat) (x0 x1 : AV) (σ : Store) : Tr R :=
  nchkK x0 fun x6 =>
  addrK x6 0 fun x7 =>
  ld1K σ x7 fun x8 =>
  cmpK .gtr x8 (.int .i64 0) fun x9 =>
  ifK x9 (
  .fail) (
  nchkK x0 fun x20 =>
  addrK x20 1 fun x21 =>
  ld1K σ x21 fun x22 =>
  nchkK x0 fun x24 =>
  addrK x24 3 fun x25 =>
  ld1K σ x25 fun x26 =>
  lenSK x26 fun x27 =>
  cmpK .lss x22 x27 fun x28 =>
  grdK x28 true σ (fun f => f x0 σ) fun x30 σ1 =>
  grdK x28 true σ1 (fun f => nchkK x30 fun v => f v σ1) fun x31 σ2 =>
  grdK x28 true σ2 (fun f => addrK x31 3 fun v => f v σ2) fun x32 σ3 =>
  grdK x28 true σ3 (fun f => ld1K σ3 x32 fun v => f v σ3) fun x33 σ4 =>
  grdK x28 true σ4 (fun f => f x0 σ4) fun x34 σ5 =>
  grdK x28 true σ5 (fun f => nchkK x34 fun v => f v σ5) fun x35 σ6 =>
  grdK x28 true σ6 (fun f => addrK x35 1 fun v => f v σ6) fun x36 σ7 =>
  grdK x28 true σ7 (fun f => ld1K σ7 x36 fun v => f v σ7) fun x37 σ8 =>
  grdK x28 true σ8 (fun f => idxSK x33 x37 fun v => f v σ8) fun x38 σ9 =>
  grdK x28 true σ9 (fun f => f x1 σ9) fun x39 σ10 =>
  grdK x28 true σ10 (fun f => cmpK .eql x38 x39 fun v => f v σ10) fun x40 σ11 =>
  pickK x28 x40 (.bool false) fun x41 =>
  ifK x41 (
  .fail) (
  .ret ((.bool false), σ11)))

theorem eq168 (run : RunT) (fu : Nat) (x0 x1 : AV) (σ : Store) : codeK X0 run (.seq .leaf (.seq (.seq .leaf (.cond (.sub deadK) .leaf)) (.seq (.seq .leaf (.cond (.sub deadK) .leaf)) (.seq .leaf .leaf)))) (subC [] b168) ([x0, x1] ++ padA (49 - 2)) σ k168 = c168 run fu x0 x1 σ := by kernel_rfl

theorem ok168 {run : RunT} (hrun : RunOK X0 run) (fu : Nat) (x0 x1 : AV) (σ : Store) : CallOK X0 168 [x0, x1] σ (c168 run fu x0 x1 σ) :=
  KOK.body (fn := Tryz.f168) (c := subC [] b168) (by kernel_rfl) (by kernel_rfl) (by show 2 ≤ 49; decide) (KOK.whole env0 hrun (eq168 run fu x0 x1 σ) ⟨trivial, ⟨⟨trivial, ⟨KOK.dead, trivial⟩⟩, ⟨⟨trivial, ⟨KOK.dead, trivial⟩⟩, ⟨trivial, trivial⟩⟩⟩⟩)

-- (*pub-paratext/pub/rscmarkdown.line).peek

noncomputable def b170 : Code := match Tryz.f170.body with | some c => c | none => .skip

noncomputable def k170 : Kont R := retK Tryz.prog [.tmp 2]

noncomputable def c170 (run : RunT) (fu : Nat) (x0 : AV) (σ : Store) : Tr R :=
  nchkK x0 fun x4 =>
  addrK x4 0 fun x5 =>
  ld1K σ x5 fun x6 =>
  cmpK .gtr x6 (.int .i64 0) fun x7 =>
  ifK x7 (
  .fail) (
  nchkK x0 fun x9 =>
  addrK x9 1 fun x10 =>
  ld1K σ x10 fun x11 =>
  nchkK x0 fun x13 =>
  addrK x13 3 fun x14 =>
  ld1K σ x14 fun x15 =>
  lenSK x15 fun x16 =>
  cmpK .geq x11 x16 fun x17 =>
  ifK x17 (
  .fail) (
  nchkK x0 fun x19 =>
  addrK x19 3 fun x20 =>
  ld1K σ x20 fun x21 =>
  nchkK x0 fun x23 =>
  addrK x23 1 fun x24 =>
  ld1K σ x24 fun x25 =>
  idxSK x21 x25 fun x26 =>
  .ret (x26, σ)))

theorem eq170 (run : RunT) (fu : Nat) (x0 : AV) (σ : Store) : codeK X0 run (.seq .leaf (.seq (.seq .leaf (.cond (.sub deadK) .leaf)) (.seq (.seq .leaf (.cond (.sub deadK) .leaf)) (.seq .leaf .leaf)))) (subC [] b170) ([x0] ++ padA (27 - 1)) σ k170 = c170 run fu x0 σ := by kernel_rfl

theorem ok170 {run : RunT} (hrun : RunOK X0 run) (fu : Nat) (x0 : AV) (σ : Store) : CallOK X0 170 [x0] σ (c170 run fu x0 σ) :=
  KOK.body (fn := Tryz.f170) (c := subC [] b170) (by kernel_rfl) (by kernel_rfl) (by show 1 ≤ 27; decide) (KOK.whole env0 hrun (eq170 run fu x0 σ) ⟨trivial, ⟨⟨trivial, ⟨KOK.dead, trivial⟩⟩, ⟨⟨trivial, ⟨KOK.dead, trivial⟩⟩, ⟨trivial, trivial⟩⟩⟩⟩)

-- (*pub-paratext/pub/rscmarkdown.Document).PrintHTML

noncomputable def b232 : Code := match Tryz.f232.body with | some c => c | none => .skip

noncomputable def k232 : Kont R := retK Tryz.prog []

noncomputable def c232_1b (run : RunT) (fu : Nat) (s1 : W4) (x1 x9 x10 x11 : AV) (σ : Store) : Tr R :=
  cmpK .lss x11 x10 fun x12 =>
  ifK x12 (
  idxK 1 x9 x11 fun x13 =>
  ld1K σ x13 fun x14 =>
  invK X0 run x14 "PrintHTML" [x1] σ fun x17 σ1 =>
  addK x11 (.int .i64 1) fun x18 =>
  s1 x1 x9 x10 x18 σ1) (
  .ret (.tup [], σ))

noncomputable def c232_1 (run : RunT) (fu : Nat) : Nat → W4
  | 0 => fun _ _ _ _ _ => .fail
  | m + 1 => c232_1b run fu (c232_1 run fu m)

theorem eq232_1 (run : RunT) (fu : Nat) (s1 : W4) (x1 x9 x10 x11 : AV) (σ : Store) : codeK X0 run (.seq .leaf (.seq (.cond .leaf .leaf) (.seq (.block (.seq .leaf .leaf)) .leaf))) (subC [true, false, false] b232) (frS 0 19 [(1, x1), (9, x9), (10, x10), (11, x11)]) σ (thenK (fun fr σ => s1 (G fr 1) (G fr 9) (G fr 10) (G fr 11) σ) (blockK 0 k232)) = c232_1b run fu s1 x1 x9 x10 x11 σ := by kernel_rfl

theorem owed232_1 {run : RunT} (hrun : RunOK X0 run) (fu : Nat) (s1 : W4) : Owes X0 run 19 (.seq .leaf (.seq (.cond .leaf .leaf) (.seq (.block (.seq .leaf .leaf)) .leaf))) (subC [true, false, false] b232) (thenK (fun fr σ => s1 (G fr 1) (G fr 9) (G fr 10) (G fr 11) σ) (blockK 0 k232)) :=
  ⟨trivial, ⟨⟨trivial, trivial⟩, ⟨⟨trivial, trivial⟩, trivial⟩⟩⟩

theorem ok232_1 {run : RunT} (hrun : RunOK X0 run) (fu : Nat) : ∀ fr σ, KOK X0 19 (subC [true, false] b232) fr σ ((fun fr σ => c232_1 run fu fu (G fr 1) (G fr 9) (G fr 10) (G fr 11) σ) fr σ) (blockK 0 k232) := by
  have h := KOK.loop (X := X0) (N := 19) (b := (subC [true, false, false] b232)) (k := (blockK 0 k232)) (u := fun m fr σ => c232_1 run fu m (G fr 1) (G fr 9) (G fr 10) (G fr 11) σ) (fun _ _ => rfl) (fun m fr σ => KOK.piece env0 hrun [1, 9, 10, 11] (eq232_1 run fu (c232_1 run fu m) (G fr 1) (G fr 9) (G fr 10) (G fr 11) σ) (owed232_1 hrun fu (c232_1 run fu m)))
  exact fun fr σ => h fu fr σ

noncomputable def c232 (run : RunT) (fu : Nat) (x0 x1 : AV) (σ : Store) : Tr R :=
  nchkK x0 fun x7 =>
  addrK x7 2 fun x8 =>
  ld1K σ x8 fun x9 =>
  lenLK x9 fun x10 =>
  c232_1 run fu fu x1 x9 x10 (.int .i64 0) σ

theorem eq232 (run : RunT) (fu : Nat) (x0 x1 : AV) (σ : Store) : codeK X0 run (.seq .leaf (.block (.sub (fun fr σ => c232_1 run fu fu (G fr 1) (G fr 9) (G fr 10) (G fr 11) σ)))) (subC [] b232) ([x0, x1] ++ padA (19 - 2)) σ k232 = c232 run fu x0 x1 σ := by kernel_rfl

theorem ok232 {run : RunT} (hrun : RunOK X0 run) (fu : Nat) (x0 x1 : AV) (σ : Store) : CallOK X0 232 [x0, x1] σ (c232 run fu x0 x1 σ) :=
  KOK.body (fn := Tryz.f232) (c := subC [] b232) (by kernel_rfl) (by kernel_rfl) (by show 2 ≤ 19; decide) (KOK.whole env0 hrun (eq232 run fu x0 x1 σ) ⟨trivial, (ok232_1 hrun fu)⟩)

-- (*pub-paratext/pub/rscmarkdown.rootBuilder).build

noncomputable def b234 : Code := match Tryz.f234.body with | some c => c | none => .skip

noncomputable def k234 : Kont R := retK Tryz.prog [.tmp 4]

noncomputable def c234 (run : RunT) (fu : Nat) (x0 x1 : AV) (σ : Store) : Tr R :=
  invK X0 run x1 "pub-paratext/pub/rscmarkdown.pos" [] σ fun x6 σ1 =>
  invK X0 run x1 "pub-paratext/pub/rscmarkdown.blocks" [] σ1 fun x8 σ2 =>
  tasK (some .nilp) 110 false x1 fun x10 =>
  nchkK x10 fun x11 =>
  addrK x11 2 fun x12 =>
  ld1K σ2 x12 fun x13 =>
  bldK [(.int .i64 0), (.int .i64 0), .nils, .nilm] [(0, 2, x6), (2, 1, x8), (3, 1, x13)] fun x14 =>
  boxK σ2 669 x14 fun x15 σ3 =>
  ld1K σ x12 fun v4 =>
  must (AV.beq v4 x13) (
  ld1K σ1 x12 fun v5 =>
  must (AV.beq v5 x13) (
  .ret ((.iface 48 x15), σ3)))

theorem eq234 (run : RunT) (fu : Nat) (x0 x1 : AV) (σ : Store) : codeK X0 run (.seq .leaf (.seq .leaf .leaf)) (subC [] b234) ([x0, x1] ++ padA (17 - 2)) σ k234 = c234 run fu x0 x1 σ := by kernel_rfl

theorem ok234 {run : RunT} (hrun : RunOK X0 run) (fu : Nat) (x0 x1 : AV) (σ : Store) : CallOK X0 234 [x0, x1] σ (c234 run fu x0 x1 σ) :=
  KOK.body (fn := Tryz.f234) (c := subC [] b234) (by kernel_rfl) (by kernel_rfl) (by show 2 ≤ 17; decide) (KOK.whole env0 hrun (eq234 run fu x0 x1 σ) ⟨trivial, ⟨trivial, trivial⟩⟩)

-- (*pub-paratext/pub/rscmarkdown.Text).PrintHTML

noncomputable def b236 : Code := match Tryz.f236.body with | some c => c | none => .skip

noncomputable def k236 : Kont R := retK Tryz.prog []

noncomputable def c236_1b (run : RunT) (fu : Nat) (s1 : W4) (x1 x9 x10 x11 : AV) (σ : Store) : Tr R :=
  cmpK .lss x11 x10 fun x12 =>
  ifK x12 (
  idxK 1 x9 x11 fun x13 =>
  ld1K σ x13 fun x14 =>
  invK X0 run x14 "PrintHTML" [x1] σ fun x17 σ1 =>
  addK x11 (.int .i64 1) fun x18 =>
  s1 x1 x9 x10 x18 σ1) (
  .ret (.tup [], σ))

noncomputable def c236_1 (run : RunT) (fu : Nat) : Nat → W4
  | 0 => fun _ _ _ _ _ => .fail
  | m + 1 => c236_1b run fu (c236_1 run fu m)

theorem eq236_1 (run : RunT) (fu : Nat) (s1 : W4) (x1 x9 x10 x11 : AV) (σ : Store) : codeK X0 run (.seq .leaf (.seq (.cond .leaf .leaf) (.seq (.block (.seq .leaf .leaf)) .leaf))) (subC [true, false, false] b236) (frS 0 19 [(1, x1), (9, x9), (10, x10), (11, x11)]) σ (thenK (fun fr σ => s1 (G fr 1) (G fr 9) (G fr 10) (G fr 11) σ) (blockK 0 k236)) = c236_1b run fu s1 x1 x9 x10 x11 σ := by kernel_rfl

theorem owed236_1 {run : RunT} (hrun : RunOK X0 run) (fu : Nat) (s1 : W4) : Owes X0 run 19 (.seq .leaf (.seq (.cond .leaf .leaf) (.seq (.block (.seq .leaf .leaf)) .leaf))) (subC [true, false, false] b236) (thenK (fun fr σ => s1 (G fr 1) (G fr 9) (G fr 10) (G fr 11) σ) (blockK 0 k236)) :=
  ⟨trivial, ⟨⟨trivial, trivial⟩, ⟨⟨trivial, trivial⟩, trivial⟩⟩⟩

theorem ok236_1 {run : RunT} (hrun : RunOK X0 run) (fu : Nat) : ∀ fr σ, KOK X0 19 (subC [true, false] b236) fr σ ((fun fr σ => c236_1 run fu fu (G fr 1) (G fr 9) (G fr 10) (G fr 11) σ) fr σ) (blockK 0 k236) := by
  have h := KOK.loop (X := X0) (N := 19) (b := (subC [true, false, false] b236)) (k := (blockK 0 k236)) (u := fun m fr σ => c236_1 run fu m (G fr 1) (G fr 9) (G fr 10) (G fr 11) σ) (fun _ _ => rfl) (fun m fr σ => KOK.piece env0 hrun [1, 9, 10, 11] (eq236_1 run fu (c236_1 run fu m) (G fr 1) (G fr 9) (G fr 10) (G fr 11) σ) (owed236_1 hrun fu (c236_1 run fu m)))
  exact fun fr σ => h fu fr σ

noncomputable def c236 (run : RunT) (fu : Nat) (x0 x1 : AV) (σ : Store) : Tr R :=
  nchkK x0 fun x7 =>
  addrK x7 2 fun x8 =>
  ld1K σ x8 fun x9 =>
  lenLK x9 fun x10 =>
  c236_1 run fu fu x1 x9 x10 (.int .i64 0) σ

theorem eq236 (run : RunT) (fu : Nat) (x0 x1 : AV) (σ : Store) : codeK X0 run (.seq .leaf (.block (.sub (fun fr σ => c236_1 run fu fu (G fr 1) (G fr 9) (G fr 10) (G fr 11) σ)))) (subC [] b236) ([x0, x1] ++ padA (19 - 2)) σ k236 = c236 run fu x0 x1 σ := by kernel_rfl

theorem ok236 {run : RunT} (hrun : RunOK X0 run) (fu : Nat) (x0 x1 : AV) (σ : Store) : CallOK X0 236 [x0, x1] σ (c236 run fu x0 x1 σ) :=
  KOK.body (fn := Tryz.f236) (c := subC [] b236) (by kernel_rfl) (by kernel_rfl) (by show 2 ≤ 19; decide) (KOK.whole env0 hrun (eq236 run fu x0 x1 σ) ⟨trivial, (ok236_1 hrun fu)⟩)

-- (*pub-paratext/pub/rscmarkdown.parseState).blocks

noncomputable def b246 : Code := match Tryz.f246.body with | some c => c | none => .skip

noncomputable def k246 : Kont R := retK Tryz.prog [.tmp 2]

noncomputable def c246 (run : RunT) (fu : Nat) (x0 : AV) (σ : Store) : Tr R :=
  nchkK x0 fun x5 =>
  addrK x5 4 fun x6 =>
  ld1K σ x6 fun x7 =>
  nchkK x0 fun x9 =>
  addrK x9 4 fun x10 =>
  ld1K σ x10 fun x11 =>
  lenLK x11 fun x12 =>
  subK x12 (.int .i64 1) fun x13 =>
  idxK 4 x7 x13 fun x14 =>
  nchkK x14 fun x16 =>
  addrK x16 1 fun x17 =>
  ld1K σ x17 fun x18 =>
  .ret (x18, σ)

theorem eq246 (run : RunT) (fu : Nat) (x0 : AV) (σ : Store) : codeK X0 run (.seq .leaf (.seq .leaf (.seq .leaf .leaf))) (subC [] b246) ([x0] ++ padA (19 - 1)) σ k246 = c246 run fu x0 σ := by kernel_rfl

theorem ok246 {run : RunT} (hrun : RunOK X0 run) (fu : Nat) (x0 : AV) (σ : Store) : CallOK X0 246 [x0] σ (c246 run fu x0 σ) :=
  KOK.body (fn := Tryz.f246) (c := subC [] b246) (by kernel_rfl) (by kernel_rfl) (by show 1 ≤ 19; decide) (KOK.whole env0 hrun (eq246 run fu x0 σ) ⟨trivial, ⟨trivial, ⟨trivial, trivial⟩⟩⟩)

-- (*pub-paratext/pub/rscmarkdown.parseState).pos

noncomputable def b247 : Code := match Tryz.f247.body with | some c => c | none => .skip

noncomputable def k247 : Kont R := retK Tryz.prog [.cell 2 104]

noncomputable def c247 (run : RunT) (fu : Nat) (x0 : AV) (σ : Store) : Tr R :=
  newK σ 209 [(.int .i64 0), (.int .i64 0)] fun x2 σ1 =>
  nchkK x0 fun x5 =>
  addrK x5 4 fun x6 =>
  ld1K σ1 x6 fun x7 =>
  nchkK x0 fun x9 =>
  addrK x9 4 fun x10 =>
  ld1K σ1 x10 fun x11 =>
  lenLK x11 fun x12 =>
  subK x12 (.int .i64 1) fun x13 =>
  idxK 4 x7 x13 fun x14 =>
  nchkK x14 fun x16 =>
  addrK x16 2 fun x17 =>
  ldNK σ1 x17 2 fun x18 =>
  stNK σ1 x2 2 x18 fun _ σ2 =>
  ldNK σ2 x2 2 fun v3 =>
  .ret (v3, σ2)

theorem eq247 (run : RunT) (fu : Nat) (x0 : AV) (σ : Store) : codeK X0 run (.seq .leaf (.seq .leaf (.seq .leaf .leaf))) (subC [] b247) ([x0] ++ padA (19 - 1)) σ k247 = c247 run fu x0 σ := by kernel_rfl

theorem ok247 {run : RunT} (hrun : RunOK X0 run) (fu : Nat) (x0 : AV) (σ : Store) : CallOK X0 247 [x0] σ (c247 run fu x0 σ) :=
  KOK.body (fn := Tryz.f247) (c := subC [] b247) (by kernel_rfl) (by kernel_rfl) (by show 1 ≤ 19; decide) (KOK.whole env0 hrun (eq247 run fu x0 σ) ⟨trivial, ⟨trivial, ⟨trivial, trivial⟩⟩⟩)

-- (*pub-paratext/pub/rscmarkdown.Plain).PrintHTML

noncomputable def b249 : Code := match Tryz.f249.body with | some c => c | none => .skip

noncomputable def k249 : Kont R := retK Tryz.prog []

noncomputable def c249 (run : RunT) (fu : Nat) (x0 x1 : AV) (σ : Store) : Tr R :=
  calK run 252 [] σ fun x4 σ1 =>
  nchkK x0 fun x7 =>
  addrK x7 0 fun x8 =>
  ld1K σ1 x8 fun x9 =>
  calK run 253 [x4, x1, x9] σ1 fun x10 σ2 =>
  ld1K σ x8 fun v3 =>
  must (AV.beq v3 x9) (
  .ret (.tup [], σ2))

theorem eq249 (run : RunT) (fu : Nat) (x0 x1 : AV) (σ : Store) : codeK X0 run .leaf (subC [] b249) ([x0, x1] ++ padA (11 - 2)) σ k249 = c249 run fu x0 x1 σ := by kernel_rfl

theorem ok249 {run : RunT} (hrun : RunOK X0 run) (fu : Nat) (x0 x1 : AV) (σ : Store) : CallOK X0 249 [x0, x1] σ (c249 run fu x0 x1 σ) :=
  KOK.body (fn := Tryz.f249) (c := subC [] b249) (by kernel_rfl) (by kernel_rfl) (by show 2 ≤ 11; decide) (KOK.whole env0 hrun (eq249 run fu x0 x1 σ) trivial)

-- (*pub-paratext/pub/rscmarkdown.Plain).PrintText

noncomputable def b250 : Code := match Tryz.f250.body with | some c => c | none => .skip

noncomputable def k250 : Kont R := retK Tryz.prog []

noncomputable def c250 (run : RunT) (fu : Nat) (x0 x1 : AV) (σ : Store) : Tr R :=
  calK run 252 [] σ fun x4 σ1 =>
  nchkK x0 fun x7 =>
  addrK x7 0 fun x8 =>
  ld1K σ1 x8 fun x9 =>
  calK run 253 [x4, x1, x9] σ1 fun x10 σ2 =>
  ld1K σ x8 fun v3 =>
  must (AV.beq v3 x9) (
  .ret (.tup [], σ2))

theorem eq250 (run : RunT) (fu : Nat) (x0 x1 : AV) (σ : Store) : codeK X0 run .leaf (subC [] b250) ([x0, x1] ++ padA (11 - 2)) σ k250 = c250 run fu x0 x1 σ := by kernel_rfl

theorem ok250 {run : RunT} (hrun : RunOK X0 run) (fu : Nat) (x0 x1 : AV) (σ : Store) : CallOK X0 250 [x0, x1] σ (c250 run fu x0 x1 σ) :=
  KOK.body (fn := Tryz.f250) (c := subC [] b250) (by kernel_rfl) (by kernel_rfl) (by show 2 ≤ 11; decide) (KOK.whole env0 hrun (eq250 run fu x0 x1 σ) trivial)

-- pub-paratext/pub/rscmarkdown.htmlEscaper

noncomputable def b252 : Code := match Tryz.f252.body with | some c => c | none => .skip

noncomputable def k252 : Kont R := retK Tryz.prog [.tmp 0]

noncomputable def c252 (run : RunT) (fu : Nat) (σ : Store) : Tr R :=
  opt (fillK [(.str []), (.str []), (.str []), (.str []), (.str []), (.str []), (.str []), (.str [])] [(0, 1, (.str [34])), (1, 1, (.str [38, 113, 117, 111, 116, 59])), (2, 1, (.str [38])), (3, 1, (.str [38, 97, 109, 112, 59])), (4, 1, (.str [60])), (5, 1, (.str [38, 108, 116, 59])), (6, 1, (.str [62])), (7, 1, (.str [38, 103, 116, 59]))]) fun cs => newSK σ 19 cs 8 1 fun x1 σ1 =>
  .ret (x1, σ1)

theorem eq252 (run : RunT) (fu : Nat) (σ : Store) : codeK X0 run (.seq .leaf (.seq .leaf .leaf)) (subC [] b252) ([] ++ padA (2 - 0)) σ k252 = c252 run fu σ := by kernel_rfl

theorem ok252 {run : RunT} (hrun : RunOK X0 run) (fu : Nat) (σ : Store) : CallOK X0 252 [] σ (c252 run fu σ) :=
  KOK.body (fn := Tryz.f252) (c := subC [] b252) (by kernel_rfl) (by kernel_rfl) (by show 0 ≤ 2; decide) (KOK.whole env0 hrun (eq252 run fu σ) ⟨trivial, ⟨trivial, trivial⟩⟩)

-- (*pub-paratext/pub/rscmarkdown.Link).PrintHTML

noncomputable def b256 : Code := match Tryz.f256.body with | some c => c | none => .skip

noncomputable def k256 : Kont R := retK Tryz.prog []

noncomputable def c256_2 (run : RunT) (fu : Nat) (x1 : AV) (σ : Store) : Tr R :=
  calK run 240 [x1, (.str [60, 47, 97, 62])] σ fun x47 σ1 =>
  .ret (.tup [], σ1)

theorem eq256_2 (run : RunT) (fu : Nat) (x1 : AV) (σ : Store) : codeK X0 run .leaf (subC [true, true, true, true] b256) (frS 0 48 [(1, x1)]) σ k256 = c256_2 run fu x1 σ := by kernel_rfl

theorem ok256_2 {run : RunT} (hrun : RunOK X0 run) (fu : Nat) : ∀ fr σ, KOK X0 48 (subC [true, true, true, true] b256) fr σ ((fun fr σ => c256_2 run fu (G fr 1) σ) fr σ) k256 := fun fr σ =>
  KOK.piece env0 hrun [1] (eq256_2 run fu (G fr 1) σ) trivial

noncomputable def c256_3b (run : RunT) (fu : Nat) (s3 : W4) (x1 x36 x37 x38 : AV) (σ : Store) : Tr R :=
  cmpK .lss x38 x37 fun x39 =>
  ifK x39 (
  idxK 1 x36 x38 fun x40 =>
  ld1K σ x40 fun x41 =>
  invK X0 run x41 "PrintHTML" [x1] σ fun x44 σ1 =>
  addK x38 (.int .i64 1) fun x45 =>
  s3 x1 x36 x37 x45 σ1) (
  c256_2 run fu x1 σ)

noncomputable def c256_3 (run : RunT) (fu : Nat) : Nat → W4
  | 0 => fun _ _ _ _ _ => .fail
  | m + 1 => c256_3b run fu (c256_3 run fu m)

theorem eq256_3 (run : RunT) (fu : Nat) (s3 : W4) (x1 x36 x37 x38 : AV) (σ : Store) : codeK X0 run (.seq .leaf (.seq (.cond .leaf .leaf) (.seq (.block (.seq .leaf .leaf)) .leaf))) (subC [true, true, true, false, true, false, false] b256) (frS 0 48 [(1, x1), (36, x36), (37, x37), (38, x38)]) σ (thenK (fun fr σ => s3 (G fr 1) (G fr 36) (G fr 37) (G fr 38) σ) (blockK 0 (thenK (fun fr σ => c256_2 run fu (G fr 1) σ) k256))) = c256_3b run fu s3 x1 x36 x37 x38 σ := by kernel_rfl

theorem owed256_3 {run : RunT} (hrun : RunOK X0 run) (fu : Nat) (s3 : W4) : Owes X0 run 48 (.seq .leaf (.seq (.cond .leaf .leaf) (.seq (.block (.seq .leaf .leaf)) .leaf))) (subC [true, true, true, false, true, false, false] b256) (thenK (fun fr σ => s3 (G fr 1) (G fr 36) (G fr 37) (G fr 38) σ) (blockK 0 (thenK (fun fr σ => c256_2 run fu (G fr 1) σ) k256))) :=
  ⟨trivial, ⟨⟨trivial, trivial⟩, ⟨⟨trivial, trivial⟩, trivial⟩⟩⟩

theorem ok256_3 {run : RunT} (hrun : RunOK X0 run) (fu : Nat) : ∀ fr σ, KOK X0 48 (subC [true, true, true, false, true, false] b256) fr σ ((fun fr σ => c256_3 run fu fu (G fr 1) (G fr 36) (G fr 37) (G fr 38) σ) fr σ) (blockK 0 (thenK (fun fr σ => c256_2 run fu (G fr 1) σ) k256)) := by
  have h := KOK.loop (X := X0) (N := 48) (b := (subC [true, true, true, false, true, false, false] b256)) (k := (blockK 0 (thenK (fun fr σ => c256_2 run fu (G fr 1) σ) k256))) (u := fun m fr σ => c256_3 run fu m (G fr 1) (G fr 36) (G fr 37) (G fr 38) σ) (fun _ _ => rfl) (fun m fr σ => KOK.piece env0 hrun [1, 36, 37, 38] (eq256_3 run fu (c256_3 run fu m) (G fr 1) (G fr 36) (G fr 37) (G fr 38) σ) (owed256_3 hrun fu (c256_3 run fu m)))
  exact fun fr σ => h fu fr σ

noncomputable def c256_1 (run : RunT) (fu : Nat) (x0 x1 : AV) (σ : Store) : Tr R :=
  calK run 240 [x1, (.str [62])] σ fun x32 σ1 =>
  nchkK x0 fun x34 =>
  addrK x34 0 fun x35 =>
  ld1K σ1 x35 fun x36 =>
  lenLK x36 fun x37 =>
  c256_3 run fu fu x1 x36 x37 (.int .i64 0) σ1

theorem eq256_1 (run : RunT) (fu : Nat) (x0 x1 : AV) (σ : Store) : codeK X0 run (.seq .leaf (.seq (.seq .leaf (.block (.sub (fun fr σ => c256_3 run fu fu (G fr 1) (G fr 36) (G fr 37) (G fr 38) σ)))) (.sub (fun fr σ => c256_2 run fu (G fr 1) σ)))) (subC [true, true] b256) (frS 0 48 [(0, x0), (1, x1)]) σ k256 = c256_1 run fu x0 x1 σ := by kernel_rfl

theorem ok256_1 {run : RunT} (hrun : RunOK X0 run) (fu : Nat) : ∀ fr σ, KOK X0 48 (subC [true, true] b256) fr σ ((fun fr σ => c256_1 run fu (G fr 0) (G fr 1) σ) fr σ) k256 := fun fr σ =>
  KOK.piece env0 hrun [0, 1] (eq256_1 run fu (G fr 0) (G fr 1) σ) ⟨trivial, ⟨⟨trivial, (ok256_3 hrun fu)⟩, (ok256_2 hrun fu)⟩⟩

noncomputable def c256 (run : RunT) (fu : Nat) (x0 x1 : AV) (σ : Store) : Tr R :=
  calK run 259 [] σ fun x7 σ1 =>
  nchkK x0 fun x9 =>
  addrK x9 1 fun x10 =>
  ld1K σ1 x10 fun x11 =>
  calK run 260 [x7, x11] σ1 fun x12 σ2 =>
  catK (.str [60, 97, 32, 104, 114, 101, 102, 61, 34]) x12 fun x13 =>
  catK x13 (.str [34]) fun x14 =>
  calK run 240 [x1, x14] σ2 fun x15 σ3 =>
  ld1K σ x10 fun v4 =>
  must (AV.beq v4 x11) (
  nchkK x0 fun x17 =>
  addrK x17 2 fun x18 =>
  ld1K σ3 x18 fun x19 =>
  neSK x19 (.str []) fun x20 =>
  ifK x20 (
  calK run 261 [] σ3 fun x22 σ5 =>
  nchkK x0 fun x24 =>
  addrK x24 2 fun x25 =>
  ld1K σ5 x25 fun x26 =>
  calK run 260 [x22, x26] σ5 fun x27 σ6 =>
  catK (.str [32, 116, 105, 116, 108, 101, 61, 34]) x27 fun x28 =>
  catK x28 (.str [34]) fun x29 =>
  calK run 240 [x1, x29] σ6 fun x30 σ7 =>
  ld1K σ3 x25 fun v8 =>
  must (AV.beq v8 x26) (
  c256_1 run fu x0 x1 σ7)) (
  .fail))

theorem eq256 (run : RunT) (fu : Nat) (x0 x1 : AV) (σ : Store) : codeK X0 run (.seq .leaf (.seq (.seq .leaf (.cond .leaf (.sub deadK))) (.sub (fun fr σ => c256_1 run fu (G fr 0) (G fr 1) σ)))) (subC [] b256) ([x0, x1] ++ padA (48 - 2)) σ k256 = c256 run fu x0 x1 σ := by kernel_rfl

theorem ok256 {run : RunT} (hrun : RunOK X0 run) (fu : Nat) (x0 x1 : AV) (σ : Store) : CallOK X0 256 [x0, x1] σ (c256 run fu x0 x1 σ) :=
  KOK.body (fn := Tryz.f256) (c := subC [] b256) (by kernel_rfl) (by kernel_rfl) (by show 2 ≤ 48; decide) (KOK.whole env0 hrun (eq256 run fu x0 x1 σ) ⟨trivial, ⟨⟨trivial, ⟨trivial, KOK.dead⟩⟩, (ok256_1 hrun fu)⟩⟩)

-- pub-paratext/pub/rscmarkdown.htmlLinkEscaper

noncomputable def b259 : Code := match Tryz.f259.body with | some c => c | none => .skip

noncomputable def k259 : Kont R := retK Tryz.prog [.tmp 0]

noncomputable def c259 (run : RunT) (fu : Nat) (σ : Store) : Tr R :=
  opt (fillK [(.str []), (.str []), (.str []), (.str []), (.str []), (.str []), (.str []), (.str []), (.str []), (.str []), (.str []), (.str []), (.str []), (.str []), (.str []), (.str []), (.str []), (.str []), (.str []), (.str []), (.str []), (.str []), (.str []), (.str []), (.str []), (.str []), (.str []), (.str []), (.str []), (.str []), (.str []), (.str []), (.str []), (.str []), (.str []), (.str []), (.str []), (.str []), (.str []), (.str []), (.str []), (.str []), (.str []), (.str []), (.str []), (.str []), (.str []), (.str []), (.str []), (.str []), (.str []), (.str []), (.str []), (.str []), (.str []), (.str []), (.str []), (.str []), (.str []), (.str []), (.str []), (.str []), (.str []), (.str []), (.str []), (.str []), (.str []), (.str []), (.str []), (.str []), (.str []), (.str []), (.str []), (.str []), (.str []), (.str []), (.str []), (.str []), (.str []), (.str []), (.str []), (.str []), (.str []), (.str []), (.str []), (.str []), (.str []), (.str []), (.str []), (.str []), (.str []), (.str []), (.str []), (.str []), (.str []), (.str []), (.str []), (.str []), (.str []), (.str []), (.str []), (.str []), (.str []), (.str []), (.str []), (.str []), (.str []), (.str []), (.str []), (.str []), (.str []), (.str []), (.str []), (.str []), (.str []), (.str []), (.str []), (.str []), (.str []), (.str []), (.str []), (.str []), (.str []), (.str []), (.str []), (.str []), (.str []), (.str []), (.str []), (.str []), (.str []), (.str []), (.str []), (.str []), (.str []), (.str []), (.str []), (.str []), (.str []), (.str []), (.str []), (.str []), (.str []), (.str []), (.str []), (.str []), (.str []), (.str []), (.str []), (.str []), (.str []), (.str []), (.str []), (.str []), (.str []), (.str []), (.str []), (.str []), (.str []), (.str []), (.str []), (.str []), (.str []), (.str []), (.str []), (.str []), (.str []), (.str []), (.str []), (.str []), (.str []), (.str []), (.str []), (.str []), (.str []), (.str []), (.str []), (.str []), (.str []), (.str []), (.str []), (.str []), (.str []), (.str []), (.str []), (.str []), (.str []), (.str []), (.str []), (.str []), (.str []), (.str []), (.str []), (.str []), (.str []), (.str []), (.str []), (.str []), (.str []), (.str []), (.str []), (.str []), (.str []), (.str []), (.str []), (.str []), (.str []), (.str []), (.str []), (.str []), (.str []), (.str []), (.str []), (.str []), (.str []), (.str []), (.str []), (.str []), (.str []), (.str []), (.str []), (.str []), (.str []), (.str []), (.str []), (.str []), (.str []), (.str []), (.str []), (.str []), (.str []), (.str []), (.str []), (.str []), (.str []), (.str []), (.str []), (.str []), (.str []), (.str []), (.str []), (.str []), (.str []), (.str []), (.str []), (.str []), (.str []), (.str []), (.str []), (.str []), (.str []), (.str []), (.str []), (.str []), (.str []), (.str []), (.str []), (.str []), (.str []), (.str []), (.str []), (.str []), (.str []), (.str []), (.str []), (.str []), (.str []), (.str []), (.str []), (.str []), (.str []), (.str []), (.str []), (.str []), (.str []), (.str []), (.str []), (.str []), (.str []), (.str []), (.str []), (.str []), (.str []), (.str []), (.str []), (.str []), (.str []), (.str []), (.str []), (.str []), (.str []), (.str []), (.str []), (.str []), (.str []), (.str []), (.str []), (.str []), (.str []), (.str []), (.str []), (.str []), (.str []), (.str []), (.str []), (.str []), (.str []), (.str []), (.str []), (.str []), (.str []), (.str []), (.str []), (.str []), (.str []), (.str []), (.str []), (.str []), (.str []), (.str []), (.str []), (.str []), (.str []), (.str []), (.str []), (.str []), (.str []), (.str []), (.str []), (.str []), (.str []), (.str []), (.str []), (.str []), (.str []), (.str []), (.str []), (.str []), (.str []), (.str [])] [(0, 1, (.str [34])), (1, 1, (.str [37, 50, 50])), (2, 1, (.str [38])), (3, 1, (.str [38, 97, 109, 112, 59])), (4, 1, (.str [60])), (5, 1, (.str [37, 51, 67])), (6, 1, (.str [62])), (7, 1, (.str [37, 51, 69])), (8, 1, (.str [92])), (9, 1, (.str [37, 53, 67])), (10, 1, (.str [32])), (11, 1, (.str [37, 50, 48])), (12, 1, (.str [96])), (13, 1, (.str [37, 54, 48])), (14, 1, (.str [91])), (15, 1, (.str [37, 53, 66])), (16, 1, (.str [93])), (17, 1, (.str [37, 53, 68])), (18, 1, (.str [94])), (19, 1, (.str [37, 53, 69])), (20, 1, (.str [123])), (21, 1, (.str [37, 55, 66])), (22, 1, (.str [125])), (23, 1, (.str [37, 55, 68])), (24, 1, (.str [0])), (25, 1, (.str [37, 48, 48])), (26, 1, (.str [1])), (27, 1, (.str [37, 48, 49])), (28, 1, (.str [2])), (29, 1, (.str [37, 48, 50])), (30, 1, (.str [3])), (31, 1, (.str [37, 48, 51])), (32, 1, (.str [4])), (33, 1, (.str [37, 48, 52])), (34, 1, (.str [5])), (35, 1, (.str [37, 48, 53])), (36, 1, (.str [6])), (37, 1, (.str [37, 48, 54])), (38, 1, (.str [7])), (39, 1, (.str [37, 48, 55])), (40, 1, (.str [8])), (41, 1, (.str [37, 48, 56])), (42, 1, (.str [11])), (43, 1, (.str [37, 48, 66])), (44, 1, (.str [12])), (45, 1, (.str [37, 48, 67])), (46, 1, (.str [14])), (47, 1, (.str [37, 48, 69])), (48, 1, (.str [15])), (49, 1, (.str [37, 48, 70])), (50, 1, (.str [16])), (51, 1, (.str [37, 49, 48])), (52, 1, (.str [17])), (53, 1, (.str [37, 49, 49])), (54, 1, (.str [18])), (55, 1, (.str [37, 49, 50])), (56, 1, (.str [19])), (57, 1, (.str [37, 49, 51])), (58, 1, (.str [20])), (59, 1, (.str [37, 49, 52])), (60, 1, (.str [21])), (61, 1, (.str [37, 49, 53])), (62, 1, (.str [22])), (63, 1, (.str [37, 49, 54])), (64, 1, (.str [23])), (65, 1, (.str [37, 49, 55])), (66, 1, (.str [24])), (67, 1, (.str [37, 49, 56])), (68, 1, (.str [25])), (69, 1, (.str [37, 49, 57])), (70, 1, (.str [26])), (71, 1, (.str [37, 49, 65])), (72, 1, (.str [27])), (73, 1, (.str [37, 49, 66])), (74, 1, (.str [28])), (75, 1, (.str [37, 49, 67])), (76, 1, (.str [29])), (77, 1, (.str [37, 49, 68])), (78, 1, (.str [30])), (79, 1, (.str [37, 49, 69])), (80, 1, (.str [31])), (81, 1, (.str [37, 49, 70])), (82, 1, (.str [127])), (83, 1, (.str [37, 55, 70])), (84, 1, (.str [128])), (85, 1, (.str [37, 56, 48])), (86, 1, (.str [129])), (87, 1, (.str [37, 56, 49])), (88, 1, (.str [130])), (89, 1, (.str [37, 56, 50])), (90, 1, (.str [131])), (91, 1, (.str [37, 56, 51])), (92, 1, (.str [132])), (93, 1, (.str [37, 56, 52])), (94, 1, (.str [133])), (95, 1, (.str [37, 56, 53])), (96, 1, (.str [134])), (97, 1, (.str [37, 56, 54])), (98, 1, (.str [135])), (99, 1, (.str [37, 56, 55])), (100, 1, (.str [136])), (101, 1, (.str [37, 56, 56])), (102, 1, (.str [137])), (103, 1, (.str [37, 56, 57])), (104, 1, (.str [138])), (105, 1, (.str [37, 56, 65])), (106, 1, (.str [139])), (107, 1, (.str [37, 56, 66])), (108, 1, (.str [140])), (109, 1, (.str [37, 56, 67])), (110, 1, (.str [141])), (111, 1, (.str [37, 56, 68])), (112, 1, (.str [142])), (113, 1, (.str [37, 56, 69])), (114, 1, (.str [143])), (115, 1, (.str [37, 56, 70])), (116, 1, (.str [144])), (117, 1, (.str [37, 57, 48])), (118, 1, (.str [145])), (119, 1, (.str [37, 57, 49])), (120, 1, (.str [146])), (121, 1, (.str [37, 57, 50])), (122, 1, (.str [147])), (123, 1, (.str [37, 57, 51])), (124, 1, (.str [148])), (125, 1, (.str [37, 57, 52])), (126, 1, (.str [149])), (127, 1, (.str [37, 57, 53])), (128, 1, (.str [150])), (129, 1, (.str [37, 57, 54])), (130, 1, (.str [151])), (131, 1, (.str [37, 57, 55])), (132, 1, (.str [152])), (133, 1, (.str [37, 57, 56])), (134, 1, (.str [153])), (135, 1, (.str [37, 57, 57])), (136, 1, (.str [154])), (137, 1, (.str [37, 57, 65])), (138, 1, (.str [155])), (139, 1, (.str [37, 57, 66])), (140, 1, (.str [156])), (141, 1, (.str [37, 57, 67])), (142, 1, (.str [157])), (143, 1, (.str [37, 57, 68])), (144, 1, (.str [158])), (145, 1, (.str [37, 57, 69])), (146, 1, (.str [159])), (147, 1, (.str [37, 57, 70])), (148, 1, (.str [160])), (149, 1, (.str [37, 65, 48])), (150, 1, (.str [161])), (151, 1, (.str [37, 65, 49])), (152, 1, (.str [162])), (153, 1, (.str [37, 65, 50])), (154, 1, (.str [163])), (155, 1, (.str [37, 65, 51])), (156, 1, (.str [164])), (157, 1, (.str [37, 65, 52])), (158, 1, (.str [165])), (159, 1, (.str [37, 65, 53])), (160, 1, (.str [166])), (161, 1, (.str [37, 65, 54])), (162, 1, (.str [167])), (163, 1, (.str [37, 65, 55])), (164, 1, (.str [168])), (165, 1, (.str [37, 65, 56])), (166, 1, (.str [169])), (167, 1, (.str [37, 65, 57])), (168, 1, (.str [170])), (169, 1, (.str [37, 65, 65])), (170, 1, (.str [171])), (171, 1, (.str [37, 65, 66])), (172, 1, (.str [172])), (173, 1, (.str [37, 65, 67])), (174, 1, (.str [173])), (175, 1, (.str [37, 65, 68])), (176, 1, (.str [174])), (177, 1, (.str [37, 65, 69])), (178, 1, (.str [175])), (179, 1, (.str [37, 65, 70])), (180, 1, (.str [176])), (181, 1, (.str [37, 66, 48])), (182, 1, (.str [177])), (183, 1, (.str [37, 66, 49])), (184, 1, (.str [178])), (185, 1, (.str [37, 66, 50])), (186, 1, (.str [179])), (187, 1, (.str [37, 66, 51])), (188, 1, (.str [180])), (189, 1, (.str [37, 66, 52])), (190, 1, (.str [181])), (191, 1, (.str [37, 66, 53])), (192, 1, (.str [182])), (193, 1, (.str [37, 66, 54])), (194, 1, (.str [183])), (195, 1, (.str [37, 66, 55])), (196, 1, (.str [184])), (197, 1, (.str [37, 66, 56])), (198, 1, (.str [185])), (199, 1, (.str [37, 66, 57])), (200, 1, (.str [186])), (201, 1, (.str [37, 66, 65])), (202, 1, (.str [187])), (203, 1, (.str [37, 66, 66])), (204, 1, (.str [188])), (205, 1, (.str [37, 66, 67])), (206, 1, (.str [189])), (207, 1, (.str [37, 66, 68])), (208, 1, (.str [190])), (209, 1, (.str [37, 66, 69])), (210, 1, (.str [191])), (211, 1, (.str [37, 66, 70])), (212, 1, (.str [192])), (213, 1, (.str [37, 67, 48])), (214, 1, (.str [193])), (215, 1, (.str [37, 67, 49])), (216, 1, (.str [194])), (217, 1, (.str [37, 67, 50])), (218, 1, (.str [195])), (219, 1, (.str [37, 67, 51])), (220, 1, (.str [196])), (221, 1, (.str [37, 67, 52])), (222, 1, (.str [197])), (223, 1, (.str [37, 67, 53])), (224, 1, (.str [198])), (225, 1, (.str [37, 67, 54])), (226, 1, (.str [199])), (227, 1, (.str [37, 67, 55])), (228, 1, (.str [200])), (229, 1, (.str [37, 67, 56])), (230, 1, (.str [201])), (231, 1, (.str [37, 67, 57])), (232, 1, (.str [202])), (233, 1, (.str [37, 67, 65])), (234, 1, (.str [203])), (235, 1, (.str [37, 67, 66])), (236, 1, (.str [204])), (237, 1, (.str [37, 67, 67])), (238, 1, (.str [205])), (239, 1, (.str [37, 67, 68])), (240, 1, (.str [206])), (241, 1, (.str [37, 67, 69])), (242, 1, (.str [207])), (243, 1, (.str [37, 67, 70])), (244, 1, (.str [208])), (245, 1, (.str [37, 68, 48])), (246, 1, (.str [209])), (247, 1, (.str [37, 68, 49])), (248, 1, (.str [210])), (249, 1, (.str [37, 68, 50])), (250, 1, (.str [211])), (251, 1, (.str [37, 68, 51])), (252, 1, (.str [212])), (253, 1, (.str [37, 68, 52])), (254, 1, (.str [213])), (255, 1, (.str [37, 68, 53])), (256, 1, (.str [214])), (257, 1, (.str [37, 68, 54])), (258, 1, (.str [215])), (259, 1, (.str [37, 68, 55])), (260, 1, (.str [216])), (261, 1, (.str [37, 68, 56])), (262, 1, (.str [217])), (263, 1, (.str [37, 68, 57])), (264, 1, (.str [218])), (265, 1, (.str [37, 68, 65])), (266, 1, (.str [219])), (267, 1, (.str [37, 68, 66])), (268, 1, (.str [220])), (269, 1, (.str [37, 68, 67])), (270, 1, (.str [221])), (271, 1, (.str [37, 68, 68])), (272, 1, (.str [222])), (273, 1, (.str [37, 68, 69])), (274, 1, (.str [223])), (275, 1, (.str [37, 68, 70])), (276, 1, (.str [224])), (277, 1, (.str [37, 69, 48])), (278, 1, (.str [225])), (279, 1, (.str [37, 69, 49])), (280, 1, (.str [226])), (281, 1, (.str [37, 69, 50])), (282, 1, (.str [227])), (283, 1, (.str [37, 69, 51])), (284, 1, (.str [228])), (285, 1, (.str [37, 69, 52])), (286, 1, (.str [229])), (287, 1, (.str [37, 69, 53])), (288, 1, (.str [230])), (289, 1, (.str [37, 69, 54])), (290, 1, (.str [231])), (291, 1, (.str [37, 69, 55])), (292, 1, (.str [232])), (293, 1, (.str [37, 69, 56])), (294, 1, (.str [233])), (295, 1, (.str [37, 69, 57])), (296, 1, (.str [234])), (297, 1, (.str [37, 69, 65])), (298, 1, (.str [235])), (299, 1, (.str [37, 69, 66])), (300, 1, (.str [236])), (301, 1, (.str [37, 69, 67])), (302, 1, (.str [237])), (303, 1, (.str [37, 69, 68])), (304, 1, (.str [238])), (305, 1, (.str [37, 69, 69])), (306, 1, (.str [239])), (307, 1, (.str [37, 69, 70])), (308, 1, (.str [240])), (309, 1, (.str [37, 70, 48])), (310, 1, (.str [241])), (311, 1, (.str [37, 70, 49])), (312, 1, (.str [242])), (313, 1, (.str [37, 70, 50])), (314, 1, (.str [243])), (315, 1, (.str [37, 70, 51])), (316, 1, (.str [244])), (317, 1, (.str [37, 70, 52])), (318, 1, (.str [245])), (319, 1, (.str [37, 70, 53])), (320, 1, (.str [246])), (321, 1, (.str [37, 70, 54])), (322, 1, (.str [247])), (323, 1, (.str [37, 70, 55])), (324, 1, (.str [248])), (325, 1, (.str [37, 70, 56])), (326, 1, (.str [249])), (327, 1, (.str [37, 70, 57])), (328, 1, (.str [250])), (329, 1, (.str [37, 70, 65])), (330, 1, (.str [251])), (331, 1, (.str [37, 70, 66])), (332, 1, (.str [252])), (333, 1, (.str [37, 70, 67])), (334, 1, (.str [253])), (335, 1, (.str [37, 70, 68])), (336, 1, (.str [254])), (337, 1, (.str [37, 70, 69])), (338, 1, (.str [255])), (339, 1, (.str [37, 70, 70]))]) fun cs => newSK σ 19 cs 340 1 fun x1 σ1 =>
  .ret (x1, σ1)

theorem eq259 (run : RunT) (fu : Nat) (σ : Store) : codeK X0 run (.seq .leaf (.seq .leaf .leaf)) (subC [] b259) ([] ++ padA (2 - 0)) σ k259 = c259 run fu σ := by kernel_rfl

theorem ok259 {run : RunT} (hrun : RunOK X0 run) (fu : Nat) (σ : Store) : CallOK X0 259 [] σ (c259 run fu σ) :=
  KOK.body (fn := Tryz.f259) (c := subC [] b259) (by kernel_rfl) (by kernel_rfl) (by show 0 ≤ 2; decide) (KOK.whole env0 hrun (eq259 run fu σ) ⟨trivial, ⟨trivial, trivial⟩⟩)

-- (pub-paratext/pub/rscmarkdown.zzPairs).Replace

noncomputable def b260 : Code := match Tryz.f260.body with | some c => c | none => .skip

noncomputable def k260 : Kont R := retK Tryz.prog [.tmp 4]

noncomputable def c260 (run : RunT) (fu : Nat) (x0 x1 : AV) (σ : Store) : Tr R :=
  newK σ 135 [.nils, (.int .i64 0), (.int .i8 0)] fun x5 σ1 =>
  calK run 253 [x0, x5, x1] σ1 fun x8 σ2 =>
  calK run 37 [x5] σ2 fun x9 σ3 =>
  .ret (x9, σ3)

theorem eq260 (run : RunT) (fu : Nat) (x0 x1 : AV) (σ : Store) : codeK X0 run (.seq .leaf (.seq .leaf (.seq .leaf (.seq .leaf .leaf)))) (subC [] b260) ([x0, x1] ++ padA (10 - 2)) σ k260 = c260 run fu x0 x1 σ := by kernel_rfl

theorem ok260 {run : RunT} (hrun : RunOK X0 run) (fu : Nat) (x0 x1 : AV) (σ : Store) : CallOK X0 260 [x0, x1] σ (c260 run fu x0 x1 σ) :=
  KOK.body (fn := Tryz.f260) (c := subC [] b260) (by kernel_rfl) (by kernel_rfl) (by show 2 ≤ 10; decide) (KOK.whole env0 hrun (eq260 run fu x0 x1 σ) ⟨trivial, ⟨trivial, ⟨trivial, ⟨trivial, trivial⟩⟩⟩⟩)

-- pub-paratext/pub/rscmarkdown.htmlQuoteEscaper

noncomputable def b261 : Code := match Tryz.f261.body with | some c => c | none => .skip

noncomputable def k261 : Kont R := retK Tryz.prog [.tmp 0]

noncomputable def c261 (run : RunT) (fu : Nat) (σ : Store) : Tr R :=
  opt (fillK [(.str []), (.str []), (.str []), (.str []), (.str []), (.str []), (.str []), (.str [])] [(0, 1, (.str [34])), (1, 1, (.str [38, 113, 117, 111, 116, 59])), (2, 1, (.str [38])), (3, 1, (.str [38, 97, 109, 112, 59])), (4, 1, (.str [60])), (5, 1, (.str [38, 108, 116, 59])), (6, 1, (.str [62])), (7, 1, (.str [38, 103, 116, 59]))]) fun cs => newSK σ 19 cs 8 1 fun x1 σ1 =>
  .ret (x1, σ1)

theorem eq261 (run : RunT) (fu : Nat) (σ : Store) : codeK X0 run (.seq .leaf (.seq .leaf .leaf)) (subC [] b261) ([] ++ padA (2 - 0)) σ k261 = c261 run fu σ := by kernel_rfl

theorem ok261 {run : RunT} (hrun : RunOK X0 run) (fu : Nat) (σ : Store) : CallOK X0 261 [] σ (c261 run fu σ) :=
  KOK.body (fn := Tryz.f261) (c := subC [] b261) (by kernel_rfl) (by kernel_rfl) (by show 0 ≤ 2; decide) (KOK.whole env0 hrun (eq261 run fu σ) ⟨trivial, ⟨trivial, trivial⟩⟩)

-- (*pub-paratext/pub/rscmarkdown.Image).PrintHTML

noncomputable def b263 : Code := match Tryz.f263.body with | some c => c | none => .skip

noncomputable def k263 : Kont R := retK Tryz.prog []

noncomputable def c263_3 (run : RunT) (fu : Nat) (x1 : AV) (σ : Store) : Tr R :=
  calK run 240 [x1, (.str [32, 47, 62])] σ fun x69 σ1 =>
  .ret (.tup [], σ1)

theorem eq263_3 (run : RunT) (fu : Nat) (x1 : AV) (σ : Store) : codeK X0 run .leaf (subC [true, true, true, true, true, true, true, true] b263) (frS 0 70 [(1, x1)]) σ k263 = c263_3 run fu x1 σ := by kernel_rfl

theorem ok263_3 {run : RunT} (hrun : RunOK X0 run) (fu : Nat) : ∀ fr σ, KOK X0 70 (subC [true, true, true, true, true, true, true, true] b263) fr σ ((fun fr σ => c263_3 run fu (G fr 1) σ) fr σ) k263 := fun fr σ =>
  KOK.piece env0 hrun [1] (eq263_3 run fu (G fr 1) σ) trivial

noncomputable def c263_2 (run : RunT) (fu : Nat) (x0 x1 : AV) (σ : Store) : Tr R :=
  calK run 240 [x1, (.str [34])] σ fun x52 σ1 =>
  nchkK x0 fun x54 =>
  addrK x54 2 fun x55 =>
  ld1K σ1 x55 fun x56 =>
  neSK x56 (.str []) fun x57 =>
  ifK x57 (
  calK run 261 [] σ1 fun x59 σ2 =>
  nchkK x0 fun x61 =>
  addrK x61 2 fun x62 =>
  ld1K σ2 x62 fun x63 =>
  calK run 260 [x59, x63] σ2 fun x64 σ3 =>
  catK (.str [32, 116, 105, 116, 108, 101, 61, 34]) x64 fun x65 =>
  catK x65 (.str [34]) fun x66 =>
  calK run 240 [x1, x66] σ3 fun x67 σ4 =>
  ld1K σ1 x62 fun v5 =>
  must (AV.beq v5 x63) (
  c263_3 run fu x1 σ4)) (
  .fail)

theorem eq263_2 (run : RunT) (fu : Nat) (x0 x1 : AV) (σ : Store) : codeK X0 run (.seq .leaf (.seq (.seq .leaf (.cond .leaf (.sub deadK))) (.sub (fun fr σ => c263_3 run fu (G fr 1) σ)))) (subC [true, true, true, true, true, true] b263) (frS 0 70 [(0, x0), (1, x1)]) σ k263 = c263_2 run fu x0 x1 σ := by kernel_rfl

theorem ok263_2 {run : RunT} (hrun : RunOK X0 run) (fu : Nat) : ∀ fr σ, KOK X0 70 (subC [true, true, true, true, true, true] b263) fr σ ((fun fr σ => c263_2 run fu (G fr 0) (G fr 1) σ) fr σ) k263 := fun fr σ =>
  KOK.piece env0 hrun [0, 1] (eq263_2 run fu (G fr 0) (G fr 1) σ) ⟨trivial, ⟨⟨trivial, ⟨trivial, KOK.dead⟩⟩, (ok263_3 hrun fu)⟩⟩

noncomputable def c263_5 (run : RunT) (fu : Nat) (s4 : W4) (x0 x1 x4 x7 : AV) (σ : Store) : Tr R :=
  addK x4 (.int .i64 1) fun x42 =>
  s4 x0 x1 x42 x7 σ

theorem eq263_5 (run : RunT) (fu : Nat) (s4 : W4) (x0 x1 x4 x7 : AV) (σ : Store) : codeK X0 run .leaf (subC [true, true, true, true, true, false, false, false, true, true] b263) (frS 0 70 [(0, x0), (1, x1), (4, x4), (7, x7)]) σ (thenK (fun fr σ => s4 (G fr 0) (G fr 1) (G fr 4) (G fr 7) σ) (blockK 2 (thenK (fun fr σ => c263_2 run fu (G fr 0) (G fr 1) σ) k263))) = c263_5 run fu s4 x0 x1 x4 x7 σ := by kernel_rfl

theorem ok263_5 {run : RunT} (hrun : RunOK X0 run) (fu : Nat) (s4 : W4) : ∀ fr σ, KOK X0 70 (subC [true, true, true, true, true, false, false, false, true, true] b263) fr σ ((fun fr σ => c263_5 run fu s4 (G fr 0) (G fr 1) (G fr 4) (G fr 7) σ) fr σ) (thenK (fun fr σ => s4 (G fr 0) (G fr 1) (G fr 4) (G fr 7) σ) (blockK 2 (thenK (fun fr σ => c263_2 run fu (G fr 0) (G fr 1) σ) k263))) := fun fr σ =>
  KOK.piece env0 hrun [0, 1, 4, 7] (eq263_5 run fu s4 (G fr 0) (G fr 1) (G fr 4) (G fr 7) σ) trivial

noncomputable def c263_4b (run : RunT) (fu : Nat) (s4 : W4) (x0 x1 x4 x7 : AV) (σ : Store) : Tr R :=
  lenLK x7 fun x39 =>
  cmpK .lss x4 x39 fun x40 =>
  ifK x40 (
  idxK 1 x7 x4 fun x45 =>
  ld1K σ x45 fun x46 =>
  cmpK .eql x46 (.int .u8 10) fun x47 =>
  ifK x47 (
  .fail) (
  c263_5 run fu s4 x0 x1 x4 x7 σ)) (
  c263_2 run fu x0 x1 σ)

noncomputable def c263_4 (run : RunT) (fu : Nat) : Nat → W4
  | 0 => fun _ _ _ _ _ => .fail
  | m + 1 => c263_4b run fu (c263_4 run fu m)

theorem eq263_4 (run : RunT) (fu : Nat) (s4 : W4) (x0 x1 x4 x7 : AV) (σ : Store) : codeK X0 run (.seq (.seq .leaf (.cond .leaf .leaf)) (.seq (.block (.seq .leaf (.cond (.sub deadK) .leaf))) (.sub (fun fr σ => c263_5 run fu s4 (G fr 0) (G fr 1) (G fr 4) (G fr 7) σ)))) (subC [true, true, true, true, true, false, false, false] b263) (frS 0 70 [(0, x0), (1, x1), (4, x4), (7, x7)]) σ (thenK (fun fr σ => s4 (G fr 0) (G fr 1) (G fr 4) (G fr 7) σ) (blockK 2 (thenK (fun fr σ => c263_2 run fu (G fr 0) (G fr 1) σ) k263))) = c263_4b run fu s4 x0 x1 x4 x7 σ := by kernel_rfl

theorem owed263_4 {run : RunT} (hrun : RunOK X0 run) (fu : Nat) (s4 : W4) : Owes X0 run 70 (.seq (.seq .leaf (.cond .leaf .leaf)) (.seq (.block (.seq .leaf (.cond (.sub deadK) .leaf))) (.sub (fun fr σ => c263_5 run fu s4 (G fr 0) (G fr 1) (G fr 4) (G fr 7) σ)))) (subC [true, true, true, true, true, false, false, false] b263) (thenK (fun fr σ => s4 (G fr 0) (G fr 1) (G fr 4) (G fr 7) σ) (blockK 2 (thenK (fun fr σ => c263_2 run fu (G fr 0) (G fr 1) σ) k263))) :=
  ⟨⟨trivial, ⟨trivial, trivial⟩⟩, ⟨⟨trivial, ⟨KOK.dead, trivial⟩⟩, (ok263_5 hrun fu s4)⟩⟩

theorem ok263_4 {run : RunT} (hrun : RunOK X0 run) (fu : Nat) : ∀ fr σ, KOK X0 70 (subC [true, true, true, true, true, false, false] b263) fr σ ((fun fr σ => c263_4 run fu fu (G fr 0) (G fr 1) (G fr 4) (G fr 7) σ) fr σ) (blockK 2 (thenK (fun fr σ => c263_2 run fu (G fr 0) (G fr 1) σ) k263)) := by
  have h := KOK.loop (X := X0) (N := 70) (b := (subC [true, true, true, true, true, false, false, false] b263)) (k := (blockK 2 (thenK (fun fr σ => c263_2 run fu (G fr 0) (G fr 1) σ) k263))) (u := fun m fr σ => c263_4 run fu m (G fr 0) (G fr 1) (G fr 4) (G fr 7) σ) (fun _ _ => rfl) (fun m fr σ => KOK.piece env0 hrun [0, 1, 4, 7] (eq263_4 run fu (c263_4 run fu m) (G fr 0) (G fr 1) (G fr 4) (G fr 7) σ) (owed263_4 hrun fu (c263_4 run fu m)))
  exact fun fr σ => h fu fr σ

noncomputable def c263_1 (run : RunT) (fu : Nat) (x0 x1 x4 : AV) (σ : Store) : Tr R :=
  calK run 266 [x1] σ fun x36 σ1 =>
  c263_4 run fu fu x0 x1 x4 x36 σ1

theorem eq263_1 (run : RunT) (fu : Nat) (x0 x1 x4 : AV) (σ : Store) : codeK X0 run (.seq .leaf (.seq (.block (.sub (fun fr σ => c263_4 run fu fu (G fr 0) (G fr 1) (G fr 4) (G fr 7) σ))) (.sub (fun fr σ => c263_2 run fu (G fr 0) (G fr 1) σ)))) (subC [true, true, true, true] b263) (frS 0 70 [(0, x0), (1, x1), (4, x4)]) σ k263 = c263_1 run fu x0 x1 x4 σ := by kernel_rfl

theorem ok263_1 {run : RunT} (hrun : RunOK X0 run) (fu : Nat) : ∀ fr σ, KOK X0 70 (subC [true, true, true, true] b263) fr σ ((fun fr σ => c263_1 run fu (G fr 0) (G fr 1) (G fr 4) σ) fr σ) k263 := fun fr σ =>
  KOK.piece env0 hrun [0, 1, 4] (eq263_1 run fu (G fr 0) (G fr 1) (G fr 4) σ) ⟨trivial, ⟨(ok263_4 hrun fu), (ok263_2 hrun fu)⟩⟩

noncomputable def c263_6b (run : RunT) (fu : Nat) (s6 : W6) (x0 x1 x4 x25 x26 x27 : AV) (σ : Store) : Tr R :=
  cmpK .lss x27 x26 fun x28 =>
  ifK x28 (
  idxK 1 x25 x27 fun x29 =>
  ld1K σ x29 fun x30 =>
  invK X0 run x30 "PrintText" [x1] σ fun x33 σ1 =>
  addK x27 (.int .i64 1) fun x34 =>
  s6 x0 x1 x4 x25 x26 x34 σ1) (
  c263_1 run fu x0 x1 x4 σ)

noncomputable def c263_6 (run : RunT) (fu : Nat) : Nat → W6
  | 0 => fun _ _ _ _ _ _ _ => .fail
  | m + 1 => c263_6b run fu (c263_6 run fu m)

theorem eq263_6 (run : RunT) (fu : Nat) (s6 : W6) (x0 x1 x4 x25 x26 x27 : AV) (σ : Store) : codeK X0 run (.seq .leaf (.seq (.cond .leaf .leaf) (.seq (.block (.seq .leaf .leaf)) .leaf))) (subC [true, true, true, false, true, false, false] b263) (frS 0 70 [(0, x0), (1, x1), (4, x4), (25, x25), (26, x26), (27, x27)]) σ (thenK (fun fr σ => s6 (G fr 0) (G fr 1) (G fr 4) (G fr 25) (G fr 26) (G fr 27) σ) (blockK 0 (thenK (fun fr σ => c263_1 run fu (G fr 0) (G fr 1) (G fr 4) σ) k263))) = c263_6b run fu s6 x0 x1 x4 x25 x26 x27 σ := by kernel_rfl

theorem owed263_6 {run : RunT} (hrun : RunOK X0 run) (fu : Nat) (s6 : W6) : Owes X0 run 70 (.seq .leaf (.seq (.cond .leaf .leaf) (.seq (.block (.seq .leaf .leaf)) .leaf))) (subC [true, true, true, false, true, false, false] b263) (thenK (fun fr σ => s6 (G fr 0) (G fr 1) (G fr 4) (G fr 25) (G fr 26) (G fr 27) σ) (blockK 0 (thenK (fun fr σ => c263_1 run fu (G fr 0) (G fr 1) (G fr 4) σ) k263))) :=
  ⟨trivial, ⟨⟨trivial, trivial⟩, ⟨⟨trivial, trivial⟩, trivial⟩⟩⟩

theorem ok263_6 {run : RunT} (hrun : RunOK X0 run) (fu : Nat) : ∀ fr σ, KOK X0 70 (subC [true, true, true, false, true, false] b263) fr σ ((fun fr σ => c263_6 run fu fu (G fr 0) (G fr 1) (G fr 4) (G fr 25) (G fr 26) (G fr 27) σ) fr σ) (blockK 0 (thenK (fun fr σ => c263_1 run fu (G fr 0) (G fr 1) (G fr 4) σ) k263)) := by
  have h := KOK.loop (X := X0) (N := 70) (b := (subC [true, true, true, false, true, false, false] b263)) (k := (blockK 0 (thenK (fun fr σ => c263_1 run fu (G fr 0) (G fr 1) (G fr 4) σ) k263))) (u := fun m fr σ => c263_6 run fu m (G fr 0) (G fr 1) (G fr 4) (G fr 25) (G fr 26) (G fr 27) σ) (fun _ _ => rfl) (fun m fr σ => KOK.piece env0 hrun [0, 1, 4, 25, 26, 27] (eq263_6 run fu (c263_6 run fu m) (G fr 0) (G fr 1) (G fr 4) (G fr 25) (G fr 26) (G fr 27) σ) (owed263_6 hrun fu (c263_6 run fu m)))
  exact fun fr σ => h fu fr σ

noncomputable def c263 (run : RunT) (fu : Nat) (x0 x1 : AV) (σ : Store) : Tr R :=
  calK run 259 [] σ fun x9 σ1 =>
  nchkK x0 fun x11 =>
  addrK x11 1 fun x12 =>
  ld1K σ1 x12 fun x13 =>
  calK run 260 [x9, x13] σ1 fun x14 σ2 =>
  catK (.str [60, 105, 109, 103, 32, 115, 114, 99, 61, 34]) x14 fun x15 =>
  catK x15 (.str [34]) fun x16 =>
  calK run 240 [x1, x16] σ2 fun x17 σ3 =>
  ld1K σ x12 fun v4 =>
  must (AV.beq v4 x13) (
  calK run 240 [x1, (.str [32, 97, 108, 116, 61, 34])] σ3 fun x19 σ5 =>
  calK run 243 [x1] σ5 fun x21 σ6 =>
  nchkK x0 fun x23 =>
  addrK x23 0 fun x24 =>
  ld1K σ6 x24 fun x25 =>
  lenLK x25 fun x26 =>
  c263_6 run fu fu x0 x1 x21 x25 x26 (.int .i64 0) σ6)

theorem eq263 (run : RunT) (fu : Nat) (x0 x1 : AV) (σ : Store) : codeK X0 run (.seq .leaf (.seq .leaf (.seq .leaf (.seq (.seq .leaf (.block (.sub (fun fr σ => c263_6 run fu fu (G fr 0) (G fr 1) (G fr 4) (G fr 25) (G fr 26) (G fr 27) σ)))) (.sub (fun fr σ => c263_1 run fu (G fr 0) (G fr 1) (G fr 4) σ)))))) (subC [] b263) ([x0, x1] ++ padA (70 - 2)) σ k263 = c263 run fu x0 x1 σ := by kernel_rfl

theorem ok263 {run : RunT} (hrun : RunOK X0 run) (fu : Nat) (x0 x1 : AV) (σ : Store) : CallOK X0 263 [x0, x1] σ (c263 run fu x0 x1 σ) :=
  KOK.body (fn := Tryz.f263) (c := subC [] b263) (by kernel_rfl) (by kernel_rfl) (by show 2 ≤ 70; decide) (KOK.whole env0 hrun (eq263 run fu x0 x1 σ) ⟨trivial, ⟨trivial, ⟨trivial, ⟨⟨trivial, (ok263_6 hrun fu)⟩, (ok263_1 hrun fu)⟩⟩⟩⟩)

-- (*bytes.Buffer).Bytes

noncomputable def b266 : Code := match Tryz.f266.body with | some c => c | none => .skip

noncomputable def k266 : Kont R := retK Tryz.prog [.tmp 2]

noncomputable def c266 (run : RunT) (fu : Nat) (x0 : AV) (σ : Store) : Tr R :=
  nchkK x0 fun x4 =>
  addrK x4 0 fun x5 =>
  ld1K σ x5 fun x6 =>
  nchkK x0 fun x8 =>
  addrK x8 1 fun x9 =>
  ld1K σ x9 fun x10 =>
  sliceLK Tryz.prog σ 34 x6 (some x10) none fun x11 =>
  .ret (x11, σ)

theorem eq266 (run : RunT) (fu : Nat) (x0 : AV) (σ : Store) : codeK X0 run (.seq .leaf (.seq .leaf .leaf)) (subC [] b266) ([x0] ++ padA (12 - 1)) σ k266 = c266 run fu x0 σ := by kernel_rfl

theorem ok266 {run : RunT} (hrun : RunOK X0 run) (fu : Nat) (x0 : AV) (σ : Store) : CallOK X0 266 [x0] σ (c266 run fu x0 σ) :=
  KOK.body (fn := Tryz.f266) (c := subC [] b266) (by kernel_rfl) (by kernel_rfl) (by show 1 ≤ 12; decide) (KOK.whole env0 hrun (eq266 run fu x0 σ) ⟨trivial, ⟨trivial, trivial⟩⟩)

-- (*pub-paratext/pub/rscmarkdown.Paragraph).PrintHTML

noncomputable def b269 : Code := match Tryz.f269.body with | some c => c | none => .skip

noncomputable def k269 : Kont R := retK Tryz.prog []

noncomputable def c269 (run : RunT) (fu : Nat) (x0 x1 : AV) (σ : Store) : Tr R :=
  calK run 240 [x1, (.str [60, 112, 62])] σ fun x5 σ1 =>
  nchkK x0 fun x7 =>
  addrK x7 2 fun x8 =>
  ld1K σ1 x8 fun x9 =>
  calK run 236 [x9, x1] σ1 fun x11 σ2 =>
  calK run 240 [x1, (.str [60, 47, 112, 62, 10])] σ2 fun x13 σ3 =>
  .ret (.tup [], σ3)

theorem eq269 (run : RunT) (fu : Nat) (x0 x1 : AV) (σ : Store) : codeK X0 run (.seq .leaf (.seq .leaf .leaf)) (subC [] b269) ([x0, x1] ++ padA (14 - 2)) σ k269 = c269 run fu x0 x1 σ := by kernel_rfl

theorem ok269 {run : RunT} (hrun : RunOK X0 run) (fu : Nat) (x0 x1 : AV) (σ : Store) : CallOK X0 269 [x0, x1] σ (c269 run fu x0 x1 σ) :=
  KOK.body (fn := Tryz.f269) (c := subC [] b269) (by kernel_rfl) (by kernel_rfl) (by show 2 ≤ 14; decide) (KOK.whole env0 hrun (eq269 run fu x0 x1 σ) ⟨trivial, ⟨trivial, trivial⟩⟩)

-- (*pub-paratext/pub/rscmarkdown.paraBuilder).build

noncomputable def b275 : Code := match Tryz.f275.body with | some c => c | none => .skip

noncomputable def k275 : Kont R := retK Tryz.prog [.tmp 4]

noncomputable def c275_1 (run : RunT) (fu : Nat) (x0 x1 x5 : AV) (σ : Store) : Tr R :=
  eqSK x5 (.str []) fun x41 =>
  ifK x41 (
  .fail) (
  invK X0 run x1 "pub-paratext/pub/rscmarkdown.pos" [] σ fun x48 σ1 =>
  newK σ1 209 [(.int .i64 0), (.int .i64 0)] fun x8 σ2 =>
  stNK σ2 x8 2 x48 fun _ σ3 =>
  addrK x8 0 fun x49 =>
  ld1K σ3 x49 fun x50 =>
  nchkK x0 fun x52 =>
  addrK x52 0 fun x53 =>
  ld1K σ3 x53 fun x54 =>
  lenLK x54 fun x55 =>
  addK x50 x55 fun x56 =>
  subK x56 (.int .i64 1) fun x57 =>
  addrK x8 1 fun x58 =>
  st1K σ3 x58 x57 fun _ σ4 =>
  ldNK σ4 x8 2 fun x59 =>
  ldNK σ4 x8 2 fun x61 =>
  invK X0 run x1 "pub-paratext/pub/rscmarkdown.newText" [x61, x5] σ4 fun x63 σ5 =>
  bldK [(.int .i64 0), (.int .i64 0), .nilp] [(0, 2, x59), (2, 1, x63)] fun x64 =>
  boxK σ5 299 x64 fun x65 σ6 =>
  ldNK σ5 x8 2 fun v7 =>
  must (AV.beq v7 x59) (
  .ret ((.iface 147 x65), σ6)))

theorem eq275_1 (run : RunT) (fu : Nat) (x0 x1 x5 : AV) (σ : Store) : codeK X0 run (.seq (.seq .leaf (.cond (.sub deadK) .leaf)) (.seq .leaf (.seq .leaf (.seq .leaf .leaf)))) (subC [true, true, true, true] b275) (frS 0 67 [(0, x0), (1, x1), (5, x5)]) σ k275 = c275_1 run fu x0 x1 x5 σ := by kernel_rfl

theorem ok275_1 {run : RunT} (hrun : RunOK X0 run) (fu : Nat) : ∀ fr σ, KOK X0 67 (subC [true, true, true, true] b275) fr σ ((fun fr σ => c275_1 run fu (G fr 0) (G fr 1) (G fr 5) σ) fr σ) k275 := fun fr σ =>
  KOK.piece env0 hrun [0, 1, 5] (eq275_1 run fu (G fr 0) (G fr 1) (G fr 5) σ) ⟨⟨trivial, ⟨KOK.dead, trivial⟩⟩, ⟨trivial, ⟨trivial, ⟨trivial, trivial⟩⟩⟩⟩

noncomputable def c275_2b (run : RunT) (fu : Nat) (s2 : W3) (x0 x1 x5 : AV) (σ : Store) : Tr R :=
  neSK x5 (.str []) fun x26 =>
  ifK x26 (
  calK run 278 [x1, x5] σ fun x30 σ1 =>
  extK x30 0 fun x31 =>
  extK x30 1 fun x32 =>
  notK x32 fun x34 =>
  ifK x34 (
  c275_1 run fu x0 x1 x5 σ1) (
  .fail)) (
  .fail)

noncomputable def c275_2 (run : RunT) (fu : Nat) : Nat → W3
  | 0 => fun _ _ _ _ => .fail
  | m + 1 => c275_2b run fu (c275_2 run fu m)

theorem eq275_2 (run : RunT) (fu : Nat) (s2 : W3) (x0 x1 x5 : AV) (σ : Store) : codeK X0 run (.seq (.seq .leaf (.cond .leaf (.sub deadK))) (.block (.seq .leaf (.seq (.seq .leaf (.cond .leaf (.sub deadK))) .leaf)))) (subC [true, true, true, false, false, false] b275) (frS 0 67 [(0, x0), (1, x1), (5, x5)]) σ (thenK (fun fr σ => s2 (G fr 0) (G fr 1) (G fr 5) σ) (blockK 0 (thenK (fun fr σ => c275_1 run fu (G fr 0) (G fr 1) (G fr 5) σ) k275))) = c275_2b run fu s2 x0 x1 x5 σ := by kernel_rfl

theorem owed275_2 {run : RunT} (hrun : RunOK X0 run) (fu : Nat) (s2 : W3) : Owes X0 run 67 (.seq (.seq .leaf (.cond .leaf (.sub deadK))) (.block (.seq .leaf (.seq (.seq .leaf (.cond .leaf (.sub deadK))) .leaf)))) (subC [true, true, true, false, false, false] b275) (thenK (fun fr σ => s2 (G fr 0) (G fr 1) (G fr 5) σ) (blockK 0 (thenK (fun fr σ => c275_1 run fu (G fr 0) (G fr 1) (G fr 5) σ) k275))) :=
  ⟨⟨trivial, ⟨trivial, KOK.dead⟩⟩, ⟨trivial, ⟨⟨trivial, ⟨trivial, KOK.dead⟩⟩, trivial⟩⟩⟩

theorem ok275_2 {run : RunT} (hrun : RunOK X0 run) (fu : Nat) : ∀ fr σ, KOK X0 67 (subC [true, true, true, false, false] b275) fr σ ((fun fr σ => c275_2 run fu fu (G fr 0) (G fr 1) (G fr 5) σ) fr σ) (blockK 0 (thenK (fun fr σ => c275_1 run fu (G fr 0) (G fr 1) (G fr 5) σ) k275)) := by
  have h := KOK.loop (X := X0) (N := 67) (b := (subC [true, true, true, false, false, false] b275)) (k := (blockK 0 (thenK (fun fr σ => c275_1 run fu (G fr 0) (G fr 1) (G fr 5) σ) k275))) (u := fun m fr σ => c275_2 run fu m (G fr 0) (G fr 1) (G fr 5) σ) (fun _ _ => rfl) (fun m fr σ => KOK.piece env0 hrun [0, 1, 5] (eq275_2 run fu (c275_2 run fu m) (G fr 0) (G fr 1) (G fr 5) σ) (owed275_2 hrun fu (c275_2 run fu m)))
  exact fun fr σ => h fu fr σ

noncomputable def c275 (run : RunT) (fu : Nat) (x0 x1 : AV) (σ : Store) : Tr R :=
  nchkK x0 fun x10 =>
  addrK x10 1 fun x11 =>
  ld1K σ x11 fun x12 =>
  neOK (nilEq nilP) x12 .nilp fun x13 =>
  ifK x13 (
  .fail) (
  nchkK x0 fun x21 =>
  addrK x21 0 fun x22 =>
  ld1K σ x22 fun x23 =>
  calK run 164 [x23, (.str [10])] σ fun x24 σ1 =>
  c275_2 run fu fu x0 x1 x24 σ1)

theorem eq275 (run : RunT) (fu : Nat) (x0 x1 : AV) (σ : Store) : codeK X0 run (.seq .leaf (.seq (.seq .leaf (.cond (.sub deadK) .leaf)) (.seq .leaf (.seq (.block (.sub (fun fr σ => c275_2 run fu fu (G fr 0) (G fr 1) (G fr 5) σ))) (.sub (fun fr σ => c275_1 run fu (G fr 0) (G fr 1) (G fr 5) σ)))))) (subC [] b275) ([x0, x1] ++ padA (67 - 2)) σ k275 = c275 run fu x0 x1 σ := by kernel_rfl

theorem ok275 {run : RunT} (hrun : RunOK X0 run) (fu : Nat) (x0 x1 : AV) (σ : Store) : CallOK X0 275 [x0, x1] σ (c275 run fu x0 x1 σ) :=
  KOK.body (fn := Tryz.f275) (c := subC [] b275) (by kernel_rfl) (by kernel_rfl) (by show 2 ≤ 67; decide) (KOK.whole env0 hrun (eq275 run fu x0 x1 σ) ⟨trivial, ⟨⟨trivial, ⟨KOK.dead, trivial⟩⟩, ⟨trivial, ⟨(ok275_2 hrun fu), (ok275_1 hrun fu)⟩⟩⟩⟩)

-- pub-paratext/pub/rscmarkdown.parseLinkRefDef

noncomputable def b278 : Code := match Tryz.f278.body with | some c => c | none => .skip

noncomputable def k278 : Kont R := retK Tryz.prog [.tmp 4, .tmp 5]

noncomputable def c278 (run : RunT) (fu : Nat) (x0 x1 : AV) (σ : Store) : Tr R :=
  calK run 110 [x1, (.int .i64 0)] σ fun x21 σ1 =>
  tasK (some .nilp) 110 false x0 fun x24 =>
  calK run 113 [x24, x1, x21] σ1 fun x27 σ2 =>
  extK x27 0 fun x28 =>
  extK x27 1 fun x29 =>
  extK x27 2 fun x30 =>
  notK x30 fun x32 =>
  grdK x32 false σ2 (fun f => f x29 σ2) fun x34 σ3 =>
  grdK x32 false σ3 (fun f => f x1 σ3) fun x35 σ4 =>
  grdK x32 false σ4 (fun f => lenSK x35 fun v => f v σ4) fun x36 σ5 =>
  grdK x32 false σ5 (fun f => cmpK .geq x34 x36 fun v => f v σ5) fun x37 σ6 =>
  pickK x32 (.bool true) x37 fun x38 =>
  grdK x38 false σ6 (fun f => f x1 σ6) fun x40 σ7 =>
  grdK x38 false σ7 (fun f => f x29 σ7) fun x41 σ8 =>
  grdK x38 false σ8 (fun f => idxSK x40 x41 fun v => f v σ8) fun x42 σ9 =>
  grdK x38 false σ9 (fun f => cmpK .neq x42 (.int .u8 58) fun v => f v σ9) fun x43 σ10 =>
  pickK x38 (.bool true) x43 fun x44 =>
  ifK x44 (
  .ret (.tup [(.int .i64 0), (.bool false)], σ10)) (
  .fail)

theorem eq278 (run : RunT) (fu : Nat) (x0 x1 : AV) (σ : Store) : codeK X0 run (.seq .leaf (.seq .leaf (.seq .leaf (.seq (.seq .leaf (.cond (.seq .leaf .leaf) (.sub deadK))) .leaf)))) (subC [] b278) ([x0, x1] ++ padA (200 - 2)) σ k278 = c278 run fu x0 x1 σ := by kernel_rfl

theorem ok278 {run : RunT} (hrun : RunOK X0 run) (fu : Nat) (x0 x1 : AV) (σ : Store) : CallOK X0 278 [x0, x1] σ (c278 run fu x0 x1 σ) :=
  KOK.body (fn := Tryz.f278) (c := subC [] b278) (by kernel_rfl) (by kernel_rfl) (by show 2 ≤ 200; decide) (KOK.whole env0 hrun (eq278 run fu x0 x1 σ) ⟨trivial, ⟨trivial, ⟨trivial, ⟨⟨trivial, ⟨⟨trivial, trivial⟩, KOK.dead⟩⟩, trivial⟩⟩⟩⟩)

end Go.Proofs.YtfmgdjkcdmjloaaGreatDoor
