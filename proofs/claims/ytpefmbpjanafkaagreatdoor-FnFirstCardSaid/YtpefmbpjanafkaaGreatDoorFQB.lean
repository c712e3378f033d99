/- Functions of the program, told as Lean functions of abstract values and stores, each with its proof. -/
import Derived.Test.YtpefmbpjanafkaaGreatDoorSnX
import Derived.Test.YtpefmbpjanafkaaGreatDoorSnRe
import Derived.Test.YtpefmbpjanafkaaGreatDoorSnAb
set_option linter.unusedVariables false
set_option linter.unusedSimpArgs false
namespace Go.Proofs.YtpefmbpjanafkaaGreatDoor
open Go.AM
-- pub-paratext/pub/rscmarkdown.trimLeftSpaceTab

noncomputable def b143 : Code := match Tryz.f143.body with | some c => c | none => .skip

noncomputable def k143 : Kont R := retK Tryz.prog [.tmp 2]

noncomputable def c143_1 (run : RunT) (fu : Nat) (x0 x3 : AV) (σ : Store) : Tr R :=
  sliceSK x0 (some x3) none fun x24 =>
  .ret (x24, σ)

theorem eq143_1 (run : RunT) (fu : Nat) (x0 x3 : AV) (σ : Store) : codeK X0 run (.seq .leaf .leaf) (subC [true, true, true] b143) (frS 0 25 [(0, x0), (3, x3)]) σ k143 = c143_1 run fu x0 x3 σ := by kernel_rfl

theorem ok143_1 {run : RunT} (hrun : RunOK X0 run) (fu : Nat) : ∀ fr σ, KOK X0 25 (subC [true, true, true] b143) fr σ ((fun fr σ => c143_1 run fu (G fr 0) (G fr 3) σ) fr σ) k143 := fun fr σ =>
  KOK.piece env0 hrun [0, 3] (eq143_1 run fu (G fr 0) (G fr 3) σ) ⟨trivial, trivial⟩

noncomputable def c143_2b (run : RunT) (fu : Nat) (s2 : W2) (x0 x3 : AV) (σ : Store) : Tr R :=
  lenSK x0 fun x6 =>
  cmpK .lss x3 x6 fun x7 =>
  grdK x7 true σ (fun f => f x0 σ) fun x9 σ1 =>
  grdK x7 true σ1 (fun f => f x3 σ1) fun x10 σ2 =>
  grdK x7 true σ2 (fun f => idxSK x9 x10 fun v => f v σ2) fun x11 σ3 =>
  grdK x7 true σ3 (fun f => cmpK .eql x11 (.int .u8 32) fun v => f v σ3) fun x12 σ4 =>
  grdK x7 true σ4 (fun f => f x12 σ4) fun x13 σ5 =>
  grdK x13 false σ5 (fun f => f x0 σ5) fun x14 σ6 =>
  grdK x13 false σ6 (fun f => f x3 σ6) fun x15 σ7 =>
  grdK x13 false σ7 (fun f => idxSK x14 x15 fun v => f v σ7) fun x16 σ8 =>
  grdK x13 false σ8 (fun f => cmpK .eql x16 (.int .u8 9) fun v => f v σ8) fun x17 σ9 =>
  grdK x7 true σ9 (fun f => pickK x13 (.bool true) x17 fun v => f v σ9) fun x18 σ10 =>
  pickK x7 x18 (.bool false) fun x19 =>
  ifK x19 (
  .fail) (
  c143_1 run fu x0 x3 σ10)

noncomputable def c143_2 (run : RunT) (fu : Nat) : Nat → W2
  | 0 => fun _ _ _ => .fail
  | m + 1 => c143_2b run fu (c143_2 run fu m)

theorem eq143_2 (run : RunT) (fu : Nat) (s2 : W2) (x0 x3 : AV) (σ : Store) : codeK X0 run (.seq (.seq .leaf (.cond (.sub deadK) .leaf)) .leaf) (subC [true, true, false, false, false] b143) (frS 0 25 [(0, x0), (3, x3)]) σ (thenK (fun fr σ => s2 (G fr 0) (G fr 3) σ) (blockK 0 (thenK (fun fr σ => c143_1 run fu (G fr 0) (G fr 3) σ) k143))) = c143_2b run fu s2 x0 x3 σ := by kernel_rfl

theorem owed143_2 {run : RunT} (hrun : RunOK X0 run) (fu : Nat) (s2 : W2) : Owes X0 run 25 (.seq (.seq .leaf (.cond (.sub deadK) .leaf)) .leaf) (subC [true, true, false, false, false] b143) (thenK (fun fr σ => s2 (G fr 0) (G fr 3) σ) (blockK 0 (thenK (fun fr σ => c143_1 run fu (G fr 0) (G fr 3) σ) k143))) :=
  ⟨⟨trivial, ⟨KOK.dead, trivial⟩⟩, trivial⟩

theorem ok143_2 {run : RunT} (hrun : RunOK X0 run) (fu : Nat) : ∀ fr σ, KOK X0 25 (subC [true, true, false, false] b143) fr σ ((fun fr σ => c143_2 run fu fu (G fr 0) (G fr 3) σ) fr σ) (blockK 0 (thenK (fun fr σ => c143_1 run fu (G fr 0) (G fr 3) σ) k143)) := by
  have h := KOK.loop (X := X0) (N := 25) (b := (subC [true, true, false, false, false] b143)) (k := (blockK 0 (thenK (fun fr σ => c143_1 run fu (G fr 0) (G fr 3) σ) k143))) (u := fun m fr σ => c143_2 run fu m (G fr 0) (G fr 3) σ) (fun _ _ => rfl) (fun m fr σ => KOK.piece env0 hrun [0, 3] (eq143_2 run fu (c143_2 run fu m) (G fr 0) (G fr 3) σ) (owed143_2 hrun fu (c143_2 run fu m)))
  exact fun fr σ => h fu fr σ

noncomputable def c143 (run : RunT) (fu : Nat) (x0 : AV) (σ : Store) : Tr R :=
  c143_2 run fu fu x0 (.int .i64 0) σ

theorem eq143 (run : RunT) (fu : Nat) (x0 : AV) (σ : Store) : codeK X0 run (.seq .leaf (.seq .leaf (.seq (.block (.sub (fun fr σ => c143_2 run fu fu (G fr 0) (G fr 3) σ))) (.sub (fun fr σ => c143_1 run fu (G fr 0) (G fr 3) σ))))) (subC [] b143) ([x0] ++ padA (25 - 1)) σ k143 = c143 run fu x0 σ := by kernel_rfl

theorem ok143 {run : RunT} (hrun : RunOK X0 run) (fu : Nat) (x0 : AV) (σ : Store) : CallOK X0 143 [x0] σ (c143 run fu x0 σ) :=
  KOK.body (fn := Tryz.f143) (c := subC [] b143) (by kernel_rfl) (by kernel_rfl) (by show 1 ≤ 25; decide) (KOK.whole env0 hrun (eq143 run fu x0 σ) ⟨trivial, ⟨trivial, ⟨(ok143_2 hrun fu), (ok143_1 hrun fu)⟩⟩⟩)

-- pub-paratext/pub/rscmarkdown.newQuote

noncomputable def b144 : Code := match Tryz.f144.body with | some c => c | none => .skip

noncomputable def k144 : Kont R := retK Tryz.prog [.cell 4 187, .tmp 5]

noncomputable def c144 (run : RunT) (fu : Nat) (x0 x1 : AV) (σ : Store) : Tr R :=
  boxK σ 375 x1 fun x3 σ1 =>
  newK σ1 375 [(.int .i64 0), (.int .i64 0), (.int .i64 0), (.str []), (.int .u8 0)] fun x4 σ2 =>
  ldNK σ2 x3 5 fun x9 =>
  calK run 186 [x9] σ2 fun x10 σ3 =>
  extK x10 0 fun x11 =>
  extK x10 1 fun x12 =>
  newK σ3 375 [(.int .i64 0), (.int .i64 0), (.int .i64 0), (.str []), (.int .u8 0)] fun x6 σ4 =>
  stNK σ4 x6 5 x11 fun _ σ5 =>
  ifK x12 (
  .fail) (
  ldNK σ5 x3 5 fun x19 =>
  stNK σ5 x4 5 x19 fun _ σ6 =>
  ldNK σ6 x4 5 fun v7 =>
  .ret (.tup [v7, (.bool false)], σ6))

theorem eq144 (run : RunT) (fu : Nat) (x0 x1 : AV) (σ : Store) : codeK X0 run (.seq .leaf (.seq (.seq .leaf (.seq .leaf (.cond (.sub deadK) .leaf))) (.seq .leaf .leaf))) (subC [] b144) ([x0, x1] ++ padA (20 - 2)) σ k144 = c144 run fu x0 x1 σ := by kernel_rfl

theorem ok144 {run : RunT} (hrun : RunOK X0 run) (fu : Nat) (x0 x1 : AV) (σ : Store) : CallOK X0 144 [x0, x1] σ (c144 run fu x0 x1 σ) :=
  KOK.body (fn := Tryz.f144) (c := subC [] b144) (by kernel_rfl) (by kernel_rfl) (by show 2 ≤ 20; decide) (KOK.whole env0 hrun (eq144 run fu x0 x1 σ) ⟨trivial, ⟨⟨trivial, ⟨trivial, ⟨KOK.dead, trivial⟩⟩⟩, ⟨trivial, trivial⟩⟩⟩)

-- pub-paratext/pub/rscmarkdown.newATXHeading

noncomputable def b145 : Code := match Tryz.f145.body with | some c => c | none => .skip

noncomputable def k145 : Kont R := retK Tryz.prog [.cell 4 187, .tmp 5]

noncomputable def c145_1 (run : RunT) (fu : Nat) (x3 x4 : AV) (σ : Store) : Tr R :=
  ldNK σ x3 5 fun x81 =>
  stNK σ x4 5 x81 fun _ σ1 =>
  ldNK σ1 x4 5 fun v2 =>
  .ret (.tup [v2, (.bool false)], σ1)

theorem eq145_1 (run : RunT) (fu : Nat) (x3 x4 : AV) (σ : Store) : codeK X0 run (.seq .leaf .leaf) (subC [true, true, true, true] b145) (frS 0 82 [(3, x3), (4, x4)]) σ k145 = c145_1 run fu x3 x4 σ := by kernel_rfl

theorem ok145_1 {run : RunT} (hrun : RunOK X0 run) (fu : Nat) : ∀ fr σ, KOK X0 82 (subC [true, true, true, true] b145) fr σ ((fun fr σ => c145_1 run fu (G fr 3) (G fr 4) σ) fr σ) k145 := fun fr σ =>
  KOK.piece env0 hrun [3, 4] (eq145_1 run fu (G fr 3) (G fr 4) σ) ⟨trivial, trivial⟩

noncomputable def c145 (run : RunT) (fu : Nat) (x0 x1 : AV) (σ : Store) : Tr R :=
  boxK σ 375 x1 fun x3 σ1 =>
  newK σ1 375 [(.int .i64 0), (.int .i64 0), (.int .i64 0), (.str []), (.int .u8 0)] fun x4 σ2 =>
  ldNK σ2 x3 5 fun x14 =>
  newK σ2 375 [(.int .i64 0), (.int .i64 0), (.int .i64 0), (.str []), (.int .u8 0)] fun x6 σ3 =>
  stNK σ3 x6 5 x14 fun _ σ4 =>
  newK σ4 7 [(.int .i64 0)] fun x7 σ5 =>
  calK run 187 [x6, x7] σ5 fun x15 σ6 =>
  ifK x15 (
  .fail) (
  c145_1 run fu x3 x4 σ6)

theorem eq145 (run : RunT) (fu : Nat) (x0 x1 : AV) (σ : Store) : codeK X0 run (.seq .leaf (.seq .leaf (.seq .leaf (.seq (.seq .leaf (.cond (.sub deadK) .leaf)) (.sub (fun fr σ => c145_1 run fu (G fr 3) (G fr 4) σ)))))) (subC [] b145) ([x0, x1] ++ padA (82 - 2)) σ k145 = c145 run fu x0 x1 σ := by kernel_rfl

theorem ok145 {run : RunT} (hrun : RunOK X0 run) (fu : Nat) (x0 x1 : AV) (σ : Store) : CallOK X0 145 [x0, x1] σ (c145 run fu x0 x1 σ) :=
  KOK.body (fn := Tryz.f145) (c := subC [] b145) (by kernel_rfl) (by kernel_rfl) (by show 2 ≤ 82; decide) (KOK.whole env0 hrun (eq145 run fu x0 x1 σ) ⟨trivial, ⟨trivial, ⟨trivial, ⟨⟨trivial, ⟨KOK.dead, trivial⟩⟩, (ok145_1 hrun fu)⟩⟩⟩⟩)

-- pub-paratext/pub/rscmarkdown.newSetextHeading

noncomputable def b146 : Code := match Tryz.f146.body with | some c => c | none => .skip

noncomputable def k146 : Kont R := retK Tryz.prog [.cell 4 187, .tmp 5]

noncomputable def c146 (run : RunT) (fu : Nat) (x0 x1 : AV) (σ : Store) : Tr R :=
  boxK σ 375 x1 fun x3 σ1 =>
  newK σ1 375 [(.int .i64 0), (.int .i64 0), (.int .i64 0), (.str []), (.int .u8 0)] fun x4 σ2 =>
  newK σ2 7 [(.int .i64 0)] fun x6 σ3 =>
  ldNK σ3 x3 5 fun x10 =>
  newK σ3 375 [(.int .i64 0), (.int .i64 0), (.int .i64 0), (.str []), (.int .u8 0)] fun x7 σ4 =>
  stNK σ4 x7 5 x10 fun _ σ5 =>
  calK run 195 [x0] σ5 fun x12 σ6 =>
  calK run 152 [x0] σ6 fun x14 σ7 =>
  ifcK Tryz.prog σ7 .eql 237 false x12 (.iface 265 x14) fun x16 =>
  grdK x16 true σ7 (fun f => calK run 196 [x7, x6] σ7 f) fun x18 σ8 =>
  pickK x16 x18 (.bool false) fun x19 =>
  ifK x19 (
  .fail) (
  ldNK σ8 x3 5 fun x54 =>
  stNK σ8 x4 5 x54 fun _ σ9 =>
  ldNK σ9 x4 5 fun v10 =>
  .ret (.tup [v10, (.bool false)], σ9))

theorem eq146 (run : RunT) (fu : Nat) (x0 x1 : AV) (σ : Store) : codeK X0 run (.seq .leaf (.seq .leaf (.seq .leaf (.seq (.seq .leaf (.cond (.sub deadK) .leaf)) (.seq .leaf .leaf))))) (subC [] b146) ([x0, x1] ++ padA (55 - 2)) σ k146 = c146 run fu x0 x1 σ := by kernel_rfl

theorem ok146 {run : RunT} (hrun : RunOK X0 run) (fu : Nat) (x0 x1 : AV) (σ : Store) : CallOK X0 146 [x0, x1] σ (c146 run fu x0 x1 σ) :=
  KOK.body (fn := Tryz.f146) (c := subC [] b146) (by kernel_rfl) (by kernel_rfl) (by show 2 ≤ 55; decide) (KOK.whole env0 hrun (eq146 run fu x0 x1 σ) ⟨trivial, ⟨trivial, ⟨trivial, ⟨⟨trivial, ⟨KOK.dead, trivial⟩⟩, ⟨trivial, trivial⟩⟩⟩⟩⟩)

-- pub-paratext/pub/rscmarkdown.newHR

noncomputable def b147 : Code := match Tryz.f147.body with | some c => c | none => .skip

noncomputable def k147 : Kont R := retK Tryz.prog [.cell 4 187, .tmp 5]

noncomputable def c147 (run : RunT) (fu : Nat) (x0 x1 : AV) (σ : Store) : Tr R :=
  boxK σ 375 x1 fun x3 σ1 =>
  newK σ1 375 [(.int .i64 0), (.int .i64 0), (.int .i64 0), (.str []), (.int .u8 0)] fun x4 σ2 =>
  ldNK σ2 x3 5 fun x6 =>
  calK run 199 [x6] σ2 fun x7 σ3 =>
  ifK x7 (
  .fail) (
  ldNK σ3 x3 5 fun x24 =>
  stNK σ3 x4 5 x24 fun _ σ4 =>
  ldNK σ4 x4 5 fun v5 =>
  .ret (.tup [v5, (.bool false)], σ4))

theorem eq147 (run : RunT) (fu : Nat) (x0 x1 : AV) (σ : Store) : codeK X0 run (.seq .leaf (.seq (.seq .leaf (.cond (.sub deadK) .leaf)) (.seq .leaf .leaf))) (subC [] b147) ([x0, x1] ++ padA (25 - 2)) σ k147 = c147 run fu x0 x1 σ := by kernel_rfl

theorem ok147 {run : RunT} (hrun : RunOK X0 run) (fu : Nat) (x0 x1 : AV) (σ : Store) : CallOK X0 147 [x0, x1] σ (c147 run fu x0 x1 σ) :=
  KOK.body (fn := Tryz.f147) (c := subC [] b147) (by kernel_rfl) (by kernel_rfl) (by show 2 ≤ 25; decide) (KOK.whole env0 hrun (eq147 run fu x0 x1 σ) ⟨trivial, ⟨⟨trivial, ⟨KOK.dead, trivial⟩⟩, ⟨trivial, trivial⟩⟩⟩)

-- pub-paratext/pub/rscmarkdown.newListItem

noncomputable def b148 : Code := match Tryz.f148.body with | some c => c | none => .skip

noncomputable def k148 : Kont R := retK Tryz.prog [.cell 4 187, .tmp 5]

noncomputable def c148 (run : RunT) (fu : Nat) (x0 x1 : AV) (σ : Store) : Tr R :=
  boxK σ 375 x1 fun x3 σ1 =>
  newK σ1 375 [(.int .i64 0), (.int .i64 0), (.int .i64 0), (.str []), (.int .u8 0)] fun x4 σ2 =>
  calK run 200 [x0] σ2 fun x10 σ3 =>
  tasK (some .nilp) 323 true x10 fun x11 =>
  extK x11 0 fun x12 =>
  extK x11 1 fun x13 =>
  grdK x13 true σ3 (fun f => f x12 σ3) fun x16 σ4 =>
  grdK x13 true σ4 (fun f => nchkK x16 fun v => f v σ4) fun x17 σ5 =>
  grdK x13 true σ5 (fun f => addrK x17 4 fun v => f v σ5) fun x18 σ6 =>
  grdK x13 true σ6 (fun f => ld1K σ6 x18 fun v => f v σ6) fun x19 σ7 =>
  grdK x13 true σ7 (fun f => neOK (nilEq nilF) x19 .nilf fun v => f v σ7) fun x20 σ8 =>
  pickK x13 x20 (.bool false) fun x21 =>
  ifK x21 (
  .fail) (
  calK run 201 [x0, x3] σ8 fun x32 σ9 =>
  ifK x32 (
  .fail) (
  ldNK σ9 x3 5 fun x34 =>
  stNK σ9 x4 5 x34 fun _ σ10 =>
  ldNK σ10 x4 5 fun v11 =>
  .ret (.tup [v11, (.bool false)], σ10)))

theorem eq148 (run : RunT) (fu : Nat) (x0 x1 : AV) (σ : Store) : codeK X0 run (.seq .leaf (.seq (.seq .leaf (.seq .leaf (.cond (.sub deadK) .leaf))) (.seq (.seq .leaf (.cond (.sub deadK) .leaf)) (.seq .leaf .leaf)))) (subC [] b148) ([x0, x1] ++ padA (35 - 2)) σ k148 = c148 run fu x0 x1 σ := by kernel_rfl

theorem ok148 {run : RunT} (hrun : RunOK X0 run) (fu : Nat) (x0 x1 : AV) (σ : Store) : CallOK X0 148 [x0, x1] σ (c148 run fu x0 x1 σ) :=
  KOK.body (fn := Tryz.f148) (c := subC [] b148) (by kernel_rfl) (by kernel_rfl) (by show 2 ≤ 35; decide) (KOK.whole env0 hrun (eq148 run fu x0 x1 σ) ⟨trivial, ⟨⟨trivial, ⟨trivial, ⟨KOK.dead, trivial⟩⟩⟩, ⟨⟨trivial, ⟨KOK.dead, trivial⟩⟩, ⟨trivial, trivial⟩⟩⟩⟩)

-- pub-paratext/pub/rscmarkdown.newHTML

noncomputable def b149 : Code := match Tryz.f149.body with | some c => c | none => .skip

noncomputable def k149 : Kont R := retK Tryz.prog [.cell 4 187, .tmp 5]

noncomputable def c149 (run : RunT) (fu : Nat) (x0 x1 : AV) (σ : Store) : Tr R :=
  boxK σ 375 x1 fun x3 σ1 =>
  newK σ1 375 [(.int .i64 0), (.int .i64 0), (.int .i64 0), (.str []), (.int .u8 0)] fun x4 σ2 =>
  ldNK σ2 x3 5 fun x7 =>
  newK σ2 375 [(.int .i64 0), (.int .i64 0), (.int .i64 0), (.str []), (.int .u8 0)] fun x6 σ3 =>
  stNK σ3 x6 5 x7 fun _ σ4 =>
  calK run 202 [x0, x6] σ4 fun x9 σ5 =>
  ifK x9 (
  .fail) (
  ldNK σ5 x3 5 fun x11 =>
  stNK σ5 x4 5 x11 fun _ σ6 =>
  ldNK σ6 x4 5 fun v7 =>
  .ret (.tup [v7, (.bool false)], σ6))

theorem eq149 (run : RunT) (fu : Nat) (x0 x1 : AV) (σ : Store) : codeK X0 run (.seq .leaf (.seq .leaf (.seq (.seq .leaf (.cond (.sub deadK) .leaf)) (.seq .leaf .leaf)))) (subC [] b149) ([x0, x1] ++ padA (12 - 2)) σ k149 = c149 run fu x0 x1 σ := by kernel_rfl

theorem ok149 {run : RunT} (hrun : RunOK X0 run) (fu : Nat) (x0 x1 : AV) (σ : Store) : CallOK X0 149 [x0, x1] σ (c149 run fu x0 x1 σ) :=
  KOK.body (fn := Tryz.f149) (c := subC [] b149) (by kernel_rfl) (by kernel_rfl) (by show 2 ≤ 12; decide) (KOK.whole env0 hrun (eq149 run fu x0 x1 σ) ⟨trivial, ⟨trivial, ⟨⟨trivial, ⟨KOK.dead, trivial⟩⟩, ⟨trivial, trivial⟩⟩⟩⟩)

-- pub-paratext/pub/rscmarkdown.newFence

noncomputable def b150 : Code := match Tryz.f150.body with | some c => c | none => .skip

noncomputable def k150 : Kont R := retK Tryz.prog [.cell 4 187, .tmp 5]

noncomputable def c150_1 (run : RunT) (fu : Nat) (x3 x4 : AV) (σ : Store) : Tr R :=
  ldNK σ x3 5 fun x56 =>
  stNK σ x4 5 x56 fun _ σ1 =>
  ldNK σ1 x4 5 fun v2 =>
  .ret (.tup [v2, (.bool false)], σ1)

theorem eq150_1 (run : RunT) (fu : Nat) (x3 x4 : AV) (σ : Store) : codeK X0 run (.seq .leaf .leaf) (subC [true, true, true, true, true] b150) (frS 0 57 [(3, x3), (4, x4)]) σ k150 = c150_1 run fu x3 x4 σ := by kernel_rfl

theorem ok150_1 {run : RunT} (hrun : RunOK X0 run) (fu : Nat) : ∀ fr σ, KOK X0 57 (subC [true, true, true, true, true] b150) fr σ ((fun fr σ => c150_1 run fu (G fr 3) (G fr 4) σ) fr σ) k150 := fun fr σ =>
  KOK.piece env0 hrun [3, 4] (eq150_1 run fu (G fr 3) (G fr 4) σ) ⟨trivial, trivial⟩

noncomputable def c150 (run : RunT) (fu : Nat) (x0 x1 : AV) (σ : Store) : Tr R :=
  boxK σ 375 x1 fun x3 σ1 =>
  newK σ1 375 [(.int .i64 0), (.int .i64 0), (.int .i64 0), (.str []), (.int .u8 0)] fun x4 σ2 =>
  newK σ2 19 [(.str [])] fun x6 σ3 =>
  newK σ3 19 [(.str [])] fun x7 σ4 =>
  newK σ4 7 [(.int .i64 0)] fun x8 σ5 =>
  ldNK σ5 x3 5 fun x12 =>
  newK σ5 375 [(.int .i64 0), (.int .i64 0), (.int .i64 0), (.str []), (.int .u8 0)] fun x9 σ6 =>
  stNK σ6 x9 5 x12 fun _ σ7 =>
  calK run 203 [x9, x6, x7, x8] σ7 fun x13 σ8 =>
  ifK x13 (
  .fail) (
  c150_1 run fu x3 x4 σ8)

theorem eq150 (run : RunT) (fu : Nat) (x0 x1 : AV) (σ : Store) : codeK X0 run (.seq .leaf (.seq .leaf (.seq .leaf (.seq .leaf (.seq (.seq .leaf (.cond (.sub deadK) .leaf)) (.sub (fun fr σ => c150_1 run fu (G fr 3) (G fr 4) σ))))))) (subC [] b150) ([x0, x1] ++ padA (57 - 2)) σ k150 = c150 run fu x0 x1 σ := by kernel_rfl

theorem ok150 {run : RunT} (hrun : RunOK X0 run) (fu : Nat) (x0 x1 : AV) (σ : Store) : CallOK X0 150 [x0, x1] σ (c150 run fu x0 x1 σ) :=
  KOK.body (fn := Tryz.f150) (c := subC [] b150) (by kernel_rfl) (by kernel_rfl) (by show 2 ≤ 57; decide) (KOK.whole env0 hrun (eq150 run fu x0 x1 σ) ⟨trivial, ⟨trivial, ⟨trivial, ⟨trivial, ⟨⟨trivial, ⟨KOK.dead, trivial⟩⟩, (ok150_1 hrun fu)⟩⟩⟩⟩⟩)

-- pub-paratext/pub/rscmarkdown.newPre

noncomputable def b151 : Code := match Tryz.f151.body with | some c => c | none => .skip

noncomputable def k151 : Kont R := retK Tryz.prog [.cell 4 187, .tmp 5]

noncomputable def c151 (run : RunT) (fu : Nat) (x0 x1 : AV) (σ : Store) : Tr R :=
  boxK σ 375 x1 fun x3 σ1 =>
  newK σ1 375 [(.int .i64 0), (.int .i64 0), (.int .i64 0), (.str []), (.int .u8 0)] fun x4 σ2 =>
  ldNK σ2 x3 5 fun x8 =>
  newK σ2 375 [(.int .i64 0), (.int .i64 0), (.int .i64 0), (.str []), (.int .u8 0)] fun x6 σ3 =>
  stNK σ3 x6 5 x8 fun _ σ4 =>
  calK run 152 [x0] σ4 fun x10 σ5 =>
  eqOK (nilEq nilP) x10 .nilp fun x11 =>
  grdK x11 true σ5 (fun f => calK run 205 [x6, (.int .i64 4), (.int .i64 4), (.bool false)] σ5 f) fun x13 σ6 =>
  pickK x11 x13 (.bool false) fun x14 =>
  grdK x14 true σ6 (fun f => calK run 112 [x6] σ6 f) fun x16 σ7 =>
  grdK x14 true σ7 (fun f => notK x16 fun v => f v σ7) fun x17 σ8 =>
  pickK x14 x17 (.bool false) fun x18 =>
  ifK x18 (
  .fail) (
  ldNK σ8 x3 5 fun x48 =>
  stNK σ8 x4 5 x48 fun _ σ9 =>
  ldNK σ9 x4 5 fun v10 =>
  .ret (.tup [v10, (.bool false)], σ9))

theorem eq151 (run : RunT) (fu : Nat) (x0 x1 : AV) (σ : Store) : codeK X0 run (.seq .leaf (.seq .leaf (.seq (.seq .leaf (.cond (.sub deadK) .leaf)) (.seq .leaf .leaf)))) (subC [] b151) ([x0, x1] ++ padA (49 - 2)) σ k151 = c151 run fu x0 x1 σ := by kernel_rfl

theorem ok151 {run : RunT} (hrun : RunOK X0 run) (fu : Nat) (x0 x1 : AV) (σ : Store) : CallOK X0 151 [x0, x1] σ (c151 run fu x0 x1 σ) :=
  KOK.body (fn := Tryz.f151) (c := subC [] b151) (by kernel_rfl) (by kernel_rfl) (by show 2 ≤ 49; decide) (KOK.whole env0 hrun (eq151 run fu x0 x1 σ) ⟨trivial, ⟨trivial, ⟨⟨trivial, ⟨KOK.dead, trivial⟩⟩, ⟨trivial, trivial⟩⟩⟩⟩)

-- (*pub-paratext/pub/rscmarkdown.parseState).para

noncomputable def b152 : Code := match Tryz.f152.body with | some c => c | none => .skip

noncomputable def k152 : Kont R := retK Tryz.prog [.tmp 2]

noncomputable def c152 (run : RunT) (fu : Nat) (x0 : AV) (σ : Store) : Tr R :=
  nchkK x0 fun x7 =>
  addrK x7 4 fun x8 =>
  ld1K σ x8 fun x9 =>
  nchkK x0 fun x11 =>
  addrK x11 4 fun x12 =>
  ld1K σ x12 fun x13 =>
  lenLK x13 fun x14 =>
  subK x14 (.int .i64 1) fun x15 =>
  idxK 4 x9 x15 fun x16 =>
  addrK x16 0 fun x17 =>
  ld1K σ x17 fun x18 =>
  tasK (some .nilp) 265 true x18 fun x19 =>
  extK x19 0 fun x20 =>
  extK x19 1 fun x21 =>
  ifK x21 (
  .ret (x20, σ)) (
  .ret (.nilp, σ))

theorem eq152 (run : RunT) (fu : Nat) (x0 : AV) (σ : Store) : codeK X0 run (.seq .leaf (.seq (.seq .leaf (.seq .leaf (.cond (.seq .leaf .leaf) .leaf))) (.seq .leaf .leaf))) (subC [] b152) ([x0] ++ padA (24 - 1)) σ k152 = c152 run fu x0 σ := by kernel_rfl

theorem ok152 {run : RunT} (hrun : RunOK X0 run) (fu : Nat) (x0 : AV) (σ : Store) : CallOK X0 152 [x0] σ (c152 run fu x0 σ) :=
  KOK.body (fn := Tryz.f152) (c := subC [] b152) (by kernel_rfl) (by kernel_rfl) (by show 1 ≤ 24; decide) (KOK.whole env0 hrun (eq152 run fu x0 σ) ⟨trivial, ⟨⟨trivial, ⟨trivial, ⟨⟨trivial, trivial⟩, trivial⟩⟩⟩, ⟨trivial, trivial⟩⟩⟩)

-- (*pub-paratext/pub/rscmarkdown.line).trimSpaceString

noncomputable def b153 : Code := match Tryz.f153.body with | some c => c | none => .skip

noncomputable def k153 : Kont R := retK Tryz.prog [.tmp 2]

noncomputable def c153 (run : RunT) (fu : Nat) (x0 : AV) (σ : Store) : Tr R :=
  nchkK x0 fun x4 =>
  addrK x4 3 fun x5 =>
  ld1K σ x5 fun x6 =>
  nchkK x0 fun x8 =>
  addrK x8 1 fun x9 =>
  ld1K σ x9 fun x10 =>
  sliceSK x6 (some x10) none fun x11 =>
  calK run 143 [x11] σ fun x12 σ1 =>
  .ret (x12, σ1)

theorem eq153 (run : RunT) (fu : Nat) (x0 : AV) (σ : Store) : codeK X0 run (.seq .leaf (.seq .leaf .leaf)) (subC [] b153) ([x0] ++ padA (13 - 1)) σ k153 = c153 run fu x0 σ := by kernel_rfl

theorem ok153 {run : RunT} (hrun : RunOK X0 run) (fu : Nat) (x0 : AV) (σ : Store) : CallOK X0 153 [x0] σ (c153 run fu x0 σ) :=
  KOK.body (fn := Tryz.f153) (c := subC [] b153) (by kernel_rfl) (by kernel_rfl) (by show 1 ≤ 13; decide) (KOK.whole env0 hrun (eq153 run fu x0 σ) ⟨trivial, ⟨trivial, trivial⟩⟩)

-- pub-paratext/pub/rscmarkdown.skipSpace

noncomputable def b174 : Code := match Tryz.f174.body with | some c => c | none => .skip

noncomputable def k174 : Kont R := retK Tryz.prog [.tmp 4]

noncomputable def c174_1 (run : RunT) (fu : Nat) (x1 : AV) (σ : Store) : Tr R :=
  .ret (x1, σ)

theorem eq174_1 (run : RunT) (fu : Nat) (x1 : AV) (σ : Store) : codeK X0 run (.seq .leaf .leaf) (subC [true, true] b174) (frS 0 30 [(1, x1)]) σ k174 = c174_1 run fu x1 σ := by kernel_rfl

theorem ok174_1 {run : RunT} (hrun : RunOK X0 run) (fu : Nat) : ∀ fr σ, KOK X0 30 (subC [true, true] b174) fr σ ((fun fr σ => c174_1 run fu (G fr 1) σ) fr σ) k174 := fun fr σ =>
  KOK.piece env0 hrun [1] (eq174_1 run fu (G fr 1) σ) ⟨trivial, trivial⟩

noncomputable def c174_2b (run : RunT) (fu : Nat) (s2 : W2) (x0 x1 : AV) (σ : Store) : Tr R :=
  lenSK x0 fun x7 =>
  cmpK .lss x1 x7 fun x8 =>
  grdK x8 true σ (fun f => f x0 σ) fun x10 σ1 =>
  grdK x8 true σ1 (fun f => f x1 σ1) fun x11 σ2 =>
  grdK x8 true σ2 (fun f => idxSK x10 x11 fun v => f v σ2) fun x12 σ3 =>
  grdK x8 true σ3 (fun f => cmpK .eql x12 (.int .u8 32) fun v => f v σ3) fun x13 σ4 =>
  grdK x8 true σ4 (fun f => f x13 σ4) fun x14 σ5 =>
  grdK x14 false σ5 (fun f => f x0 σ5) fun x15 σ6 =>
  grdK x14 false σ6 (fun f => f x1 σ6) fun x16 σ7 =>
  grdK x14 false σ7 (fun f => idxSK x15 x16 fun v => f v σ7) fun x17 σ8 =>
  grdK x14 false σ8 (fun f => cmpK .eql x17 (.int .u8 9) fun v => f v σ8) fun x18 σ9 =>
  grdK x8 true σ9 (fun f => pickK x14 (.bool true) x18 fun v => f v σ9) fun x19 σ10 =>
  grdK x8 true σ10 (fun f => f x19 σ10) fun x20 σ11 =>
  grdK x20 false σ11 (fun f => f x0 σ11) fun x21 σ12 =>
  grdK x20 false σ12 (fun f => f x1 σ12) fun x22 σ13 =>
  grdK x20 false σ13 (fun f => idxSK x21 x22 fun v => f v σ13) fun x23 σ14 =>
  grdK x20 false σ14 (fun f => cmpK .eql x23 (.int .u8 10) fun v => f v σ14) fun x24 σ15 =>
  grdK x8 true σ15 (fun f => pickK x20 (.bool true) x24 fun v => f v σ15) fun x25 σ16 =>
  pickK x8 x25 (.bool false) fun x26 =>
  ifK x26 (
  addK x1 (.int .i64 1) fun x28 =>
  s2 x0 x28 σ16) (
  c174_1 run fu x1 σ16)

noncomputable def c174_2 (run : RunT) (fu : Nat) : Nat → W2
  | 0 => fun _ _ _ => .fail
  | m + 1 => c174_2b run fu (c174_2 run fu m)

theorem eq174_2 (run : RunT) (fu : Nat) (s2 : W2) (x0 x1 : AV) (σ : Store) : codeK X0 run (.seq (.seq .leaf (.cond .leaf .leaf)) (.block .leaf)) (subC [true, false, false, false] b174) (frS 0 30 [(0, x0), (1, x1)]) σ (thenK (fun fr σ => s2 (G fr 0) (G fr 1) σ) (blockK 0 (thenK (fun fr σ => c174_1 run fu (G fr 1) σ) k174))) = c174_2b run fu s2 x0 x1 σ := by kernel_rfl

theorem owed174_2 {run : RunT} (hrun : RunOK X0 run) (fu : Nat) (s2 : W2) : Owes X0 run 30 (.seq (.seq .leaf (.cond .leaf .leaf)) (.block .leaf)) (subC [true, false, false, false] b174) (thenK (fun fr σ => s2 (G fr 0) (G fr 1) σ) (blockK 0 (thenK (fun fr σ => c174_1 run fu (G fr 1) σ) k174))) :=
  ⟨⟨trivial, ⟨trivial, trivial⟩⟩, trivial⟩

theorem ok174_2 {run : RunT} (hrun : RunOK X0 run) (fu : Nat) : ∀ fr σ, KOK X0 30 (subC [true, false, false] b174) fr σ ((fun fr σ => c174_2 run fu fu (G fr 0) (G fr 1) σ) fr σ) (blockK 0 (thenK (fun fr σ => c174_1 run fu (G fr 1) σ) k174)) := by
  have h := KOK.loop (X := X0) (N := 30) (b := (subC [true, false, false, false] b174)) (k := (blockK 0 (thenK (fun fr σ => c174_1 run fu (G fr 1) σ) k174))) (u := fun m fr σ => c174_2 run fu m (G fr 0) (G fr 1) σ) (fun _ _ => rfl) (fun m fr σ => KOK.piece env0 hrun [0, 1] (eq174_2 run fu (c174_2 run fu m) (G fr 0) (G fr 1) σ) (owed174_2 hrun fu (c174_2 run fu m)))
  exact fun fr σ => h fu fr σ

noncomputable def c174 (run : RunT) (fu : Nat) (x0 x1 : AV) (σ : Store) : Tr R :=
  c174_2 run fu fu x0 x1 σ

theorem eq174 (run : RunT) (fu : Nat) (x0 x1 : AV) (σ : Store) : codeK X0 run (.seq .leaf (.seq (.block (.sub (fun fr σ => c174_2 run fu fu (G fr 0) (G fr 1) σ))) (.sub (fun fr σ => c174_1 run fu (G fr 1) σ)))) (subC [] b174) ([x0, x1] ++ padA (30 - 2)) σ k174 = c174 run fu x0 x1 σ := by kernel_rfl

theorem ok174 {run : RunT} (hrun : RunOK X0 run) (fu : Nat) (x0 x1 : AV) (σ : Store) : CallOK X0 174 [x0, x1] σ (c174 run fu x0 x1 σ) :=
  KOK.body (fn := Tryz.f174) (c := subC [] b174) (by kernel_rfl) (by kernel_rfl) (by show 2 ≤ 30; decide) (KOK.whole env0 hrun (eq174 run fu x0 x1 σ) ⟨trivial, ⟨(ok174_2 hrun fu), (ok174_1 hrun fu)⟩⟩)

-- pub-paratext/pub/rscmarkdown.parseLinkDest

noncomputable def b175 : Code := match Tryz.f175.body with | some c => c | none => .skip

noncomputable def k175 : Kont R := retK Tryz.prog [.tmp 4, .tmp 5, .tmp 6]

noncomputable def c175_2 (run : RunT) (fu : Nat) (x0 x1 x9 : AV) (σ : Store) : Tr R :=
  sliceSK x0 (some x1) (some x9) fun x107 =>
  calK run 230 [x107] σ fun x109 σ1 =>
  .ret (.tup [x109, x9, (.bool true)], σ1)

theorem eq175_2 (run : RunT) (fu : Nat) (x0 x1 x9 : AV) (σ : Store) : codeK X0 run (.seq .leaf (.seq .leaf .leaf)) (subC [true, false, true, true, true, true, true, true] b175) (frS 0 111 [(0, x0), (1, x1), (9, x9)]) σ (noGotoK k175) = c175_2 run fu x0 x1 x9 σ := by kernel_rfl

theorem ok175_2 {run : RunT} (hrun : RunOK X0 run) (fu : Nat) : ∀ fr σ, KOK X0 111 (subC [true, false, true, true, true, true, true, true] b175) fr σ ((fun fr σ => c175_2 run fu (G fr 0) (G fr 1) (G fr 9) σ) fr σ) (noGotoK k175) := fun fr σ =>
  KOK.piece env0 hrun [0, 1, 9] (eq175_2 run fu (G fr 0) (G fr 1) (G fr 9) σ) ⟨trivial, ⟨trivial, trivial⟩⟩

noncomputable def c175_4 (run : RunT) (fu : Nat) (s3 : W4) (x0 x1 x8 x9 : AV) (σ : Store) : Tr R :=
  addK x9 (.int .i64 1) fun x63 =>
  s3 x0 x1 x8 x63 σ

theorem eq175_4 (run : RunT) (fu : Nat) (s3 : W4) (x0 x1 x8 x9 : AV) (σ : Store) : codeK X0 run .leaf (subC [true, false, true, true, true, true, true, false, false, false, true, true] b175) (frS 0 111 [(0, x0), (1, x1), (8, x8), (9, x9)]) σ (thenK (fun fr σ => s3 (G fr 0) (G fr 1) (G fr 8) (G fr 9) σ) (blockK 2 (thenK (fun fr σ => c175_2 run fu (G fr 0) (G fr 1) (G fr 9) σ) (noGotoK k175)))) = c175_4 run fu s3 x0 x1 x8 x9 σ := by kernel_rfl

theorem ok175_4 {run : RunT} (hrun : RunOK X0 run) (fu : Nat) (s3 : W4) : ∀ fr σ, KOK X0 111 (subC [true, false, true, true, true, true, true, false, false, false, true, true] b175) fr σ ((fun fr σ => c175_4 run fu s3 (G fr 0) (G fr 1) (G fr 8) (G fr 9) σ) fr σ) (thenK (fun fr σ => s3 (G fr 0) (G fr 1) (G fr 8) (G fr 9) σ) (blockK 2 (thenK (fun fr σ => c175_2 run fu (G fr 0) (G fr 1) (G fr 9) σ) (noGotoK k175)))) := fun fr σ =>
  KOK.piece env0 hrun [0, 1, 8, 9] (eq175_4 run fu s3 (G fr 0) (G fr 1) (G fr 8) (G fr 9) σ) trivial

noncomputable def c175_5 (run : RunT) (fu : Nat) (s3 : W4) (x0 x1 x8 x9 x100 : AV) (σ : Store) : Tr R :=
  ifK x100 (
  c175_2 run fu x0 x1 x9 σ) (
  c175_4 run fu s3 x0 x1 x8 x9 σ)

theorem eq175_5 (run : RunT) (fu : Nat) (s3 : W4) (x0 x1 x8 x9 x100 : AV) (σ : Store) : codeK X0 run (.cond .leaf .leaf) (subC [true, false, true, true, true, true, true, false, false, false, true, false, false, true, false, true, true, true, true, true, true, true] b175) (frS 0 111 [(0, x0), (1, x1), (8, x8), (9, x9), (100, x100)]) σ (blockK 4 (blockK 3 (thenK (fun fr σ => c175_4 run fu s3 (G fr 0) (G fr 1) (G fr 8) (G fr 9) σ) (thenK (fun fr σ => s3 (G fr 0) (G fr 1) (G fr 8) (G fr 9) σ) (blockK 2 (thenK (fun fr σ => c175_2 run fu (G fr 0) (G fr 1) (G fr 9) σ) (noGotoK k175))))))) = c175_5 run fu s3 x0 x1 x8 x9 x100 σ := by kernel_rfl

theorem ok175_5 {run : RunT} (hrun : RunOK X0 run) (fu : Nat) (s3 : W4) : ∀ fr σ, KOK X0 111 (subC [true, false, true, true, true, true, true, false, false, false, true, false, false, true, false, true, true, true, true, true, true, true] b175) fr σ ((fun fr σ => c175_5 run fu s3 (G fr 0) (G fr 1) (G fr 8) (G fr 9) (G fr 100) σ) fr σ) (blockK 4 (blockK 3 (thenK (fun fr σ => c175_4 run fu s3 (G fr 0) (G fr 1) (G fr 8) (G fr 9) σ) (thenK (fun fr σ => s3 (G fr 0) (G fr 1) (G fr 8) (G fr 9) σ) (blockK 2 (thenK (fun fr σ => c175_2 run fu (G fr 0) (G fr 1) (G fr 9) σ) (noGotoK k175))))))) := fun fr σ =>
  KOK.piece env0 hrun [0, 1, 8, 9, 100] (eq175_5 run fu s3 (G fr 0) (G fr 1) (G fr 8) (G fr 9) (G fr 100) σ) ⟨trivial, trivial⟩

noncomputable def c175_3b (run : RunT) (fu : Nat) (s3 : W4) (x0 x1 x8 x9 : AV) (σ : Store) : Tr R :=
  lenSK x0 fun x60 =>
  cmpK .lss x9 x60 fun x61 =>
  ifK x61 (
  idxSK x0 x9 fun x66 =>
  cmpK .eql x66 (.int .u8 40) fun x68 =>
  ifK x68 (
  addK x8 (.int .i64 1) fun x70 =>
  cmpK .gtr x70 (.int .i64 32) fun x72 =>
  ifK x72 (
  .ret (.tup [(.str []), (.int .i64 0), (.bool false)], σ)) (
  c175_4 run fu s3 x0 x1 x70 x9 σ)) (
  cmpK .eql x66 (.int .u8 41) fun x74 =>
  ifK x74 (
  cmpK .eql x8 (.int .i64 0) fun x76 =>
  ifK x76 (
  c175_2 run fu x0 x1 x9 σ) (
  subK x8 (.int .i64 1) fun x78 =>
  c175_4 run fu s3 x0 x1 x78 x9 σ)) (
  cmpK .eql x66 (.int .u8 92) fun x80 =>
  ifK x80 (
  addK x9 (.int .i64 1) fun x82 =>
  lenSK x0 fun x84 =>
  cmpK .lss x82 x84 fun x85 =>
  ifK x85 (
  addK x9 (.int .i64 1) fun x88 =>
  idxSK x0 x88 fun x89 =>
  cmpK .eql x89 (.int .u8 32) fun x90 =>
  grdK x90 false σ (fun f => f x0 σ) fun x92 σ1 =>
  grdK x90 false σ1 (fun f => f x9 σ1) fun x93 σ2 =>
  grdK x90 false σ2 (fun f => addK x93 (.int .i64 1) fun v => f v σ2) fun x94 σ3 =>
  grdK x90 false σ3 (fun f => idxSK x92 x94 fun v => f v σ3) fun x95 σ4 =>
  grdK x90 false σ4 (fun f => cmpK .eql x95 (.int .u8 9) fun v => f v σ4) fun x96 σ5 =>
  pickK x90 (.bool true) x96 fun x97 =>
  ifK x97 (
  .ret (.tup [(.str []), (.int .i64 0), (.bool false)], σ5)) (
  addK x9 (.int .i64 1) fun x99 =>
  c175_4 run fu s3 x0 x1 x8 x99 σ5)) (
  c175_4 run fu s3 x0 x1 x8 x9 σ)) (
  cmpK .eql x66 (.int .u8 32) fun x101 =>
  ifK x101 (
  c175_5 run fu s3 x0 x1 x8 x9 x101 σ) (
  cmpK .eql x66 (.int .u8 9) fun x102 =>
  ifK x102 (
  c175_5 run fu s3 x0 x1 x8 x9 x102 σ) (
  cmpK .eql x66 (.int .u8 10) fun x103 =>
  c175_5 run fu s3 x0 x1 x8 x9 x103 σ)))))) (
  c175_2 run fu x0 x1 x9 σ)

noncomputable def c175_3 (run : RunT) (fu : Nat) : Nat → W4
  | 0 => fun _ _ _ _ _ => .fail
  | m + 1 => c175_3b run fu (c175_3 run fu m)

theorem eq175_3 (run : RunT) (fu : Nat) (s3 : W4) (x0 x1 x8 x9 : AV) (σ : Store) : codeK X0 run (.seq (.seq .leaf (.cond .leaf .leaf)) (.seq (.block (.seq .leaf (.block (.seq .leaf (.cond (.seq .leaf (.seq .leaf (.cond (.seq .leaf .leaf) .leaf))) (.seq .leaf (.cond (.seq (.seq .leaf (.cond .leaf .leaf)) .leaf) (.seq .leaf (.cond (.seq .leaf (.cond (.seq (.seq .leaf (.cond (.seq .leaf .leaf) .leaf)) .leaf) .leaf)) (.seq (.seq .leaf (.cond .leaf (.seq .leaf (.cond .leaf .leaf)))) (.sub (fun fr σ => c175_5 run fu s3 (G fr 0) (G fr 1) (G fr 8) (G fr 9) (G fr 100) σ)))))))))))) (.sub (fun fr σ => c175_4 run fu s3 (G fr 0) (G fr 1) (G fr 8) (G fr 9) σ)))) (subC [true, false, true, true, true, true, true, false, false, false] b175) (frS 0 111 [(0, x0), (1, x1), (8, x8), (9, x9)]) σ (thenK (fun fr σ => s3 (G fr 0) (G fr 1) (G fr 8) (G fr 9) σ) (blockK 2 (thenK (fun fr σ => c175_2 run fu (G fr 0) (G fr 1) (G fr 9) σ) (noGotoK k175)))) = c175_3b run fu s3 x0 x1 x8 x9 σ := by kernel_rfl

theorem owed175_3 {run : RunT} (hrun : RunOK X0 run) (fu : Nat) (s3 : W4) : Owes X0 run 111 (.seq (.seq .leaf (.cond .leaf .leaf)) (.seq (.block (.seq .leaf (.block (.seq .leaf (.cond (.seq .leaf (.seq .leaf (.cond (.seq .leaf .leaf) .leaf))) (.seq .leaf (.cond (.seq (.seq .leaf (.cond .leaf .leaf)) .leaf) (.seq .leaf (.cond (.seq .leaf (.cond (.seq (.seq .leaf (.cond (.seq .leaf .leaf) .leaf)) .leaf) .leaf)) (.seq (.seq .leaf (.cond .leaf (.seq .leaf (.cond .leaf .leaf)))) (.sub (fun fr σ => c175_5 run fu s3 (G fr 0) (G fr 1) (G fr 8) (G fr 9) (G fr 100) σ)))))))))))) (.sub (fun fr σ => c175_4 run fu s3 (G fr 0) (G fr 1) (G fr 8) (G fr 9) σ)))) (subC [true, false, true, true, true, true, true, false, false, false] b175) (thenK (fun fr σ => s3 (G fr 0) (G fr 1) (G fr 8) (G fr 9) σ) (blockK 2 (thenK (fun fr σ => c175_2 run fu (G fr 0) (G fr 1) (G fr 9) σ) (noGotoK k175)))) :=
  ⟨⟨trivial, ⟨trivial, trivial⟩⟩, ⟨⟨trivial, ⟨trivial, ⟨⟨trivial, ⟨trivial, ⟨⟨trivial, trivial⟩, trivial⟩⟩⟩, ⟨trivial, ⟨⟨⟨trivial, ⟨trivial, trivial⟩⟩, trivial⟩, ⟨trivial, ⟨⟨trivial, ⟨⟨⟨trivial, ⟨⟨trivial, trivial⟩, trivial⟩⟩, trivial⟩, trivial⟩⟩, ⟨⟨trivial, ⟨trivial, ⟨trivial, ⟨trivial, trivial⟩⟩⟩⟩, (ok175_5 hrun fu s3)⟩⟩⟩⟩⟩⟩⟩⟩, (ok175_4 hrun fu s3)⟩⟩

theorem ok175_3 {run : RunT} (hrun : RunOK X0 run) (fu : Nat) : ∀ fr σ, KOK X0 111 (subC [true, false, true, true, true, true, true, false, false] b175) fr σ ((fun fr σ => c175_3 run fu fu (G fr 0) (G fr 1) (G fr 8) (G fr 9) σ) fr σ) (blockK 2 (thenK (fun fr σ => c175_2 run fu (G fr 0) (G fr 1) (G fr 9) σ) (noGotoK k175))) := by
  have h := KOK.loop (X := X0) (N := 111) (b := (subC [true, false, true, true, true, true, true, false, false, false] b175)) (k := (blockK 2 (thenK (fun fr σ => c175_2 run fu (G fr 0) (G fr 1) (G fr 9) σ) (noGotoK k175)))) (u := fun m fr σ => c175_3 run fu m (G fr 0) (G fr 1) (G fr 8) (G fr 9) σ) (fun _ _ => rfl) (fun m fr σ => KOK.piece env0 hrun [0, 1, 8, 9] (eq175_3 run fu (c175_3 run fu m) (G fr 0) (G fr 1) (G fr 8) (G fr 9) σ) (owed175_3 hrun fu (c175_3 run fu m)))
  exact fun fr σ => h fu fr σ

noncomputable def c175_6 (run : RunT) (fu : Nat) (s3 : W4) (x0 x1 x8 x9 : AV) (σ : Store) : Tr R :=
  addK x9 (.int .i64 1) fun x63 =>
  s3 x0 x1 x8 x63 σ

theorem eq175_6 (run : RunT) (fu : Nat) (s3 : W4) (x0 x1 x8 x9 : AV) (σ : Store) : codeK X0 run .leaf (subC [true, false, true, true, true, true, true, false, false, false, true, true] b175) (frS 0 111 [(0, x0), (1, x1), (8, x8), (9, x9)]) σ (thenK (fun fr σ => s3 (G fr 0) (G fr 1) (G fr 8) (G fr 9) σ) failK) = c175_6 run fu s3 x0 x1 x8 x9 σ := by kernel_rfl

theorem ok175_6 {run : RunT} (hrun : RunOK X0 run) (fu : Nat) (s3 : W4) : ∀ fr σ, KOK X0 111 (subC [true, false, true, true, true, true, true, false, false, false, true, true] b175) fr σ ((fun fr σ => c175_6 run fu s3 (G fr 0) (G fr 1) (G fr 8) (G fr 9) σ) fr σ) (thenK (fun fr σ => s3 (G fr 0) (G fr 1) (G fr 8) (G fr 9) σ) failK) := fun fr σ =>
  KOK.piece env0 hrun [0, 1, 8, 9] (eq175_6 run fu s3 (G fr 0) (G fr 1) (G fr 8) (G fr 9) σ) trivial

noncomputable def c175_7 (run : RunT) (fu : Nat) (s3 : W4) (x0 x1 x8 x9 x100 : AV) (σ : Store) : Tr R :=
  ifK x100 (
  .fail) (
  c175_6 run fu s3 x0 x1 x8 x9 σ)

theorem eq175_7 (run : RunT) (fu : Nat) (s3 : W4) (x0 x1 x8 x9 x100 : AV) (σ : Store) : codeK X0 run (.cond .leaf .leaf) (subC [true, false, true, true, true, true, true, false, false, false, true, false, false, true, false, true, true, true, true, true, true, true] b175) (frS 0 111 [(0, x0), (1, x1), (8, x8), (9, x9), (100, x100)]) σ (blockK 4 (blockK 3 (thenK (fun fr σ => c175_6 run fu s3 (G fr 0) (G fr 1) (G fr 8) (G fr 9) σ) (thenK (fun fr σ => s3 (G fr 0) (G fr 1) (G fr 8) (G fr 9) σ) failK)))) = c175_7 run fu s3 x0 x1 x8 x9 x100 σ := by kernel_rfl

theorem ok175_7 {run : RunT} (hrun : RunOK X0 run) (fu : Nat) (s3 : W4) : ∀ fr σ, KOK X0 111 (subC [true, false, true, true, true, true, true, false, false, false, true, false, false, true, false, true, true, true, true, true, true, true] b175) fr σ ((fun fr σ => c175_7 run fu s3 (G fr 0) (G fr 1) (G fr 8) (G fr 9) (G fr 100) σ) fr σ) (blockK 4 (blockK 3 (thenK (fun fr σ => c175_6 run fu s3 (G fr 0) (G fr 1) (G fr 8) (G fr 9) σ) (thenK (fun fr σ => s3 (G fr 0) (G fr 1) (G fr 8) (G fr 9) σ) failK)))) := fun fr σ =>
  KOK.piece env0 hrun [0, 1, 8, 9, 100] (eq175_7 run fu s3 (G fr 0) (G fr 1) (G fr 8) (G fr 9) (G fr 100) σ) ⟨trivial, trivial⟩

noncomputable def c175_3x (run : RunT) (fu : Nat) (s3 : W4) (x0 x1 x8 x9 : AV) (σ : Store) : Tr R :=
  lenSK x0 fun x60 =>
  cmpK .lss x9 x60 fun x61 =>
  ifK x61 (
  idxSK x0 x9 fun x66 =>
  cmpK .eql x66 (.int .u8 40) fun x68 =>
  ifK x68 (
  addK x8 (.int .i64 1) fun x70 =>
  cmpK .gtr x70 (.int .i64 32) fun x72 =>
  ifK x72 (
  .fail) (
  c175_6 run fu s3 x0 x1 x70 x9 σ)) (
  cmpK .eql x66 (.int .u8 41) fun x74 =>
  ifK x74 (
  cmpK .eql x8 (.int .i64 0) fun x76 =>
  ifK x76 (
  .fail) (
  subK x8 (.int .i64 1) fun x78 =>
  c175_6 run fu s3 x0 x1 x78 x9 σ)) (
  cmpK .eql x66 (.int .u8 92) fun x80 =>
  ifK x80 (
  addK x9 (.int .i64 1) fun x82 =>
  lenSK x0 fun x84 =>
  cmpK .lss x82 x84 fun x85 =>
  ifK x85 (
  addK x9 (.int .i64 1) fun x88 =>
  idxSK x0 x88 fun x89 =>
  cmpK .eql x89 (.int .u8 32) fun x90 =>
  grdK x90 false σ (fun f => f x0 σ) fun x92 σ1 =>
  grdK x90 false σ1 (fun f => f x9 σ1) fun x93 σ2 =>
  grdK x90 false σ2 (fun f => addK x93 (.int .i64 1) fun v => f v σ2) fun x94 σ3 =>
  grdK x90 false σ3 (fun f => idxSK x92 x94 fun v => f v σ3) fun x95 σ4 =>
  grdK x90 false σ4 (fun f => cmpK .eql x95 (.int .u8 9) fun v => f v σ4) fun x96 σ5 =>
  pickK x90 (.bool true) x96 fun x97 =>
  ifK x97 (
  .fail) (
  addK x9 (.int .i64 1) fun x99 =>
  c175_6 run fu s3 x0 x1 x8 x99 σ5)) (
  c175_6 run fu s3 x0 x1 x8 x9 σ)) (
  cmpK .eql x66 (.int .u8 32) fun x101 =>
  ifK x101 (
  c175_7 run fu s3 x0 x1 x8 x9 x101 σ) (
  cmpK .eql x66 (.int .u8 9) fun x102 =>
  ifK x102 (
  c175_7 run fu s3 x0 x1 x8 x9 x102 σ) (
  cmpK .eql x66 (.int .u8 10) fun x103 =>
  c175_7 run fu s3 x0 x1 x8 x9 x103 σ)))))) (
  .fail)

theorem eq175_3x (run : RunT) (fu : Nat) (s3 : W4) (x0 x1 x8 x9 : AV) (σ : Store) : codeK X0 run (.seq (.seq .leaf (.cond .leaf .leaf)) (.seq (.block (.seq .leaf (.block (.seq .leaf (.cond (.seq .leaf (.seq .leaf (.cond (.seq .leaf .leaf) .leaf))) (.seq .leaf (.cond (.seq (.seq .leaf (.cond .leaf .leaf)) .leaf) (.seq .leaf (.cond (.seq .leaf (.cond (.seq (.seq .leaf (.cond (.seq .leaf .leaf) .leaf)) .leaf) .leaf)) (.seq (.seq .leaf (.cond .leaf (.seq .leaf (.cond .leaf .leaf)))) (.sub (fun fr σ => c175_7 run fu s3 (G fr 0) (G fr 1) (G fr 8) (G fr 9) (G fr 100) σ)))))))))))) (.sub (fun fr σ => c175_6 run fu s3 (G fr 0) (G fr 1) (G fr 8) (G fr 9) σ)))) (subC [true, false, true, true, true, true, true, false, false, false] b175) (frS 0 111 [(0, x0), (1, x1), (8, x8), (9, x9)]) σ (thenK (fun fr σ => s3 (G fr 0) (G fr 1) (G fr 8) (G fr 9) σ) failK) = c175_3x run fu s3 x0 x1 x8 x9 σ := by kernel_rfl

theorem owed175_3x {run : RunT} (hrun : RunOK X0 run) (fu : Nat) (s3 : W4) : Owes X0 run 111 (.seq (.seq .leaf (.cond .leaf .leaf)) (.seq (.block (.seq .leaf (.block (.seq .leaf (.cond (.seq .leaf (.seq .leaf (.cond (.seq .leaf .leaf) .leaf))) (.seq .leaf (.cond (.seq (.seq .leaf (.cond .leaf .leaf)) .leaf) (.seq .leaf (.cond (.seq .leaf (.cond (.seq (.seq .leaf (.cond (.seq .leaf .leaf) .leaf)) .leaf) .leaf)) (.seq (.seq .leaf (.cond .leaf (.seq .leaf (.cond .leaf .leaf)))) (.sub (fun fr σ => c175_7 run fu s3 (G fr 0) (G fr 1) (G fr 8) (G fr 9) (G fr 100) σ)))))))))))) (.sub (fun fr σ => c175_6 run fu s3 (G fr 0) (G fr 1) (G fr 8) (G fr 9) σ)))) (subC [true, false, true, true, true, true, true, false, false, false] b175) (thenK (fun fr σ => s3 (G fr 0) (G fr 1) (G fr 8) (G fr 9) σ) failK) :=
  ⟨⟨trivial, ⟨trivial, trivial⟩⟩, ⟨⟨trivial, ⟨trivial, ⟨⟨trivial, ⟨trivial, ⟨⟨trivial, trivial⟩, trivial⟩⟩⟩, ⟨trivial, ⟨⟨⟨trivial, ⟨trivial, trivial⟩⟩, trivial⟩, ⟨trivial, ⟨⟨trivial, ⟨⟨⟨trivial, ⟨⟨trivial, trivial⟩, trivial⟩⟩, trivial⟩, trivial⟩⟩, ⟨⟨trivial, ⟨trivial, ⟨trivial, ⟨trivial, trivial⟩⟩⟩⟩, (ok175_7 hrun fu s3)⟩⟩⟩⟩⟩⟩⟩⟩, (ok175_6 hrun fu s3)⟩⟩

noncomputable def c175_3s (run : RunT) (fu : Nat) : Nat → List AV → Store → Tr R :=
  sweepU (planOf none 0 3 [] [] [] []) (fun t2 xs σ => c175_3b run fu (fun y0 y1 y8 y9 σ => t2 [y0, y1, y8, y9] σ) (xs.getD 0 .any) (xs.getD 1 .any) (xs.getD 2 .any) (xs.getD 3 .any) σ) (fun t2 xs σ => c175_3x run fu (fun y0 y1 y8 y9 σ => t2 [y0, y1, y8, y9] σ) (xs.getD 0 .any) (xs.getD 1 .any) (xs.getD 2 .any) (xs.getD 3 .any) σ)

theorem ok175_3s {run : RunT} (hrun : RunOK X0 run) (fu : Nat) : ∀ fr σ, KOK X0 111 (subC [true, false, true, true, true, true, true, false, false] b175) fr σ ((fun fr σ => c175_3s run fu fu [fr.getD 0 .any, fr.getD 1 .any, fr.getD 8 .any, fr.getD 9 .any] σ) fr σ) (blockK 2 (thenK (fun fr σ => c175_2 run fu (G fr 0) (G fr 1) (G fr 9) σ) (noGotoK k175))) := by
  have h := KOK.sweep (X := X0) (N := 111) (b := (subC [true, false, true, true, true, true, true, false, false, false] b175)) (k := (blockK 2 (thenK (fun fr σ => c175_2 run fu (G fr 0) (G fr 1) (G fr 9) σ) (noGotoK k175)))) (js := [0, 1, 8, 9]) (body := (fun t2 xs σ => c175_3b run fu (fun y0 y1 y8 y9 σ => t2 [y0, y1, y8, y9] σ) (xs.getD 0 .any) (xs.getD 1 .any) (xs.getD 2 .any) (xs.getD 3 .any) σ)) (bodyx := (fun t2 xs σ => c175_3x run fu (fun y0 y1 y8 y9 σ => t2 [y0, y1, y8, y9] σ) (xs.getD 0 .any) (xs.getD 1 .any) (xs.getD 2 .any) (xs.getD 3 .any) σ)) rfl (planOf none 0 3 [] [] [] []) (fun t2 fr σ => KOK.piece env0 hrun [0, 1, 8, 9] (eq175_3 run fu (fun y0 y1 y8 y9 σ => t2 [y0, y1, y8, y9] σ) (G fr 0) (G fr 1) (G fr 8) (G fr 9) σ) (owed175_3 hrun fu (fun y0 y1 y8 y9 σ => t2 [y0, y1, y8, y9] σ))) (fun t2 fr σ => KOK.piece env0 hrun [0, 1, 8, 9] (eq175_3x run fu (fun y0 y1 y8 y9 σ => t2 [y0, y1, y8, y9] σ) (G fr 0) (G fr 1) (G fr 8) (G fr 9) σ) (owed175_3x hrun fu (fun y0 y1 y8 y9 σ => t2 [y0, y1, y8, y9] σ)))
  exact fun fr σ => h fu fr σ

noncomputable def c175_1 (run : RunT) (fu : Nat) (x0 x1 : AV) (σ : Store) : Tr R :=
  c175_3s run fu fu [x0, x1, (.int .i64 0), x1] σ

theorem eq175_1 (run : RunT) (fu : Nat) (x0 x1 : AV) (σ : Store) : codeK X0 run (.seq .leaf (.seq .leaf (.seq .leaf (.seq (.block (.sub (fun fr σ => c175_3s run fu fu [fr.getD 0 .any, fr.getD 1 .any, fr.getD 8 .any, fr.getD 9 .any] σ))) (.sub (fun fr σ => c175_2 run fu (G fr 0) (G fr 1) (G fr 9) σ)))))) (subC [true, false, true, true] b175) (frS 0 111 [(0, x0), (1, x1)]) σ (noGotoK k175) = c175_1 run fu x0 x1 σ := by kernel_rfl

theorem ok175_1 {run : RunT} (hrun : RunOK X0 run) (fu : Nat) : ∀ fr σ, KOK X0 111 (subC [true, false, true, true] b175) fr σ ((fun fr σ => c175_1 run fu (G fr 0) (G fr 1) σ) fr σ) (noGotoK k175) := fun fr σ =>
  KOK.piece env0 hrun [0, 1] (eq175_1 run fu (G fr 0) (G fr 1) σ) ⟨trivial, ⟨trivial, ⟨trivial, ⟨(ok175_3s hrun fu), (ok175_2 hrun fu)⟩⟩⟩⟩

noncomputable def c175_9 (run : RunT) (fu : Nat) (s8 : W3) (x0 x1 x7 : AV) (σ : Store) : Tr R :=
  addK x7 (.int .i64 1) fun x22 =>
  s8 x0 x1 x22 σ

theorem eq175_9 (run : RunT) (fu : Nat) (s8 : W3) (x0 x1 x7 : AV) (σ : Store) : codeK X0 run .leaf (subC [true, false, true, false, true, false, true, false, false, true] b175) (frS 0 111 [(0, x0), (1, x1), (7, x7)]) σ (thenK (fun fr σ => s8 (G fr 0) (G fr 1) (G fr 7) σ) (blockK 0 (thenK (fun fr σ => c175_1 run fu (G fr 0) (G fr 1) σ) (noGotoK k175)))) = c175_9 run fu s8 x0 x1 x7 σ := by kernel_rfl

theorem ok175_9 {run : RunT} (hrun : RunOK X0 run) (fu : Nat) (s8 : W3) : ∀ fr σ, KOK X0 111 (subC [true, false, true, false, true, false, true, false, false, true] b175) fr σ ((fun fr σ => c175_9 run fu s8 (G fr 0) (G fr 1) (G fr 7) σ) fr σ) (thenK (fun fr σ => s8 (G fr 0) (G fr 1) (G fr 7) σ) (blockK 0 (thenK (fun fr σ => c175_1 run fu (G fr 0) (G fr 1) σ) (noGotoK k175)))) := fun fr σ =>
  KOK.piece env0 hrun [0, 1, 7] (eq175_9 run fu s8 (G fr 0) (G fr 1) (G fr 7) σ) trivial

noncomputable def c175_8b (run : RunT) (fu : Nat) (s8 : W3) (x0 x1 x7 : AV) (σ : Store) : Tr R :=
  lenSK x0 fun x25 =>
  cmpK .geq x7 x25 fun x26 =>
  grdK x26 false σ (fun f => f x0 σ) fun x28 σ1 =>
  grdK x26 false σ1 (fun f => f x7 σ1) fun x29 σ2 =>
  grdK x26 false σ2 (fun f => idxSK x28 x29 fun v => f v σ2) fun x30 σ3 =>
  grdK x26 false σ3 (fun f => cmpK .eql x30 (.int .u8 10) fun v => f v σ3) fun x31 σ4 =>
  pickK x26 (.bool true) x31 fun x32 =>
  grdK x32 false σ4 (fun f => f x0 σ4) fun x34 σ5 =>
  grdK x32 false σ5 (fun f => f x7 σ5) fun x35 σ6 =>
  grdK x32 false σ6 (fun f => idxSK x34 x35 fun v => f v σ6) fun x36 σ7 =>
  grdK x32 false σ7 (fun f => cmpK .eql x36 (.int .u8 60) fun v => f v σ7) fun x37 σ8 =>
  pickK x32 (.bool true) x37 fun x38 =>
  ifK x38 (
  .ret (.tup [(.str []), (.int .i64 0), (.bool false)], σ8)) (
  idxSK x0 x7 fun x41 =>
  cmpK .eql x41 (.int .u8 62) fun x42 =>
  ifK x42 (
  addK x1 (.int .i64 1) fun x45 =>
  sliceSK x0 (some x45) (some x7) fun x47 =>
  calK run 230 [x47] σ8 fun x48 σ9 =>
  addK x7 (.int .i64 1) fun x50 =>
  .ret (.tup [x48, x50, (.bool true)], σ9)) (
  idxSK x0 x7 fun x53 =>
  cmpK .eql x53 (.int .u8 92) fun x54 =>
  ifK x54 (
  addK x7 (.int .i64 1) fun x56 =>
  c175_9 run fu s8 x0 x1 x56 σ8) (
  c175_9 run fu s8 x0 x1 x7 σ8)))

noncomputable def c175_8 (run : RunT) (fu : Nat) : Nat → W3
  | 0 => fun _ _ _ _ => .fail
  | m + 1 => c175_8b run fu (c175_8 run fu m)

theorem eq175_8 (run : RunT) (fu : Nat) (s8 : W3) (x0 x1 x7 : AV) (σ : Store) : codeK X0 run (.seq (.block (.seq (.seq .leaf (.cond (.seq .leaf .leaf) .leaf)) (.seq (.seq .leaf (.cond (.seq .leaf .leaf) .leaf)) (.seq .leaf (.cond .leaf .leaf))))) (.sub (fun fr σ => c175_9 run fu s8 (G fr 0) (G fr 1) (G fr 7) σ))) (subC [true, false, true, false, true, false, true, false, false] b175) (frS 0 111 [(0, x0), (1, x1), (7, x7)]) σ (thenK (fun fr σ => s8 (G fr 0) (G fr 1) (G fr 7) σ) (blockK 0 (thenK (fun fr σ => c175_1 run fu (G fr 0) (G fr 1) σ) (noGotoK k175)))) = c175_8b run fu s8 x0 x1 x7 σ := by kernel_rfl

theorem owed175_8 {run : RunT} (hrun : RunOK X0 run) (fu : Nat) (s8 : W3) : Owes X0 run 111 (.seq (.block (.seq (.seq .leaf (.cond (.seq .leaf .leaf) .leaf)) (.seq (.seq .leaf (.cond (.seq .leaf .leaf) .leaf)) (.seq .leaf (.cond .leaf .leaf))))) (.sub (fun fr σ => c175_9 run fu s8 (G fr 0) (G fr 1) (G fr 7) σ))) (subC [true, false, true, false, true, false, true, false, false] b175) (thenK (fun fr σ => s8 (G fr 0) (G fr 1) (G fr 7) σ) (blockK 0 (thenK (fun fr σ => c175_1 run fu (G fr 0) (G fr 1) σ) (noGotoK k175)))) :=
  ⟨⟨⟨trivial, ⟨⟨trivial, trivial⟩, trivial⟩⟩, ⟨⟨trivial, ⟨⟨trivial, trivial⟩, trivial⟩⟩, ⟨trivial, ⟨trivial, trivial⟩⟩⟩⟩, (ok175_9 hrun fu s8)⟩

theorem ok175_8 {run : RunT} (hrun : RunOK X0 run) (fu : Nat) : ∀ fr σ, KOK X0 111 (subC [true, false, true, false, true, false, true, false] b175) fr σ ((fun fr σ => c175_8 run fu fu (G fr 0) (G fr 1) (G fr 7) σ) fr σ) (blockK 0 (thenK (fun fr σ => c175_1 run fu (G fr 0) (G fr 1) σ) (noGotoK k175))) := by
  have h := KOK.loop (X := X0) (N := 111) (b := (subC [true, false, true, false, true, false, true, false, false] b175)) (k := (blockK 0 (thenK (fun fr σ => c175_1 run fu (G fr 0) (G fr 1) σ) (noGotoK k175)))) (u := fun m fr σ => c175_8 run fu m (G fr 0) (G fr 1) (G fr 7) σ) (fun _ _ => rfl) (fun m fr σ => KOK.piece env0 hrun [0, 1, 7] (eq175_8 run fu (c175_8 run fu m) (G fr 0) (G fr 1) (G fr 7) σ) (owed175_8 hrun fu (c175_8 run fu m)))
  exact fun fr σ => h fu fr σ

noncomputable def c175 (run : RunT) (fu : Nat) (x0 x1 : AV) (σ : Store) : Tr R :=
  lenSK x0 fun x13 =>
  cmpK .geq x1 x13 fun x14 =>
  ifK x14 (
  .ret (.tup [(.str []), (.int .i64 0), (.bool false)], σ)) (
  idxSK x0 x1 fun x17 =>
  cmpK .eql x17 (.int .u8 60) fun x18 =>
  ifK x18 (
  addK x1 (.int .i64 1) fun x20 =>
  c175_8 run fu fu x0 x1 x20 σ) (
  c175_1 run fu x0 x1 σ))

theorem eq175 (run : RunT) (fu : Nat) (x0 x1 : AV) (σ : Store) : codeK X0 run (.seq .leaf (.scope (.seq (.seq .leaf (.cond (.seq .leaf .leaf) .leaf)) (.seq (.seq .leaf (.cond (.seq .leaf (.block (.sub (fun fr σ => c175_8 run fu fu (G fr 0) (G fr 1) (G fr 7) σ)))) .leaf)) (.sub (fun fr σ => c175_1 run fu (G fr 0) (G fr 1) σ)))))) (subC [] b175) ([x0, x1] ++ padA (111 - 2)) σ k175 = c175 run fu x0 x1 σ := by kernel_rfl

theorem ok175 {run : RunT} (hrun : RunOK X0 run) (fu : Nat) (x0 x1 : AV) (σ : Store) : CallOK X0 175 [x0, x1] σ (c175 run fu x0 x1 σ) :=
  KOK.body (fn := Tryz.f175) (c := subC [] b175) (by kernel_rfl) (by kernel_rfl) (by show 2 ≤ 111; decide) (KOK.whole env0 hrun (eq175 run fu x0 x1 σ) ⟨trivial, ⟨⟨trivial, ⟨⟨trivial, trivial⟩, trivial⟩⟩, ⟨⟨trivial, ⟨⟨trivial, (ok175_8 hrun fu)⟩, trivial⟩⟩, (ok175_1 hrun fu)⟩⟩⟩)

-- pub-paratext/pub/rscmarkdown.parseLinkTitle

noncomputable def b176 : Code := match Tryz.f176.body with | some c => c | none => .skip

noncomputable def k176 : Kont R := retK Tryz.prog [.tmp 4, .tmp 5, .tmp 6, .tmp 7]

noncomputable def c176_1 (run : RunT) (fu : Nat) (σ : Store) : Tr R :=
  .ret (.tup [(.str []), (.int .u8 0), (.int .i64 0), (.bool false)], σ)

theorem eq176_1 (run : RunT) (fu : Nat) (σ : Store) : codeK X0 run (.seq .leaf .leaf) (subC [true, true] b176) (frS 0 83 []) σ k176 = c176_1 run fu σ := by kernel_rfl

theorem ok176_1 {run : RunT} (hrun : RunOK X0 run) (fu : Nat) : ∀ fr σ, KOK X0 83 (subC [true, true] b176) fr σ ((fun fr σ => c176_1 run fu σ) fr σ) k176 := fun fr σ =>
  KOK.piece env0 hrun [] (eq176_1 run fu σ) ⟨trivial, trivial⟩

noncomputable def c176 (run : RunT) (fu : Nat) (x0 x1 : AV) (σ : Store) : Tr R :=
  lenSK x0 fun x13 =>
  cmpK .lss x1 x13 fun x14 =>
  grdK x14 true σ (fun f => f x0 σ) fun x16 σ1 =>
  grdK x14 true σ1 (fun f => f x1 σ1) fun x17 σ2 =>
  grdK x14 true σ2 (fun f => idxSK x16 x17 fun v => f v σ2) fun x18 σ3 =>
  grdK x14 true σ3 (fun f => cmpK .eql x18 (.int .u8 34) fun v => f v σ3) fun x19 σ4 =>
  grdK x14 true σ4 (fun f => f x19 σ4) fun x20 σ5 =>
  grdK x20 false σ5 (fun f => f x0 σ5) fun x21 σ6 =>
  grdK x20 false σ6 (fun f => f x1 σ6) fun x22 σ7 =>
  grdK x20 false σ7 (fun f => idxSK x21 x22 fun v => f v σ7) fun x23 σ8 =>
  grdK x20 false σ8 (fun f => cmpK .eql x23 (.int .u8 39) fun v => f v σ8) fun x24 σ9 =>
  grdK x14 true σ9 (fun f => pickK x20 (.bool true) x24 fun v => f v σ9) fun x25 σ10 =>
  grdK x14 true σ10 (fun f => f x25 σ10) fun x26 σ11 =>
  grdK x26 false σ11 (fun f => f x0 σ11) fun x27 σ12 =>
  grdK x26 false σ12 (fun f => f x1 σ12) fun x28 σ13 =>
  grdK x26 false σ13 (fun f => idxSK x27 x28 fun v => f v σ13) fun x29 σ14 =>
  grdK x26 false σ14 (fun f => cmpK .eql x29 (.int .u8 40) fun v => f v σ14) fun x30 σ15 =>
  grdK x14 true σ15 (fun f => pickK x26 (.bool true) x30 fun v => f v σ15) fun x31 σ16 =>
  pickK x14 x31 (.bool false) fun x32 =>
  ifK x32 (
  .fail) (
  c176_1 run fu σ16)

theorem eq176 (run : RunT) (fu : Nat) (x0 x1 : AV) (σ : Store) : codeK X0 run (.seq .leaf (.seq (.seq .leaf (.cond (.sub deadK) .leaf)) (.sub (fun fr σ => c176_1 run fu σ)))) (subC [] b176) ([x0, x1] ++ padA (83 - 2)) σ k176 = c176 run fu x0 x1 σ := by kernel_rfl

theorem ok176 {run : RunT} (hrun : RunOK X0 run) (fu : Nat) (x0 x1 : AV) (σ : Store) : CallOK X0 176 [x0, x1] σ (c176 run fu x0 x1 σ) :=
  KOK.body (fn := Tryz.f176) (c := subC [] b176) (by kernel_rfl) (by kernel_rfl) (by show 2 ≤ 83; decide) (KOK.whole env0 hrun (eq176 run fu x0 x1 σ) ⟨trivial, ⟨⟨trivial, ⟨KOK.dead, trivial⟩⟩, (ok176_1 hrun fu)⟩⟩)

-- pub-paratext/pub/rscmarkdown.parseLinkLabel

noncomputable def b177 : Code := match Tryz.f177.body with | some c => c | none => .skip

noncomputable def k177 : Kont R := retK Tryz.prog [.tmp 6, .tmp 7, .tmp 8]

noncomputable def c177_1 (run : RunT) (fu : Nat) (σ : Store) : Tr R :=
  .ret (.tup [(.str []), (.int .i64 0), (.bool false)], σ)

theorem eq177_1 (run : RunT) (fu : Nat) (σ : Store) : codeK X0 run (.seq .leaf .leaf) (subC [true, true, true, true] b177) (frS 0 69 []) σ k177 = c177_1 run fu σ := by kernel_rfl

theorem ok177_1 {run : RunT} (hrun : RunOK X0 run) (fu : Nat) : ∀ fr σ, KOK X0 69 (subC [true, true, true, true] b177) fr σ ((fun fr σ => c177_1 run fu σ) fr σ) k177 := fun fr σ =>
  KOK.piece env0 hrun [] (eq177_1 run fu σ) ⟨trivial, trivial⟩

noncomputable def c177_3 (run : RunT) (fu : Nat) (s2 : W4) (x0 x1 x2 x9 : AV) (σ : Store) : Tr R :=
  addK x9 (.int .i64 1) fun x28 =>
  s2 x0 x1 x2 x28 σ

theorem eq177_3 (run : RunT) (fu : Nat) (s2 : W4) (x0 x1 x2 x9 : AV) (σ : Store) : codeK X0 run .leaf (subC [true, true, true, false, false, false, true, true] b177) (frS 0 69 [(0, x0), (1, x1), (2, x2), (9, x9)]) σ (thenK (fun fr σ => s2 (G fr 0) (G fr 1) (G fr 2) (G fr 9) σ) (blockK 0 (thenK (fun fr σ => c177_1 run fu σ) k177))) = c177_3 run fu s2 x0 x1 x2 x9 σ := by kernel_rfl

theorem ok177_3 {run : RunT} (hrun : RunOK X0 run) (fu : Nat) (s2 : W4) : ∀ fr σ, KOK X0 69 (subC [true, true, true, false, false, false, true, true] b177) fr σ ((fun fr σ => c177_3 run fu s2 (G fr 0) (G fr 1) (G fr 2) (G fr 9) σ) fr σ) (thenK (fun fr σ => s2 (G fr 0) (G fr 1) (G fr 2) (G fr 9) σ) (blockK 0 (thenK (fun fr σ => c177_1 run fu σ) k177))) := fun fr σ =>
  KOK.piece env0 hrun [0, 1, 2, 9] (eq177_3 run fu s2 (G fr 0) (G fr 1) (G fr 2) (G fr 9) σ) trivial

noncomputable def c177_2b (run : RunT) (fu : Nat) (s2 : W4) (x0 x1 x2 x9 : AV) (σ : Store) : Tr R :=
  lenSK x1 fun x25 =>
  cmpK .lss x9 x25 fun x26 =>
  ifK x26 (
  idxSK x1 x9 fun x31 =>
  cmpK .eql x31 (.int .u8 93) fun x32 =>
  ifK x32 (
  addK x2 (.int .i64 1) fun x35 =>
  subK x9 x35 fun x36 =>
  cmpK .gtr x36 (.int .i64 999) fun x37 =>
  ifK x37 (
  nchkK x0 fun x39 =>
  addrK x39 6 fun x40 =>
  st1K σ x40 (.bool true) fun _ σ1 =>
  c177_1 run fu σ1) (
  addK x2 (.int .i64 1) fun x43 =>
  sliceSK x1 (some x43) (some x9) fun x45 =>
  calK run 232 [x45] σ fun x46 σ2 =>
  neSK x46 (.str []) fun x48 =>
  ifK x48 (
  addK x9 (.int .i64 1) fun x51 =>
  .ret (.tup [x46, x51, (.bool true)], σ2)) (
  c177_1 run fu σ2))) (
  idxSK x1 x9 fun x54 =>
  cmpK .eql x54 (.int .u8 91) fun x55 =>
  ifK x55 (
  c177_1 run fu σ) (
  idxSK x1 x9 fun x58 =>
  cmpK .eql x58 (.int .u8 92) fun x59 =>
  grdK x59 true σ (fun f => f x9 σ) fun x61 σ3 =>
  grdK x59 true σ3 (fun f => addK x61 (.int .i64 1) fun v => f v σ3) fun x62 σ4 =>
  grdK x59 true σ4 (fun f => f x1 σ4) fun x63 σ5 =>
  grdK x59 true σ5 (fun f => lenSK x63 fun v => f v σ5) fun x64 σ6 =>
  grdK x59 true σ6 (fun f => cmpK .lss x62 x64 fun v => f v σ6) fun x65 σ7 =>
  pickK x59 x65 (.bool false) fun x66 =>
  ifK x66 (
  addK x9 (.int .i64 1) fun x68 =>
  c177_3 run fu s2 x0 x1 x2 x68 σ7) (
  c177_3 run fu s2 x0 x1 x2 x9 σ7)))) (
  c177_1 run fu σ)

noncomputable def c177_2 (run : RunT) (fu : Nat) : Nat → W4
  | 0 => fun _ _ _ _ _ => .fail
  | m + 1 => c177_2b run fu (c177_2 run fu m)

theorem eq177_2 (run : RunT) (fu : Nat) (s2 : W4) (x0 x1 x2 x9 : AV) (σ : Store) : codeK X0 run (.seq (.seq .leaf (.cond .leaf .leaf)) (.seq (.block (.seq (.seq .leaf (.cond (.seq (.seq .leaf (.cond (.seq .leaf .leaf) .leaf)) (.seq (.seq .leaf (.seq .leaf (.cond (.seq .leaf .leaf) .leaf))) .leaf)) .leaf)) (.seq (.seq .leaf (.cond .leaf .leaf)) (.seq .leaf (.cond .leaf .leaf))))) (.sub (fun fr σ => c177_3 run fu s2 (G fr 0) (G fr 1) (G fr 2) (G fr 9) σ)))) (subC [true, true, true, false, false, false] b177) (frS 0 69 [(0, x0), (1, x1), (2, x2), (9, x9)]) σ (thenK (fun fr σ => s2 (G fr 0) (G fr 1) (G fr 2) (G fr 9) σ) (blockK 0 (thenK (fun fr σ => c177_1 run fu σ) k177))) = c177_2b run fu s2 x0 x1 x2 x9 σ := by kernel_rfl

theorem owed177_2 {run : RunT} (hrun : RunOK X0 run) (fu : Nat) (s2 : W4) : Owes X0 run 69 (.seq (.seq .leaf (.cond .leaf .leaf)) (.seq (.block (.seq (.seq .leaf (.cond (.seq (.seq .leaf (.cond (.seq .leaf .leaf) .leaf)) (.seq (.seq .leaf (.seq .leaf (.cond (.seq .leaf .leaf) .leaf))) .leaf)) .leaf)) (.seq (.seq .leaf (.cond .leaf .leaf)) (.seq .leaf (.cond .leaf .leaf))))) (.sub (fun fr σ => c177_3 run fu s2 (G fr 0) (G fr 1) (G fr 2) (G fr 9) σ)))) (subC [true, true, true, false, false, false] b177) (thenK (fun fr σ => s2 (G fr 0) (G fr 1) (G fr 2) (G fr 9) σ) (blockK 0 (thenK (fun fr σ => c177_1 run fu σ) k177))) :=
  ⟨⟨trivial, ⟨trivial, trivial⟩⟩, ⟨⟨⟨trivial, ⟨⟨⟨trivial, ⟨⟨trivial, trivial⟩, trivial⟩⟩, ⟨⟨trivial, ⟨trivial, ⟨⟨trivial, trivial⟩, trivial⟩⟩⟩, trivial⟩⟩, trivial⟩⟩, ⟨⟨trivial, ⟨trivial, trivial⟩⟩, ⟨trivial, ⟨trivial, trivial⟩⟩⟩⟩, (ok177_3 hrun fu s2)⟩⟩

theorem ok177_2 {run : RunT} (hrun : RunOK X0 run) (fu : Nat) : ∀ fr σ, KOK X0 69 (subC [true, true, true, false, false] b177) fr σ ((fun fr σ => c177_2 run fu fu (G fr 0) (G fr 1) (G fr 2) (G fr 9) σ) fr σ) (blockK 0 (thenK (fun fr σ => c177_1 run fu σ) k177)) := by
  have h := KOK.loop (X := X0) (N := 69) (b := (subC [true, true, true, false, false, false] b177)) (k := (blockK 0 (thenK (fun fr σ => c177_1 run fu σ) k177))) (u := fun m fr σ => c177_2 run fu m (G fr 0) (G fr 1) (G fr 2) (G fr 9) σ) (fun _ _ => rfl) (fun m fr σ => KOK.piece env0 hrun [0, 1, 2, 9] (eq177_2 run fu (c177_2 run fu m) (G fr 0) (G fr 1) (G fr 2) (G fr 9) σ) (owed177_2 hrun fu (c177_2 run fu m)))
  exact fun fr σ => h fu fr σ

noncomputable def c177_4 (run : RunT) (fu : Nat) (s2 : W4) (x0 x1 x2 x9 : AV) (σ : Store) : Tr R :=
  addK x9 (.int .i64 1) fun x28 =>
  s2 x0 x1 x2 x28 σ

theorem eq177_4 (run : RunT) (fu : Nat) (s2 : W4) (x0 x1 x2 x9 : AV) (σ : Store) : codeK X0 run .leaf (subC [true, true, true, false, false, false, true, true] b177) (frS 0 69 [(0, x0), (1, x1), (2, x2), (9, x9)]) σ (thenK (fun fr σ => s2 (G fr 0) (G fr 1) (G fr 2) (G fr 9) σ) failK) = c177_4 run fu s2 x0 x1 x2 x9 σ := by kernel_rfl

theorem ok177_4 {run : RunT} (hrun : RunOK X0 run) (fu : Nat) (s2 : W4) : ∀ fr σ, KOK X0 69 (subC [true, true, true, false, false, false, true, true] b177) fr σ ((fun fr σ => c177_4 run fu s2 (G fr 0) (G fr 1) (G fr 2) (G fr 9) σ) fr σ) (thenK (fun fr σ => s2 (G fr 0) (G fr 1) (G fr 2) (G fr 9) σ) failK) := fun fr σ =>
  KOK.piece env0 hrun [0, 1, 2, 9] (eq177_4 run fu s2 (G fr 0) (G fr 1) (G fr 2) (G fr 9) σ) trivial

noncomputable def c177_2x (run : RunT) (fu : Nat) (s2 : W4) (x0 x1 x2 x9 : AV) (σ : Store) : Tr R :=
  lenSK x1 fun x25 =>
  cmpK .lss x9 x25 fun x26 =>
  ifK x26 (
  idxSK x1 x9 fun x31 =>
  cmpK .eql x31 (.int .u8 93) fun x32 =>
  ifK x32 (
  addK x2 (.int .i64 1) fun x35 =>
  subK x9 x35 fun x36 =>
  cmpK .gtr x36 (.int .i64 999) fun x37 =>
  ifK x37 (
  nchkK x0 fun x39 =>
  addrK x39 6 fun x40 =>
  st1K σ x40 (.bool true) fun _ σ1 =>
  .fail) (
  addK x2 (.int .i64 1) fun x43 =>
  sliceSK x1 (some x43) (some x9) fun x45 =>
  calK run 232 [x45] σ fun x46 σ2 =>
  neSK x46 (.str []) fun x48 =>
  ifK x48 (
  addK x9 (.int .i64 1) fun x51 =>
  .fail) (
  .fail))) (
  idxSK x1 x9 fun x54 =>
  cmpK .eql x54 (.int .u8 91) fun x55 =>
  ifK x55 (
  .fail) (
  idxSK x1 x9 fun x58 =>
  cmpK .eql x58 (.int .u8 92) fun x59 =>
  grdK x59 true σ (fun f => f x9 σ) fun x61 σ3 =>
  grdK x59 true σ3 (fun f => addK x61 (.int .i64 1) fun v => f v σ3) fun x62 σ4 =>
  grdK x59 true σ4 (fun f => f x1 σ4) fun x63 σ5 =>
  grdK x59 true σ5 (fun f => lenSK x63 fun v => f v σ5) fun x64 σ6 =>
  grdK x59 true σ6 (fun f => cmpK .lss x62 x64 fun v => f v σ6) fun x65 σ7 =>
  pickK x59 x65 (.bool false) fun x66 =>
  ifK x66 (
  addK x9 (.int .i64 1) fun x68 =>
  c177_4 run fu s2 x0 x1 x2 x68 σ7) (
  c177_4 run fu s2 x0 x1 x2 x9 σ7)))) (
  .fail)

theorem eq177_2x (run : RunT) (fu : Nat) (s2 : W4) (x0 x1 x2 x9 : AV) (σ : Store) : codeK X0 run (.seq (.seq .leaf (.cond .leaf .leaf)) (.seq (.block (.seq (.seq .leaf (.cond (.seq (.seq .leaf (.cond (.seq .leaf .leaf) .leaf)) (.seq (.seq .leaf (.seq .leaf (.cond (.seq .leaf .leaf) .leaf))) .leaf)) .leaf)) (.seq (.seq .leaf (.cond .leaf .leaf)) (.seq .leaf (.cond .leaf .leaf))))) (.sub (fun fr σ => c177_4 run fu s2 (G fr 0) (G fr 1) (G fr 2) (G fr 9) σ)))) (subC [true, true, true, false, false, false] b177) (frS 0 69 [(0, x0), (1, x1), (2, x2), (9, x9)]) σ (thenK (fun fr σ => s2 (G fr 0) (G fr 1) (G fr 2) (G fr 9) σ) failK) = c177_2x run fu s2 x0 x1 x2 x9 σ := by kernel_rfl

theorem owed177_2x {run : RunT} (hrun : RunOK X0 run) (fu : Nat) (s2 : W4) : Owes X0 run 69 (.seq (.seq .leaf (.cond .leaf .leaf)) (.seq (.block (.seq (.seq .leaf (.cond (.seq (.seq .leaf (.cond (.seq .leaf .leaf) .leaf)) (.seq (.seq .leaf (.seq .leaf (.cond (.seq .leaf .leaf) .leaf))) .leaf)) .leaf)) (.seq (.seq .leaf (.cond .leaf .leaf)) (.seq .leaf (.cond .leaf .leaf))))) (.sub (fun fr σ => c177_4 run fu s2 (G fr 0) (G fr 1) (G fr 2) (G fr 9) σ)))) (subC [true, true, true, false, false, false] b177) (thenK (fun fr σ => s2 (G fr 0) (G fr 1) (G fr 2) (G fr 9) σ) failK) :=
  ⟨⟨trivial, ⟨trivial, trivial⟩⟩, ⟨⟨⟨trivial, ⟨⟨⟨trivial, ⟨⟨trivial, trivial⟩, trivial⟩⟩, ⟨⟨trivial, ⟨trivial, ⟨⟨trivial, trivial⟩, trivial⟩⟩⟩, trivial⟩⟩, trivial⟩⟩, ⟨⟨trivial, ⟨trivial, trivial⟩⟩, ⟨trivial, ⟨trivial, trivial⟩⟩⟩⟩, (ok177_4 hrun fu s2)⟩⟩

noncomputable def c177_2s (run : RunT) (fu : Nat) : Nat → List AV → Store → Tr R :=
  sweepU (planOf none 1 3 [] [] [] []) (fun t2 xs σ => c177_2b run fu (fun y0 y1 y2 y9 σ => t2 [y0, y1, y2, y9] σ) (xs.getD 0 .any) (xs.getD 1 .any) (xs.getD 2 .any) (xs.getD 3 .any) σ) (fun t2 xs σ => c177_2x run fu (fun y0 y1 y2 y9 σ => t2 [y0, y1, y2, y9] σ) (xs.getD 0 .any) (xs.getD 1 .any) (xs.getD 2 .any) (xs.getD 3 .any) σ)

theorem ok177_2s {run : RunT} (hrun : RunOK X0 run) (fu : Nat) : ∀ fr σ, KOK X0 69 (subC [true, true, true, false, false] b177) fr σ ((fun fr σ => c177_2s run fu fu [fr.getD 0 .any, fr.getD 1 .any, fr.getD 2 .any, fr.getD 9 .any] σ) fr σ) (blockK 0 (thenK (fun fr σ => c177_1 run fu σ) k177)) := by
  have h := KOK.sweep (X := X0) (N := 69) (b := (subC [true, true, true, false, false, false] b177)) (k := (blockK 0 (thenK (fun fr σ => c177_1 run fu σ) k177))) (js := [0, 1, 2, 9]) (body := (fun t2 xs σ => c177_2b run fu (fun y0 y1 y2 y9 σ => t2 [y0, y1, y2, y9] σ) (xs.getD 0 .any) (xs.getD 1 .any) (xs.getD 2 .any) (xs.getD 3 .any) σ)) (bodyx := (fun t2 xs σ => c177_2x run fu (fun y0 y1 y2 y9 σ => t2 [y0, y1, y2, y9] σ) (xs.getD 0 .any) (xs.getD 1 .any) (xs.getD 2 .any) (xs.getD 3 .any) σ)) rfl (planOf none 1 3 [] [] [] []) (fun t2 fr σ => KOK.piece env0 hrun [0, 1, 2, 9] (eq177_2 run fu (fun y0 y1 y2 y9 σ => t2 [y0, y1, y2, y9] σ) (G fr 0) (G fr 1) (G fr 2) (G fr 9) σ) (owed177_2 hrun fu (fun y0 y1 y2 y9 σ => t2 [y0, y1, y2, y9] σ))) (fun t2 fr σ => KOK.piece env0 hrun [0, 1, 2, 9] (eq177_2x run fu (fun y0 y1 y2 y9 σ => t2 [y0, y1, y2, y9] σ) (G fr 0) (G fr 1) (G fr 2) (G fr 9) σ) (owed177_2x hrun fu (fun y0 y1 y2 y9 σ => t2 [y0, y1, y2, y9] σ)))
  exact fun fr σ => h fu fr σ

noncomputable def c177 (run : RunT) (fu : Nat) (x0 x1 x2 : AV) (σ : Store) : Tr R :=
  lenSK x1 fun x13 =>
  cmpK .geq x2 x13 fun x14 =>
  grdK x14 false σ (fun f => f x1 σ) fun x16 σ1 =>
  grdK x14 false σ1 (fun f => f x2 σ1) fun x17 σ2 =>
  grdK x14 false σ2 (fun f => idxSK x16 x17 fun v => f v σ2) fun x18 σ3 =>
  grdK x14 false σ3 (fun f => cmpK .neq x18 (.int .u8 91) fun v => f v σ3) fun x19 σ4 =>
  pickK x14 (.bool true) x19 fun x20 =>
  ifK x20 (
  .ret (.tup [(.str []), (.int .i64 0), (.bool false)], σ4)) (
  addK x2 (.int .i64 1) fun x22 =>
  c177_2s run fu fu [x0, x1, x2, x22] σ4)

theorem eq177 (run : RunT) (fu : Nat) (x0 x1 x2 : AV) (σ : Store) : codeK X0 run (.seq .leaf (.seq (.seq .leaf (.cond (.seq .leaf .leaf) .leaf)) (.seq .leaf (.seq (.block (.sub (fun fr σ => c177_2s run fu fu [fr.getD 0 .any, fr.getD 1 .any, fr.getD 2 .any, fr.getD 9 .any] σ))) (.sub (fun fr σ => c177_1 run fu σ)))))) (subC [] b177) ([x0, x1, x2] ++ padA (69 - 3)) σ k177 = c177 run fu x0 x1 x2 σ := by kernel_rfl

theorem ok177 {run : RunT} (hrun : RunOK X0 run) (fu : Nat) (x0 x1 x2 : AV) (σ : Store) : CallOK X0 177 [x0, x1, x2] σ (c177 run fu x0 x1 x2 σ) :=
  KOK.body (fn := Tryz.f177) (c := subC [] b177) (by kernel_rfl) (by kernel_rfl) (by show 3 ≤ 69; decide) (KOK.whole env0 hrun (eq177 run fu x0 x1 x2 σ) ⟨trivial, ⟨⟨trivial, ⟨⟨trivial, trivial⟩, trivial⟩⟩, ⟨trivial, ⟨(ok177_2s hrun fu), (ok177_1 hrun fu)⟩⟩⟩⟩)

-- pub-paratext/pub/rscmarkdown.normalizeLabel

noncomputable def b178 : Code := match Tryz.f178.body with | some c => c | none => .skip

noncomputable def k178 : Kont R := retK Tryz.prog [.tmp 2]

noncomputable def c178_1 (run : RunT) (fu : Nat) (x3 x5 : AV) (σ : Store) : Tr R :=
  calK run 39 [x3] σ fun x44 σ1 =>
  .ret (x44, σ1)

theorem eq178_1 (run : RunT) (fu : Nat) (x3 x5 : AV) (σ : Store) : codeK X0 run (.seq .leaf (.seq .leaf (.seq .leaf .leaf))) (subC [true, true, true, true, true, true, true] b178) (frS 0 47 [(3, x3), (5, x5)]) σ k178 = c178_1 run fu x3 x5 σ := by kernel_rfl

theorem ok178_1 {run : RunT} (hrun : RunOK X0 run) (fu : Nat) : ∀ fr σ, KOK X0 47 (subC [true, true, true, true, true, true, true] b178) fr σ ((fun fr σ => c178_1 run fu (G fr 3) (G fr 5) σ) fr σ) k178 := fun fr σ =>
  KOK.piece env0 hrun [3, 5] (eq178_1 run fu (G fr 3) (G fr 5) σ) ⟨trivial, ⟨trivial, ⟨trivial, trivial⟩⟩⟩

noncomputable def c178_3 (run : RunT) (fu : Nat) (s2 : W5) (x0 x3 x4 x5 x6 : AV) (σ : Store) : Tr R :=
  addK x6 (.int .i64 1) fun x21 =>
  s2 x0 x3 x4 x5 x21 σ

theorem eq178_3 (run : RunT) (fu : Nat) (s2 : W5) (x0 x3 x4 x5 x6 : AV) (σ : Store) : codeK X0 run .leaf (subC [true, true, true, true, true, true, false, true, false, false, true, true] b178) (frS 0 47 [(0, x0), (3, x3), (4, x4), (5, x5), (6, x6)]) σ (thenK (fun fr σ => s2 (G fr 0) (G fr 3) (G fr 4) (G fr 5) (G fr 6) σ) (blockK 0 (thenK (fun fr σ => c178_1 run fu (G fr 3) (G fr 5) σ) k178))) = c178_3 run fu s2 x0 x3 x4 x5 x6 σ := by kernel_rfl

theorem ok178_3 {run : RunT} (hrun : RunOK X0 run) (fu : Nat) (s2 : W5) : ∀ fr σ, KOK X0 47 (subC [true, true, true, true, true, true, false, true, false, false, true, true] b178) fr σ ((fun fr σ => c178_3 run fu s2 (G fr 0) (G fr 3) (G fr 4) (G fr 5) (G fr 6) σ) fr σ) (thenK (fun fr σ => s2 (G fr 0) (G fr 3) (G fr 4) (G fr 5) (G fr 6) σ) (blockK 0 (thenK (fun fr σ => c178_1 run fu (G fr 3) (G fr 5) σ) k178))) := fun fr σ =>
  KOK.piece env0 hrun [0, 3, 4, 5, 6] (eq178_3 run fu s2 (G fr 0) (G fr 3) (G fr 4) (G fr 5) (G fr 6) σ) trivial

noncomputable def c178_7 (run : RunT) (fu : Nat) (s2 : W5) (x0 x3 x4 x5 x6 x7 : AV) (σ : Store) : Tr R :=
  calK run 85 [x3, x7] σ fun x39 σ1 =>
  c178_3 run fu s2 x0 x3 x4 x5 x6 σ1

theorem eq178_7 (run : RunT) (fu : Nat) (s2 : W5) (x0 x3 x4 x5 x6 x7 : AV) (σ : Store) : codeK X0 run .leaf (subC [true, true, true, true, true, true, false, true, false, false, true, false, false, true, true, false, true, true, true, true, true] b178) (frS 0 47 [(0, x0), (3, x3), (4, x4), (5, x5), (6, x6), (7, x7)]) σ (blockK 2 (blockK 1 (thenK (fun fr σ => c178_3 run fu s2 (G fr 0) (G fr 3) (G fr 4) (G fr 5) (G fr 6) σ) (thenK (fun fr σ => s2 (G fr 0) (G fr 3) (G fr 4) (G fr 5) (G fr 6) σ) (blockK 0 (thenK (fun fr σ => c178_1 run fu (G fr 3) (G fr 5) σ) k178)))))) = c178_7 run fu s2 x0 x3 x4 x5 x6 x7 σ := by kernel_rfl

theorem ok178_7 {run : RunT} (hrun : RunOK X0 run) (fu : Nat) (s2 : W5) : ∀ fr σ, KOK X0 47 (subC [true, true, true, true, true, true, false, true, false, false, true, false, false, true, true, false, true, true, true, true, true] b178) fr σ ((fun fr σ => c178_7 run fu s2 (G fr 0) (G fr 3) (G fr 4) (G fr 5) (G fr 6) (G fr 7) σ) fr σ) (blockK 2 (blockK 1 (thenK (fun fr σ => c178_3 run fu s2 (G fr 0) (G fr 3) (G fr 4) (G fr 5) (G fr 6) σ) (thenK (fun fr σ => s2 (G fr 0) (G fr 3) (G fr 4) (G fr 5) (G fr 6) σ) (blockK 0 (thenK (fun fr σ => c178_1 run fu (G fr 3) (G fr 5) σ) k178)))))) := fun fr σ =>
  KOK.piece env0 hrun [0, 3, 4, 5, 6, 7] (eq178_7 run fu s2 (G fr 0) (G fr 3) (G fr 4) (G fr 5) (G fr 6) (G fr 7) σ) trivial

noncomputable def c178_6 (run : RunT) (fu : Nat) (s2 : W5) (x0 x3 x4 x5 x6 x7 : AV) (σ : Store) : Tr R :=
  cmpK .geq x7 (.int .u8 128) fun x37 =>
  ifK x37 (
  c178_7 run fu s2 x0 x3 x4 (.bool true) x6 x7 σ) (
  c178_7 run fu s2 x0 x3 x4 x5 x6 x7 σ)

theorem eq178_6 (run : RunT) (fu : Nat) (s2 : W5) (x0 x3 x4 x5 x6 x7 : AV) (σ : Store) : codeK X0 run (.seq (.seq .leaf (.cond .leaf .leaf)) (.sub (fun fr σ => c178_7 run fu s2 (G fr 0) (G fr 3) (G fr 4) (G fr 5) (G fr 6) (G fr 7) σ))) (subC [true, true, true, true, true, true, false, true, false, false, true, false, false, true, true, false, true, true, true, true] b178) (frS 0 47 [(0, x0), (3, x3), (4, x4), (5, x5), (6, x6), (7, x7)]) σ (blockK 2 (blockK 1 (thenK (fun fr σ => c178_3 run fu s2 (G fr 0) (G fr 3) (G fr 4) (G fr 5) (G fr 6) σ) (thenK (fun fr σ => s2 (G fr 0) (G fr 3) (G fr 4) (G fr 5) (G fr 6) σ) (blockK 0 (thenK (fun fr σ => c178_1 run fu (G fr 3) (G fr 5) σ) k178)))))) = c178_6 run fu s2 x0 x3 x4 x5 x6 x7 σ := by kernel_rfl

theorem ok178_6 {run : RunT} (hrun : RunOK X0 run) (fu : Nat) (s2 : W5) : ∀ fr σ, KOK X0 47 (subC [true, true, true, true, true, true, false, true, false, false, true, false, false, true, true, false, true, true, true, true] b178) fr σ ((fun fr σ => c178_6 run fu s2 (G fr 0) (G fr 3) (G fr 4) (G fr 5) (G fr 6) (G fr 7) σ) fr σ) (blockK 2 (blockK 1 (thenK (fun fr σ => c178_3 run fu s2 (G fr 0) (G fr 3) (G fr 4) (G fr 5) (G fr 6) σ) (thenK (fun fr σ => s2 (G fr 0) (G fr 3) (G fr 4) (G fr 5) (G fr 6) σ) (blockK 0 (thenK (fun fr σ => c178_1 run fu (G fr 3) (G fr 5) σ) k178)))))) := fun fr σ =>
  KOK.piece env0 hrun [0, 3, 4, 5, 6, 7] (eq178_6 run fu s2 (G fr 0) (G fr 3) (G fr 4) (G fr 5) (G fr 6) (G fr 7) σ) ⟨⟨trivial, ⟨trivial, trivial⟩⟩, (ok178_7 hrun fu s2)⟩

noncomputable def c178_5 (run : RunT) (fu : Nat) (s2 : W5) (x0 x3 x4 x5 x6 x7 : AV) (σ : Store) : Tr R :=
  cmpK .leq (.int .u8 65) x7 fun x29 =>
  grdK x29 true σ (fun f => f x7 σ) fun x31 σ1 =>
  grdK x29 true σ1 (fun f => cmpK .leq x31 (.int .u8 90) fun v => f v σ1) fun x32 σ2 =>
  pickK x29 x32 (.bool false) fun x33 =>
  ifK x33 (
  addK x7 (.int .u8 32) fun x35 =>
  c178_6 run fu s2 x0 x3 x4 x5 x6 x35 σ2) (
  c178_6 run fu s2 x0 x3 x4 x5 x6 x7 σ2)

theorem eq178_5 (run : RunT) (fu : Nat) (s2 : W5) (x0 x3 x4 x5 x6 x7 : AV) (σ : Store) : codeK X0 run (.seq (.seq .leaf (.cond .leaf .leaf)) (.sub (fun fr σ => c178_6 run fu s2 (G fr 0) (G fr 3) (G fr 4) (G fr 5) (G fr 6) (G fr 7) σ))) (subC [true, true, true, true, true, true, false, true, false, false, true, false, false, true, true, false, true, true, true] b178) (frS 0 47 [(0, x0), (3, x3), (4, x4), (5, x5), (6, x6), (7, x7)]) σ (blockK 2 (blockK 1 (thenK (fun fr σ => c178_3 run fu s2 (G fr 0) (G fr 3) (G fr 4) (G fr 5) (G fr 6) σ) (thenK (fun fr σ => s2 (G fr 0) (G fr 3) (G fr 4) (G fr 5) (G fr 6) σ) (blockK 0 (thenK (fun fr σ => c178_1 run fu (G fr 3) (G fr 5) σ) k178)))))) = c178_5 run fu s2 x0 x3 x4 x5 x6 x7 σ := by kernel_rfl

theorem ok178_5 {run : RunT} (hrun : RunOK X0 run) (fu : Nat) (s2 : W5) : ∀ fr σ, KOK X0 47 (subC [true, true, true, true, true, true, false, true, false, false, true, false, false, true, true, false, true, true, true] b178) fr σ ((fun fr σ => c178_5 run fu s2 (G fr 0) (G fr 3) (G fr 4) (G fr 5) (G fr 6) (G fr 7) σ) fr σ) (blockK 2 (blockK 1 (thenK (fun fr σ => c178_3 run fu s2 (G fr 0) (G fr 3) (G fr 4) (G fr 5) (G fr 6) σ) (thenK (fun fr σ => s2 (G fr 0) (G fr 3) (G fr 4) (G fr 5) (G fr 6) σ) (blockK 0 (thenK (fun fr σ => c178_1 run fu (G fr 3) (G fr 5) σ) k178)))))) := fun fr σ =>
  KOK.piece env0 hrun [0, 3, 4, 5, 6, 7] (eq178_5 run fu s2 (G fr 0) (G fr 3) (G fr 4) (G fr 5) (G fr 6) (G fr 7) σ) ⟨⟨trivial, ⟨trivial, trivial⟩⟩, (ok178_6 hrun fu s2)⟩

noncomputable def c178_4 (run : RunT) (fu : Nat) (s2 : W5) (x0 x3 x4 x5 x6 x7 x40 : AV) (σ : Store) : Tr R :=
  ifK x40 (
  c178_3 run fu s2 x0 x3 (.bool true) x5 x6 σ) (
  ifK x4 (
  calK run 85 [x3, (.int .u8 32)] σ fun x27 σ1 =>
  c178_5 run fu s2 x0 x3 (.bool false) x5 x6 x7 σ1) (
  c178_5 run fu s2 x0 x3 x4 x5 x6 x7 σ))

theorem eq178_4 (run : RunT) (fu : Nat) (s2 : W5) (x0 x3 x4 x5 x6 x7 x40 : AV) (σ : Store) : codeK X0 run (.cond (.seq .leaf .leaf) (.seq (.seq .leaf (.cond (.seq .leaf .leaf) .leaf)) (.sub (fun fr σ => c178_5 run fu s2 (G fr 0) (G fr 3) (G fr 4) (G fr 5) (G fr 6) (G fr 7) σ)))) (subC [true, true, true, true, true, true, false, true, false, false, true, false, false, true, true, false, true] b178) (frS 0 47 [(0, x0), (3, x3), (4, x4), (5, x5), (6, x6), (7, x7), (40, x40)]) σ (blockK 2 (blockK 1 (thenK (fun fr σ => c178_3 run fu s2 (G fr 0) (G fr 3) (G fr 4) (G fr 5) (G fr 6) σ) (thenK (fun fr σ => s2 (G fr 0) (G fr 3) (G fr 4) (G fr 5) (G fr 6) σ) (blockK 0 (thenK (fun fr σ => c178_1 run fu (G fr 3) (G fr 5) σ) k178)))))) = c178_4 run fu s2 x0 x3 x4 x5 x6 x7 x40 σ := by kernel_rfl

theorem ok178_4 {run : RunT} (hrun : RunOK X0 run) (fu : Nat) (s2 : W5) : ∀ fr σ, KOK X0 47 (subC [true, true, true, true, true, true, false, true, false, false, true, false, false, true, true, false, true] b178) fr σ ((fun fr σ => c178_4 run fu s2 (G fr 0) (G fr 3) (G fr 4) (G fr 5) (G fr 6) (G fr 7) (G fr 40) σ) fr σ) (blockK 2 (blockK 1 (thenK (fun fr σ => c178_3 run fu s2 (G fr 0) (G fr 3) (G fr 4) (G fr 5) (G fr 6) σ) (thenK (fun fr σ => s2 (G fr 0) (G fr 3) (G fr 4) (G fr 5) (G fr 6) σ) (blockK 0 (thenK (fun fr σ => c178_1 run fu (G fr 3) (G fr 5) σ) k178)))))) := fun fr σ =>
  KOK.piece env0 hrun [0, 3, 4, 5, 6, 7, 40] (eq178_4 run fu s2 (G fr 0) (G fr 3) (G fr 4) (G fr 5) (G fr 6) (G fr 7) (G fr 40) σ) ⟨⟨trivial, trivial⟩, ⟨⟨trivial, ⟨⟨trivial, trivial⟩, trivial⟩⟩, (ok178_5 hrun fu s2)⟩⟩

noncomputable def c178_2b (run : RunT) (fu : Nat) (s2 : W5) (x0 x3 x4 x5 x6 : AV) (σ : Store) : Tr R :=
  lenSK x0 fun x18 =>
  cmpK .lss x6 x18 fun x19 =>
  ifK x19 (
  idxSK x0 x6 fun x24 =>
  cmpK .eql x24 (.int .u8 32) fun x41 =>
  ifK x41 (
  c178_4 run fu s2 x0 x3 x4 x5 x6 x24 x41 σ) (
  cmpK .eql x24 (.int .u8 9) fun x42 =>
  ifK x42 (
  c178_4 run fu s2 x0 x3 x4 x5 x6 x24 x42 σ) (
  cmpK .eql x24 (.int .u8 10) fun x43 =>
  c178_4 run fu s2 x0 x3 x4 x5 x6 x24 x43 σ))) (
  c178_1 run fu x3 x5 σ)

noncomputable def c178_2 (run : RunT) (fu : Nat) : Nat → W5
  | 0 => fun _ _ _ _ _ _ => .fail
  | m + 1 => c178_2b run fu (c178_2 run fu m)

theorem eq178_2 (run : RunT) (fu : Nat) (s2 : W5) (x0 x3 x4 x5 x6 : AV) (σ : Store) : codeK X0 run (.seq (.seq .leaf (.cond .leaf .leaf)) (.seq (.block (.seq .leaf (.seq .leaf (.block (.seq (.seq .leaf (.cond .leaf (.seq .leaf (.cond .leaf .leaf)))) (.sub (fun fr σ => c178_4 run fu s2 (G fr 0) (G fr 3) (G fr 4) (G fr 5) (G fr 6) (G fr 7) (G fr 40) σ))))))) (.sub (fun fr σ => c178_3 run fu s2 (G fr 0) (G fr 3) (G fr 4) (G fr 5) (G fr 6) σ)))) (subC [true, true, true, true, true, true, false, true, false, false] b178) (frS 0 47 [(0, x0), (3, x3), (4, x4), (5, x5), (6, x6)]) σ (thenK (fun fr σ => s2 (G fr 0) (G fr 3) (G fr 4) (G fr 5) (G fr 6) σ) (blockK 0 (thenK (fun fr σ => c178_1 run fu (G fr 3) (G fr 5) σ) k178))) = c178_2b run fu s2 x0 x3 x4 x5 x6 σ := by kernel_rfl

theorem owed178_2 {run : RunT} (hrun : RunOK X0 run) (fu : Nat) (s2 : W5) : Owes X0 run 47 (.seq (.seq .leaf (.cond .leaf .leaf)) (.seq (.block (.seq .leaf (.seq .leaf (.block (.seq (.seq .leaf (.cond .leaf (.seq .leaf (.cond .leaf .leaf)))) (.sub (fun fr σ => c178_4 run fu s2 (G fr 0) (G fr 3) (G fr 4) (G fr 5) (G fr 6) (G fr 7) (G fr 40) σ))))))) (.sub (fun fr σ => c178_3 run fu s2 (G fr 0) (G fr 3) (G fr 4) (G fr 5) (G fr 6) σ)))) (subC [true, true, true, true, true, true, false, true, false, false] b178) (thenK (fun fr σ => s2 (G fr 0) (G fr 3) (G fr 4) (G fr 5) (G fr 6) σ) (blockK 0 (thenK (fun fr σ => c178_1 run fu (G fr 3) (G fr 5) σ) k178))) :=
  ⟨⟨trivial, ⟨trivial, trivial⟩⟩, ⟨⟨trivial, ⟨trivial, ⟨⟨trivial, ⟨trivial, ⟨trivial, ⟨trivial, trivial⟩⟩⟩⟩, (ok178_4 hrun fu s2)⟩⟩⟩, (ok178_3 hrun fu s2)⟩⟩

theorem ok178_2 {run : RunT} (hrun : RunOK X0 run) (fu : Nat) : ∀ fr σ, KOK X0 47 (subC [true, true, true, true, true, true, false, true, false] b178) fr σ ((fun fr σ => c178_2 run fu fu (G fr 0) (G fr 3) (G fr 4) (G fr 5) (G fr 6) σ) fr σ) (blockK 0 (thenK (fun fr σ => c178_1 run fu (G fr 3) (G fr 5) σ) k178)) := by
  have h := KOK.loop (X := X0) (N := 47) (b := (subC [true, true, true, true, true, true, false, true, false, false] b178)) (k := (blockK 0 (thenK (fun fr σ => c178_1 run fu (G fr 3) (G fr 5) σ) k178))) (u := fun m fr σ => c178_2 run fu m (G fr 0) (G fr 3) (G fr 4) (G fr 5) (G fr 6) σ) (fun _ _ => rfl) (fun m fr σ => KOK.piece env0 hrun [0, 3, 4, 5, 6] (eq178_2 run fu (c178_2 run fu m) (G fr 0) (G fr 3) (G fr 4) (G fr 5) (G fr 6) σ) (owed178_2 hrun fu (c178_2 run fu m)))
  exact fun fr σ => h fu fr σ

noncomputable def c178_8 (run : RunT) (fu : Nat) (s2 : W5) (x0 x3 x4 x5 x6 : AV) (σ : Store) : Tr R :=
  addK x6 (.int .i64 1) fun x21 =>
  s2 x0 x3 x4 x5 x21 σ

theorem eq178_8 (run : RunT) (fu : Nat) (s2 : W5) (x0 x3 x4 x5 x6 : AV) (σ : Store) : codeK X0 run .leaf (subC [true, true, true, true, true, true, false, true, false, false, true, true] b178) (frS 0 47 [(0, x0), (3, x3), (4, x4), (5, x5), (6, x6)]) σ (thenK (fun fr σ => s2 (G fr 0) (G fr 3) (G fr 4) (G fr 5) (G fr 6) σ) failK) = c178_8 run fu s2 x0 x3 x4 x5 x6 σ := by kernel_rfl

theorem ok178_8 {run : RunT} (hrun : RunOK X0 run) (fu : Nat) (s2 : W5) : ∀ fr σ, KOK X0 47 (subC [true, true, true, true, true, true, false, true, false, false, true, true] b178) fr σ ((fun fr σ => c178_8 run fu s2 (G fr 0) (G fr 3) (G fr 4) (G fr 5) (G fr 6) σ) fr σ) (thenK (fun fr σ => s2 (G fr 0) (G fr 3) (G fr 4) (G fr 5) (G fr 6) σ) failK) := fun fr σ =>
  KOK.piece env0 hrun [0, 3, 4, 5, 6] (eq178_8 run fu s2 (G fr 0) (G fr 3) (G fr 4) (G fr 5) (G fr 6) σ) trivial

noncomputable def c178_12 (run : RunT) (fu : Nat) (s2 : W5) (x0 x3 x4 x5 x6 x7 : AV) (σ : Store) : Tr R :=
  calK run 85 [x3, x7] σ fun x39 σ1 =>
  c178_8 run fu s2 x0 x3 x4 x5 x6 σ1

theorem eq178_12 (run : RunT) (fu : Nat) (s2 : W5) (x0 x3 x4 x5 x6 x7 : AV) (σ : Store) : codeK X0 run .leaf (subC [true, true, true, true, true, true, false, true, false, false, true, false, false, true, true, false, true, true, true, true, true] b178) (frS 0 47 [(0, x0), (3, x3), (4, x4), (5, x5), (6, x6), (7, x7)]) σ (blockK 2 (blockK 1 (thenK (fun fr σ => c178_8 run fu s2 (G fr 0) (G fr 3) (G fr 4) (G fr 5) (G fr 6) σ) (thenK (fun fr σ => s2 (G fr 0) (G fr 3) (G fr 4) (G fr 5) (G fr 6) σ) failK)))) = c178_12 run fu s2 x0 x3 x4 x5 x6 x7 σ := by kernel_rfl

theorem ok178_12 {run : RunT} (hrun : RunOK X0 run) (fu : Nat) (s2 : W5) : ∀ fr σ, KOK X0 47 (subC [true, true, true, true, true, true, false, true, false, false, true, false, false, true, true, false, true, true, true, true, true] b178) fr σ ((fun fr σ => c178_12 run fu s2 (G fr 0) (G fr 3) (G fr 4) (G fr 5) (G fr 6) (G fr 7) σ) fr σ) (blockK 2 (blockK 1 (thenK (fun fr σ => c178_8 run fu s2 (G fr 0) (G fr 3) (G fr 4) (G fr 5) (G fr 6) σ) (thenK (fun fr σ => s2 (G fr 0) (G fr 3) (G fr 4) (G fr 5) (G fr 6) σ) failK)))) := fun fr σ =>
  KOK.piece env0 hrun [0, 3, 4, 5, 6, 7] (eq178_12 run fu s2 (G fr 0) (G fr 3) (G fr 4) (G fr 5) (G fr 6) (G fr 7) σ) trivial

noncomputable def c178_11 (run : RunT) (fu : Nat) (s2 : W5) (x0 x3 x4 x5 x6 x7 : AV) (σ : Store) : Tr R :=
  cmpK .geq x7 (.int .u8 128) fun x37 =>
  ifK x37 (
  c178_12 run fu s2 x0 x3 x4 (.bool true) x6 x7 σ) (
  c178_12 run fu s2 x0 x3 x4 x5 x6 x7 σ)

theorem eq178_11 (run : RunT) (fu : Nat) (s2 : W5) (x0 x3 x4 x5 x6 x7 : AV) (σ : Store) : codeK X0 run (.seq (.seq .leaf (.cond .leaf .leaf)) (.sub (fun fr σ => c178_12 run fu s2 (G fr 0) (G fr 3) (G fr 4) (G fr 5) (G fr 6) (G fr 7) σ))) (subC [true, true, true, true, true, true, false, true, false, false, true, false, false, true, true, false, true, true, true, true] b178) (frS 0 47 [(0, x0), (3, x3), (4, x4), (5, x5), (6, x6), (7, x7)]) σ (blockK 2 (blockK 1 (thenK (fun fr σ => c178_8 run fu s2 (G fr 0) (G fr 3) (G fr 4) (G fr 5) (G fr 6) σ) (thenK (fun fr σ => s2 (G fr 0) (G fr 3) (G fr 4) (G fr 5) (G fr 6) σ) failK)))) = c178_11 run fu s2 x0 x3 x4 x5 x6 x7 σ := by kernel_rfl

theorem ok178_11 {run : RunT} (hrun : RunOK X0 run) (fu : Nat) (s2 : W5) : ∀ fr σ, KOK X0 47 (subC [true, true, true, true, true, true, false, true, false, false, true, false, false, true, true, false, true, true, true, true] b178) fr σ ((fun fr σ => c178_11 run fu s2 (G fr 0) (G fr 3) (G fr 4) (G fr 5) (G fr 6) (G fr 7) σ) fr σ) (blockK 2 (blockK 1 (thenK (fun fr σ => c178_8 run fu s2 (G fr 0) (G fr 3) (G fr 4) (G fr 5) (G fr 6) σ) (thenK (fun fr σ => s2 (G fr 0) (G fr 3) (G fr 4) (G fr 5) (G fr 6) σ) failK)))) := fun fr σ =>
  KOK.piece env0 hrun [0, 3, 4, 5, 6, 7] (eq178_11 run fu s2 (G fr 0) (G fr 3) (G fr 4) (G fr 5) (G fr 6) (G fr 7) σ) ⟨⟨trivial, ⟨trivial, trivial⟩⟩, (ok178_12 hrun fu s2)⟩

noncomputable def c178_10 (run : RunT) (fu : Nat) (s2 : W5) (x0 x3 x4 x5 x6 x7 : AV) (σ : Store) : Tr R :=
  cmpK .leq (.int .u8 65) x7 fun x29 =>
  grdK x29 true σ (fun f => f x7 σ) fun x31 σ1 =>
  grdK x29 true σ1 (fun f => cmpK .leq x31 (.int .u8 90) fun v => f v σ1) fun x32 σ2 =>
  pickK x29 x32 (.bool false) fun x33 =>
  ifK x33 (
  addK x7 (.int .u8 32) fun x35 =>
  c178_11 run fu s2 x0 x3 x4 x5 x6 x35 σ2) (
  c178_11 run fu s2 x0 x3 x4 x5 x6 x7 σ2)

theorem eq178_10 (run : RunT) (fu : Nat) (s2 : W5) (x0 x3 x4 x5 x6 x7 : AV) (σ : Store) : codeK X0 run (.seq (.seq .leaf (.cond .leaf .leaf)) (.sub (fun fr σ => c178_11 run fu s2 (G fr 0) (G fr 3) (G fr 4) (G fr 5) (G fr 6) (G fr 7) σ))) (subC [true, true, true, true, true, true, false, true, false, false, true, false, false, true, true, false, true, true, true] b178) (frS 0 47 [(0, x0), (3, x3), (4, x4), (5, x5), (6, x6), (7, x7)]) σ (blockK 2 (blockK 1 (thenK (fun fr σ => c178_8 run fu s2 (G fr 0) (G fr 3) (G fr 4) (G fr 5) (G fr 6) σ) (thenK (fun fr σ => s2 (G fr 0) (G fr 3) (G fr 4) (G fr 5) (G fr 6) σ) failK)))) = c178_10 run fu s2 x0 x3 x4 x5 x6 x7 σ := by kernel_rfl

theorem ok178_10 {run : RunT} (hrun : RunOK X0 run) (fu : Nat) (s2 : W5) : ∀ fr σ, KOK X0 47 (subC [true, true, true, true, true, true, false, true, false, false, true, false, false, true, true, false, true, true, true] b178) fr σ ((fun fr σ => c178_10 run fu s2 (G fr 0) (G fr 3) (G fr 4) (G fr 5) (G fr 6) (G fr 7) σ) fr σ) (blockK 2 (blockK 1 (thenK (fun fr σ => c178_8 run fu s2 (G fr 0) (G fr 3) (G fr 4) (G fr 5) (G fr 6) σ) (thenK (fun fr σ => s2 (G fr 0) (G fr 3) (G fr 4) (G fr 5) (G fr 6) σ) failK)))) := fun fr σ =>
  KOK.piece env0 hrun [0, 3, 4, 5, 6, 7] (eq178_10 run fu s2 (G fr 0) (G fr 3) (G fr 4) (G fr 5) (G fr 6) (G fr 7) σ) ⟨⟨trivial, ⟨trivial, trivial⟩⟩, (ok178_11 hrun fu s2)⟩

noncomputable def c178_9 (run : RunT) (fu : Nat) (s2 : W5) (x0 x3 x4 x5 x6 x7 x40 : AV) (σ : Store) : Tr R :=
  ifK x40 (
  c178_8 run fu s2 x0 x3 (.bool true) x5 x6 σ) (
  ifK x4 (
  calK run 85 [x3, (.int .u8 32)] σ fun x27 σ1 =>
  c178_10 run fu s2 x0 x3 (.bool false) x5 x6 x7 σ1) (
  c178_10 run fu s2 x0 x3 x4 x5 x6 x7 σ))

theorem eq178_9 (run : RunT) (fu : Nat) (s2 : W5) (x0 x3 x4 x5 x6 x7 x40 : AV) (σ : Store) : codeK X0 run (.cond (.seq .leaf .leaf) (.seq (.seq .leaf (.cond (.seq .leaf .leaf) .leaf)) (.sub (fun fr σ => c178_10 run fu s2 (G fr 0) (G fr 3) (G fr 4) (G fr 5) (G fr 6) (G fr 7) σ)))) (subC [true, true, true, true, true, true, false, true, false, false, true, false, false, true, true, false, true] b178) (frS 0 47 [(0, x0), (3, x3), (4, x4), (5, x5), (6, x6), (7, x7), (40, x40)]) σ (blockK 2 (blockK 1 (thenK (fun fr σ => c178_8 run fu s2 (G fr 0) (G fr 3) (G fr 4) (G fr 5) (G fr 6) σ) (thenK (fun fr σ => s2 (G fr 0) (G fr 3) (G fr 4) (G fr 5) (G fr 6) σ) failK)))) = c178_9 run fu s2 x0 x3 x4 x5 x6 x7 x40 σ := by kernel_rfl

theorem ok178_9 {run : RunT} (hrun : RunOK X0 run) (fu : Nat) (s2 : W5) : ∀ fr σ, KOK X0 47 (subC [true, true, true, true, true, true, false, true, false, false, true, false, false, true, true, false, true] b178) fr σ ((fun fr σ => c178_9 run fu s2 (G fr 0) (G fr 3) (G fr 4) (G fr 5) (G fr 6) (G fr 7) (G fr 40) σ) fr σ) (blockK 2 (blockK 1 (thenK (fun fr σ => c178_8 run fu s2 (G fr 0) (G fr 3) (G fr 4) (G fr 5) (G fr 6) σ) (thenK (fun fr σ => s2 (G fr 0) (G fr 3) (G fr 4) (G fr 5) (G fr 6) σ) failK)))) := fun fr σ =>
  KOK.piece env0 hrun [0, 3, 4, 5, 6, 7, 40] (eq178_9 run fu s2 (G fr 0) (G fr 3) (G fr 4) (G fr 5) (G fr 6) (G fr 7) (G fr 40) σ) ⟨⟨trivial, trivial⟩, ⟨⟨trivial, ⟨⟨trivial, trivial⟩, trivial⟩⟩, (ok178_10 hrun fu s2)⟩⟩

noncomputable def c178_2x (run : RunT) (fu : Nat) (s2 : W5) (x0 x3 x4 x5 x6 : AV) (σ : Store) : Tr R :=
  lenSK x0 fun x18 =>
  cmpK .lss x6 x18 fun x19 =>
  ifK x19 (
  idxSK x0 x6 fun x24 =>
  cmpK .eql x24 (.int .u8 32) fun x41 =>
  ifK x41 (
  c178_9 run fu s2 x0 x3 x4 x5 x6 x24 x41 σ) (
  cmpK .eql x24 (.int .u8 9) fun x42 =>
  ifK x42 (
  c178_9 run fu s2 x0 x3 x4 x5 x6 x24 x42 σ) (
  cmpK .eql x24 (.int .u8 10) fun x43 =>
  c178_9 run fu s2 x0 x3 x4 x5 x6 x24 x43 σ))) (
  .fail)

theorem eq178_2x (run : RunT) (fu : Nat) (s2 : W5) (x0 x3 x4 x5 x6 : AV) (σ : Store) : codeK X0 run (.seq (.seq .leaf (.cond .leaf .leaf)) (.seq (.block (.seq .leaf (.seq .leaf (.block (.seq (.seq .leaf (.cond .leaf (.seq .leaf (.cond .leaf .leaf)))) (.sub (fun fr σ => c178_9 run fu s2 (G fr 0) (G fr 3) (G fr 4) (G fr 5) (G fr 6) (G fr 7) (G fr 40) σ))))))) (.sub (fun fr σ => c178_8 run fu s2 (G fr 0) (G fr 3) (G fr 4) (G fr 5) (G fr 6) σ)))) (subC [true, true, true, true, true, true, false, true, false, false] b178) (frS 0 47 [(0, x0), (3, x3), (4, x4), (5, x5), (6, x6)]) σ (thenK (fun fr σ => s2 (G fr 0) (G fr 3) (G fr 4) (G fr 5) (G fr 6) σ) failK) = c178_2x run fu s2 x0 x3 x4 x5 x6 σ := by kernel_rfl

theorem owed178_2x {run : RunT} (hrun : RunOK X0 run) (fu : Nat) (s2 : W5) : Owes X0 run 47 (.seq (.seq .leaf (.cond .leaf .leaf)) (.seq (.block (.seq .leaf (.seq .leaf (.block (.seq (.seq .leaf (.cond .leaf (.seq .leaf (.cond .leaf .leaf)))) (.sub (fun fr σ => c178_9 run fu s2 (G fr 0) (G fr 3) (G fr 4) (G fr 5) (G fr 6) (G fr 7) (G fr 40) σ))))))) (.sub (fun fr σ => c178_8 run fu s2 (G fr 0) (G fr 3) (G fr 4) (G fr 5) (G fr 6) σ)))) (subC [true, true, true, true, true, true, false, true, false, false] b178) (thenK (fun fr σ => s2 (G fr 0) (G fr 3) (G fr 4) (G fr 5) (G fr 6) σ) failK) :=
  ⟨⟨trivial, ⟨trivial, trivial⟩⟩, ⟨⟨trivial, ⟨trivial, ⟨⟨trivial, ⟨trivial, ⟨trivial, ⟨trivial, trivial⟩⟩⟩⟩, (ok178_9 hrun fu s2)⟩⟩⟩, (ok178_8 hrun fu s2)⟩⟩

noncomputable def c178_2s (run : RunT) (fu : Nat) : Nat → List AV → Store → Tr R :=
  sweepN 1 (sweepC 1 1 5 (sweepR (planOf (some 1) 0 4 [] [] [] [101]) (planR 101 0 5) (fun t2 xs σ => c178_2b run fu (fun y0 y3 y4 y5 y6 σ => t2 [y0, y3, y4, y5, y6] σ) (xs.getD 0 .any) (xs.getD 1 .any) (xs.getD 2 .any) (xs.getD 3 .any) (xs.getD 4 .any) σ) (fun t2 xs σ => c178_2x run fu (fun y0 y3 y4 y5 y6 σ => t2 [y0, y3, y4, y5, y6] σ) (xs.getD 0 .any) (xs.getD 1 .any) (xs.getD 2 .any) (xs.getD 3 .any) (xs.getD 4 .any) σ)))

theorem ok178_2s {run : RunT} (hrun : RunOK X0 run) (fu : Nat) : ∀ fr σ, KOK X0 47 (subC [true, true, true, true, true, true, false, true, false] b178) fr σ ((fun fr σ => c178_2s run fu fu [fr.getD 0 .any, fr.getD 3 .any, fr.getD 4 .any, fr.getD 5 .any, fr.getD 6 .any] σ) fr σ) (blockK 0 (thenK (fun fr σ => c178_1 run fu (G fr 3) (G fr 5) σ) k178)) := by
  have h := KOK.sweepN 1 (KOK.sweepC 1 1 5 (KOK.sweepRow (X := X0) (N := 47) (b := (subC [true, true, true, true, true, true, false, true, false, false] b178)) (k := (blockK 0 (thenK (fun fr σ => c178_1 run fu (G fr 3) (G fr 5) σ) k178))) (js := [0, 3, 4, 5, 6]) (body := (fun t2 xs σ => c178_2b run fu (fun y0 y3 y4 y5 y6 σ => t2 [y0, y3, y4, y5, y6] σ) (xs.getD 0 .any) (xs.getD 1 .any) (xs.getD 2 .any) (xs.getD 3 .any) (xs.getD 4 .any) σ)) (bodyx := (fun t2 xs σ => c178_2x run fu (fun y0 y3 y4 y5 y6 σ => t2 [y0, y3, y4, y5, y6] σ) (xs.getD 0 .any) (xs.getD 1 .any) (xs.getD 2 .any) (xs.getD 3 .any) (xs.getD 4 .any) σ)) rfl (planOf (some 1) 0 4 [] [] [] [101]) (planR 101 0 5) (fun t2 fr σ => KOK.piece env0 hrun [0, 3, 4, 5, 6] (eq178_2 run fu (fun y0 y3 y4 y5 y6 σ => t2 [y0, y3, y4, y5, y6] σ) (G fr 0) (G fr 3) (G fr 4) (G fr 5) (G fr 6) σ) (owed178_2 hrun fu (fun y0 y3 y4 y5 y6 σ => t2 [y0, y3, y4, y5, y6] σ))) (fun t2 fr σ => KOK.piece env0 hrun [0, 3, 4, 5, 6] (eq178_2x run fu (fun y0 y3 y4 y5 y6 σ => t2 [y0, y3, y4, y5, y6] σ) (G fr 0) (G fr 3) (G fr 4) (G fr 5) (G fr 6) σ) (owed178_2x hrun fu (fun y0 y3 y4 y5 y6 σ => t2 [y0, y3, y4, y5, y6] σ)))))
  exact fun fr σ => h fu fr σ

noncomputable def c178 (run : RunT) (fu : Nat) (x0 : AV) (σ : Store) : Tr R :=
  calK run 86 [x0, (.str [91])] σ fun x9 σ1 =>
  grdK x9 false σ1 (fun f => f x0 σ1) fun x11 σ2 =>
  grdK x9 false σ2 (fun f => calK run 86 [x11, (.str [93])] σ2 f) fun x12 σ3 =>
  pickK x9 (.bool true) x12 fun x13 =>
  ifK x13 (
  .ret ((.str []), σ3)) (
  calK run 232 [x0] σ3 fun x15 σ4 =>
  newK σ4 129 [.nilp, .nils] fun x3 σ5 =>
  c178_2s run fu fu [x15, x3, (.bool false), (.bool false), (.int .i64 0)] σ5)

theorem eq178 (run : RunT) (fu : Nat) (x0 : AV) (σ : Store) : codeK X0 run (.seq .leaf (.seq (.seq .leaf (.cond (.seq .leaf .leaf) .leaf)) (.seq .leaf (.seq .leaf (.seq .leaf (.seq .leaf (.seq (.seq .leaf (.block (.sub (fun fr σ => c178_2s run fu fu [fr.getD 0 .any, fr.getD 3 .any, fr.getD 4 .any, fr.getD 5 .any, fr.getD 6 .any] σ)))) (.sub (fun fr σ => c178_1 run fu (G fr 3) (G fr 5) σ))))))))) (subC [] b178) ([x0] ++ padA (47 - 1)) σ k178 = c178 run fu x0 σ := by kernel_rfl

theorem ok178 {run : RunT} (hrun : RunOK X0 run) (fu : Nat) (x0 : AV) (σ : Store) : CallOK X0 178 [x0] σ (c178 run fu x0 σ) :=
  KOK.body (fn := Tryz.f178) (c := subC [] b178) (by kernel_rfl) (by kernel_rfl) (by show 1 ≤ 47; decide) (KOK.whole env0 hrun (eq178 run fu x0 σ) ⟨trivial, ⟨⟨trivial, ⟨⟨trivial, trivial⟩, trivial⟩⟩, ⟨trivial, ⟨trivial, ⟨trivial, ⟨trivial, ⟨⟨trivial, (ok178_2s hrun fu)⟩, (ok178_1 hrun fu)⟩⟩⟩⟩⟩⟩⟩)

-- strings.HasPrefix

noncomputable def b179 : Code := match Tryz.f179.body with | some c => c | none => .skip

noncomputable def k179 : Kont R := retK Tryz.prog [.tmp 4]

noncomputable def c179 (run : RunT) (fu : Nat) (x0 x1 : AV) (σ : Store) : Tr R :=
  calK run 233 [x0, x1] σ fun x7 σ1 =>
  .ret (x7, σ1)

theorem eq179 (run : RunT) (fu : Nat) (x0 x1 : AV) (σ : Store) : codeK X0 run (.seq .leaf (.seq .leaf .leaf)) (subC [] b179) ([x0, x1] ++ padA (8 - 2)) σ k179 = c179 run fu x0 x1 σ := by kernel_rfl

theorem ok179 {run : RunT} (hrun : RunOK X0 run) (fu : Nat) (x0 x1 : AV) (σ : Store) : CallOK X0 179 [x0, x1] σ (c179 run fu x0 x1 σ) :=
  KOK.body (fn := Tryz.f179) (c := subC [] b179) (by kernel_rfl) (by kernel_rfl) (by show 2 ≤ 8; decide) (KOK.whole env0 hrun (eq179 run fu x0 x1 σ) ⟨trivial, ⟨trivial, trivial⟩⟩)

-- pub-paratext/pub/rscmarkdown.trimQuote

noncomputable def b186 : Code := match Tryz.f186.body with | some c => c | none => .skip

noncomputable def k186 : Kont R := retK Tryz.prog [.cell 2 187, .tmp 3]

noncomputable def c186 (run : RunT) (fu : Nat) (x0 : AV) (σ : Store) : Tr R :=
  boxK σ 375 x0 fun x1 σ1 =>
  newK σ1 375 [(.int .i64 0), (.int .i64 0), (.int .i64 0), (.str []), (.int .u8 0)] fun x2 σ2 =>
  ldNK σ2 x1 5 fun x5 =>
  newK σ2 375 [(.int .i64 0), (.int .i64 0), (.int .i64 0), (.str []), (.int .u8 0)] fun x4 σ3 =>
  stNK σ3 x4 5 x5 fun _ σ4 =>
  calK run 205 [x4, (.int .i64 0), (.int .i64 3), (.bool false)] σ4 fun x6 σ5 =>
  calK run 238 [x4, (.int .u8 62)] σ5 fun x7 σ6 =>
  notK x7 fun x8 =>
  ifK x8 (
  ldNK σ6 x1 5 fun x9 =>
  stNK σ6 x2 5 x9 fun _ σ7 =>
  ldNK σ7 x2 5 fun v8 =>
  .ret (.tup [v8, (.bool false)], σ7)) (
  .fail)

theorem eq186 (run : RunT) (fu : Nat) (x0 : AV) (σ : Store) : codeK X0 run (.seq .leaf (.seq .leaf (.seq .leaf (.seq (.seq .leaf (.cond (.seq .leaf .leaf) (.sub deadK))) .leaf)))) (subC [] b186) ([x0] ++ padA (12 - 1)) σ k186 = c186 run fu x0 σ := by kernel_rfl

theorem ok186 {run : RunT} (hrun : RunOK X0 run) (fu : Nat) (x0 : AV) (σ : Store) : CallOK X0 186 [x0] σ (c186 run fu x0 σ) :=
  KOK.body (fn := Tryz.f186) (c := subC [] b186) (by kernel_rfl) (by kernel_rfl) (by show 1 ≤ 12; decide) (KOK.whole env0 hrun (eq186 run fu x0 σ) ⟨trivial, ⟨trivial, ⟨trivial, ⟨⟨trivial, ⟨⟨trivial, trivial⟩, KOK.dead⟩⟩, trivial⟩⟩⟩⟩)

-- (*pub-paratext/pub/rscmarkdown.line).trimHeading

noncomputable def b187 : Code := match Tryz.f187.body with | some c => c | none => .skip

noncomputable def k187 : Kont R := retK Tryz.prog [.tmp 4]

noncomputable def c187 (run : RunT) (fu : Nat) (x0 x1 : AV) (σ : Store) : Tr R :=
  nchkK x0 fun x8 =>
  ldNK σ x8 5 fun x9 =>
  newK σ 375 [(.int .i64 0), (.int .i64 0), (.int .i64 0), (.str []), (.int .u8 0)] fun x5 σ1 =>
  stNK σ1 x5 5 x9 fun _ σ2 =>
  calK run 205 [x5, (.int .i64 0), (.int .i64 3), (.bool false)] σ2 fun x10 σ3 =>
  calK run 238 [x5, (.int .u8 35)] σ3 fun x11 σ4 =>
  notK x11 fun x12 =>
  ifK x12 (
  .ret ((.bool false), σ4)) (
  .fail)

theorem eq187 (run : RunT) (fu : Nat) (x0 x1 : AV) (σ : Store) : codeK X0 run (.seq .leaf (.seq .leaf (.seq .leaf (.seq (.seq .leaf (.cond (.seq .leaf .leaf) (.sub deadK))) .leaf)))) (subC [] b187) ([x0, x1] ++ padA (28 - 2)) σ k187 = c187 run fu x0 x1 σ := by kernel_rfl

theorem ok187 {run : RunT} (hrun : RunOK X0 run) (fu : Nat) (x0 x1 : AV) (σ : Store) : CallOK X0 187 [x0, x1] σ (c187 run fu x0 x1 σ) :=
  KOK.body (fn := Tryz.f187) (c := subC [] b187) (by kernel_rfl) (by kernel_rfl) (by show 2 ≤ 28; decide) (KOK.whole env0 hrun (eq187 run fu x0 x1 σ) ⟨trivial, ⟨trivial, ⟨trivial, ⟨⟨trivial, ⟨⟨trivial, trivial⟩, KOK.dead⟩⟩, trivial⟩⟩⟩⟩)

-- (*pub-paratext/pub/rscmarkdown.parseState).newText

noncomputable def b194 : Code := match Tryz.f194.body with | some c => c | none => .skip

noncomputable def k194 : Kont R := retK Tryz.prog [.tmp 6]

noncomputable def c194 (run : RunT) (fu : Nat) (x0 x1 x2 : AV) (σ : Store) : Tr R :=
  boxK σ 191 x1 fun x4 σ1 =>
  ldNK σ1 x4 2 fun x8 =>
  bldK [(.int .i64 0), (.int .i64 0), .nils, (.str [])] [(0, 2, x8), (3, 1, x2)] fun x10 =>
  boxK σ1 257 x10 fun x11 σ2 =>
  nchkK x0 fun x14 =>
  addrK x14 11 fun x15 =>
  ld1K σ2 x15 fun x16 =>
  opt (fillK [.nilp] [(0, 1, x11)]) fun cs => newSK σ2 247 cs 1 1 fun x18 σ3 =>
  appK 123 1 8 σ3 x16 x18 fun x19 σ4 =>
  nchkK x0 fun x20 =>
  addrK x20 11 fun x21 =>
  st1K σ4 x21 x19 fun _ σ5 =>
  .ret (x11, σ5)

theorem eq194 (run : RunT) (fu : Nat) (x0 x1 x2 : AV) (σ : Store) : codeK X0 run (.seq .leaf (.seq .leaf (.seq .leaf (.seq .leaf .leaf)))) (subC [] b194) ([x0, x1, x2] ++ padA (23 - 3)) σ k194 = c194 run fu x0 x1 x2 σ := by kernel_rfl

theorem ok194 {run : RunT} (hrun : RunOK X0 run) (fu : Nat) (x0 x1 x2 : AV) (σ : Store) : CallOK X0 194 [x0, x1, x2] σ (c194 run fu x0 x1 x2 σ) :=
  KOK.body (fn := Tryz.f194) (c := subC [] b194) (by kernel_rfl) (by kernel_rfl) (by show 3 ≤ 23; decide) (KOK.whole env0 hrun (eq194 run fu x0 x1 x2 σ) ⟨trivial, ⟨trivial, ⟨trivial, ⟨trivial, trivial⟩⟩⟩⟩)

-- (*pub-paratext/pub/rscmarkdown.parseState).nextB

noncomputable def b195 : Code := match Tryz.f195.body with | some c => c | none => .skip

noncomputable def k195 : Kont R := retK Tryz.prog [.tmp 2]

noncomputable def c195 (run : RunT) (fu : Nat) (x0 : AV) (σ : Store) : Tr R :=
  nchkK x0 fun x4 =>
  addrK x4 5 fun x5 =>
  ld1K σ x5 fun x6 =>
  addK x6 (.int .i64 1) fun x7 =>
  nchkK x0 fun x9 =>
  addrK x9 4 fun x10 =>
  ld1K σ x10 fun x11 =>
  lenLK x11 fun x12 =>
  cmpK .lss x7 x12 fun x13 =>
  ifK x13 (
  nchkK x0 fun x15 =>
  addrK x15 4 fun x16 =>
  ld1K σ x16 fun x17 =>
  nchkK x0 fun x19 =>
  addrK x19 5 fun x20 =>
  ld1K σ x20 fun x21 =>
  addK x21 (.int .i64 1) fun x22 =>
  idxK 4 x17 x22 fun x23 =>
  addrK x23 0 fun x24 =>
  ld1K σ x24 fun x25 =>
  .ret (x25, σ)) (
  .ret (.nili, σ))

theorem eq195 (run : RunT) (fu : Nat) (x0 : AV) (σ : Store) : codeK X0 run (.seq .leaf (.seq (.seq .leaf (.cond (.seq .leaf .leaf) .leaf)) (.seq .leaf .leaf))) (subC [] b195) ([x0] ++ padA (26 - 1)) σ k195 = c195 run fu x0 σ := by kernel_rfl

theorem ok195 {run : RunT} (hrun : RunOK X0 run) (fu : Nat) (x0 : AV) (σ : Store) : CallOK X0 195 [x0] σ (c195 run fu x0 σ) :=
  KOK.body (fn := Tryz.f195) (c := subC [] b195) (by kernel_rfl) (by kernel_rfl) (by show 1 ≤ 26; decide) (KOK.whole env0 hrun (eq195 run fu x0 σ) ⟨trivial, ⟨⟨trivial, ⟨⟨trivial, trivial⟩, trivial⟩⟩, ⟨trivial, trivial⟩⟩⟩)

-- (*pub-paratext/pub/rscmarkdown.line).trimSetext

noncomputable def b196 : Code := match Tryz.f196.body with | some c => c | none => .skip

noncomputable def k196 : Kont R := retK Tryz.prog [.tmp 4]

noncomputable def c196_1 (run : RunT) (fu : Nat) (σ : Store) : Tr R :=
  .ret ((.bool false), σ)

theorem eq196_1 (run : RunT) (fu : Nat) (σ : Store) : codeK X0 run (.seq .leaf .leaf) (subC [true, true, true, true, true] b196) (frS 0 28 []) σ k196 = c196_1 run fu σ := by kernel_rfl

theorem ok196_1 {run : RunT} (hrun : RunOK X0 run) (fu : Nat) : ∀ fr σ, KOK X0 28 (subC [true, true, true, true, true] b196) fr σ ((fun fr σ => c196_1 run fu σ) fr σ) k196 := fun fr σ =>
  KOK.piece env0 hrun [] (eq196_1 run fu σ) ⟨trivial, trivial⟩

noncomputable def c196 (run : RunT) (fu : Nat) (x0 x1 : AV) (σ : Store) : Tr R :=
  nchkK x0 fun x8 =>
  ldNK σ x8 5 fun x9 =>
  newK σ 375 [(.int .i64 0), (.int .i64 0), (.int .i64 0), (.str []), (.int .u8 0)] fun x5 σ1 =>
  stNK σ1 x5 5 x9 fun _ σ2 =>
  calK run 205 [x5, (.int .i64 0), (.int .i64 3), (.bool false)] σ2 fun x10 σ3 =>
  calK run 240 [x5] σ3 fun x11 σ4 =>
  cmpK .eql x11 (.int .u8 45) fun x13 =>
  grdK x13 false σ4 (fun f => f x11 σ4) fun x15 σ5 =>
  grdK x13 false σ5 (fun f => cmpK .eql x15 (.int .u8 61) fun v => f v σ5) fun x16 σ6 =>
  pickK x13 (.bool true) x16 fun x17 =>
  ifK x17 (
  .fail) (
  c196_1 run fu σ6)

theorem eq196 (run : RunT) (fu : Nat) (x0 x1 : AV) (σ : Store) : codeK X0 run (.seq .leaf (.seq .leaf (.seq .leaf (.seq .leaf (.seq (.seq .leaf (.cond (.sub deadK) .leaf)) (.sub (fun fr σ => c196_1 run fu σ))))))) (subC [] b196) ([x0, x1] ++ padA (28 - 2)) σ k196 = c196 run fu x0 x1 σ := by kernel_rfl

theorem ok196 {run : RunT} (hrun : RunOK X0 run) (fu : Nat) (x0 x1 : AV) (σ : Store) : CallOK X0 196 [x0, x1] σ (c196 run fu x0 x1 σ) :=
  KOK.body (fn := Tryz.f196) (c := subC [] b196) (by kernel_rfl) (by kernel_rfl) (by show 2 ≤ 28; decide) (KOK.whole env0 hrun (eq196 run fu x0 x1 σ) ⟨trivial, ⟨trivial, ⟨trivial, ⟨trivial, ⟨⟨trivial, ⟨KOK.dead, trivial⟩⟩, (ok196_1 hrun fu)⟩⟩⟩⟩⟩)

-- pub-paratext/pub/rscmarkdown.isHR

noncomputable def b199 : Code := match Tryz.f199.body with | some c => c | none => .skip

noncomputable def k199 : Kont R := retK Tryz.prog [.tmp 2]

noncomputable def c199_1 (run : RunT) (fu : Nat) (σ : Store) : Tr R :=
  .ret ((.bool false), σ)

theorem eq199_1 (run : RunT) (fu : Nat) (σ : Store) : codeK X0 run (.seq .leaf .leaf) (subC [true, true, true, true] b199) (frS 0 23 []) σ k199 = c199_1 run fu σ := by kernel_rfl

theorem ok199_1 {run : RunT} (hrun : RunOK X0 run) (fu : Nat) : ∀ fr σ, KOK X0 23 (subC [true, true, true, true] b199) fr σ ((fun fr σ => c199_1 run fu σ) fr σ) k199 := fun fr σ =>
  KOK.piece env0 hrun [] (eq199_1 run fu σ) ⟨trivial, trivial⟩

noncomputable def c199_2 (run : RunT) (fu : Nat) (x3 x4 x10 : AV) (σ : Store) : Tr R :=
  ifK x10 (
  .fail) (
  c199_1 run fu σ)

theorem eq199_2 (run : RunT) (fu : Nat) (x3 x4 x10 : AV) (σ : Store) : codeK X0 run (.cond (.sub deadK) .leaf) (subC [true, true, true, false, true, true, false, true] b199) (frS 0 23 [(3, x3), (4, x4), (10, x10)]) σ (blockK 0 (thenK (fun fr σ => c199_1 run fu σ) k199)) = c199_2 run fu x3 x4 x10 σ := by kernel_rfl

theorem ok199_2 {run : RunT} (hrun : RunOK X0 run) (fu : Nat) : ∀ fr σ, KOK X0 23 (subC [true, true, true, false, true, true, false, true] b199) fr σ ((fun fr σ => c199_2 run fu (G fr 3) (G fr 4) (G fr 10) σ) fr σ) (blockK 0 (thenK (fun fr σ => c199_1 run fu σ) k199)) := fun fr σ =>
  KOK.piece env0 hrun [3, 4, 10] (eq199_2 run fu (G fr 3) (G fr 4) (G fr 10) σ) ⟨KOK.dead, trivial⟩

noncomputable def c199 (run : RunT) (fu : Nat) (x0 : AV) (σ : Store) : Tr R :=
  boxK σ 375 x0 fun x1 σ1 =>
  ldNK σ1 x1 5 fun x6 =>
  newK σ1 375 [(.int .i64 0), (.int .i64 0), (.int .i64 0), (.str []), (.int .u8 0)] fun x3 σ2 =>
  stNK σ2 x3 5 x6 fun _ σ3 =>
  calK run 205 [x3, (.int .i64 0), (.int .i64 3), (.bool false)] σ3 fun x7 σ4 =>
  calK run 240 [x3] σ4 fun x8 σ5 =>
  cmpK .eql x8 (.int .u8 45) fun x11 =>
  ifK x11 (
  .fail) (
  cmpK .eql x8 (.int .u8 95) fun x12 =>
  ifK x12 (
  .fail) (
  cmpK .eql x8 (.int .u8 42) fun x13 =>
  c199_2 run fu x3 x8 x13 σ5))

theorem eq199 (run : RunT) (fu : Nat) (x0 : AV) (σ : Store) : codeK X0 run (.seq .leaf (.seq .leaf (.seq .leaf (.seq (.seq .leaf (.seq .leaf (.block (.seq (.seq .leaf (.cond (.sub deadK) (.seq .leaf (.cond (.sub deadK) .leaf)))) (.sub (fun fr σ => c199_2 run fu (G fr 3) (G fr 4) (G fr 10) σ)))))) (.sub (fun fr σ => c199_1 run fu σ)))))) (subC [] b199) ([x0] ++ padA (23 - 1)) σ k199 = c199 run fu x0 σ := by kernel_rfl

theorem ok199 {run : RunT} (hrun : RunOK X0 run) (fu : Nat) (x0 : AV) (σ : Store) : CallOK X0 199 [x0] σ (c199 run fu x0 σ) :=
  KOK.body (fn := Tryz.f199) (c := subC [] b199) (by kernel_rfl) (by kernel_rfl) (by show 1 ≤ 23; decide) (KOK.whole env0 hrun (eq199 run fu x0 σ) ⟨trivial, ⟨trivial, ⟨trivial, ⟨⟨trivial, ⟨trivial, ⟨⟨trivial, ⟨KOK.dead, ⟨trivial, ⟨KOK.dead, trivial⟩⟩⟩⟩, (ok199_2 hrun fu)⟩⟩⟩, (ok199_1 hrun fu)⟩⟩⟩⟩)

-- (*pub-paratext/pub/rscmarkdown.parseState).curB

noncomputable def b200 : Code := match Tryz.f200.body with | some c => c | none => .skip

noncomputable def k200 : Kont R := retK Tryz.prog [.tmp 2]

noncomputable def c200 (run : RunT) (fu : Nat) (x0 : AV) (σ : Store) : Tr R :=
  nchkK x0 fun x4 =>
  addrK x4 5 fun x5 =>
  ld1K σ x5 fun x6 =>
  nchkK x0 fun x8 =>
  addrK x8 4 fun x9 =>
  ld1K σ x9 fun x10 =>
  lenLK x10 fun x11 =>
  cmpK .lss x6 x11 fun x12 =>
  ifK x12 (
  nchkK x0 fun x14 =>
  addrK x14 4 fun x15 =>
  ld1K σ x15 fun x16 =>
  nchkK x0 fun x18 =>
  addrK x18 5 fun x19 =>
  ld1K σ x19 fun x20 =>
  idxK 4 x16 x20 fun x21 =>
  addrK x21 0 fun x22 =>
  ld1K σ x22 fun x23 =>
  .ret (x23, σ)) (
  .fail)

theorem eq200 (run : RunT) (fu : Nat) (x0 : AV) (σ : Store) : codeK X0 run (.seq .leaf (.seq (.seq .leaf (.cond (.seq .leaf .leaf) (.sub deadK))) .leaf)) (subC [] b200) ([x0] ++ padA (24 - 1)) σ k200 = c200 run fu x0 σ := by kernel_rfl

theorem ok200 {run : RunT} (hrun : RunOK X0 run) (fu : Nat) (x0 : AV) (σ : Store) : CallOK X0 200 [x0] σ (c200 run fu x0 σ) :=
  KOK.body (fn := Tryz.f200) (c := subC [] b200) (by kernel_rfl) (by kernel_rfl) (by show 1 ≤ 24; decide) (KOK.whole env0 hrun (eq200 run fu x0 σ) ⟨trivial, ⟨⟨trivial, ⟨⟨trivial, trivial⟩, KOK.dead⟩⟩, trivial⟩⟩)

-- (*pub-paratext/pub/rscmarkdown.parseState).startListItem

noncomputable def b201 : Code := match Tryz.f201.body with | some c => c | none => .skip

noncomputable def k201 : Kont R := retK Tryz.prog [.tmp 4]

noncomputable def c201_2 (run : RunT) (fu : Nat) (x2 x5 x6 x8 x9 : AV) (σ : Store) : Tr R :=
  calK run 205 [x5, (.int .i64 1), (.int .i64 1), (.bool true)] σ fun x98 σ1 =>
  notK x98 fun x99 =>
  ifK x99 (
  .fail) (
  .fail)

theorem eq201_2 (run : RunT) (fu : Nat) (x2 x5 x6 x8 x9 : AV) (σ : Store) : codeK X0 run (.seq (.seq .leaf (.cond (.sub deadK) (.sub deadK))) .leaf) (subC [true, false, true, true, true, true, true, true, true] b201) (frS 0 181 [(2, x2), (5, x5), (6, x6), (8, x8), (9, x9)]) σ (noGotoK k201) = c201_2 run fu x2 x5 x6 x8 x9 σ := by kernel_rfl

theorem ok201_2 {run : RunT} (hrun : RunOK X0 run) (fu : Nat) : ∀ fr σ, KOK X0 181 (subC [true, false, true, true, true, true, true, true, true] b201) fr σ ((fun fr σ => c201_2 run fu (G fr 2) (G fr 5) (G fr 6) (G fr 8) (G fr 9) σ) fr σ) (noGotoK k201) := fun fr σ =>
  KOK.piece env0 hrun [2, 5, 6, 8, 9] (eq201_2 run fu (G fr 2) (G fr 5) (G fr 6) (G fr 8) (G fr 9) σ) ⟨⟨trivial, ⟨KOK.dead, KOK.dead⟩⟩, trivial⟩

noncomputable def c201_4 (run : RunT) (fu : Nat) (x2 x5 x6 x9 x40 : AV) (σ : Store) : Tr R :=
  ifK x40 (
  .fail) (
  .ret ((.bool false), σ))

theorem eq201_4 (run : RunT) (fu : Nat) (x2 x5 x6 x9 x40 : AV) (σ : Store) : codeK X0 run (.cond (.sub deadK) (.seq .leaf .leaf)) (subC [true, false, true, true, true, true, true, true, false, true, false, true, true, true] b201) (frS 0 181 [(2, x2), (5, x5), (6, x6), (9, x9), (40, x40)]) σ (blockK 2 (thenK (fun fr σ => c201_2 run fu (G fr 2) (G fr 5) (G fr 6) (G fr 8) (G fr 9) σ) (noGotoK k201))) = c201_4 run fu x2 x5 x6 x9 x40 σ := by kernel_rfl

theorem ok201_4 {run : RunT} (hrun : RunOK X0 run) (fu : Nat) : ∀ fr σ, KOK X0 181 (subC [true, false, true, true, true, true, true, true, false, true, false, true, true, true] b201) fr σ ((fun fr σ => c201_4 run fu (G fr 2) (G fr 5) (G fr 6) (G fr 9) (G fr 40) σ) fr σ) (blockK 2 (thenK (fun fr σ => c201_2 run fu (G fr 2) (G fr 5) (G fr 6) (G fr 8) (G fr 9) σ) (noGotoK k201))) := fun fr σ =>
  KOK.piece env0 hrun [2, 5, 6, 9, 40] (eq201_4 run fu (G fr 2) (G fr 5) (G fr 6) (G fr 9) (G fr 40) σ) ⟨KOK.dead, ⟨trivial, trivial⟩⟩

noncomputable def c201_3 (run : RunT) (fu : Nat) (x2 x5 x6 x8 x9 x31 x32 : AV) (σ : Store) : Tr R :=
  ifK x32 (
  .fail) (
  cmpK .eql x31 (.int .u8 48) fun x41 =>
  ifK x41 (
  .fail) (
  cmpK .eql x31 (.int .u8 49) fun x42 =>
  ifK x42 (
  .fail) (
  cmpK .eql x31 (.int .u8 50) fun x43 =>
  ifK x43 (
  .fail) (
  cmpK .eql x31 (.int .u8 51) fun x44 =>
  ifK x44 (
  .fail) (
  cmpK .eql x31 (.int .u8 52) fun x45 =>
  ifK x45 (
  .fail) (
  cmpK .eql x31 (.int .u8 53) fun x46 =>
  ifK x46 (
  .fail) (
  cmpK .eql x31 (.int .u8 54) fun x47 =>
  ifK x47 (
  .fail) (
  cmpK .eql x31 (.int .u8 55) fun x48 =>
  ifK x48 (
  .fail) (
  cmpK .eql x31 (.int .u8 56) fun x49 =>
  ifK x49 (
  .fail) (
  cmpK .eql x31 (.int .u8 57) fun x50 =>
  c201_4 run fu x2 x5 x6 x9 x50 σ))))))))))

theorem eq201_3 (run : RunT) (fu : Nat) (x2 x5 x6 x8 x9 x31 x32 : AV) (σ : Store) : codeK X0 run (.cond (.sub deadK) (.seq (.seq .leaf (.cond (.sub deadK) (.seq .leaf (.cond (.sub deadK) (.seq .leaf (.cond (.sub deadK) (.seq .leaf (.cond (.sub deadK) (.seq .leaf (.cond (.sub deadK) (.seq .leaf (.cond (.sub deadK) (.seq .leaf (.cond (.sub deadK) (.seq .leaf (.cond (.sub deadK) (.seq .leaf (.cond (.sub deadK) .leaf)))))))))))))))))) (.sub (fun fr σ => c201_4 run fu (G fr 2) (G fr 5) (G fr 6) (G fr 9) (G fr 40) σ)))) (subC [true, false, true, true, true, true, true, true, false, true, false, true] b201) (frS 0 181 [(2, x2), (5, x5), (6, x6), (8, x8), (9, x9), (31, x31), (32, x32)]) σ (blockK 2 (thenK (fun fr σ => c201_2 run fu (G fr 2) (G fr 5) (G fr 6) (G fr 8) (G fr 9) σ) (noGotoK k201))) = c201_3 run fu x2 x5 x6 x8 x9 x31 x32 σ := by kernel_rfl

theorem ok201_3 {run : RunT} (hrun : RunOK X0 run) (fu : Nat) : ∀ fr σ, KOK X0 181 (subC [true, false, true, true, true, true, true, true, false, true, false, true] b201) fr σ ((fun fr σ => c201_3 run fu (G fr 2) (G fr 5) (G fr 6) (G fr 8) (G fr 9) (G fr 31) (G fr 32) σ) fr σ) (blockK 2 (thenK (fun fr σ => c201_2 run fu (G fr 2) (G fr 5) (G fr 6) (G fr 8) (G fr 9) σ) (noGotoK k201))) := fun fr σ =>
  KOK.piece env0 hrun [2, 5, 6, 8, 9, 31, 32] (eq201_3 run fu (G fr 2) (G fr 5) (G fr 6) (G fr 8) (G fr 9) (G fr 31) (G fr 32) σ) ⟨KOK.dead, ⟨⟨trivial, ⟨KOK.dead, ⟨trivial, ⟨KOK.dead, ⟨trivial, ⟨KOK.dead, ⟨trivial, ⟨KOK.dead, ⟨trivial, ⟨KOK.dead, ⟨trivial, ⟨KOK.dead, ⟨trivial, ⟨KOK.dead, ⟨trivial, ⟨KOK.dead, ⟨trivial, ⟨KOK.dead, trivial⟩⟩⟩⟩⟩⟩⟩⟩⟩⟩⟩⟩⟩⟩⟩⟩⟩⟩, (ok201_4 hrun fu)⟩⟩

noncomputable def c201_1 (run : RunT) (fu : Nat) (x2 x5 x6 : AV) (σ : Store) : Tr R :=
  calK run 240 [x5] σ fun x30 σ1 =>
  cmpK .eql x30 (.int .u8 45) fun x33 =>
  ifK x33 (
  .fail) (
  cmpK .eql x30 (.int .u8 42) fun x34 =>
  ifK x34 (
  .fail) (
  cmpK .eql x30 (.int .u8 43) fun x35 =>
  c201_3 run fu x2 x5 x6 x30 (.int .i64 0) x30 x35 σ1))

theorem eq201_1 (run : RunT) (fu : Nat) (x2 x5 x6 : AV) (σ : Store) : codeK X0 run (.seq .leaf (.seq .leaf (.seq .leaf (.seq (.seq .leaf (.block (.seq (.seq .leaf (.cond (.sub deadK) (.seq .leaf (.cond (.sub deadK) .leaf)))) (.sub (fun fr σ => c201_3 run fu (G fr 2) (G fr 5) (G fr 6) (G fr 8) (G fr 9) (G fr 31) (G fr 32) σ))))) (.sub (fun fr σ => c201_2 run fu (G fr 2) (G fr 5) (G fr 6) (G fr 8) (G fr 9) σ)))))) (subC [true, false, true, true, true] b201) (frS 0 181 [(2, x2), (5, x5), (6, x6)]) σ (noGotoK k201) = c201_1 run fu x2 x5 x6 σ := by kernel_rfl

theorem ok201_1 {run : RunT} (hrun : RunOK X0 run) (fu : Nat) : ∀ fr σ, KOK X0 181 (subC [true, false, true, true, true] b201) fr σ ((fun fr σ => c201_1 run fu (G fr 2) (G fr 5) (G fr 6) σ) fr σ) (noGotoK k201) := fun fr σ =>
  KOK.piece env0 hrun [2, 5, 6] (eq201_1 run fu (G fr 2) (G fr 5) (G fr 6) σ) ⟨trivial, ⟨trivial, ⟨trivial, ⟨⟨trivial, ⟨⟨trivial, ⟨KOK.dead, ⟨trivial, ⟨KOK.dead, trivial⟩⟩⟩⟩, (ok201_3 hrun fu)⟩⟩, (ok201_2 hrun fu)⟩⟩⟩⟩

noncomputable def c201_5b (run : RunT) (fu : Nat) (s5 : W4) (x2 x5 x6 x7 : AV) (σ : Store) : Tr R :=
  cmpK .lss x7 (.int .i64 3) fun x23 =>
  ifK x23 (
  calK run 205 [x5, (.int .i64 1), (.int .i64 1), (.bool false)] σ fun x26 σ1 =>
  notK x26 fun x27 =>
  ifK x27 (
  c201_1 run fu x2 x5 x6 σ1) (
  .fail)) (
  .fail)

noncomputable def c201_5 (run : RunT) (fu : Nat) : Nat → W4
  | 0 => fun _ _ _ _ _ => .fail
  | m + 1 => c201_5b run fu (c201_5 run fu m)

theorem eq201_5 (run : RunT) (fu : Nat) (s5 : W4) (x2 x5 x6 x7 : AV) (σ : Store) : codeK X0 run (.seq (.seq .leaf (.cond .leaf (.sub deadK))) (.seq (.block (.seq (.seq .leaf (.cond .leaf (.sub deadK))) .leaf)) .leaf)) (subC [true, false, true, true, false, true, false, false] b201) (frS 0 181 [(2, x2), (5, x5), (6, x6), (7, x7)]) σ (thenK (fun fr σ => s5 (G fr 2) (G fr 5) (G fr 6) (G fr 7) σ) (blockK 0 (thenK (fun fr σ => c201_1 run fu (G fr 2) (G fr 5) (G fr 6) σ) (noGotoK k201)))) = c201_5b run fu s5 x2 x5 x6 x7 σ := by kernel_rfl

theorem owed201_5 {run : RunT} (hrun : RunOK X0 run) (fu : Nat) (s5 : W4) : Owes X0 run 181 (.seq (.seq .leaf (.cond .leaf (.sub deadK))) (.seq (.block (.seq (.seq .leaf (.cond .leaf (.sub deadK))) .leaf)) .leaf)) (subC [true, false, true, true, false, true, false, false] b201) (thenK (fun fr σ => s5 (G fr 2) (G fr 5) (G fr 6) (G fr 7) σ) (blockK 0 (thenK (fun fr σ => c201_1 run fu (G fr 2) (G fr 5) (G fr 6) σ) (noGotoK k201)))) :=
  ⟨⟨trivial, ⟨trivial, KOK.dead⟩⟩, ⟨⟨⟨trivial, ⟨trivial, KOK.dead⟩⟩, trivial⟩, trivial⟩⟩

theorem ok201_5 {run : RunT} (hrun : RunOK X0 run) (fu : Nat) : ∀ fr σ, KOK X0 181 (subC [true, false, true, true, false, true, false] b201) fr σ ((fun fr σ => c201_5 run fu fu (G fr 2) (G fr 5) (G fr 6) (G fr 7) σ) fr σ) (blockK 0 (thenK (fun fr σ => c201_1 run fu (G fr 2) (G fr 5) (G fr 6) σ) (noGotoK k201))) := by
  have h := KOK.loop (X := X0) (N := 181) (b := (subC [true, false, true, true, false, true, false, false] b201)) (k := (blockK 0 (thenK (fun fr σ => c201_1 run fu (G fr 2) (G fr 5) (G fr 6) σ) (noGotoK k201)))) (u := fun m fr σ => c201_5 run fu m (G fr 2) (G fr 5) (G fr 6) (G fr 7) σ) (fun _ _ => rfl) (fun m fr σ => KOK.piece env0 hrun [2, 5, 6, 7] (eq201_5 run fu (c201_5 run fu m) (G fr 2) (G fr 5) (G fr 6) (G fr 7) σ) (owed201_5 hrun fu (c201_5 run fu m)))
  exact fun fr σ => h fu fr σ

noncomputable def c201 (run : RunT) (fu : Nat) (x0 x1 : AV) (σ : Store) : Tr R :=
  boxK σ 471 x0 fun x2 σ1 =>
  nchkK x1 fun x20 =>
  ldNK σ1 x20 5 fun x21 =>
  newK σ1 375 [(.int .i64 0), (.int .i64 0), (.int .i64 0), (.str []), (.int .u8 0)] fun x5 σ2 =>
  stNK σ2 x5 5 x21 fun _ σ3 =>
  c201_5 run fu fu x2 x5 (.int .i64 0) (.int .i64 0) σ3

theorem eq201 (run : RunT) (fu : Nat) (x0 x1 : AV) (σ : Store) : codeK X0 run (.seq .leaf (.scope (.seq .leaf (.seq .leaf (.seq (.seq .leaf (.block (.sub (fun fr σ => c201_5 run fu fu (G fr 2) (G fr 5) (G fr 6) (G fr 7) σ)))) (.sub (fun fr σ => c201_1 run fu (G fr 2) (G fr 5) (G fr 6) σ))))))) (subC [] b201) ([x0, x1] ++ padA (181 - 2)) σ k201 = c201 run fu x0 x1 σ := by kernel_rfl

theorem ok201 {run : RunT} (hrun : RunOK X0 run) (fu : Nat) (x0 x1 : AV) (σ : Store) : CallOK X0 201 [x0, x1] σ (c201 run fu x0 x1 σ) :=
  KOK.body (fn := Tryz.f201) (c := subC [] b201) (by kernel_rfl) (by kernel_rfl) (by show 2 ≤ 181; decide) (KOK.whole env0 hrun (eq201 run fu x0 x1 σ) ⟨trivial, ⟨trivial, ⟨trivial, ⟨⟨trivial, (ok201_5 hrun fu)⟩, (ok201_1 hrun fu)⟩⟩⟩⟩)

-- (*pub-paratext/pub/rscmarkdown.parseState).startHTML

noncomputable def b202 : Code := match Tryz.f202.body with | some c => c | none => .skip

noncomputable def k202 : Kont R := retK Tryz.prog [.tmp 4]

noncomputable def c202_3 (run : RunT) (fu : Nat) (s1 : W5) (σ : Store) : Tr R :=
  .ret ((.bool false), σ)

theorem eq202_3 (run : RunT) (fu : Nat) (s1 : W5) (σ : Store) : codeK X0 run (.seq .leaf .leaf) (subC [true, true, true] (lblC 0 (subC [true, false] b202))) (frS 0 368 []) σ (scopeK (subC [true, false] b202) (lblU 0 (fun fr σ => s1 (G fr 0) (G fr 1) (G fr 6) (G fr 9) (G fr 10) σ)) k202) = c202_3 run fu s1 σ := by kernel_rfl

theorem ok202_3 {run : RunT} (hrun : RunOK X0 run) (fu : Nat) (s1 : W5) : ∀ fr σ, KOK X0 368 (subC [true, true, true] (lblC 0 (subC [true, false] b202))) fr σ ((fun fr σ => c202_3 run fu s1 σ) fr σ) (scopeK (subC [true, false] b202) (lblU 0 (fun fr σ => s1 (G fr 0) (G fr 1) (G fr 6) (G fr 9) (G fr 10) σ)) k202) := fun fr σ =>
  KOK.piece env0 hrun [] (eq202_3 run fu s1 σ) ⟨trivial, trivial⟩

noncomputable def c202_2 (run : RunT) (fu : Nat) (s1 : W5) (x0 x1 x6 : AV) (σ : Store) : Tr R :=
  calK run 152 [x0] σ fun x293 σ1 =>
  eqOK (nilEq nilP) x293 .nilp fun x294 =>
  ifK x294 (
  .fail) (
  .fail)

theorem eq202_2 (run : RunT) (fu : Nat) (s1 : W5) (x0 x1 x6 : AV) (σ : Store) : codeK X0 run (.seq (.seq .leaf (.cond (.sub deadK) (.sub deadK))) (.sub (fun fr σ => c202_3 run fu s1 σ))) (subC [true, true] (lblC 0 (subC [true, false] b202))) (frS 0 368 [(0, x0), (1, x1), (6, x6)]) σ (scopeK (subC [true, false] b202) (lblU 0 (fun fr σ => s1 (G fr 0) (G fr 1) (G fr 6) (G fr 9) (G fr 10) σ)) k202) = c202_2 run fu s1 x0 x1 x6 σ := by kernel_rfl

theorem ok202_2 {run : RunT} (hrun : RunOK X0 run) (fu : Nat) (s1 : W5) : ∀ fr σ, KOK X0 368 (subC [true, true] (lblC 0 (subC [true, false] b202))) fr σ ((fun fr σ => c202_2 run fu s1 (G fr 0) (G fr 1) (G fr 6) σ) fr σ) (scopeK (subC [true, false] b202) (lblU 0 (fun fr σ => s1 (G fr 0) (G fr 1) (G fr 6) (G fr 9) (G fr 10) σ)) k202) := fun fr σ =>
  KOK.piece env0 hrun [0, 1, 6] (eq202_2 run fu s1 (G fr 0) (G fr 1) (G fr 6) σ) ⟨⟨trivial, ⟨KOK.dead, KOK.dead⟩⟩, (ok202_3 hrun fu s1)⟩

noncomputable def c202_1Lb (run : RunT) (fu : Nat) (s1 : W5) (x0 x1 x6 x9 x10 : AV) (σ : Store) : Tr R :=
  lenSK x6 fun x233 =>
  cmpK .gtr x233 (.int .i64 1) fun x234 =>
  grdK x234 true σ (fun f => f x6 σ) fun x236 σ1 =>
  grdK x234 true σ1 (fun f => idxSK x236 (.int .i64 1) fun v => f v σ1) fun x237 σ2 =>
  grdK x234 true σ2 (fun f => cmpK .neq x237 (.int .u8 47) fun v => f v σ2) fun x238 σ3 =>
  pickK x234 x238 (.bool false) fun x239 =>
  grdK x239 true σ3 (fun f => f x9 σ3) fun x241 σ4 =>
  grdK x239 true σ4 (fun f => f x6 σ4) fun x242 σ5 =>
  grdK x239 true σ5 (fun f => lenSK x242 fun v => f v σ5) fun x243 σ6 =>
  grdK x239 true σ6 (fun f => cmpK .geq x241 x243 fun v => f v σ6) fun x244 σ7 =>
  grdK x239 true σ7 (fun f => f x244 σ7) fun x245 σ8 =>
  grdK x245 false σ8 (fun f => f x6 σ8) fun x246 σ9 =>
  grdK x245 false σ9 (fun f => f x9 σ9) fun x247 σ10 =>
  grdK x245 false σ10 (fun f => idxSK x246 x247 fun v => f v σ10) fun x248 σ11 =>
  grdK x245 false σ11 (fun f => cmpK .eql x248 (.int .u8 32) fun v => f v σ11) fun x249 σ12 =>
  grdK x239 true σ12 (fun f => pickK x245 (.bool true) x249 fun v => f v σ12) fun x250 σ13 =>
  grdK x239 true σ13 (fun f => f x250 σ13) fun x251 σ14 =>
  grdK x251 false σ14 (fun f => f x6 σ14) fun x252 σ15 =>
  grdK x251 false σ15 (fun f => f x9 σ15) fun x253 σ16 =>
  grdK x251 false σ16 (fun f => idxSK x252 x253 fun v => f v σ16) fun x254 σ17 =>
  grdK x251 false σ17 (fun f => cmpK .eql x254 (.int .u8 9) fun v => f v σ17) fun x255 σ18 =>
  grdK x239 true σ18 (fun f => pickK x251 (.bool true) x255 fun v => f v σ18) fun x256 σ19 =>
  grdK x239 true σ19 (fun f => f x256 σ19) fun x257 σ20 =>
  grdK x257 false σ20 (fun f => f x6 σ20) fun x258 σ21 =>
  grdK x257 false σ21 (fun f => f x9 σ21) fun x259 σ22 =>
  grdK x257 false σ22 (fun f => idxSK x258 x259 fun v => f v σ22) fun x260 σ23 =>
  grdK x257 false σ23 (fun f => cmpK .eql x260 (.int .u8 62) fun v => f v σ23) fun x261 σ24 =>
  grdK x239 true σ24 (fun f => pickK x257 (.bool true) x261 fun v => f v σ24) fun x262 σ25 =>
  pickK x239 x262 (.bool false) fun x263 =>
  ifK x263 (
  .fail) (
  .fail)

noncomputable def c202_1L (run : RunT) (fu : Nat) : Nat → W5
  | 0 => fun _ _ _ _ _ _ => .fail
  | m + 1 => c202_1Lb run fu (c202_1L run fu m)

theorem eq202_1L (run : RunT) (fu : Nat) (s1 : W5) (x0 x1 x6 x9 x10 : AV) (σ : Store) : codeK X0 run (.seq .leaf (.seq (.seq .leaf (.cond (.sub deadK) (.sub deadK))) (.sub (fun fr σ => c202_2 run fu s1 (G fr 0) (G fr 1) (G fr 6) σ)))) (subC [] (lblC 0 (subC [true, false] b202))) (frS 0 368 [(0, x0), (1, x1), (6, x6), (9, x9), (10, x10)]) σ (scopeK (subC [true, false] b202) (lblU 0 (fun fr σ => s1 (G fr 0) (G fr 1) (G fr 6) (G fr 9) (G fr 10) σ)) k202) = c202_1Lb run fu s1 x0 x1 x6 x9 x10 σ := by kernel_rfl

theorem owed202_1L {run : RunT} (hrun : RunOK X0 run) (fu : Nat) (s1 : W5) : Owes X0 run 368 (.seq .leaf (.seq (.seq .leaf (.cond (.sub deadK) (.sub deadK))) (.sub (fun fr σ => c202_2 run fu s1 (G fr 0) (G fr 1) (G fr 6) σ)))) (subC [] (lblC 0 (subC [true, false] b202))) (scopeK (subC [true, false] b202) (lblU 0 (fun fr σ => s1 (G fr 0) (G fr 1) (G fr 6) (G fr 9) (G fr 10) σ)) k202) :=
  ⟨trivial, ⟨⟨trivial, ⟨KOK.dead, KOK.dead⟩⟩, (ok202_2 hrun fu s1)⟩⟩

noncomputable def c202_1 (run : RunT) (fu : Nat) (x0 x1 : AV) (σ : Store) : Tr R :=
  nchkK x1 fun x28 =>
  ldNK σ x28 5 fun x29 =>
  newK σ 375 [(.int .i64 0), (.int .i64 0), (.int .i64 0), (.str []), (.int .u8 0)] fun x5 σ1 =>
  stNK σ1 x5 5 x29 fun _ σ2 =>
  calK run 205 [x5, (.int .i64 0), (.int .i64 3), (.bool false)] σ2 fun x30 σ3 =>
  calK run 240 [x5] σ3 fun x31 σ4 =>
  cmpK .neq x31 (.int .u8 60) fun x32 =>
  ifK x32 (
  .ret ((.bool false), σ4)) (
  .fail)

theorem eq202_1 (run : RunT) (fu : Nat) (x0 x1 : AV) (σ : Store) : codeK X0 run (.seq .leaf (.seq .leaf (.seq (.seq .leaf (.cond (.seq .leaf .leaf) (.sub deadK))) .leaf))) (subC [true, false] b202) (frS 0 368 [(0, x0), (1, x1)]) σ (scopeK (subC [true, false] b202) (lblU 0 (fun fr σ => c202_1L run fu fu (G fr 0) (G fr 1) (G fr 6) (G fr 9) (G fr 10) σ)) k202) = c202_1 run fu x0 x1 σ := by kernel_rfl

theorem ok202_1 {run : RunT} (hrun : RunOK X0 run) (fu : Nat) : ∀ fr σ, KOK X0 368 (subC [true] b202) fr σ ((fun fr σ => c202_1 run fu (G fr 0) (G fr 1) σ) fr σ) k202 := fun fr σ =>
  KOK.scope1 (X := X0) (N := 368) (b := (subC [true, false] b202)) (k := k202) 0 (u := fun m fr σ => c202_1L run fu m (G fr 0) (G fr 1) (G fr 6) (G fr 9) (G fr 10) σ) (fun _ _ => rfl) (fun m fr σ => KOK.piece env0 hrun [0, 1, 6, 9, 10] (eq202_1L run fu (c202_1L run fu m) (G fr 0) (G fr 1) (G fr 6) (G fr 9) (G fr 10) σ) (owed202_1L hrun fu (c202_1L run fu m))) fu
    (KOK.piece env0 hrun [0, 1] (eq202_1 run fu (G fr 0) (G fr 1) σ) ⟨trivial, ⟨trivial, ⟨⟨trivial, ⟨⟨trivial, trivial⟩, KOK.dead⟩⟩, trivial⟩⟩⟩)

noncomputable def c202 (run : RunT) (fu : Nat) (x0 x1 : AV) (σ : Store) : Tr R :=
  c202_1 run fu x0 x1 σ

theorem eq202 (run : RunT) (fu : Nat) (x0 x1 : AV) (σ : Store) : codeK X0 run (.seq .leaf (.sub (fun fr σ => c202_1 run fu (G fr 0) (G fr 1) σ))) (subC [] b202) ([x0, x1] ++ padA (368 - 2)) σ k202 = c202 run fu x0 x1 σ := by kernel_rfl

theorem ok202 {run : RunT} (hrun : RunOK X0 run) (fu : Nat) (x0 x1 : AV) (σ : Store) : CallOK X0 202 [x0, x1] σ (c202 run fu x0 x1 σ) :=
  KOK.body (fn := Tryz.f202) (c := subC [] b202) (by kernel_rfl) (by kernel_rfl) (by show 2 ≤ 368; decide) (KOK.whole env0 hrun (eq202 run fu x0 x1 σ) ⟨trivial, (ok202_1 hrun fu)⟩)

-- (*pub-paratext/pub/rscmarkdown.line).trimFence

noncomputable def b203 : Code := match Tryz.f203.body with | some c => c | none => .skip

noncomputable def k203 : Kont R := retK Tryz.prog [.tmp 8]

noncomputable def c203_2 (run : RunT) (fu : Nat) (σ : Store) : Tr R :=
  .ret ((.bool false), σ)

theorem eq203_2 (run : RunT) (fu : Nat) (σ : Store) : codeK X0 run (.seq .leaf .leaf) (subC [true, true, true, true, true] b203) (frS 0 69 []) σ k203 = c203_2 run fu σ := by kernel_rfl

theorem ok203_2 {run : RunT} (hrun : RunOK X0 run) (fu : Nat) : ∀ fr σ, KOK X0 69 (subC [true, true, true, true, true] b203) fr σ ((fun fr σ => c203_2 run fu σ) fr σ) k203 := fun fr σ =>
  KOK.piece env0 hrun [] (eq203_2 run fu σ) ⟨trivial, trivial⟩

noncomputable def c203_3 (run : RunT) (fu : Nat) (x0 x1 x2 x9 x10 x34 : AV) (σ : Store) : Tr R :=
  ifK x34 (
  .fail) (
  c203_2 run fu σ)

theorem eq203_3 (run : RunT) (fu : Nat) (x0 x1 x2 x9 x10 x34 : AV) (σ : Store) : codeK X0 run (.cond (.sub deadK) .leaf) (subC [true, true, true, true, false, true, true, false, true] b203) (frS 0 69 [(0, x0), (1, x1), (2, x2), (9, x9), (10, x10), (34, x34)]) σ (blockK 2 (thenK (fun fr σ => c203_2 run fu σ) k203)) = c203_3 run fu x0 x1 x2 x9 x10 x34 σ := by kernel_rfl

theorem ok203_3 {run : RunT} (hrun : RunOK X0 run) (fu : Nat) : ∀ fr σ, KOK X0 69 (subC [true, true, true, true, false, true, true, false, true] b203) fr σ ((fun fr σ => c203_3 run fu (G fr 0) (G fr 1) (G fr 2) (G fr 9) (G fr 10) (G fr 34) σ) fr σ) (blockK 2 (thenK (fun fr σ => c203_2 run fu σ) k203)) := fun fr σ =>
  KOK.piece env0 hrun [0, 1, 2, 9, 10, 34] (eq203_3 run fu (G fr 0) (G fr 1) (G fr 2) (G fr 9) (G fr 10) (G fr 34) σ) ⟨KOK.dead, trivial⟩

noncomputable def c203_1 (run : RunT) (fu : Nat) (x0 x1 x2 x9 : AV) (σ : Store) : Tr R :=
  calK run 240 [x9] σ fun x32 σ1 =>
  cmpK .eql x32 (.int .u8 96) fun x35 =>
  ifK x35 (
  .fail) (
  cmpK .eql x32 (.int .u8 126) fun x36 =>
  c203_3 run fu x0 x1 x2 x9 x32 x36 σ1)

theorem eq203_1 (run : RunT) (fu : Nat) (x0 x1 x2 x9 : AV) (σ : Store) : codeK X0 run (.seq (.seq .leaf (.seq .leaf (.block (.seq (.seq .leaf (.cond (.sub deadK) .leaf)) (.sub (fun fr σ => c203_3 run fu (G fr 0) (G fr 1) (G fr 2) (G fr 9) (G fr 10) (G fr 34) σ)))))) (.sub (fun fr σ => c203_2 run fu σ))) (subC [true, true, true, true] b203) (frS 0 69 [(0, x0), (1, x1), (2, x2), (9, x9)]) σ k203 = c203_1 run fu x0 x1 x2 x9 σ := by kernel_rfl

theorem ok203_1 {run : RunT} (hrun : RunOK X0 run) (fu : Nat) : ∀ fr σ, KOK X0 69 (subC [true, true, true, true] b203) fr σ ((fun fr σ => c203_1 run fu (G fr 0) (G fr 1) (G fr 2) (G fr 9) σ) fr σ) k203 := fun fr σ =>
  KOK.piece env0 hrun [0, 1, 2, 9] (eq203_1 run fu (G fr 0) (G fr 1) (G fr 2) (G fr 9) σ) ⟨⟨trivial, ⟨trivial, ⟨⟨trivial, ⟨KOK.dead, trivial⟩⟩, (ok203_3 hrun fu)⟩⟩⟩, (ok203_2 hrun fu)⟩

noncomputable def c203_4b (run : RunT) (fu : Nat) (s4 : W5) (x0 x1 x2 x3 x9 : AV) (σ : Store) : Tr R :=
  nchkK x3 fun x21 =>
  ld1K σ x21 fun x22 =>
  cmpK .lss x22 (.int .i64 3) fun x23 =>
  grdK x23 true σ (fun f => calK run 205 [x9, (.int .i64 1), (.int .i64 1), (.bool false)] σ f) fun x25 σ1 =>
  pickK x23 x25 (.bool false) fun x26 =>
  ifK x26 (
  .fail) (
  c203_1 run fu x0 x1 x2 x9 σ1)

noncomputable def c203_4 (run : RunT) (fu : Nat) : Nat → W5
  | 0 => fun _ _ _ _ _ _ => .fail
  | m + 1 => c203_4b run fu (c203_4 run fu m)

theorem eq203_4 (run : RunT) (fu : Nat) (s4 : W5) (x0 x1 x2 x3 x9 : AV) (σ : Store) : codeK X0 run (.seq (.seq .leaf (.cond (.sub deadK) .leaf)) .leaf) (subC [true, true, true, false, false, false] b203) (frS 0 69 [(0, x0), (1, x1), (2, x2), (3, x3), (9, x9)]) σ (thenK (fun fr σ => s4 (G fr 0) (G fr 1) (G fr 2) (G fr 3) (G fr 9) σ) (blockK 0 (thenK (fun fr σ => c203_1 run fu (G fr 0) (G fr 1) (G fr 2) (G fr 9) σ) k203))) = c203_4b run fu s4 x0 x1 x2 x3 x9 σ := by kernel_rfl

theorem owed203_4 {run : RunT} (hrun : RunOK X0 run) (fu : Nat) (s4 : W5) : Owes X0 run 69 (.seq (.seq .leaf (.cond (.sub deadK) .leaf)) .leaf) (subC [true, true, true, false, false, false] b203) (thenK (fun fr σ => s4 (G fr 0) (G fr 1) (G fr 2) (G fr 3) (G fr 9) σ) (blockK 0 (thenK (fun fr σ => c203_1 run fu (G fr 0) (G fr 1) (G fr 2) (G fr 9) σ) k203))) :=
  ⟨⟨trivial, ⟨KOK.dead, trivial⟩⟩, trivial⟩

theorem ok203_4 {run : RunT} (hrun : RunOK X0 run) (fu : Nat) : ∀ fr σ, KOK X0 69 (subC [true, true, true, false, false] b203) fr σ ((fun fr σ => c203_4 run fu fu (G fr 0) (G fr 1) (G fr 2) (G fr 3) (G fr 9) σ) fr σ) (blockK 0 (thenK (fun fr σ => c203_1 run fu (G fr 0) (G fr 1) (G fr 2) (G fr 9) σ) k203)) := by
  have h := KOK.loop (X := X0) (N := 69) (b := (subC [true, true, true, false, false, false] b203)) (k := (blockK 0 (thenK (fun fr σ => c203_1 run fu (G fr 0) (G fr 1) (G fr 2) (G fr 9) σ) k203))) (u := fun m fr σ => c203_4 run fu m (G fr 0) (G fr 1) (G fr 2) (G fr 3) (G fr 9) σ) (fun _ _ => rfl) (fun m fr σ => KOK.piece env0 hrun [0, 1, 2, 3, 9] (eq203_4 run fu (c203_4 run fu m) (G fr 0) (G fr 1) (G fr 2) (G fr 3) (G fr 9) σ) (owed203_4 hrun fu (c203_4 run fu m)))
  exact fun fr σ => h fu fr σ

noncomputable def c203 (run : RunT) (fu : Nat) (x0 x1 x2 x3 : AV) (σ : Store) : Tr R :=
  nchkK x0 fun x16 =>
  ldNK σ x16 5 fun x17 =>
  newK σ 375 [(.int .i64 0), (.int .i64 0), (.int .i64 0), (.str []), (.int .u8 0)] fun x9 σ1 =>
  stNK σ1 x9 5 x17 fun _ σ2 =>
  nchkK x3 fun x19 =>
  st1K σ2 x19 (.int .i64 0) fun _ σ3 =>
  c203_4 run fu fu x0 x1 x2 x3 x9 σ3

theorem eq203 (run : RunT) (fu : Nat) (x0 x1 x2 x3 : AV) (σ : Store) : codeK X0 run (.seq .leaf (.seq .leaf (.seq .leaf (.seq (.block (.sub (fun fr σ => c203_4 run fu fu (G fr 0) (G fr 1) (G fr 2) (G fr 3) (G fr 9) σ))) (.sub (fun fr σ => c203_1 run fu (G fr 0) (G fr 1) (G fr 2) (G fr 9) σ)))))) (subC [] b203) ([x0, x1, x2, x3] ++ padA (69 - 4)) σ k203 = c203 run fu x0 x1 x2 x3 σ := by kernel_rfl

theorem ok203 {run : RunT} (hrun : RunOK X0 run) (fu : Nat) (x0 x1 x2 x3 : AV) (σ : Store) : CallOK X0 203 [x0, x1, x2, x3] σ (c203 run fu x0 x1 x2 x3 σ) :=
  KOK.body (fn := Tryz.f203) (c := subC [] b203) (by kernel_rfl) (by kernel_rfl) (by show 4 ≤ 69; decide) (KOK.whole env0 hrun (eq203 run fu x0 x1 x2 x3 σ) ⟨trivial, ⟨trivial, ⟨trivial, ⟨(ok203_4 hrun fu), (ok203_1 hrun fu)⟩⟩⟩⟩)

-- (*pub-paratext/pub/rscmarkdown.line).trimSpace

noncomputable def b205 : Code := match Tryz.f205.body with | some c => c | none => .skip

noncomputable def k205 : Kont R := retK Tryz.prog [.tmp 8]

noncomputable def c205_1 (run : RunT) (fu : Nat) (x0 x9 : AV) (σ : Store) : Tr R :=
  ldNK σ x9 5 fun x74 =>
  nchkK x0 fun x75 =>
  stNK σ x75 5 x74 fun _ σ1 =>
  .ret ((.bool true), σ1)

theorem eq205_1 (run : RunT) (fu : Nat) (x0 x9 : AV) (σ : Store) : codeK X0 run (.seq .leaf (.seq .leaf .leaf)) (subC [true, true, true] b205) (frS 0 76 [(0, x0), (9, x9)]) σ k205 = c205_1 run fu x0 x9 σ := by kernel_rfl

theorem ok205_1 {run : RunT} (hrun : RunOK X0 run) (fu : Nat) : ∀ fr σ, KOK X0 76 (subC [true, true, true] b205) fr σ ((fun fr σ => c205_1 run fu (G fr 0) (G fr 9) σ) fr σ) k205 := fun fr σ =>
  KOK.piece env0 hrun [0, 9] (eq205_1 run fu (G fr 0) (G fr 9) σ) ⟨trivial, ⟨trivial, trivial⟩⟩

noncomputable def c205_3 (run : RunT) (fu : Nat) (s2 : W6) (x0 x1 x2 x3 x9 x10 : AV) (σ : Store) : Tr R :=
  addK x10 (.int .i64 1) fun x18 =>
  s2 x0 x1 x2 x3 x9 x18 σ

theorem eq205_3 (run : RunT) (fu : Nat) (s2 : W6) (x0 x1 x2 x3 x9 x10 : AV) (σ : Store) : codeK X0 run .leaf (subC [true, true, false, true, false, false, true, true] b205) (frS 0 76 [(0, x0), (1, x1), (2, x2), (3, x3), (9, x9), (10, x10)]) σ (thenK (fun fr σ => s2 (G fr 0) (G fr 1) (G fr 2) (G fr 3) (G fr 9) (G fr 10) σ) (blockK 0 (thenK (fun fr σ => c205_1 run fu (G fr 0) (G fr 9) σ) k205))) = c205_3 run fu s2 x0 x1 x2 x3 x9 x10 σ := by kernel_rfl

theorem ok205_3 {run : RunT} (hrun : RunOK X0 run) (fu : Nat) (s2 : W6) : ∀ fr σ, KOK X0 76 (subC [true, true, false, true, false, false, true, true] b205) fr σ ((fun fr σ => c205_3 run fu s2 (G fr 0) (G fr 1) (G fr 2) (G fr 3) (G fr 9) (G fr 10) σ) fr σ) (thenK (fun fr σ => s2 (G fr 0) (G fr 1) (G fr 2) (G fr 3) (G fr 9) (G fr 10) σ) (blockK 0 (thenK (fun fr σ => c205_1 run fu (G fr 0) (G fr 9) σ) k205))) := fun fr σ =>
  KOK.piece env0 hrun [0, 1, 2, 3, 9, 10] (eq205_3 run fu s2 (G fr 0) (G fr 1) (G fr 2) (G fr 3) (G fr 9) (G fr 10) σ) trivial

noncomputable def c205_4 (run : RunT) (fu : Nat) (s2 : W6) (x0 x1 x9 x10 : AV) (σ : Store) : Tr R :=
  cmpK .geq x10 x1 fun x72 =>
  ifK x72 (
  c205_1 run fu x0 x9 σ) (
  .ret ((.bool false), σ))

theorem eq205_4 (run : RunT) (fu : Nat) (s2 : W6) (x0 x1 x9 x10 : AV) (σ : Store) : codeK X0 run (.seq (.seq .leaf (.cond .leaf .leaf)) (.seq .leaf .leaf)) (subC [true, true, false, true, false, false, true, false, false, true, true, true] b205) (frS 0 76 [(0, x0), (1, x1), (9, x9), (10, x10)]) σ (blockK 1 (thenK (fun fr σ => c205_3 run fu s2 (G fr 0) (G fr 1) (G fr 2) (G fr 3) (G fr 9) (G fr 10) σ) (thenK (fun fr σ => s2 (G fr 0) (G fr 1) (G fr 2) (G fr 3) (G fr 9) (G fr 10) σ) (blockK 0 (thenK (fun fr σ => c205_1 run fu (G fr 0) (G fr 9) σ) k205))))) = c205_4 run fu s2 x0 x1 x9 x10 σ := by kernel_rfl

theorem ok205_4 {run : RunT} (hrun : RunOK X0 run) (fu : Nat) (s2 : W6) : ∀ fr σ, KOK X0 76 (subC [true, true, false, true, false, false, true, false, false, true, true, true] b205) fr σ ((fun fr σ => c205_4 run fu s2 (G fr 0) (G fr 1) (G fr 9) (G fr 10) σ) fr σ) (blockK 1 (thenK (fun fr σ => c205_3 run fu s2 (G fr 0) (G fr 1) (G fr 2) (G fr 3) (G fr 9) (G fr 10) σ) (thenK (fun fr σ => s2 (G fr 0) (G fr 1) (G fr 2) (G fr 3) (G fr 9) (G fr 10) σ) (blockK 0 (thenK (fun fr σ => c205_1 run fu (G fr 0) (G fr 9) σ) k205))))) := fun fr σ =>
  KOK.piece env0 hrun [0, 1, 9, 10] (eq205_4 run fu s2 (G fr 0) (G fr 1) (G fr 9) (G fr 10) σ) ⟨⟨trivial, ⟨trivial, trivial⟩⟩, ⟨trivial, trivial⟩⟩

noncomputable def c205_2b (run : RunT) (fu : Nat) (s2 : W6) (x0 x1 x2 x3 x9 x10 : AV) (σ : Store) : Tr R :=
  cmpK .lss x10 x2 fun x16 =>
  ifK x16 (
  addrK x9 0 fun x19 =>
  ld1K σ x19 fun x20 =>
  cmpK .gtr x20 (.int .i64 0) fun x21 =>
  ifK x21 (
  .fail) (
  addrK x9 1 fun x26 =>
  ld1K σ x26 fun x27 =>
  addrK x9 3 fun x28 =>
  ld1K σ x28 fun x29 =>
  lenSK x29 fun x30 =>
  cmpK .geq x27 x30 fun x31 =>
  grdK x31 true σ (fun f => f x3 σ) fun x33 σ1 =>
  pickK x31 x33 (.bool false) fun x34 =>
  ifK x34 (
  .fail) (
  addrK x9 1 fun x35 =>
  ld1K σ1 x35 fun x36 =>
  addrK x9 3 fun x37 =>
  ld1K σ1 x37 fun x38 =>
  lenSK x38 fun x39 =>
  cmpK .lss x36 x39 fun x40 =>
  ifK x40 (
  addrK x9 3 fun x41 =>
  ld1K σ1 x41 fun x42 =>
  addrK x9 1 fun x43 =>
  ld1K σ1 x43 fun x44 =>
  idxSK x42 x44 fun x45 =>
  cmpK .eql x45 (.int .u8 9) fun x47 =>
  ifK x47 (
  .fail) (
  cmpK .eql x45 (.int .u8 32) fun x65 =>
  ifK x65 (
  .fail) (
  c205_4 run fu s2 x0 x1 x9 x10 σ1))) (
  .fail)))) (
  .fail)

noncomputable def c205_2 (run : RunT) (fu : Nat) : Nat → W6
  | 0 => fun _ _ _ _ _ _ _ => .fail
  | m + 1 => c205_2b run fu (c205_2 run fu m)

theorem eq205_2 (run : RunT) (fu : Nat) (s2 : W6) (x0 x1 x2 x3 x9 x10 : AV) (σ : Store) : codeK X0 run (.seq (.seq .leaf (.cond .leaf (.sub deadK))) (.seq (.block (.seq (.seq .leaf (.cond (.sub deadK) .leaf)) (.seq (.seq .leaf (.cond (.sub deadK) .leaf)) (.seq (.seq .leaf (.cond (.seq .leaf (.block (.seq .leaf (.cond (.sub deadK) (.seq .leaf (.cond (.sub deadK) .leaf)))))) (.sub deadK))) (.sub (fun fr σ => c205_4 run fu s2 (G fr 0) (G fr 1) (G fr 9) (G fr 10) σ)))))) (.sub (fun fr σ => c205_3 run fu s2 (G fr 0) (G fr 1) (G fr 2) (G fr 3) (G fr 9) (G fr 10) σ)))) (subC [true, true, false, true, false, false] b205) (frS 0 76 [(0, x0), (1, x1), (2, x2), (3, x3), (9, x9), (10, x10)]) σ (thenK (fun fr σ => s2 (G fr 0) (G fr 1) (G fr 2) (G fr 3) (G fr 9) (G fr 10) σ) (blockK 0 (thenK (fun fr σ => c205_1 run fu (G fr 0) (G fr 9) σ) k205))) = c205_2b run fu s2 x0 x1 x2 x3 x9 x10 σ := by kernel_rfl

theorem owed205_2 {run : RunT} (hrun : RunOK X0 run) (fu : Nat) (s2 : W6) : Owes X0 run 76 (.seq (.seq .leaf (.cond .leaf (.sub deadK))) (.seq (.block (.seq (.seq .leaf (.cond (.sub deadK) .leaf)) (.seq (.seq .leaf (.cond (.sub deadK) .leaf)) (.seq (.seq .leaf (.cond (.seq .leaf (.block (.seq .leaf (.cond (.sub deadK) (.seq .leaf (.cond (.sub deadK) .leaf)))))) (.sub deadK))) (.sub (fun fr σ => c205_4 run fu s2 (G fr 0) (G fr 1) (G fr 9) (G fr 10) σ)))))) (.sub (fun fr σ => c205_3 run fu s2 (G fr 0) (G fr 1) (G fr 2) (G fr 3) (G fr 9) (G fr 10) σ)))) (subC [true, true, false, true, false, false] b205) (thenK (fun fr σ => s2 (G fr 0) (G fr 1) (G fr 2) (G fr 3) (G fr 9) (G fr 10) σ) (blockK 0 (thenK (fun fr σ => c205_1 run fu (G fr 0) (G fr 9) σ) k205))) :=
  ⟨⟨trivial, ⟨trivial, KOK.dead⟩⟩, ⟨⟨⟨trivial, ⟨KOK.dead, trivial⟩⟩, ⟨⟨trivial, ⟨KOK.dead, trivial⟩⟩, ⟨⟨trivial, ⟨⟨trivial, ⟨trivial, ⟨KOK.dead, ⟨trivial, ⟨KOK.dead, trivial⟩⟩⟩⟩⟩, KOK.dead⟩⟩, (ok205_4 hrun fu s2)⟩⟩⟩, (ok205_3 hrun fu s2)⟩⟩

theorem ok205_2 {run : RunT} (hrun : RunOK X0 run) (fu : Nat) : ∀ fr σ, KOK X0 76 (subC [true, true, false, true, false] b205) fr σ ((fun fr σ => c205_2 run fu fu (G fr 0) (G fr 1) (G fr 2) (G fr 3) (G fr 9) (G fr 10) σ) fr σ) (blockK 0 (thenK (fun fr σ => c205_1 run fu (G fr 0) (G fr 9) σ) k205)) := by
  have h := KOK.loop (X := X0) (N := 76) (b := (subC [true, true, false, true, false, false] b205)) (k := (blockK 0 (thenK (fun fr σ => c205_1 run fu (G fr 0) (G fr 9) σ) k205))) (u := fun m fr σ => c205_2 run fu m (G fr 0) (G fr 1) (G fr 2) (G fr 3) (G fr 9) (G fr 10) σ) (fun _ _ => rfl) (fun m fr σ => KOK.piece env0 hrun [0, 1, 2, 3, 9, 10] (eq205_2 run fu (c205_2 run fu m) (G fr 0) (G fr 1) (G fr 2) (G fr 3) (G fr 9) (G fr 10) σ) (owed205_2 hrun fu (c205_2 run fu m)))
  exact fun fr σ => h fu fr σ

noncomputable def c205 (run : RunT) (fu : Nat) (x0 x1 x2 x3 : AV) (σ : Store) : Tr R :=
  nchkK x0 fun x12 =>
  ldNK σ x12 5 fun x13 =>
  newK σ 375 [(.int .i64 0), (.int .i64 0), (.int .i64 0), (.str []), (.int .u8 0)] fun x9 σ1 =>
  stNK σ1 x9 5 x13 fun _ σ2 =>
  c205_2 run fu fu x0 x1 x2 x3 x9 (.int .i64 0) σ2

theorem eq205 (run : RunT) (fu : Nat) (x0 x1 x2 x3 : AV) (σ : Store) : codeK X0 run (.seq .leaf (.seq .leaf (.seq (.seq .leaf (.block (.sub (fun fr σ => c205_2 run fu fu (G fr 0) (G fr 1) (G fr 2) (G fr 3) (G fr 9) (G fr 10) σ)))) (.sub (fun fr σ => c205_1 run fu (G fr 0) (G fr 9) σ))))) (subC [] b205) ([x0, x1, x2, x3] ++ padA (76 - 4)) σ k205 = c205 run fu x0 x1 x2 x3 σ := by kernel_rfl

theorem ok205 {run : RunT} (hrun : RunOK X0 run) (fu : Nat) (x0 x1 x2 x3 : AV) (σ : Store) : CallOK X0 205 [x0, x1, x2, x3] σ (c205 run fu x0 x1 x2 x3 σ) :=
  KOK.body (fn := Tryz.f205) (c := subC [] b205) (by kernel_rfl) (by kernel_rfl) (by show 4 ≤ 76; decide) (KOK.whole env0 hrun (eq205 run fu x0 x1 x2 x3 σ) ⟨trivial, ⟨trivial, ⟨⟨trivial, (ok205_2 hrun fu)⟩, (ok205_1 hrun fu)⟩⟩⟩)

-- pub-paratext/pub/rscmarkdown.mdUnescape

noncomputable def b230 : Code := match Tryz.f230.body with | some c => c | none => .skip

noncomputable def k230 : Kont R := retK Tryz.prog [.tmp 2]

noncomputable def c230 (run : RunT) (fu : Nat) (x0 : AV) (σ : Store) : Tr R :=
  calK run 86 [x0, (.str [92])] σ fun x4 σ1 =>
  notK x4 fun x5 =>
  grdK x5 true σ1 (fun f => f x0 σ1) fun x7 σ2 =>
  grdK x5 true σ2 (fun f => calK run 86 [x7, (.str [38])] σ2 f) fun x8 σ3 =>
  grdK x5 true σ3 (fun f => notK x8 fun v => f v σ3) fun x9 σ4 =>
  pickK x5 x9 (.bool false) fun x10 =>
  ifK x10 (
  .ret (x0, σ4)) (
  .fail)

theorem eq230 (run : RunT) (fu : Nat) (x0 : AV) (σ : Store) : codeK X0 run (.seq .leaf (.seq (.seq .leaf (.cond (.seq .leaf .leaf) (.sub deadK))) .leaf)) (subC [] b230) ([x0] ++ padA (15 - 1)) σ k230 = c230 run fu x0 σ := by kernel_rfl

theorem ok230 {run : RunT} (hrun : RunOK X0 run) (fu : Nat) (x0 : AV) (σ : Store) : CallOK X0 230 [x0] σ (c230 run fu x0 σ) :=
  KOK.body (fn := Tryz.f230) (c := subC [] b230) (by kernel_rfl) (by kernel_rfl) (by show 1 ≤ 15; decide) (KOK.whole env0 hrun (eq230 run fu x0 σ) ⟨trivial, ⟨⟨trivial, ⟨⟨trivial, trivial⟩, KOK.dead⟩⟩, trivial⟩⟩)

-- pub-paratext/pub/rscmarkdown.trimSpaceTabNewline

noncomputable def b232 : Code := match Tryz.f232.body with | some c => c | none => .skip

noncomputable def k232 : Kont R := retK Tryz.prog [.tmp 2]

noncomputable def c232_2 (run : RunT) (fu : Nat) (x0 x4 : AV) (σ : Store) : Tr R :=
  sliceSK x0 none (some x4) fun x61 =>
  .ret (x61, σ)

theorem eq232_2 (run : RunT) (fu : Nat) (x0 x4 : AV) (σ : Store) : codeK X0 run (.seq .leaf .leaf) (subC [true, true, true, true, true, true] b232) (frS 0 62 [(0, x0), (4, x4)]) σ k232 = c232_2 run fu x0 x4 σ := by kernel_rfl

theorem ok232_2 {run : RunT} (hrun : RunOK X0 run) (fu : Nat) : ∀ fr σ, KOK X0 62 (subC [true, true, true, true, true, true] b232) fr σ ((fun fr σ => c232_2 run fu (G fr 0) (G fr 4) σ) fr σ) k232 := fun fr σ =>
  KOK.piece env0 hrun [0, 4] (eq232_2 run fu (G fr 0) (G fr 4) σ) ⟨trivial, trivial⟩

noncomputable def c232_3b (run : RunT) (fu : Nat) (s3 : W2) (x0 x4 : AV) (σ : Store) : Tr R :=
  cmpK .gtr x4 (.int .i64 0) fun x35 =>
  grdK x35 true σ (fun f => f x0 σ) fun x37 σ1 =>
  grdK x35 true σ1 (fun f => f x4 σ1) fun x38 σ2 =>
  grdK x35 true σ2 (fun f => subK x38 (.int .i64 1) fun v => f v σ2) fun x39 σ3 =>
  grdK x35 true σ3 (fun f => idxSK x37 x39 fun v => f v σ3) fun x40 σ4 =>
  grdK x35 true σ4 (fun f => cmpK .eql x40 (.int .u8 32) fun v => f v σ4) fun x41 σ5 =>
  grdK x35 true σ5 (fun f => f x41 σ5) fun x42 σ6 =>
  grdK x42 false σ6 (fun f => f x0 σ6) fun x43 σ7 =>
  grdK x42 false σ7 (fun f => f x4 σ7) fun x44 σ8 =>
  grdK x42 false σ8 (fun f => subK x44 (.int .i64 1) fun v => f v σ8) fun x45 σ9 =>
  grdK x42 false σ9 (fun f => idxSK x43 x45 fun v => f v σ9) fun x46 σ10 =>
  grdK x42 false σ10 (fun f => cmpK .eql x46 (.int .u8 9) fun v => f v σ10) fun x47 σ11 =>
  grdK x35 true σ11 (fun f => pickK x42 (.bool true) x47 fun v => f v σ11) fun x48 σ12 =>
  grdK x35 true σ12 (fun f => f x48 σ12) fun x49 σ13 =>
  grdK x49 false σ13 (fun f => f x0 σ13) fun x50 σ14 =>
  grdK x49 false σ14 (fun f => f x4 σ14) fun x51 σ15 =>
  grdK x49 false σ15 (fun f => subK x51 (.int .i64 1) fun v => f v σ15) fun x52 σ16 =>
  grdK x49 false σ16 (fun f => idxSK x50 x52 fun v => f v σ16) fun x53 σ17 =>
  grdK x49 false σ17 (fun f => cmpK .eql x53 (.int .u8 10) fun v => f v σ17) fun x54 σ18 =>
  grdK x35 true σ18 (fun f => pickK x49 (.bool true) x54 fun v => f v σ18) fun x55 σ19 =>
  pickK x35 x55 (.bool false) fun x56 =>
  ifK x56 (
  .fail) (
  c232_2 run fu x0 x4 σ19)

noncomputable def c232_3 (run : RunT) (fu : Nat) : Nat → W2
  | 0 => fun _ _ _ => .fail
  | m + 1 => c232_3b run fu (c232_3 run fu m)

theorem eq232_3 (run : RunT) (fu : Nat) (s3 : W2) (x0 x4 : AV) (σ : Store) : codeK X0 run (.seq (.seq .leaf (.cond (.sub deadK) .leaf)) .leaf) (subC [true, true, true, true, true, false, false, false] b232) (frS 0 62 [(0, x0), (4, x4)]) σ (thenK (fun fr σ => s3 (G fr 0) (G fr 4) σ) (blockK 2 (thenK (fun fr σ => c232_2 run fu (G fr 0) (G fr 4) σ) k232))) = c232_3b run fu s3 x0 x4 σ := by kernel_rfl

theorem owed232_3 {run : RunT} (hrun : RunOK X0 run) (fu : Nat) (s3 : W2) : Owes X0 run 62 (.seq (.seq .leaf (.cond (.sub deadK) .leaf)) .leaf) (subC [true, true, true, true, true, false, false, false] b232) (thenK (fun fr σ => s3 (G fr 0) (G fr 4) σ) (blockK 2 (thenK (fun fr σ => c232_2 run fu (G fr 0) (G fr 4) σ) k232))) :=
  ⟨⟨trivial, ⟨KOK.dead, trivial⟩⟩, trivial⟩

theorem ok232_3 {run : RunT} (hrun : RunOK X0 run) (fu : Nat) : ∀ fr σ, KOK X0 62 (subC [true, true, true, true, true, false, false] b232) fr σ ((fun fr σ => c232_3 run fu fu (G fr 0) (G fr 4) σ) fr σ) (blockK 2 (thenK (fun fr σ => c232_2 run fu (G fr 0) (G fr 4) σ) k232)) := by
  have h := KOK.loop (X := X0) (N := 62) (b := (subC [true, true, true, true, true, false, false, false] b232)) (k := (blockK 2 (thenK (fun fr σ => c232_2 run fu (G fr 0) (G fr 4) σ) k232))) (u := fun m fr σ => c232_3 run fu m (G fr 0) (G fr 4) σ) (fun _ _ => rfl) (fun m fr σ => KOK.piece env0 hrun [0, 4] (eq232_3 run fu (c232_3 run fu m) (G fr 0) (G fr 4) σ) (owed232_3 hrun fu (c232_3 run fu m)))
  exact fun fr σ => h fu fr σ

noncomputable def c232_1 (run : RunT) (fu : Nat) (x0 x3 : AV) (σ : Store) : Tr R :=
  sliceSK x0 (some x3) none fun x31 =>
  lenSK x31 fun x33 =>
  c232_3 run fu fu x31 x33 σ

theorem eq232_1 (run : RunT) (fu : Nat) (x0 x3 : AV) (σ : Store) : codeK X0 run (.seq .leaf (.seq .leaf (.seq (.block (.sub (fun fr σ => c232_3 run fu fu (G fr 0) (G fr 4) σ))) (.sub (fun fr σ => c232_2 run fu (G fr 0) (G fr 4) σ))))) (subC [true, true, true] b232) (frS 0 62 [(0, x0), (3, x3)]) σ k232 = c232_1 run fu x0 x3 σ := by kernel_rfl

theorem ok232_1 {run : RunT} (hrun : RunOK X0 run) (fu : Nat) : ∀ fr σ, KOK X0 62 (subC [true, true, true] b232) fr σ ((fun fr σ => c232_1 run fu (G fr 0) (G fr 3) σ) fr σ) k232 := fun fr σ =>
  KOK.piece env0 hrun [0, 3] (eq232_1 run fu (G fr 0) (G fr 3) σ) ⟨trivial, ⟨trivial, ⟨(ok232_3 hrun fu), (ok232_2 hrun fu)⟩⟩⟩

noncomputable def c232_4b (run : RunT) (fu : Nat) (s4 : W2) (x0 x3 : AV) (σ : Store) : Tr R :=
  lenSK x0 fun x7 =>
  cmpK .lss x3 x7 fun x8 =>
  grdK x8 true σ (fun f => f x0 σ) fun x10 σ1 =>
  grdK x8 true σ1 (fun f => f x3 σ1) fun x11 σ2 =>
  grdK x8 true σ2 (fun f => idxSK x10 x11 fun v => f v σ2) fun x12 σ3 =>
  grdK x8 true σ3 (fun f => cmpK .eql x12 (.int .u8 32) fun v => f v σ3) fun x13 σ4 =>
  grdK x8 true σ4 (fun f => f x13 σ4) fun x14 σ5 =>
  grdK x14 false σ5 (fun f => f x0 σ5) fun x15 σ6 =>
  grdK x14 false σ6 (fun f => f x3 σ6) fun x16 σ7 =>
  grdK x14 false σ7 (fun f => idxSK x15 x16 fun v => f v σ7) fun x17 σ8 =>
  grdK x14 false σ8 (fun f => cmpK .eql x17 (.int .u8 9) fun v => f v σ8) fun x18 σ9 =>
  grdK x8 true σ9 (fun f => pickK x14 (.bool true) x18 fun v => f v σ9) fun x19 σ10 =>
  grdK x8 true σ10 (fun f => f x19 σ10) fun x20 σ11 =>
  grdK x20 false σ11 (fun f => f x0 σ11) fun x21 σ12 =>
  grdK x20 false σ12 (fun f => f x3 σ12) fun x22 σ13 =>
  grdK x20 false σ13 (fun f => idxSK x21 x22 fun v => f v σ13) fun x23 σ14 =>
  grdK x20 false σ14 (fun f => cmpK .eql x23 (.int .u8 10) fun v => f v σ14) fun x24 σ15 =>
  grdK x8 true σ15 (fun f => pickK x20 (.bool true) x24 fun v => f v σ15) fun x25 σ16 =>
  pickK x8 x25 (.bool false) fun x26 =>
  ifK x26 (
  .fail) (
  c232_1 run fu x0 x3 σ16)

noncomputable def c232_4 (run : RunT) (fu : Nat) : Nat → W2
  | 0 => fun _ _ _ => .fail
  | m + 1 => c232_4b run fu (c232_4 run fu m)

theorem eq232_4 (run : RunT) (fu : Nat) (s4 : W2) (x0 x3 : AV) (σ : Store) : codeK X0 run (.seq (.seq .leaf (.cond (.sub deadK) .leaf)) .leaf) (subC [true, true, false, false, false] b232) (frS 0 62 [(0, x0), (3, x3)]) σ (thenK (fun fr σ => s4 (G fr 0) (G fr 3) σ) (blockK 0 (thenK (fun fr σ => c232_1 run fu (G fr 0) (G fr 3) σ) k232))) = c232_4b run fu s4 x0 x3 σ := by kernel_rfl

theorem owed232_4 {run : RunT} (hrun : RunOK X0 run) (fu : Nat) (s4 : W2) : Owes X0 run 62 (.seq (.seq .leaf (.cond (.sub deadK) .leaf)) .leaf) (subC [true, true, false, false, false] b232) (thenK (fun fr σ => s4 (G fr 0) (G fr 3) σ) (blockK 0 (thenK (fun fr σ => c232_1 run fu (G fr 0) (G fr 3) σ) k232))) :=
  ⟨⟨trivial, ⟨KOK.dead, trivial⟩⟩, trivial⟩

theorem ok232_4 {run : RunT} (hrun : RunOK X0 run) (fu : Nat) : ∀ fr σ, KOK X0 62 (subC [true, true, false, false] b232) fr σ ((fun fr σ => c232_4 run fu fu (G fr 0) (G fr 3) σ) fr σ) (blockK 0 (thenK (fun fr σ => c232_1 run fu (G fr 0) (G fr 3) σ) k232)) := by
  have h := KOK.loop (X := X0) (N := 62) (b := (subC [true, true, false, false, false] b232)) (k := (blockK 0 (thenK (fun fr σ => c232_1 run fu (G fr 0) (G fr 3) σ) k232))) (u := fun m fr σ => c232_4 run fu m (G fr 0) (G fr 3) σ) (fun _ _ => rfl) (fun m fr σ => KOK.piece env0 hrun [0, 3] (eq232_4 run fu (c232_4 run fu m) (G fr 0) (G fr 3) σ) (owed232_4 hrun fu (c232_4 run fu m)))
  exact fun fr σ => h fu fr σ

noncomputable def c232 (run : RunT) (fu : Nat) (x0 : AV) (σ : Store) : Tr R :=
  c232_4 run fu fu x0 (.int .i64 0) σ

theorem eq232 (run : RunT) (fu : Nat) (x0 : AV) (σ : Store) : codeK X0 run (.seq .leaf (.seq .leaf (.seq (.block (.sub (fun fr σ => c232_4 run fu fu (G fr 0) (G fr 3) σ))) (.sub (fun fr σ => c232_1 run fu (G fr 0) (G fr 3) σ))))) (subC [] b232) ([x0] ++ padA (62 - 1)) σ k232 = c232 run fu x0 σ := by kernel_rfl

theorem ok232 {run : RunT} (hrun : RunOK X0 run) (fu : Nat) (x0 : AV) (σ : Store) : CallOK X0 232 [x0] σ (c232 run fu x0 σ) :=
  KOK.body (fn := Tryz.f232) (c := subC [] b232) (by kernel_rfl) (by kernel_rfl) (by show 1 ≤ 62; decide) (KOK.whole env0 hrun (eq232 run fu x0 σ) ⟨trivial, ⟨trivial, ⟨(ok232_4 hrun fu), (ok232_1 hrun fu)⟩⟩⟩)

-- internal/stringslite.HasPrefix

noncomputable def b233 : Code := match Tryz.f233.body with | some c => c | none => .skip

noncomputable def k233 : Kont R := retK Tryz.prog [.tmp 4]

noncomputable def c233 (run : RunT) (fu : Nat) (x0 x1 : AV) (σ : Store) : Tr R :=
  lenSK x0 fun x6 =>
  lenSK x1 fun x8 =>
  cmpK .geq x6 x8 fun x9 =>
  grdK x9 true σ (fun f => f x0 σ) fun x11 σ1 =>
  grdK x9 true σ1 (fun f => f x1 σ1) fun x12 σ2 =>
  grdK x9 true σ2 (fun f => lenSK x12 fun v => f v σ2) fun x13 σ3 =>
  grdK x9 true σ3 (fun f => sliceSK x11 none (some x13) fun v => f v σ3) fun x14 σ4 =>
  grdK x9 true σ4 (fun f => f x1 σ4) fun x15 σ5 =>
  grdK x9 true σ5 (fun f => eqSK x14 x15 fun v => f v σ5) fun x16 σ6 =>
  pickK x9 x16 (.bool false) fun x17 =>
  .ret (x17, σ6)

theorem eq233 (run : RunT) (fu : Nat) (x0 x1 : AV) (σ : Store) : codeK X0 run (.seq .leaf (.seq .leaf .leaf)) (subC [] b233) ([x0, x1] ++ padA (18 - 2)) σ k233 = c233 run fu x0 x1 σ := by kernel_rfl

theorem ok233 {run : RunT} (hrun : RunOK X0 run) (fu : Nat) (x0 x1 : AV) (σ : Store) : CallOK X0 233 [x0, x1] σ (c233 run fu x0 x1 σ) :=
  KOK.body (fn := Tryz.f233) (c := subC [] b233) (by kernel_rfl) (by kernel_rfl) (by show 2 ≤ 18; decide) (KOK.whole env0 hrun (eq233 run fu x0 x1 σ) ⟨trivial, ⟨trivial, trivial⟩⟩)

-- strings.Join

noncomputable def b234 : Code := match Tryz.f234.body with | some c => c | none => .skip

noncomputable def k234 : Kont R := retK Tryz.prog [.tmp 4]

noncomputable def c234 (run : RunT) (fu : Nat) (x0 x1 : AV) (σ : Store) : Tr R :=
  lenLK x0 fun x12 =>
  cmpK .eql x12 (.int .i64 0) fun x14 =>
  ifK x14 (
  .fail) (
  .fail)

theorem eq234 (run : RunT) (fu : Nat) (x0 x1 : AV) (σ : Store) : codeK X0 run (.seq .leaf (.seq (.seq .leaf (.block (.seq .leaf (.cond (.sub deadK) (.sub deadK))))) .leaf)) (subC [] b234) ([x0, x1] ++ padA (75 - 2)) σ k234 = c234 run fu x0 x1 σ := by kernel_rfl

theorem ok234 {run : RunT} (hrun : RunOK X0 run) (fu : Nat) (x0 x1 : AV) (σ : Store) : CallOK X0 234 [x0, x1] σ (c234 run fu x0 x1 σ) :=
  KOK.body (fn := Tryz.f234) (c := subC [] b234) (by kernel_rfl) (by kernel_rfl) (by show 2 ≤ 75; decide) (KOK.whole env0 hrun (eq234 run fu x0 x1 σ) ⟨trivial, ⟨⟨trivial, ⟨trivial, ⟨KOK.dead, KOK.dead⟩⟩⟩, trivial⟩⟩)

-- (*pub-paratext/pub/rscmarkdown.line).trim

noncomputable def b238 : Code := match Tryz.f238.body with | some c => c | none => .skip

noncomputable def k238 : Kont R := retK Tryz.prog [.tmp 4]

noncomputable def c238 (run : RunT) (fu : Nat) (x0 x1 : AV) (σ : Store) : Tr R :=
  nchkK x0 fun x6 =>
  addrK x6 0 fun x7 =>
  ld1K σ x7 fun x8 =>
  cmpK .gtr x8 (.int .i64 0) fun x9 =>
  ifK x9 (
  .fail) (
  nchkK x0 fun x20 =>
  addrK x20 1 fun x21 =>
  ld1K σ x21 fun x22 =>
  nchkK x0 fun x24 =>
  addrK x24 3 fun x25 =>
  ld1K σ x25 fun x26 =>
  lenSK x26 fun x27 =>
  cmpK .lss x22 x27 fun x28 =>
  grdK x28 true σ (fun f => f x0 σ) fun x30 σ1 =>
  grdK x28 true σ1 (fun f => nchkK x30 fun v => f v σ1) fun x31 σ2 =>
  grdK x28 true σ2 (fun f => addrK x31 3 fun v => f v σ2) fun x32 σ3 =>
  grdK x28 true σ3 (fun f => ld1K σ3 x32 fun v => f v σ3) fun x33 σ4 =>
  grdK x28 true σ4 (fun f => f x0 σ4) fun x34 σ5 =>
  grdK x28 true σ5 (fun f => nchkK x34 fun v => f v σ5) fun x35 σ6 =>
  grdK x28 true σ6 (fun f => addrK x35 1 fun v => f v σ6) fun x36 σ7 =>
  grdK x28 true σ7 (fun f => ld1K σ7 x36 fun v => f v σ7) fun x37 σ8 =>
  grdK x28 true σ8 (fun f => idxSK x33 x37 fun v => f v σ8) fun x38 σ9 =>
  grdK x28 true σ9 (fun f => f x1 σ9) fun x39 σ10 =>
  grdK x28 true σ10 (fun f => cmpK .eql x38 x39 fun v => f v σ10) fun x40 σ11 =>
  pickK x28 x40 (.bool false) fun x41 =>
  ifK x41 (
  .fail) (
  .ret ((.bool false), σ11)))

theorem eq238 (run : RunT) (fu : Nat) (x0 x1 : AV) (σ : Store) : codeK X0 run (.seq .leaf (.seq (.seq .leaf (.cond (.sub deadK) .leaf)) (.seq (.seq .leaf (.cond (.sub deadK) .leaf)) (.seq .leaf .leaf)))) (subC [] b238) ([x0, x1] ++ padA (49 - 2)) σ k238 = c238 run fu x0 x1 σ := by kernel_rfl

theorem ok238 {run : RunT} (hrun : RunOK X0 run) (fu : Nat) (x0 x1 : AV) (σ : Store) : CallOK X0 238 [x0, x1] σ (c238 run fu x0 x1 σ) :=
  KOK.body (fn := Tryz.f238) (c := subC [] b238) (by kernel_rfl) (by kernel_rfl) (by show 2 ≤ 49; decide) (KOK.whole env0 hrun (eq238 run fu x0 x1 σ) ⟨trivial, ⟨⟨trivial, ⟨KOK.dead, trivial⟩⟩, ⟨⟨trivial, ⟨KOK.dead, trivial⟩⟩, ⟨trivial, trivial⟩⟩⟩⟩)

-- (*pub-paratext/pub/rscmarkdown.line).peek

noncomputable def b240 : Code := match Tryz.f240.body with | some c => c | none => .skip

noncomputable def k240 : Kont R := retK Tryz.prog [.tmp 2]

noncomputable def c240 (run : RunT) (fu : Nat) (x0 : AV) (σ : Store) : Tr R :=
  nchkK x0 fun x4 =>
  addrK x4 0 fun x5 =>
  ld1K σ x5 fun x6 =>
  cmpK .gtr x6 (.int .i64 0) fun x7 =>
  ifK x7 (
  .fail) (
  nchkK x0 fun x9 =>
  addrK x9 1 fun x10 =>
  ld1K σ x10 fun x11 =>
  nchkK x0 fun x13 =>
  addrK x13 3 fun x14 =>
  ld1K σ x14 fun x15 =>
  lenSK x15 fun x16 =>
  cmpK .geq x11 x16 fun x17 =>
  ifK x17 (
  .fail) (
  nchkK x0 fun x19 =>
  addrK x19 3 fun x20 =>
  ld1K σ x20 fun x21 =>
  nchkK x0 fun x23 =>
  addrK x23 1 fun x24 =>
  ld1K σ x24 fun x25 =>
  idxSK x21 x25 fun x26 =>
  .ret (x26, σ)))

theorem eq240 (run : RunT) (fu : Nat) (x0 : AV) (σ : Store) : codeK X0 run (.seq .leaf (.seq (.seq .leaf (.cond (.sub deadK) .leaf)) (.seq (.seq .leaf (.cond (.sub deadK) .leaf)) (.seq .leaf .leaf)))) (subC [] b240) ([x0] ++ padA (27 - 1)) σ k240 = c240 run fu x0 σ := by kernel_rfl

theorem ok240 {run : RunT} (hrun : RunOK X0 run) (fu : Nat) (x0 : AV) (σ : Store) : CallOK X0 240 [x0] σ (c240 run fu x0 σ) :=
  KOK.body (fn := Tryz.f240) (c := subC [] b240) (by kernel_rfl) (by kernel_rfl) (by show 1 ≤ 27; decide) (KOK.whole env0 hrun (eq240 run fu x0 σ) ⟨trivial, ⟨⟨trivial, ⟨KOK.dead, trivial⟩⟩, ⟨⟨trivial, ⟨KOK.dead, trivial⟩⟩, ⟨trivial, trivial⟩⟩⟩⟩)

-- (*pub-paratext/pub/rscmarkdown.Document).PrintHTML

noncomputable def b305 : Code := match Tryz.f305.body with | some c => c | none => .skip

noncomputable def k305 : Kont R := retK Tryz.prog []

noncomputable def c305_1b (run : RunT) (fu : Nat) (s1 : W4) (x1 x9 x10 x11 : AV) (σ : Store) : Tr R :=
  cmpK .lss x11 x10 fun x12 =>
  ifK x12 (
  idxK 1 x9 x11 fun x13 =>
  ld1K σ x13 fun x14 =>
  invK X0 run x14 "PrintHTML" [x1] σ fun x17 σ1 =>
  addK x11 (.int .i64 1) fun x18 =>
  s1 x1 x9 x10 x18 σ1) (
  .ret (.tup [], σ))

noncomputable def c305_1 (run : RunT) (fu : Nat) : Nat → W4
  | 0 => fun _ _ _ _ _ => .fail
  | m + 1 => c305_1b run fu (c305_1 run fu m)

theorem eq305_1 (run : RunT) (fu : Nat) (s1 : W4) (x1 x9 x10 x11 : AV) (σ : Store) : codeK X0 run (.seq .leaf (.seq (.cond .leaf .leaf) (.seq (.block (.seq .leaf .leaf)) .leaf))) (subC [true, false, false] b305) (frS 0 19 [(1, x1), (9, x9), (10, x10), (11, x11)]) σ (thenK (fun fr σ => s1 (G fr 1) (G fr 9) (G fr 10) (G fr 11) σ) (blockK 0 k305)) = c305_1b run fu s1 x1 x9 x10 x11 σ := by kernel_rfl

theorem owed305_1 {run : RunT} (hrun : RunOK X0 run) (fu : Nat) (s1 : W4) : Owes X0 run 19 (.seq .leaf (.seq (.cond .leaf .leaf) (.seq (.block (.seq .leaf .leaf)) .leaf))) (subC [true, false, false] b305) (thenK (fun fr σ => s1 (G fr 1) (G fr 9) (G fr 10) (G fr 11) σ) (blockK 0 k305)) :=
  ⟨trivial, ⟨⟨trivial, trivial⟩, ⟨⟨trivial, trivial⟩, trivial⟩⟩⟩

theorem ok305_1 {run : RunT} (hrun : RunOK X0 run) (fu : Nat) : ∀ fr σ, KOK X0 19 (subC [true, false] b305) fr σ ((fun fr σ => c305_1 run fu fu (G fr 1) (G fr 9) (G fr 10) (G fr 11) σ) fr σ) (blockK 0 k305) := by
  have h := KOK.loop (X := X0) (N := 19) (b := (subC [true, false, false] b305)) (k := (blockK 0 k305)) (u := fun m fr σ => c305_1 run fu m (G fr 1) (G fr 9) (G fr 10) (G fr 11) σ) (fun _ _ => rfl) (fun m fr σ => KOK.piece env0 hrun [1, 9, 10, 11] (eq305_1 run fu (c305_1 run fu m) (G fr 1) (G fr 9) (G fr 10) (G fr 11) σ) (owed305_1 hrun fu (c305_1 run fu m)))
  exact fun fr σ => h fu fr σ

noncomputable def c305 (run : RunT) (fu : Nat) (x0 x1 : AV) (σ : Store) : Tr R :=
  nchkK x0 fun x7 =>
  addrK x7 2 fun x8 =>
  ld1K σ x8 fun x9 =>
  lenLK x9 fun x10 =>
  c305_1 run fu fu x1 x9 x10 (.int .i64 0) σ

theorem eq305 (run : RunT) (fu : Nat) (x0 x1 : AV) (σ : Store) : codeK X0 run (.seq .leaf (.block (.sub (fun fr σ => c305_1 run fu fu (G fr 1) (G fr 9) (G fr 10) (G fr 11) σ)))) (subC [] b305) ([x0, x1] ++ padA (19 - 2)) σ k305 = c305 run fu x0 x1 σ := by kernel_rfl

theorem ok305 {run : RunT} (hrun : RunOK X0 run) (fu : Nat) (x0 x1 : AV) (σ : Store) : CallOK X0 305 [x0, x1] σ (c305 run fu x0 x1 σ) :=
  KOK.body (fn := Tryz.f305) (c := subC [] b305) (by kernel_rfl) (by kernel_rfl) (by show 2 ≤ 19; decide) (KOK.whole env0 hrun (eq305 run fu x0 x1 σ) ⟨trivial, (ok305_1 hrun fu)⟩)

-- (*pub-paratext/pub/rscmarkdown.Link).PrintHTML

noncomputable def b307 : Code := match Tryz.f307.body with | some c => c | none => .skip

noncomputable def k307 : Kont R := retK Tryz.prog []

noncomputable def c307_2 (run : RunT) (fu : Nat) (x1 : AV) (σ : Store) : Tr R :=
  calK run 308 [x1, (.str [60, 47, 97, 62])] σ fun x47 σ1 =>
  .ret (.tup [], σ1)

theorem eq307_2 (run : RunT) (fu : Nat) (x1 : AV) (σ : Store) : codeK X0 run .leaf (subC [true, true, true, true] b307) (frS 0 48 [(1, x1)]) σ k307 = c307_2 run fu x1 σ := by kernel_rfl

theorem ok307_2 {run : RunT} (hrun : RunOK X0 run) (fu : Nat) : ∀ fr σ, KOK X0 48 (subC [true, true, true, true] b307) fr σ ((fun fr σ => c307_2 run fu (G fr 1) σ) fr σ) k307 := fun fr σ =>
  KOK.piece env0 hrun [1] (eq307_2 run fu (G fr 1) σ) trivial

noncomputable def c307_3b (run : RunT) (fu : Nat) (s3 : W4) (x1 x36 x37 x38 : AV) (σ : Store) : Tr R :=
  cmpK .lss x38 x37 fun x39 =>
  ifK x39 (
  idxK 1 x36 x38 fun x40 =>
  ld1K σ x40 fun x41 =>
  invK X0 run x41 "PrintHTML" [x1] σ fun x44 σ1 =>
  addK x38 (.int .i64 1) fun x45 =>
  s3 x1 x36 x37 x45 σ1) (
  c307_2 run fu x1 σ)

noncomputable def c307_3 (run : RunT) (fu : Nat) : Nat → W4
  | 0 => fun _ _ _ _ _ => .fail
  | m + 1 => c307_3b run fu (c307_3 run fu m)

theorem eq307_3 (run : RunT) (fu : Nat) (s3 : W4) (x1 x36 x37 x38 : AV) (σ : Store) : codeK X0 run (.seq .leaf (.seq (.cond .leaf .leaf) (.seq (.block (.seq .leaf .leaf)) .leaf))) (subC [true, true, true, false, true, false, false] b307) (frS 0 48 [(1, x1), (36, x36), (37, x37), (38, x38)]) σ (thenK (fun fr σ => s3 (G fr 1) (G fr 36) (G fr 37) (G fr 38) σ) (blockK 0 (thenK (fun fr σ => c307_2 run fu (G fr 1) σ) k307))) = c307_3b run fu s3 x1 x36 x37 x38 σ := by kernel_rfl

theorem owed307_3 {run : RunT} (hrun : RunOK X0 run) (fu : Nat) (s3 : W4) : Owes X0 run 48 (.seq .leaf (.seq (.cond .leaf .leaf) (.seq (.block (.seq .leaf .leaf)) .leaf))) (subC [true, true, true, false, true, false, false] b307) (thenK (fun fr σ => s3 (G fr 1) (G fr 36) (G fr 37) (G fr 38) σ) (blockK 0 (thenK (fun fr σ => c307_2 run fu (G fr 1) σ) k307))) :=
  ⟨trivial, ⟨⟨trivial, trivial⟩, ⟨⟨trivial, trivial⟩, trivial⟩⟩⟩

theorem ok307_3 {run : RunT} (hrun : RunOK X0 run) (fu : Nat) : ∀ fr σ, KOK X0 48 (subC [true, true, true, false, true, false] b307) fr σ ((fun fr σ => c307_3 run fu fu (G fr 1) (G fr 36) (G fr 37) (G fr 38) σ) fr σ) (blockK 0 (thenK (fun fr σ => c307_2 run fu (G fr 1) σ) k307)) := by
  have h := KOK.loop (X := X0) (N := 48) (b := (subC [true, true, true, false, true, false, false] b307)) (k := (blockK 0 (thenK (fun fr σ => c307_2 run fu (G fr 1) σ) k307))) (u := fun m fr σ => c307_3 run fu m (G fr 1) (G fr 36) (G fr 37) (G fr 38) σ) (fun _ _ => rfl) (fun m fr σ => KOK.piece env0 hrun [1, 36, 37, 38] (eq307_3 run fu (c307_3 run fu m) (G fr 1) (G fr 36) (G fr 37) (G fr 38) σ) (owed307_3 hrun fu (c307_3 run fu m)))
  exact fun fr σ => h fu fr σ

noncomputable def c307_1 (run : RunT) (fu : Nat) (x0 x1 : AV) (σ : Store) : Tr R :=
  calK run 308 [x1, (.str [62])] σ fun x32 σ1 =>
  nchkK x0 fun x34 =>
  addrK x34 0 fun x35 =>
  ld1K σ1 x35 fun x36 =>
  lenLK x36 fun x37 =>
  c307_3 run fu fu x1 x36 x37 (.int .i64 0) σ1

theorem eq307_1 (run : RunT) (fu : Nat) (x0 x1 : AV) (σ : Store) : codeK X0 run (.seq .leaf (.seq (.seq .leaf (.block (.sub (fun fr σ => c307_3 run fu fu (G fr 1) (G fr 36) (G fr 37) (G fr 38) σ)))) (.sub (fun fr σ => c307_2 run fu (G fr 1) σ)))) (subC [true, true] b307) (frS 0 48 [(0, x0), (1, x1)]) σ k307 = c307_1 run fu x0 x1 σ := by kernel_rfl

theorem ok307_1 {run : RunT} (hrun : RunOK X0 run) (fu : Nat) : ∀ fr σ, KOK X0 48 (subC [true, true] b307) fr σ ((fun fr σ => c307_1 run fu (G fr 0) (G fr 1) σ) fr σ) k307 := fun fr σ =>
  KOK.piece env0 hrun [0, 1] (eq307_1 run fu (G fr 0) (G fr 1) σ) ⟨trivial, ⟨⟨trivial, (ok307_3 hrun fu)⟩, (ok307_2 hrun fu)⟩⟩

noncomputable def c307 (run : RunT) (fu : Nat) (x0 x1 : AV) (σ : Store) : Tr R :=
  calK run 309 [] σ fun x7 σ1 =>
  nchkK x0 fun x9 =>
  addrK x9 1 fun x10 =>
  ld1K σ1 x10 fun x11 =>
  calK run 310 [x7, x11] σ1 fun x12 σ2 =>
  catK (.str [60, 97, 32, 104, 114, 101, 102, 61, 34]) x12 fun x13 =>
  catK x13 (.str [34]) fun x14 =>
  calK run 308 [x1, x14] σ2 fun x15 σ3 =>
  ld1K σ x10 fun v4 =>
  must (AV.beq v4 x11) (
  nchkK x0 fun x17 =>
  addrK x17 2 fun x18 =>
  ld1K σ3 x18 fun x19 =>
  neSK x19 (.str []) fun x20 =>
  ifK x20 (
  .fail) (
  c307_1 run fu x0 x1 σ3))

theorem eq307 (run : RunT) (fu : Nat) (x0 x1 : AV) (σ : Store) : codeK X0 run (.seq .leaf (.seq (.seq .leaf (.cond (.sub deadK) .leaf)) (.sub (fun fr σ => c307_1 run fu (G fr 0) (G fr 1) σ)))) (subC [] b307) ([x0, x1] ++ padA (48 - 2)) σ k307 = c307 run fu x0 x1 σ := by kernel_rfl

theorem ok307 {run : RunT} (hrun : RunOK X0 run) (fu : Nat) (x0 x1 : AV) (σ : Store) : CallOK X0 307 [x0, x1] σ (c307 run fu x0 x1 σ) :=
  KOK.body (fn := Tryz.f307) (c := subC [] b307) (by kernel_rfl) (by kernel_rfl) (by show 2 ≤ 48; decide) (KOK.whole env0 hrun (eq307 run fu x0 x1 σ) ⟨trivial, ⟨⟨trivial, ⟨KOK.dead, trivial⟩⟩, (ok307_1 hrun fu)⟩⟩)

end Go.Proofs.YtpefmbpjanafkaaGreatDoor
