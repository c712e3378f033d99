/- Functions of the program, told as Lean functions of abstract values and stores, each with its proof. -/
import Derived.Test.YtpefmbpjanafkaaGreatDoorSnX
import Derived.Test.YtpefmbpjanafkaaGreatDoorSnRe
import Derived.Test.YtpefmbpjanafkaaGreatDoorSnAb
set_option linter.unusedVariables false
set_option linter.unusedSimpArgs false
namespace Go.Proofs.YtpefmbpjanafkaaGreatDoor
open Go.AM
-- pub-paratext/pub/rscmarkdown.linkCorner

noncomputable def b132 : Code := match Tryz.f132.body with | some c => c | none => .skip

noncomputable def k132 : Kont R := retK Tryz.prog [.tmp 2]

noncomputable def c132_1 (run : RunT) (fu : Nat) (σ : Store) : Tr R :=
  .ret ((.bool false), σ)

theorem eq132_1 (run : RunT) (fu : Nat) (σ : Store) : codeK X0 run (.seq .leaf .leaf) (subC [true, true] b132) (frS 0 35 []) σ k132 = c132_1 run fu σ := by kernel_rfl

theorem ok132_1 {run : RunT} (hrun : RunOK X0 run) (fu : Nat) : ∀ fr σ, KOK X0 35 (subC [true, true] b132) fr σ ((fun fr σ => c132_1 run fu σ) fr σ) k132 := fun fr σ =>
  KOK.piece env0 hrun [] (eq132_1 run fu σ) ⟨trivial, trivial⟩

noncomputable def c132_3 (run : RunT) (fu : Nat) (s2 : W2) (x0 x3 : AV) (σ : Store) : Tr R :=
  addK x3 (.int .i64 1) fun x9 =>
  s2 x0 x9 σ

theorem eq132_3 (run : RunT) (fu : Nat) (s2 : W2) (x0 x3 : AV) (σ : Store) : codeK X0 run .leaf (subC [true, false, true, false, false, true, true] b132) (frS 0 35 [(0, x0), (3, x3)]) σ (thenK (fun fr σ => s2 (G fr 0) (G fr 3) σ) (blockK 0 (thenK (fun fr σ => c132_1 run fu σ) k132))) = c132_3 run fu s2 x0 x3 σ := by kernel_rfl

theorem ok132_3 {run : RunT} (hrun : RunOK X0 run) (fu : Nat) (s2 : W2) : ∀ fr σ, KOK X0 35 (subC [true, false, true, false, false, true, true] b132) fr σ ((fun fr σ => c132_3 run fu s2 (G fr 0) (G fr 3) σ) fr σ) (thenK (fun fr σ => s2 (G fr 0) (G fr 3) σ) (blockK 0 (thenK (fun fr σ => c132_1 run fu σ) k132))) := fun fr σ =>
  KOK.piece env0 hrun [0, 3] (eq132_3 run fu s2 (G fr 0) (G fr 3) σ) trivial

noncomputable def c132_2b (run : RunT) (fu : Nat) (s2 : W2) (x0 x3 : AV) (σ : Store) : Tr R :=
  lenSK x0 fun x6 =>
  cmpK .lss x3 x6 fun x7 =>
  ifK x7 (
  idxSK x0 x3 fun x12 =>
  cmpK .eql x12 (.int .u8 37) fun x13 =>
  ifK x13 (
  addK x3 (.int .i64 2) fun x15 =>
  lenSK x0 fun x17 =>
  cmpK .geq x15 x17 fun x18 =>
  grdK x18 false σ (fun f => f x0 σ) fun x20 σ1 =>
  grdK x18 false σ1 (fun f => f x3 σ1) fun x21 σ2 =>
  grdK x18 false σ2 (fun f => addK x21 (.int .i64 1) fun v => f v σ2) fun x22 σ3 =>
  grdK x18 false σ3 (fun f => idxSK x20 x22 fun v => f v σ3) fun x23 σ4 =>
  grdK x18 false σ4 (fun f => calK run 168 [x23] σ4 f) fun x24 σ5 =>
  grdK x18 false σ5 (fun f => notK x24 fun v => f v σ5) fun x25 σ6 =>
  pickK x18 (.bool true) x25 fun x26 =>
  grdK x26 false σ6 (fun f => f x0 σ6) fun x28 σ7 =>
  grdK x26 false σ7 (fun f => f x3 σ7) fun x29 σ8 =>
  grdK x26 false σ8 (fun f => addK x29 (.int .i64 2) fun v => f v σ8) fun x30 σ9 =>
  grdK x26 false σ9 (fun f => idxSK x28 x30 fun v => f v σ9) fun x31 σ10 =>
  grdK x26 false σ10 (fun f => calK run 168 [x31] σ10 f) fun x32 σ11 =>
  grdK x26 false σ11 (fun f => notK x32 fun v => f v σ11) fun x33 σ12 =>
  pickK x26 (.bool true) x33 fun x34 =>
  ifK x34 (
  .ret ((.bool true), σ12)) (
  c132_3 run fu s2 x0 x3 σ12)) (
  c132_3 run fu s2 x0 x3 σ)) (
  c132_1 run fu σ)

noncomputable def c132_2 (run : RunT) (fu : Nat) : Nat → W2
  | 0 => fun _ _ _ => .fail
  | m + 1 => c132_2b run fu (c132_2 run fu m)

theorem eq132_2 (run : RunT) (fu : Nat) (s2 : W2) (x0 x3 : AV) (σ : Store) : codeK X0 run (.seq (.seq .leaf (.cond .leaf .leaf)) (.seq (.block (.seq .leaf (.cond (.seq .leaf (.cond (.seq .leaf .leaf) .leaf)) .leaf))) (.sub (fun fr σ => c132_3 run fu s2 (G fr 0) (G fr 3) σ)))) (subC [true, false, true, false, false] b132) (frS 0 35 [(0, x0), (3, x3)]) σ (thenK (fun fr σ => s2 (G fr 0) (G fr 3) σ) (blockK 0 (thenK (fun fr σ => c132_1 run fu σ) k132))) = c132_2b run fu s2 x0 x3 σ := by kernel_rfl

theorem owed132_2 {run : RunT} (hrun : RunOK X0 run) (fu : Nat) (s2 : W2) : Owes X0 run 35 (.seq (.seq .leaf (.cond .leaf .leaf)) (.seq (.block (.seq .leaf (.cond (.seq .leaf (.cond (.seq .leaf .leaf) .leaf)) .leaf))) (.sub (fun fr σ => c132_3 run fu s2 (G fr 0) (G fr 3) σ)))) (subC [true, false, true, false, false] b132) (thenK (fun fr σ => s2 (G fr 0) (G fr 3) σ) (blockK 0 (thenK (fun fr σ => c132_1 run fu σ) k132))) :=
  ⟨⟨trivial, ⟨trivial, trivial⟩⟩, ⟨⟨trivial, ⟨⟨trivial, ⟨⟨trivial, trivial⟩, trivial⟩⟩, trivial⟩⟩, (ok132_3 hrun fu s2)⟩⟩

theorem ok132_2 {run : RunT} (hrun : RunOK X0 run) (fu : Nat) : ∀ fr σ, KOK X0 35 (subC [true, false, true, false] b132) fr σ ((fun fr σ => c132_2 run fu fu (G fr 0) (G fr 3) σ) fr σ) (blockK 0 (thenK (fun fr σ => c132_1 run fu σ) k132)) := by
  have h := KOK.loop (X := X0) (N := 35) (b := (subC [true, false, true, false, false] b132)) (k := (blockK 0 (thenK (fun fr σ => c132_1 run fu σ) k132))) (u := fun m fr σ => c132_2 run fu m (G fr 0) (G fr 3) σ) (fun _ _ => rfl) (fun m fr σ => KOK.piece env0 hrun [0, 3] (eq132_2 run fu (c132_2 run fu m) (G fr 0) (G fr 3) σ) (owed132_2 hrun fu (c132_2 run fu m)))
  exact fun fr σ => h fu fr σ

noncomputable def c132 (run : RunT) (fu : Nat) (x0 : AV) (σ : Store) : Tr R :=
  c132_2 run fu fu x0 (.int .i64 0) σ

theorem eq132 (run : RunT) (fu : Nat) (x0 : AV) (σ : Store) : codeK X0 run (.seq .leaf (.seq (.seq .leaf (.block (.sub (fun fr σ => c132_2 run fu fu (G fr 0) (G fr 3) σ)))) (.sub (fun fr σ => c132_1 run fu σ)))) (subC [] b132) ([x0] ++ padA (35 - 1)) σ k132 = c132 run fu x0 σ := by kernel_rfl

theorem ok132 {run : RunT} (hrun : RunOK X0 run) (fu : Nat) (x0 : AV) (σ : Store) : CallOK X0 132 [x0] σ (c132 run fu x0 σ) :=
  KOK.body (fn := Tryz.f132) (c := subC [] b132) (by kernel_rfl) (by kernel_rfl) (by show 1 ≤ 35; decide) (KOK.whole env0 hrun (eq132 run fu x0 σ) ⟨trivial, ⟨⟨trivial, (ok132_2 hrun fu)⟩, (ok132_1 hrun fu)⟩⟩)

-- pub-paratext/pub/rscmarkdown.isHexDigit

noncomputable def b168 : Code := match Tryz.f168.body with | some c => c | none => .skip

noncomputable def k168 : Kont R := retK Tryz.prog [.tmp 2]

noncomputable def c168 (run : RunT) (fu : Nat) (x0 : AV) (σ : Store) : Tr R :=
  cmpK .leq (.int .u8 65) x0 fun x4 =>
  grdK x4 true σ (fun f => f x0 σ) fun x6 σ1 =>
  grdK x4 true σ1 (fun f => cmpK .leq x6 (.int .u8 70) fun v => f v σ1) fun x7 σ2 =>
  pickK x4 x7 (.bool false) fun x8 =>
  grdK x8 false σ2 (fun f => f x0 σ2) fun x10 σ3 =>
  grdK x8 false σ3 (fun f => cmpK .leq (.int .u8 97) x10 fun v => f v σ3) fun x11 σ4 =>
  grdK x8 false σ4 (fun f => f x11 σ4) fun x12 σ5 =>
  grdK x12 true σ5 (fun f => f x0 σ5) fun x13 σ6 =>
  grdK x12 true σ6 (fun f => cmpK .leq x13 (.int .u8 102) fun v => f v σ6) fun x14 σ7 =>
  grdK x8 false σ7 (fun f => pickK x12 x14 (.bool false) fun v => f v σ7) fun x15 σ8 =>
  pickK x8 (.bool true) x15 fun x16 =>
  grdK x16 false σ8 (fun f => f x0 σ8) fun x18 σ9 =>
  grdK x16 false σ9 (fun f => cmpK .leq (.int .u8 48) x18 fun v => f v σ9) fun x19 σ10 =>
  grdK x16 false σ10 (fun f => f x19 σ10) fun x20 σ11 =>
  grdK x20 true σ11 (fun f => f x0 σ11) fun x21 σ12 =>
  grdK x20 true σ12 (fun f => cmpK .leq x21 (.int .u8 57) fun v => f v σ12) fun x22 σ13 =>
  grdK x16 false σ13 (fun f => pickK x20 x22 (.bool false) fun v => f v σ13) fun x23 σ14 =>
  pickK x16 (.bool true) x23 fun x24 =>
  .ret (x24, σ14)

theorem eq168 (run : RunT) (fu : Nat) (x0 : AV) (σ : Store) : codeK X0 run (.seq .leaf (.seq .leaf .leaf)) (subC [] b168) ([x0] ++ padA (25 - 1)) σ k168 = c168 run fu x0 σ := by kernel_rfl

theorem ok168 {run : RunT} (hrun : RunOK X0 run) (fu : Nat) (x0 : AV) (σ : Store) : CallOK X0 168 [x0] σ (c168 run fu x0 σ) :=
  KOK.body (fn := Tryz.f168) (c := subC [] b168) (by kernel_rfl) (by kernel_rfl) (by show 1 ≤ 25; decide) (KOK.whole env0 hrun (eq168 run fu x0 σ) ⟨trivial, ⟨trivial, trivial⟩⟩)

end Go.Proofs.YtpefmbpjanafkaaGreatDoor
