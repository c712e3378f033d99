/- bytes.Buffer's writers, with the whole world behind them told: over any program that bears the library's texts. -/
import Derived.Shelf.LaysM
import Derived.Shelf.RegionOpenPlain
import Derived.Shelf.Bytes.Len
import Derived.Shelf.Bytes.TryGrow
import Derived.Shelf.Bytes.GrowSlice
import Derived.Lib.ByteType
import Derived.Lib.BufferOwn
import Derived.Lib.BufferWrite
import Derived.Lib.Walk
import Derived.Lib.Buffer
import Derived.Lib.BufferMore
import Derived.Lib.BufferGrow
import Derived.Lib.Hide
import Derived.Laws.MakeOwn
import Derived.WalkKit
import Derived.RegionTactic
import Derived.Deep.RegionWith
import Derived.Deep.Draws
import Derived.BigCall
import Derived.BigGuard
import Derived.Lib.BufferKept
set_option linter.unusedVariables false
set_option linter.unusedSimpArgs false
namespace Go.AM
open Go.Shelf Go.RowKit Go.Proofs
variable {P : Program} {ρ : Ren}

/-- Behind grow: the buffer (block b) has a row of its own making, N, with room for n bytes more; no other block is another one. -/
structure Grown (T e : TypeId) (b : Nat) (bs : List Value) (n : Nat) (lr : Int) (w w' : World) : Prop where
  frame : w.grownBy w' (some b)
  row : ∃ N cap cells, w.heap.size ≤ N ∧ w'.heap[b]? = some (.cells #[.slice (some ⟨N, 0, none⟩) (bs.length + n) cap, .int .i64 0, .int .i8 lr] T (0, 0)) ∧
    w'.heap[N]? = some (.cells cells e (0, 0)) ∧ cells.size = cap ∧ bs.length + n ≤ cap ∧ cap ≤ maxLen ∧ cells.toList.take bs.length = bs

/-- What grow's last three stores leave. -/
theorem Grown.mk3 {T e : TypeId} {b n N cap2 : Nat} {bs : List Value} {lr : Int} {w w2 : World} {v0 : Value} {cells : Array Value} (hsz : w.heap.size ≤ N) (hNb : N ≠ b) (hg : w.grownBy w2 (some b))
    (hbk2 : w2.heap[b]? = some (.cells #[v0, .int .i64 0, .int .i8 lr] T (0, 0))) (hN : w2.heap[N]? = some (.cells cells e (0, 0)))
    (hcsz : cells.size = cap2) (htk : cells.toList.take bs.length = bs) (hcap2 : bs.length + n ≤ cap2) (hcm2 : cap2 ≤ maxLen) (v1 : Value) :
    Grown T e b bs n lr w (((w2.setCell ⟨b, 0, none⟩ v1).setCell ⟨b, 1, none⟩ (.int .i64 0)).setCell ⟨b, 0, none⟩ (.slice (some ⟨N, 0, none⟩) (bs.length + n) cap2)) := by
  have hbkf := Lib.heap_setCell_same (i := 0) (Lib.heap_setCell_same (i := 1) (Lib.heap_setCell_same (i := 0) hbk2 v1) (.int .i64 0)) (.slice (some ⟨N, 0, none⟩) (bs.length + n) cap2)
  refine ⟨Lib.grownBy_setB (Lib.grownBy_setB (Lib.grownBy_setB hg 0 _) 1 _) 0 _, N, cap2, cells, hsz, hbkf, ?_, hcsz, hcap2, hcm2, htk⟩
  rw [Below.heap_setCell _ _ _ _ hNb, Below.heap_setCell _ _ _ _ hNb, Below.heap_setCell _ _ _ _ hNb]
  exact hN

set_option maxHeartbeats 6400000 in
set_option maxRecDepth 100000 in
/-- grow of a buffer without a row, by up to 64 bytes. -/
theorem grow_small (L : LaysM.n252 P ρ) (b n : Nat) (lr : Int) (w : World)
    (hbk : w.heap[b]? = some (.cells #[.slice none 0 0, .int .i64 0, .int .i8 lr] (ρ.t 93) (0, 0))) (hn : 1 ≤ n) (h64 : n ≤ 64) :
    Calls P (ρ.f 252) #[.pointer (some ⟨b, 0, none⟩), .int .i64 n] w fun e w' => e = .returned (.int .i64 0) ∧ Grown (ρ.t 93) (ρ.t 5) b [] n lr w w' := by
  have mixed := L.mixed
  have t5 := L.t5; have a5 := L.a5; have z5 := L.z5; have v5 := L.v5
  have t130 := L.t130; have a130 := L.a130; have z130 := L.z130; have v130 := L.v130
  have t3 := L.t3; have a3 := L.a3; have z3 := L.z3; have v3 := L.v3
  have t4 := L.t4; have a4 := L.a4; have z4 := L.z4; have v4 := L.v4
  have t0 := L.t0; have a0 := L.a0; have z0 := L.z0; have v0 := L.v0
  have t93 := L.t93; have u93 := run_underlying L.t93; have a93 := L.a93; have z93 := L.z93; have v93 := L.v93
  have t131 := L.t131; have a131 := L.a131; have z131 := L.z131; have v131 := L.v131
  have t37 := L.t37; have a37 := L.a37; have z37 := L.z37; have v37 := L.v37
  have t75 := L.t75; have a75 := L.a75; have z75 := L.z75; have v75 := L.v75
  have e181 : ∀ args w, (callFunc (ρ.f 181) args).run P w = .ok (.enter (ρ.f 181) args) w := enters_of L.f181 (by kernel_rfl) rfl
  have e251 : ∀ args w, (callFunc (ρ.f 251) args).run P w = .ok (.enter (ρ.f 251) args) w := enters_of L.f251 (by kernel_rfl) rfl
  obtain ⟨i0, hi, hz0, hz1, hz2⟩ := info_parts L.i5
  obtain ⟨M, hM⟩ : ∃ M, M = madeCells (Value.int .u8 0).cells ((64 : Int).toNat * i0.size) := ⟨_, rfl⟩
  have hMs : M.size = 64 := by rw [hM, size_madeCells, hz1]; rfl
  have hmk : ∀ W : World, (Instr.makeSlice (ρ.t 37) (.int .i64 (n : Int)) (.int .i64 64)).run P W = .ok (.slice (some ⟨W.heap.size, 0, none⟩) n 64) (W.alloc (.cells M (ρ.t 5))) := fun W => by
    have h := run_makeSlice (P := P) W (ρ.t 37) (ρ.t 5) i0 (.int .u8 0) L.t37 hi hz0 .i64 .i64 (n : Int) 64 (by omega) (by omega) (by rw [hz1]; decide) (by rw [hz2]; decide) (by decide)
    rw [← hM] at h
    simpa using h
  clear hM
  have hIs : Lib.IsBuffer (ρ.t 93) (ρ.t 5) 0 b [] w := ⟨Nat.zero_le _, _, _, hbk, World.ownsRow_nil _ _ _ _, by simp [Value.ownBlock]⟩
  have hnil : ∀ W, (binOp .eql (ρ.t 37) (.slice none 0 0) (.slice none 0 0)).run P W = .ok (.bool true) W := fun W => Lib.run_eql_slice_nil_nil W _ _ L.t37
  go_enter L.f252, Body.n252_ntmps ρ
  go_wp2_with (go_at_fn (ρ.f 181); refine (Any.Buffer_Len { L with } 0 b [] _ hIs).mono ?_)
  rintro e W0 ⟨rfl, k, hW0⟩
  have hbk0 : W0.heap[b]? = some (.cells #[.slice none 0 0, .int .i64 0, .int .i8 lr] (ρ.t 93) (0, 0)) := by rw [hW0]; exact hbk
  have c0 : W0.cell? ⟨b, 0, none⟩ = some (.slice none 0 0) := by rw [Lib.cell_of_heap hbk0]; rfl
  have c1 : W0.cell? ⟨b, 1, none⟩ = some (.int .i64 0) := by rw [Lib.cell_of_heap hbk0]; rfl
  have f0 : W0.frozen? ⟨b, 0, none⟩ = false := Lib.frozen_of_heap hbk0 0
  have f1 : W0.frozen? ⟨b, 1, none⟩ = false := Lib.frozen_of_heap hbk0 1
  have hbW0 := Lib.lt_of_heap hbk0
  have c0a : ∀ o, (W0.alloc o).cell? ⟨b, 0, none⟩ = some (.slice none 0 0) := fun o => (World.cell?_of_block (a := ⟨b, 0, none⟩) (Below.heap_alloc W0 o b hbW0)).trans c0
  have f0a : ∀ o, (W0.alloc o).frozen? ⟨b, 0, none⟩ = false := fun o => (World.frozen?_of_block (a := ⟨b, 0, none⟩) (Below.heap_alloc W0 o b hbW0)).trans f0
  have HW0 := Lib.hid hW0
  clear hW0 hIs
  go_wp2_with (go_at_fn (ρ.f 251); refine (Any.Buffer_tryGrow_none { L with } b _ 0 0 n _ c0 (Nat.le_refl _) (Nat.zero_le _) (by omega)).mono ?_; rintro e w' ⟨rfl, rfl⟩)
  go_ret
  have hsz0 : w'.heap.size = w.heap.size := by rw [HW0.out]; rfl
  have hg0 : w.grownBy w' (some b) := by rw [HW0.out]; exact ⟨rfl, rfl, rfl, Nat.le_refl _, fun _ _ _ => rfl⟩
  refine ⟨rfl, Lib.grownBy_allocR (Lib.grownBy_setB hg0 0 _) _, w'.heap.size, 64, M, by omega, ?_, ?_, hMs, by simpa using h64, by unfold maxLen; omega, by simp⟩
  · have hh := Lib.heap_setCell_same (i := 0) hbk0 (.slice (some ⟨w'.heap.size, 0, none⟩) n 64)
    have hsz : (w'.setCell ⟨b, 0, none⟩ (.slice (some ⟨w'.heap.size, 0, none⟩) n 64)).heap.size = w'.heap.size := by simp [World.setCell]
    have h2 := (Below.heap_alloc (w'.setCell ⟨b, 0, none⟩ (.slice (some ⟨w'.heap.size, 0, none⟩) n 64)) (.cells M (ρ.t 5)) b (by rw [hsz]; exact hbW0)).trans hh
    simpa using h2
  · have h := heap_alloc_new (w'.setCell ⟨b, 0, none⟩ (.slice (some ⟨w'.heap.size, 0, none⟩) n 64)) (.cells M (ρ.t 5))
    have hsz : (w'.setCell ⟨b, 0, none⟩ (.slice (some ⟨w'.heap.size, 0, none⟩) n 64)).heap.size = w'.heap.size := by simp [World.setCell]
    rw [hsz] at h
    exact h

set_option maxHeartbeats 12800000 in
set_option maxRecDepth 100000 in
/-- grow of a buffer without a row, by more than 64 bytes. -/
theorem grow_big (L : LaysM.n252 P ρ) (b n : Nat) (lr : Int) (w : World)
    (hbk : w.heap[b]? = some (.cells #[.slice none 0 0, .int .i64 0, .int .i8 lr] (ρ.t 93) (0, 0))) (h64 : 64 < n) (hlim : n ≤ 140737488355328) :
    Calls P (ρ.f 252) #[.pointer (some ⟨b, 0, none⟩), .int .i64 n] w fun e w' => e = .returned (.int .i64 0) ∧ Grown (ρ.t 93) (ρ.t 5) b [] n lr w w' := by
  have mixed := L.mixed
  have t5 := L.t5; have a5 := L.a5; have z5 := L.z5; have v5 := L.v5
  have t130 := L.t130; have a130 := L.a130; have z130 := L.z130; have v130 := L.v130
  have t3 := L.t3; have a3 := L.a3; have z3 := L.z3; have v3 := L.v3
  have t4 := L.t4; have a4 := L.a4; have z4 := L.z4; have v4 := L.v4
  have t0 := L.t0; have a0 := L.a0; have z0 := L.z0; have v0 := L.v0
  have t93 := L.t93; have u93 := run_underlying L.t93; have a93 := L.a93; have z93 := L.z93; have v93 := L.v93
  have t131 := L.t131; have a131 := L.a131; have z131 := L.z131; have v131 := L.v131
  have t37 := L.t37; have a37 := L.a37; have z37 := L.z37; have v37 := L.v37
  have t75 := L.t75; have a75 := L.a75; have z75 := L.z75; have v75 := L.v75
  have e181 : ∀ args w, (callFunc (ρ.f 181) args).run P w = .ok (.enter (ρ.f 181) args) w := enters_of L.f181 (by kernel_rfl) rfl
  have e251 : ∀ args w, (callFunc (ρ.f 251) args).run P w = .ok (.enter (ρ.f 251) args) w := enters_of L.f251 (by kernel_rfl) rfl
  have e290 : ∀ args w, (callFunc (ρ.f 290) args).run P w = .ok (.enter (ρ.f 290) args) w := enters_of L.f290 (by kernel_rfl) rfl
  have hn : 1 ≤ n := by omega
  have hIs : Lib.IsBuffer (ρ.t 93) (ρ.t 5) 0 b [] w := ⟨Nat.zero_le _, _, _, hbk, World.ownsRow_nil _ _ _ _, by simp [Value.ownBlock]⟩
  have hnil : ∀ W, (binOp .eql (ρ.t 37) (.slice none 0 0) (.slice none 0 0)).run P W = .ok (.bool true) W := fun W => Lib.run_eql_slice_nil_nil W _ _ L.t37
  go_enter L.f252, Body.n252_ntmps ρ
  go_wp2_with (go_at_fn (ρ.f 181); refine (Any.Buffer_Len { L with } 0 b [] _ hIs).mono ?_)
  rintro e W0 ⟨rfl, k, hW0⟩
  have hbk0 : W0.heap[b]? = some (.cells #[.slice none 0 0, .int .i64 0, .int .i8 lr] (ρ.t 93) (0, 0)) := by rw [hW0]; exact hbk
  have c0 : W0.cell? ⟨b, 0, none⟩ = some (.slice none 0 0) := by rw [Lib.cell_of_heap hbk0]; rfl
  have c1 : W0.cell? ⟨b, 1, none⟩ = some (.int .i64 0) := by rw [Lib.cell_of_heap hbk0]; rfl
  have f0 : W0.frozen? ⟨b, 0, none⟩ = false := Lib.frozen_of_heap hbk0 0
  have f1 : W0.frozen? ⟨b, 1, none⟩ = false := Lib.frozen_of_heap hbk0 1
  have HW0 := Lib.hid hW0
  clear hW0 hIs
  go_wp2_with (go_at_fn (ρ.f 251); refine (Any.Buffer_tryGrow_none { L with } b _ 0 0 n _ c0 (Nat.le_refl _) (Nat.zero_le _) (by omega)).mono ?_; rintro e w' ⟨rfl, rfl⟩)
  have hbW := Lib.lt_of_heap hbk0
  have hwn : IntKind.i64.wrap (n : Int) = n := by rw [IntKind.wrap_i64]; omega
  go_region_with_o (
      go_at_fn (ρ.f 290)
      refine (Any.bytes_growSlice_nil { L with } n _ hn hlim).mono ?_
      rintro e w2 ⟨cap2, cells, rfl, hN, hcsz, hcap2, hcm2, hbel⟩
      have hbk2 : w2.heap[b]? = some (.cells #[.slice none 0 0, .int .i64 0, .int .i8 lr] (ρ.t 93) (0, 0)) := (hbel.block b hbW).trans hbk0
      have d0 : w2.cell? ⟨b, 0, none⟩ = some (.slice none 0 0) := by rw [Lib.cell_of_heap hbk2]; rfl
      have d1 : w2.cell? ⟨b, 1, none⟩ = some (.int .i64 0) := by rw [Lib.cell_of_heap hbk2]; rfl
      have e0 : w2.frozen? ⟨b, 0, none⟩ = false := Lib.frozen_of_heap hbk2 0
      have e1 : w2.frozen? ⟨b, 1, none⟩ = false := Lib.frozen_of_heap hbk2 1)
  all_goals (
    go_wp2
    go_ret
    have hsz0 : w'.heap.size = w.heap.size := by rw [HW0.out]; rfl
    have hg2 : w.grownBy w2 (some b) := Lib.grownBy_below (w := w'.drew) (by rw [HW0.out]; exact ⟨rfl, rfl, rfl, Nat.le_refl _, fun _ _ _ => rfl⟩) hbel
    exact ⟨rfl, by simpa using Grown.mk3 (n := n) (bs := []) (N := w'.heap.size) (by omega) (by omega) hg2 hbk2 hN hcsz (by simp) (by simpa using hcap2) hcm2 _⟩)

set_option maxHeartbeats 12800000 in
set_option maxRecDepth 100000 in
/-- grow of a buffer whose row has no room. -/
theorem grow_row (L : LaysM.n252 P ρ) (b g l cap n : Nat) (lr : Int) (cur : Array Value) (bs : List Value) (w : World)
    (hbk : w.heap[b]? = some (.cells #[.slice (some ⟨g, 0, none⟩) l cap, .int .i64 0, .int .i8 lr] (ρ.t 93) (0, 0)))
    (hl : bs.length = l) (hl0 : l ≠ 0) (hg : w.heap[g]? = some (.cells cur (ρ.t 5) (0, 0))) (hlc : l ≤ cap) (hcm : cap ≤ maxLen) (hcs : cur.size = cap) (htake : cur.toList.take l = bs) (hgb : g ≠ b)
    (h1 : ∀ v ∈ bs, v.oneCell' = true) (hn : 1 ≤ n) (hroom : cap - l < n) (hlim : l + n ≤ 140737488355328) :
    Calls P (ρ.f 252) #[.pointer (some ⟨b, 0, none⟩), .int .i64 n] w fun e w' => e = .returned (.int .i64 l) ∧ Grown (ρ.t 93) (ρ.t 5) b bs n lr w w' := by
  have mixed := L.mixed
  have t5 := L.t5; have a5 := L.a5; have z5 := L.z5; have v5 := L.v5
  have t130 := L.t130; have a130 := L.a130; have z130 := L.z130; have v130 := L.v130
  have t3 := L.t3; have a3 := L.a3; have z3 := L.z3; have v3 := L.v3
  have t4 := L.t4; have a4 := L.a4; have z4 := L.z4; have v4 := L.v4
  have t0 := L.t0; have a0 := L.a0; have z0 := L.z0; have v0 := L.v0
  have t93 := L.t93; have u93 := run_underlying L.t93; have a93 := L.a93; have z93 := L.z93; have v93 := L.v93
  have t131 := L.t131; have a131 := L.a131; have z131 := L.z131; have v131 := L.v131
  have t37 := L.t37; have a37 := L.a37; have z37 := L.z37; have v37 := L.v37
  have t75 := L.t75; have a75 := L.a75; have z75 := L.z75; have v75 := L.v75
  have e181 : ∀ args w, (callFunc (ρ.f 181) args).run P w = .ok (.enter (ρ.f 181) args) w := enters_of L.f181 (by kernel_rfl) rfl
  have e251 : ∀ args w, (callFunc (ρ.f 251) args).run P w = .ok (.enter (ρ.f 251) args) w := enters_of L.f251 (by kernel_rfl) rfl
  have e290 : ∀ args w, (callFunc (ρ.f 290) args).run P w = .ok (.enter (ρ.f 290) args) w := enters_of L.f290 (by kernel_rfl) rfl
  have hIs : Lib.IsBuffer (ρ.t 93) (ρ.t 5) 0 b bs w := ⟨Nat.zero_le _, _, _, hbk, ⟨by rw [hl, Nat.mul_one], .inr ⟨g, cap, cur, by rw [hl], Nat.zero_le _, hg, by omega, hcm, by omega, by rw [hl, Nat.mul_one]; exact htake⟩⟩, by simp [Value.ownBlock]; exact hgb⟩
  have hnil : ∀ W, (binOp .eql (ρ.t 37) (.slice (some ⟨g, 0, none⟩) l cap) (.slice none 0 0)).run P W = .ok (.bool false) W := fun W => Lib.run_eql_slice_some_nil W _ _ _ L.t37
  go_enter L.f252, Body.n252_ntmps ρ
  go_wp2_with (go_at_fn (ρ.f 181); refine (Any.Buffer_Len { L with } 0 b bs _ hIs).mono ?_)
  rintro e W0 ⟨rfl, k, hW0⟩
  rw [hl]
  have hbk0 : W0.heap[b]? = some (.cells #[.slice (some ⟨g, 0, none⟩) l cap, .int .i64 0, .int .i8 lr] (ρ.t 93) (0, 0)) := by rw [hW0]; exact hbk
  have hg0 : W0.heap[g]? = some (.cells cur (ρ.t 5) (0, 0)) := by rw [hW0]; exact hg
  have c0 : W0.cell? ⟨b, 0, none⟩ = some (.slice (some ⟨g, 0, none⟩) l cap) := by rw [Lib.cell_of_heap hbk0]; rfl
  have c1 : W0.cell? ⟨b, 1, none⟩ = some (.int .i64 0) := by rw [Lib.cell_of_heap hbk0]; rfl
  have f0 : W0.frozen? ⟨b, 0, none⟩ = false := Lib.frozen_of_heap hbk0 0
  have f1 : W0.frozen? ⟨b, 1, none⟩ = false := Lib.frozen_of_heap hbk0 1
  have HW0 := Lib.hid hW0
  clear hW0 hIs
  have hcm' := hcm
  unfold maxLen at hcm'
  go_wp2_with (go_at_fn (ρ.f 251); refine (Any.Buffer_tryGrow_none { L with } b _ l cap n _ c0 hlc hcm hroom).mono ?_; rintro e w' ⟨rfl, rfl⟩)
  have hc2 : cap ≤ 140737488355328 := by omega
  have h1' : ∀ v ∈ cur.toList.take l, v.oneCell' = true := by rw [htake]; exact h1
  have hbW := Lib.lt_of_heap hbk0
  have hwn : IntKind.i64.wrap (n : Int) = n := by rw [IntKind.wrap_i64]; omega
  go_region_with_o (
      go_at_fn (ρ.f 290)
      refine (Any.bytes_growSlice_row { L with } g l cap n cur _ ?_ hcs hlc hn hlim hc2 h1').mono ?_
      exact hg0
      rintro e w2 ⟨cap2, cells, rfl, hN, hcsz, htk, hcap2, hcm2, hbel⟩
      have hbk2 : w2.heap[b]? = some (.cells #[.slice (some ⟨g, 0, none⟩) l cap, .int .i64 0, .int .i8 lr] (ρ.t 93) (0, 0)) := (hbel.block b hbW).trans hbk0
      have d0 : w2.cell? ⟨b, 0, none⟩ = some (.slice (some ⟨g, 0, none⟩) l cap) := by rw [Lib.cell_of_heap hbk2]; rfl
      have d1 : w2.cell? ⟨b, 1, none⟩ = some (.int .i64 0) := by rw [Lib.cell_of_heap hbk2]; rfl
      have e0 : w2.frozen? ⟨b, 0, none⟩ = false := Lib.frozen_of_heap hbk2 0
      have e1 : w2.frozen? ⟨b, 1, none⟩ = false := Lib.frozen_of_heap hbk2 1)
  all_goals (
    go_wp2
    go_ret
    have hsz0 : w'.heap.size = w.heap.size := by rw [HW0.out]; rfl
    have hg2 : w.grownBy w2 (some b) := Lib.grownBy_below (w := w'.drew) (by rw [HW0.out]; exact ⟨rfl, rfl, rfl, Nat.le_refl _, fun _ _ _ => rfl⟩) hbel
    subst hl
    exact ⟨rfl, Grown.mk3 (n := n) (bs := bs) (N := w'.heap.size) (by omega) (by omega) hg2 hbk2 hN hcsz (htk.trans htake) hcap2 hcm2 _⟩)
end Go.AM
/- bytes.Buffer's WriteString and WriteByte, with the whole world behind them told. -/
namespace Go.AM
open Go.Shelf Go.RowKit Go.Proofs
variable {P : Program} {ρ : Ren}

/-- The row of a buffer: none, or one that holds the bytes bs. -/
noncomputable def HasRow (e : TypeId) (b : Nat) (v : Value) (bs : List Value) (w : World) : Prop :=
  (v = .slice none 0 0 ∧ bs = []) ∨ ∃ g cap cur, v = .slice (some ⟨g, 0, none⟩) bs.length cap ∧ w.heap[g]? = some (.cells cur e (0, 0)) ∧ bs.length ≠ 0 ∧ bs.length ≤ cap ∧ cap ≤ maxLen ∧ cur.size = cap ∧ cur.toList.take bs.length = bs ∧ g ≠ b

/-- Behind a write: the buffer's row, the old one or a new one, holds bs; no other old block is another one. -/
structure Wrote (T e : TypeId) (b : Nat) (v : Value) (bs : List Value) (w w' : World) : Prop where
  os : w'.os = w.os
  tape : w'.tape = w.tape
  output : w'.output = w.output
  size : w.heap.size ≤ w'.heap.size
  keep : ∀ k, k < w.heap.size → k ≠ b → v.ownBlock ≠ some k → w'.heap[k]? = w.heap[k]?
  row : ∃ g cap cur, w'.heap[b]? = some (.cells #[.slice (some ⟨g, 0, none⟩) bs.length cap, .int .i64 0, .int .i8 0] T (0, 0)) ∧ w'.heap[g]? = some (.cells cur e (0, 0)) ∧ cur.size = cap ∧ bs.length ≤ cap ∧ cap ≤ maxLen ∧
    cur.toList.take bs.length = bs ∧ g ≠ b ∧ (v.ownBlock = some g ∨ w.heap.size ≤ g)

/-- n bytes are written at the end of a row with room. -/
theorem Wrote.ofCopy {T e : TypeId} {b g cap : Nat} {v : Value} {bs news : List Value} {cur : Array Value} {w W : World} (hg0 : w.grownBy W (some b)) (hbk : W.heap[b]? = some (.cells #[.slice (some ⟨g, 0, none⟩) (bs.length + news.length) cap, .int .i64 0, .int .i8 0] T (0, 0)))
    (hg : W.heap[g]? = some (.cells cur e (0, 0))) (hcs : cur.size = cap) (hle : bs.length + news.length ≤ cap) (hcm : cap ≤ maxLen) (htk : cur.toList.take bs.length = bs) (hgb : g ≠ b) (how : v.ownBlock = some g ∨ w.heap.size ≤ g) :
    Wrote T e b v (bs ++ news) w (W.setRow g (cur.toList.take bs.length ++ news ++ cur.toList.drop (bs.length + news.length)).toArray) := by
  have hl : (cur.toList.take bs.length).length = bs.length := by rw [htk]
  refine ⟨hg0.os, hg0.tape, hg0.output, by simpa using hg0.size, fun k hk hkb hkv => ?_, g, cap, _, ?_, setRow_heap W g cur _ e (0, 0) hg, ?_, by rw [List.length_append]; exact hle, hcm, ?_, hgb, how⟩
  · have hkg : k ≠ g := by
      rcases how with h | h
      · intro e1; subst e1; exact hkv h
      · omega
    rw [setRow_other _ _ _ _ hkg]
    exact hg0.block k hk (fun e1 => hkb (Option.some.inj e1))
  · rw [setRow_other _ _ _ _ (Ne.symm hgb), List.length_append]; exact hbk
  · simp only [List.size_toArray, List.length_append, hl, List.length_drop, Array.length_toList]; omega
  · rw [List.toList_toArray, htk, List.take_append_of_le_length (by simp), List.take_of_length_le (by simp)]

/-- A row with cells, where there is one. -/
noncomputable def RowAt (e : TypeId) (b cap : Nat) (ao : Option Addr) (bs : List Value) (w : World) : Prop :=
  cap ≠ 0 → ∃ g cur, ao = some ⟨g, 0, none⟩ ∧ w.heap[g]? = some (.cells cur e (0, 0)) ∧ bs.length ≠ 0 ∧ cur.size = cap ∧ cur.toList.take bs.length = bs ∧ g ≠ b
/-- A slice's parts, of a buffer's row. -/
theorem HasRow.parts {e : TypeId} {b : Nat} {v : Value} {bs : List Value} {w : World} (h : HasRow e b v bs w) : ∃ ao cap, v = .slice ao bs.length cap ∧ bs.length ≤ cap ∧ cap ≤ maxLen ∧ RowAt e b cap ao bs w ∧ (cap = 0 → ao = none ∧ bs = []) := by
  rcases h with ⟨rfl, rfl⟩ | ⟨g, cap, cur, rfl, hg, h0, hlc, hcm, hcs, htk, hgb⟩
  · exact ⟨none, 0, rfl, Nat.le_refl _, Nat.zero_le _, fun h => (h rfl).elim, fun _ => ⟨rfl, rfl⟩⟩
  · exact ⟨some ⟨g, 0, none⟩, cap, rfl, hlc, hcm, fun _ => ⟨g, cur, rfl, hg, h0, hcs, htk, hgb⟩, fun h => by omega⟩

/-- grow, where there is no room. -/
theorem grow_any (L : LaysM.n252 P ρ) (b n cap : Nat) (ao : Option Addr) (bs : List Value) (w : World) (hbk : w.heap[b]? = some (.cells #[.slice ao bs.length cap, .int .i64 0, .int .i8 0] (ρ.t 93) (0, 0)))
    (hlc : bs.length ≤ cap) (hcm : cap ≤ maxLen) (hr : RowAt (ρ.t 5) b cap ao bs w) (hz : cap = 0 → ao = none ∧ bs = [])
    (h1 : ∀ v ∈ bs, v.oneCell' = true) (hn : 1 ≤ n) (hroom : cap - bs.length < n) (hlim : bs.length + n ≤ 140737488355328) :
    Calls P (ρ.f 252) #[.pointer (some ⟨b, 0, none⟩), .int .i64 n] w fun e w' => e = .returned (.int .i64 bs.length) ∧ Grown (ρ.t 93) (ρ.t 5) b bs n 0 w w' := by
  by_cases hc : cap = 0
  · obtain ⟨rfl, rfl⟩ := hz hc
    subst hc
    by_cases h64 : n ≤ 64
    · exact grow_small L b n 0 w hbk hn h64
    · exact grow_big L b n 0 w hbk (by omega) (by simpa using hlim)
  · obtain ⟨g, cur, rfl, hg, h0, hcs, htk, hgb⟩ := hr hc
    exact grow_row L b g bs.length cap n 0 cur bs w hbk rfl h0 hg hlc hcm hcs htk hgb h1 hn hroom hlim

/-- A buffer's block with its last-read field cleared. -/
theorem bufCleared {T : TypeId} {b : Nat} {v : Value} {lr : Int} {w : World} (hbk : w.heap[b]? = some (.cells #[v, .int .i64 0, .int .i8 lr] T (0, 0))) : (w.setCell ⟨b, 2, none⟩ (.int .i8 0)).heap[b]? = some (.cells #[v, .int .i64 0, .int .i8 0] T (0, 0)) :=
  Lib.heap_setCell_same (i := 2) hbk (.int .i8 0)
theorem bufSized {T : TypeId} {b : Nat} {v u : Value} {lr : Int} {w : World} (hbk : w.heap[b]? = some (.cells #[v, .int .i64 0, .int .i8 lr] T (0, 0))) : (w.setCell ⟨b, 0, none⟩ u).heap[b]? = some (.cells #[u, .int .i64 0, .int .i8 lr] T (0, 0)) :=
  Lib.heap_setCell_same (i := 0) hbk u

set_option maxHeartbeats 6400000 in
set_option maxRecDepth 100000 in
/-- (*bytes.Buffer).WriteString of a string that is not empty. -/
theorem buf_WriteString (L : LaysM.n178 P ρ) (b : Nat) (v : Value) (lr : Int) (bs : List Value) (s : ByteArray) (w : World) (hbk : w.heap[b]? = some (.cells #[v, .int .i64 0, .int .i8 lr] (ρ.t 93) (0, 0))) (hrow : HasRow (ρ.t 5) b v bs w)
    (h1 : ∀ v ∈ bs, v.oneCell' = true) (hs0 : s.size ≠ 0) (hlim : bs.length + s.size ≤ 140737488355328) :
    Calls P (ρ.f 178) #[.pointer (some ⟨b, 0, none⟩), .string s] w fun e w' => e = .returned (.tuple #[.int .i64 s.size, .nilIface]) ∧ Wrote (ρ.t 93) (ρ.t 5) b v (bs ++ Lib.byteCells s.data.toList) w w' := by
  have mixed := L.mixed
  have t5 := L.t5; have a5 := L.a5; have z5 := L.z5; have v5 := L.v5
  have t130 := L.t130; have a130 := L.a130; have z130 := L.z130; have v130 := L.v130
  have t9 := L.t9; have a9 := L.a9; have z9 := L.z9; have v9 := L.v9
  have t3 := L.t3; have a3 := L.a3; have z3 := L.z3; have v3 := L.v3
  have t75 := L.t75; have a75 := L.a75; have z75 := L.z75; have v75 := L.v75
  have t0 := L.t0; have a0 := L.a0; have z0 := L.z0; have v0 := L.v0
  have t93 := L.t93; have u93 := run_underlying L.t93; have a93 := L.a93; have z93 := L.z93; have v93 := L.v93
  have t91 := L.t91; have a91 := L.a91; have z91 := L.z91; have v91 := L.v91
  have t131 := L.t131; have a131 := L.a131; have z131 := L.z131; have v131 := L.v131
  have t4 := L.t4; have a4 := L.a4; have z4 := L.z4; have v4 := L.v4
  have t37 := L.t37; have a37 := L.a37; have z37 := L.z37; have v37 := L.v37
  have e251 : ∀ args w, (callFunc (ρ.f 251) args).run P w = .ok (.enter (ρ.f 251) args) w := enters_of L.f251 (by kernel_rfl) rfl
  have e252 : ∀ args w, (callFunc (ρ.f 252) args).run P w = .ok (.enter (ρ.f 252) args) w := enters_of L.f252 (by kernel_rfl) rfl
  have c2 : w.cell? ⟨b, 2, none⟩ = some (.int .i8 lr) := by rw [Lib.cell_of_heap hbk]; rfl
  have f2 : w.frozen? ⟨b, 2, none⟩ = false := Lib.frozen_of_heap hbk 2
  have hgr : w.grownBy (w.setCell ⟨b, 2, none⟩ (.int .i8 0)) (some b) := Lib.grownBy_setCell w b 2 _
  have hsz1 : (w.setCell ⟨b, 2, none⟩ (.int .i8 0)).heap.size = w.heap.size := by simp [World.setCell]
  have hbw := Lib.lt_of_heap hbk
  obtain ⟨ao, cap, rfl, hlc, hcm, hr, hz⟩ := hrow.parts
  have hbk1 := bufCleared hbk
  have c0 : (w.setCell ⟨b, 2, none⟩ (.int .i8 0)).cell? ⟨b, 0, none⟩ = some (.slice ao bs.length cap) := by rw [Lib.cell_of_heap hbk1]; rfl
  have f0 : (w.setCell ⟨b, 2, none⟩ (.int .i8 0)).frozen? ⟨b, 0, none⟩ = false := Lib.frozen_of_heap hbk1 0
  have hinfo : (P.info? (ρ.t 5)).map (·.size) = some 1 := by
    obtain ⟨i0, hi, -, hz1, -⟩ := info_parts L.i5
    rw [hi]; simp [hz1]
  have hnl : (Lib.byteCells s.data.toList).length = s.size := by rw [Lib.byteCells_length, ← Lib.size_eq]
  by_cases hroom : s.size ≤ cap - bs.length
  · have hc0 : cap ≠ 0 := by omega
    obtain ⟨g, cur, rfl, hg, h0, hcs, htk, hgb⟩ := hr hc0
    go_enter L.f178, Body.n178_ntmps ρ
    go_wp2_with (go_at_fn (ρ.f 251); refine (Any.Buffer_tryGrow_room { L with } b _ bs.length cap s.size _ c0 f0 hlc hcm hroom).mono ?_)
    rintro e W1 ⟨rfl, hW1⟩
    have hbk2 : W1.heap[b]? = some (.cells #[.slice (some ⟨g, 0, none⟩) (bs.length + s.size) cap, .int .i64 0, .int .i8 0] (ρ.t 93) (0, 0)) := by rw [hW1]; exact bufSized hbk1
    have hg2 : W1.heap[g]? = some (.cells cur (ρ.t 5) (0, 0)) := by rw [hW1, Below.heap_setCell _ _ _ _ hgb, Below.heap_setCell _ _ _ _ hgb]; exact hg
    have hgr2 : w.grownBy W1 (some b) := by rw [hW1]; exact Lib.grownBy_setB hgr 0 _
    clear hW1 hgr c0 f0 c2 f2 hbk1
    have d0 : W1.cell? ⟨b, 0, none⟩ = some (.slice (some ⟨g, 0, none⟩) (bs.length + s.size) cap) := by rw [Lib.cell_of_heap hbk2]; rfl
    have hne : ¬ cap = bs.length := by omega
    have hcp := Lib.run_copy_row_string (P := P) W1 (ρ.t 37) (ρ.t 9) (ρ.t 3) (ρ.t 5) g bs.length s.size (cap - bs.length) s cur (ρ.t 5) L.t37 hinfo hg2 (Nat.le_refl _) (by omega)
    have hcm' := hcm
    unfold maxLen at hcm'
    go_wp2
    go_ret2
    have := Wrote.ofCopy (v := .slice (some ⟨g, 0, none⟩) bs.length cap) (news := Lib.byteCells s.data.toList) hgr2 (by rw [hnl]; exact hbk2) hg2 hcs (by rw [hnl]; omega) hcm htk hgb (.inl rfl)
    rw [hnl, htk, List.append_assoc] at this
    exact ⟨rfl, this⟩
  · go_enter L.f178, Body.n178_ntmps ρ
    go_wp2_with (go_at_fn (ρ.f 251); refine (Any.Buffer_tryGrow_none { L with } b _ bs.length cap s.size _ c0 hlc hcm (by omega)).mono ?_; rintro e w' ⟨rfl, rfl⟩)
    go_wp2_with (go_at_fn (ρ.f 252); refine (grow_any { L with } b s.size cap ao bs _ ?_ hlc hcm ?_ hz h1 (by omega) (by omega) hlim).mono ?_)
    · exact hbk1
    · intro hc
      obtain ⟨g, cur, rfl, hg, h0, hcs, htk, hgb⟩ := hr hc
      exact ⟨g, cur, rfl, by rw [Below.heap_setCell _ _ _ _ hgb]; exact hg, h0, hcs, htk, hgb⟩
    rintro e W1 ⟨rfl, hW1⟩
    obtain ⟨g, cap', cur, hsz, hbk2, hg2, hcs, hle, hcm2, htk⟩ := hW1.row
    rw [hsz1] at hsz
    have hgb : g ≠ b := by omega
    have hgr2 : w.grownBy W1 (some b) := Lib.grownBy_trans hgr hW1.frame
    clear hW1 hgr c0 f0 c2 f2 hbk1 hr
    have d0 : W1.cell? ⟨b, 0, none⟩ = some (.slice (some ⟨g, 0, none⟩) (bs.length + s.size) cap') := by rw [Lib.cell_of_heap hbk2]; rfl
    have hne : ¬ cap' = bs.length := by omega
    have hcp := Lib.run_copy_row_string (P := P) W1 (ρ.t 37) (ρ.t 9) (ρ.t 3) (ρ.t 5) g bs.length s.size (cap' - bs.length) s cur (ρ.t 5) L.t37 hinfo hg2 (Nat.le_refl _) (by omega)
    have hcm' := hcm2
    unfold maxLen at hcm'
    go_wp2
    go_ret2
    have := Wrote.ofCopy (v := .slice ao bs.length cap) (news := Lib.byteCells s.data.toList) hgr2 (by rw [hnl]; exact hbk2) hg2 hcs (by rw [hnl]; omega) hcm2 htk hgb (.inr hsz)
    rw [hnl, htk, List.append_assoc] at this
    exact ⟨rfl, this⟩

/-- One byte is written at the end of a row with room. -/
theorem Wrote.poke {T e : TypeId} {b g cap : Nat} {v : Value} {bs : List Value} {x : Value} {cur : Array Value} {w W : World} (hg0 : w.grownBy W (some b)) (hbk : W.heap[b]? = some (.cells #[.slice (some ⟨g, 0, none⟩) (bs.length + 1) cap, .int .i64 0, .int .i8 0] T (0, 0)))
    (hg : W.heap[g]? = some (.cells cur e (0, 0))) (hcs : cur.size = cap) (hle : bs.length + 1 ≤ cap) (hcm : cap ≤ maxLen) (htk : cur.toList.take bs.length = bs) (hgb : g ≠ b) (how : v.ownBlock = some g ∨ w.heap.size ≤ g) :
    Wrote T e b v (bs ++ [x]) w (W.setCell ⟨g, bs.length, none⟩ x) := by
  have hgs : (W.setCell ⟨g, bs.length, none⟩ x).heap[g]? = some (.cells (cur.setIfInBounds bs.length x) e (0, 0)) := Lib.heap_setCell_same (i := bs.length) hg x
  refine ⟨hg0.os, hg0.tape, hg0.output, by simpa [World.setCell] using hg0.size, fun k hk hkb hkv => ?_, g, cap, _, ?_, hgs, by simpa using hcs, by simpa using hle, hcm, ?_, hgb, how⟩
  · have hkg : k ≠ g := by
      rcases how with h | h
      · intro e1; subst e1; exact hkv h
      · omega
    rw [Below.heap_setCell _ _ _ _ hkg]
    exact hg0.block k hk (fun e1 => hkb (Option.some.inj e1))
  · rw [Below.heap_setCell _ _ _ _ (Ne.symm hgb)]; simpa using hbk
  · have hlt0 : bs.length < cur.size := by omega
    have hlt : bs.length < cur.toList.length := hlt0
    rw [List.length_append, Array.toList_setIfInBounds]
    show (cur.toList.set bs.length x).take (bs.length + 1) = _
    rw [List.take_succ_eq_append_getElem (by simpa using hlt), List.take_set_of_le (Nat.le_refl _), htk]
    simp

set_option maxHeartbeats 6400000 in
set_option maxRecDepth 100000 in
/-- (*bytes.Buffer).WriteByte. -/
theorem buf_WriteByte (L : LaysM.n179 P ρ) (b : Nat) (v : Value) (lr : Int) (bs : List Value) (c : Int) (w : World) (hbk : w.heap[b]? = some (.cells #[v, .int .i64 0, .int .i8 lr] (ρ.t 93) (0, 0))) (hrow : HasRow (ρ.t 5) b v bs w)
    (h1 : ∀ v ∈ bs, v.oneCell' = true) (hlim : bs.length + 1 ≤ 140737488355328) :
    Calls P (ρ.f 179) #[.pointer (some ⟨b, 0, none⟩), .int .u8 c] w fun e w' => e = .returned .nilIface ∧ Wrote (ρ.t 93) (ρ.t 5) b v (bs ++ [.int .u8 c]) w w' := by
  have mixed := L.mixed
  have t5 := L.t5; have a5 := L.a5; have z5 := L.z5; have v5 := L.v5
  have t130 := L.t130; have a130 := L.a130; have z130 := L.z130; have v130 := L.v130
  have t3 := L.t3; have a3 := L.a3; have z3 := L.z3; have v3 := L.v3
  have t75 := L.t75; have a75 := L.a75; have z75 := L.z75; have v75 := L.v75
  have t0 := L.t0; have a0 := L.a0; have z0 := L.z0; have v0 := L.v0
  have t93 := L.t93; have u93 := run_underlying L.t93; have a93 := L.a93; have z93 := L.z93; have v93 := L.v93
  have t91 := L.t91; have a91 := L.a91; have z91 := L.z91; have v91 := L.v91
  have t131 := L.t131; have a131 := L.a131; have z131 := L.z131; have v131 := L.v131
  have t4 := L.t4; have a4 := L.a4; have z4 := L.z4; have v4 := L.v4
  have t37 := L.t37; have a37 := L.a37; have z37 := L.z37; have v37 := L.v37
  have e251 : ∀ args w, (callFunc (ρ.f 251) args).run P w = .ok (.enter (ρ.f 251) args) w := enters_of L.f251 (by kernel_rfl) rfl
  have e252 : ∀ args w, (callFunc (ρ.f 252) args).run P w = .ok (.enter (ρ.f 252) args) w := enters_of L.f252 (by kernel_rfl) rfl
  have c2 : w.cell? ⟨b, 2, none⟩ = some (.int .i8 lr) := by rw [Lib.cell_of_heap hbk]; rfl
  have f2 : w.frozen? ⟨b, 2, none⟩ = false := Lib.frozen_of_heap hbk 2
  have hgr : w.grownBy (w.setCell ⟨b, 2, none⟩ (.int .i8 0)) (some b) := Lib.grownBy_setCell w b 2 _
  have hsz1 : (w.setCell ⟨b, 2, none⟩ (.int .i8 0)).heap.size = w.heap.size := by simp [World.setCell]
  have hbw := Lib.lt_of_heap hbk
  obtain ⟨ao, cap, rfl, hlc, hcm, hr, hz⟩ := hrow.parts
  have hbk1 := bufCleared hbk
  have c0 : (w.setCell ⟨b, 2, none⟩ (.int .i8 0)).cell? ⟨b, 0, none⟩ = some (.slice ao bs.length cap) := by rw [Lib.cell_of_heap hbk1]; rfl
  have f0 : (w.setCell ⟨b, 2, none⟩ (.int .i8 0)).frozen? ⟨b, 0, none⟩ = false := Lib.frozen_of_heap hbk1 0
  by_cases hroom : 1 ≤ cap - bs.length
  · have hc0 : cap ≠ 0 := by omega
    obtain ⟨g, cur, rfl, hg, h0, hcs, htk, hgb⟩ := hr hc0
    have hT : ∀ W : World, W.cell? ⟨b, 0, none⟩ = some (.slice (some ⟨g, 0, none⟩) bs.length cap) → W.frozen? ⟨b, 0, none⟩ = false → Calls P (ρ.f 251) #[.pointer (some ⟨b, 0, none⟩), .int .i64 1] W _ := fun W h h' => Any.Buffer_tryGrow_room { L with } b _ bs.length cap 1 W h h' hlc hcm hroom
    go_enter L.f179, Body.n179_ntmps ρ
    go_wp2_with (go_at_fn (ρ.f 251); refine (hT _ c0 f0).mono ?_)
    rintro e W1 ⟨rfl, hW1⟩
    have hbk2 : W1.heap[b]? = some (.cells #[.slice (some ⟨g, 0, none⟩) (bs.length + 1) cap, .int .i64 0, .int .i8 0] (ρ.t 93) (0, 0)) := by rw [hW1]; exact bufSized hbk1
    have hg2 : W1.heap[g]? = some (.cells cur (ρ.t 5) (0, 0)) := by rw [hW1, Below.heap_setCell _ _ _ _ hgb, Below.heap_setCell _ _ _ _ hgb]; exact hg
    have hgr2 : w.grownBy W1 (some b) := by rw [hW1]; exact Lib.grownBy_setB hgr 0 _
    clear hW1 hgr c0 f0 c2 f2 hbk1 hT
    have d0 : W1.cell? ⟨b, 0, none⟩ = some (.slice (some ⟨g, 0, none⟩) (bs.length + 1) cap) := by rw [Lib.cell_of_heap hbk2]; rfl
    have hlt : bs.length < cur.size := by omega
    have dg : W1.cell? ⟨g, bs.length, none⟩ = some cur[bs.length] := by rw [Lib.cell_of_heap hg2, Array.getElem?_eq_getElem hlt]
    have fg : W1.frozen? ⟨g, bs.length, none⟩ = false := Lib.frozen_of_heap hg2 _
    have hcm' := hcm
    unfold maxLen at hcm'
    go_wp2
    go_ret
    exact ⟨rfl, Wrote.poke (v := .slice (some ⟨g, 0, none⟩) bs.length cap) hgr2 hbk2 hg2 hcs (by omega) hcm htk hgb (.inl rfl)⟩
  · have hT : ∀ W : World, W.cell? ⟨b, 0, none⟩ = some (.slice ao bs.length cap) → Calls P (ρ.f 251) #[.pointer (some ⟨b, 0, none⟩), .int .i64 1] W _ := fun W h => Any.Buffer_tryGrow_none { L with } b _ bs.length cap 1 W h hlc hcm (by omega)
    have hG : ∀ W : World, W.heap[b]? = some (.cells #[.slice ao bs.length cap, .int .i64 0, .int .i8 0] (ρ.t 93) (0, 0)) → RowAt (ρ.t 5) b cap ao bs W →
        Calls P (ρ.f 252) #[.pointer (some ⟨b, 0, none⟩), .int .i64 1] W _ := fun W h h' => grow_any { L with } b 1 cap ao bs W h hlc hcm h' hz h1 (by omega) (by omega) hlim
    go_enter L.f179, Body.n179_ntmps ρ
    go_wp2_with (go_at_fn (ρ.f 251); refine (hT _ c0).mono ?_; rintro e w' ⟨rfl, rfl⟩)
    go_wp2_with (go_at_fn (ρ.f 252); refine (hG _ ?_ ?_).mono ?_)
    · exact hbk1
    · intro hc
      obtain ⟨g, cur, rfl, hg, h0, hcs, htk, hgb⟩ := hr hc
      exact ⟨g, cur, rfl, by rw [Below.heap_setCell _ _ _ _ hgb]; exact hg, h0, hcs, htk, hgb⟩
    rintro e W1 ⟨rfl, hW1⟩
    obtain ⟨g, cap', cur, hsz, hbk2, hg2, hcs, hle, hcm2, htk⟩ := hW1.row
    rw [hsz1] at hsz
    have hgb : g ≠ b := by omega
    have hgr2 : w.grownBy W1 (some b) := Lib.grownBy_trans hgr hW1.frame
    clear hW1 hgr c0 f0 c2 f2 hbk1 hr hT hG
    have d0 : W1.cell? ⟨b, 0, none⟩ = some (.slice (some ⟨g, 0, none⟩) (bs.length + 1) cap') := by rw [Lib.cell_of_heap hbk2]; rfl
    have hlt : bs.length < cur.size := by omega
    have dg : W1.cell? ⟨g, bs.length, none⟩ = some cur[bs.length] := by rw [Lib.cell_of_heap hg2, Array.getElem?_eq_getElem hlt]
    have fg : W1.frozen? ⟨g, bs.length, none⟩ = false := Lib.frozen_of_heap hg2 _
    have hcm' := hcm2
    unfold maxLen at hcm'
    go_wp2
    go_ret
    exact ⟨rfl, Wrote.poke (v := .slice ao bs.length cap) hgr2 hbk2 hg2 hcs (by omega) hcm2 htk hgb (.inr hsz)⟩
end Go.AM
