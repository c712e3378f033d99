/- The abstract machine: what functions of the library do, at this program. -/
import Derived.Test.YtpefmbpjanafkaaGreatDoorSnX
import Derived.Test.YtpefmbpjanafkaaGreatDoorSnT
import Derived.Test.YtpefmbpjanafkaaGreatDoorSLay
import Derived.Test.YtpefmbpjanafkaaGreatDoorSBuf
import Derived.Shelf.Bytes.String
import Derived.Shelf.Bytes.Len
set_option linter.unusedVariables false
set_option linter.unusedSimpArgs false
namespace Go.Proofs.YtpefmbpjanafkaaGreatDoor
open Go.AM Go.Shelf Go.RowKit

section
variable {g : Ghost} {σ : Store} {w : World}

/-- A slice of bytes: where it lies. -/
theorem held_cases (hs : Sim g σ w) {u8 : TypeId} {buf : AV} {v : Value} (hv : VR g buf v) {old : List AV} (h : heldA u8 σ buf = some old) :
    (buf = .nils ∧ v = .slice none 0 0 ∧ old = []) ∨
    ∃ id len cap e cs b l rest, buf = .slice id 0 len cap 1 ∧ σ.get id = some (.cells e cs) ∧ e / 2 = u8 ∧ g.π id = some (b, l.length + rest.length) ∧ w.heap[b]? = some (.cells ⟨l ++ rest⟩ u8 (0, 0)) ∧ VRs g cs l ∧
      v = .slice (some ⟨b, 0, none⟩) len (l.length + rest.length) ∧ len ≠ 0 ∧ len ≤ cs.length ∧ allOne cs = true ∧ old = cs.take len ∧ l.length + rest.length ≤ 9223372036854775807 := by
  unfold heldA at h
  split at h
  · cases hv
    cases h
    exact .inl ⟨rfl, rfl, rfl⟩
  · rename_i id len cap
    split at h
    case h_2 => cases h
    rename_i e cs hg
    cases hc : (Nat.beq (e / 2) u8 && !(Nat.beq len 0) && Nat.ble len cs.length && allOne cs) with
    | false => rw [hc] at h; cases h
    | true =>
      rw [hc] at h
      cases h
      simp only [Bool.and_eq_true, Bool.not_eq_true'] at hc
      obtain ⟨⟨⟨c1, c0⟩, c2⟩, c3⟩ := hc
      have he : e / 2 = u8 := Nat.eq_of_beq_eq_true c1
      subst he
      have c0 : len ≠ 0 := fun h0 => by subst h0; cases c0
      obtain ⟨b, n, o, hp, ho, l, rest, rfl, hn, hvr, _⟩ := hs.blk _ _ hg
      subst hn
      cases hv with
      | slice _ _ _ _ _ a c h1 h2 h3 =>
      obtain ⟨rfl, h4, h5⟩ := h2 _ _ hp
      have : c = l.length + rest.length := by omega
      subst this
      exact .inr ⟨id, len, cap, e, cs, b, l, rest, rfl, hg, rfl, hp, ho, hvr, rfl, c0, by simpa using c2, c3, rfl, h3⟩
  · cases h

/-- A block without more cells than those that are told. -/
theorem exact_block {n : Nat} {T : TypeId} {cs : List AV} {o : Obj} (h : BR g n (.cells (2 * T + 1) cs) o) : ∃ l, o = .cells ⟨l⟩ T (0, 0) ∧ l.length = n ∧ VRs g cs l := by
  obtain ⟨l, rest, rfl, hn, hv, hx⟩ := h
  obtain rfl := hx (code_odd T)
  refine ⟨l, ?_, by simpa using hn, hv⟩
  rw [code_half1, List.append_nil]

/-- A block is forgotten, whatever becomes of it. -/
theorem kill_sim (hs : Sim g σ w) {id b n : Nat} (hp : g.π id = some (b, n)) {w' : World} (hsz : w'.heap.size = w.heap.size) (hk : ∀ c, c ≠ b → w'.heap[c]? = w.heap[c]?) (h1 : w'.os = w.os) (h2 : w'.tape = w.tape) (h3 : w'.output = w.output) :
    ∃ g', Sim g' (σ.kill id) w' ∧ Ext g g' w w' := by
  have hle : g.le { π := fun i => if i = id then none else g.π i, I := g.I, next := g.next, bv := g.bv, bok := g.bok, iok := g.iok, rv := g.rv } :=
    ⟨Nat.le_refl _, rfl, fun i x _ hx => by
      simp only at hx
      split at hx
      · cases hx
      · exact hx, fun _ _ h => h, fun _ _ h => h⟩
  refine ⟨{ π := fun i => if i = id then none else g.π i, I := g.I, next := g.next, bv := g.bv, bok := g.bok, iok := g.iok, rv := g.rv }, ⟨hs.next, ?_, ?_, ?_, ?_, ?_⟩, ⟨hle, h1, h2, h3, Nat.le_of_eq hsz.symm, ?_, ?_⟩⟩
  · intro i bl hi
    by_cases hid : i = id
    · subst hid
      have : (σ.kill i).get i = none := PT.get_upd_none σ.t i
      rw [this] at hi; cases hi
    · have e2 : σ.get i = some bl := (PT.get_upd_ne σ.t id i none hid).symm.trans hi
      obtain ⟨b', m, o', hp', ho, hbr'⟩ := hs.blk _ _ e2
      refine ⟨b', m, o', by simp [hid, hp'], ?_, hbr'.mono hle⟩
      rw [hk b' (fun e => hid (by subst e; exact hs.inj _ _ _ _ _ hp' hp))]
      exact ho
  · intro i j c m m' h h'
    simp only at h h'
    split at h <;> split at h' <;> first | cases h | cases h' | exact hs.inj _ _ _ _ _ h h'
  · intro c cs hI
    obtain ⟨e, m, o', ho, hbr'⟩ := hs.imm c cs hI
    exact ⟨e, m, o', by rw [hk c (fun e1 => hs.apart c cs id n hI (by rw [hp, e1]))]; exact ho, hbr'.mono hle⟩
  · intro c cs i m hI hpi
    simp only at hpi
    split at hpi
    · cases hpi
    · exact hs.apart c cs i m hI hpi
  · intro i c m hpi
    simp only at hpi
    split at hpi
    · cases hpi
    · rw [hsz]; exact hs.lt _ _ _ hpi
  · intro c hc hn
    exact hk c (fun e => hn id n (by rw [hp, e]))
  · intro i c m hpi _
    simp only at hpi
    split at hpi
    · cases hpi
    · exact ⟨i, m, hpi⟩

theorem sameTs_eq : ∀ {l m : List Tm}, sameTs l m = true → l = m
  | [], [], _ => rfl
  | [], _ :: _, h => by cases h
  | _ :: _, [], h => by cases h
  | a :: l, b :: m, h => by
    simp only [sameTs, Bool.and_eq_true, eqI_eq, decide_eq_true_eq] at h
    obtain ⟨⟨⟨⟨h1, h2⟩, h3⟩, h4⟩, h5⟩ := h
    replace h1 := Nat.eq_of_beq_eq_true h1
    replace h3 := Nat.eq_of_beq_eq_true h3
    replace h4 := Nat.eq_of_beq_eq_true h4
    rw [sameTs_eq h5]
    cases a; cases b
    simp only at h1 h2 h3 h4
    subst h1 h2 h3 h4
    rfl
theorem sameTs_self : ∀ l : List Tm, sameTs l l = true
  | [] => rfl
  | a :: l => by simp [sameTs, sameTs_self l, Nat.beq_refl, eqI_eq]
theorem linSame_self (a : Int × List Tm) : linSame a a = true := by simp [linSame, sameTs_self, eqI_eq]
theorem linSame_ok {sv : Nat → List UInt8} {a b : Int × List Tm} (h : linSame a b = true) (_ : TsOK sv a.2) (_ : TsOK sv b.2) : a.1 + tval sv a.2 = b.1 + tval sv b.2 := by
  simp only [linSame, Bool.and_eq_true, eqI_eq, decide_eq_true_eq] at h
  rw [h.1, sameTs_eq h.2]

/-- The text of a buffer's row: where it lies. -/
theorem bufHeld_cases (hs : Sim g σ w) {u8 : TypeId} {buf : AV} {v : Value} (hv : VR g buf v) {old : List Seg} (h : bufHeld u8 σ buf = some old) :
    (buf = .nils ∧ v = .slice none 0 0 ∧ old = []) ∨
    ∃ id c ts b rest, buf = .bsl id c ts ∧ σ.get id = some (.bytes u8 old) ∧ g.π id = some (b, (den g.sv old).length + rest.length) ∧ w.heap[b]? = some (.cells ⟨Lib.byteCells (den g.sv old) ++ rest⟩ u8 (0, 0)) ∧ SegsOK g.sv old ∧
      v = .slice (some ⟨b, 0, none⟩) (den g.sv old).length ((den g.sv old).length + rest.length) ∧ (den g.sv old).length ≠ 0 ∧ (den g.sv old).length + rest.length ≤ 9223372036854775807 := by
  unfold bufHeld at h
  split at h
  · cases hv
    cases h
    exact .inl ⟨rfl, rfl, rfl⟩
  · rename_i id c ts
    split at h
    case h_2 => cases h
    rename_i e lx hg
    rcases cond_yes h with ⟨hc, h⟩ | ⟨hc, h⟩
    case inr => cases h
    cases h
    simp only [Bool.and_eq_true, leI_eq, decide_eq_true_eq] at hc
    obtain ⟨⟨c1, c2⟩, c3⟩ := hc
    have he : e = u8 := Nat.eq_of_beq_eq_true c1
    subst he
    obtain ⟨b, n, o, hp, ho, rest, rfl, hn, hok⟩ := hs.blk _ _ hg
    subst hn
    obtain ⟨s1, s2⟩ := segLen_ok hok
    cases hv with
    | bsl _ _ _ a len cp hts k0 k1 k2 k3 =>
    obtain ⟨rfl, rfl⟩ := k2 _ _ hp
    have hm := min_ok s1
    have hlen : len = (den g.sv old).length := by
      have := linSame_ok c2 s1 hts
      simp only at this
      omega
    subst hlen
    exact .inr ⟨id, c, ts, b, rest, rfl, hg, hp, ho, hok, rfl, by omega, k3⟩
  · cases h

/-- Sim behind a write into a buffer. -/
theorem wrote_sim (hs : Sim g σ w) {T u8 : TypeId} (hTu : T ≠ u8) {id b n : Nat} {buf : AV} {v : Value} {old new : List Seg} {r0 r1 : AV} (hbuf : VR g buf v) (hheld : bufHeld u8 σ buf = some old)
    (hid : σ.get id = some (.cells (2 * T + 1) [buf, r0, r1])) (hp : g.π id = some (b, n)) (hn : n = 3) (hok : SegsOK g.sv new) (hnx : ∃ x, ((dropB σ buf).new (.bytes u8 new)).get σ.next = some x) {w' : World} (hw : Wrote T u8 b v (Lib.byteCells (den g.sv new)) w w') :
    ∃ g', Sim g' (((dropB σ buf).new (.bytes u8 new)).upd id (.cells (2 * T + 1) [.bsl σ.next (segLen new).1 (segLen new).2, .int .i64 0, .int .i8 0])) w' ∧ Ext g g' w w' := by
  obtain ⟨gd, cap, cur, hb', hgd, hcs, hle', hcm, htk, hgb, how⟩ := hw.row
  -- the block that is forgotten
  obtain ⟨dead, hdrop, hdead, hown⟩ : ∃ dead : Nat → Bool, (∀ i, (dropB σ buf).get i = if dead i then none else σ.get i) ∧ (∀ i, dead i = true → i ≠ id ∧ ∃ d m, g.π i = some (d, m) ∧ v.ownBlock = some d) ∧ (∀ d, v.ownBlock = some d → ∃ i m, dead i = true ∧ g.π i = some (d, m)) := by
    rcases bufHeld_cases hs hbuf hheld with ⟨rfl, rfl, _⟩ | ⟨i0, c0, ts0, d, rest, rfl, hg0, hp0, ho0, hok0, rfl, h0, hmx⟩
    · exact ⟨fun _ => false, fun i => rfl, fun i h => (by cases h), fun d h => (by cases h)⟩
    · refine ⟨fun i => i == i0, fun i => ?_, fun i h => ?_, fun d' h => ?_⟩
      · show (σ.kill i0).get i = _
        by_cases hi : i = i0
        · subst hi; simp only [beq_self_eq_true, if_true]; exact PT.get_upd_none σ.t i
        · simp only [beq_iff_eq, hi, if_false]; exact PT.get_upd_ne σ.t i0 i none hi
      · have hi : i = i0 := by simpa using h
        subst hi
        refine ⟨fun h => ?_, d, _, hp0, rfl⟩
        subst h
        rw [hg0] at hid
        cases hid
      · have : d = d' := by simpa [Value.ownBlock] using h
        subst this
        exact ⟨i0, _, by simp, hp0⟩
  have hnext : (dropB σ buf).next = σ.next := by unfold dropB; split <;> rfl
  have hdn : (dropB σ buf).get σ.next = none := by
    rw [hdrop]; split
    · rfl
    · exact hs.fresh
  have hidn : id ≠ σ.next := by intro h; rw [h, hs.fresh] at hid; cases hid
  have hbw := (hs.lt _ _ _ hp).2
  have hgdw : gd < w'.heap.size := by
    rcases Nat.lt_or_ge gd w'.heap.size with h | h
    · exact h
    · rw [Array.getElem?_eq_none h] at hgd; cases hgd
  obtain ⟨s1, s2⟩ := segLen_ok hok
  rw [Lib.byteCells_length] at hb' hle' htk
  have hle : g.le { π := fun i => if i = g.next then some (gd, cap) else if dead i then none else g.π i, I := g.I, next := g.next + 1, bv := g.bv, bok := g.bok, iok := g.iok, rv := g.rv } :=
    ⟨Nat.le_succ _, rfl, fun i x hi hx => by
      simp only [Nat.ne_of_lt hi, if_false] at hx
      split at hx
      · cases hx
      · exact hx, fun _ _ h => h, fun _ _ h => h⟩
  have hid0 : dead id = false := by
    cases h : dead id with
    | false => rfl
    | true => exact ((hdead id h).1 rfl).elim
  -- an old block that is not forgotten, nor the buffer's
  have hkeep : ∀ i c m, g.π i = some (c, m) → dead i = false → i ≠ id → w'.heap[c]? = w.heap[c]? := by
    intro i c m hi hd hne
    refine hw.keep c (hs.lt _ _ _ hi).2 (fun e => hne (by subst e; exact hs.inj _ _ _ _ _ hi hp)) (fun e => ?_)
    obtain ⟨j, m', hj, hpj⟩ := hown c e
    have := hs.inj _ _ _ _ _ hi hpj
    subst this
    rw [hd] at hj; cases hj
  have hkeepI : ∀ c cs, g.I c = some cs → w'.heap[c]? = w.heap[c]? := by
    intro c cs hI
    obtain ⟨_, _, _, ho, _⟩ := hs.imm c cs hI
    have hlt : c < w.heap.size := by
      rcases Nat.lt_or_ge c w.heap.size with h | h
      · exact h
      · rw [Array.getElem?_eq_none h] at ho; cases ho
    refine hw.keep c hlt (fun e => hs.apart c cs id n hI (by rw [hp, e])) (fun e => ?_)
    obtain ⟨j, m', hj, hpj⟩ := hown c e
    exact hs.apart c cs j m' hI hpj
  have hnew : ∀ i c m, g.π i = some (c, m) → dead i = false → c ≠ gd := by
    intro i c m hi hd e
    subst e
    rcases how with h | h
    · obtain ⟨j, m', hj, hpj⟩ := hown c h
      have := hs.inj _ _ _ _ _ hi hpj
      subst this
      rw [hd] at hj; cases hj
    · have := (hs.lt _ _ _ hi).2; omega
  refine ⟨_, ⟨by simp [Store.new, Store.upd, hnext, hs.next], ?_, ?_, ?_, ?_, ?_⟩, ⟨hle, hw.os, hw.tape, hw.output, hw.size, ?_, ?_⟩⟩
  · intro i bl hi
    by_cases h1 : i = id
    · subst h1
      have hg1 : ((dropB σ buf).new (.bytes u8 new)).get i = some (.cells (2 * T + 1) [buf, r0, r1]) := by
        have := PT.get_ins_ne 64 (dropB σ buf).t (dropB σ buf).next i (.bytes u8 new) (by rw [hnext]; exact hidn)
        refine this.trans ?_
        show (dropB σ buf).get i = _
        rw [hdrop, hid0]; exact hid
      have : (((dropB σ buf).new (.bytes u8 new)).upd i (.cells (2 * T + 1) [.bsl σ.next (segLen new).1 (segLen new).2, .int .i64 0, .int .i8 0])).get i = some (.cells (2 * T + 1) [.bsl σ.next (segLen new).1 (segLen new).2, .int .i64 0, .int .i8 0]) := PT.get_upd _ _ _ _ hg1
      rw [this] at hi; cases hi
      have hin : i ≠ g.next := by rw [hs.next]; exact hidn
      refine ⟨b, n, _, by simp [hin, hid0, hp], hb', _, [], by rw [List.append_nil, code_half1], by rw [hn]; rfl, ?_, fun _ => rfl⟩
      refine .cons ?_ (.cons (.int _ _) (.cons (.int _ _) .nil))
      refine .bsl _ _ _ _ _ _ s1 s2 (by show σ.next < g.next + 1; rw [hs.next]; omega) (fun b2 n2 h2 => ?_) (by unfold maxLen at hcm; omega)
      simp only [hs.next, if_true, Option.some.injEq, Prod.mk.injEq] at h2
      obtain ⟨rfl, rfl⟩ := h2
      exact ⟨rfl, rfl⟩
    · have hi2 : ((dropB σ buf).new (.bytes u8 new)).get i = some bl := (PT.get_upd_ne _ id i _ h1).symm.trans hi
      by_cases h2 : i = σ.next
      · subst h2
        obtain ⟨x, hx⟩ := hnx
        have e1 : x = .bytes u8 new := by
          have hx' : PT.get (PT.ins 64 (dropB σ buf).t (dropB σ buf).next (.bytes u8 new)) σ.next = some x := hx
          rw [hnext] at hx'
          exact PT.get_ins 64 _ _ _ _ hdn hx'
        rw [hx] at hi2
        cases hi2
        subst e1
        have hcur : cur = ⟨Lib.byteCells (den g.sv new) ++ cur.toList.drop (den g.sv new).length⟩ := by
          rw [← Array.toList_inj]
          show cur.toList = Lib.byteCells (den g.sv new) ++ cur.toList.drop (den g.sv new).length
          conv => lhs; rw [← List.take_append_drop (den g.sv new).length cur.toList, htk]
        refine ⟨gd, cap, .cells cur u8 (0, 0), by simp [hs.next], hgd, cur.toList.drop (den g.sv new).length, ?_, ?_, hok⟩
        · have e3 := congrArg (fun c => Obj.cells c u8 (0, 0)) hcur; exact e3
        · have hcl : cur.toList.length = cap := hcs
          rw [List.length_drop]; show (den g.sv new).length + (cur.toList.length - (den g.sv new).length) = cap; have : (den g.sv new).length ≤ cap := hle'; omega
      · have hi3 : (dropB σ buf).get i = some bl := by
          have := PT.get_ins_ne 64 (dropB σ buf).t (dropB σ buf).next i (.bytes u8 new) (by rw [hnext]; exact h2)
          exact this.symm.trans hi2
        rw [hdrop] at hi3
        split at hi3
        · cases hi3
        · rename_i hd
          have hd : dead i = false := by simpa using hd
          obtain ⟨c, m, o, hpi, ho, hbr⟩ := hs.blk _ _ hi3
          refine ⟨c, m, o, by rw [hs.next]; simp [h2, hd, hpi], ?_, hbr.mono hle⟩
          rw [hkeep i c m hpi hd h1]; exact ho
  · intro i j c m m' h h'
    simp only at h h'
    split at h <;> split at h'
    · simp_all
    · simp only [Option.some.injEq, Prod.mk.injEq] at h
      obtain ⟨rfl, rfl⟩ := h
      split at h'
      · cases h'
      · rename_i hd; exact (hnew _ _ _ h' (by simpa using hd) rfl).elim
    · simp only [Option.some.injEq, Prod.mk.injEq] at h'
      obtain ⟨rfl, rfl⟩ := h'
      split at h
      · cases h
      · rename_i hd; exact (hnew _ _ _ h (by simpa using hd) rfl).elim
    · split at h <;> split at h' <;> first | cases h | cases h' | exact hs.inj _ _ _ _ _ h h'
  · intro c cs hI
    obtain ⟨e, m, o', ho, hbr'⟩ := hs.imm c cs hI
    exact ⟨e, m, o', by rw [hkeepI c cs hI]; exact ho, hbr'.mono hle⟩
  · intro c cs i m hI hpi
    simp only at hpi
    split at hpi
    · simp only [Option.some.injEq, Prod.mk.injEq] at hpi
      obtain ⟨rfl, rfl⟩ := hpi
      rcases how with h | h
      · obtain ⟨j, m', hj, hpj⟩ := hown _ h
        exact hs.apart _ cs j m' hI hpj
      · obtain ⟨_, _, _, ho, _⟩ := hs.imm _ cs hI
        rw [Array.getElem?_eq_none h] at ho; cases ho
    · split at hpi
      · cases hpi
      · exact hs.apart c cs i m hI hpi
  · intro i c m hpi
    simp only at hpi
    have := hw.size
    split at hpi
    · rename_i h
      simp only [Option.some.injEq, Prod.mk.injEq] at hpi
      obtain ⟨rfl, rfl⟩ := hpi
      exact ⟨by simp only; omega, hgdw⟩
    · split at hpi
      · cases hpi
      · have := hs.lt _ _ _ hpi; exact ⟨by simp only; omega, by omega⟩
  · intro c hc hn'
    refine hw.keep c hc (fun e => hn' id n (by rw [hp, e])) (fun e => ?_)
    obtain ⟨j, m', hj, hpj⟩ := hown c e
    exact hn' j m' hpj
  · intro i c m hpi hc
    simp only at hpi
    split at hpi
    · simp only [Option.some.injEq, Prod.mk.injEq] at hpi
      obtain ⟨rfl, rfl⟩ := hpi
      rcases how with h | h
      · obtain ⟨j, m', hj, hpj⟩ := hown _ h; exact ⟨j, m', hpj⟩
      · omega
    · split at hpi
      · cases hpi
      · exact ⟨i, m, hpi⟩
end
end Go.Proofs.YtpefmbpjanafkaaGreatDoor
/- The shelf's contracts of a buffer's String and Len, at this program. -/
namespace Go.Proofs
open Go.Shelf
noncomputable def Tryz.laysM182_ren : Go.Shelf.Ren := ⟨fun | 182 => 74 | n => n, fun | 130 => 158 | 9 => 9 | 3 => 3 | 0 => 0 | 93 => 156 | 91 => 154 | 4 => 4 | 37 => 42 | 5 => 5 | n => n, fun | n => n⟩
theorem Tryz.laysM182 : Go.Proofs.LaysM.n182 Tryz.prog Tryz.laysM182_ren := {
  mixed := by kernel_rfl
  f182 := Tryz.func74.trans (congrArg some (by kernel_rfl))
  t0 := Tryz.underlying0
  a0 := Tryz.isAgg0
  z0 := Tryz.sizeOf0
  v0 := Tryz.zeroValue0
  t3 := Tryz.underlying3
  a3 := Tryz.isAgg3
  z3 := Tryz.sizeOf3
  v3 := Tryz.zeroValue3
  t4 := Tryz.underlying4
  a4 := Tryz.isAgg4
  z4 := Tryz.sizeOf4
  v4 := Tryz.zeroValue4
  t9 := Tryz.underlying9
  a9 := Tryz.isAgg9
  z9 := Tryz.sizeOf9
  v9 := Tryz.zeroValue9
  t37 := Tryz.underlying42
  a37 := Tryz.isAgg42
  z37 := Tryz.sizeOf42
  v37 := Tryz.zeroValue42
  t93 := Tryz.underlying156
  a93 := Tryz.isAgg156
  z93 := Tryz.sizeOf156
  v93 := Tryz.zeroValue156
  t130 := Tryz.underlying158
  a130 := Tryz.isAgg158
  z130 := Tryz.sizeOf158
  v130 := Tryz.zeroValue158
  t5 := Tryz.underlying5
  a5 := Tryz.isAgg5
  z5 := Tryz.sizeOf5
  v5 := Tryz.zeroValue5
  t91 := Tryz.underlying154
  a91 := Tryz.isAgg154
  z91 := Tryz.sizeOf154
  v91 := Tryz.zeroValue154
  i0 := by kernel_rfl
  i3 := by kernel_rfl
  i4 := by kernel_rfl
  i5 := by kernel_rfl
  i9 := by kernel_rfl
  i37 := by kernel_rfl
  i91 := by kernel_rfl
  i93 := by kernel_rfl
  i130 := by kernel_rfl }
noncomputable def Tryz.laysM181_ren : Go.Shelf.Ren := ⟨fun | 181 => 315 | n => n, fun | 130 => 158 | 9 => 9 | 3 => 3 | 0 => 0 | 93 => 156 | 91 => 154 | 4 => 4 | 37 => 42 | 5 => 5 | n => n, fun | n => n⟩
theorem Tryz.laysM181 : Go.Proofs.LaysM.n181 Tryz.prog Tryz.laysM181_ren := {
  mixed := by kernel_rfl
  f181 := Tryz.func315.trans (congrArg some (by kernel_rfl))
  t0 := Tryz.underlying0
  a0 := Tryz.isAgg0
  z0 := Tryz.sizeOf0
  v0 := Tryz.zeroValue0
  t3 := Tryz.underlying3
  a3 := Tryz.isAgg3
  z3 := Tryz.sizeOf3
  v3 := Tryz.zeroValue3
  t37 := Tryz.underlying42
  a37 := Tryz.isAgg42
  z37 := Tryz.sizeOf42
  v37 := Tryz.zeroValue42
  t93 := Tryz.underlying156
  a93 := Tryz.isAgg156
  z93 := Tryz.sizeOf156
  v93 := Tryz.zeroValue156
  t130 := Tryz.underlying158
  a130 := Tryz.isAgg158
  z130 := Tryz.sizeOf158
  v130 := Tryz.zeroValue158
  t5 := Tryz.underlying5
  a5 := Tryz.isAgg5
  z5 := Tryz.sizeOf5
  v5 := Tryz.zeroValue5
  t91 := Tryz.underlying154
  a91 := Tryz.isAgg154
  z91 := Tryz.sizeOf154
  v91 := Tryz.zeroValue154
  i0 := by kernel_rfl
  i3 := by kernel_rfl
  i5 := by kernel_rfl
  i37 := by kernel_rfl
  i91 := by kernel_rfl
  i93 := by kernel_rfl
  i130 := by kernel_rfl }
end Go.Proofs
/- The abstract machine: calls of the library's functions. -/
namespace Go.Proofs.YtpefmbpjanafkaaGreatDoor
open Go.AM Go.Shelf Go.RowKit

section
variable {g : Ghost} {σ : Store} {w : World}

theorem allOne_mem {cs : List AV} (h : allOne cs = true) : ∀ a ∈ cs, a.one = true := by
  induction cs with
  | nil => intro a ha; cases ha
  | cons c cs ih =>
    simp only [allOne, Bool.and_eq_true] at h
    intro a ha
    cases ha with
    | head => exact h.1
    | tail _ ha => exact ih h.2 a ha
theorem oneCell_of {l : List AV} {vs : List Value} (h : VRs g l vs) (h1 : ∀ a ∈ l, a.one = true) : ∀ v ∈ vs, v.oneCell' = true := by
  induction l generalizing vs with
  | nil => cases h; intro v hv; cases hv
  | cons a l ih =>
    cases h with
    | cons h hs =>
      intro v hv
      cases hv with
      | head =>
        obtain ⟨e1, e2⟩ := one_cell h (h1 a (List.mem_cons_self ..))
        cases ‹Value› <;> first | rfl | exact (e1 _ rfl).elim | exact (e2 _ rfl).elim
      | tail _ hv => exact ih hs (fun a ha => h1 a (List.mem_cons_of_mem _ ha)) v hv

/-- The row of a buffer, out of what the store tells. -/
theorem held_row (hs : Sim g σ w) {u8 T : TypeId} {buf : AV} {v : Value} (hv : VR g buf v) {old : List Seg} (h : bufHeld u8 σ buf = some old) {id b n : Nat} {cs0 : List AV} (hid : σ.get id = some (.cells (2 * T + 1) cs0)) (hp : g.π id = some (b, n)) :
    HasRow u8 b v (Lib.byteCells (den g.sv old)) w ∧ SegsOK g.sv old := by
  rcases bufHeld_cases hs hv h with ⟨rfl, rfl, rfl⟩ | ⟨i0, c, ts, d, rest, rfl, hg0, hp0, ho0, hok, rfl, h0, hmx⟩
  · exact ⟨.inl ⟨rfl, rfl⟩, trivial⟩
  · refine ⟨.inr ⟨d, _, ⟨Lib.byteCells (den g.sv old) ++ rest⟩, by rw [Lib.byteCells_length], ho0, by rw [Lib.byteCells_length]; exact h0, by rw [Lib.byteCells_length]; omega, by unfold maxLen; omega, by simp [Lib.byteCells_length], ?_, ?_⟩, hok⟩
    · show (Lib.byteCells (den g.sv old) ++ rest).take _ = _
      rw [List.take_left]
    · intro e1
      subst e1
      have := hs.inj _ _ _ _ _ hp0 hp
      subst this
      rw [hg0] at hid
      cases hid

/-- Sim under a world that keeps all old blocks. -/
theorem below_sim (hs : Sim g σ w) {w' : World} (h : Below w.heap.size w w') : Sim g σ w' ∧ Ext g g w w' := by
  refine ⟨⟨hs.next, fun id bl hb => ?_, hs.inj, fun b cs hb => ?_, hs.apart, fun id b n hb => ?_⟩, ⟨.refl g, h.os, h.tape, h.output, h.size, fun b hb _ => h.block b hb, fun id b n hb _ => ⟨id, n, hb⟩⟩⟩
  · obtain ⟨b, n, o, h1, h2, h3⟩ := hs.blk id bl hb
    exact ⟨b, n, o, h1, by rw [h.block b (hs.lt _ _ _ h1).2]; exact h2, h3⟩
  · obtain ⟨e, n, o, h2, h3⟩ := hs.imm b cs hb
    have hlt : b < w.heap.size := by
      rcases Nat.lt_or_ge b w.heap.size with h | h
      · exact h
      · rw [Array.getElem?_eq_none h] at h2; cases h2
    exact ⟨e, n, o, by rw [h.block b hlt]; exact h2, h3⟩
  · have := hs.lt _ _ _ hb
    exact ⟨this.1, Nat.lt_of_lt_of_le this.2 h.size⟩
end

/-- The parts of a buffer's block. -/
theorem buf_block {g : Ghost} {σ : Store} {w : World} (hs : Sim g σ w) {id : Nat} {buf : AV} {lr : Int} (hg : σ.get id = some (.cells (2 * 156 + 1) [buf, .int .i64 0, .int .i8 lr])) {v : Value} (hv : VR g (.ptr id 0) v) :
    ∃ b vb, v = .pointer (some ⟨b, 0, none⟩) ∧ g.π id = some (b, 3) ∧ w.heap[b]? = some (.cells #[vb, .int .i64 0, .int .i8 lr] 156 (0, 0)) ∧ VR g buf vb := by
  cases hv with
  | ptr _ _ a h1 h2 =>
  obtain ⟨b, n, o, hp, ho, hbr⟩ := hs.blk _ _ hg
  obtain rfl := h2 b n hp
  obtain ⟨l, rfl, hn, hv⟩ := exact_block hbr
  cases hv with
  | cons hbuf hv =>
  cases hv with
  | cons ho1 hv =>
  cases hv with
  | cons ho2 hv =>
  cases hv
  cases ho1
  cases ho2
  exact ⟨b, _, rfl, by rw [hp, ← hn]; rfl, ho, hbuf⟩

/-- (*bytes.Buffer).WriteString -/
theorem ok308 (id : Nat) (x : AV) (add : List Seg) (hx : toSegs x = some add) (σ : Store) : CallOK X0 308 [.ptr id 0, x] σ (bufWrite 156 5 σ id add (.tup [mkLin (segLen add).1 (segLen add).2, .nili])) := by
  intro K g w args' ht ha hs hG
  unfold bufWrite at ht
  split at ht
  case h_2 => exact ht.elim
  rename_i e buf lr hg
  obtain ⟨he, ht⟩ := Tr.sat_must ht
  have he : e = 2 * 156 + 1 := Nat.eq_of_beq_eq_true he
  subst he
  obtain ⟨old, hold, ht⟩ := Tr.sat_opt ht
  obtain ⟨hm, ht⟩ := Tr.sat_must ht
  split at ht
  case h_2 => exact ht.elim
  rename_i y hy
  cases ha with
  | cons hptr hr =>
  cases hr with
  | cons hstr hnil =>
  cases hnil
  obtain ⟨aok, rfl⟩ := sym_segs hstr hx
  obtain ⟨b, vb, rfl, hp, ho, hbuf⟩ := buf_block hs hg hptr
  obtain ⟨hrow, ook⟩ := held_row hs (T := 156) (u8 := 5) hbuf hold hg hp
  simp only [Bool.and_eq_true, leI_eq, decide_eq_true_eq] at hm
  obtain ⟨a1, a2⟩ := segLen_ok aok
  obtain ⟨n1, n2⟩ := segLen_ok (SegsOK_append ook aok)
  have m1 := min_ok a1
  have m2 := max_ok n1
  rw [den_append, List.length_append] at n2
  have h0 : (⟨(den g.sv add).toArray⟩ : ByteArray).size ≠ 0 := by rw [size_mk]; omega
  have hlim : (Lib.byteCells (den g.sv old)).length + (⟨(den g.sv add).toArray⟩ : ByteArray).size ≤ 140737488355328 := by rw [size_mk, Lib.byteCells_length]; omega
  have main : Calls X0.P 308 #[.pointer (some ⟨b, 0, none⟩), .string ⟨(den g.sv add).toArray⟩] w fun e w' => e = .returned (.tuple #[.int .i64 (⟨(den g.sv add).toArray⟩ : ByteArray).size, .nilIface]) ∧ Wrote 156 5 b vb (Lib.byteCells (den g.sv old) ++ Lib.byteCells (den g.sv add)) w w' :=
    buf_WriteString Tryz.laysM178 b vb lr _ ⟨(den g.sv add).toArray⟩ w ho hrow (Lib.byteCells_one _) h0 hlim
  refine main.mono ?_
  rintro e w' ⟨rfl, hW⟩
  rw [← Lib.byteCells_append, ← den_append] at hW
  obtain ⟨g', hS, hE⟩ := wrote_sim hs (T := 156) (u8 := 5) (by decide) hbuf hold hg hp rfl (SegsOK_append ook aok) ⟨y, hy⟩ hW
  refine ⟨_, _, _, g', rfl, ht, hS, hE, ?_⟩
  rw [size_mk]
  refine .tup (.cons ?_ (.cons .nili .nil))
  rw [a2]
  exact (VR_mkLin a1).mono hE.le

/-- (*bytes.Buffer).WriteByte -/
theorem ok318 (id : Nat) (k : Nat) (hk : k ≤ 255) (σ : Store) : CallOK X0 318 [.ptr id 0, .int .u8 (.ofNat k)] σ (bufWrite 156 5 σ id [.b k.toUInt8] .nili) := by
  intro K g w args' ht ha hs hG
  unfold bufWrite at ht
  split at ht
  case h_2 => exact ht.elim
  rename_i e buf lr hg
  obtain ⟨he, ht⟩ := Tr.sat_must ht
  have he : e = 2 * 156 + 1 := Nat.eq_of_beq_eq_true he
  subst he
  obtain ⟨old, hold, ht⟩ := Tr.sat_opt ht
  obtain ⟨hm, ht⟩ := Tr.sat_must ht
  split at ht
  case h_2 => exact ht.elim
  rename_i y hy
  cases ha with
  | cons hptr hr =>
  cases hr with
  | cons hint hnil =>
  cases hnil
  cases hint
  obtain ⟨b, vb, rfl, hp, ho, hbuf⟩ := buf_block hs hg hptr
  obtain ⟨hrow, ook⟩ := held_row hs (T := 156) (u8 := 5) hbuf hold hg hp
  simp only [Bool.and_eq_true, leI_eq, decide_eq_true_eq] at hm
  have aok : SegsOK g.sv [.b k.toUInt8] := trivial
  obtain ⟨n1, n2⟩ := segLen_ok (SegsOK_append ook aok)
  have m2 := max_ok n1
  rw [den_append, List.length_append] at n2
  have e1 : (den g.sv [.b k.toUInt8]).length = 1 := rfl
  have hlim : (Lib.byteCells (den g.sv old)).length + 1 ≤ 140737488355328 := by rw [Lib.byteCells_length]; omega
  have main : Calls X0.P 318 #[.pointer (some ⟨b, 0, none⟩), .int .u8 (.ofNat k)] w fun e w' => e = .returned .nilIface ∧ Wrote 156 5 b vb (Lib.byteCells (den g.sv old) ++ [.int .u8 (.ofNat k)]) w w' :=
    buf_WriteByte Tryz.laysM179 b vb lr _ (.ofNat k) w ho hrow (Lib.byteCells_one _) hlim
  refine main.mono ?_
  rintro e w' ⟨rfl, hW⟩
  have ek : [Value.int .u8 (.ofNat k)] = Lib.byteCells (den g.sv [.b k.toUInt8]) := by
    have : k.toUInt8.toNat = k := by simp [UInt8.toNat_ofNat']; omega
    show _ = [Value.int .u8 ((k.toUInt8.toNat : Nat) : Int)]
    rw [this]; rfl
  rw [ek, ← Lib.byteCells_append, ← den_append] at hW
  obtain ⟨g', hS, hE⟩ := wrote_sim hs (T := 156) (u8 := 5) (by decide) hbuf hold hg hp rfl (SegsOK_append ook aok) ⟨y, hy⟩ hW
  exact ⟨_, _, _, g', rfl, ht, hS, hE, .nili⟩

theorem isBuffer_of {w : World} {b : Nat} {vb : Value} {lr : Int} {s : List UInt8} (ho : w.heap[b]? = some (.cells #[vb, .int .i64 0, .int .i8 lr] 156 (0, 0))) (h : HasRow 5 b vb (Lib.byteCells s) w) : Lib.IsBuffer 156 5 0 b (Lib.byteCells s) w := by
  rcases h with ⟨rfl, h⟩ | ⟨d, cap, cur, rfl, hd, h0, hc, hm, hcs, htk, hne⟩
  · rw [h]; exact ⟨Nat.zero_le _, _, _, ho, World.ownsRow_nil _ _ _ _, by simp [Value.ownBlock]⟩
  · exact ⟨Nat.zero_le _, _, _, ho, ⟨by rw [Nat.mul_one], .inr ⟨d, cap, cur, rfl, Nat.zero_le _, hd, hc, hm, by omega, by rw [Nat.mul_one]; exact htk⟩⟩, by simp [Value.ownBlock]; exact hne⟩

/-- (*bytes.Buffer).String -/
theorem ok74 (id : Nat) (σ : Store) : CallOK X0 74 [.ptr id 0] σ (bufString 156 5 σ id) := by
  intro K g w args' ht ha hs hG
  unfold bufString at ht
  split at ht
  case h_2 => exact ht.elim
  rename_i e buf lr hg
  obtain ⟨he, ht⟩ := Tr.sat_must ht
  have he : e = 2 * 156 + 1 := Nat.eq_of_beq_eq_true he
  subst he
  obtain ⟨old, hold, hk⟩ := Tr.sat_opt ht
  clear ht
  cases ha with
  | cons hptr hnil =>
  cases hnil
  obtain ⟨b, vb, rfl, hp, ho, hbuf⟩ := buf_block hs hg hptr
  obtain ⟨hrow, ook⟩ := held_row hs (T := 156) (u8 := 5) hbuf hold hg hp
  have main : Calls X0.P 74 #[.pointer (some ⟨b, 0, none⟩)] w fun e w' => e = .returned (.string ⟨(den g.sv old).toArray⟩) ∧ ∃ n, w' = w.drewN n :=
    Any.Buffer_String Tryz.laysM182 0 b (den g.sv old) w (isBuffer_of ho hrow)
  refine main.mono ?_
  rintro e w' ⟨rfl, n, rfl⟩
  exact ⟨_, _, _, g, rfl, hk, hs.same rfl, Ext.same rfl rfl rfl rfl, VR_mkStr ook⟩
/-- (*bytes.Buffer).Len -/
theorem ok315 (id : Nat) (σ : Store) : CallOK X0 315 [.ptr id 0] σ (bufLen 156 5 σ id) := by
  intro K g w args' ht ha hs hG
  unfold bufLen at ht
  split at ht
  case h_2 => exact ht.elim
  rename_i e buf lr hg
  obtain ⟨he, ht⟩ := Tr.sat_must ht
  have he : e = 2 * 156 + 1 := Nat.eq_of_beq_eq_true he
  subst he
  obtain ⟨old, hold, hk⟩ := Tr.sat_opt ht
  clear ht
  cases ha with
  | cons hptr hnil =>
  cases hnil
  obtain ⟨b, vb, rfl, hp, ho, hbuf⟩ := buf_block hs hg hptr
  obtain ⟨hrow, ook⟩ := held_row hs (T := 156) (u8 := 5) hbuf hold hg hp
  have main : Calls X0.P 315 #[.pointer (some ⟨b, 0, none⟩)] w fun e w' => e = .returned (.int .i64 (Lib.byteCells (den g.sv old)).length) ∧ ∃ n, w' = w.drewN n :=
    Any.Buffer_Len Tryz.laysM181 0 b _ w (isBuffer_of ho hrow)
  refine main.mono ?_
  rintro e w' ⟨rfl, n, rfl⟩
  refine ⟨_, _, _, g, rfl, hk, hs.same rfl, Ext.same rfl rfl rfl rfl, ?_⟩
  obtain ⟨a1, a2⟩ := segLen_ok ook
  rw [Lib.byteCells_length, a2]
  exact VR_mkLin a1

/-- strings.Builder's copyCheck -/
theorem ok53 (id : Nat) (σ : Store) : CallOK X0 53 [.ptr id 0] σ (copyCheckA 64 σ id) := by
  intro K g w args' ht ha hs hG
  unfold copyCheckA at ht
  split at ht
  case h_2 => exact ht.elim
  rename_i e p buf hg
  obtain ⟨he, ht⟩ := Tr.sat_must ht
  have he : e = 2 * 64 + 1 := Nat.eq_of_beq_eq_true he
  subst he
  cases ha with
  | cons hptr hnil =>
  cases hnil
  cases hptr with
  | ptr _ _ a h1 h2 =>
  obtain ⟨b, n, o, hp, ho, hbr⟩ := hs.blk _ _ hg
  obtain rfl := h2 b n hp
  obtain ⟨l, rfl, hn, hv⟩ := exact_block hbr
  cases hv with
  | cons hpp hv =>
  cases hv with
  | cons hbuf hv =>
  cases hv
  have hbw : b < w.heap.size := (hs.lt _ _ _ hp).2
  split at ht
  · cases hpp
    have main : Calls X0.P 53 #[.pointer (some ⟨b, 0, none⟩)] w fun e w' => e = .returned (.tuple #[]) ∧ w' = w.setCell ⟨b, 0, none⟩ (.pointer (some ⟨b, 0, none⟩)) :=
      Tryz.copyCheck_fresh b w (by rw [Lib.cell_of_heap ho]; rfl) (by simp [World.shape?, ho]) (Lib.frozen_of_heap ho 0)
    refine main.mono ?_
    rintro e w' ⟨rfl, rfl⟩
    obtain ⟨hS, hE⟩ := set_sim hs hp hg (bl' := .cells (2 * 64 + 1) [.ptr id 0, buf]) (o := .cells ⟨[.pointer (some ⟨b, 0, none⟩), _]⟩ 64 (0, 0)) ⟨_, [], by rw [code_half1]; rfl, by simpa using hn, .cons (.ptr _ _ _ h1 h2) (.cons hbuf .nil), fun _ => rfl⟩ (w' := w.setCell ⟨b, 0, none⟩ (.pointer (some ⟨b, 0, none⟩))) (by rw [setCell_setB ho]; rfl) rfl rfl rfl
    exact ⟨_, _, _, g, rfl, ht, hS, hE, .tup .nil⟩
  · rename_i i _
    obtain ⟨hi, hk⟩ := Tr.sat_must ht
    clear ht
    have hi : i = id := Nat.eq_of_beq_eq_true hi
    subst hi
    cases hpp with
    | ptr _ _ a2 h3 h4 =>
    obtain rfl := h4 b n hp
    have main : Calls X0.P 53 #[.pointer (some ⟨b, 0, none⟩)] w fun e w' => e = .returned (.tuple #[]) ∧ w' = w :=
      Tryz.copyCheck_used b w (by rw [Lib.cell_of_heap ho]; rfl)
    refine main.mono ?_
    rintro e w' ⟨rfl, rfl⟩
    exact ⟨_, _, _, g, rfl, hk, hs, .refl g _, .tup .nil⟩
  · rename_i i _
    obtain ⟨hi, hk⟩ := Tr.sat_must ht
    clear ht
    have hi : i = id := Nat.eq_of_beq_eq_true hi
    subst hi
    cases hpp with
    | npP _ _ a2 h3 h4 =>
      obtain rfl := h4 b n hp
      have main : Calls X0.P 53 #[.pointer (some ⟨b, 0, none⟩)] w fun e w' => e = .returned (.tuple #[]) ∧ w' = w :=
        Tryz.copyCheck_used b w (by rw [Lib.cell_of_heap ho]; rfl)
      refine main.mono ?_
      rintro e w' ⟨rfl, rfl⟩
      exact ⟨_, _, _, g, rfl, hk, hs, .refl g _, .tup .nil⟩
    | npN _ _ h3 =>
      have main : Calls X0.P 53 #[.pointer (some ⟨b, 0, none⟩)] w fun e w' => e = .returned (.tuple #[]) ∧ w' = w.setCell ⟨b, 0, none⟩ (.pointer (some ⟨b, 0, none⟩)) :=
        Tryz.copyCheck_fresh b w (by rw [Lib.cell_of_heap ho]; rfl) (by simp [World.shape?, ho]) (Lib.frozen_of_heap ho 0)
      refine main.mono ?_
      rintro e w' ⟨rfl, rfl⟩
      obtain ⟨hS, hE⟩ := set_sim hs hp hg (bl' := .cells (2 * 64 + 1) [.np i 0, buf]) (o := .cells ⟨[.pointer (some ⟨b, 0, none⟩), _]⟩ 64 (0, 0)) ⟨_, [], by rw [code_half1]; rfl, by simpa using hn, .cons (.npP _ _ _ h1 h2) (.cons hbuf .nil), fun _ => rfl⟩ (w' := w.setCell ⟨b, 0, none⟩ (.pointer (some ⟨b, 0, none⟩))) (by rw [setCell_setB ho]; rfl) rfl rfl rfl
      refine ⟨_, _, _, g, rfl, hk, ?_, hE, .tup .nil⟩
      refine ⟨hS.next, fun id bl hid => ?_, hS.inj, hS.imm, hS.apart, hS.lt⟩
      refine hS.blk id bl ?_
      by_cases he : id = i
      · subst he
        have e1 : (σ.upd id (.cells (2 * 64 + 1) [.np id 0, buf])).get id = some (.cells (2 * 64 + 1) [.np id 0, buf]) := PT.get_upd _ _ _ _ hg
        rw [e1, ← hid, hg]
      · have e1 : (σ.upd i (.cells (2 * 64 + 1) [.np i 0, buf])).get id = σ.get id := PT.get_upd_ne _ _ _ _ he
        rw [e1, hid]
  · exact ht.elim

theorem unbytes_sound {g : Ghost} : ∀ {xs : List AV} {l : List UInt8} {vs : List Value}, unbytesA xs = some l → VRs g xs vs → vs = Lib.byteCells l
  | [], l, vs, h, hv => by cases hv; cases h; rfl
  | x :: xs, l, vs, h, hv => by
    unfold unbytesA at h
    split at h
    · rename_i heq; cases heq
    · rename_i k xs' heq
      cases heq
      cases hk : Nat.ble k 255 with
      | false => rw [hk] at h; cases h
      | true =>
        rw [hk] at h
        simp only [cond_true] at h
        split at h
        · rename_i m hm
          cases h
          cases hv with
          | cons h1 h2 =>
            cases h1
            have hk' : k ≤ 255 := by simpa using hk
            rw [unbytes_sound hm h2]
            have : k.toUInt8.toNat = k := by simp [UInt8.toNat_ofNat']; omega
            simp [Lib.byteCells, this]
        · cases h
    · cases h

/-- strings.Builder's String -/
theorem ok39 (id : Nat) (σ : Store) : CallOK X0 39 [.ptr id 0] σ (bldString 64 5 σ id) := by
  intro K g w args' ht ha hs hG
  unfold bldString at ht
  split at ht
  case h_2 => exact ht.elim
  rename_i e p buf hg
  obtain ⟨he, ht⟩ := Tr.sat_must ht
  have he : e = 2 * 64 + 1 := Nat.eq_of_beq_eq_true he
  subst he
  cases ha with
  | cons hptr hnil =>
  cases hnil
  cases hptr with
  | ptr _ _ a h1 h2 =>
  obtain ⟨b, n, o, hp, ho, hbr⟩ := hs.blk _ _ hg
  obtain rfl := h2 b n hp
  obtain ⟨lv, rfl, hn, hv⟩ := exact_block hbr
  cases hv with
  | cons hpp hv =>
  cases hv with
  | cons hbuf hv =>
  cases hv
  split at ht
  · rename_i r c ts
    obtain ⟨l, hl, ht⟩ := Tr.sat_opt ht
    obtain ⟨hm, hk⟩ := Tr.sat_must ht
    simp only [leI_eq, decide_eq_true_eq] at hm
    have hlen0 : 1 ≤ (den g.sv l).length := by
      have h9 := hl
      simp only [rowHeld] at h9
      · split at h9
        case h_2 => cases h9
        rename_i e9 l9 hg9
        rcases cond_yes h9 with ⟨hc, h9⟩ | ⟨_, h9⟩
        case inr => cases h9
        cases h9
        simp only [Bool.and_eq_true, eqI_eq, decide_eq_true_eq] at hc
        obtain ⟨b9, m9, o9, _, _, rest9, _, _, hok9⟩ := hs.blk _ _ hg9
        obtain ⟨s1, s2⟩ := segLen_ok hok9
        rw [hc.1.2, sameTsA_eq hc.2] at s2
        have := min_ok s1
        rw [sameTsA_eq hc.2] at this
        omega
    obtain ⟨d, m, bl0, rest, hgr, hpr, hor, hmm, rfl, hok, hmx⟩ := rowHeld_sound hs hbuf hl
    have main : Calls X0.P 39 #[.pointer (some ⟨b, 0, none⟩)] w fun e w' => e = .returned (.string ⟨(den g.sv l).toArray⟩) ∧ w' = w.drew.freeze ⟨d, 0, none⟩ (den g.sv l).length := by
      refine str_String_row Tryz.lays169 Tryz.Builder_Extra_169 b d m _ ⟨(den g.sv l).map (fun b => Value.int .u8 b.toNat) ++ rest⟩ (den g.sv l) w ho hor (fun e => by rw [e] at hlen0; simp at hlen0) (by simp) (by omega) (by unfold maxLen; omega) ?_
      show ((den g.sv l).map (fun b => Value.int .u8 b.toNat) ++ rest).take (den g.sv l).length = _
      rw [List.take_append_of_le_length (by simp), List.take_of_length_le (by simp)]; rfl
    refine main.mono ?_
    rintro e w' ⟨rfl, rfl⟩
    obtain ⟨g', hS, hE⟩ := kill_sim hs hpr (w' := w.drew.freeze ⟨d, 0, none⟩ (den g.sv l).length) (by unfold World.freeze; split <;> simp) (fun c hc => by
      unfold World.freeze
      split
      · rfl
      · rw [Array.getElem?_modify, if_neg (Ne.symm hc)]; rfl) (by unfold World.freeze; split <;> rfl) (by unfold World.freeze; split <;> rfl) (by unfold World.freeze; split <;> rfl)
    refine ⟨_, _, _, g', rfl, hk, hS, hE, ?_⟩
    have := VR_mkStr (g := g') (l := l) (by rw [hE.le.sv]; exact hok)
    rw [hE.le.sv] at this
    exact this
  obtain ⟨old, hold, ht⟩ := Tr.sat_opt ht
  obtain ⟨l, hl, hk⟩ := Tr.sat_opt ht
  clear ht
  rcases held_cases hs hbuf hold with ⟨rfl, rfl, rfl⟩ | ⟨i0, len, cp, e, cs, d, l0, rest, rfl, hg0, he, hp0, ho0, hvr, rfl, h0, hln, hone, rfl, hmx⟩
  · cases hl
    have main : Calls X0.P 39 #[.pointer (some ⟨b, 0, none⟩)] w fun e w' => e = .returned (.string ⟨#[]⟩) ∧ w' = w.drew := str_String_nil Tryz.lays169 Tryz.Builder_Extra_169 b _ w ho
    refine main.mono ?_
    rintro e w' ⟨rfl, rfl⟩
    exact ⟨_, _, _, g, rfl, hk, hs.same rfl, Ext.same rfl rfl rfl rfl, .str []⟩
  · have hbl := unbytes_sound hl (hvr.take len)
    have hll := hvr.length
    have hlen : l.length = len := by
      have := congrArg List.length hbl
      rw [Lib.byteCells_length, List.length_take] at this
      omega
    subst hlen
    have main : Calls X0.P 39 #[.pointer (some ⟨b, 0, none⟩)] w fun e w' => e = .returned (.string ⟨l.toArray⟩) ∧ w' = w.drew.freeze ⟨d, 0, none⟩ l.length := by
      refine str_String_row Tryz.lays169 Tryz.Builder_Extra_169 b d (l0.length + rest.length) _ ⟨l0 ++ rest⟩ l w ho ho0 (fun e => h0 (by rw [e]; rfl)) (by simp; omega) (by omega) (by unfold maxLen; omega) ?_
      show (l0 ++ rest).take l.length = _
      rw [List.take_append_of_le_length (by omega), hbl]
    refine main.mono ?_
    rintro e w' ⟨rfl, rfl⟩
    obtain ⟨g', hS, hE⟩ := kill_sim hs hp0 (w' := w.drew.freeze ⟨d, 0, none⟩ l.length) (by unfold World.freeze; split <;> simp) (fun c hc => by
      unfold World.freeze
      split
      · rfl
      · rw [Array.getElem?_modify, if_neg (Ne.symm hc)]; rfl) (by unfold World.freeze; split <;> rfl) (by unfold World.freeze; split <;> rfl) (by unfold World.freeze; split <;> rfl)
    exact ⟨_, _, _, g', rfl, (show K (.str l, σ.kill i0) from hk), hS, hE, .str l⟩
end Go.Proofs.YtpefmbpjanafkaaGreatDoor
namespace Go.Proofs.YtpefmbpjanafkaaGreatDoor
open Go.AM Go.Shelf Go.RowKit
theorem repA_eq (l : List UInt8) : ∀ n, repA l n = Lib.repeatL l n
  | 0 => rfl
  | n + 1 => by rw [repA, Lib.repeatL, repA_eq l n]
/-- strings.Repeat -/
theorem ok167 (s : List UInt8) (n : Nat) (σ : Store) : CallOK X0 167 [.str s, .int .i64 n] σ (must (Nat.ble (s.length * n) roomA && Nat.ble n roomA) (.ret (.str (repA s n), σ))) := by
  intro K g w args' ht ha hs hG
  obtain ⟨hm, ht⟩ := Tr.sat_must ht
  simp only [Bool.and_eq_true] at hm
  have h1 : s.length * n ≤ roomA := by simpa using hm.1
  have h2 : n ≤ roomA := by simpa using hm.2
  cases ha with
  | cons hstr hr =>
  cases hr with
  | cons hint hnil =>
  cases hnil
  cases hstr
  cases hint
  have hsz : (⟨s.toArray⟩ : ByteArray).size = s.length := by simp [ByteArray.size]
  have main : Calls X0.P 167 #[.string ⟨s.toArray⟩, .int .i64 n] w fun e w' => e = .returned (.string ⟨(Lib.repeatL s n).toArray⟩) ∧ Below w.heap.size w w' :=
    Any.strings_Repeat Tryz.lays105 Tryz.Builder_Extra_105 ⟨s.toArray⟩ n w (by unfold roomA at h2; omega) (by rw [hsz]; unfold roomA at h1; omega)
  refine main.mono ?_
  rintro e w' ⟨rfl, hB⟩
  obtain ⟨hS, hE⟩ := below_sim hs hB
  exact ⟨_, _, _, g, rfl, ht, hS, hE, by rw [← repA_eq]; exact .str _⟩

theorem indexB_eq (c : UInt8) : ∀ (l : List UInt8) (i : Nat), indexB c l i = cond (Lib.indexByte l c == -1) (-1) (Lib.indexByte l c + i)
  | [], i => rfl
  | b :: l, i => by
    have hge := Lib.indexByte_ge l c
    unfold indexB Lib.indexByte
    by_cases h : b = c
    · subst h; simp [Nat.beq_refl]
    · have h1 : Nat.beq b.toNat c.toNat = false := by
        cases hb : Nat.beq b.toNat c.toNat with
        | false => rfl
        | true => exact (h (UInt8.toNat_inj.1 (Nat.eq_of_beq_eq_true hb))).elim
      have h2 : (b == c) = false := by simpa using h
      rw [h1, h2, cond_false, indexB_eq c l (i + 1)]
      simp only [Bool.false_eq_true, if_false]
      by_cases h3 : Lib.indexByte l c = -1
      · simp [h3]
      · have h4 : (Lib.indexByte l c == -1) = false := by simpa using h3
        have h5 : ¬ Lib.indexByte l c + 1 = -1 := by omega
        have h6 : (Lib.indexByte l c + 1 == -1) = false := by simpa using h5
        simp only [h4, Bool.false_eq_true, if_false, cond_false, h6]
        omega
/-- strings.IndexByte -/
theorem ok51 (s : List UInt8) (c : Int) (σ : Store) : CallOK X0 51 [.str s, .int .u8 c] σ (.ret (.int .i64 (indexB c.toNat.toUInt8 s 0), σ)) := by
  intro K g w args' ht ha hs hG
  cases ha with
  | cons hstr hr =>
  cases hr with
  | cons hint hnil =>
  cases hnil
  cases hstr
  cases hint
  have main : Calls X0.P 51 #[.string ⟨s.toArray⟩, .int .u8 c] w fun e w' => e = .returned (.int .i64 (Lib.indexByte s c.toNat.toUInt8)) ∧ w' = w := Any.strings_IndexByte Tryz.lays137 ⟨s.toArray⟩ c w
  refine main.mono ?_
  rintro e w' ⟨rfl, rfl⟩
  refine ⟨_, _, _, g, rfl, ht, hs, .refl g _, ?_⟩
  rw [indexB_eq]
  cases h : (Lib.indexByte s c.toNat.toUInt8 == -1) with
  | true => rw [cond_true]; rw [show Lib.indexByte s c.toNat.toUInt8 = -1 from by simpa using h]; exact .int _ _
  | false => rw [cond_false]; simp; exact .int _ _
end Go.Proofs.YtpefmbpjanafkaaGreatDoor
/- The abstract machine: functions as entries of a table. -/
namespace Go.AM
noncomputable def ap0 (c : Store → Tr R) : List AV → Store → Tr R
  | [], σ => c σ
  | _, _ => .fail
noncomputable def ap1 (c : AV → Store → Tr R) : List AV → Store → Tr R
  | [a], σ => c a σ
  | _, _ => .fail
noncomputable def ap2 (c : AV → AV → Store → Tr R) : List AV → Store → Tr R
  | [a, b], σ => c a b σ
  | _, _ => .fail
noncomputable def ap3 (c : AV → AV → AV → Store → Tr R) : List AV → Store → Tr R
  | [a, b, d], σ => c a b d σ
  | _, _ => .fail
noncomputable def ap4 (c : AV → AV → AV → AV → Store → Tr R) : List AV → Store → Tr R
  | [a, b, d, e], σ => c a b d e σ
  | _, _ => .fail
noncomputable def ap5 (c : AV → AV → AV → AV → AV → Store → Tr R) : List AV → Store → Tr R
  | [a, b, d, e, f], σ => c a b d e f σ
  | _, _ => .fail
noncomputable def ap6 (c : AV → AV → AV → AV → AV → AV → Store → Tr R) : List AV → Store → Tr R
  | [a, b, d, e, f, g], σ => c a b d e f g σ
  | _, _ => .fail
section
variable {X : Env} {f : FuncId}
theorem ap0_ok {c : Store → Tr R} (h : ∀ σ, CallOK X f [] σ (c σ)) (args : List AV) (σ : Store) : CallOK X f args σ (ap0 c args σ) := by
  match args with
  | [] => exact h σ
  | _ :: _ => exact CallOK.fail X f _ σ
theorem ap1_ok {c : AV → Store → Tr R} (h : ∀ a σ, CallOK X f [a] σ (c a σ)) (args : List AV) (σ : Store) : CallOK X f args σ (ap1 c args σ) := by
  match args with
  | [a] => exact h a σ
  | [] | _ :: _ :: _ => exact CallOK.fail X f _ σ
theorem ap2_ok {c : AV → AV → Store → Tr R} (h : ∀ a b σ, CallOK X f [a, b] σ (c a b σ)) (args : List AV) (σ : Store) : CallOK X f args σ (ap2 c args σ) := by
  match args with
  | [a, b] => exact h a b σ
  | [] | [_] | _ :: _ :: _ :: _ => exact CallOK.fail X f _ σ
theorem ap3_ok {c : AV → AV → AV → Store → Tr R} (h : ∀ a b d σ, CallOK X f [a, b, d] σ (c a b d σ)) (args : List AV) (σ : Store) : CallOK X f args σ (ap3 c args σ) := by
  match args with
  | [a, b, d] => exact h a b d σ
  | [] | [_] | [_, _] | _ :: _ :: _ :: _ :: _ => exact CallOK.fail X f _ σ
theorem ap4_ok {c : AV → AV → AV → AV → Store → Tr R} (h : ∀ a b d e σ, CallOK X f [a, b, d, e] σ (c a b d e σ)) (args : List AV) (σ : Store) : CallOK X f args σ (ap4 c args σ) := by
  match args with
  | [a, b, d, e] => exact h a b d e σ
  | [] | [_] | [_, _] | [_, _, _] | _ :: _ :: _ :: _ :: _ :: _ => exact CallOK.fail X f _ σ
theorem ap5_ok {c : AV → AV → AV → AV → AV → Store → Tr R} (h : ∀ a b d e k σ, CallOK X f [a, b, d, e, k] σ (c a b d e k σ)) (args : List AV) (σ : Store) : CallOK X f args σ (ap5 c args σ) := by
  match args with
  | [a, b, d, e, k] => exact h a b d e k σ
  | [] | [_] | [_, _] | [_, _, _] | [_, _, _, _] | _ :: _ :: _ :: _ :: _ :: _ :: _ => exact CallOK.fail X f _ σ
theorem ap6_ok {c : AV → AV → AV → AV → AV → AV → Store → Tr R} (h : ∀ a b d e k l σ, CallOK X f [a, b, d, e, k, l] σ (c a b d e k l σ)) (args : List AV) (σ : Store) : CallOK X f args σ (ap6 c args σ) := by
  match args with
  | [a, b, d, e, k, l] => exact h a b d e k l σ
  | [] | [_] | [_, _] | [_, _, _] | [_, _, _, _] | [_, _, _, _, _] | _ :: _ :: _ :: _ :: _ :: _ :: _ :: _ => exact CallOK.fail X f _ σ
end
end Go.AM
namespace Go.Proofs.YtpefmbpjanafkaaGreatDoor
open Go.AM
noncomputable def sp53 : List AV → Store → Tr R
  | [.ptr id 0], σ => copyCheckA 64 σ id
  | _, _ => .fail
noncomputable def sp39 : List AV → Store → Tr R
  | [.ptr id 0], σ => bldString 64 5 σ id
  | _, _ => .fail
noncomputable def sp308 : List AV → Store → Tr R
  | [.ptr id 0, x], σ => opt (toSegs x) fun add => bufWrite 156 5 σ id add (.tup [mkLin (segLen add).1 (segLen add).2, .nili])
  | _, _ => .fail
noncomputable def sp318 : List AV → Store → Tr R
  | [.ptr id 0, .int .u8 (.ofNat k)], σ => must (Nat.ble k 255) (bufWrite 156 5 σ id [.b k.toUInt8] .nili)
  | _, _ => .fail
noncomputable def sp74 : List AV → Store → Tr R
  | [.ptr id 0], σ => bufString 156 5 σ id
  | _, _ => .fail
noncomputable def sp315 : List AV → Store → Tr R
  | [.ptr id 0], σ => bufLen 156 5 σ id
  | _, _ => .fail
noncomputable def sp167 : List AV → Store → Tr R
  | [.str s, .int .i64 (.ofNat n)], σ => must (Nat.ble (s.length * n) roomA && Nat.ble n roomA) (.ret (.str (repA s n), σ))
  | _, _ => .fail
noncomputable def sp51 : List AV → Store → Tr R
  | [.str s, .int .u8 c], σ => .ret (.int .i64 (indexB c.toNat.toUInt8 s 0), σ)
  | _, _ => .fail
theorem sp53_ok (args : List AV) (σ : Store) : CallOK X0 53 args σ (sp53 args σ) := by
  unfold sp53; split
  · exact ok53 _ _
  · exact CallOK.fail _ _ _ _
theorem sp39_ok (args : List AV) (σ : Store) : CallOK X0 39 args σ (sp39 args σ) := by
  unfold sp39; split
  · exact ok39 _ _
  · exact CallOK.fail _ _ _ _
theorem sp308_ok (args : List AV) (σ : Store) : CallOK X0 308 args σ (sp308 args σ) := by
  unfold sp308; split
  · rename_i id x
    intro K g w args' ht
    obtain ⟨add, hx, ht⟩ := Tr.sat_opt ht
    exact ok308 _ _ add hx _ K g w args' ht
  · exact CallOK.fail _ _ _ _
theorem sp318_ok (args : List AV) (σ : Store) : CallOK X0 318 args σ (sp318 args σ) := by
  unfold sp318; split
  · intro K g w args' ht
    obtain ⟨hm, ht⟩ := Tr.sat_must ht
    exact ok318 _ _ (by simpa using hm) _ K g w args' ht
  · exact CallOK.fail _ _ _ _
theorem sp74_ok (args : List AV) (σ : Store) : CallOK X0 74 args σ (sp74 args σ) := by
  unfold sp74; split
  · exact ok74 _ _
  · exact CallOK.fail _ _ _ _
theorem sp315_ok (args : List AV) (σ : Store) : CallOK X0 315 args σ (sp315 args σ) := by
  unfold sp315; split
  · exact ok315 _ _
  · exact CallOK.fail _ _ _ _
theorem sp167_ok (args : List AV) (σ : Store) : CallOK X0 167 args σ (sp167 args σ) := by
  unfold sp167; split
  · exact ok167 _ _ _
  · exact CallOK.fail _ _ _ _
theorem sp51_ok (args : List AV) (σ : Store) : CallOK X0 51 args σ (sp51 args σ) := by
  unfold sp51; split
  · exact ok51 _ _ _
  · exact CallOK.fail _ _ _ _
end Go.Proofs.YtpefmbpjanafkaaGreatDoor
