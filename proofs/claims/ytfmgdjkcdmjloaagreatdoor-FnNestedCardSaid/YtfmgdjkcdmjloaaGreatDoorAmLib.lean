/- The abstract machine: what functions of the library do, at this program. -/
import Derived.Test.YtfmgdjkcdmjloaaGreatDoorAmX
import Derived.Test.YtfmgdjkcdmjloaaGreatDoorAmS
import Derived.Test.YtfmgdjkcdmjloaaGreatDoorAmLay
import Derived.Test.YtfmgdjkcdmjloaaGreatDoorAmBuf
set_option linter.unusedVariables false
set_option linter.unusedSimpArgs false
namespace Go.Proofs.YtfmgdjkcdmjloaaGreatDoor
open Go.AM Go.Shelf Go.RowKit

section
variable {g : Ghost} {σ : Store} {w : World}

/-- A slice of bytes: where it lies. -/
theorem held_cases (hs : Sim g σ w) {u8 : TypeId} {buf : AV} {v : Value} (hv : VR g buf v) {old : List AV} (h : heldA u8 σ buf = some old) :
    (buf = .nils ∧ v = .slice none 0 0 ∧ old = []) ∨
    ∃ id len cap e cs b l rest, buf = .slice id 0 len cap 1 ∧ σ.get id = some (.cells e cs) ∧ e / 2 = u8 ∧ g.π id = some (b, l.length + rest.length) ∧ w.heap[b]? = some (.cells ⟨l ++ rest⟩ u8 (0, 0)) ∧ VRs g cs l ∧
      v = .slice (some ⟨b, 0, none⟩) len (l.length + rest.length) ∧ len ≠ 0 ∧ len ≤ cs.length ∧ allOne cs = true ∧ old = cs.take len ∧ l.length + rest.length ≤ 9223372036854775807 := by
  unfold heldA at h
  split at h
  · cases hv
    cases h
    exact .inl ⟨rfl, rfl, rfl⟩
  · rename_i id len cap
    split at h
    case h_2 => cases h
    rename_i e cs hg
    cases hc : (Nat.beq (e / 2) u8 && !(Nat.beq len 0) && Nat.ble len cs.length && allOne cs) with
    | false => rw [hc] at h; cases h
    | true =>
      rw [hc] at h
      cases h
      simp only [Bool.and_eq_true, Bool.not_eq_true'] at hc
      obtain ⟨⟨⟨c1, c0⟩, c2⟩, c3⟩ := hc
      have he : e / 2 = u8 := Nat.eq_of_beq_eq_true c1
      subst he
      have c0 : len ≠ 0 := fun h0 => by subst h0; cases c0
      obtain ⟨b, n, o, hp, ho, l, rest, rfl, hn, hvr, _⟩ := hs.blk _ _ hg
      subst hn
      cases hv with
      | slice _ _ _ _ _ a c h1 h2 h3 =>
      obtain ⟨rfl, h4, h5⟩ := h2 _ _ hp
      have : c = l.length + rest.length := by omega
      subst this
      exact .inr ⟨id, len, cap, e, cs, b, l, rest, rfl, hg, rfl, hp, ho, hvr, rfl, c0, by simpa using c2, c3, rfl, h3⟩
  · cases h

/-- A block without more cells than those that are told. -/
theorem exact_block {n : Nat} {T : TypeId} {cs : List AV} {o : Obj} (h : BR g n (.cells (2 * T + 1) cs) o) : ∃ l, o = .cells ⟨l⟩ T (0, 0) ∧ l.length = n ∧ VRs g cs l := by
  obtain ⟨l, rest, rfl, hn, hv, hx⟩ := h
  obtain rfl := hx (code_odd T)
  refine ⟨l, ?_, by simpa using hn, hv⟩
  rw [code_half1, List.append_nil]

/-- A block is forgotten, whatever becomes of it. -/
theorem kill_sim (hs : Sim g σ w) {id b n : Nat} (hp : g.π id = some (b, n)) {w' : World} (hsz : w'.heap.size = w.heap.size) (hk : ∀ c, c ≠ b → w'.heap[c]? = w.heap[c]?) (h1 : w'.os = w.os) (h2 : w'.tape = w.tape) (h3 : w'.output = w.output) :
    ∃ g', Sim g' (σ.kill id) w' ∧ Ext g g' w w' := by
  have hle : g.le { π := fun i => if i = id then none else g.π i, I := g.I, next := g.next } :=
    ⟨Nat.le_refl _, fun i x _ hx => by
      simp only at hx
      split at hx
      · cases hx
      · exact hx, fun _ _ h => h⟩
  refine ⟨{ π := fun i => if i = id then none else g.π i, I := g.I, next := g.next }, ⟨hs.next, ?_, ?_, ?_, ?_, ?_⟩, ⟨hle, h1, h2, h3, Nat.le_of_eq hsz.symm, ?_, ?_⟩⟩
  · intro i bl hi
    by_cases hid : i = id
    · subst hid
      have : (σ.kill i).get i = none := PT.get_upd_none σ.t i
      rw [this] at hi; cases hi
    · have e2 : σ.get i = some bl := (PT.get_upd_ne σ.t id i none hid).symm.trans hi
      obtain ⟨b', m, o', hp', ho, hbr'⟩ := hs.blk _ _ e2
      refine ⟨b', m, o', by simp [hid, hp'], ?_, hbr'.mono hle⟩
      rw [hk b' (fun e => hid (by subst e; exact hs.inj _ _ _ _ _ hp' hp))]
      exact ho
  · intro i j c m m' h h'
    simp only at h h'
    split at h <;> split at h' <;> first | cases h | cases h' | exact hs.inj _ _ _ _ _ h h'
  · intro c cs hI
    obtain ⟨e, m, o', ho, hbr'⟩ := hs.imm c cs hI
    exact ⟨e, m, o', by rw [hk c (fun e1 => hs.apart c cs id n hI (by rw [hp, e1]))]; exact ho, hbr'.mono hle⟩
  · intro c cs i m hI hpi
    simp only at hpi
    split at hpi
    · cases hpi
    · exact hs.apart c cs i m hI hpi
  · intro i c m hpi
    simp only at hpi
    split at hpi
    · cases hpi
    · rw [hsz]; exact hs.lt _ _ _ hpi
  · intro c hc hn
    exact hk c (fun e => hn id n (by rw [hp, e]))
  · intro i c m hpi _
    simp only at hpi
    split at hpi
    · cases hpi
    · exact ⟨i, m, hpi⟩

/-- Sim behind a write into a buffer. -/
theorem wrote_sim (hs : Sim g σ w) {T u8 : TypeId} (hTu : T ≠ u8) {id b n : Nat} {buf : AV} {v : Value} {old new : List AV} {news : List Value} {r0 r1 : AV} (hbuf : VR g buf v) (hheld : heldA u8 σ buf = some old)
    (hid : σ.get id = some (.cells (2 * T + 1) [buf, r0, r1])) (hp : g.π id = some (b, n)) (hn : n = 3) (hvs : VRs g new news) (hnx : ∃ x, ((dropA σ buf).new (.cells (2 * u8) new)).get σ.next = some x) {w' : World} (hw : Wrote T u8 b v news w w') :
    ∃ g', Sim g' (((dropA σ buf).new (.cells (2 * u8) new)).upd id (.cells (2 * T + 1) [.slice σ.next 0 new.length new.length 1, .int .i64 0, .int .i8 0])) w' ∧ Ext g g' w w' := by
  obtain ⟨gd, cap, cur, hb', hgd, hcs, hle', hcm, htk, hgb, how⟩ := hw.row
  -- the block that is forgotten
  obtain ⟨dead, hdrop, hdead, hown⟩ : ∃ dead : Nat → Bool, (∀ i, (dropA σ buf).get i = if dead i then none else σ.get i) ∧ (∀ i, dead i = true → i ≠ id ∧ ∃ d m, g.π i = some (d, m) ∧ v.ownBlock = some d) ∧ (∀ d, v.ownBlock = some d → ∃ i m, dead i = true ∧ g.π i = some (d, m)) := by
    rcases held_cases hs hbuf hheld with ⟨rfl, rfl, _⟩ | ⟨i0, len, cp, e, cs, d, l, rest, rfl, hg0, he, hp0, ho0, hvr, rfl, h0, hl, h1, rfl, hmx⟩
    · exact ⟨fun _ => false, fun i => rfl, fun i h => (by cases h), fun d h => (by cases h)⟩
    · refine ⟨fun i => i == i0, fun i => ?_, fun i h => ?_, fun d' h => ?_⟩
      · show (σ.kill i0).get i = _
        by_cases hi : i = i0
        · subst hi; simp only [beq_self_eq_true, if_true]; exact PT.get_upd_none σ.t i
        · simp only [beq_iff_eq, hi, if_false]; exact PT.get_upd_ne σ.t i0 i none hi
      · have hi : i = i0 := by simpa using h
        subst hi
        refine ⟨fun h => ?_, d, _, hp0, rfl⟩
        subst h
        rw [hg0] at hid
        simp only [Option.some.injEq, Blk.cells.injEq] at hid
        exact hTu (by rw [← code_half1 T, ← hid.1, he])
      · have : d = d' := by simpa [Value.ownBlock] using h
        subst this
        exact ⟨i0, _, by simp, hp0⟩
  have hnext : (dropA σ buf).next = σ.next := by unfold dropA; split <;> rfl
  have hdn : (dropA σ buf).get σ.next = none := by
    rw [hdrop]; split
    · rfl
    · exact hs.fresh
  have hidn : id ≠ σ.next := by intro h; rw [h, hs.fresh] at hid; cases hid
  have hbw := (hs.lt _ _ _ hp).2
  have hgdw : gd < w'.heap.size := by
    rcases Nat.lt_or_ge gd w'.heap.size with h | h
    · exact h
    · rw [Array.getElem?_eq_none h] at hgd; cases hgd
  have hlen : new.length = news.length := hvs.length
  have hle : g.le { π := fun i => if i = g.next then some (gd, cap) else if dead i then none else g.π i, I := g.I, next := g.next + 1 } :=
    ⟨Nat.le_succ _, fun i x hi hx => by
      simp only [Nat.ne_of_lt hi, if_false] at hx
      split at hx
      · cases hx
      · exact hx, fun _ _ h => h⟩
  have hid0 : dead id = false := by
    cases h : dead id with
    | false => rfl
    | true => exact ((hdead id h).1 rfl).elim
  -- an old block that is not forgotten, nor the buffer's
  have hkeep : ∀ i c m, g.π i = some (c, m) → dead i = false → i ≠ id → w'.heap[c]? = w.heap[c]? := by
    intro i c m hi hd hne
    refine hw.keep c (hs.lt _ _ _ hi).2 (fun e => hne (by subst e; exact hs.inj _ _ _ _ _ hi hp)) (fun e => ?_)
    obtain ⟨j, m', hj, hpj⟩ := hown c e
    have := hs.inj _ _ _ _ _ hi hpj
    subst this
    rw [hd] at hj; cases hj
  have hkeepI : ∀ c cs, g.I c = some cs → w'.heap[c]? = w.heap[c]? := by
    intro c cs hI
    obtain ⟨_, _, _, ho, _⟩ := hs.imm c cs hI
    have hlt : c < w.heap.size := by
      rcases Nat.lt_or_ge c w.heap.size with h | h
      · exact h
      · rw [Array.getElem?_eq_none h] at ho; cases ho
    refine hw.keep c hlt (fun e => hs.apart c cs id n hI (by rw [hp, e])) (fun e => ?_)
    obtain ⟨j, m', hj, hpj⟩ := hown c e
    exact hs.apart c cs j m' hI hpj
  have hnew : ∀ i c m, g.π i = some (c, m) → dead i = false → c ≠ gd := by
    intro i c m hi hd e
    subst e
    rcases how with h | h
    · obtain ⟨j, m', hj, hpj⟩ := hown c h
      have := hs.inj _ _ _ _ _ hi hpj
      subst this
      rw [hd] at hj; cases hj
    · have := (hs.lt _ _ _ hi).2; omega
  refine ⟨_, ⟨by simp [Store.new, Store.upd, hnext, hs.next], ?_, ?_, ?_, ?_, ?_⟩, ⟨hle, hw.os, hw.tape, hw.output, hw.size, ?_, ?_⟩⟩
  · intro i bl hi
    by_cases h1 : i = id
    · subst h1
      have hg1 : ((dropA σ buf).new (.cells (2 * u8) new)).get i = some (.cells (2 * T + 1) [buf, r0, r1]) := by
        have := PT.get_ins_ne 64 (dropA σ buf).t (dropA σ buf).next i (.cells (2 * u8) new) (by rw [hnext]; exact hidn)
        refine this.trans ?_
        show (dropA σ buf).get i = _
        rw [hdrop, hid0]; exact hid
      have : (((dropA σ buf).new (.cells (2 * u8) new)).upd i (.cells (2 * T + 1) [.slice σ.next 0 new.length new.length 1, .int .i64 0, .int .i8 0])).get i = some (.cells (2 * T + 1) [.slice σ.next 0 new.length new.length 1, .int .i64 0, .int .i8 0]) := PT.get_upd _ _ _ _ hg1
      rw [this] at hi; cases hi
      have hin : i ≠ g.next := by rw [hs.next]; exact hidn
      refine ⟨b, n, _, by simp [hin, hid0, hp], hb', _, [], by rw [List.append_nil, code_half1], by rw [hn]; rfl, ?_, fun _ => rfl⟩
      refine .cons ?_ (.cons (.int _ _) (.cons (.int _ _) .nil))
      rw [hlen]
      refine .slice _ _ _ _ _ _ _ (by show σ.next < g.next + 1; rw [hs.next]; omega) (fun b2 n2 h2 => ?_) (by unfold maxLen at hcm; omega)
      simp only [hs.next, if_true, Option.some.injEq, Prod.mk.injEq] at h2
      obtain ⟨rfl, rfl⟩ := h2
      exact ⟨rfl, by omega, hle'⟩
    · have hi2 : ((dropA σ buf).new (.cells (2 * u8) new)).get i = some bl := (PT.get_upd_ne _ id i _ h1).symm.trans hi
      by_cases h2 : i = σ.next
      · subst h2
        obtain ⟨x, hx⟩ := hnx
        have e1 : x = .cells (2 * u8) new := by
          have hx' : PT.get (PT.ins 64 (dropA σ buf).t (dropA σ buf).next (.cells (2 * u8) new)) σ.next = some x := hx
          rw [hnext] at hx'
          exact PT.get_ins _ _ _ _ _ hdn hx'
        rw [hx] at hi2
        cases hi2
        subst e1
        have hcur : cur = ⟨news ++ cur.toList.drop news.length⟩ := by
          rw [← Array.toList_inj]
          show cur.toList = news ++ cur.toList.drop news.length
          conv => lhs; rw [← List.take_append_drop news.length cur.toList, htk]
        refine ⟨gd, cap, .cells cur u8 (0, 0), by simp [hs.next], hgd, news, cur.toList.drop news.length, ?_, ?_, hvs.mono hle, fun h => (code_even _ h).elim⟩
        · rw [code_half0, ← hcur]
        · have hcl : cur.toList.length = cap := hcs
          rw [List.length_drop]; omega
      · have hi3 : (dropA σ buf).get i = some bl := by
          have := PT.get_ins_ne 64 (dropA σ buf).t (dropA σ buf).next i (.cells (2 * u8) new) (by rw [hnext]; exact h2)
          exact this.symm.trans hi2
        rw [hdrop] at hi3
        split at hi3
        · cases hi3
        · rename_i hd
          have hd : dead i = false := by simpa using hd
          obtain ⟨c, m, o, hpi, ho, hbr⟩ := hs.blk _ _ hi3
          refine ⟨c, m, o, by rw [hs.next]; simp [h2, hd, hpi], ?_, hbr.mono hle⟩
          rw [hkeep i c m hpi hd h1]; exact ho
  · intro i j c m m' h h'
    simp only at h h'
    split at h <;> split at h'
    · simp_all
    · simp only [Option.some.injEq, Prod.mk.injEq] at h
      obtain ⟨rfl, rfl⟩ := h
      split at h'
      · cases h'
      · rename_i hd; exact (hnew _ _ _ h' (by simpa using hd) rfl).elim
    · simp only [Option.some.injEq, Prod.mk.injEq] at h'
      obtain ⟨rfl, rfl⟩ := h'
      split at h
      · cases h
      · rename_i hd; exact (hnew _ _ _ h (by simpa using hd) rfl).elim
    · split at h <;> split at h' <;> first | cases h | cases h' | exact hs.inj _ _ _ _ _ h h'
  · intro c cs hI
    obtain ⟨e, m, o', ho, hbr'⟩ := hs.imm c cs hI
    exact ⟨e, m, o', by rw [hkeepI c cs hI]; exact ho, hbr'.mono hle⟩
  · intro c cs i m hI hpi
    simp only at hpi
    split at hpi
    · simp only [Option.some.injEq, Prod.mk.injEq] at hpi
      obtain ⟨rfl, rfl⟩ := hpi
      rcases how with h | h
      · obtain ⟨j, m', hj, hpj⟩ := hown _ h
        exact hs.apart _ cs j m' hI hpj
      · obtain ⟨_, _, _, ho, _⟩ := hs.imm _ cs hI
        rw [Array.getElem?_eq_none h] at ho; cases ho
    · split at hpi
      · cases hpi
      · exact hs.apart c cs i m hI hpi
  · intro i c m hpi
    simp only at hpi
    have := hw.size
    split at hpi
    · rename_i h
      simp only [Option.some.injEq, Prod.mk.injEq] at hpi
      obtain ⟨rfl, rfl⟩ := hpi
      exact ⟨by simp only; omega, hgdw⟩
    · split at hpi
      · cases hpi
      · have := hs.lt _ _ _ hpi; exact ⟨by simp only; omega, by omega⟩
  · intro c hc hn'
    refine hw.keep c hc (fun e => hn' id n (by rw [hp, e])) (fun e => ?_)
    obtain ⟨j, m', hj, hpj⟩ := hown c e
    exact hn' j m' hpj
  · intro i c m hpi hc
    simp only at hpi
    split at hpi
    · simp only [Option.some.injEq, Prod.mk.injEq] at hpi
      obtain ⟨rfl, rfl⟩ := hpi
      rcases how with h | h
      · obtain ⟨j, m', hj, hpj⟩ := hown _ h; exact ⟨j, m', hpj⟩
      · omega
    · split at hpi
      · cases hpi
      · exact ⟨i, m, hpi⟩
end
end Go.Proofs.YtfmgdjkcdmjloaaGreatDoor
/- The abstract machine: calls of the library's functions. -/
namespace Go.Proofs.YtfmgdjkcdmjloaaGreatDoor
open Go.AM Go.Shelf Go.RowKit

section
variable {g : Ghost} {σ : Store} {w : World}

theorem allOne_mem {cs : List AV} (h : allOne cs = true) : ∀ a ∈ cs, a.one = true := by
  induction cs with
  | nil => intro a ha; cases ha
  | cons c cs ih =>
    simp only [allOne, Bool.and_eq_true] at h
    intro a ha
    cases ha with
    | head => exact h.1
    | tail _ ha => exact ih h.2 a ha
theorem oneCell_of {l : List AV} {vs : List Value} (h : VRs g l vs) (h1 : ∀ a ∈ l, a.one = true) : ∀ v ∈ vs, v.oneCell' = true := by
  induction l generalizing vs with
  | nil => cases h; intro v hv; cases hv
  | cons a l ih =>
    cases h with
    | cons h hs =>
      intro v hv
      cases hv with
      | head =>
        obtain ⟨e1, e2⟩ := one_cell h (h1 a (List.mem_cons_self ..))
        cases ‹Value› <;> first | rfl | exact (e1 _ rfl).elim | exact (e2 _ rfl).elim
      | tail _ hv => exact ih hs (fun a ha => h1 a (List.mem_cons_of_mem _ ha)) v hv

/-- The row of a buffer, out of what the store tells. -/
theorem held_row (hs : Sim g σ w) {u8 T : TypeId} (hTu : T ≠ u8) {buf : AV} {v : Value} (hv : VR g buf v) {old : List AV} (h : heldA u8 σ buf = some old) {id b n : Nat} {cs0 : List AV} (hid : σ.get id = some (.cells (2 * T + 1) cs0)) (hp : g.π id = some (b, n)) :
    ∃ bs, HasRow u8 b v bs w ∧ VRs g old bs ∧ (∀ x ∈ bs, x.oneCell' = true) := by
  rcases held_cases hs hv h with ⟨rfl, rfl, rfl⟩ | ⟨i0, len, cp, e, cs, d, l, rest, rfl, hg0, he, hp0, ho0, hvr, rfl, h0, hl, h1, rfl, hmx⟩
  · exact ⟨[], .inl ⟨rfl, rfl⟩, .nil, fun x hx => (by cases hx)⟩
  · have hll := hvr.length
    have hlen : (l.take len).length = len := by rw [List.length_take]; omega
    refine ⟨l.take len, .inr ⟨d, l.length + rest.length, ⟨l ++ rest⟩, by rw [hlen], ho0, by omega, by omega, by unfold maxLen; omega, by simp, ?_, ?_⟩, hvr.take len, oneCell_of (hvr.take len) fun a ha => allOne_mem h1 a (List.mem_of_mem_take ha)⟩
    · rw [hlen]
      show (l ++ rest).take len = _
      rw [List.take_append_of_le_length (by omega)]
    · intro e1
      subst e1
      have := hs.inj _ _ _ _ _ hp0 hp
      subst this
      rw [hg0] at hid
      simp only [Option.some.injEq, Blk.cells.injEq] at hid
      exact hTu (by rw [← code_half1 T, ← hid.1, he])

theorem VRs_bytes : ∀ s : List UInt8, VRs g (bytesA s) (Lib.byteCells s)
  | [] => .nil
  | _ :: s => .cons (.int _ _) (VRs_bytes s)

/-- Sim under a world that keeps all old blocks. -/
theorem below_sim (hs : Sim g σ w) {w' : World} (h : Below w.heap.size w w') : Sim g σ w' ∧ Ext g g w w' := by
  refine ⟨⟨hs.next, fun id bl hb => ?_, hs.inj, fun b cs hb => ?_, hs.apart, fun id b n hb => ?_⟩, ⟨.refl g, h.os, h.tape, h.output, h.size, fun b hb _ => h.block b hb, fun id b n hb _ => ⟨id, n, hb⟩⟩⟩
  · obtain ⟨b, n, o, h1, h2, h3⟩ := hs.blk id bl hb
    exact ⟨b, n, o, h1, by rw [h.block b (hs.lt _ _ _ h1).2]; exact h2, h3⟩
  · obtain ⟨e, n, o, h2, h3⟩ := hs.imm b cs hb
    have hlt : b < w.heap.size := by
      rcases Nat.lt_or_ge b w.heap.size with h | h
      · exact h
      · rw [Array.getElem?_eq_none h] at h2; cases h2
    exact ⟨e, n, o, by rw [h.block b hlt]; exact h2, h3⟩
  · have := hs.lt _ _ _ hb
    exact ⟨this.1, Nat.lt_of_lt_of_le this.2 h.size⟩
end

/-- (*bytes.Buffer).WriteString -/
theorem ok240 (id : Nat) (s : List UInt8) (σ : Store) : CallOK X0 240 [.ptr id 0, .str s] σ (bufWrite 67 5 σ id (bytesA s) (.tup [.int .i64 s.length, .nili])) := by
  intro K g w args' ht ha hs hG
  unfold bufWrite at ht
  split at ht
  case h_2 => exact ht.elim
  rename_i e buf lr hg
  obtain ⟨he, ht⟩ := Tr.sat_must ht
  have he : e = 2 * 67 + 1 := Nat.eq_of_beq_eq_true he
  subst he
  obtain ⟨old, hold, ht⟩ := Tr.sat_opt ht
  obtain ⟨hm, ht⟩ := Tr.sat_must ht
  split at ht
  case h_2 => exact ht.elim
  rename_i x hx
  cases ha with
  | cons hptr hr =>
  cases hr with
  | cons hstr hnil =>
  cases hnil
  cases hstr
  cases hptr with
  | ptr _ _ a h1 h2 =>
  obtain ⟨b, n, o, hp, ho, hbr⟩ := hs.blk _ _ hg
  obtain rfl := h2 b n hp
  obtain ⟨l, rfl, hn, hv⟩ := exact_block hbr
  cases hv with
  | cons hbuf hv =>
  cases hv with
  | cons ho1 hv =>
  cases hv with
  | cons ho2 hv =>
  cases hv
  cases ho1
  cases ho2
  obtain ⟨bs, hrow, hvs, hone⟩ := held_row hs (T := 67) (u8 := 5) (by decide) hbuf hold hg hp
  simp only [Bool.and_eq_true, Bool.not_eq_true'] at hm
  have hbl : (bytesA s).length = s.length := by simp [bytesA]
  have hol := hvs.length
  have hsz : (⟨s.toArray⟩ : ByteArray).size = s.length := by simp [ByteArray.size]
  have h0 : (⟨s.toArray⟩ : ByteArray).size ≠ 0 := by
    rw [hsz]; intro e
    have := hm.1
    rw [hbl, e] at this; cases this
  have hlim : bs.length + (⟨s.toArray⟩ : ByteArray).size ≤ 140737488355328 := by
    have h3 : old.length + (bytesA s).length ≤ roomA := by simpa using hm.2
    unfold roomA at h3
    rw [hsz]; omega
  have main : Calls X0.P 240 #[.pointer (some ⟨b, 0, none⟩), .string ⟨s.toArray⟩] w fun e w' => e = .returned (.tuple #[.int .i64 (⟨s.toArray⟩ : ByteArray).size, .nilIface]) ∧ Wrote 67 5 b _ (bs ++ Lib.byteCells s) w w' :=
    buf_WriteString Tryz.laysM178 b _ _ bs ⟨s.toArray⟩ w ho hrow hone h0 hlim
  refine main.mono ?_
  rintro e w' ⟨rfl, hW⟩
  obtain ⟨g', hS, hE⟩ := wrote_sim hs (T := 67) (u8 := 5) (by decide) hbuf hold hg hp (by rw [← hn]; rfl) (hvs.append (VRs_bytes s)) ⟨x, hx⟩ hW
  rw [List.length_append] at hS
  refine ⟨_, _, _, g', rfl, ht, hS, hE, ?_⟩
  rw [hsz]
  exact .tup (.cons (.int _ _) (.cons .nili .nil))

/-- (*bytes.Buffer).WriteByte -/
theorem ok254 (id : Nat) (c : Int) (σ : Store) : CallOK X0 254 [.ptr id 0, .int .u8 c] σ (bufWrite 67 5 σ id [.int .u8 c] .nili) := by
  intro K g w args' ht ha hs hG
  unfold bufWrite at ht
  split at ht
  case h_2 => exact ht.elim
  rename_i e buf lr hg
  obtain ⟨he, ht⟩ := Tr.sat_must ht
  have he : e = 2 * 67 + 1 := Nat.eq_of_beq_eq_true he
  subst he
  obtain ⟨old, hold, ht⟩ := Tr.sat_opt ht
  obtain ⟨hm, ht⟩ := Tr.sat_must ht
  split at ht
  case h_2 => exact ht.elim
  rename_i x hx
  cases ha with
  | cons hptr hr =>
  cases hr with
  | cons hint hnil =>
  cases hnil
  cases hint
  cases hptr with
  | ptr _ _ a h1 h2 =>
  obtain ⟨b, n, o, hp, ho, hbr⟩ := hs.blk _ _ hg
  obtain rfl := h2 b n hp
  obtain ⟨l, rfl, hn, hv⟩ := exact_block hbr
  cases hv with
  | cons hbuf hv =>
  cases hv with
  | cons ho1 hv =>
  cases hv with
  | cons ho2 hv =>
  cases hv
  cases ho1
  cases ho2
  obtain ⟨bs, hrow, hvs, hone⟩ := held_row hs (T := 67) (u8 := 5) (by decide) hbuf hold hg hp
  simp only [Bool.and_eq_true, Bool.not_eq_true'] at hm
  have hol := hvs.length
  have hlim : bs.length + 1 ≤ 140737488355328 := by
    have h3 : old.length + 1 ≤ roomA := by simpa using hm.2
    unfold roomA at h3
    omega
  have main : Calls X0.P 254 #[.pointer (some ⟨b, 0, none⟩), .int .u8 c] w fun e w' => e = .returned .nilIface ∧ Wrote 67 5 b _ (bs ++ [.int .u8 c]) w w' :=
    buf_WriteByte Tryz.laysM179 b _ _ bs c w ho hrow hone hlim
  refine main.mono ?_
  rintro e w' ⟨rfl, hW⟩
  obtain ⟨g', hS, hE⟩ := wrote_sim hs (T := 67) (u8 := 5) (by decide) hbuf hold hg hp (by rw [← hn]; rfl) (hvs.append (.cons (.int .u8 c) .nil)) ⟨x, hx⟩ hW
  rw [List.length_append] at hS
  exact ⟨_, _, _, g', rfl, ht, hS, hE, .nili⟩

/-- strings.Builder's copyCheck -/
theorem ok34 (id : Nat) (σ : Store) : CallOK X0 34 [.ptr id 0] σ (copyCheckA 36 σ id) := by
  intro K g w args' ht ha hs hG
  unfold copyCheckA at ht
  split at ht
  case h_2 => exact ht.elim
  rename_i e p buf hg
  obtain ⟨he, ht⟩ := Tr.sat_must ht
  have he : e = 2 * 36 + 1 := Nat.eq_of_beq_eq_true he
  subst he
  cases ha with
  | cons hptr hnil =>
  cases hnil
  cases hptr with
  | ptr _ _ a h1 h2 =>
  obtain ⟨b, n, o, hp, ho, hbr⟩ := hs.blk _ _ hg
  obtain rfl := h2 b n hp
  obtain ⟨l, rfl, hn, hv⟩ := exact_block hbr
  cases hv with
  | cons hpp hv =>
  cases hv with
  | cons hbuf hv =>
  cases hv
  have hbw : b < w.heap.size := (hs.lt _ _ _ hp).2
  split at ht
  · cases hpp
    have main : Calls X0.P 34 #[.pointer (some ⟨b, 0, none⟩)] w fun e w' => e = .returned (.tuple #[]) ∧ w' = w.setCell ⟨b, 0, none⟩ (.pointer (some ⟨b, 0, none⟩)) :=
      Tryz.copyCheck_fresh b w (by rw [Lib.cell_of_heap ho]; rfl) (by simp [World.shape?, ho]) (Lib.frozen_of_heap ho 0)
    refine main.mono ?_
    rintro e w' ⟨rfl, rfl⟩
    obtain ⟨hS, hE⟩ := set_sim hs hp hg (bl' := .cells (2 * 36 + 1) [.ptr id 0, buf]) (o := .cells ⟨[.pointer (some ⟨b, 0, none⟩), _]⟩ 36 (0, 0)) ⟨_, [], by rw [code_half1]; rfl, by simpa using hn, .cons (.ptr _ _ _ h1 h2) (.cons hbuf .nil), fun _ => rfl⟩ (w' := w.setCell ⟨b, 0, none⟩ (.pointer (some ⟨b, 0, none⟩))) (by rw [setCell_setB ho]; rfl) rfl rfl rfl
    exact ⟨_, _, _, g, rfl, ht, hS, hE, .tup .nil⟩
  · rename_i i _
    obtain ⟨hi, hk⟩ := Tr.sat_must ht
    clear ht
    have hi : i = id := Nat.eq_of_beq_eq_true hi
    subst hi
    cases hpp with
    | ptr _ _ a2 h3 h4 =>
    obtain rfl := h4 b n hp
    have main : Calls X0.P 34 #[.pointer (some ⟨b, 0, none⟩)] w fun e w' => e = .returned (.tuple #[]) ∧ w' = w :=
      Tryz.copyCheck_used b w (by rw [Lib.cell_of_heap ho]; rfl)
    refine main.mono ?_
    rintro e w' ⟨rfl, rfl⟩
    exact ⟨_, _, _, g, rfl, hk, hs, .refl g _, .tup .nil⟩
  · exact ht.elim

theorem unbytes_sound {g : Ghost} : ∀ {xs : List AV} {l : List UInt8} {vs : List Value}, unbytesA xs = some l → VRs g xs vs → vs = Lib.byteCells l
  | [], l, vs, h, hv => by cases hv; cases h; rfl
  | x :: xs, l, vs, h, hv => by
    unfold unbytesA at h
    split at h
    · rename_i heq; cases heq
    · rename_i k xs' heq
      cases heq
      cases hk : Nat.ble k 255 with
      | false => rw [hk] at h; cases h
      | true =>
        rw [hk] at h
        simp only [cond_true] at h
        split at h
        · rename_i m hm
          cases h
          cases hv with
          | cons h1 h2 =>
            cases h1
            have hk' : k ≤ 255 := by simpa using hk
            rw [unbytes_sound hm h2]
            have : k.toUInt8.toNat = k := by simp [UInt8.toNat_ofNat']; omega
            simp [Lib.byteCells, this]
        · cases h
    · cases h

/-- strings.Builder's String -/
theorem ok20 (id : Nat) (σ : Store) : CallOK X0 20 [.ptr id 0] σ (bldString 36 5 σ id) := by
  intro K g w args' ht ha hs hG
  unfold bldString at ht
  split at ht
  case h_2 => exact ht.elim
  rename_i e p buf hg
  obtain ⟨he, ht⟩ := Tr.sat_must ht
  have he : e = 2 * 36 + 1 := Nat.eq_of_beq_eq_true he
  subst he
  obtain ⟨old, hold, ht⟩ := Tr.sat_opt ht
  obtain ⟨l, hl, hk⟩ := Tr.sat_opt ht
  clear ht
  cases ha with
  | cons hptr hnil =>
  cases hnil
  cases hptr with
  | ptr _ _ a h1 h2 =>
  obtain ⟨b, n, o, hp, ho, hbr⟩ := hs.blk _ _ hg
  obtain rfl := h2 b n hp
  obtain ⟨lv, rfl, hn, hv⟩ := exact_block hbr
  cases hv with
  | cons hpp hv =>
  cases hv with
  | cons hbuf hv =>
  cases hv
  rcases held_cases hs hbuf hold with ⟨rfl, rfl, rfl⟩ | ⟨i0, len, cp, e, cs, d, l0, rest, rfl, hg0, he, hp0, ho0, hvr, rfl, h0, hln, hone, rfl, hmx⟩
  · cases hl
    have main : Calls X0.P 20 #[.pointer (some ⟨b, 0, none⟩)] w fun e w' => e = .returned (.string ⟨#[]⟩) ∧ w' = w.drew := str_String_nil Tryz.lays169 Tryz.Builder_Extra_169 b _ w ho
    refine main.mono ?_
    rintro e w' ⟨rfl, rfl⟩
    exact ⟨_, _, _, g, rfl, hk, hs.same rfl, Ext.same rfl rfl rfl rfl, .str []⟩
  · have hbl := unbytes_sound hl (hvr.take len)
    have hll := hvr.length
    have hlen : l.length = len := by
      have := congrArg List.length hbl
      rw [Lib.byteCells_length, List.length_take] at this
      omega
    subst hlen
    have main : Calls X0.P 20 #[.pointer (some ⟨b, 0, none⟩)] w fun e w' => e = .returned (.string ⟨l.toArray⟩) ∧ w' = w.drew.freeze ⟨d, 0, none⟩ l.length := by
      refine str_String_row Tryz.lays169 Tryz.Builder_Extra_169 b d (l0.length + rest.length) _ ⟨l0 ++ rest⟩ l w ho ho0 (fun e => h0 (by rw [e]; rfl)) (by simp; omega) (by omega) (by unfold maxLen; omega) ?_
      show (l0 ++ rest).take l.length = _
      rw [List.take_append_of_le_length (by omega), hbl]
    refine main.mono ?_
    rintro e w' ⟨rfl, rfl⟩
    obtain ⟨g', hS, hE⟩ := kill_sim hs hp0 (w' := w.drew.freeze ⟨d, 0, none⟩ l.length) (by unfold World.freeze; split <;> simp) (fun c hc => by
      unfold World.freeze
      split
      · rfl
      · rw [Array.getElem?_modify, if_neg (Ne.symm hc)]; rfl) (by unfold World.freeze; split <;> rfl) (by unfold World.freeze; split <;> rfl) (by unfold World.freeze; split <;> rfl)
    exact ⟨_, _, _, g', rfl, (show K (.str l, σ.kill i0) from hk), hS, hE, .str l⟩
end Go.Proofs.YtfmgdjkcdmjloaaGreatDoor
namespace Go.Proofs.YtfmgdjkcdmjloaaGreatDoor
open Go.AM Go.Shelf Go.RowKit
theorem repA_eq (l : List UInt8) : ∀ n, repA l n = Lib.repeatL l n
  | 0 => rfl
  | n + 1 => by rw [repA, Lib.repeatL, repA_eq l n]
/-- strings.Repeat -/
theorem ok15 (s : List UInt8) (n : Nat) (σ : Store) : CallOK X0 15 [.str s, .int .i64 n] σ (must (Nat.ble (s.length * n) roomA && Nat.ble n roomA) (.ret (.str (repA s n), σ))) := by
  intro K g w args' ht ha hs hG
  obtain ⟨hm, ht⟩ := Tr.sat_must ht
  simp only [Bool.and_eq_true] at hm
  have h1 : s.length * n ≤ roomA := by simpa using hm.1
  have h2 : n ≤ roomA := by simpa using hm.2
  cases ha with
  | cons hstr hr =>
  cases hr with
  | cons hint hnil =>
  cases hnil
  cases hstr
  cases hint
  have hsz : (⟨s.toArray⟩ : ByteArray).size = s.length := by simp [ByteArray.size]
  have main : Calls X0.P 15 #[.string ⟨s.toArray⟩, .int .i64 n] w fun e w' => e = .returned (.string ⟨(Lib.repeatL s n).toArray⟩) ∧ Below w.heap.size w w' :=
    Any.strings_Repeat Tryz.lays105 Tryz.Builder_Extra_105 ⟨s.toArray⟩ n w (by unfold roomA at h2; omega) (by rw [hsz]; unfold roomA at h1; omega)
  refine main.mono ?_
  rintro e w' ⟨rfl, hB⟩
  obtain ⟨hS, hE⟩ := below_sim hs hB
  exact ⟨_, _, _, g, rfl, ht, hS, hE, by rw [← repA_eq]; exact .str _⟩

theorem indexB_eq (c : UInt8) : ∀ (l : List UInt8) (i : Nat), indexB c l i = cond (Lib.indexByte l c == -1) (-1) (Lib.indexByte l c + i)
  | [], i => rfl
  | b :: l, i => by
    have hge := Lib.indexByte_ge l c
    unfold indexB Lib.indexByte
    by_cases h : b = c
    · subst h; simp [Nat.beq_refl]
    · have h1 : Nat.beq b.toNat c.toNat = false := by
        cases hb : Nat.beq b.toNat c.toNat with
        | false => rfl
        | true => exact (h (UInt8.toNat_inj.1 (Nat.eq_of_beq_eq_true hb))).elim
      have h2 : (b == c) = false := by simpa using h
      rw [h1, h2, cond_false, indexB_eq c l (i + 1)]
      simp only [Bool.false_eq_true, if_false]
      by_cases h3 : Lib.indexByte l c = -1
      · simp [h3]
      · have h4 : (Lib.indexByte l c == -1) = false := by simpa using h3
        have h5 : ¬ Lib.indexByte l c + 1 = -1 := by omega
        have h6 : (Lib.indexByte l c + 1 == -1) = false := by simpa using h5
        simp only [h4, Bool.false_eq_true, if_false, cond_false, h6]
        omega
/-- strings.IndexByte -/
theorem ok24 (s : List UInt8) (c : Int) (σ : Store) : CallOK X0 24 [.str s, .int .u8 c] σ (.ret (.int .i64 (indexB c.toNat.toUInt8 s 0), σ)) := by
  intro K g w args' ht ha hs hG
  cases ha with
  | cons hstr hr =>
  cases hr with
  | cons hint hnil =>
  cases hnil
  cases hstr
  cases hint
  have main : Calls X0.P 24 #[.string ⟨s.toArray⟩, .int .u8 c] w fun e w' => e = .returned (.int .i64 (Lib.indexByte s c.toNat.toUInt8)) ∧ w' = w := Any.strings_IndexByte Tryz.lays137 ⟨s.toArray⟩ c w
  refine main.mono ?_
  rintro e w' ⟨rfl, rfl⟩
  refine ⟨_, _, _, g, rfl, ht, hs, .refl g _, ?_⟩
  rw [indexB_eq]
  cases h : (Lib.indexByte s c.toNat.toUInt8 == -1) with
  | true => rw [cond_true]; rw [show Lib.indexByte s c.toNat.toUInt8 = -1 from by simpa using h]; exact .int _ _
  | false => rw [cond_false]; simp; exact .int _ _
end Go.Proofs.YtfmgdjkcdmjloaaGreatDoor
/- The abstract machine: functions as entries of a table. -/
namespace Go.AM
def ap0 (c : Store → Tr R) : List AV → Store → Tr R
  | [], σ => c σ
  | _, _ => .fail
def ap1 (c : AV → Store → Tr R) : List AV → Store → Tr R
  | [a], σ => c a σ
  | _, _ => .fail
def ap2 (c : AV → AV → Store → Tr R) : List AV → Store → Tr R
  | [a, b], σ => c a b σ
  | _, _ => .fail
def ap3 (c : AV → AV → AV → Store → Tr R) : List AV → Store → Tr R
  | [a, b, d], σ => c a b d σ
  | _, _ => .fail
def ap4 (c : AV → AV → AV → AV → Store → Tr R) : List AV → Store → Tr R
  | [a, b, d, e], σ => c a b d e σ
  | _, _ => .fail
def ap5 (c : AV → AV → AV → AV → AV → Store → Tr R) : List AV → Store → Tr R
  | [a, b, d, e, f], σ => c a b d e f σ
  | _, _ => .fail
def ap6 (c : AV → AV → AV → AV → AV → AV → Store → Tr R) : List AV → Store → Tr R
  | [a, b, d, e, f, g], σ => c a b d e f g σ
  | _, _ => .fail
section
variable {X : Env} {f : FuncId}
theorem ap0_ok {c : Store → Tr R} (h : ∀ σ, CallOK X f [] σ (c σ)) (args : List AV) (σ : Store) : CallOK X f args σ (ap0 c args σ) := by
  match args with
  | [] => exact h σ
  | _ :: _ => exact CallOK.fail X f _ σ
theorem ap1_ok {c : AV → Store → Tr R} (h : ∀ a σ, CallOK X f [a] σ (c a σ)) (args : List AV) (σ : Store) : CallOK X f args σ (ap1 c args σ) := by
  match args with
  | [a] => exact h a σ
  | [] | _ :: _ :: _ => exact CallOK.fail X f _ σ
theorem ap2_ok {c : AV → AV → Store → Tr R} (h : ∀ a b σ, CallOK X f [a, b] σ (c a b σ)) (args : List AV) (σ : Store) : CallOK X f args σ (ap2 c args σ) := by
  match args with
  | [a, b] => exact h a b σ
  | [] | [_] | _ :: _ :: _ :: _ => exact CallOK.fail X f _ σ
theorem ap3_ok {c : AV → AV → AV → Store → Tr R} (h : ∀ a b d σ, CallOK X f [a, b, d] σ (c a b d σ)) (args : List AV) (σ : Store) : CallOK X f args σ (ap3 c args σ) := by
  match args with
  | [a, b, d] => exact h a b d σ
  | [] | [_] | [_, _] | _ :: _ :: _ :: _ :: _ => exact CallOK.fail X f _ σ
theorem ap4_ok {c : AV → AV → AV → AV → Store → Tr R} (h : ∀ a b d e σ, CallOK X f [a, b, d, e] σ (c a b d e σ)) (args : List AV) (σ : Store) : CallOK X f args σ (ap4 c args σ) := by
  match args with
  | [a, b, d, e] => exact h a b d e σ
  | [] | [_] | [_, _] | [_, _, _] | _ :: _ :: _ :: _ :: _ :: _ => exact CallOK.fail X f _ σ
theorem ap5_ok {c : AV → AV → AV → AV → AV → Store → Tr R} (h : ∀ a b d e k σ, CallOK X f [a, b, d, e, k] σ (c a b d e k σ)) (args : List AV) (σ : Store) : CallOK X f args σ (ap5 c args σ) := by
  match args with
  | [a, b, d, e, k] => exact h a b d e k σ
  | [] | [_] | [_, _] | [_, _, _] | [_, _, _, _] | _ :: _ :: _ :: _ :: _ :: _ :: _ => exact CallOK.fail X f _ σ
theorem ap6_ok {c : AV → AV → AV → AV → AV → AV → Store → Tr R} (h : ∀ a b d e k l σ, CallOK X f [a, b, d, e, k, l] σ (c a b d e k l σ)) (args : List AV) (σ : Store) : CallOK X f args σ (ap6 c args σ) := by
  match args with
  | [a, b, d, e, k, l] => exact h a b d e k l σ
  | [] | [_] | [_, _] | [_, _, _] | [_, _, _, _] | [_, _, _, _, _] | _ :: _ :: _ :: _ :: _ :: _ :: _ :: _ => exact CallOK.fail X f _ σ
end
end Go.AM
namespace Go.Proofs.YtfmgdjkcdmjloaaGreatDoor
open Go.AM
def sp34 : List AV → Store → Tr R
  | [.ptr id 0], σ => copyCheckA 36 σ id
  | _, _ => .fail
def sp20 : List AV → Store → Tr R
  | [.ptr id 0], σ => bldString 36 5 σ id
  | _, _ => .fail
def sp240 : List AV → Store → Tr R
  | [.ptr id 0, .str s], σ => bufWrite 67 5 σ id (bytesA s) (.tup [.int .i64 s.length, .nili])
  | _, _ => .fail
def sp254 : List AV → Store → Tr R
  | [.ptr id 0, .int .u8 c], σ => bufWrite 67 5 σ id [.int .u8 c] .nili
  | _, _ => .fail
def sp15 : List AV → Store → Tr R
  | [.str s, .int .i64 (.ofNat n)], σ => must (Nat.ble (s.length * n) roomA && Nat.ble n roomA) (.ret (.str (repA s n), σ))
  | _, _ => .fail
def sp24 : List AV → Store → Tr R
  | [.str s, .int .u8 c], σ => .ret (.int .i64 (indexB c.toNat.toUInt8 s 0), σ)
  | _, _ => .fail
theorem sp34_ok (args : List AV) (σ : Store) : CallOK X0 34 args σ (sp34 args σ) := by
  unfold sp34; split
  · exact ok34 _ _
  · exact CallOK.fail _ _ _ _
theorem sp20_ok (args : List AV) (σ : Store) : CallOK X0 20 args σ (sp20 args σ) := by
  unfold sp20; split
  · exact ok20 _ _
  · exact CallOK.fail _ _ _ _
theorem sp240_ok (args : List AV) (σ : Store) : CallOK X0 240 args σ (sp240 args σ) := by
  unfold sp240; split
  · exact ok240 _ _ _
  · exact CallOK.fail _ _ _ _
theorem sp254_ok (args : List AV) (σ : Store) : CallOK X0 254 args σ (sp254 args σ) := by
  unfold sp254; split
  · exact ok254 _ _ _
  · exact CallOK.fail _ _ _ _
theorem sp15_ok (args : List AV) (σ : Store) : CallOK X0 15 args σ (sp15 args σ) := by
  unfold sp15; split
  · exact ok15 _ _ _
  · exact CallOK.fail _ _ _ _
theorem sp24_ok (args : List AV) (σ : Store) : CallOK X0 24 args σ (sp24 args σ) := by
  unfold sp24; split
  · exact ok24 _ _ _
  · exact CallOK.fail _ _ _ _
end Go.Proofs.YtfmgdjkcdmjloaaGreatDoor
