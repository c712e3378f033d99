/- The abstract machine: the operations' values, as rules for rewriting. -/
import Derived.Test.YtfmgdjkcdmjloaaGreatDoorSmS
import Derived.Test.YtfmgdjkcdmjloaaGreatDoorSmLib
set_option linter.unusedVariables false
set_option linter.unusedSimpArgs false
namespace Go.AM
section
variable {β : Type}

theorem val_ask (b : Bool) (k : Bool → Tr β) : (Tr.ask b k).val = (k b).val := rfl
theorem val_ret (a : β) : (Tr.ret a).val = some a := rfl
theorem val_mustT {b : Bool} (t : Tr β) (h : b = true) : (must b t).val = t.val := by subst h; rfl
theorem val_ifK (b : Bool) (s t : Tr β) : (ifK (.bool b) s t).val = cond b s.val t.val := by cases b <;> rfl
theorem val_pickK (c : Bool) (a b : AV) (f : AV → Tr β) : (pickK (.bool c) a b f).val = (f (cond c a b)).val := rfl
theorem val_grdT (σ : Store) (t : (AV → Store → Tr β) → Tr β) (f : AV → Store → Tr β) (want : Bool) (b : Bool) : (grdK (.bool b) want σ t f).val = cond (b == want) (t f).val (f (.tup []) σ).val := by cases b <;> cases want <;> rfl
theorem val_grdN (want : Bool) (σ : Store) (t : (AV → Store → Tr β) → Tr β) (f : AV → Store → Tr β) (l : List AV) : (grdK (.tup l) want σ t f).val = (f (.tup []) σ).val := rfl

theorem symInt (op : BinOp) (k k' : IntKind) (a b : Int) : symBin op (.int k a) (.int k' b) = none := rfl
theorem symStr (op : BinOp) (a b : List UInt8) : symBin op (.str a) (.str b) = none := rfl
theorem kindB_self (k : IntKind) : kindB k k = true := by cases k <;> rfl
theorem val_addK (a b : Int) (f : AV → Tr β) (h1 : -9223372036854775808 ≤ a + b) (h2 : a + b ≤ 9223372036854775807) : (addK (.int .i64 a) (.int .i64 b) f).val = (f (.int .i64 (a + b))).val := by
  have : inK .i64 (a + b) = true := by simp [inK, leI_eq, h1, h2]
  simp only [addK, symK, symInt, addK0, asIntK, fitK, show kindB .i64 .i64 = true from rfl, cond_true, val_ask, this]
theorem val_subK (a b : Int) (f : AV → Tr β) (h1 : -9223372036854775808 ≤ a - b) (h2 : a - b ≤ 9223372036854775807) : (subK (.int .i64 a) (.int .i64 b) f).val = (f (.int .i64 (a - b))).val := by
  have : inK .i64 (a - b) = true := by simp [inK, leI_eq, h1, h2]
  simp only [subK, symK, symInt, subK0, asIntK, fitK, show kindB .i64 .i64 = true from rfl, cond_true, val_ask, this]
theorem val_lt (k : IntKind) (a b : Int) (f : AV → Tr β) : (cmpK .lss (.int k a) (.int k b) f).val = (f (.bool (decide (a < b)))).val := by simp only [cmpK, symK, symInt, cmpK0, cmpF, asIntK, kindB_self, cond_true, ltI_eq]
theorem val_le (k : IntKind) (a b : Int) (f : AV → Tr β) : (cmpK .leq (.int k a) (.int k b) f).val = (f (.bool (decide (a ≤ b)))).val := by simp only [cmpK, symK, symInt, cmpK0, cmpF, asIntK, kindB_self, cond_true, leI_eq]
theorem val_gt (k : IntKind) (a b : Int) (f : AV → Tr β) : (cmpK .gtr (.int k a) (.int k b) f).val = (f (.bool (decide (b < a)))).val := by simp only [cmpK, symK, symInt, cmpK0, cmpF, asIntK, kindB_self, cond_true, gtI, ltI_eq]
theorem val_ge (k : IntKind) (a b : Int) (f : AV → Tr β) : (cmpK .geq (.int k a) (.int k b) f).val = (f (.bool (decide (b ≤ a)))).val := by simp only [cmpK, symK, symInt, cmpK0, cmpF, asIntK, kindB_self, cond_true, geI, leI_eq]
theorem val_eq (k : IntKind) (a b : Int) (f : AV → Tr β) : (cmpK .eql (.int k a) (.int k b) f).val = (f (.bool (decide (a = b)))).val := by simp only [cmpK, symK, symInt, cmpK0, cmpF, asIntK, kindB_self, cond_true, eqI_eq]
theorem val_ne (k : IntKind) (a b : Int) (f : AV → Tr β) : (cmpK .neq (.int k a) (.int k b) f).val = (f (.bool (!decide (a = b)))).val := by simp only [cmpK, symK, symInt, cmpK0, cmpF, asIntK, kindB_self, cond_true, neI, eqI_eq]
theorem val_lenS (s : List UInt8) (f : AV → Tr β) : (lenSK (.str s) f).val = (f (.int .i64 s.length)).val := rfl
theorem val_eqS (s t : List UInt8) (f : AV → Tr β) : (eqSK (.str s) (.str t) f).val = (f (.bool (decide (s = t)))).val := by simp only [eqSK, symK, symStr, eqSK0, asStrK, eqS_eq]
theorem val_neS (s t : List UInt8) (f : AV → Tr β) : (neSK (.str s) (.str t) f).val = (f (.bool (!decide (s = t)))).val := by simp only [neSK, symK, symStr, neSK0, asStrK, eqS_eq]
theorem symIdxN (s : List UInt8) (k : IntKind) (i : Int) : symIdx (.str s) (.int k i) = none := rfl
theorem symSlN (s : List UInt8) (k k' : IntKind) (i j : Int) : symSlice (.str s) (some (.int k i)) (some (.int k' j)) = none := rfl
theorem symSlL (s : List UInt8) (k : IntKind) (i : Int) : symSlice (.str s) (some (.int k i)) none = none := rfl
theorem symSlH (s : List UInt8) (k : IntKind) (i : Int) : symSlice (.str s) none (some (.int k i)) = none := rfl
/-- An index within a string. -/
theorem val_idxS (k : IntKind) (s : List UInt8) (i : Int) (f : AV → Tr β) (h0 : 0 ≤ i) (h1 : i < s.length) : (idxSK (.str s) (.int k i) f).val = (f (.int .u8 (s.getD i.toNat 0).toNat)).val := by
  unfold idxSK idxSK0
  simp only [symIdxN, asIntK, asStrK]
  rw [val_mustT _ (by simp [leI_eq, ltI_eq, h0, h1])]
theorem val_slice (k k' : IntKind) (s : List UInt8) (l h : Int) (f : AV → Tr β) (h0 : 0 ≤ l) (h1 : l ≤ h) (h2 : h ≤ s.length) : (sliceSK (.str s) (some (.int k l)) (some (.int k' h)) f).val = (f (.str ((s.take h.toNat).drop l.toNat))).val := by
  unfold sliceSK sliceSK0
  simp only [symSlN, asStrK, boundA]
  rw [val_mustT _ (by simp [leI_eq, h0, h1, h2])]
theorem val_sliceL (k : IntKind) (s : List UInt8) (l : Int) (f : AV → Tr β) (h0 : 0 ≤ l) (h1 : l ≤ s.length) : (sliceSK (.str s) (some (.int k l)) none f).val = (f (.str (s.drop l.toNat))).val := by
  unfold sliceSK sliceSK0
  simp only [symSlL, asStrK, boundA]
  rw [val_mustT _ (by simp [leI_eq, h0, h1])]
  simp
theorem val_sliceH (k : IntKind) (s : List UInt8) (h : Int) (f : AV → Tr β) (h0 : 0 ≤ h) (h1 : h ≤ s.length) : (sliceSK (.str s) none (some (.int k h)) f).val = (f (.str (s.take h.toNat))).val := by
  unfold sliceSK sliceSK0
  simp only [symSlH, asStrK, boundA]
  rw [val_mustT _ (by simp [leI_eq, h0, h1])]
  simp
theorem val_lenL (id off n c z : Nat) (f : AV → Tr β) : (lenLK (.slice id off n c z) f).val = (f (.int .i64 n)).val := rfl
theorem bind_valV {α : Type} {t : Tr α} {f : α → Tr β} {a : α} (h : t.val = some a) : (t.bind f).val = (f a).val := by
  induction t with
  | ret b => cases h; rfl
  | ask b k ih => exact ih b h
  | fail => cases h
theorem val_cal {run : FuncId → List AV → Store → Tr R} {g : FuncId} {args : List AV} {σ : Store} {f : AV → Store → Tr β} {v : AV} {τ : Store} (h : (run g args σ).val = some (v, τ)) : (calK run g args σ f).val = (f v τ).val := by
  unfold calK
  rw [bind_valV h]
/-- An element of a slice of single cells. -/
theorem val_elem {σ : Store} {id len cap e : Nat} {cs : List AV} {j : Nat} {x : AV} (hg : σ.get id = some (.cells e cs)) (hj : j < len) (hx : cs[j]? = some x) (f : AV → Tr β) : (idxK 1 (.slice id 0 len cap 1) (.int .i64 j) fun a => ld1K σ a f).val = (f x).val := by
  unfold idxK
  simp only [asIntK]
  rw [val_mustT _ (by simp [leI_eq, ltI_eq]; exact hj)]
  have hn : nthA cs j = some x := by rw [nthA_eq]; exact hx
  simp only [ld1K, atK, cellsAt, hg, nthK, Int.toNat_natCast, Nat.zero_add, Nat.mul_one, hn, opt]
end
/-- What is computed under a condition, in place of a function. -/
theorem CallOK.of_val {X : Env} {f : FuncId} {args : List AV} {σ : Store} {t : Tr R} (h : CallOK X f args σ t) {b : Bool} {r : R} (hv : b = true → t.val = some r) : CallOK X f args σ (must b (.ret r)) := by
  intro K g w args' ht
  obtain ⟨hb, hk⟩ := Tr.sat_must ht
  exact h K g w args' (Tr.sat_of_val (hv hb) hk)
end Go.AM
namespace Go.AM
/-- Code that is told in another way. -/
theorem KOK.of_sat {β : Type} {X : Env} {N : Nat} {c : Code} {fr : List AV} {σ : Store} {t t' : Tr β} {k : Kont β} (h : KOK X N c fr σ t k) (hs : ∀ K, t'.sat K → t.sat K) : KOK X N c fr σ t' k :=
  fun K g a w hN ht hf hsim hG => h K g a w hN (hs K ht) hf hsim hG
end Go.AM
/- The abstract machine: many blocks are told as one. -/
namespace Go.AM

mutual
/-- No block from n on is named. -/
def belowA (n : Nat) : AV → Bool
  | .bsl id _ _ | .ptr id _ | .slice id _ _ _ _ | .amap id => Nat.blt id n
  | .ref cs _ | .rslice cs _ _ => belowL n cs
  | .fn _ a b => belowL n a && belowL n b
  | .iface _ v => belowA n v
  | .agg l | .tup l => belowL n l
  | _ => true
def belowL (n : Nat) : List AV → Bool
  | [] => true
  | a :: l => belowA n a && belowL n l
end

/-- What lies below n is told alike. -/
structure Alike (n : Nat) (g g' : Ghost) : Prop where
  sv : g'.sv = g.sv
  next : n ≤ g'.next
  π : ∀ i x, i < n → g'.π i = some x → g.π i = some x
  I : ∀ b cs, g.I b = some cs → belowL n cs = true → g'.I b = some cs

mutual
theorem VR.renum {n : Nat} {g g' : Ghost} (h : Alike n g g') : ∀ {a : AV} {v : Value}, VR g a v → belowA n a = true → VR g' a v
  | _, _, .sstr l hl, _ => by rw [← h.sv]; exact .sstr l (by rw [h.sv]; exact hl)
  | _, _, .lin c ts ht, _ => by rw [← h.sv]; exact .lin c ts (by rw [h.sv]; exact ht)
  | _, _, .cls l b hb, _ => .cls l b hb
  | _, _, .bsl id cc ts a len c hT h0 h1 h2 h3, hb => by
    have hid : id < n := by simpa [belowA, Nat.blt_eq] using hb
    exact .bsl id cc ts a len c (by rw [h.sv]; exact hT) (by rw [h.sv]; exact h0) (Nat.lt_of_lt_of_le hid h.next) (fun b m hp => h2 b m (h.π id _ hid hp)) h3
  | _, _, .any v, _ => .any v
  | _, _, .bool b, _ => .bool b
  | _, _, .int k m, _ => .int k m
  | _, _, .str s, _ => .str s
  | _, _, .nilp, _ => .nilp
  | _, _, .ptr id off a h1 h2, hb => by
    have hid : id < n := by simpa [belowA, Nat.blt_eq] using hb
    exact .ptr id off a (Nat.lt_of_lt_of_le hid h.next) fun b m hp => h2 b m (h.π id _ hid hp)
  | _, _, .ref cs off b hI, hb => .ref cs off b (h.I b cs hI (by simpa [belowA] using hb))
  | _, _, .nils, _ => .nils
  | _, _, .slice id off len cap z a c h1 h2 h3, hb => by
    have hid : id < n := by simpa [belowA, Nat.blt_eq] using hb
    exact .slice id off len cap z a c (Nat.lt_of_lt_of_le hid h.next) (fun b m hp => h2 b m (h.π id _ hid hp)) h3
  | _, _, .eslice a c, _ => .eslice a c
  | _, _, .rslice cs off len b c hI hc, hb => .rslice cs off len b c (h.I b cs hI (by simpa [belowA] using hb)) hc
  | _, _, .nilm, _ => .nilm
  | _, _, .amap id r h1 h2, hb => by
    have hid : id < n := by simpa [belowA, Nat.blt_eq] using hb
    exact .amap id r (Nat.lt_of_lt_of_le hid h.next) fun b m hp => h2 b m (h.π id _ hid hp)
  | _, _, .nilf, _ => .nilf
  | _, _, .fn f ha hb', hb => by
    simp only [belowA, Bool.and_eq_true] at hb
    exact .fn f (VRs.renum h ha hb.1) (VRs.renum h hb' hb.2)
  | _, _, .nili, _ => .nili
  | _, _, .iface t hv, hb => .iface t (VR.renum h hv (by simpa [belowA] using hb))
  | _, _, .agg hs, hb => .agg (VRs.renum h hs (by simpa [belowA] using hb))
  | _, _, .tup hs, hb => .tup (VRs.renum h hs (by simpa [belowA] using hb))
theorem VRs.renum {n : Nat} {g g' : Ghost} (h : Alike n g g') : ∀ {a : List AV} {v : List Value}, VRs g a v → belowL n a = true → VRs g' a v
  | _, _, .nil, _ => .nil
  | _, _, .cons hv hs, hb => by
    simp only [belowL, Bool.and_eq_true] at hb
    exact .cons (VR.renum h hv hb.1) (VRs.renum h hs hb.2)
end

section
variable {g : Ghost} {σ : Store} {w : World}
theorem imm_vals (hs : Sim g σ w) {b : Nat} {cs : List AV} (h : g.I b = some cs) : ∃ l, VRs g cs l := by
  obtain ⟨e, n, o, ho, l, rest, h1, h2, h3, _⟩ := hs.imm b cs h
  exact ⟨l, h3⟩
mutual
theorem belowA_of (hs : Sim g σ w) : ∀ {a : AV} {v : Value}, VR g a v → belowA g.next a = true
  | .sstr _, _, _ | .lin _ _, _, _ | .cls _, _, _ | .any, _, _ | .bool _, _, _ | .int _ _, _, _ | .str _, _, _ | .nilp, _, _ | .nils, _, _ | .eslice, _, _ | .nilm, _, _ | .nilf, _, _ | .nili, _, _ => by simp [belowA]
  | .bsl _ _ _, _, h => by cases h; simp [belowA, Nat.blt_eq]; assumption
  | .ptr _ _, _, h => by cases h; simp [belowA, Nat.blt_eq]; assumption
  | .slice _ _ _ _ _, _, h => by cases h; simp [belowA, Nat.blt_eq]; assumption
  | .amap _, _, h => by cases h; simp [belowA, Nat.blt_eq]; assumption
  | .ref cs _, _, h => by
    have : ∃ l, VRs g cs l := by cases h; exact imm_vals hs ‹_›
    obtain ⟨l, hl⟩ := this
    simp only [belowA]; exact belowL_of hs hl
  | .rslice cs _ _, _, h => by
    have : ∃ l, VRs g cs l := by cases h; exact imm_vals hs ‹_›
    obtain ⟨l, hl⟩ := this
    simp only [belowA]; exact belowL_of hs hl
  | .fn _ a b, _, h => by
    have : ∃ l m, VRs g a l ∧ VRs g b m := by cases h; exact ⟨_, _, ‹_›, ‹_›⟩
    obtain ⟨l, m, hl, hm⟩ := this
    simp only [belowA, Bool.and_eq_true]; exact ⟨belowL_of hs hl, belowL_of hs hm⟩
  | .iface _ a, _, h => by
    have : ∃ u, VR g a u := by cases h; exact ⟨_, ‹_›⟩
    obtain ⟨u, hu⟩ := this
    simp only [belowA]; exact belowA_of hs hu
  | .agg cs, _, h => by
    have : ∃ l, VRs g cs l := by cases h; exact ⟨_, ‹_›⟩
    obtain ⟨l, hl⟩ := this
    simp only [belowA]; exact belowL_of hs hl
  | .tup cs, _, h => by
    have : ∃ l, VRs g cs l := by cases h; exact ⟨_, ‹_›⟩
    obtain ⟨l, hl⟩ := this
    simp only [belowA]; exact belowL_of hs hl
theorem belowL_of (hs : Sim g σ w) : ∀ {a : List AV} {v : List Value}, VRs g a v → belowL g.next a = true
  | [], _, _ => by simp [belowL]
  | a :: l, _, h => by
    have : ∃ u m, VR g a u ∧ VRs g l m := by cases h; exact ⟨_, _, ‹_›, ‹_›⟩
    obtain ⟨u, m, hu, hm⟩ := this
    simp only [belowL, Bool.and_eq_true]; exact ⟨belowA_of hs hu, belowL_of hs hm⟩
end

/-- Many writes into a buffer are told as one. -/
theorem compress (hs : Sim g σ w) {g' : Ghost} {σ' : Store} {w' : World} (hs' : Sim g' σ' w') (hE : Ext g g' w w') {id r T u8 : Nat} {new new' : List Seg}
    (hid' : σ'.get id = some (.cells (2 * T + 1) [.bsl r (segLen new').1 (segLen new').2, .int .i64 0, .int .i8 0])) (hr : σ'.get r = some (.bytes u8 new')) (hrn : σ.next ≤ r) (hidn : id < σ.next)
    (hden : den g.sv new = den g.sv new') (hok : SegsOK g.sv new) {τ : Store} (hτn : τ.next = σ.next + 1)
    (hτ : ∀ i bl, τ.get i = some bl → (i < σ.next ∧ i ≠ id ∧ σ.get i = some bl ∧ σ'.get i = some bl) ∨ (i = id ∧ bl = .cells (2 * T + 1) [.bsl σ.next (segLen new).1 (segLen new).2, .int .i64 0, .int .i8 0]) ∨ (i = σ.next ∧ bl = .bytes u8 new)) :
    ∃ g'', Sim g'' τ w' ∧ Ext g g'' w w' := by
  have hsv : g'.sv = g.sv := hE.le.sv
  obtain ⟨br, nr, orr, hpr, hor, rest, rfl, hnr, hokr⟩ := hs'.blk _ _ hr
  obtain ⟨bi, ni, oi, hpi, hoi, hbri⟩ := hs'.blk _ _ hid'
  have hnx : g.next = σ.next := hs.next
  let g2 : Ghost := { π := fun i => if i < σ.next then g'.π i else if i = σ.next then g'.π r else none, I := fun b => match g'.I b with | some cs => if belowL σ.next cs = true then some cs else none | none => none, next := σ.next + 1, sv := g.sv }
  have hI2 : ∀ b cs, g2.I b = some cs → g'.I b = some cs ∧ belowL σ.next cs = true := by
    intro b cs h
    simp only [g2] at h
    split at h
    · split at h
      · cases h; exact ⟨‹_›, ‹_›⟩
      · cases h
    · cases h
  have hal : Alike σ.next g' g2 := ⟨hsv.symm, Nat.le_succ _, fun i x hi hx => by simpa only [g2, hi, if_true] using hx, fun b cs h hb => by simp only [g2, h, hb, if_true]⟩
  have hle : g.le g2 := by
    refine ⟨by rw [hnx]; exact Nat.le_succ _, rfl, fun i x hi hx => ?_, fun b cs h => ?_⟩
    · rw [hnx] at hi
      exact hE.le.π i x (by rw [hnx]; exact hi) (hal.π i x hi hx)
    · obtain ⟨l, hl⟩ := imm_vals hs h
      exact hal.I b cs (hE.le.I b cs h) (by rw [← hnx]; exact belowL_of hs hl)
  have hπ2 : ∀ i x, g2.π i = some x → (i < σ.next ∧ g'.π i = some x) ∨ (i = σ.next ∧ g'.π r = some x) := by
    intro i x h
    simp only [g2] at h
    split at h
    · exact .inl ⟨‹_›, h⟩
    · split at h
      · exact .inr ⟨‹_›, h⟩
      · cases h
  have hn2 : g2.π σ.next = some (br, nr) := by
    show (if σ.next < σ.next then g'.π σ.next else if σ.next = σ.next then g'.π r else none) = _
    rw [if_neg (Nat.lt_irrefl _), if_pos rfl]; exact hpr
  have hπl : ∀ i, i < σ.next → g2.π i = g'.π i := fun i hi => by simp only [g2, hi, if_true]
  obtain ⟨s1, s2⟩ := segLen_ok hok
  obtain ⟨s3, s4⟩ := segLen_ok hokr
  refine ⟨g2, ⟨by rw [hτn], ?_, ?_, ?_, ?_, ?_⟩, ⟨hle, hE.os, hE.tape, hE.output, hE.size, hE.keep, ?_⟩⟩
  · intro i bl hb
    rcases hτ i bl hb with ⟨hi, hne, h1, h2⟩ | ⟨rfl, rfl⟩ | ⟨rfl, rfl⟩
    · obtain ⟨b0, n0, o0, _, _, hb0⟩ := hs.blk _ _ h1
      obtain ⟨b, n, o, hp, ho, hbr⟩ := hs'.blk _ _ h2
      refine ⟨b, n, o, by rw [hπl i hi]; exact hp, ho, ?_⟩
      cases bl with
      | cells e cs =>
        obtain ⟨l0, _, _, _, hv0, _⟩ := hb0
        obtain ⟨l, rest, h3, h4, h5, h6⟩ := hbr
        exact ⟨l, rest, h3, h4, h5.renum hal (by rw [← hnx]; exact belowL_of hs hv0), h6⟩
      | iter s pos => exact hbr
      | siter l => obtain ⟨h3, h4⟩ := hbr; exact ⟨by show _ = Obj.stringIter ⟨(den g.sv l).toArray⟩ 0; rw [← hsv]; exact h3, by show SegsOK g.sv l; rw [← hsv]; exact h4⟩
      | bytes e l => obtain ⟨rest, h3, h4, h5⟩ := hbr; exact ⟨rest, by rw [hsv] at h3; exact h3, by rw [hsv] at h4; exact h4, by rw [hsv] at h5; exact h5⟩
    · obtain ⟨l, rest', h3, h4, h5, h6⟩ := hbri
      refine ⟨bi, ni, oi, by rw [hπl i hidn]; exact hpi, hoi, ?_⟩
      cases h5 with
      | cons h7 h8 =>
      cases h7 with
      | bsl _ _ _ a len cp hT k0 k1 k2 k3 =>
      obtain ⟨k4, k5⟩ := k2 _ _ hpr
      refine ⟨_, rest', h3, h4, .cons ?_ (h8.renum hal (by simp [belowL, belowA])), h6⟩
      refine .bsl _ _ _ _ _ _ s1 ?_ (Nat.lt_succ_self _) (fun b m hp => ?_) k3
      · rw [k0, ← s4, hsv, ← hden]; exact s2
      · rw [hn2] at hp; cases hp; exact ⟨k4, k5⟩
    · refine ⟨br, nr, _, hn2, hor, rest, ?_, ?_, hok⟩
      · rw [hsv, ← hden]
      · show (den g.sv new).length + _ = _
        rw [hden, ← hsv]; exact hnr
  · intro i j b n n' h h'
    rcases hπ2 _ _ h with ⟨h1, h2⟩ | ⟨h1, h2⟩ <;> rcases hπ2 _ _ h' with ⟨h3, h4⟩ | ⟨h3, h4⟩
    · exact hs'.inj _ _ _ _ _ h2 h4
    · have := hs'.inj _ _ _ _ _ h2 h4; omega
    · have := hs'.inj _ _ _ _ _ h2 h4; omega
    · omega
  · intro b cs h
    obtain ⟨h1, h2⟩ := hI2 _ _ h
    obtain ⟨e, n, o, ho, l, rest, h3, h4, h5, h6⟩ := hs'.imm b cs h1
    exact ⟨e, n, o, ho, l, rest, h3, h4, h5.renum hal h2, h6⟩
  · intro b cs i n h hp
    obtain ⟨h1, h2⟩ := hI2 _ _ h
    rcases hπ2 _ _ hp with ⟨h3, h4⟩ | ⟨h3, h4⟩
    · exact hs'.apart _ _ _ _ h1 h4
    · exact hs'.apart _ _ _ _ h1 h4
  · intro i b n hp
    rcases hπ2 _ _ hp with ⟨h3, h4⟩ | ⟨h3, h4⟩
    · exact ⟨Nat.lt_succ_of_lt h3, (hs'.lt _ _ _ h4).2⟩
    · exact ⟨by rw [h3]; exact Nat.lt_succ_self _, (hs'.lt _ _ _ h4).2⟩
  · intro i b n hp hb
    rcases hπ2 _ _ hp with ⟨h3, h4⟩ | ⟨h3, h4⟩
    · exact hE.old _ _ _ h4 hb
    · exact hE.old _ _ _ h4 hb
end
end Go.AM
