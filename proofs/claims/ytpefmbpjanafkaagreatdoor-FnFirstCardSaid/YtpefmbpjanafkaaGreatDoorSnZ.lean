/- The abstract machine: many blocks are told as one. -/
import Derived.Test.YtpefmbpjanafkaaGreatDoorSnLib
import Derived.Test.YtpefmbpjanafkaaGreatDoorSnWc
set_option linter.unusedVariables false
set_option linter.unusedSimpArgs false
namespace Go.AM

mutual
/-- No block from n on is named. -/
noncomputable def belowA (n : Nat) : AV → Bool
  | .bsl id _ _ | .ptr id _ | .slice id _ _ _ _ | .amap id | .rsl id _ _ _ _ | .rptr id _ _ | .np id _ => Nat.blt id n
  | .ref cs _ | .rslice cs _ _ => belowL n cs
  | .fn _ a b => belowL n a && belowL n b
  | .iface _ v => belowA n v
  | .agg l | .tup l => belowL n l
  | _ => true
noncomputable def belowL (n : Nat) : List AV → Bool
  | [] => true
  | a :: l => belowA n a && belowL n l
end

/-- What lies below n is told alike. -/
structure Alike (n : Nat) (g g' : Ghost) : Prop where
  sv : g'.sv = g.sv
  next : n ≤ g'.next
  π : ∀ i x, i < n → g'.π i = some x → g.π i = some x
  I : ∀ b cs, g.I b = some cs → belowL n cs = true → g'.I b = some cs
  rv : ∀ k m, g.rv k = some m → g'.rv k = some m

mutual
theorem VR.renum {n : Nat} {g g' : Ghost} (h : Alike n g g') : ∀ {a : AV} {v : Value}, VR g a v → belowA n a = true → VR g' a v
  | _, _, .sstr l hl, _ => by rw [← h.sv]; exact .sstr l (by rw [h.sv]; exact hl)
  | _, _, .lin c ts ht, _ => by rw [← h.sv]; exact .lin c ts (by rw [h.sv]; exact ht)
  | _, _, .cls l b hb, _ => .cls l b hb
  | _, _, .rn k l b hb, _ => .rn k l b hb
  | _, _, .num k m, _ => .num k m
  | _, _, .bsl id cc ts a len c hT h0 h1 h2 h3, hb => by
    have hid : id < n := by simpa [belowA, Nat.blt_eq] using hb
    exact .bsl id cc ts a len c (by rw [h.sv]; exact hT) (by rw [h.sv]; exact h0) (Nat.lt_of_lt_of_le hid h.next) (fun b m hp => h2 b m (h.π id _ hid hp)) h3
  | _, _, .ub b, _ => .ub b
  | _, _, .npN id off h1, hb => by
    have hid : id < n := by simpa [belowA, Nat.blt_eq] using hb
    exact .npN id off (Nat.lt_of_lt_of_le hid h.next)
  | _, _, .npP id off a h1 h2, hb => by
    have hid : id < n := by simpa [belowA, Nat.blt_eq] using hb
    exact .npP id off a (Nat.lt_of_lt_of_le hid h.next) fun b m hp => h2 b m (h.π id _ hid hp)
  | _, _, .rsl id o os cc ts a off len c hO hT ho h0 hlc h1 h2 h3, hb => by
    have hid : id < n := by simpa [belowA, Nat.blt_eq] using hb
    exact .rsl id o os cc ts a off len c (by rw [h.sv]; exact hO) (by rw [h.sv]; exact hT) (by rw [h.sv]; exact ho) (by rw [h.sv]; exact h0) hlc (Nat.lt_of_lt_of_le hid h.next) (fun b m hp => h2 b m (h.π id _ hid hp)) h3
  | _, _, .rptr id cc ts a off hT h0 h1 h2, hb => by
    have hid : id < n := by simpa [belowA, Nat.blt_eq] using hb
    exact .rptr id cc ts a off (by rw [h.sv]; exact hT) (by rw [h.sv]; exact h0) (Nat.lt_of_lt_of_le hid h.next) (fun b m hp => h2 b m (h.π id _ hid hp))
  | _, _, .any v, _ => .any v
  | _, _, .bool b, _ => .bool b
  | _, _, .int k m, _ => .int k m
  | _, _, .str s, _ => .str s
  | _, _, .nilp, _ => .nilp
  | _, _, .ptr id off a h1 h2, hb => by
    have hid : id < n := by simpa [belowA, Nat.blt_eq] using hb
    exact .ptr id off a (Nat.lt_of_lt_of_le hid h.next) fun b m hp => h2 b m (h.π id _ hid hp)
  | _, _, .ref cs off b hI, hb => .ref cs off b (h.I b cs hI (by simpa [belowA] using hb))
  | _, _, .nils, _ => .nils
  | _, _, .slice id off len cap z a c h1 h2 h3, hb => by
    have hid : id < n := by simpa [belowA, Nat.blt_eq] using hb
    exact .slice id off len cap z a c (Nat.lt_of_lt_of_le hid h.next) (fun b m hp => h2 b m (h.π id _ hid hp)) h3
  | _, _, .eslice a c, _ => .eslice a c
  | _, _, .rslice cs off len b c hI hc, hb => .rslice cs off len b c (h.I b cs hI (by simpa [belowA] using hb)) hc
  | _, _, .nilm, _ => .nilm
  | _, _, .amap id r h1 h2, hb => by
    have hid : id < n := by simpa [belowA, Nat.blt_eq] using hb
    exact .amap id r (Nat.lt_of_lt_of_le hid h.next) fun b m hp => h2 b m (h.π id _ hid hp)
  | _, _, .nilf, _ => .nilf
  | _, _, .fn f ha hb', hb => by
    simp only [belowA, Bool.and_eq_true] at hb
    exact .fn f (VRs.renum h ha hb.1) (VRs.renum h hb' hb.2)
  | _, _, .nili, _ => .nili
  | _, _, .iface t hv, hb => .iface t (VR.renum h hv (by simpa [belowA] using hb))
  | _, _, .agg hs, hb => .agg (VRs.renum h hs (by simpa [belowA] using hb))
  | _, _, .tup hs, hb => .tup (VRs.renum h hs (by simpa [belowA] using hb))
theorem VRs.renum {n : Nat} {g g' : Ghost} (h : Alike n g g') : ∀ {a : List AV} {v : List Value}, VRs g a v → belowL n a = true → VRs g' a v
  | _, _, .nil, _ => .nil
  | _, _, .cons hv hs, hb => by
    simp only [belowL, Bool.and_eq_true] at hb
    exact .cons (VR.renum h hv hb.1) (VRs.renum h hs hb.2)
end

section
variable {g : Ghost} {σ : Store} {w : World}
theorem imm_vals (hs : Sim g σ w) {b : Nat} {cs : List AV} (h : g.I b = some cs) : ∃ l, VRs g cs l := by
  obtain ⟨e, n, o, ho, l, rest, h1, h2, h3, _⟩ := hs.imm b cs h
  exact ⟨l, h3⟩
mutual
theorem belowA_of (hs : Sim g σ w) : ∀ {a : AV} {v : Value}, VR g a v → belowA g.next a = true
  | .ub, _, _ | .sstr _, _, _ | .lin _ _, _, _ | .cls _, _, _ | .rn _ _, _, _ | .num _, _, _ | .any, _, _ | .bool _, _, _ | .int _ _, _, _ | .str _, _, _ | .nilp, _, _ | .nils, _, _ | .eslice, _, _ | .nilm, _, _ | .nilf, _, _ | .nili, _, _ => by simp [belowA]
  | .bsl _ _ _, _, h => by cases h; simp [belowA, Nat.blt_eq]; assumption
  | .ptr _ _, _, h => by cases h; simp [belowA, Nat.blt_eq]; assumption
  | .rsl _ _ _ _ _, _, h => by cases h; simp [belowA, Nat.blt_eq]; assumption
  | .rptr _ _ _, _, h => by cases h; simp [belowA, Nat.blt_eq]; assumption
  | .np _ _, _, h => by cases h <;> (simp [belowA, Nat.blt_eq]; assumption)
  | .slice _ _ _ _ _, _, h => by cases h; simp [belowA, Nat.blt_eq]; assumption
  | .amap _, _, h => by cases h; simp [belowA, Nat.blt_eq]; assumption
  | .ref cs _, _, h => by
    have : ∃ l, VRs g cs l := by cases h; exact imm_vals hs ‹_›
    obtain ⟨l, hl⟩ := this
    simp only [belowA]; exact belowL_of hs hl
  | .rslice cs _ _, _, h => by
    have : ∃ l, VRs g cs l := by cases h; exact imm_vals hs ‹_›
    obtain ⟨l, hl⟩ := this
    simp only [belowA]; exact belowL_of hs hl
  | .fn _ a b, _, h => by
    have : ∃ l m, VRs g a l ∧ VRs g b m := by cases h; exact ⟨_, _, ‹_›, ‹_›⟩
    obtain ⟨l, m, hl, hm⟩ := this
    simp only [belowA, Bool.and_eq_true]; exact ⟨belowL_of hs hl, belowL_of hs hm⟩
  | .iface _ a, _, h => by
    have : ∃ u, VR g a u := by cases h; exact ⟨_, ‹_›⟩
    obtain ⟨u, hu⟩ := this
    simp only [belowA]; exact belowA_of hs hu
  | .agg cs, _, h => by
    have : ∃ l, VRs g cs l := by cases h; exact ⟨_, ‹_›⟩
    obtain ⟨l, hl⟩ := this
    simp only [belowA]; exact belowL_of hs hl
  | .tup cs, _, h => by
    have : ∃ l, VRs g cs l := by cases h; exact ⟨_, ‹_›⟩
    obtain ⟨l, hl⟩ := this
    simp only [belowA]; exact belowL_of hs hl
theorem belowL_of (hs : Sim g σ w) : ∀ {a : List AV} {v : List Value}, VRs g a v → belowL g.next a = true
  | [], _, _ => by simp [belowL]
  | a :: l, _, h => by
    have : ∃ u m, VR g a u ∧ VRs g l m := by cases h; exact ⟨_, _, ‹_›, ‹_›⟩
    obtain ⟨u, m, hu, hm⟩ := this
    simp only [belowL, Bool.and_eq_true]; exact ⟨belowA_of hs hu, belowL_of hs hm⟩
end

noncomputable def belowRow (n : Nat) : List RSeg → Bool
  | [] => true
  | .c v :: l => belowA n v && belowRow n l
  | .r _ _ _ _ _ :: l => belowRow n l
theorem belowRow_of (hs : Sim g σ w) : ∀ {l : List RSeg} {vs : List Value}, RR g l vs → belowRow g.next l = true
  | [], _, _ => rfl
  | .c v :: l, _, ⟨x, r, h1, h2, h3⟩ => by simp only [belowRow, Bool.and_eq_true]; exact ⟨belowA_of hs h2, belowRow_of hs h3⟩
  | .r _ _ _ _ _ :: l, _, ⟨m, r, h1, h2, h3⟩ => belowRow_of (l := l) hs h3
theorem RR.renum {n : Nat} {g g' : Ghost} (h : Alike n g g') : ∀ {l : List RSeg} {vs : List Value}, RR g l vs → belowRow n l = true → RR g' l vs
  | [], _, hr, _ => hr
  | .c v :: l, _, ⟨x, r, h1, h2, h3⟩, hl => by
    simp only [belowRow, Bool.and_eq_true] at hl
    exact ⟨x, r, h1, h2.renum h hl.1, h3.renum h hl.2⟩
  | .r B i T lo hi :: l, _, ⟨m, r, h1, ⟨h2, h4, h5⟩, h7⟩, hl =>
    ⟨m, r, h1, ⟨by rw [h.sv]; exact h2.mono fun b a hb => h.I b _ hb (by simp [belowL, belowA]), h4, h5⟩, h7.renum h hl⟩
theorem iokAux {n : Nat} {o : Option (List AV)} {cs : List AV} (h : (match o with | some cs => if belowL n cs = true then some cs else none | none => none) = some cs) (h0 : ∀ cs, o = some cs → ltWs 0 cs = true) : ltWs 0 cs = true := by
  split at h
  · split at h
    · cases h; exact h0 _ rfl
    · cases h
  · cases h
/-- Many writes into a buffer are told as one. -/
theorem compress (hs : Sim g σ w) {g' : Ghost} {σ' : Store} {w' : World} (hs' : Sim g' σ' w') (hE : Ext g g' w w') {id r T u8 : Nat} {new new' : List Seg}
    (hid' : σ'.get id = some (.cells (2 * T + 1) [.bsl r (segLen new').1 (segLen new').2, .int .i64 0, .int .i8 0])) (hr : σ'.get r = some (.bytes u8 new')) (hrn : σ.next ≤ r) (hidn : id < σ.next)
    (hden : den g.sv new = den g.sv new') (hok : SegsOK g.sv new) {τ : Store} (hτn : τ.next = σ.next + 1)
    (hτ : ∀ i bl, τ.get i = some bl → (i < σ.next ∧ i ≠ id ∧ σ.get i = some bl ∧ σ'.get i = some bl) ∨ (i = id ∧ bl = .cells (2 * T + 1) [.bsl σ.next (segLen new).1 (segLen new).2, .int .i64 0, .int .i8 0]) ∨ (i = σ.next ∧ bl = .bytes u8 new)) :
    ∃ g'', Sim g'' τ w' ∧ Ext g g'' w w' := by
  have hsv : g'.sv = g.sv := hE.le.sv
  obtain ⟨br, nr, orr, hpr, hor, rest, rfl, hnr, hokr⟩ := hs'.blk _ _ hr
  obtain ⟨bi, ni, oi, hpi, hoi, hbri⟩ := hs'.blk _ _ hid'
  have hnx : g.next = σ.next := hs.next
  let g2 : Ghost := { π := fun i => if i < σ.next then g'.π i else if i = σ.next then g'.π r else none, I := fun b => match g'.I b with | some cs => if belowL σ.next cs = true then some cs else none | none => none, next := σ.next + 1, bv := g.bv, bok := g.bok, iok := fun b cs h => iokAux h (g'.iok b), rv := g'.rv }
  have hI2 : ∀ b cs, g2.I b = some cs → g'.I b = some cs ∧ belowL σ.next cs = true := by
    intro b cs h
    simp only [g2] at h
    split at h
    · split at h
      · cases h; exact ⟨‹_›, ‹_›⟩
      · cases h
    · cases h
  have hal : Alike σ.next g' g2 := ⟨hsv.symm, Nat.le_succ _, fun i x hi hx => by simpa only [g2, hi, if_true] using hx, (fun b cs h hb => by simp only [g2, h, hb, if_true]), fun _ _ h => h⟩
  have hle : g.le g2 := by
    refine ⟨by rw [hnx]; exact Nat.le_succ _, rfl, fun i x hi hx => ?_, fun b cs h => ?_, fun k m h => hE.le.rv k m h⟩
    · rw [hnx] at hi
      exact hE.le.π i x (by rw [hnx]; exact hi) (hal.π i x hi hx)
    · obtain ⟨l, hl⟩ := imm_vals hs h
      exact hal.I b cs (hE.le.I b cs h) (by rw [← hnx]; exact belowL_of hs hl)
  have hπ2 : ∀ i x, g2.π i = some x → (i < σ.next ∧ g'.π i = some x) ∨ (i = σ.next ∧ g'.π r = some x) := by
    intro i x h
    simp only [g2] at h
    split at h
    · exact .inl ⟨‹_›, h⟩
    · split at h
      · exact .inr ⟨‹_›, h⟩
      · cases h
  have hn2 : g2.π σ.next = some (br, nr) := by
    show (if σ.next < σ.next then g'.π σ.next else if σ.next = σ.next then g'.π r else none) = _
    rw [if_neg (Nat.lt_irrefl _), if_pos rfl]; exact hpr
  have hπl : ∀ i, i < σ.next → g2.π i = g'.π i := fun i hi => by simp only [g2, hi, if_true]
  obtain ⟨s1, s2⟩ := segLen_ok hok
  obtain ⟨s3, s4⟩ := segLen_ok hokr
  refine ⟨g2, ⟨by rw [hτn], ?_, ?_, ?_, ?_, ?_⟩, ⟨hle, hE.os, hE.tape, hE.output, hE.size, hE.keep, ?_⟩⟩
  · intro i bl hb
    rcases hτ i bl hb with ⟨hi, hne, h1, h2⟩ | ⟨rfl, rfl⟩ | ⟨rfl, rfl⟩
    · obtain ⟨b0, n0, o0, _, _, hb0⟩ := hs.blk _ _ h1
      obtain ⟨b, n, o, hp, ho, hbr⟩ := hs'.blk _ _ h2
      refine ⟨b, n, o, by rw [hπl i hi]; exact hp, ho, ?_⟩
      cases bl with
      | cells e cs =>
        obtain ⟨l0, _, _, _, hv0, _⟩ := hb0
        obtain ⟨l, rest, h3, h4, h5, h6⟩ := hbr
        exact ⟨l, rest, h3, h4, h5.renum hal (by rw [← hnx]; exact belowL_of hs hv0), h6⟩
      | iter s pos => exact hbr
      | siter l c ts => obtain ⟨p, h3, h4, h5, h6⟩ := hbr; exact ⟨p, by show _ = Obj.stringIter ⟨(den g.sv l).toArray⟩ p; rw [← hsv]; exact h3, by show SegsOK g.sv l; rw [← hsv]; exact h4, by show TsOK g.sv ts; rw [← hsv]; exact h5, by show (p : Int) = c + tval g.sv ts; rw [← hsv]; exact h6⟩
      | bytes e l => obtain ⟨rest, h3, h4, h5⟩ := hbr; exact ⟨rest, by rw [hsv] at h3; exact h3, by rw [hsv] at h4; exact h4, by rw [hsv] at h5; exact h5⟩
      | row e l =>
        obtain ⟨vs0, _, _, _, hv0⟩ := hb0
        obtain ⟨vs, rest, h3, h4, h5⟩ := hbr
        exact ⟨vs, rest, h3, h4, h5.renum hal (by rw [← hnx]; exact belowRow_of hs hv0)⟩
      | mp ks vs =>
        obtain ⟨_, _, _, hk0, hv0⟩ := hb0
        obtain ⟨es, cl, h3, h4, h5⟩ := hbr
        exact ⟨es, cl, h3, h4.renum hal (by rw [← hnx]; exact belowL_of hs hk0), h5.renum hal (by rw [← hnx]; exact belowL_of hs hv0)⟩
      | sb s => exact hbr
    · obtain ⟨l, rest', h3, h4, h5, h6⟩ := hbri
      refine ⟨bi, ni, oi, by rw [hπl i hidn]; exact hpi, hoi, ?_⟩
      cases h5 with
      | cons h7 h8 =>
      cases h7 with
      | bsl _ _ _ a len cp hT k0 k1 k2 k3 =>
      obtain ⟨k4, k5⟩ := k2 _ _ hpr
      refine ⟨_, rest', h3, h4, .cons ?_ (h8.renum hal (by simp [belowL, belowA])), h6⟩
      refine .bsl _ _ _ _ _ _ s1 ?_ (Nat.lt_succ_self _) (fun b m hp => ?_) k3
      · rw [k0, ← s4, hsv, ← hden]; exact s2
      · rw [hn2] at hp; cases hp; exact ⟨k4, k5⟩
    · refine ⟨br, nr, _, hn2, hor, rest, ?_, ?_, hok⟩
      · rw [hsv, ← hden]; rfl
      · show (den g.sv new).length + _ = _
        rw [hden, ← hsv]; exact hnr
  · intro i j b n n' h h'
    rcases hπ2 _ _ h with ⟨h1, h2⟩ | ⟨h1, h2⟩ <;> rcases hπ2 _ _ h' with ⟨h3, h4⟩ | ⟨h3, h4⟩
    · exact hs'.inj _ _ _ _ _ h2 h4
    · have := hs'.inj _ _ _ _ _ h2 h4; omega
    · have := hs'.inj _ _ _ _ _ h2 h4; omega
    · omega
  · intro b cs h
    obtain ⟨h1, h2⟩ := hI2 _ _ h
    obtain ⟨e, n, o, ho, l, rest, h3, h4, h5, h6⟩ := hs'.imm b cs h1
    exact ⟨e, n, o, ho, l, rest, h3, h4, h5.renum hal h2, h6⟩
  · intro b cs i n h hp
    obtain ⟨h1, h2⟩ := hI2 _ _ h
    rcases hπ2 _ _ hp with ⟨h3, h4⟩ | ⟨h3, h4⟩
    · exact hs'.apart _ _ _ _ h1 h4
    · exact hs'.apart _ _ _ _ h1 h4
  · intro i b n hp
    rcases hπ2 _ _ hp with ⟨h3, h4⟩ | ⟨h3, h4⟩
    · exact ⟨Nat.lt_succ_of_lt h3, (hs'.lt _ _ _ h4).2⟩
    · exact ⟨by rw [h3]; exact Nat.lt_succ_self _, (hs'.lt _ _ _ h4).2⟩
  · intro i b n hp hb
    rcases hπ2 _ _ hp with ⟨h3, h4⟩ | ⟨h3, h4⟩
    · exact hE.old _ _ _ h4 hb
    · exact hE.old _ _ _ h4 hb
end
end Go.AM
/- Functions of one byte, at a byte that is not known; prefixes of texts with words. -/
namespace Go.AM
/-- What a function of a number comes to, if it comes to the same at all bytes of a class, and leaves all as it is. -/
noncomputable def clsV (d : List AV → Store → Tr R) (k : IntKind) (σ : Store) : List UInt8 → Option AV → Option AV
  | [], o => o
  | b :: l, o => match (d [.int k b.toNat] σ).val with
    | some (v, τ) => cond (Store.beq τ σ && (match o with | none => true | some v' => AV.beq v v')) (clsV d k σ l (some v)) none
    | none => none
noncomputable def swC (d : List AV → Store → Tr R) : List AV → Store → Tr R
  | [.cls l], σ => opt (clsV d .u8 σ l none) fun v => .ret (v, σ)
  | [.rn k l], σ => opt (clsV d k σ l none) fun v => .ret (v, σ)
  | args, σ => d args σ
theorem clsV_ok {d : List AV → Store → Tr R} {k : IntKind} {σ : Store} : ∀ {l : List UInt8} {o : Option AV} {v : AV}, clsV d k σ l o = some v → (∀ v', o = some v' → v' = v) ∧ ∀ b ∈ l, (d [.int k b.toNat] σ).val = some (v, σ)
  | [], o, v, h => ⟨fun v' h' => by rw [h'] at h; cases h; rfl, fun _ h => by cases h⟩
  | b :: l, o, v, h => by
    unfold clsV at h
    split at h
    case h_2 => cases h
    rename_i v1 τ hd
    rcases cond_yes h with ⟨hc, h⟩ | ⟨_, h⟩
    case inr => cases h
    simp only [Bool.and_eq_true] at hc
    obtain ⟨h1, h2⟩ := clsV_ok h
    have e := h1 v1 rfl
    have es := Store.beq_eq hc.1
    subst e es
    refine ⟨fun v' h' => ?_, fun c hm => ?_⟩
    · subst h'
      exact (beq_eq hc.2).symm
    · rcases List.mem_cons.1 hm with rfl | hm
      · exact hd
      · exact h2 c hm
theorem swC_ok {X : Env} {f : FuncId} {d : List AV → Store → Tr R} (h : ∀ args σ, CallOK X f args σ (d args σ)) (args : List AV) (σ : Store) : CallOK X f args σ (swC d args σ) := by
  unfold swC
  split
  · intro K g w args' ht ha hs hG
    obtain ⟨v, hv, hk⟩ := Tr.sat_opt ht
    cases ha with
    | cons h1 h2 =>
    cases h2
    cases h1 with
    | cls _ b hb =>
    exact h _ _ K g w _ (Tr.sat_of_val ((clsV_ok hv).2 b hb) hk) (.cons (.int _ _) .nil) hs hG
  · intro K g w args' ht ha hs hG
    obtain ⟨v, hv, hk⟩ := Tr.sat_opt ht
    cases ha with
    | cons h1 h2 =>
    cases h2
    cases h1 with
    | rn _ _ b hb =>
    exact h _ _ K g w _ (Tr.sat_of_val ((clsV_ok hv).2 b hb) hk) (.cons (.int _ _) .nil) hs hG
  · exact h _ _
/-- Does a text begin so? -/
noncomputable def sPre : List Seg → List UInt8 → Option Bool
  | _, [] => some true
  | [], _ :: _ => some false
  | .b c :: l, d :: p => cond (u8Beq c d) (sPre l p) (some false)
  | .w _ cls lo _ :: _, d :: _ => cond (Nat.ble 1 lo && !(memB d cls)) (some false) none
theorem sPre_ok {sv : Nat → List UInt8} : ∀ {l : List Seg} {p : List UInt8} {r : Bool}, sPre l p = some r → SegsOK sv l → r = decide ((den sv l).take p.length = p)
  | l, [], r, h, _ => by cases l <;> (cases h; simp)
  | [], d :: p, r, h, _ => by cases h; simp [den]
  | .b c :: l, d :: p, r, h, hl => by
    unfold sPre at h
    rcases cond_yes h with ⟨hc, h2⟩ | ⟨hc, h2⟩
    · have := u8Beq_eq hc
      subst this
      rw [sPre_ok (l := l) h2 hl]
      show _ = decide ((c :: den sv l).take (p.length + 1) = c :: p)
      simp
    · cases h2
      have hne : c ≠ d := fun e => by subst e; simp [u8Beq] at hc
      show false = decide ((c :: den sv l).take (p.length + 1) = d :: p)
      simp [hne]
  | .w k cls lo hi :: l, d :: p, r, h, hl => by
    unfold sPre at h
    rcases cond_yes h with ⟨hc, h⟩ | ⟨_, h⟩
    · cases h
      simp only [Bool.and_eq_true, Bool.not_eq_true'] at hc
      have hlo : 1 ≤ lo := by simpa [Nat.ble_eq] using hc.1
      have hm := memB_ok hc.2
      have h1 := hl.1
      show false = decide ((sv k ++ den sv l).take (p.length + 1) = d :: p)
      cases hs : sv k with
      | nil => rw [hs] at h1; simp at h1; omega
      | cons x y =>
        have hx : x ∈ cls := h1.2.2 x (by rw [hs]; exact List.mem_cons_self ..)
        have hne : x ≠ d := fun e => hm (e ▸ hx)
        simp [hne]
    · cases h
noncomputable def ap7 (c : AV → AV → AV → AV → AV → AV → AV → Store → Tr R) : List AV → Store → Tr R
  | [a, b, d, e, k, l, m], σ => c a b d e k l m σ
  | _, _ => .fail
theorem ap7_ok {X : Env} {f : FuncId} {c : AV → AV → AV → AV → AV → AV → AV → Store → Tr R} (h : ∀ a b d e k l m σ, CallOK X f [a, b, d, e, k, l, m] σ (c a b d e k l m σ)) (args : List AV) (σ : Store) : CallOK X f args σ (ap7 c args σ) := by
  match args with
  | [a, b, d, e, k, l, m] => exact h a b d e k l m σ
  | [] | [_] | [_, _] | [_, _, _] | [_, _, _, _] | [_, _, _, _, _] | [_, _, _, _, _, _] | _ :: _ :: _ :: _ :: _ :: _ :: _ :: _ :: _ => exact CallOK.fail X f _ σ
end Go.AM
