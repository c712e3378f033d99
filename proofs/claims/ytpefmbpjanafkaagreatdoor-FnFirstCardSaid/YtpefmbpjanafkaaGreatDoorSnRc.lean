/- Sweeps of loops that write: slots, blocks, the row. -/
import Derived.Test.YtpefmbpjanafkaaGreatDoorSnRa
set_option linter.unusedVariables false
set_option linter.unusedSimpArgs false
namespace Go.AM
theorem ins_getN {α : Type} : ∀ (f : Nat) (t : PT α) (n : Nat) (x : α), n + 1 < 2 ^ f → (PT.ins f t n x).get n = some x := by
  intro f
  induction f with
  | zero => intro t n x h; simp at h
  | succ f ih =>
    intro t n x h
    rw [Nat.pow_succ] at h
    cases t with
    | leaf =>
      simp only [PT.ins_leaf, PT.ins_node, cond_eq_ite, Nat.beq_eq]
      by_cases hn : n = 0
      · subst hn; simp [PT.get_leaf, PT.get_node]
      · by_cases hn2 : n % 2 = 1
        · simp only [hn, hn2, if_true, if_false, PT.get_leaf, PT.get_node, cond_eq_ite, Nat.beq_eq]; exact ih _ _ _ (by omega)
        · simp only [hn, hn2, if_false, PT.get_leaf, PT.get_node, cond_eq_ite, Nat.beq_eq]; exact ih _ _ _ (by omega)
    | node l v r =>
      simp only [PT.ins_leaf, PT.ins_node, cond_eq_ite, Nat.beq_eq]
      by_cases hn : n = 0
      · subst hn; simp [PT.get_leaf, PT.get_node]
      · by_cases hn2 : n % 2 = 1
        · simp only [hn, hn2, if_true, if_false, PT.get_leaf, PT.get_node, cond_eq_ite, Nat.beq_eq]; exact ih _ _ _ (by omega)
        · simp only [hn, hn2, if_false, PT.get_leaf, PT.get_node, cond_eq_ite, Nat.beq_eq]; exact ih _ _ _ (by omega)
theorem All2.setR {R : AV → AV → Prop} : ∀ {xs zs : List AV} {i : Nat} {b : AV}, All2 R xs zs → (∀ y, xs[i]? = some y → R y b) → All2 R xs (zs.set i b)
  | [], [], i, b, _, _ => by cases i <;> trivial
  | x :: xs, z :: zs, 0, b, h, hb => ⟨hb x (by simp), h.2⟩
  | x :: xs, z :: zs, i + 1, b, h, hb => ⟨h.1, All2.setR h.2 fun y hy => hb y (by simpa using hy)⟩
theorem All2.set2 {R : AV → AV → Prop} : ∀ {xs zs : List AV} {i : Nat} {a b : AV}, All2 R xs zs → R a b → All2 R (xs.set i a) (zs.set i b)
  | [], [], i, a, b, _, _ => by cases i <;> trivial
  | x :: xs, z :: zs, 0, a, b, h, hb => ⟨hb, h.2⟩
  | x :: xs, z :: zs, i + 1, a, b, h, hb => ⟨h.1, All2.set2 h.2 hb⟩
theorem setRow2 {R : AV → AV → Prop} {xs zs : List AV} {p : Nat} {a b : AV} (h : All2 R xs zs) (hb : R a b) : All2 R (setRow p a xs) (setRow p b zs) := by
  unfold setRow
  cases Nat.blt p 100 with
  | true => exact h.set2 hb
  | false => exact h
theorem setRowR {R : AV → AV → Prop} {xs zs : List AV} {p : Nat} {b : AV} (h : All2 R xs zs) (hb : Nat.blt p 100 = true → ∀ y, xs[p]? = some y → R y b) : All2 R xs (setRow p b zs) := by
  unfold setRow
  cases hp : Nat.blt p 100 with
  | true => exact h.setR (hb hp)
  | false => exact h
theorem setCell2 {R : AV → AV → Prop} {xs zs : List AV} {p : Nat} {a b : AV} (h : All2 R xs zs) (hb : R a b) : All2 R (setCell p a xs) (setCell p b zs) := by
  unfold setCell
  cases Nat.blt p 100 with
  | true => exact h
  | false => exact h.set2 hb
theorem setCellR {R : AV → AV → Prop} {xs zs : List AV} {p : Nat} {b : AV} (h : All2 R xs zs) (hb : Nat.blt p 100 = false → ∀ y, xs[p - 100]? = some y → R y b) : All2 R xs (setCell p b zs) := by
  unfold setCell
  cases hp : Nat.blt p 100 with
  | true => exact h
  | false => exact h.setR (hb hp)
theorem setRow_length {p : Nat} {x : AV} {xs : List AV} : (setRow p x xs).length = xs.length := by
  unfold setRow; cases Nat.blt p 100 <;> simp
section
variable {P : Pl} {Q : Rw} {f : Blk → Blk} {l : List Seg} {σ : Store}
theorem stBase_next {x : AV} : (stBase P Q f x σ).next = σ.next := by
  unfold stBase
  split
  · exact stM_next
  · exact stM_next
theorem stBase_get {x : AV} {i : Nat} {bl : Blk} (h : (stBase P Q f x σ).get i = some bl) : Q.id0 ≠ some i ∧ ((P.sb ≠ some i ∧ σ.get i = some bl) ∨ (P.sb = some i ∧ ∃ b, σ.get i = some b ∧ bl = setBlk Q.at_ x (f b))) := by
  unfold stBase at h
  split at h
  · rename_i hn
    exact ⟨fun e => (by rw [hn] at e; cases e), stM_get h⟩
  · rename_i j hj
    by_cases e : i = j
    · subst e
      have : ((stM P (fun b => setBlk Q.at_ x (f b)) σ).kill i).get i = none := PT.get_upd_none _ _
      rw [this] at h; cases h
    · have : ((stM P (fun b => setBlk Q.at_ x (f b)) σ).kill j).get i = (stM P (fun b => setBlk Q.at_ x (f b)) σ).get i := PT.get_upd_ne _ _ _ _ e
      rw [this] at h
      exact ⟨fun e2 => (by rw [hj] at e2; cases e2; exact e rfl), stM_get h⟩
theorem stBase_put {x : AV} {i : Nat} {b : Blk} (hb : σ.get i = some b) (hi : Q.id0 ≠ some i) : (stBase P Q f x σ).get i = some (match P.sb with | some id => if i = id then setBlk Q.at_ x (f b) else b | none => b) := by
  unfold stBase
  split
  · exact stM_put hb
  · rename_i j hj
    have hne : i ≠ j := fun e => hi (by rw [hj, e])
    have : ((stM P (fun b => setBlk Q.at_ x (f b)) σ).kill j).get i = (stM P (fun b => setBlk Q.at_ x (f b)) σ).get i := PT.get_upd_ne _ _ _ _ hne
    rw [this]
    exact stM_put hb
theorem stRow_next : (stRow P Q f l σ).next = σ.next + 1 := by
  unfold stRow
  show (stBase P Q f (bslOf σ.next l) σ).next + 1 = _
  rw [stBase_next]
theorem stRow_get {i : Nat} {bl : Blk} (hf : σ.get σ.next = none) (h : (stRow P Q f l σ).get i = some bl) : (i = σ.next ∧ bl = .bytes Q.e l) ∨ (i ≠ σ.next ∧ (stBase P Q f (bslOf σ.next l) σ).get i = some bl) := by
  unfold stRow Store.new at h
  by_cases e : i = σ.next
  · subst e
    refine .inl ⟨rfl, ?_⟩
    have hn : (stBase P Q f (bslOf σ.next l) σ).t.get σ.next = none := by
      cases hg : (stBase P Q f (bslOf σ.next l) σ).t.get σ.next with
      | none => rfl
      | some y =>
        rcases (stBase_get hg).2 with ⟨_, h2⟩ | ⟨_, b, h2, _⟩
        · rw [hf] at h2; cases h2
        · rw [hf] at h2; cases h2
    refine PT.get_ins 64 _ _ _ _ hn (?_ : _ = some bl)
    have h3 : (PT.ins 64 (stBase P Q f (bslOf σ.next l) σ).t (stBase P Q f (bslOf σ.next l) σ).next (Blk.bytes Q.e l)).get σ.next = some bl := h
    rw [stBase_next] at h3
    exact h3
  · refine .inr ⟨e, ?_⟩
    have h3 : (PT.ins 64 (stBase P Q f (bslOf σ.next l) σ).t (stBase P Q f (bslOf σ.next l) σ).next (Blk.bytes Q.e l)).get i = some bl := h
    rw [stBase_next] at h3
    exact (PT.get_ins_ne 64 _ _ _ _ e).symm.trans h3
theorem stRow_old {i : Nat} (hi : i ≠ σ.next) : (stRow P Q f l σ).get i = (stBase P Q f (bslOf σ.next l) σ).get i := by
  show (PT.ins 64 (stBase P Q f (bslOf σ.next l) σ).t (stBase P Q f (bslOf σ.next l) σ).next (Blk.bytes Q.e l)).get i = _
  rw [stBase_next]
  exact PT.get_ins_ne 64 _ _ _ _ hi
theorem stRow_new (hn : σ.next ≤ 1000000000) : (stRow P Q f l σ).get σ.next = some (.bytes Q.e l) := by
  show (PT.ins 64 (stBase P Q f (bslOf σ.next l) σ).t (stBase P Q f (bslOf σ.next l) σ).next (Blk.bytes Q.e l)).get σ.next = _
  rw [stBase_next]
  exact ins_getN 64 _ _ _ (by omega)
theorem stLess_get {i : Nat} {bl : Blk} (h : σ.get i = some bl) (h1 : P.sb ≠ some i) (h2 : Q.id0 ≠ some i) : (stLess P Q σ).t.get i = some bl := by
  unfold stLess
  split
  · rename_i a b ha hb
    have e1 : i ≠ a := fun e => h1 (by rw [ha, e])
    have e2 : i ≠ b := fun e => h2 (by rw [hb, e])
    exact (PT.get_upd_ne _ _ _ _ e2).trans ((PT.get_upd_ne _ _ _ _ e1).trans h)
  · rename_i a ha _
    have e1 : i ≠ a := fun e => h1 (by rw [ha, e])
    exact (PT.get_upd_ne _ _ _ _ e1).trans h
  · rename_i b _ hb
    have e2 : i ≠ b := fun e => h2 (by rw [hb, e])
    exact (PT.get_upd_ne _ _ _ _ e2).trans h
  · exact h
end
/-- The row when the bytes p are gone over. -/
noncomputable def contW (sv : Nat → List UInt8) (Q : Rw) (p : List UInt8) : List Seg := (den sv Q.old ++ imgL Q.m p).map .b
theorem segLen_bytes : ∀ s : List UInt8, segLen (s.map .b) = ((s.length : Int), [])
  | [] => rfl
  | c :: s => by
    show ((segLen (s.map .b)).1 + 1, (segLen (s.map .b)).2) = _
    rw [segLen_bytes s, List.length_cons]; congr 1
theorem slotW_below {sv : Nat → List UInt8} {P : Pl} {p : List UInt8} {k : Kd} {x : AV} {n : Nat} (hk : kdOk P k x = true) (h : belowA n x = true) : belowA n (slotW sv P p k x) = true := by
  cases k with
  | same => exact h
  | text =>
    simp only [kdOk, Bool.and_eq_true] at hk
    cases x <;> simp only [Bool.false_eq_true, and_false] at hk
    · rfl
    · rfl
  | idx => simp only [slotW]; split <;> rfl
  | acc m => simp only [slotW]; split <;> rfl
  | num => rfl
  | rlen =>
    simp only [kdOk] at hk
    split at hk
    case h_2 => cases hk
    exact h
  | rtext =>
    simp only [kdOk] at hk
    split at hk
    case h_2 => cases hk
    exact h
  | any => rfl
theorem slotW_lt {sv : Nat → List UInt8} {P : Pl} {p : List UInt8} {k : Kd} {x : AV} (hk : kdOk P k x = true) : ltW (16 * P.B1) (slotW sv P p k x) = true := by
  cases k with
  | same => exact hk
  | text =>
    simp only [kdOk, Bool.and_eq_true] at hk
    cases x <;> simp only [Bool.false_eq_true, and_false] at hk
    · rfl
    · rfl
  | idx => simp only [slotW]; split <;> rfl
  | acc m => simp only [slotW]; split <;> rfl
  | num => rfl
  | rlen =>
    simp only [kdOk] at hk
    split at hk
    case h_2 => cases hk
    simp only [Bool.and_eq_true] at hk
    show (ltTs (16 * P.B1) _ && ltTs (16 * P.B1) []) = true
    rw [hk.1]; rfl
  | rtext =>
    simp only [kdOk] at hk
    split at hk
    case h_2 => cases hk
    simp only [Bool.and_eq_true] at hk
    show (ltTs (16 * P.B1) _ && ltTs (16 * P.B1) []) = true
    rw [hk.1]; rfl
  | any => rfl
/-- A row's slice, told in another way. -/
theorem bsl_move {g g' : Ghost} {i i' : Nat} {c : Int} {ts : List Tm} {l : List Seg} {v : Value} (h : VR g (.bsl i c ts) v) (hl : SegsOK g'.sv l) (he : c + tval g.sv ts = ((den g'.sv l).length : Int)) (hi : i' < g'.next) (hπ : ∀ b n, g'.π i' = some (b, n) → g.π i = some (b, n)) : VR g' (bslOf i' l) v := by
  cases h with
  | bsl _ _ _ a len cp hT h0 h1 h2 h3 =>
  obtain ⟨s1, s2⟩ := segLen_ok hl
  exact .bsl _ _ _ _ _ _ s1 (by rw [h0, he]; exact s2) hi (fun b n hp => h2 b n (hπ b n hp)) h3
theorem self_set {h : Array Obj} {b : Nat} {o : Obj} (hb : h[b]? = some o) : h.setIfInBounds b o = h := by
  obtain ⟨hlt, e⟩ := Array.getElem?_eq_some_iff.1 hb
  rw [Array.setIfInBounds, dif_pos hlt, ← e, Array.set_getElem_self]
theorem weak_sim {g : Ghost} {σ : Store} {w : World} (hs : Sim g σ w) {e : TypeId} {s : AV} {v : Value} {l : List Seg} (hx : VR g s v) (hh : rowHeld σ e s = some l)
    (hnew : ∃ x, ((σ.kill (rowId s)).new (.bytes e l)).get σ.next = some x) :
    ∃ g', Sim g' ((σ.kill (rowId s)).new (.bytes e l)) w ∧ Ext g g' w w ∧ ∀ v, VR g s v → VR g' (bslOf σ.next l) v := by
  obtain ⟨b, m, bl0, rest, hg, hp, ho, hmm, rfl, ook, hmax⟩ := rowHeld_sound hs hx hh
  obtain ⟨g', r1, r2, r3, r4⟩ := renew_sim hs hg hp (bl := .bytes e l) (o := .cells ⟨(den g.sv l).map (fun b => Value.int .u8 b.toNat) ++ rest⟩ e (0, 0)) (n := m) (b := b) ⟨rest, rfl, hmm, ook⟩ hnew (w' := w) (.inl ⟨rfl, (self_set ho).symm⟩) rfl rfl rfl
  refine ⟨g', r1, r2, fun v hv => ?_⟩
  obtain ⟨b2, m2, bl2, rest2, _, hp2, ho2, hmm2, rfl, _, hmax2⟩ := rowHeld_sound hs hv hh
  rw [hp] at hp2
  cases hp2
  obtain ⟨s1, s2⟩ := segLen_ok ook
  refine .bsl _ _ _ _ _ _ ?_ ?_ r3 (fun b' m' hp' => ?_) hmax2
  · rw [r2.le.sv]; exact s1
  · rw [r2.le.sv]; exact s2
  · rw [r4] at hp'; cases hp'
    exact ⟨rfl, rfl⟩
theorem All2_self {R : AV → AV → Prop} (h : ∀ x, R x x) : ∀ xs : List AV, All2 R xs xs
  | [] => trivial
  | x :: xs => ⟨h x, All2_self h xs⟩
theorem weakB_sim {g : Ghost} {σ τ : Store} {w : World} (hs : Sim g σ w) {b p : Nat} {e : TypeId} (h : weakB b p e σ = some τ) : ∃ g', Sim g' τ w ∧ Ext g g' w w := by
  unfold weakB at h
  split at h
  case h_2 => cases h
  rename_i t cs hgb
  split at h
  case h_2 => cases h
  rename_i r hw
  rcases cond_yes h with ⟨_, h⟩ | ⟨hne, h⟩
  · cases h
  cases h
  unfold weakT at hw
  split at hw
  case h_2 => cases hw
  rename_i id n cap hx0
  split at hw
  case h_2 => cases hw
  rename_i l hh
  split at hw
  case h_2 => cases hw
  rename_i x hnew
  cases hw
  rw [hx0] at hne
  have hne : b ≠ id := fun e => by rw [e] at hne; simp [rowId] at hne
  obtain ⟨b1, n1, o1, hp1, ho1, hbr1⟩ := hs.blk _ _ hgb
  have hcell : ∃ v, VR g (.slice id 0 n cap 1) v := by
    obtain ⟨lv, rv, _, _, hvs, _⟩ := hbr1
    have hpl : p < cs.length := by
      rcases Nat.lt_or_ge p cs.length with h1 | h1
      · exact h1
      · rw [List.getD_eq_getElem?_getD, List.getElem?_eq_none h1] at hx0; cases hx0
    have : cs[p]? = some (.slice id 0 n cap 1) := by rw [← hx0, List.getD_eq_getElem?_getD, List.getElem?_eq_getElem hpl]; rfl
    obtain ⟨v, _, hv⟩ := hvs.get _ _ this
    exact ⟨v, hv⟩
  obtain ⟨v0, hv0⟩ := hcell
  obtain ⟨g', q1, q2, q3⟩ := weak_sim hs hv0 hh ⟨_, hnew⟩
  refine ⟨g', ⟨q1.next, ?_, q1.inj, q1.imm, q1.apart, q1.lt⟩, q2⟩
  intro i bl hi
  have hbn : b ≠ σ.next := by have := (hs.lt _ _ _ hp1).1; rw [hs.next] at this; omega
  have hg1 : ((σ.kill id).new (.bytes e l)).get b = some (.cells t cs) := by
    have e1 : ((σ.kill id).new (.bytes e l)).get b = (σ.kill id).get b := PT.get_ins_ne 64 _ _ _ _ hbn
    have e2 : (σ.kill id).get b = σ.get b := PT.get_upd_ne _ _ _ _ hne
    rw [e1, e2, hgb]
  by_cases hib : i = b
  · subst hib
    obtain ⟨b2, n2, o2, hp2, ho2, _⟩ := q1.blk _ _ hg1
    have hp3 := q2.le.π i _ (hs.lt _ _ _ hp1).1 hp2
    rw [hp1] at hp3
    cases hp3
    rw [ho1] at ho2
    cases ho2
    have : (((σ.kill id).new (.bytes e l)).upd i (.cells t (cs.set p (bslOf σ.next l)))).get i = some (.cells t (cs.set p (bslOf σ.next l))) := PT.get_upd _ _ _ _ hg1
    rw [this] at hi
    cases hi
    refine ⟨_, _, _, hp2, ho1, BR_map ((All2_self (R := fun x z => ∀ v, VR g x v → VR g' z v) (fun x v hv => hv.mono q2.le) cs).setR ?_) hbr1⟩
    intro y hy v hv
    have : y = .slice id 0 n cap 1 := by
      rw [List.getD_eq_getElem?_getD, hy] at hx0; exact hx0
    rw [this] at hv
    exact q3 v hv
  · have : (((σ.kill id).new (.bytes e l)).upd b (.cells t (cs.set p (bslOf σ.next l)))).get i = ((σ.kill id).new (.bytes e l)).get i := PT.get_upd_ne _ _ _ _ hib
    rw [this] at hi
    exact q1.blk _ _ hi
theorem weakQ_sim {g : Ghost} {σ : Store} {w : World} (hs : Sim g σ w) (P : Pl) (Q : Rw) : ∃ g', Sim g' (weakQ P Q σ) w ∧ Ext g g' w w := by
  unfold weakQ
  split
  · rename_i id _
    cases Nat.blt Q.at_ 100 with
    | true => exact ⟨g, hs, .refl g w⟩
    | false =>
      rw [cond_false]
      split
      · exact weakB_sim hs ‹_›
      · exact ⟨g, hs, .refl g w⟩
  · exact ⟨g, hs, .refl g w⟩
end Go.AM
