/- Sweeps that forget: rows of known cells, nodes, the row at each byte. -/
import Derived.Test.YtfmgdjkcdmjloaaGreatDoorSnNa
set_option linter.unusedVariables false
set_option linter.unusedSimpArgs false
namespace Go.AM
theorem weakTN_sim {g : Ghost} {σ : Store} {w : World} (hs : Sim g σ w) {e : TypeId} {s : AV} {v : Value} {x : R} (hx : VR g s v) (h : weakTN e s σ = some x) :
    ∃ g', Sim g' x.2 w ∧ Ext g g' w w ∧ (∃ id n cap, s = .slice id 0 n cap 1) ∧ (∃ l, x.2 = (σ.kill (rowId s)).new (.row e l)) ∧ ∀ v, VR g s v → VR g' x.1 v := by
  unfold weakTN at h
  split at h
  case h_2 => cases h
  rename_i id n cap
  split at h
  case h_2 => cases h
  rename_i e' cs hg
  rcases cond_yes h with ⟨hc, h⟩ | ⟨_, h⟩
  case inr => cases h
  split at h
  case h_2 => cases h
  rename_i y hnew
  cases h
  simp only [Bool.and_eq_true] at hc
  have he := Nat.eq_of_beq_eq_true hc.1
  have hle : n ≤ cs.length := by simpa [Nat.ble_eq] using hc.2
  obtain ⟨b, m, o, hp, ho, l, rest, rfl, hm, hv, hex⟩ := hs.blk _ _ hg
  have hlen := hv.length
  have hrr : RR g (cellsR (cs.take n)) (l.take n) := RR.cells (hv.take n)
  obtain ⟨g', r1, r2, r3, r4⟩ := renew_sim hs hg hp (bl := .row e (cellsR (cs.take n))) (o := .cells ⟨l ++ rest⟩ (e' / 2) (0, 0)) (n := m) (b := b) ⟨l.take n, l.drop n ++ rest, by rw [he, ← List.append_assoc, List.take_append_drop], by rw [List.length_take, List.length_append, List.length_drop]; omega, hrr⟩ ⟨_, hnew⟩ (w' := w) (.inl ⟨rfl, (self_set ho).symm⟩) rfl rfl rfl
  refine ⟨g', r1, r2, ⟨id, n, cap, rfl⟩, ⟨_, rfl⟩, fun v hv2 => ?_⟩
  obtain ⟨s1, s2⟩ := rowLen_ok (hrr.mono r2.le)
  rw [List.length_take] at s2
  cases hv2 with
  | slice _ _ _ _ _ a c h1 h2 h3 =>
  obtain ⟨rfl, h4, _⟩ := h2 b m hp
  refine .rsl _ _ _ _ _ _ 0 n c trivial s1 rfl (by rw [← s2]; omega) (by omega) r3 (fun b' m' hp' => ?_) h3
  rw [r4] at hp'; cases hp'
  exact ⟨rfl, by omega⟩
theorem weakBN_sim {g : Ghost} {σ τ : Store} {w : World} (hs : Sim g σ w) {b p : Nat} {e : TypeId} (h : weakBN b p e σ = some τ) : ∃ g', Sim g' τ w ∧ Ext g g' w w := by
  unfold weakBN at h
  split at h
  case h_2 => cases h
  rename_i t cs hgb
  split at h
  case h_2 => cases h
  rename_i r hw
  rcases cond_yes h with ⟨_, h⟩ | ⟨hne, h⟩
  · cases h
  cases h
  generalize hx0 : cs.getD p .any = x0 at hw hne
  obtain ⟨b1, n1, o1, hp1, ho1, hbr1⟩ := hs.blk _ _ hgb
  have hcell : ∃ v, VR g x0 v := by
    obtain ⟨lv, rv, _, _, hvs, _⟩ := hbr1
    rcases Nat.lt_or_ge p cs.length with hpl | h1
    · have : cs[p]? = some x0 := by rw [← hx0, List.getD_eq_getElem?_getD, List.getElem?_eq_getElem hpl]; rfl
      obtain ⟨v, _, hv⟩ := hvs.get _ _ this
      exact ⟨v, hv⟩
    · rw [List.getD_eq_getElem?_getD, List.getElem?_eq_none h1] at hx0
      subst hx0
      exact ⟨.bool true, .any _⟩
  obtain ⟨v0, hv0⟩ := hcell
  obtain ⟨g', q1, q2, ⟨id, n, cap, rfl⟩, ⟨l5, q4⟩, q3⟩ := weakTN_sim hs hv0 hw
  have hne : b ≠ id := fun e => by rw [e] at hne; simp [rowId] at hne
  refine ⟨g', ⟨q1.next, ?_, q1.inj, q1.imm, q1.apart, q1.lt⟩, q2⟩
  intro i bl hi
  have hbn : b ≠ σ.next := by have := (hs.lt _ _ _ hp1).1; rw [hs.next] at this; omega
  have hg1 : r.2.get b = some (.cells t cs) := by
    rw [q4]
    refine (PT.get_ins_ne 64 _ _ _ _ hbn).trans ?_
    exact (PT.get_upd_ne _ _ _ _ hne).trans hgb
  by_cases hib : i = b
  · subst hib
    obtain ⟨b2, n2, o2, hp2, ho2, _⟩ := q1.blk _ _ hg1
    have hp3 := q2.le.π i _ (hs.lt _ _ _ hp1).1 hp2
    rw [hp1] at hp3
    cases hp3
    rw [ho1] at ho2
    cases ho2
    have : (r.2.upd i (.cells t (cs.set p r.1))).get i = some (.cells t (cs.set p r.1)) := PT.get_upd _ _ _ _ hg1
    rw [this] at hi
    cases hi
    refine ⟨_, _, _, hp2, ho1, BR_map ((All2_self (R := fun x z => ∀ v, VR g x v → VR g' z v) (fun x v hv => hv.mono q2.le) cs).setR ?_) hbr1⟩
    intro y hy v hv
    have : y = .slice id 0 n cap 1 := by
      rw [List.getD_eq_getElem?_getD, hy] at hx0; exact hx0
    rw [this] at hv
    exact q3 v hv
  · have : (r.2.upd b (.cells t (cs.set p r.1))).get i = r.2.get i := PT.get_upd_ne _ _ _ _ hib
    rw [this] at hi
    exact q1.blk _ _ hi
/-- The look's frame and store, the row told as a row. -/
theorem weakQN_sim {N : Nat} {js : List Nat} (hjs : sortedB N js = true) {g : Ghost} {σ : Store} {w : World} {a : Act} {fr : List AV} (hN : fr.length = N) (hf : FR g fr a) (hs : Sim g σ w) (P : Pl) (Q : Nd) :
    ∃ g' fr', fr'.length = N ∧ (js.map fun j => fr'.getD j .any) = (weakQN P Q (js.map fun j => fr.getD j .any) σ).1 ∧ FR g' fr' a ∧ Sim g' (weakQN P Q (js.map fun j => fr.getD j .any) σ).2 w ∧ Ext g g' w w := by
  generalize hxs : (js.map fun j => fr.getD j .any) = xs
  unfold weakQN
  have same : ∃ g' fr', fr'.length = N ∧ (js.map fun j => fr'.getD j .any) = xs ∧ FR g' fr' a ∧ Sim g' σ w ∧ Ext g g' w w := ⟨g, fr, hN, hxs, hf, hs, .refl g w⟩
  cases Q.no with
  | true => exact same
  | false =>
  rw [cond_false]
  cases Nat.blt Q.at_ 100 with
  | false =>
    rw [cond_false]
    split
    · split
      · obtain ⟨g', h1, h2⟩ := weakBN_sim hs ‹_›
        exact ⟨g', fr, hN, hxs, hf.mono h2.le, h1, h2⟩
      · exact same
    · exact same
  | true =>
    rw [cond_true]
    split
    · rename_i r hw
      rcases Nat.lt_or_ge Q.at_ xs.length with hpl | h1
      case inr =>
        rw [List.getD_eq_getElem?_getD, List.getElem?_eq_none h1] at hw
        simp [weakTN] at hw
      have hpj : Q.at_ < js.length := by rw [← hxs, List.length_map] at hpl; exact hpl
      have hx1 : fr.getD (js.getD Q.at_ 0) .any = xs.getD Q.at_ .any := by
        rw [← hxs]
        simp [List.getD_eq_getElem?_getD, List.getElem?_eq_getElem hpj]
      have hv := hf.get (js.getD Q.at_ 0)
      rw [hx1] at hv
      obtain ⟨g', q1, q2, _, _, q3⟩ := weakTN_sim hs hv hw
      have hlen : js.length = (xs.set Q.at_ r.1).length := by rw [List.length_set, ← hxs, List.length_map]
      refine ⟨g', frS 0 N (js.zip (xs.set Q.at_ r.1)), frS_length _ _ _, frS_map hjs hlen, hf.anew hN ?_, q1, q2⟩
      rw [hxs]
      refine (All2_self (R := fun x z => ∀ v, VR g x v → VR g' z v) (fun x v hv => hv.mono q2.le) xs).setR ?_
      intro y hy v hv
      have : y = xs.getD Q.at_ .any := by rw [List.getD_eq_getElem?_getD, hy]; rfl
      rw [this] at hv
      exact q3 v hv
    · exact same
/-- A node: its block never changes from now on. -/
theorem node_nd {g4 : Ghost} {τ : Store} {w4 : World} (h4 : Sim g4 τ w4) {n0 r T : Nat} {a : List UInt8} {x : AV} (h : nodeIs τ n0 r T a x = true) :
    ∃ nd, NdOk g4 τ n0 r nd ∧ ∀ G : Ghost, (∀ y, nd = some y → G.I y.1 = some [.str y.2]) → ∀ v, VR g4 x v → Spell G T v a := by
  unfold nodeIs at h
  split at h
  · rename_i b
    have := bytesBeq_eq h
    subst this
    exact ⟨none, (fun y hy => by cases hy), fun G _ v hv => .inl ⟨rfl, by cases hv; rfl⟩⟩
  · rename_i T t nid
    simp only [Bool.and_eq_true, Bool.not_eq_true'] at h
    obtain ⟨⟨⟨h1, h2⟩, h3⟩, h5⟩ := h
    have h1 := Nat.eq_of_beq_eq_true h1
    subst h1
    have h2 : n0 ≤ nid := by simpa [Nat.ble_eq] using h2
    have h3 : nid ≠ r := fun e => by rw [e, Nat.beq_refl] at h3; cases h3
    unfold strIs at h5
    split at h5
    case h_2 => cases h5
    rename_i e b hg
    have := bytesBeq_eq h5
    subst this
    obtain ⟨b, k, o, hp, _, _⟩ := h4.blk _ _ hg
    refine ⟨some (b, a), fun y hy => ?_, fun G hG v hv => .inr ⟨Nat.succ_ne_zero T, b, ?_, hG _ rfl⟩⟩
    · cases hy
      exact ⟨nid, k, e, h2, h3, hp, hg⟩
    · cases hv with
      | iface _ h6 => cases h6 with
        | ptr _ _ ad q1 q2 => rw [q2 b k hp]
  · cases h
section
variable {g : Ghost} {P : Pl} {Q : Nd} {p r : List UInt8} {c : UInt8}
theorem len_le (hP : PlOk g P) {u v : List UInt8} (hs : g.bv P.B = u ++ v) : u.length ≤ P.hi := by
  have h1 := hP.hi
  rw [hs, imgL_append, List.length_append] at h1
  have := imgL_len P.m u
  omega
theorem nodG_in (hP : PlOk g P) (hs : g.bv P.B = p ++ [c] ++ r) (hl : ltRow (16 * P.B1) Q.old = true) {g2 : Ghost} (hu) (hr) {vs : List Value} (h : RR g2 (nodW Q p) vs) : RR (g2.re P.B1 p r hu hr) (nodG P Q) vs := by
  have hag : Agree (16 * P.B1) g2 (g2.re P.B1 p r hu hr) := re_agree
  obtain ⟨a, b, rfl, h1, h2⟩ := RR.split h
  refine RR.append (h1.agree hag hl) ?_
  obtain ⟨us, q, rfl, h3, h4⟩ := row_spells (l := []) (by rw [List.append_nil]; exact h2)
  have h4 : q = [] := h4
  subst h4
  have g1 : (g2.re P.B1 p r hu hr).sv (16 * P.B1) = p := by
    have := re_sv1 (g := g2) (u := p) (v := r) (hu := hu) (hv := hr) (m := 0) (by omega)
    rw [Nat.add_zero, imgL_zero] at this; exact this
  have := len_le hP (u := p) (v := [c] ++ r) (by rw [hs, List.append_assoc])
  exact ⟨us, [], rfl, ⟨by rw [g1]; exact h3.agree hag, Nat.zero_le _, by rw [h3.length]; exact this⟩, rfl⟩
theorem nodZ_fin (hP : PlOk g P) {g2 : Ghost} (hb : g2.bv = g.bv) {vs : List Value} (h : RR g2 (nodW Q (g.bv P.B)) vs) : RR g2 (nodZ P Q) vs := by
  obtain ⟨a, b, rfl, h1, h2⟩ := RR.split h
  refine RR.append h1 ?_
  obtain ⟨us, q, rfl, h3, h4⟩ := row_spells (l := []) (by rw [List.append_nil]; exact h2)
  have h4 : q = [] := h4
  subst h4
  have hlen := h3.length
  have hlo := hP.lo
  have h5 := imgL_len P.m (g.bv P.B)
  refine ⟨us, [], rfl, ⟨by rw [sv_base, hb]; exact h3, ?_, by
    rw [hlen]
    refine (Nat.le_div_iff_mul_le (minIm_pos _)).2 (Nat.le_trans (imgL_min P.m (g.bv P.B)) hP.hi)⟩, rfl⟩
  rw [hlen]
  cases hm : Nat.beq P.m 0 with
  | true =>
    have hm := Nat.eq_of_beq_eq_true hm
    rw [hm, imgL_zero] at hlo
    exact hlo
  | false =>
    rw [cond_false]
    cases hl : Nat.beq P.lo 0 with
    | true => exact Nat.zero_le _
    | false =>
      have : P.lo ≠ 0 := fun e => by rw [e] at hl; cases hl
      show 1 ≤ _
      omega
/-- What a part of the row is in front of the new cell. -/
noncomputable def FrontOk (g : Ghost) (P : Pl) (Q : Nd) (p : List UInt8) (C : List RSeg) : Prop :=
  ∀ g4 : Ghost, (∀ k, k < 16 * P.B1 → g4.sv k = g.sv k) → (∀ m, m < 16 → g4.sv (16 * P.B1 + m) = imgL m p) → ∀ a, RR g4 C a → ∃ a1 us, a = a1 ++ us ∧ RR g4 Q.old a1 ∧ Spells g4 Q.T Q.m us p
theorem front_nil (ho : Q.old = []) : FrontOk g P Q [] [] := by
  intro g4 _ _ a h
  have h : a = [] := h
  subst h
  exact ⟨[], [], rfl, by rw [ho]; rfl, trivial⟩
theorem front_G : FrontOk g P Q p (nodG P Q) := by
  intro g4 _ a1 a h
  obtain ⟨x, y, rfl, h1, h2⟩ := RR.split h
  obtain ⟨us, q, rfl, ⟨h3, _, _⟩, h4⟩ := h2
  have h4 : q = [] := h4
  subst h4
  refine ⟨x, us, by rw [List.append_nil], h1, ?_⟩
  have := a1 0 (by omega)
  rw [Nat.add_zero, imgL_zero] at this
  rw [this] at h3
  exact h3
theorem nodW_out {C l' : List RSeg} (hC : FrontOk g P Q p C) {g4 G : Ghost} {n : Nat} (a0 : ∀ k, k < 16 * P.B1 → g4.sv k = g.sv k) (a1 : ∀ m, m < 16 → g4.sv (16 * P.B1 + m) = imgL m p) {x : AV} (hl : lastAt C l' = some x) (hal : Alike2 n (16 * P.B1) g4 G) (hob : belowRow n Q.old = true) (hol : ltRow (16 * P.B1) Q.old = true) (hsp : ∀ v, VR g4 x v → Spell G Q.T v (mapB Q.m c)) {vs : List Value} (h : RR g4 l' vs) : RR G (nodW Q (p ++ [c])) vs := by
  rw [lastAt_eq hl] at h
  obtain ⟨a, b, rfl, h1, h2⟩ := RR.split h
  obtain ⟨v, q, rfl, h3, h4⟩ := h2
  have h4 : q = [] := h4
  subst h4
  obtain ⟨a2, us, rfl, h5, h6⟩ := hC g4 a0 a1 a h1
  rw [List.append_assoc]
  refine RR.append (h5.move hal hob hol) ?_
  have h7 : Spells G Q.T Q.m us p := h6.mono fun b a hb => hal.I b _ hb (by simp [belowL, belowA])
  have h8 : Spells G Q.T Q.m [v] [c] := ⟨hsp v h3, trivial⟩
  exact spells_row (h7.append h8)
end
theorem rbVals_ok {g : Ghost} {σ : Store} {w : World} (hs : Sim g σ w) {Q : Nd} : ∀ x ∈ rbVals Q σ, ∃ v, VR g x v := by
  intro x hx
  unfold rbVals at hx
  split at hx
  · cases hx
  · split at hx
    · rename_i e l hg
      obtain ⟨b, n, o, _, _, vs, rest, _, _, h3⟩ := hs.blk _ _ hg
      exact rowWs_ok h3 x hx
    · cases hx
/-- A run parted, within one ghost. -/
theorem spRow_self {G : Ghost} {B B1 : Nat} {p r : List UInt8} {c : UInt8} (hB : G.sv (16 * B) = p ++ [c] ++ r) (h1 : G.sv (16 * B1) = p) (h2 : G.sv (16 * (B1 + 16)) = r) : ∀ {l : List RSeg} {vs : List Value}, RR G l vs → RR G (spRow B B1 [c] l) vs
  | [], _, h => h
  | .c v :: l, _, ⟨x, q, k1, k2, k3⟩ => ⟨x, q, k1, k2, spRow_self hB h1 h2 k3⟩
  | .r B' m T lo hi :: l, _, ⟨us, q, k1, ⟨k2, k3, k4⟩, k5⟩ => by
    have ih := spRow_self hB h1 h2 k5
    show RR _ (cond (Nat.beq B' B) _ _) _
    cases hb : Nat.beq B' B with
    | false => exact ⟨us, q, k1, ⟨k2, k3, k4⟩, ih⟩
    | true =>
      have hBB := Nat.eq_of_beq_eq_true hb
      rw [cond_true]
      rw [hBB, hB] at k2
      have hlen := k2.length
      obtain ⟨u12, u3, e1, k12, k33⟩ := k2.split
      obtain ⟨u1, u2, e2, k11, k22⟩ := k12.split
      have l1 := k11.length
      have l2 := k22.length
      have l3 := k33.length
      simp only [List.length_append, List.length_cons, List.length_nil] at hlen l2
      subst e2
      subst e1
      subst k1
      refine ⟨u1, u2 ++ (u3 ++ q), by simp only [List.append_assoc], ⟨by rw [h1]; exact k11, Nat.zero_le _, by show u1.length ≤ hi - 1; omega⟩, ?_⟩
      refine RR.append (spells_row k22) ?_
      exact ⟨u3, q, rfl, ⟨by rw [h2]; exact k33, Nat.zero_le _, by show u3.length ≤ hi - 1; omega⟩, ih⟩
theorem spRow_back {g G : Ghost} {B B1 : Nat} {p r : List UInt8} {c : UInt8} (a0 : ∀ k, k < 16 * B1 → G.sv k = g.sv k) (hB : g.bv B = p ++ [c] ++ r) (h1 : G.sv (16 * B1) = p) (h2 : G.sv (16 * (B1 + 16)) = r) : ∀ {l : List RSeg} {vs vs0 : List Value}, ltRow (16 * B1) l = true → RR g l vs0 → RR G (spRow B B1 [c] l) vs → RR G l vs
  | [], _, _, _, _, h => h
  | .c v :: l, _, _, hl, ⟨_, _, _, _, h30⟩, ⟨x, q, k1, k2, k3⟩ => by
    simp only [ltRow, Bool.and_eq_true] at hl
    exact ⟨x, q, k1, k2, spRow_back a0 hB h1 h2 hl.2 h30 k3⟩
  | .r B' m T lo hi :: l, _, _, hl, ⟨us0, q0, e0, ⟨h20, h30, h40⟩, h50⟩, h => by
    simp only [ltRow, Bool.and_eq_true, Nat.blt_eq] at hl
    change RR G (cond (Nat.beq B' B) _ _) _ at h
    cases hb : Nat.beq B' B with
    | false =>
      rw [hb, cond_false] at h
      obtain ⟨us, q, k1, k2, k3⟩ := h
      exact ⟨us, q, k1, k2, spRow_back a0 hB h1 h2 hl.2 h50 k3⟩
    | true =>
      have hBB := Nat.eq_of_beq_eq_true hb
      rw [hb, cond_true] at h
      obtain ⟨u1, q1, e1, ⟨k1, _, _⟩, h⟩ := h
      obtain ⟨u2, q2, e2, k2, h⟩ := row_spells h
      obtain ⟨u3, q3, e3, ⟨k3, _, _⟩, h⟩ := h
      have ih := spRow_back a0 hB h1 h2 hl.2 h50 h
      rw [h1] at k1
      rw [h2] at k3
      have l0 := h20.length
      rw [sv_base, hBB, hB] at l0
      have hG : G.sv (16 * B') = p ++ [c] ++ r := by rw [a0 _ hl.1, sv_base, hBB, hB]
      subst e1 e2 e3
      have hj := Spells.join k1 k2 k3
      have lj := hj.length
      exact ⟨u1 ++ (u2 ++ u3), q3, by simp only [List.append_assoc], ⟨by rw [hG]; exact hj, by rw [lj, ← l0]; exact h30, by rw [lj, ← l0]; exact h40⟩, ih⟩
theorem upd_sim {g : Ghost} {σ : Store} {w : World} (hs : Sim g σ w) {i : Nat} {b b' : Blk} (hg : σ.get i = some b) (h : ∀ n o, BR g n b o → BR g n b' o) : Sim g (σ.upd i b') w := by
  refine Sim.anew (g := g) (g' := g) (σ := σ) rfl rfl rfl rfl ?_ hs
  intro j bl hj
  by_cases e : j = i
  · subst e
    have : (σ.upd j b').get j = some b' := PT.get_upd _ _ _ _ hg
    rw [this] at hj; cases hj
    exact ⟨b, hg, h⟩
  · have : (σ.upd i b').get j = σ.get j := PT.get_upd_ne _ _ _ _ e
    rw [this] at hj
    exact ⟨bl, hj, fun _ _ h => h⟩
theorem partB_sim {G : Ghost} {P : Pl} {Q : Nd} {p r : List UInt8} {c : UInt8} {σ : Store} {w : World} (hs : Sim G σ w) (hB : G.sv (16 * P.B) = p ++ [c] ++ r) (h1 : G.sv (16 * P.B1) = p) (h2 : G.sv (16 * (P.B1 + 16)) = r) : Sim G (partB P Q c σ) w := by
  unfold partB
  split
  · exact hs
  · split
    · rename_i e l hg
      refine upd_sim hs hg fun n o h => ?_
      obtain ⟨vs, rest, q1, q2, q3⟩ := h
      exact ⟨vs, rest, q1, q2, spRow_self hB h1 h2 q3⟩
    · exact hs
theorem joinB_sim {g G : Ghost} {P : Pl} {Q : Nd} {p r : List UInt8} {c : UInt8} {σ τ : Store} {w w4 : World} (hs : Sim g σ w) (h4 : Sim G τ w4) (c6 : ptLt (16 * P.B1) σ.t = true) (a0 : ∀ k, k < 16 * P.B1 → G.sv k = g.sv k) (h1 : G.sv (16 * P.B1) = p) (h2 : G.sv (16 * (P.B1 + 16)) = r) (hB : g.bv P.B = p ++ [c] ++ r) (_ : P.B < P.B1) : Sim G (joinB P Q c σ τ) w4 := by
  unfold joinB
  split
  · exact h4
  · split
    · rename_i e l e' l' hg hg'
      cases hc : (Nat.beq e e' && rowBeq l' (spRow P.B P.B1 [c] l)) with
      | false => exact h4
      | true =>
        rw [cond_true]
        simp only [Bool.and_eq_true] at hc
        have he := Nat.eq_of_beq_eq_true hc.1
        have hl := rowBeq_eq hc.2
        subst he
        subst hl
        obtain ⟨b, n, o, _, _, vs0, rest0, _, _, q0⟩ := hs.blk _ _ hg
        refine upd_sim h4 hg' fun n o h => ?_
        obtain ⟨vs, rest, q1, q2, q3⟩ := h
        exact ⟨vs, rest, q1, q2, spRow_back a0 hB h1 h2 (ptLt_get c6 hg) q0 q3⟩
    · exact h4
end Go.AM
