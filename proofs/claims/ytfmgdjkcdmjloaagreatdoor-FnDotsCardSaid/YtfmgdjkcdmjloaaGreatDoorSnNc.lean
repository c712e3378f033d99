/- Sweeps that forget: a loop goes over a word or a run. -/
import Derived.Test.YtfmgdjkcdmjloaaGreatDoorSnNb
import Derived.Test.YtfmgdjkcdmjloaaGreatDoorSnRa
set_option linter.unusedVariables false
set_option linter.unusedSimpArgs false
namespace Go.AM
variable {X : Env} {N : Nat} {b : Code} {js : List Nat}
variable {k : Kont R} {body bodyx : (List AV → Store → Tr R) → List AV → Store → Tr R}
theorem setRowN_length {Q : Nd} {x : AV} {xs : List AV} : (setRowN Q x xs).length = xs.length := by
  unfold setRowN; cases Q.no with
  | true => rfl
  | false => exact setRow_length
theorem unitsN_at {P : Pl} {Q : Nd} {fst one : Bool} {xs : List AV} {σ : Store} : ∀ {l : List UInt8}, unitsN bodyx P Q fst one xs σ l = true → ∀ c ∈ l,
    (fst = true → isOk (stepsK bodyx (mtJN P Q [] c xs σ) 8 (setRowN Q .nils (mapK (slotG P [c]) P.ks xs)) (partB P Q c (stM P (fun b => setBlkN Q .nils (blkG P [c] b)) σ))) = true) ∧
    (one = false → isOk (stepsK bodyx (mtJN P Q (nodG P Q) c xs σ) 8 (setRowN Q (rslOf σ.next (nodG P Q)) (mapK (slotG P [c]) P.ks xs)) (partB P Q c (stNod P Q (blkG P [c]) (nodG P Q) σ))) = true)
  | d :: l, h, c, hc => by
    simp only [unitsN, Bool.and_eq_true, Bool.or_eq_true, Bool.not_eq_true'] at h
    rcases List.mem_cons.1 hc with rfl | hc
    · exact ⟨fun hf => h.1.1.resolve_left (fun e => by rw [hf] at e; cases e), fun ho => h.1.2.resolve_left (fun e => by rw [ho] at e; cases e)⟩
    · exact unitsN_at h.2 c hc
/-- Values of a row's place that go over into others. -/
theorem setRowN_all2 {Q : Nd} {R : AV → AV → Prop} {xs zs : List AV} {x : AV} (h : All2 R xs zs) (hb : Q.no = false → Nat.blt Q.at_ 100 = true → ∀ y, xs[Q.at_]? = some y → R y x) : All2 R xs (setRowN Q x zs) := by
  unfold setRowN
  cases hn : Q.no with
  | true => exact h
  | false => exact setRowR h (hb hn)
theorem setRowN_all22 {Q : Nd} {R : AV → AV → Prop} {xs zs : List AV} {x y : AV} (h : All2 R xs zs) (hb : Q.no = false → R x y) : All2 R (setRowN Q x xs) (setRowN Q y zs) := by
  unfold setRowN
  cases hn : Q.no with
  | true => exact h
  | false => exact setRow2 h (hb hn)
theorem setBlkN_cells {g g' : Ghost} {Q : Nd} {n e : Nat} {cs ds : List AV} {x : AV} {o : Obj} (h : All2 (fun x z => ∀ v, VR g x v → VR g' z v) cs ds) (hb : Q.no = false → Nat.blt Q.at_ 100 = false → ∀ y, cs[Q.at_ - 100]? = some y → ∀ v, VR g y v → VR g' x v) (ho : BR g n (.cells e cs) o) : BR g' n (setBlkN Q x (.cells e ds)) o := by
  unfold setBlkN
  cases hn : Q.no with
  | true => exact BR_map h ho
  | false => exact BR_map (setCellR h (hb hn)) ho
theorem setBlkN_cells2 {g g' : Ghost} {Q : Nd} {n e : Nat} {cs ds : List AV} {x y : AV} {o : Obj} (h : All2 (fun x z => ∀ v, VR g x v → VR g' z v) cs ds) (hb : Q.no = false → ∀ v, VR g x v → VR g' y v) (ho : BR g n (setBlkN Q x (.cells e cs)) o) : BR g' n (setBlkN Q y (.cells e ds)) o := by
  unfold setBlkN at ho ⊢
  cases hn : Q.no with
  | true => rw [hn] at ho; exact BR_map h ho
  | false => rw [hn] at ho; exact BR_map (setCell2 h (hb hn)) ho
theorem setBlkN_other {Q : Nd} {x : AV} {b : Blk} (h : ∀ e cs, b ≠ .cells e cs) : setBlkN Q x b = b := by
  unfold setBlkN
  cases Q.no with
  | true => rfl
  | false => cases b <;> first | rfl | exact absurd rfl (h _ _)
theorem weakQG_sim {N : Nat} {js : List Nat} (hjs : sortedB N js = true) {g : Ghost} {σ : Store} {w : World} {a : Act} {fr : List AV} (hN : fr.length = N) (hf : FR g fr a) (hs : Sim g σ w) (P : Pl) (Q : Nd) :
    ∃ g' fr', fr'.length = N ∧ (js.map fun j => fr'.getD j .any) = (weakQG P Q (js.map fun j => fr.getD j .any) σ).1 ∧ FR g' fr' a ∧ Sim g' (weakQG P Q (js.map fun j => fr.getD j .any) σ).2 w ∧ Ext g g' w w := by
  obtain ⟨g', fr', h1, h2, h3, h4, h5⟩ := weakQN_sim hjs hN hf hs P Q
  unfold weakQG gcQ
  generalize weakQN P Q (js.map fun j => fr.getD j .any) σ = r at h2 h4
  cases hc : (Q.gc && ptSub (gcS r.1 r.2).t r.2.t) with
  | false => exact ⟨g', fr', h1, h2, h3, h4, h5⟩
  | true =>
    simp only [Bool.and_eq_true] at hc
    exact ⟨g', fr', h1, h2, h3, h4.less rfl hc.2, h5⟩
set_option maxHeartbeats 1000000 in
/-- A loop over texts or rows that leaves blocks behind, and may let a row of cells grow. -/
theorem KOK.sweepForget (hjs : sortedB N js = true) (pl : List AV → Store → Option Pl) (q : Pl → List AV → Store → Nd)
    (hb : ∀ s2 fr σ, KOK X N b fr σ (body s2 (js.map fun j => fr.getD j .any) σ) (thenK (fun fr σ => s2 (js.map fun j => fr.getD j .any) σ) k))
    (hx : ∀ s2 fr σ, KOK X N b fr σ (bodyx s2 (js.map fun j => fr.getD j .any) σ) (thenK (fun fr σ => s2 (js.map fun j => fr.getD j .any) σ) failK)) :
    ∀ m fr σ, KOK X N (.loop b) fr σ (sweepNd pl q body bodyx m (js.map fun j => fr.getD j .any) σ) k := by
  refine KOK.loopA (u := fun m fr σ => sweepNd pl q body bodyx m (js.map fun j => fr.getD j .any) σ) (fun _ _ => rfl) ?_
  intro m fr σ K g a w hN ht hf hs hG ih
  have plain : (body (sweepNd pl q body bodyx m) (js.map fun j => fr.getD j .any) σ).sat K → LO X N b k K g a w :=
    fun ht => LO.step (hb (sweepNd pl q body bodyx m) fr σ) hN ht hf hs hG fun fr' σ' g' a' w' h1 h2 h3 h4 h5 _ => ih fr' σ' g' a' w' h1 h2 h3 h4 h5
  change (sweepNd pl q body bodyx (m + 1) (js.map fun j => fr.getD j .any) σ).sat K at ht
  unfold sweepNd at ht
  generalize hxs : (js.map fun j => fr.getD j .any) = xs at ht plain
  split at ht
  · exact plain ht
  rename_i P _
  generalize hQ : q P (weakQG P (q P xs σ) xs σ).1 (weakQG P (q P xs σ) xs σ).2 = Q at ht
  obtain ⟨g4, fr4, hN4, hfr4, hf4, hs4, hE4⟩ := weakQG_sim hjs hN hf hs P (q P xs σ)
  rw [hxs] at hfr4 hs4
  unfold stepN at ht
  cases hc : sweepOkN bodyx P Q (weakQG P (q P xs σ) xs σ).1 (weakQG P (q P xs σ) xs σ).2 with
  | false => rw [hc, cond_false] at ht; exact plain ht
  | true =>
  rw [hc, cond_true] at ht
  generalize weakQG P (q P xs σ) xs σ = wq at ht hc hfr4 hs4
  obtain ⟨ys, τ⟩ := wq
  simp only at ht hc hfr4 hs4
  suffices main : ∀ (g : Ghost) (fr : List AV) (σ : Store) (xs : List AV) (Q : Nd), fr.length = N → (js.map fun j => fr.getD j .any) = xs → FR g fr a → Sim g σ w → GR X g → sweepOkN bodyx P Q xs σ = true →
      (sweepNd pl q body bodyx m (setRowN Q (rslOf σ.next (nodZ P Q)) (mapK (slotZ P) P.ks xs)) (stNod P Q (blkZ P) (nodZ P Q) σ)).sat K → LO X N b k K g a w by
    have key := main g4 fr4 τ ys Q hN4 hfr4 hf4 hs4 (Ghost.GR_mono hG hE4.le) hc ht
    exact fun B k' cs => let ⟨e, a'', w'', q, ar⟩ := key B k' cs; ⟨e, a'', w'', q.trans hE4, ar⟩
  clear hc ht hfr4 hs4 hf4 hN4 hE4 hQ plain
  intro g fr σ xs Q hN hxs hf hs hG hc ht
  simp only [sweepOkN, Bool.and_eq_true] at hc
  obtain ⟨⟨⟨⟨⟨⟨⟨⟨c1, c2⟩, c3⟩, c4⟩, c5⟩, c8⟩, c6⟩, c9⟩, c7⟩ := hc
  have c1 : P.m < 16 := by simpa [Nat.blt_eq] using c1
  have c2 : P.B < P.B1 := by simpa [Nat.blt_eq] using c2
  have c3 := Nat.eq_of_beq_eq_true c3
  have hxv : ∀ x ∈ xs, ∃ v, VR g x v := by
    intro x hx
    rw [← hxs] at hx
    obtain ⟨j, _, rfl⟩ := List.mem_map.1 hx
    rcases Nat.lt_or_ge j fr.length with hj | hj
    · obtain ⟨v, _, h⟩ := hf.vrs.get j (fr.getD j .any) (by rw [List.getD_eq_getElem?_getD, List.getElem?_eq_getElem hj]; rfl)
      exact ⟨v, h⟩
    · rw [List.getD_eq_getElem?_getD, List.getElem?_eq_none hj]
      exact ⟨.bool true, .any _⟩
  have hnx : g.next = σ.next := hs.next
  have hxb : ∀ x ∈ xs, belowA σ.next x = true := by
    intro x hx
    obtain ⟨v, hv⟩ := hxv x hx
    have := belowA_of hs hv
    rwa [hnx] at this
  have hbv : ∀ i b, P.sb = some i → σ.get i = some b → blkOk P b = true ∧ ∃ n o, BR g n b o := by
    intro i b hi hbg
    obtain ⟨b', n, o, _, _, h3⟩ := hs.blk i b hbg
    refine ⟨?_, n, o, h3⟩
    simp only [sbOk, hi, hbg] at c8
    exact c8
  have hsv0 : ∀ x ∈ sbVals P σ, ∃ v, VR g x v := by
    intro x hx
    unfold sbVals at hx
    split at hx
    · cases hx
    · rename_i i hi
      split at hx
      · rename_i e cs hg
        obtain ⟨_, n, o, l, r, _, _, h3, _⟩ := hbv i _ hi hg
        exact VRs_mem h3 x hx
      · rename_i l d ts hg
        obtain ⟨_, n, o, q, _, h2, _⟩ := hbv i _ hi hg
        rcases List.mem_cons.1 hx with rfl | hx
        · exact ⟨_, .sstr _ h2⟩
        · cases hx
      · rename_i e l hg
        obtain ⟨_, n, o, vs, rest, _, _, h3⟩ := hbv i _ hi hg
        exact rowWs_ok h3 x hx
      · cases hx
  obtain ⟨d1, d2⟩ := hasWord_ok c4 (fun x hx => by
    rcases List.mem_append.1 hx with h | h
    · rcases List.mem_append.1 h with h | h
      · exact hxv x h
      · exact hsv0 x h
    · exact rbVals_ok hs x h) c1
  have hP : PlOk g P := ⟨c1, c2, c3, d1, d2⟩
  have hlen : js.length = xs.length := by rw [← hxs, List.length_map]
  have hml : ∀ f x, js.length = (setRowN Q x (mapK f P.ks xs)).length := fun f x => by rw [setRowN_length, mapK_length c5, hlen]
  obtain ⟨S, hS⟩ : ∃ S, g.bv P.B = S := ⟨_, rfl⟩
  have hcl : ∀ c ∈ S, c ∈ clsT (P.B1 % 16) := by rw [c3, ← hS]; exact g.bok P.B
  -- the row
  generalize hx0 : rowVal P Q.at_ xs σ = x0 at c9 c7
  simp only [rowFitN, Bool.and_eq_true] at c9
  obtain ⟨f5, f9⟩ := c9
  have f5 : σ.next ≤ 1000000000 := by simpa [Nat.ble_eq] using f5
  have hfresh := hs.fresh
  have hσb : ∀ i bl, σ.get i = some bl → i < σ.next := by
    intro i bl h
    obtain ⟨b', n, o, hp, _⟩ := hs.blk i bl h
    have := (hs.lt _ _ _ hp).1
    rwa [hnx] at this
  have hf9 : Q.no = false → ltRow (16 * P.B1) Q.old = true ∧ belowRow σ.next Q.old = true ∧
      ((x0 = .nils ∧ Q.id0 = none ∧ Q.old = [] ∧ 1 ≤ P.lo) ∨ (∃ id c ts, x0 = .rsl id 0 [] c ts ∧ Q.id0 = some id ∧ P.sb ≠ some id ∧ σ.get id = some (.row Q.e Q.old) ∧ uvSame (.lin c ts) (.lin (rowLen Q.old).1 (rowLen Q.old).2) = true)) := by
    intro hno
    rw [hno, cond_false] at f9
    simp only [Bool.and_eq_true] at f9
    obtain ⟨⟨⟨f1, f2⟩, f3⟩, f4⟩ := f9
    split at f3
    · simp only [Bool.and_eq_true] at f3
      obtain ⟨⟨k1, k2⟩, k3⟩ := f3
      have k2 := rowBeq_eq k2
      refine ⟨f1, by rw [k2]; rfl, .inl ⟨rfl, ?_, k2, by simpa [Nat.ble_eq] using k3⟩⟩
      cases hi : Q.id0 with
      | none => rfl
      | some i => rw [hi] at k1; cases k1
    · rename_i id c ts
      simp only [Bool.and_eq_true] at f3
      obtain ⟨k1, k2⟩ := f3
      split at k2
      case h_2 => cases k2
      rename_i e l hg
      simp only [Bool.and_eq_true] at k2
      obtain ⟨⟨k3, k4⟩, k5⟩ := k2
      have k3 := Nat.eq_of_beq_eq_true k3
      have k4 := rowBeq_eq k4
      subst k3
      have hbl := blk_below hs hg
      rw [hnx] at hbl
      split at k1
      case h_2 => cases k1
      rename_i i hi
      simp only [Bool.and_eq_true] at k1
      have k6 := Nat.eq_of_beq_eq_true k1.1
      subst k6
      refine ⟨f1, by rw [k4]; exact hbl, .inr ⟨i, c, ts, rfl, hi, fun e => ?_, by rw [k4]; exact hg, by rw [k4]; exact k5⟩⟩
      have k7 := k1.2
      rw [e] at k7
      simp at k7
    · cases f3
  have hr1 : Nat.blt Q.at_ 100 = true → ∀ y, xs[Q.at_]? = some y → y = x0 := by
    intro hp y hy
    rw [← hx0]; unfold rowVal; rw [hp, cond_true, List.getD_eq_getElem?_getD, hy]; rfl
  have hr2 : Nat.blt Q.at_ 100 = false → ∀ id e cs, P.sb = some id → σ.get id = some (.cells e cs) → ∀ y, cs[Q.at_ - 100]? = some y → y = x0 := by
    intro hp id e cs h1 h2 y hy
    rw [← hx0]; unfold rowVal; rw [hp, cond_false, h1]; simp only [h2]; rw [List.getD_eq_getElem?_getD, hy]; rfl
  -- one byte
  have unit : ∀ p c r, p ++ c :: r = S → ∀ C : List RSeg, (Q.no = false → FrontOk g P Q p C) → ∀ g2 a2 w2 fr3 St3, Ext0 g g2 w w2 → g2.bv = g.bv → GR X g2 → ∀ hu hr, fr3.length = N → FR (g2.re P.B1 p r hu hr) fr3 a2 → Sim (g2.re P.B1 p r hu hr) St3 w2 →
      isOk (stepsK bodyx (mtJN P Q C c xs σ) 8 (js.map fun j => fr3.getD j .any) (partB P Q c St3)) = true →
      (∀ gN a4 w4, FR gN (frS 0 N (js.zip (setRowN Q (rslOf σ.next (nodW Q (p ++ [c]))) (mapK (slotW g.sv P (p ++ [c])) P.ks xs)))) a4 → gN.bv = g.bv → Sim gN (stNod P Q (blkW g.sv P (p ++ [c])) (nodW Q (p ++ [c])) σ) w4 → GR X gN → Ext g gN w w4 → Loops X.P b (Meets g w fun r => r.2.1.length = N ∧ (k r.1 r.2.1 r.2.2).sat K) a4 w4) →
      Loops X.P b (Meets g w fun r => r.2.1.length = N ∧ (k r.1 r.2.1 r.2.2).sat K) a2 w2 := by
    intro p c r hp C hC g2 a2 w2 fr3 St3 hE2 hb2 hG2 hu hr hN3 hf3 hs3 hok hnext
    have hp' : g.bv P.B = p ++ [c] ++ r := by rw [hS, ← hp]; simp
    have hGG : GR X (g2.re P.B1 p r hu hr) := hG2
    obtain ⟨b0, b1, b2, b3, _⟩ := facts_at (g4 := g2.re P.B1 p r hu hr) hP hp' hb2 hu hr rfl
    have hs3 := partB_sim hs3 (by rw [b0 (16 * P.B) (by omega), sv_base]; exact hp') (by have := b1 0 (by omega); rw [Nat.add_zero, imgL_zero] at this; exact this) (by have := b2 0 (by omega); rw [Nat.add_zero, imgL_zero] at this; exact this) (Q := Q)
    refine steps_ok hx 8 fr3 (partB P Q c St3) (g2.re P.B1 p r hu hr) a2 w2 hN3 (isOk_sat hok) hf3 hs3 hGG ?_
    intro fr40 τ00 g40 a4 w4 hN40 hm4 hf40 hs400 hE40
    have hs40 : Sim g40 (joinB P Q c σ τ00) w4 := by
      have hbv : g40.bv = (g2.re P.B1 p r hu hr).bv := hE40.le.bv
      obtain ⟨b0, b1, b2, b3, _⟩ := facts_at (g4 := g40) hP hp' hb2 hu hr hbv
      exact joinB_sim hs hs400 c6 b0 (by have := b1 0 (by omega); rw [Nat.add_zero, imgL_zero] at this; exact this) (by have := b2 0 (by omega); rw [Nat.add_zero, imgL_zero] at this; exact this) hp' c2
    have hm4 : mtWN P Q C c xs σ (js.map fun j => fr40.getD j .any) (joinB P Q c σ τ00) = true := hm4
    generalize joinB P Q c σ τ00 = τ0 at hs40 hm4
    obtain ⟨g4, fr4, hN4, hfr4, hf4, hs4, hE41⟩ := weakQN_sim hjs hN40 hf40 hs40 P Q
    have hE4 := hE40.trans hE41
    have hm4 : mtN P Q C c xs σ (weakQN P Q (js.map fun j => fr40.getD j .any) τ0).1 (weakQN P Q (js.map fun j => fr40.getD j .any) τ0).2 = true := hm4
    rw [← hfr4] at hm4
    generalize (weakQN P Q (js.map fun j => fr40.getD j .any) τ0).2 = τ at hm4 hs4
    have hbv4 : g4.bv = (g2.re P.B1 p r hu hr).bv := hE4.le.bv
    obtain ⟨a0, a1, _, _, _⟩ := facts_at (g4 := g4) hP hp' hb2 hu hr hbv4
    simp only [mtN, Bool.and_eq_true] at hm4
    obtain ⟨⟨⟨m1, m2⟩, m3⟩, m4⟩ := hm4
    generalize hyr : rowVal P Q.at_ (js.map fun j => fr4.getD j .any) τ = yr at m2
    have hE0 : Ext0 g g4 w w4 := hE2.trans ⟨hE4.le.next, hE4.le.π, hE4.le.I, hE4.le.rv, hE4.os, hE4.tape, hE4.output, hE4.size, hE4.keep, hE4.old⟩
    have row : ∃ r' nd, σ.next ≤ r' ∧ NdOk g4 τ σ.next r' nd ∧ (Q.no = false → (∀ v, VR g4 yr v → VR (g4.num2 g σ.next r' nd) (rslOf σ.next (nodW Q (p ++ [c]))) v) ∧ ∃ b', τ.get r' = some b' ∧ ∀ n o, BR g4 n b' o → BR (g4.num2 g σ.next r' nd) n (.row Q.e (nodW Q (p ++ [c]))) o) := by
      cases hno : Q.no with
      | true =>
        refine ⟨τ.next, none, ?_, (fun x hx => by cases hx), fun h => by cases h⟩
        have := hE0.next
        rw [hnx, hs4.next] at this
        exact this
      | false =>
        rw [hno, Bool.false_or] at m2
        unfold rowIs at m2
        split at m2
        case h_2 => cases m2
        rename_i r' cc ts
        simp only [Bool.and_eq_true] at m2
        obtain ⟨mr, m2⟩ := m2
        have mr : σ.next ≤ r' := by simpa [Nat.ble_eq] using mr
        split at m2
        case h_2 => cases m2
        rename_i e' l' hgr
        simp only [Bool.and_eq_true] at m2
        obtain ⟨⟨n1, n3⟩, n2⟩ := m2
        have n1 := Nat.eq_of_beq_eq_true n1
        subst n1
        split at n2
        case h_2 => cases n2
        rename_i x hlast
        obtain ⟨nd, hnd, hsp⟩ := node_nd hs4 n2
        have hal : Alike2 σ.next (16 * P.B1) g4 (g4.num2 g σ.next r' nd) := num2_alike hs4 hnd a0
        obtain ⟨q1, q2, _⟩ := hf9 hno
        have hrr : ∀ vs, RR g4 l' vs → RR (g4.num2 g σ.next r' nd) (nodW Q (p ++ [c])) vs := fun vs h => nodW_out (hC hno) a0 a1 hlast hal q2 q1 (hsp _ fun y hy => num2_nd hy) h
        refine ⟨r', nd, mr, hnd, fun _ => ⟨fun v hv => ?_, _, hgr, fun n o h => ?_⟩⟩
        · obtain ⟨b5, n5, o5, hp5, ho5, vs, rest, h1, h2, h3⟩ := hs4.blk _ _ hgr
          have hT : TsOK g4.sv ts := (rsl_ts hv).2
          have := uvSame_ok n3 (VR.lin cc ts hT) (VR.lin _ _ (rowLen_ok h3).1)
          injection this with _ this
          exact rslOf_move hv h3 (hrr vs h3) this (Nat.lt_succ_self _) (fun b n hπ => by simpa only [Ghost.num2, Ghost.num, Nat.lt_irrefl, if_false, if_true] using hπ)
        · obtain ⟨vs, rest, h1, h2, h3⟩ := h
          exact ⟨vs, rest, h1, h2, hrr vs h3⟩
    obtain ⟨r', nd, mr, hnd, hrow⟩ := row
    have hal : Alike2 σ.next (16 * P.B1) g4 (g4.num2 g σ.next r' nd) := num2_alike hs4 hnd a0
    have hal0 : Alike2 σ.next (16 * P.B1) (g4.back g) (g4.num2 g σ.next r' nd) := ⟨fun _ _ => rfl, Nat.le_succ _, hal.π, hal.I, hal.rv⟩
    have slot : ∀ k x y, kdOk P k x = true → x ∈ xs ∨ belowA σ.next x = true ∧ (∃ v, VR g x v) → kdSame k y (slotE P [c] k x) = true → ∀ v, VR g4 y v → VR (g4.num2 g σ.next r' nd) (slotW g.sv P (p ++ [c]) k x) v := by
      intro k x y hk hx hkd v hv
      have hx2 : belowA σ.next x = true ∧ ∃ v, VR g x v := by
        rcases hx with hx | hx
        · exact ⟨hxb x hx, hxv x hx⟩
        · exact hx
      obtain ⟨hxb, v1, hv1⟩ := hx2
      have := slot_out hP hp' hk hv1 hb2 hu hr hbv4 hv hkd
      exact this.move hal0 (slotW_below hk hxb) (slotW_lt hk)
    obtain ⟨hSim, hExt⟩ := move_sim2 hs hs4 hE0 mr hnd (T := stNod P Q (blkW g.sv P (p ++ [c])) (nodW Q (p ++ [c])) σ) stNod_next (by
      intro i bl hg
      rcases stNod_get hfresh hg with ⟨hno, rfl, rfl⟩ | ⟨hne, hg⟩
      · obtain ⟨_, b', h1, h2⟩ := hrow hno
        exact .inr ⟨rfl, b', h1, h2⟩
      · obtain ⟨hid, hh⟩ := stBaseN_get hg
        rcases hh with ⟨h1, h2⟩ | ⟨h1, b0, h2, rfl⟩
        · refine .inl ⟨hσb i bl h2, bl, ptSub_get m4 (stLessN_get h2 h1 hid), fun n o h => ?_⟩
          have hbb := blk_below hs h2
          rw [hnx] at hbb
          exact h.move hal hbb (ptLt_get c6 h2)
        · simp only [h1] at m3
          split at m3
          case h_2 => cases m3
          rename_i b4 b0' hg4 hg0
          rw [h2] at hg0
          cases hg0
          refine .inl ⟨hσb i _ h2, b4, hg4, fun n o h => ?_⟩
          obtain ⟨hok, n0, o0, hbr⟩ := hbv i _ h1 h2
          have hbb := blk_below hs h2
          rw [hnx] at hbb
          cases b0 with
          | cells e cs =>
            obtain ⟨lv, rv, _, _, hvs, _⟩ := hbr
            cases b4 <;> simp only [blkE, blkSame, Bool.and_eq_true, Bool.false_eq_true] at m3
            rename_i e5 cs4
            obtain ⟨k1, k2⟩ := m3
            have := Nat.eq_of_beq_eq_true k1
            subst this
            refine setBlkN_cells (all2_end hok k2 fun k x y hk hx hkd => slot k x y hk (.inr ⟨belowL_mem hbb x hx, VRs_mem hvs x hx⟩) hkd) ?_ h
            intro hno hp100 y hy
            have : y = yr := by
              rw [← hyr]; unfold rowVal; rw [hp100, cond_false, h1]; simp only [hg4]; rw [List.getD_eq_getElem?_getD, hy]; rfl
            rw [this]
            exact (hrow hno).1
          | siter l d ts' =>
            rw [setBlkN_other (fun _ _ => by intro h; cases h)]
            exact blk_out hP hp' hok hbr hb2 hu hr hbv4 h m3
          | iter _ _ => cases hok
          | bytes _ _ => cases hok
          | row e l =>
            rw [setBlkN_other (fun _ _ => by intro h; cases h)]
            exact (blk_out hP hp' hok hbr hb2 hu hr hbv4 h m3).move hal0 hbb hok)
    refine hnext (g4.num2 g σ.next r' nd) a4 w4 ?_ rfl hSim (Ghost.GR_mono hG hExt.le) hExt
    refine hf4.anew hN4 ?_
    refine setRowN_all2 (all2_end c5 m1 fun k x y hk hx hkd => slot k x y hk (.inl hx) hkd) ?_
    intro hno hp100 y hy
    have : y = yr := by
      rw [← hyr]; unfold rowVal; rw [hp100, cond_true, List.getD_eq_getElem?_getD, hy]; rfl
    rw [this]
    exact (hrow hno).1
  -- the bytes
  have walk : ∀ r p, p ++ r = S → ((!Q.no && isNilsA x0 && oneB P) = true → p ≠ []) → ∀ g2 a2 w2, FR g2 (frS 0 N (js.zip (setRowN Q (rslOf σ.next (nodW Q p)) (mapK (slotW g.sv P p) P.ks xs)))) a2 → g2.bv = g.bv → Sim g2 (stNod P Q (blkW g.sv P p) (nodW Q p) σ) w2 → GR X g2 → Ext g g2 w w2 → Loops X.P b (Meets g w fun r => r.2.1.length = N ∧ (k r.1 r.2.1 r.2.2).sat K) a2 w2 := by
    intro r
    induction r with
    | nil =>
      intro p hp _ g2 a2 w2 hf2 hb2 hs2 hG2 hE2
      rw [List.append_nil] at hp
      subst hp
      have hlt : σ.next < g2.next := by rw [hs2.next, stNod_next]; omega
      have hZ : ∀ vs, RR g2 (nodW Q p) vs → RR g2 (nodZ P Q) vs := fun vs h => nodZ_fin hP hb2 (by rw [hS]; exact h)
      have hR : Q.no = false → ∀ v, VR g2 (rslOf σ.next (nodW Q p)) v → VR g2 (rslOf σ.next (nodZ P Q)) v := by
        intro hno v hv
        obtain ⟨_, _, _, _, _, vs, rest, _, _, h3⟩ := hs2.blk _ _ (stNod_new hno f5)
        exact rslOf_move hv h3 (hZ vs h3) rfl hlt (fun _ _ h => h)
      have key := ih (frS 0 N (js.zip (setRowN Q (rslOf σ.next (nodZ P Q)) (mapK (slotZ P) P.ks xs)))) (stNod P Q (blkZ P) (nodZ P Q) σ) g2 a2 w2 (frS_length _ _ _) ?_ ?_ ?_ hG2
      · exact fun B k' cs => let ⟨e, a'', w'', q, ar⟩ := key B k' cs; ⟨e, a'', w'', q.trans hE2, ar⟩
      · show (sweepNd pl q body bodyx m _ _).sat K
        rw [frS_map hjs (hml _ _)]; exact ht
      · refine hf2.anew (frS_length _ _ _) ?_
        rw [frS_map hjs (hml _ _)]
        refine setRowN_all22 (all2_map c5 fun k x hk hx v hv => ?_) hR
        obtain ⟨v1, hv1⟩ := hxv x hx
        rw [← hS] at hv
        exact slot_fin hP hk hv1 hb2 hv
      · refine Sim.anew (g := g2) (g' := g2) (σ := stNod P Q (blkW g.sv P p) (nodW Q p) σ) rfl rfl rfl (by rw [stNod_next, stNod_next]) ?_ hs2
        intro i bl hg
        rcases stNod_get hfresh hg with ⟨hno, rfl, rfl⟩ | ⟨hne, hg⟩
        · refine ⟨_, stNod_new hno f5, fun n o h => ?_⟩
          obtain ⟨vs, rest, h1, h2, h3⟩ := h
          exact ⟨vs, rest, h1, h2, hZ vs h3⟩
        · obtain ⟨hid, hh⟩ := stBaseN_get hg
          rcases hh with ⟨h1, h2⟩ | ⟨h1, b0, h2, rfl⟩
          · refine ⟨bl, ?_, fun _ _ h => h⟩
            rw [stNod_old hne, stBaseN_put h2 hid]
            split
            · rename_i id hid2; rw [if_neg (fun e => h1 (by rw [hid2, e]))]
            · rfl
          · obtain ⟨hok, n0, o0, hbr⟩ := hbv i b0 h1 h2
            refine ⟨setBlkN Q (rslOf σ.next (nodW Q p)) (blkW g.sv P p b0), ?_, fun n o h => ?_⟩
            · rw [stNod_old hne, stBaseN_put h2 hid, h1]; simp
            · rw [← hS] at h
              cases b0 with
              | cells e cs =>
                obtain ⟨lv, rv, _, _, hvs, _⟩ := hbr
                refine setBlkN_cells2 (all2_map hok fun k x hk hx v hv => ?_) (by rw [hS]; exact hR) h
                obtain ⟨v1, hv1⟩ := VRs_mem hvs x hx
                exact slot_fin hP hk hv1 hb2 hv
              | siter l d ts =>
                rw [setBlkN_other (fun _ _ => by intro h; cases h)] at h ⊢
                exact blk_fin hP hok hbr hb2 h
              | iter _ _ => cases hok
              | bytes _ _ => cases hok
              | row e l =>
                rw [setBlkN_other (fun _ _ => by intro h; cases h)] at h ⊢
                exact blk_fin hP hok hbr hb2 h
    | cons c r ihr =>
      intro p hp hone g2 a2 w2 hf2 hb2 hs2 hG2 hE2
      have hp' : g.bv P.B = p ++ [c] ++ r := by rw [hS, ← hp]; simp
      have hu : ∀ d ∈ p, d ∈ clsT (P.B1 % 16) := fun d hd => hcl d (by rw [← hp]; simp [hd])
      have hr : ∀ d ∈ r, d ∈ clsT (P.B1 % 16) := fun d hd => hcl d (by rw [← hp]; simp [hd])
      have hcc : c ∈ clsT (P.B % 16) := by rw [← c3]; exact hcl c (by rw [← hp]; simp)
      have hno1 : (!Q.no && isNilsA x0 && oneB P) = false := by
        cases ho : (!Q.no && isNilsA x0 && oneB P) with
        | false => rfl
        | true =>
          have hpn := hone ho
          simp only [Bool.and_eq_true, oneB, Nat.blt_eq] at ho
          have h1 := imgL_min P.m (g.bv P.B)
          have h2 := hP.hi
          have h3 : 2 ≤ (g.bv P.B).length := by
            rw [hp']
            have : 0 < p.length := List.length_pos_iff.2 hpn
            simp only [List.length_append, List.length_cons, List.length_nil]
            omega
          have h4 := Nat.mul_le_mul_right (minIm P.m) h3
          have := ho.2
          omega
      have hun := (unitsN_at c7 c hcc).2 hno1
      have hag : Agree (16 * P.B1) g2 (g2.re P.B1 p r hu hr) := re_agree
      have hlt : σ.next < g2.next := by rw [hs2.next, stNod_next]; omega
      have hGin : Q.no = false → ∀ vs, RR g2 (nodW Q p) vs → RR (g2.re P.B1 p r hu hr) (nodG P Q) vs := fun hno vs h => nodG_in hP hp' (hf9 hno).1 hu hr h
      have hR : Q.no = false → ∀ v, VR g2 (rslOf σ.next (nodW Q p)) v → VR (g2.re P.B1 p r hu hr) (rslOf σ.next (nodG P Q)) v := by
        intro hno v hv
        obtain ⟨_, _, _, _, _, vs, rest, _, _, h3⟩ := hs2.blk _ _ (stNod_new hno f5)
        exact rslOf_move hv h3 (hGin hno vs h3) rfl hlt (fun _ _ h => h)
      refine unit p c r hp (nodG P Q) (fun _ => front_G) g2 a2 w2 (frS 0 N (js.zip (setRowN Q (rslOf σ.next (nodG P Q)) (mapK (slotG P [c]) P.ks xs)))) (stNod P Q (blkG P [c]) (nodG P Q) σ) hE2.forget hb2 hG2 hu hr (frS_length _ _ _) ?_ ?_ ?_ (ihr (p ++ [c]) (by rw [← hp]; simp) (fun _ => by simp))
      · refine hf2.anew (frS_length _ _ _) ?_
        rw [frS_map hjs (hml _ _)]
        refine setRowN_all22 (all2_map c5 fun k x hk hx v hv => ?_) hR
        obtain ⟨v1, hv1⟩ := hxv x hx
        exact slot_in hP hp' hk hv1 hb2 hu hr hv
      · refine Sim.anew (g := g2) (g' := g2.re P.B1 p r hu hr) (σ := stNod P Q (blkW g.sv P p) (nodW Q p) σ) rfl rfl rfl (by rw [stNod_next, stNod_next]) ?_ hs2
        intro i bl hg
        rcases stNod_get hfresh hg with ⟨hno, rfl, rfl⟩ | ⟨hne, hg⟩
        · refine ⟨_, stNod_new hno f5, fun n o h => ?_⟩
          obtain ⟨vs, rest, h1, h2, h3⟩ := h
          exact ⟨vs, rest, h1, h2, hGin hno vs h3⟩
        · obtain ⟨hid, hh⟩ := stBaseN_get hg
          rcases hh with ⟨h1, h2⟩ | ⟨h1, b0, h2, rfl⟩
          · refine ⟨bl, ?_, fun _ _ h => h.agree hag (ptLt_get c6 h2)⟩
            rw [stNod_old hne, stBaseN_put h2 hid]
            split
            · rename_i id hid2; rw [if_neg (fun e => h1 (by rw [hid2, e]))]
            · rfl
          · obtain ⟨hok, n0, o0, hbr⟩ := hbv i b0 h1 h2
            refine ⟨setBlkN Q (rslOf σ.next (nodW Q p)) (blkW g.sv P p b0), ?_, fun n o h => ?_⟩
            · rw [stNod_old hne, stBaseN_put h2 hid, h1]; simp
            · cases b0 with
              | cells e cs =>
                obtain ⟨lv, rv, _, _, hvs, _⟩ := hbr
                refine setBlkN_cells2 (all2_map hok fun k x hk hx v hv => ?_) hR h
                obtain ⟨v1, hv1⟩ := VRs_mem hvs x hx
                exact slot_in hP hp' hk hv1 hb2 hu hr hv
              | siter l d ts =>
                rw [setBlkN_other (fun _ _ => by intro h; cases h)] at h ⊢
                exact blk_in hP hp' hok hbr hb2 hu hr h
              | iter _ _ => cases hok
              | bytes _ _ => cases hok
              | row e l =>
                rw [setBlkN_other (fun _ _ => by intro h; cases h)] at h ⊢
                exact blk_in hP hp' hok hbr hb2 hu hr h
      · rw [frS_map hjs (hml _ _)]; exact hun
  cases hno : Q.no with
  | true =>
    let g' : Ghost := { π := g.π, I := g.I, next := g.next + 1, bv := g.bv, bok := g.bok, iok := g.iok, rv := g.rv }
    have hle : g.le g' := ⟨Nat.le_succ _, rfl, fun _ _ _ h => h, fun _ _ h => h, fun _ _ h => h⟩
    have hE : Ext g g' w w := ⟨hle, rfl, rfl, rfl, Nat.le_refl _, fun _ _ _ => rfl, fun id b n h _ => ⟨id, n, h⟩⟩
    refine walk S [] rfl (fun h => by rw [hno] at h; simp at h) g' a w ?_ rfl ?_ (Ghost.GR_mono hG hle) hE
    · refine hf.anew hN ?_
      rw [hxs]
      exact setRowN_all2 (all2_start c5 fun k x hk hx v hv => (slot_start hk hv).mono hle) (fun h => by rw [hno] at h; cases h)
    · have hsb : ∀ x b, setBlkN Q x b = b := fun x b => by unfold setBlkN; rw [hno]; rfl
      refine ⟨by rw [stNod_next]; show g.next + 1 = _; rw [hnx], fun i bl hg => ?_, hs.inj, fun b cs h => ?_, hs.apart, fun i b n h => ?_⟩
      · rcases stNod_get hfresh hg with ⟨h0, _⟩ | ⟨hne, hg⟩
        · rw [hno] at h0; cases h0
        · obtain ⟨hid, hh⟩ := stBaseN_get hg
          rcases hh with ⟨h1, h2⟩ | ⟨h1, b0, h2, rfl⟩
          · obtain ⟨b', n, o, q1, q2, q3⟩ := hs.blk i bl h2
            exact ⟨b', n, o, q1, q2, q3.mono hle⟩
          · obtain ⟨b', n, o, q1, q2, q3⟩ := hs.blk i b0 h2
            obtain ⟨hok, _⟩ := hbv i b0 h1 h2
            refine ⟨b', n, o, q1, q2, ?_⟩
            rw [hsb]
            exact (blk_start hok q3).mono hle
      · obtain ⟨e, n, o, q1, q2⟩ := hs.imm b cs h
        exact ⟨e, n, o, q1, q2.mono hle⟩
      · have := hs.lt i b n h
        exact ⟨Nat.lt_succ_of_lt this.1, this.2⟩
  | false =>
    obtain ⟨fl, fb, hcase⟩ := hf9 hno
    rcases hcase with ⟨rfl, hid0, hold0, hlo⟩ | ⟨id, cc, ts, rfl, hid0, hsbne, hgr, huv⟩
    · have hS1 : 1 ≤ S.length := by
        have h1 := imgL_len P.m S
        rw [hS] at d1
        omega
      cases hSc : S with
      | nil => rw [hSc] at hS1; simp at hS1
      | cons c r =>
        have hp : [] ++ c :: r = S := hSc.symm
        have hp' : g.bv P.B = [] ++ [c] ++ r := by rw [hS, hSc]; rfl
        have hu : ∀ d ∈ ([] : List UInt8), d ∈ clsT (P.B1 % 16) := fun _ h => by cases h
        have hr : ∀ d ∈ r, d ∈ clsT (P.B1 % 16) := fun d hd => hcl d (by rw [hSc]; simp [hd])
        have hcc : c ∈ clsT (P.B % 16) := by rw [← c3]; exact hcl c (by rw [hSc]; simp)
        have hun := (unitsN_at c7 c hcc).1 (by rw [hno]; rfl)
        have hag : Agree (16 * P.B1) g (g.re P.B1 [] r hu hr) := re_agree
        refine unit [] c r hp [] (fun _ => front_nil hold0) g a w (frS 0 N (js.zip (setRowN Q .nils (mapK (slotG P [c]) P.ks xs)))) (stM P (fun b => setBlkN Q .nils (blkG P [c] b)) σ) (Ext.refl g w).forget rfl hG hu hr (frS_length _ _ _) ?_ ?_ ?_ (walk r [c] (by rw [hSc]; rfl) (fun _ => by simp))
        · refine hf.anew hN ?_
          rw [hxs]
          refine setRowN_all2 (all2_start c5 fun k x hk hx v hv => slot_in hP hp' hk hv rfl hu hr (slot_start hk hv)) ?_
          intro _ hp100 y hy v hv
          rw [hr1 hp100 y hy] at hv
          cases hv; exact .nils
        · refine Sim.anew (g := g) (g' := g.re P.B1 [] r hu hr) (σ := σ) rfl rfl rfl stM_next ?_ hs
          intro i bl hg
          rcases stM_get hg with ⟨h1, h2⟩ | ⟨h1, b0, h2, rfl⟩
          · exact ⟨bl, h2, fun _ _ h => h.agree hag (ptLt_get c6 h2)⟩
          · obtain ⟨hok, n0, o0, hbr⟩ := hbv i b0 h1 h2
            refine ⟨b0, h2, fun n o h => ?_⟩
            cases b0 with
            | cells e cs =>
              refine setBlkN_cells (all2_start hok fun k x hk hx v hv => slot_in hP hp' hk hv rfl hu hr (slot_start hk hv)) ?_ h
              intro _ hp100 y hy v hv
              rw [hr2 hp100 i e cs h1 h2 y hy] at hv
              cases hv; exact .nils
            | siter l d ts =>
              rw [setBlkN_other (fun _ _ => by intro h; cases h)]
              exact blk_in hP hp' hok hbr rfl hu hr (blk_start hok h)
            | iter _ _ => cases hok
            | bytes _ _ => cases hok
            | row e l =>
              rw [setBlkN_other (fun _ _ => by intro h; cases h)]
              exact blk_in hP hp' hok hbr rfl hu hr (blk_start hok h)
        · rw [frS_map hjs (hml _ _)]; exact hun
    · obtain ⟨b', n, o, hp, ho, vs, rest, ho2, hlen2, hrr⟩ := hs.blk _ _ hgr
      have hnew0 : ((σ.kill id).new (.row Q.e Q.old)).get σ.next = some (.row Q.e Q.old) := ins_getN 64 (σ.kill id).t σ.next _ (by omega)
      subst ho2
      obtain ⟨g', q1, q2, q3, q4⟩ := renew_sim hs hgr hp (bl := .row Q.e Q.old) (o := .cells ⟨vs ++ rest⟩ Q.e (0, 0)) (n := n) (b := b') ⟨vs, rest, rfl, hlen2, hrr⟩ ⟨_, hnew0⟩ (w' := w) (.inl ⟨rfl, (self_set ho).symm⟩) rfl rfl rfl
      have hW : nodW Q [] = Q.old := by simp [nodW, cellsR]
      have hR : ∀ v, VR g (.rsl id 0 [] cc ts) v → VR g' (rslOf σ.next (nodW Q [])) v := by
        intro v hv
        have hT := (rsl_ts hv).2
        have e := uvSame_ok huv (VR.lin cc ts hT) (VR.lin _ _ (rowLen_ok hrr).1)
        injection e with _ e
        exact rslOf_move hv hrr (by rw [hW]; exact hrr.mono q2.le) e q3 (fun b m hπ => by rw [q4] at hπ; cases hπ; exact hp)
      refine walk S [] rfl (fun h => by simp [isNilsA] at h) g' a w ?_ q2.le.bv ?_ (Ghost.GR_mono hG q2.le) q2
      · refine hf.anew hN ?_
        rw [hxs]
        refine setRowN_all2 (all2_start c5 fun k x hk hx v hv => (slot_start hk hv).mono q2.le) ?_
        intro _ hp100 y hy v hv
        rw [hr1 hp100 y hy] at hv
        exact hR v hv
      · refine ⟨by rw [stNod_next]; exact q1.next, fun i bl hg => ?_, q1.inj, q1.imm, q1.apart, q1.lt⟩
        rcases stNod_get hfresh hg with ⟨_, rfl, rfl⟩ | ⟨hne, hg⟩
        · rw [hW]; exact q1.blk _ _ hnew0
        · obtain ⟨hid, hh⟩ := stBaseN_get hg
          have hii : i ≠ id := fun e => hid (by rw [hid0, e])
          have hgi : ∀ b0, σ.get i = some b0 → ((σ.kill id).new (.row Q.e Q.old)).get i = some b0 := fun b0 h => (PT.get_ins_ne 64 _ _ _ _ hne).trans ((PT.get_upd_ne _ _ _ _ hii).trans h)
          rcases hh with ⟨h1, h2⟩ | ⟨h1, b0, h2, rfl⟩
          · exact q1.blk i bl (hgi _ h2)
          · obtain ⟨bb, nn, oo, k1, k2, k3⟩ := q1.blk i b0 (hgi _ h2)
            obtain ⟨bb2, nn2, oo2, j1, j2, j3⟩ := hs.blk i b0 h2
            have k4 := q2.le.π i _ (hs.lt _ _ _ j1).1 k1
            rw [j1] at k4; cases k4
            refine ⟨_, _, _, k1, j2, ?_⟩
            obtain ⟨hok, _⟩ := hbv i b0 h1 h2
            cases b0 with
            | cells e cs =>
              refine setBlkN_cells (all2_start hok fun k x hk hx v hv => (slot_start hk hv).mono q2.le) ?_ j3
              intro _ hp100 y hy v hv
              rw [hr2 hp100 i e cs h1 h2 y hy] at hv
              exact hR v hv
            | siter l d ts =>
              rw [setBlkN_other (fun _ _ => by intro h; cases h)]
              exact (blk_start hok j3).mono q2.le
            | iter _ _ => cases hok
            | bytes _ _ => cases hok
            | row e l =>
              rw [setBlkN_other (fun _ _ => by intro h; cases h)]
              exact (blk_start hok j3).mono q2.le
end Go.AM
/- A row of known cells is told as a row whose room is not known, ahead of a sweep. -/
namespace Go.AM
noncomputable def sweepWN (p : Nat) (e : TypeId) (inner : Nat → List AV → Store → Tr R) (m : Nat) (xs : List AV) (σ : Store) : Tr R :=
  match weakTN e (xs.getD p .any) σ with
  | some r => inner m (xs.set p r.1) r.2
  | none => inner m xs σ
theorem KOK.sweepWN {X : Env} {N : Nat} {c : Code} {k : Kont R} {js : List Nat} (hjs : sortedB N js = true) {inner : Nat → List AV → Store → Tr R} (p : Nat) (e : TypeId)
    (h : ∀ m fr σ, KOK X N c fr σ (inner m (js.map fun j => fr.getD j .any) σ) k) : ∀ m fr σ, KOK X N c fr σ (Go.AM.sweepWN p e inner m (js.map fun j => fr.getD j .any) σ) k := by
  intro m fr σ K g a w hN ht hf hs hG
  unfold Go.AM.sweepWN at ht
  generalize hxs : (js.map fun j => fr.getD j .any) = xs at ht
  split at ht
  · rename_i r hw
    rcases Nat.lt_or_ge p xs.length with hpl | h1
    case inr =>
      rw [List.getD_eq_getElem?_getD, List.getElem?_eq_none h1] at hw
      simp [weakTN] at hw
    have hpj : p < js.length := by rw [← hxs, List.length_map] at hpl; exact hpl
    have hx1 : fr.getD (js.getD p 0) .any = xs.getD p .any := by
      rw [← hxs]
      simp [List.getD_eq_getElem?_getD, List.getElem?_eq_getElem hpj]
    have hv := hf.get (js.getD p 0)
    rw [hx1] at hv
    obtain ⟨g', q1, q2, _, _, q3⟩ := weakTN_sim hs hv hw
    have hlen : js.length = (xs.set p r.1).length := by rw [List.length_set, ← hxs, List.length_map]
    have ht' : (inner m (js.map fun j => (frS 0 N (js.zip (xs.set p r.1))).getD j .any) r.2).sat K := by
      rw [frS_map hjs hlen]; exact ht
    refine wp_mono (h m _ _ K g' a w (frS_length _ _ _) ht' ?_ q1 (Ghost.GR_mono hG q2.le)) ?_
    · refine hf.anew hN ?_
      rw [hxs]
      refine (All2_self (R := fun x z => ∀ v, VR g x v → VR g' z v) (fun x v hv => hv.mono q2.le) xs).setR ?_
      intro y hy v hv
      have : y = xs.getD p .any := by rw [List.getD_eq_getElem?_getD, hy]; rfl
      rw [this] at hv
      exact q3 v hv
    · intro ex a' w' hm
      exact Meets.trans q2 hm
  · rw [← hxs] at ht
    exact h m fr σ K g a w hN ht hf hs hG
/-- The like for a row in a cell of the block at which a slot points. -/
noncomputable def weakCN (sp p : Nat) (e : TypeId) (xs : List AV) (σ : Store) : Option Store :=
  match xs.getD sp .any with
  | .ptr b 0 => weakBN b p e σ
  | _ => none
noncomputable def sweepCN (sp p : Nat) (e : TypeId) (inner : Nat → List AV → Store → Tr R) (m : Nat) (xs : List AV) (σ : Store) : Tr R :=
  match weakCN sp p e xs σ with
  | some τ => inner m xs τ
  | none => inner m xs σ
theorem KOK.sweepCN {X : Env} {N : Nat} {c : Code} {k : Kont R} {js : List Nat} {inner : Nat → List AV → Store → Tr R} (sp p : Nat) (e : TypeId)
    (h : ∀ m fr σ, KOK X N c fr σ (inner m (js.map fun j => fr.getD j .any) σ) k) : ∀ m fr σ, KOK X N c fr σ (Go.AM.sweepCN sp p e inner m (js.map fun j => fr.getD j .any) σ) k := by
  intro m fr σ K g a w hN ht hf hs hG
  unfold Go.AM.sweepCN at ht
  split at ht
  · rename_i τ hw
    have hw2 : ∃ g', Sim g' τ w ∧ Ext g g' w w := by
      unfold weakCN at hw
      split at hw
      · exact weakBN_sim hs hw
      · cases hw
    obtain ⟨g', q1, q2⟩ := hw2
    refine wp_mono (h m fr τ K g' a w hN ht (hf.mono q2.le) q1 (Ghost.GR_mono hG q2.le)) ?_
    intro ex a' w' hm
    exact Meets.trans q2 hm
  · exact h m fr σ K g a w hN ht hf hs hG
end Go.AM
/- Plans that the class of the word decides. -/
namespace Go.AM
/-- One plan for words of class t, another one else. -/
noncomputable def planBy (t : Nat) (p1 p2 : List AV → Store → Option Pl) (xs : List AV) (σ : Store) : Option Pl :=
  match p1 xs σ with
  | some P => cond (Nat.beq (P.B % 16) t) (some P) (p2 xs σ)
  | none => none
noncomputable def ndBy (t : Nat) (q1 q2 : Pl → List AV → Store → Nd) (P : Pl) (xs : List AV) (σ : Store) : Nd := cond (Nat.beq (P.B % 16) t) (q1 P xs σ) (q2 P xs σ)
/-- A row of bytes whose image the class decides. -/
noncomputable def planRC (p t a b : Nat) (e : TypeId) (P : Pl) (xs : List AV) (σ : Store) : Rw := planR p (cond (Nat.beq (P.B % 16) t) a b) e P xs σ
end Go.AM
