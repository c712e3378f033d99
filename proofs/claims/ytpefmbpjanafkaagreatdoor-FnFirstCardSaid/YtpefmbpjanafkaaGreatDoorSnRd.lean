/- Sweeps of loops that write: a loop goes over a word. -/
import Derived.Test.YtpefmbpjanafkaaGreatDoorSnRc
set_option linter.unusedVariables false
set_option linter.unusedSimpArgs false
namespace Go.AM
theorem belowL_mem {n : Nat} : ∀ {l : List AV}, belowL n l = true → ∀ x ∈ l, belowA n x = true
  | a :: l, h, x, hx => by
    simp only [belowL, Bool.and_eq_true] at h
    rcases List.mem_cons.1 hx with rfl | hx
    · exact h.1
    · exact belowL_mem h.2 x hx
section
variable {g : Ghost} {P : Pl} {Q : Rw}
theorem contG_ok (hP : PlOk g P) (hm : Q.m < 16) (ho : SegsOK g.sv Q.old) (hl : ltSegs (16 * P.B1) Q.old = true) {p r : List UInt8} {c : UInt8} (hs : g.bv P.B = p ++ [c] ++ r) (hcl : ∀ d ∈ p, d ∈ clsT (P.B1 % 16)) {g4 : Ghost} (a0 : ∀ k, k < 16 * P.B1 → g4.sv k = g.sv k) (a1 : ∀ m, m < 16 → g4.sv (16 * P.B1 + m) = imgL m p) :
    (SegsOK g4.sv (contG P Q) ∧ den g4.sv (contG P Q) = den g.sv Q.old ++ imgL Q.m p) ∧ SegsOK g4.sv (contE P Q [c]) ∧ den g4.sv (contE P Q [c]) = den g.sv Q.old ++ imgL Q.m (p ++ [c]) := by
  have hhi := hP.hi
  rw [hs, imgL_append, imgL_append] at hhi
  simp only [List.length_append] at hhi
  have ho' := SegsOK_agree a0 hl ho
  have hd := den_agree a0 hl
  have h1 := a1 Q.m hm
  have l1 := imgL_len Q.m p
  have l2 := imgL_len P.m p
  have l3 := imgL_len P.m [c]
  simp only [List.length_cons, List.length_nil] at l3
  have hc : ∀ d ∈ g4.sv (16 * P.B1 + Q.m), d ∈ imgCls Q.m (clsT (P.B % 16)) := by
    rw [h1]; exact imgL_mem fun d hd => by rw [← hP.mod]; exact hcl d hd
  have hw : ∀ {l : List Seg}, SegsOK g4.sv l → SegsOK g4.sv (.w (16 * P.B1 + Q.m) (imgCls Q.m (clsT (P.B % 16))) 0 (mulHi Q.m (P.hi - 1)) :: l) := fun h => ⟨⟨Nat.zero_le _, by rw [h1]; exact mulHi_ok (by omega), hc⟩, h⟩
  obtain ⟨q1, q2⟩ := putB_ok (sv := g4.sv) (r := imgL Q.m [c]) (l := []) trivial
  refine ⟨⟨SegsOK_append ho' (hw trivial), ?_⟩, SegsOK_append ho' (hw q1), ?_⟩
  · unfold contG
    rw [den_append, hd]
    show _ ++ (g4.sv (16 * P.B1 + Q.m) ++ []) = _
    rw [h1, List.append_nil]
  · unfold contE
    rw [den_append, hd, imgL_append]
    show _ ++ (g4.sv (16 * P.B1 + Q.m) ++ den g4.sv (putB (imgL Q.m [c]) [])) = _
    rw [h1, q2]
    simp only [den, List.append_nil]
theorem contZ_ok (hP : PlOk g P) (hm : Q.m < 16) (ho : SegsOK g.sv Q.old) {gi : Ghost} (hb : gi.bv = g.bv) : SegsOK gi.sv (contZ P Q) ∧ den gi.sv (contZ P Q) = den g.sv Q.old ++ imgL Q.m (g.bv P.B) := by
  have hsv : gi.sv = g.sv := by unfold Ghost.sv; rw [hb]
  have h1 : gi.sv (16 * P.B + Q.m) = imgL Q.m (g.bv P.B) := by
    unfold Ghost.sv
    rw [hb, show (16 * P.B + Q.m) / 16 = P.B by omega, show (16 * P.B + Q.m) % 16 = Q.m by omega]; rfl
  have l1 := imgL_len Q.m (g.bv P.B)
  have l2 := imgL_len P.m (g.bv P.B)
  have k1 := hP.lo
  have k2 := hP.hi
  have hlow : (cond (Nat.beq P.m 0) P.lo (cond (Nat.beq P.lo 0) 0 1)) ≤ (imgL Q.m (g.bv P.B)).length := by
    cases hz : Nat.beq P.m 0 with
    | true =>
      have hz' := Nat.eq_of_beq_eq_true hz
      rw [hz', imgL_zero] at k1
      rw [cond_true]
      omega
    | false =>
      rw [cond_false]
      cases hl : Nat.beq P.lo 0 with
      | true => exact Nat.zero_le _
      | false =>
        have : P.lo ≠ 0 := fun e => by rw [e] at hl; cases hl
        rw [cond_false]; omega
  have hw : SegsOK gi.sv [.w (16 * P.B + Q.m) (imgCls Q.m (clsT (P.B % 16))) (cond (Nat.beq P.m 0) P.lo (cond (Nat.beq P.lo 0) 0 1)) (mulHi Q.m P.hi)] := ⟨⟨by rw [h1]; exact hlow, by rw [h1]; exact mulHi_ok (by omega), by rw [h1]; exact imgL_mem (g.bok P.B)⟩, trivial⟩
  rw [← hsv] at ho ⊢
  refine ⟨SegsOK_append ho hw, ?_⟩
  unfold contZ
  rw [den_append]
  show _ ++ (gi.sv (16 * P.B + Q.m) ++ []) = _
  rw [h1, List.append_nil]
theorem contW_ok (sv sv' : Nat → List UInt8) (Q : Rw) (p : List UInt8) : SegsOK sv' (contW sv Q p) ∧ den sv' (contW sv Q p) = den sv Q.old ++ imgL Q.m p := SegsOK_bytes _
theorem contW_len (sv : Nat → List UInt8) (Q : Rw) (p : List UInt8) : segLen (contW sv Q p) = (((den sv Q.old ++ imgL Q.m p).length : Int), []) := segLen_bytes _
end
variable {X : Env} {N : Nat} {b : Code} {js : List Nat}
variable {k : Kont R} {body bodyx : (List AV → Store → Tr R) → List AV → Store → Tr R}
theorem unitsR_at {P : Pl} {Q : Rw} {x0 : AV} {xs : List AV} {σ : Store} : ∀ {l : List UInt8}, unitsR bodyx P Q x0 xs σ l = true → ∀ c ∈ l,
    isOk (stepsK bodyx (mtW P Q (contS Q [c]) [c] xs σ) 8 (setRow Q.at_ x0 (mapK (slotG P [c]) P.ks xs)) (stM P (fun b => setBlk Q.at_ x0 (blkG P [c] b)) σ)) = true ∧
    isOk (stepsK bodyx (mtW P Q (contE P Q [c]) [c] xs σ) 8 (setRow Q.at_ (bslOf σ.next (contG P Q)) (mapK (slotG P [c]) P.ks xs)) (stRow P Q (blkG P [c]) (contG P Q) σ)) = true
  | d :: l, h, c, hc => by
    simp only [unitsR, Bool.and_eq_true] at h
    rcases List.mem_cons.1 hc with rfl | hc
    · exact h.1
    · exact unitsR_at h.2 c hc
theorem isAnyK_some {o : Option Kd} (h : isAnyK o = true) : o = some .any := by
  unfold isAnyK at h
  split at h
  · rfl
  · cases h
set_option maxHeartbeats 1000000 in
/-- A loop over texts that writes into a row. -/
theorem KOK.sweepRow (hjs : sortedB N js = true) (pl : List AV → Store → Option Pl) (q : Pl → List AV → Store → Rw)
    (hb : ∀ s2 fr σ, KOK X N b fr σ (body s2 (js.map fun j => fr.getD j .any) σ) (thenK (fun fr σ => s2 (js.map fun j => fr.getD j .any) σ) k))
    (hx : ∀ s2 fr σ, KOK X N b fr σ (bodyx s2 (js.map fun j => fr.getD j .any) σ) (thenK (fun fr σ => s2 (js.map fun j => fr.getD j .any) σ) failK)) :
    ∀ m fr σ, KOK X N (.loop b) fr σ (sweepR pl q body bodyx m (js.map fun j => fr.getD j .any) σ) k := by
  refine KOK.loopA (u := fun m fr σ => sweepR pl q body bodyx m (js.map fun j => fr.getD j .any) σ) (fun _ _ => rfl) ?_
  intro m fr σ K g a w hN ht hf hs hG ih
  have plain : (body (sweepR pl q body bodyx m) (js.map fun j => fr.getD j .any) σ).sat K → LO X N b k K g a w :=
    fun ht => LO.step (hb (sweepR pl q body bodyx m) fr σ) hN ht hf hs hG fun fr' σ' g' a' w' h1 h2 h3 h4 h5 _ => ih fr' σ' g' a' w' h1 h2 h3 h4 h5
  change (sweepR pl q body bodyx (m + 1) (js.map fun j => fr.getD j .any) σ).sat K at ht
  unfold sweepR at ht
  generalize hxs : (js.map fun j => fr.getD j .any) = xs at ht plain
  split at ht
  · exact plain ht
  rename_i P _
  generalize q P xs (weakQ P (q P xs σ) σ) = Q at ht
  obtain ⟨g4, hs4, hE4⟩ := weakQ_sim hs P (q P xs σ)
  unfold stepR at ht
  cases hc : sweepOkR bodyx P Q xs (weakQ P (q P xs σ) σ) with
  | false => rw [hc, cond_false] at ht; exact plain ht
  | true =>
  rw [hc, cond_true] at ht
  generalize weakQ P (q P xs σ) σ = τ at ht hc hs4
  suffices main : ∀ (g : Ghost) (σ : Store), FR g fr a → Sim g σ w → GR X g → sweepOkR bodyx P Q xs σ = true →
      (sweepR pl q body bodyx m (setRow Q.at_ (bslOf σ.next (contZ P Q)) (mapK (slotZ P) P.ks xs)) (stRow P Q (blkZ P) (contZ P Q) σ)).sat K → LO X N b k K g a w by
    have key := main g4 τ (hf.mono hE4.le) hs4 (Ghost.GR_mono hG hE4.le) hc ht
    exact fun B k' cs => let ⟨e, a'', w'', q, ar⟩ := key B k' cs; ⟨e, a'', w'', q.trans hE4, ar⟩
  clear hc ht hs4 hE4 plain hf hs hG
  intro g σ hf hs hG hc ht
  simp only [sweepOkR, Bool.and_eq_true] at hc
  obtain ⟨⟨⟨⟨⟨⟨⟨⟨c1, c2⟩, c3⟩, c4⟩, c5⟩, c8⟩, c6⟩, c9⟩, c7⟩ := hc
  have c1 : P.m < 16 := by simpa [Nat.blt_eq] using c1
  have c2 : P.B < P.B1 := by simpa [Nat.blt_eq] using c2
  have c3 := Nat.eq_of_beq_eq_true c3
  have hxv : ∀ x ∈ xs, ∃ v, VR g x v := by
    intro x hx
    rw [← hxs] at hx
    obtain ⟨j, _, rfl⟩ := List.mem_map.1 hx
    rcases Nat.lt_or_ge j fr.length with hj | hj
    · obtain ⟨v, _, h⟩ := hf.vrs.get j (fr.getD j .any) (by rw [List.getD_eq_getElem?_getD, List.getElem?_eq_getElem hj]; rfl)
      exact ⟨v, h⟩
    · rw [List.getD_eq_getElem?_getD, List.getElem?_eq_none hj]
      exact ⟨.bool true, .any _⟩
  have hnx : g.next = σ.next := hs.next
  have hxb : ∀ x ∈ xs, belowA σ.next x = true := by
    intro x hx
    obtain ⟨v, hv⟩ := hxv x hx
    have := belowA_of hs hv
    rwa [hnx] at this
  have hbv : ∀ i b, P.sb = some i → σ.get i = some b → blkOk P b = true ∧ ∃ n o, BR g n b o := by
    intro i b hi hbg
    obtain ⟨b', n, o, _, _, h3⟩ := hs.blk i b hbg
    refine ⟨?_, n, o, h3⟩
    simp only [sbOk, hi, hbg] at c8
    exact c8
  have hsv0 : ∀ x ∈ sbVals P σ, ∃ v, VR g x v := by
    intro x hx
    unfold sbVals at hx
    split at hx
    · cases hx
    · rename_i i hi
      split at hx
      · rename_i e cs hg
        obtain ⟨_, n, o, l, r, _, _, h3, _⟩ := hbv i _ hi hg
        exact VRs_mem h3 x hx
      · rename_i l d ts hg
        obtain ⟨_, n, o, q, _, h2, _⟩ := hbv i _ hi hg
        rcases List.mem_cons.1 hx with rfl | hx
        · exact ⟨_, .sstr _ h2⟩
        · cases hx
      · rename_i e l hg
        obtain ⟨_, n, o, vs, rest, _, _, h3⟩ := hbv i _ hi hg
        exact rowWs_ok h3 x hx
      · cases hx
  obtain ⟨d1, d2⟩ := hasWord_ok c4 (fun x hx => by
    rcases List.mem_append.1 hx with h | h
    · exact hxv x h
    · exact hsv0 x h) c1
  have hP : PlOk g P := ⟨c1, c2, c3, d1, d2⟩
  have hlen : js.length = xs.length := by rw [← hxs, List.length_map]
  have hml : ∀ f p x, js.length = (setRow p x (mapK f P.ks xs)).length := fun f p x => by rw [setRow_length, mapK_length c5, hlen]
  obtain ⟨S, hS⟩ : ∃ S, g.bv P.B = S := ⟨_, rfl⟩
  have hcl : ∀ c ∈ S, c ∈ clsT (P.B1 % 16) := by rw [c3, ← hS]; exact g.bok P.B
  -- the row
  generalize hx0 : rowVal P Q.at_ xs σ = x0 at c9 c7
  simp only [rowFit, Bool.and_eq_true] at c9
  obtain ⟨⟨⟨⟨⟨⟨⟨f1, f2⟩, f3⟩, f4⟩, f5⟩, f8⟩, f6⟩, f7⟩ := c9
  have f3 : Q.m < 16 := by simpa [Nat.blt_eq] using f3
  have f5 : σ.next ≤ 1000000000 := by simpa [Nat.ble_eq] using f5
  have hrow : (Nat.blt Q.at_ 100 = true → ∀ y, xs[Q.at_]? = some y → y = x0) ∧ (Nat.blt Q.at_ 100 = false → ∀ id e cs, P.sb = some id → σ.get id = some (.cells e cs) → ∀ y, cs[Q.at_ - 100]? = some y → y = x0) ∧ ∃ v, VR g x0 v := by
    refine ⟨fun hp y hy => ?_, fun hp id e cs h1 h2 y hy => ?_, ?_⟩
    · rw [← hx0]; unfold rowVal; rw [hp, cond_true, List.getD_eq_getElem?_getD, hy]; rfl
    · rw [← hx0]; unfold rowVal; rw [hp, cond_false, h1]; simp only [h2]; rw [List.getD_eq_getElem?_getD, hy]; rfl
    · rw [← hx0]
      unfold rowVal
      cases hp : Nat.blt Q.at_ 100 with
      | true =>
        rw [cond_true, List.getD_eq_getElem?_getD]
        cases hy : xs[Q.at_]? with
        | none => exact ⟨.bool true, .any _⟩
        | some y => exact hxv y (List.mem_of_getElem? hy)
      | false =>
        rw [cond_false]
        split
        · rename_i id hid
          split
          · rename_i e cs hg
            rw [List.getD_eq_getElem?_getD]
            cases hy : cs[Q.at_ - 100]? with
            | none => exact ⟨.bool true, .any _⟩
            | some y =>
              obtain ⟨_, n, o, l, r, _, _, h3, _⟩ := hbv id _ hid hg
              exact VRs_mem h3 y (List.mem_of_getElem? hy)
          · exact ⟨.bool true, .any _⟩
        · exact ⟨.bool true, .any _⟩
  obtain ⟨hr1, hr2, v0, hv0⟩ := hrow
  have hold : SegsOK g.sv Q.old := by
    split at f1
    case h_2 => cases f1
    rename_i l hl
    have := segsBeq_eq f1
    subst this
    unfold rowOld at hl
    split at hl
    · injection hl with hl
      rw [← hl]; trivial
    · obtain ⟨_, _, _, _, _, _, _, _, _, h, _⟩ := rowHeld_sound hs hv0 hl
      exact h
  have hσb : ∀ i bl, σ.get i = some bl → i < σ.next := by
    intro i bl h
    obtain ⟨b', n, o, hp, _⟩ := hs.blk i bl h
    have := (hs.lt _ _ _ hp).1
    rwa [hnx] at this
  -- one byte
  have unit : ∀ p c r, p ++ c :: r = S → ∀ C : List Seg, (∀ g4 : Ghost, (∀ k, k < 16 * P.B1 → g4.sv k = g.sv k) → (∀ m, m < 16 → g4.sv (16 * P.B1 + m) = imgL m p) → SegsOK g4.sv C ∧ den g4.sv C = den g.sv Q.old ++ imgL Q.m (p ++ [c])) → ∀ g2 a2 w2 fr3 St3, Ext0 g g2 w w2 → g2.bv = g.bv → GR X g2 → ∀ hu hr, fr3.length = N → FR (g2.re P.B1 p r hu hr) fr3 a2 → Sim (g2.re P.B1 p r hu hr) St3 w2 →
      isOk (stepsK bodyx (mtW P Q C [c] xs σ) 8 (js.map fun j => fr3.getD j .any) St3) = true →
      (∀ gN a4 w4, FR gN (frS 0 N (js.zip (setRow Q.at_ (bslOf σ.next (contW g.sv Q (p ++ [c]))) (mapK (slotW g.sv P (p ++ [c])) P.ks xs)))) a4 → gN.bv = g.bv → Sim gN (stRow P Q (blkW g.sv P (p ++ [c])) (contW g.sv Q (p ++ [c])) σ) w4 → GR X gN → Ext g gN w w4 → Loops X.P b (Meets g w fun r => r.2.1.length = N ∧ (k r.1 r.2.1 r.2.2).sat K) a4 w4) →
      Loops X.P b (Meets g w fun r => r.2.1.length = N ∧ (k r.1 r.2.1 r.2.2).sat K) a2 w2 := by
    intro p c r hp C hC g2 a2 w2 fr3 St3 hE2 hb2 hG2 hu hr hN3 hf3 hs3 hok hnext
    have hp' : g.bv P.B = p ++ [c] ++ r := by rw [hS, ← hp]; simp
    have hGG : GR X (g2.re P.B1 p r hu hr) := hG2
    refine steps_ok hx 8 fr3 St3 (g2.re P.B1 p r hu hr) a2 w2 hN3 (isOk_sat hok) hf3 hs3 hGG ?_
    intro fr4 τ0 g40 a4 w4 hN4 hm4 hf40 hs40 hE40
    obtain ⟨g4, hs4, hE41⟩ := weakQ_sim hs40 P Q
    have hf4 := hf40.mono hE41.le
    have hE4 := hE40.trans hE41
    have hm4 : mtR P Q C [c] xs σ (js.map fun j => fr4.getD j .any) (weakQ P Q τ0) = true := hm4
    generalize weakQ P Q τ0 = τ at hm4 hs4
    have hbv4 : g4.bv = (g2.re P.B1 p r hu hr).bv := hE4.le.bv
    obtain ⟨a0, a1, _, _, _⟩ := facts_at (g4 := g4) hP hp' hb2 hu hr hbv4
    obtain ⟨e1, e2⟩ := hC g4 a0 a1
    simp only [mtR, Bool.and_eq_true] at hm4
    obtain ⟨⟨⟨m1, m2⟩, m3⟩, m4⟩ := hm4
    generalize hyr : rowVal P Q.at_ (js.map fun j => fr4.getD j .any) τ = yr at m2
    split at m2
    case h_2 => cases m2
    rename_i r' cc ts
    simp only [Bool.and_eq_true] at m2
    obtain ⟨mr, m2⟩ := m2
    have mr : σ.next ≤ r' := by simpa [Nat.ble_eq] using mr
    split at m2
    case h_2 => cases m2
    rename_i e' l' hgr
    simp only [Bool.and_eq_true] at m2
    obtain ⟨⟨n1, n2⟩, n3⟩ := m2
    have n1 := Nat.eq_of_beq_eq_true n1
    subst n1
    have hE0 : Ext0 g g4 w w4 := hE2.trans ⟨hE4.le.next, hE4.le.π, hE4.le.I, hE4.le.rv, hE4.os, hE4.tape, hE4.output, hE4.size, hE4.keep, hE4.old⟩
    have hal : Alike2 σ.next (16 * P.B1) g4 (g4.num g σ.next r') := num_alike a0
    have hal0 : Alike2 σ.next (16 * P.B1) (g4.back g) (g4.num g σ.next r') := ⟨fun _ _ => rfl, Nat.le_succ _, hal.π, hal.I, hal.rv⟩
    have hcW := contW_ok g.sv (g4.num g σ.next r').sv Q (p ++ [c])
    -- the row's value
    have hR : ∀ v, VR g4 (.bsl r' cc ts) v → VR (g4.num g σ.next r') (bslOf σ.next (contW g.sv Q (p ++ [c]))) v := by
      intro v hv
      refine bsl_move hv hcW.1 ?_ (Nat.lt_succ_self _) (fun b n hπ => by simpa only [Ghost.num, Nat.lt_irrefl, if_false, if_true] using hπ)
      have hT : TsOK g4.sv ts := by cases hv; assumption
      obtain ⟨s1, s2⟩ := segLen_ok e1
      have := uvSame_ok n3 (VR.lin cc ts hT) (VR.lin _ _ s1)
      injection this with _ this
      rw [this, ← s2, e2, hcW.2]
    have slot : ∀ k x y, kdOk P k x = true → x ∈ xs ∨ belowA σ.next x = true ∧ (∃ v, VR g x v) → kdSame k y (slotE P [c] k x) = true → ∀ v, VR g4 y v → VR (g4.num g σ.next r') (slotW g.sv P (p ++ [c]) k x) v := by
      intro k x y hk hx hkd v hv
      have hx2 : belowA σ.next x = true ∧ ∃ v, VR g x v := by
        rcases hx with hx | hx
        · exact ⟨hxb x hx, hxv x hx⟩
        · exact hx
      obtain ⟨hxb, v1, hv1⟩ := hx2
      have := slot_out hP hp' hk hv1 hb2 hu hr hbv4 hv hkd
      exact this.move hal0 (slotW_below hk hxb) (slotW_lt hk)
    obtain ⟨hSim, hExt⟩ := move_sim hs hs4 hE0 mr (T := stRow P Q (blkW g.sv P (p ++ [c])) (contW g.sv Q (p ++ [c])) σ) stRow_next (by
      intro i bl hg
      rcases stRow_get hs.fresh hg with ⟨rfl, rfl⟩ | ⟨hne, hg⟩
      · refine .inr ⟨rfl, _, hgr, fun n o h => ?_⟩
        obtain ⟨rest, h1, h2, h3⟩ := h
        have e3 := segSame_ok (sv := g4.sv) n2
        rw [e3, e2, ← hcW.2] at h1 h2
        exact ⟨rest, h1, h2, hcW.1⟩
      · obtain ⟨hid, hh⟩ := stBase_get hg
        rcases hh with ⟨h1, h2⟩ | ⟨h1, b0, h2, rfl⟩
        · refine .inl ⟨hσb i bl h2, bl, ptSub_get m4 (stLess_get h2 h1 hid), fun n o h => ?_⟩
          have hbb := blk_below hs h2
          rw [hnx] at hbb
          exact h.move hal hbb (ptLt_get c6 h2)
        · simp only [h1] at m3
          split at m3
          case h_2 => cases m3
          rename_i b4 b0' hg4 hg0
          rw [h2] at hg0
          cases hg0
          refine .inl ⟨hσb i _ h2, b4, hg4, fun n o h => ?_⟩
          obtain ⟨hok, n0, o0, hbr⟩ := hbv i _ h1 h2
          have hbb := blk_below hs h2
          rw [hnx] at hbb
          cases b0 with
          | cells e cs =>
            obtain ⟨lv, rv, _, _, hvs, _⟩ := hbr
            cases b4 <;> simp only [blkE, blkSame, Bool.and_eq_true, Bool.false_eq_true] at m3
            rename_i e5 cs4
            obtain ⟨k1, k2⟩ := m3
            have := Nat.eq_of_beq_eq_true k1
            subst this
            refine BR_map (setCellR (all2_end hok k2 fun k x y hk hx hkd => slot k x y hk (.inr ⟨belowL_mem hbb x hx, VRs_mem hvs x hx⟩) hkd) ?_) h
            intro hp100 y hy
            have : y = .bsl r' cc ts := by
              rw [← hyr]; unfold rowVal; rw [hp100, cond_false, h1]; simp only [hg4]; rw [List.getD_eq_getElem?_getD, hy]; rfl
            rw [this]
            exact hR
          | siter l d ts' =>
            exact blk_out hP hp' hok hbr hb2 hu hr hbv4 h m3
          | iter _ _ => cases hok
          | bytes _ _ => cases hok
          | mp _ _ => cases hok
          | sb _ => cases hok
          | row e l => exact (blk_out hP hp' hok hbr hb2 hu hr hbv4 h m3).move hal0 hbb hok)
    refine hnext (g4.num g σ.next r') a4 w4 ?_ rfl hSim (Ghost.GR_mono hG hExt.le) hExt
    refine hf4.anew hN4 ?_
    refine setRowR (all2_end c5 m1 fun k x y hk hx hkd => slot k x y hk (.inl hx) hkd) ?_
    intro hp100 y hy
    have : y = .bsl r' cc ts := by
      rw [← hyr]; unfold rowVal; rw [hp100, cond_true, List.getD_eq_getElem?_getD, hy]; rfl
    rw [this]
    exact hR
  -- the bytes behind the first one
  have walk : ∀ r p, p ++ r = S → ∀ g2 a2 w2, FR g2 (frS 0 N (js.zip (setRow Q.at_ (bslOf σ.next (contW g.sv Q p)) (mapK (slotW g.sv P p) P.ks xs)))) a2 → g2.bv = g.bv → Sim g2 (stRow P Q (blkW g.sv P p) (contW g.sv Q p) σ) w2 → GR X g2 → Ext g g2 w w2 → Loops X.P b (Meets g w fun r => r.2.1.length = N ∧ (k r.1 r.2.1 r.2.2).sat K) a2 w2 := by
    intro r
    induction r with
    | nil =>
      intro p hp g2 a2 w2 hf2 hb2 hs2 hG2 hE2
      rw [List.append_nil] at hp
      subst hp
      obtain ⟨z1, z2⟩ := contZ_ok (Q := Q) hP f3 hold hb2
      rw [hS] at z2
      have hcW := contW_ok g.sv g2.sv Q p
      have hR : ∀ v, VR g2 (bslOf σ.next (contW g.sv Q p)) v → VR g2 (bslOf σ.next (contZ P Q)) v := by
        intro v hv
        unfold bslOf at hv
        rw [contW_len] at hv
        exact bsl_move hv z1 (by simp only [tval, Int.add_zero]; rw [z2]) (by rw [hs2.next, stRow_next]; omega) (fun _ _ h => h)
      have key := ih (frS 0 N (js.zip (setRow Q.at_ (bslOf σ.next (contZ P Q)) (mapK (slotZ P) P.ks xs)))) (stRow P Q (blkZ P) (contZ P Q) σ) g2 a2 w2 (frS_length _ _ _) ?_ ?_ ?_ hG2
      · exact fun B k' cs => let ⟨e, a'', w'', q, ar⟩ := key B k' cs; ⟨e, a'', w'', q.trans hE2, ar⟩
      · show (sweepR pl q body bodyx m _ _).sat K
        rw [frS_map hjs (hml _ _ _)]; exact ht
      · refine hf2.anew (frS_length _ _ _) ?_
        rw [frS_map hjs (hml _ _ _)]
        refine setRow2 (all2_map c5 fun k x hk hx v hv => ?_) hR
        obtain ⟨v1, hv1⟩ := hxv x hx
        rw [← hS] at hv
        exact slot_fin hP hk hv1 hb2 hv
      · refine Sim.anew (g := g2) (g' := g2) (σ := stRow P Q (blkW g.sv P p) (contW g.sv Q p) σ) rfl rfl rfl (by rw [stRow_next, stRow_next]) ?_ hs2
        intro i bl hg
        rcases stRow_get hs.fresh hg with ⟨rfl, rfl⟩ | ⟨hne, hg⟩
        · refine ⟨_, stRow_new f5, fun n o h => ?_⟩
          obtain ⟨rest, h1, h2, h3⟩ := h
          rw [hcW.2, ← z2] at h1 h2
          exact ⟨rest, h1, h2, z1⟩
        · obtain ⟨hid, hh⟩ := stBase_get hg
          rcases hh with ⟨h1, h2⟩ | ⟨h1, b0, h2, rfl⟩
          · refine ⟨bl, ?_, fun _ _ h => h⟩
            rw [stRow_old hne, stBase_put h2 hid]
            split
            · rename_i id hid2; rw [if_neg (fun e => h1 (by rw [hid2, e]))]
            · rfl
          · obtain ⟨hok, n0, o0, hbr⟩ := hbv i b0 h1 h2
            refine ⟨setBlk Q.at_ (bslOf σ.next (contW g.sv Q p)) (blkW g.sv P p b0), ?_, fun n o h => ?_⟩
            · rw [stRow_old hne, stBase_put h2 hid, h1]; simp
            · rw [← hS] at h
              cases b0 with
              | cells e cs =>
                obtain ⟨lv, rv, _, _, hvs, _⟩ := hbr
                refine BR_map (setCell2 (all2_map hok fun k x hk hx v hv => ?_) (by rw [hS]; exact hR)) h
                obtain ⟨v1, hv1⟩ := VRs_mem hvs x hx
                exact slot_fin hP hk hv1 hb2 hv
              | siter l d ts => exact blk_fin hP hok hbr hb2 h
              | iter _ _ => cases hok
              | bytes _ _ => cases hok
              | mp _ _ => cases hok
              | sb _ => cases hok
              | row e l => exact blk_fin hP hok hbr hb2 h
    | cons c r ihr =>
      intro p hp g2 a2 w2 hf2 hb2 hs2 hG2 hE2
      have hp' : g.bv P.B = p ++ [c] ++ r := by rw [hS, ← hp]; simp
      have hu : ∀ d ∈ p, d ∈ clsT (P.B1 % 16) := fun d hd => hcl d (by rw [← hp]; simp [hd])
      have hr : ∀ d ∈ r, d ∈ clsT (P.B1 % 16) := fun d hd => hcl d (by rw [← hp]; simp [hd])
      have hcc : c ∈ clsT (P.B % 16) := by rw [← c3]; exact hcl c (by rw [← hp]; simp)
      have hun := (unitsR_at c7 c hcc).2
      have hag : Agree (16 * P.B1) g2 (g2.re P.B1 p r hu hr) := re_agree
      obtain ⟨a0, a1, _, _, _⟩ := facts_at (g4 := g2.re P.B1 p r hu hr) hP hp' hb2 hu hr rfl
      obtain ⟨⟨e1, e2⟩, _, _⟩ := contG_ok (Q := Q) hP f3 hold f2 hp' hu a0 a1
      have hcW := contW_ok g.sv g2.sv Q p
      have hR : ∀ v, VR g2 (bslOf σ.next (contW g.sv Q p)) v → VR (g2.re P.B1 p r hu hr) (bslOf σ.next (contG P Q)) v := by
        intro v hv
        unfold bslOf at hv
        rw [contW_len] at hv
        exact bsl_move hv e1 (by simp only [tval, Int.add_zero]; rw [e2]) (by show σ.next < g2.next; rw [hs2.next, stRow_next]; omega) (fun _ _ h => h)
      refine unit p c r hp (contE P Q [c]) (fun g4 a0 a1 => (contG_ok (Q := Q) hP f3 hold f2 hp' hu a0 a1).2) g2 a2 w2 (frS 0 N (js.zip (setRow Q.at_ (bslOf σ.next (contG P Q)) (mapK (slotG P [c]) P.ks xs)))) (stRow P Q (blkG P [c]) (contG P Q) σ) hE2.forget hb2 hG2 hu hr (frS_length _ _ _) ?_ ?_ ?_ (ihr (p ++ [c]) (by rw [← hp]; simp))
      · refine hf2.anew (frS_length _ _ _) ?_
        rw [frS_map hjs (hml _ _ _)]
        refine setRow2 (all2_map c5 fun k x hk hx v hv => ?_) hR
        obtain ⟨v1, hv1⟩ := hxv x hx
        exact slot_in hP hp' hk hv1 hb2 hu hr hv
      · refine Sim.anew (g := g2) (g' := g2.re P.B1 p r hu hr) (σ := stRow P Q (blkW g.sv P p) (contW g.sv Q p) σ) rfl rfl rfl (by rw [stRow_next, stRow_next]) ?_ hs2
        intro i bl hg
        rcases stRow_get hs.fresh hg with ⟨rfl, rfl⟩ | ⟨hne, hg⟩
        · refine ⟨_, stRow_new f5, fun n o h => ?_⟩
          obtain ⟨rest, h1, h2, h3⟩ := h
          rw [hcW.2, ← e2] at h1 h2
          exact ⟨rest, h1, h2, e1⟩
        · obtain ⟨hid, hh⟩ := stBase_get hg
          rcases hh with ⟨h1, h2⟩ | ⟨h1, b0, h2, rfl⟩
          · refine ⟨bl, ?_, fun _ _ h => h.agree hag (ptLt_get c6 h2)⟩
            rw [stRow_old hne, stBase_put h2 hid]
            split
            · rename_i id hid2; rw [if_neg (fun e => h1 (by rw [hid2, e]))]
            · rfl
          · obtain ⟨hok, n0, o0, hbr⟩ := hbv i b0 h1 h2
            refine ⟨setBlk Q.at_ (bslOf σ.next (contW g.sv Q p)) (blkW g.sv P p b0), ?_, fun n o h => ?_⟩
            · rw [stRow_old hne, stBase_put h2 hid, h1]; simp
            · cases b0 with
              | cells e cs =>
                obtain ⟨lv, rv, _, _, hvs, _⟩ := hbr
                refine BR_map (setCell2 (all2_map hok fun k x hk hx v hv => ?_) hR) h
                obtain ⟨v1, hv1⟩ := VRs_mem hvs x hx
                exact slot_in hP hp' hk hv1 hb2 hu hr hv
              | siter l d ts => exact blk_in hP hp' hok hbr hb2 hu hr h
              | iter _ _ => cases hok
              | bytes _ _ => cases hok
              | mp _ _ => cases hok
              | sb _ => cases hok
              | row e l => exact blk_in hP hp' hok hbr hb2 hu hr h
      · rw [frS_map hjs (hml _ _ _)]; exact hun
  -- the first byte
  cases hSc : S with
  | nil =>
    have hnn : ∀ h : x0 = .nils, False := by
      intro h
      subst h
      simp only [Bool.or_false, Nat.ble_eq] at f4
      have h1 := imgL_len P.m S
      rw [hS] at d1
      rw [hSc] at h1 d1
      simp at h1
      rw [h1] at d1
      simp at d1
      omega
    obtain ⟨i0, hid0, hri, hsbne⟩ : ∃ i, Q.id0 = some i ∧ rowId x0 = i ∧ P.sb ≠ some i := by
      split at f6
      · exact (hnn rfl).elim
      · split at f6
        case h_2 => cases f6
        rename_i i hi
        simp only [Bool.and_eq_true] at f6
        refine ⟨i, hi, (Nat.eq_of_beq_eq_true f6.1).symm, fun e => ?_⟩
        have k7 := f6.2
        rw [e] at k7
        simp at k7
    have hheld : rowHeld σ Q.e x0 = some Q.old := by
      split at f1
      case h_2 => cases f1
      rename_i l hl
      have e := segsBeq_eq f1
      subst e
      unfold rowOld at hl
      split at hl
      · exact (hnn rfl).elim
      · exact hl
    have hnew0 : ((σ.kill i0).new (.bytes Q.e Q.old)).get σ.next = some (.bytes Q.e Q.old) := ins_getN 64 (σ.kill i0).t σ.next _ (by omega)
    obtain ⟨g', q1, q2, q3⟩ := weak_sim hs hv0 hheld (by rw [hri]; exact ⟨_, hnew0⟩)
    rw [hri] at q1
    have hcW := contW_ok g.sv g'.sv Q []
    have hold' : SegsOK g'.sv Q.old := by rw [q2.le.sv]; exact hold
    have hden : den g'.sv Q.old = den g'.sv (contW g.sv Q []) := by rw [hcW.2, q2.le.sv]; simp [imgL]
    have hlt : σ.next < g'.next := by rw [q1.next]; show σ.next < (σ.kill i0).next + 1; exact Nat.lt_succ_self _
    have hR : ∀ v, VR g x0 v → VR g' (bslOf σ.next (contW g.sv Q [])) v := by
      intro v hv
      have h1 := q3 v hv
      unfold bslOf at h1
      exact bsl_move h1 hcW.1 (by rw [← hden]; exact (segLen_ok hold').2.symm) hlt (fun _ _ h => h)
    have hgoal := walk [] [] (by rw [hSc]; rfl) g' a w ?_ q2.le.bv ?_ (Ghost.GR_mono hG q2.le) q2
    · exact hgoal
    · refine hf.anew hN ?_
      rw [hxs]
      refine setRowR (all2_start c5 fun k x hk hx v hv => (slot_start hk hv).mono q2.le) ?_
      intro hp100 y hy
      rw [hr1 hp100 y hy]
      exact hR
    · refine ⟨by rw [stRow_next]; exact q1.next, fun i bl hg => ?_, q1.inj, q1.imm, q1.apart, q1.lt⟩
      rcases stRow_get hs.fresh hg with ⟨rfl, rfl⟩ | ⟨hne, hg⟩
      · obtain ⟨b', n', o', k1, k2, rest, k3, k4, k5⟩ := q1.blk _ _ hnew0
        exact ⟨b', n', o', k1, k2, rest, by rw [← hden]; exact k3, by rw [← hden]; exact k4, hcW.1⟩
      · obtain ⟨hid, hh⟩ := stBase_get hg
        have hii : i ≠ i0 := fun e => hid (by rw [hid0, e])
        have hgi : ∀ b0, σ.get i = some b0 → ((σ.kill i0).new (.bytes Q.e Q.old)).get i = some b0 := fun b0 h => (PT.get_ins_ne 64 _ _ _ _ hne).trans ((PT.get_upd_ne _ _ _ _ hii).trans h)
        rcases hh with ⟨h1, h2⟩ | ⟨h1, b0, h2, rfl⟩
        · exact q1.blk i bl (hgi _ h2)
        · obtain ⟨bb, nn, oo, k1, k2, k3⟩ := q1.blk i b0 (hgi _ h2)
          obtain ⟨bb2, nn2, oo2, j1, j2, j3⟩ := hs.blk i b0 h2
          have k4 := q2.le.π i _ (hs.lt _ _ _ j1).1 k1
          rw [j1] at k4; cases k4
          refine ⟨_, _, _, k1, j2, ?_⟩
          obtain ⟨hok, _⟩ := hbv i b0 h1 h2
          cases b0 with
          | cells e cs =>
            refine BR_map (setCellR (all2_start hok fun k x hk hx v hv => (slot_start hk hv).mono q2.le) ?_) j3
            intro hp100 y hy
            rw [hr2 hp100 i e cs h1 h2 y hy]
            exact hR
          | siter l d ts => exact (blk_start hok j3).mono q2.le
          | iter _ _ => cases hok
          | bytes _ _ => cases hok
          | mp _ _ => cases hok
          | sb _ => cases hok
          | row e l => exact (blk_start hok j3).mono q2.le
  | cons c r =>
    have hp : [] ++ c :: r = S := hSc.symm
    have hp' : g.bv P.B = [] ++ [c] ++ r := by rw [hS, hSc]; rfl
    have hu : ∀ d ∈ ([] : List UInt8), d ∈ clsT (P.B1 % 16) := fun _ h => by cases h
    have hr : ∀ d ∈ r, d ∈ clsT (P.B1 % 16) := fun d hd => hcl d (by rw [hSc]; simp [hd])
    have hcc : c ∈ clsT (P.B % 16) := by rw [← c3]; exact hcl c (by rw [hSc]; simp)
    have hun := (unitsR_at c7 c hcc).1
    have hag : Agree (16 * P.B1) g (g.re P.B1 [] r hu hr) := re_agree
    have hR : ∀ v, VR g x0 v → VR (g.re P.B1 [] r hu hr) x0 v := fun v hv => hv.agree hag f8
    refine unit [] c r hp (contS Q [c]) (fun g4 a0 _ => by
      obtain ⟨q1, q2⟩ := putB_ok (sv := g4.sv) (r := imgL Q.m [c]) (l := []) trivial
      refine ⟨SegsOK_append (SegsOK_agree a0 f2 hold) q1, ?_⟩
      unfold contS
      rw [den_append, den_agree a0 f2, q2]
      simp only [den, List.append_nil, List.nil_append]) g a w (frS 0 N (js.zip (setRow Q.at_ x0 (mapK (slotG P [c]) P.ks xs)))) (stM P (fun b => setBlk Q.at_ x0 (blkG P [c] b)) σ) (Ext.refl g w).forget rfl hG hu hr (frS_length _ _ _) ?_ ?_ ?_ (walk r [c] (by rw [hSc]; rfl))
    · refine hf.anew hN ?_
      rw [hxs]
      refine setRowR (all2_start c5 fun k x hk hx v hv => slot_in hP hp' hk hv rfl hu hr (slot_start hk hv)) ?_
      intro hp100 y hy
      rw [hr1 hp100 y hy]
      exact hR
    · refine Sim.anew (g := g) (g' := g.re P.B1 [] r hu hr) (σ := σ) rfl rfl rfl stM_next ?_ hs
      intro i bl hg
      rcases stM_get hg with ⟨h1, h2⟩ | ⟨h1, b0, h2, rfl⟩
      · exact ⟨bl, h2, fun _ _ h => h.agree hag (ptLt_get c6 h2)⟩
      · obtain ⟨hok, n0, o0, hbr⟩ := hbv i b0 h1 h2
        refine ⟨b0, h2, fun n o h => ?_⟩
        cases b0 with
        | cells e cs =>
          refine BR_map (setCellR (all2_start hok fun k x hk hx v hv => slot_in hP hp' hk hv rfl hu hr (slot_start hk hv)) ?_) h
          intro hp100 y hy
          rw [hr2 hp100 i e cs h1 h2 y hy]
          exact hR
        | siter l d ts => exact blk_in hP hp' hok hbr rfl hu hr (blk_start hok h)
        | iter _ _ => cases hok
        | bytes _ _ => cases hok
        | mp _ _ => cases hok
        | sb _ => cases hok
        | row e l => exact blk_in hP hp' hok hbr rfl hu hr (blk_start hok h)
    · rw [frS_map hjs (hml _ _ _)]; exact hun
end Go.AM
