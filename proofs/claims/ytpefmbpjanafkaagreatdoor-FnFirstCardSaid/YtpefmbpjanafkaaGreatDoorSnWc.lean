/- Sweeps: a loop goes over a word. -/
import Derived.Test.YtpefmbpjanafkaaGreatDoorSnWb
import Derived.Test.YtpefmbpjanafkaaGreatDoorSnW
set_option linter.unusedVariables false
set_option linter.unusedSimpArgs false
namespace Go.AM
noncomputable def sortedB (N : Nat) : List Nat → Bool
  | [] => true
  | [j] => Nat.blt j N
  | i :: j :: l => Nat.blt i j && sortedB N (j :: l)
noncomputable def All2 (R : AV → AV → Prop) : List AV → List AV → Prop
  | x :: xs, y :: ys => R x y ∧ All2 R xs ys
  | [], [] => True
  | _, _ => False
theorem sortedB_lt {N : Nat} : ∀ {l : List Nat} {j : Nat}, sortedB N (j :: l) = true → j < N ∧ ∀ i ∈ l, j < i ∧ i < N
  | [], j, h => ⟨by simpa [sortedB, Nat.blt_eq] using h, fun _ h => by cases h⟩
  | i :: l, j, h => by
    simp only [sortedB, Bool.and_eq_true, Nat.blt_eq] at h
    obtain ⟨h1, h2⟩ := sortedB_lt h.2
    refine ⟨by omega, fun q hq => ?_⟩
    rcases List.mem_cons.1 hq with rfl | hq
    · exact ⟨h.1, h1⟩
    · have := h2 q hq; omega
theorem sortedB_tail {N : Nat} : ∀ {l : List Nat} {j : Nat}, sortedB N (j :: l) = true → sortedB N l = true
  | [], _, _ => rfl
  | i :: l, j, h => by
    simp only [sortedB, Bool.and_eq_true] at h
    exact h.2
theorem frS_getD : ∀ (n i : Nat) (js : List Nat) (zs : List AV), sortedB (i + n) js = true → (∀ j ∈ js, i ≤ j) → js.length = zs.length → js.map (fun j => (frS i n (js.zip zs)).getD (j - i) .any) = zs
  | _, _, [], zs, _, _, hl => by
    cases zs with
    | nil => rfl
    | cons _ _ => simp at hl
  | 0, i, j :: js, _, hs, hi, _ => by
    have := (sortedB_lt hs).1
    have := hi j (List.mem_cons_self ..)
    omega
  | n + 1, i, j :: js, zs, hs, hi, hl => by
    cases zs with
    | nil => simp at hl
    | cons z zs =>
    have hlt := (sortedB_lt hs).2
    have hij := hi j (List.mem_cons_self ..)
    rw [List.zip_cons_cons, frS]
    cases hb : Nat.beq i j with
    | true =>
      have e := Nat.eq_of_beq_eq_true hb
      subst e
      have ih := frS_getD n (i + 1) js zs (by rw [show i + 1 + n = i + (n + 1) by omega]; exact sortedB_tail hs) (fun q hq => (hlt q hq).1) (by simpa using hl)
      simp only [List.map_cons, Nat.sub_self, List.getD_cons_zero, List.cons.injEq, true_and]
      refine Eq.trans (List.map_congr_left fun q hq => ?_) ih
      rw [show q - i = (q - (i + 1)) + 1 by have := (hlt q hq).1; omega, List.getD_cons_succ]
    | false =>
      have hne : i ≠ j := fun e => by rw [e, Nat.beq_refl] at hb; cases hb
      have ih := frS_getD n (i + 1) (j :: js) (z :: zs) (by rw [show i + 1 + n = i + (n + 1) by omega]; exact hs) (fun q hq => by
        rcases List.mem_cons.1 hq with rfl | hq
        · omega
        · have := (hlt q hq).1; omega) hl
      refine Eq.trans (List.map_congr_left fun q hq => ?_) ih
      have : i < q := by
        rcases List.mem_cons.1 hq with rfl | hq
        · omega
        · have := (hlt q hq).1; omega
      rw [show q - i = (q - (i + 1)) + 1 by omega]
      simp only [List.getD_cons_succ, List.zip_cons_cons]
theorem VRs_frZ {g g' : Ghost} {fr : List AV} {vs : List Value} (h : VRs g fr vs) (full : List AV) (i : Nat) (hfull : ∀ n, fr[n]? = full[i + n]?) (js : List Nat) (zs : List AV) (hz : All2 (fun x z => ∀ v, VR g x v → VR g' z v) (js.map fun j => full.getD j .any) zs) : VRs g' (frS i fr.length (js.zip zs)) vs := by
  induction fr generalizing vs i js zs with
  | nil => cases h; exact .nil
  | cons v fr ih =>
    cases h with
    | cons hv ht =>
      have hs : ∀ n, fr[n]? = full[i + 1 + n]? := fun n => by
        have := hfull (n + 1)
        rw [List.getElem?_cons_succ] at this
        rw [this]; congr 1; omega
      cases js with
      | nil => exact .cons (.any _) (ih ht (i + 1) hs [] zs (by cases zs with | nil => trivial | cons _ _ => exact hz.elim))
      | cons j js =>
        cases zs with
        | nil => exact hz.elim
        | cons z zs =>
        show VRs g' (match Nat.beq i j with | true => z :: frS (i + 1) fr.length (js.zip zs) | false => .any :: frS (i + 1) fr.length ((j, z) :: js.zip zs)) _
        cases hj : Nat.beq i j with
        | true =>
          have hij := Nat.eq_of_beq_eq_true hj
          subst hij
          have e : full.getD i .any = v := by
            have := hfull 0
            simp only [List.getElem?_cons_zero, Nat.add_zero] at this
            simp [List.getD, ← this]
          have h1 := hz.1
          simp only [e] at h1
          exact .cons (h1 _ hv) (ih ht (i + 1) hs js zs hz.2)
        | false => exact .cons (.any _) (ih ht (i + 1) hs (j :: js) (z :: zs) hz)
theorem All2.length {R : AV → AV → Prop} : ∀ {xs ys : List AV}, All2 R xs ys → xs.length = ys.length
  | [], [], _ => rfl
  | _ :: xs, _ :: ys, h => by simp [All2.length h.2]
/-- A frame told anew. -/
theorem FR.anew {g g' : Ghost} {fr : List AV} {a : Act} {N : Nat} {js : List Nat} {zs : List AV} (h : FR g fr a) (hN : fr.length = N) (hz : All2 (fun x z => ∀ v, VR g x v → VR g' z v) (js.map fun j => fr.getD j .any) zs) : FR g' (frS 0 N (js.zip zs)) a := by
  refine ⟨?_, h.defers⟩
  rw [← hN]
  exact VRs_frZ h.vrs fr 0 (fun n => by rw [Nat.zero_add]) js zs hz
theorem frS_map {N : Nat} {js : List Nat} {zs : List AV} (hj : sortedB N js = true) (hl : js.length = zs.length) : js.map (fun j => (frS 0 N (js.zip zs)).getD j .any) = zs :=
  frS_getD N 0 js zs (by rw [Nat.zero_add]; exact hj) (fun _ _ => Nat.zero_le _) hl

theorem rowWs_ok {g : Ghost} : ∀ {l : List RSeg} {vs : List Value}, RR g l vs → ∀ x ∈ rowWs l, ∃ v, VR g x v
  | [], _, _, x, hx => by cases hx
  | .c _ :: l, _, ⟨_, _, _, _, h3⟩, x, hx => rowWs_ok (l := l) h3 x hx
  | .r B m T lo hi :: l, _, ⟨us, r, h1, ⟨h2, h3, h4⟩, h5⟩, x, hx => by
    rcases List.mem_cons.1 hx with rfl | hx
    · have hl := h2.length
      exact ⟨_, .sstr _ ⟨⟨by rw [← hl]; exact h3, by rw [← hl]; exact h4, by rw [sv_base]; exact g.bok B⟩, trivial⟩⟩
    · exact rowWs_ok h5 x hx
section
variable {P : Pl} {g : Ghost}
theorem all2_same {R : AV → AV → Prop} : ∀ {xs : List AV}, ltWs (16 * P.B1) xs = true → (∀ x, ltW (16 * P.B1) x = true → x ∈ xs → R x x) → All2 R xs xs
  | [], _, _ => trivial
  | x :: xs, h, hR => by
    simp only [ltWs, Bool.and_eq_true] at h
    exact ⟨hR x h.1 (List.mem_cons_self ..), all2_same h.2 fun x hk hx => hR x hk (List.mem_cons_of_mem _ hx)⟩
theorem all2_beqs {R : AV → AV → Prop} : ∀ {ys xs : List AV}, ltWs (16 * P.B1) xs = true → AV.beqs ys xs = true → (∀ x y, ltW (16 * P.B1) x = true → x ∈ xs → AV.beq y x = true → R y x) → All2 R ys xs
  | [], [], _, _, _ => trivial
  | y :: ys, x :: xs, h, he, hR => by
    simp only [ltWs, Bool.and_eq_true] at h
    simp only [AV.beqs, Bool.and_eq_true] at he
    exact ⟨hR x y h.1 (List.mem_cons_self ..) he.1, all2_beqs h.2 he.2 fun x y hk hx => hR x y hk (List.mem_cons_of_mem _ hx)⟩
  | [], _ :: _, _, he, _ => by simp [AV.beqs] at he
  | _ :: _, [], _, he, _ => by simp [AV.beqs] at he
theorem mapK_nil {f : Kd → AV → AV} {xs : List AV} : mapK f [] xs = xs := by cases xs <;> rfl
theorem all2_startF {f : Kd → AV → AV} {R : AV → AV → Prop} (hf : ∀ x, f .same x = x) : ∀ {ks : List Kd} {xs : List AV}, kdsOk P ks xs = true → (∀ k x, kdOk P k x = true → x ∈ xs → R x (f k x)) → All2 R xs (mapK f ks xs)
  | [], xs, h, hR => by
    rw [mapK_nil]
    have h : ltWs (16 * P.B1) xs = true := by cases xs <;> exact h
    refine all2_same h fun x hk hx => ?_
    have := hR .same x hk hx
    rwa [hf] at this
  | k :: ks, [], h, _ => by cases h
  | k :: ks, x :: xs, h, hR => by
    simp only [kdsOk, Bool.and_eq_true] at h
    exact ⟨hR k x h.1 (List.mem_cons_self ..), all2_startF hf h.2 fun k x hk hx => hR k x hk (List.mem_cons_of_mem _ hx)⟩
theorem all2_mapF {f f' : Kd → AV → AV} {R : AV → AV → Prop} (hf : ∀ x, f .same x = x) (hf' : ∀ x, f' .same x = x) : ∀ {ks : List Kd} {xs : List AV}, kdsOk P ks xs = true → (∀ k x, kdOk P k x = true → x ∈ xs → R (f k x) (f' k x)) → All2 R (mapK f ks xs) (mapK f' ks xs)
  | [], xs, h, hR => by
    rw [mapK_nil, mapK_nil]
    have h : ltWs (16 * P.B1) xs = true := by cases xs <;> exact h
    refine all2_same h fun x hk hx => ?_
    have := hR .same x hk hx
    rwa [hf, hf'] at this
  | k :: ks, [], h, _ => by cases h
  | k :: ks, x :: xs, h, hR => by
    simp only [kdsOk, Bool.and_eq_true] at h
    exact ⟨hR k x h.1 (List.mem_cons_self ..), all2_mapF hf hf' h.2 fun k x hk hx => hR k x hk (List.mem_cons_of_mem _ hx)⟩
theorem all2_endF {f f' : Kd → AV → AV} {R : AV → AV → Prop} (hf : ∀ x, f .same x = x) (hf' : ∀ x, f' .same x = x) : ∀ {ks : List Kd} {xs ys : List AV}, kdsOk P ks xs = true → allSame ks ys (mapK f ks xs) = true → (∀ k x y, kdOk P k x = true → x ∈ xs → kdSame k y (f k x) = true → R y (f' k x)) → All2 R ys (mapK f' ks xs)
  | [], xs, ys, h, he, hR => by
    rw [mapK_nil] at he ⊢
    have h : ltWs (16 * P.B1) xs = true := by cases xs <;> exact h
    have he : AV.beqs ys xs = true := by cases ys <;> cases xs <;> exact he
    refine all2_beqs h he fun x y hk hx hxy => ?_
    have := hR .same x y hk hx (by rw [hf]; exact hxy)
    rwa [hf'] at this
  | k :: ks, [], _, h, _, _ => by cases h
  | k :: ks, x :: xs, y :: ys, h, he, hR => by
    simp only [kdsOk, Bool.and_eq_true] at h
    simp only [mapK, allSame, Bool.and_eq_true] at he
    exact ⟨hR k x y h.1 (List.mem_cons_self ..) he.1, all2_endF hf hf' h.2 he.2 fun k x y hk hx => hR k x y hk (List.mem_cons_of_mem _ hx)⟩
  | _ :: _, _ :: _, [], _, he, _ => by simp [allSame, mapK] at he
theorem all2_start {f : Kd → AV → AV} {R : AV → AV → Prop} {ks : List Kd} {xs : List AV} (h : kdsOk P ks xs = true) (hR : ∀ k x, kdOk P k x = true → x ∈ xs → R x (f k x)) (hf : ∀ x, f .same x = x := by intro x; rfl) : All2 R xs (mapK f ks xs) := all2_startF hf h hR
theorem all2_map {f f' : Kd → AV → AV} {R : AV → AV → Prop} {ks : List Kd} {xs : List AV} (h : kdsOk P ks xs = true) (hR : ∀ k x, kdOk P k x = true → x ∈ xs → R (f k x) (f' k x)) (hf : ∀ x, f .same x = x := by intro x; rfl) (hf' : ∀ x, f' .same x = x := by intro x; rfl) : All2 R (mapK f ks xs) (mapK f' ks xs) := all2_mapF hf hf' h hR
theorem all2_end {f f' : Kd → AV → AV} {R : AV → AV → Prop} {ks : List Kd} {xs ys : List AV} (h : kdsOk P ks xs = true) (he : allSame ks ys (mapK f ks xs) = true) (hR : ∀ k x y, kdOk P k x = true → x ∈ xs → kdSame k y (f k x) = true → R y (f' k x)) (hf : ∀ x, f .same x = x := by intro x; rfl) (hf' : ∀ x, f' .same x = x := by intro x; rfl) : All2 R ys (mapK f' ks xs) := all2_endF hf hf' h he hR
theorem mapK_length {f : Kd → AV → AV} : ∀ {ks : List Kd} {xs : List AV}, kdsOk P ks xs = true → (mapK f ks xs).length = xs.length
  | [], xs, _ => by rw [mapK_nil]
  | k :: ks, [], h => by cases h
  | k :: ks, x :: xs, h => by
    simp only [kdsOk, Bool.and_eq_true] at h
    simp [mapK, mapK_length h.2]
theorem hasWord_ok : ∀ {xs : List AV}, hasWord P xs = true → (∀ x ∈ xs, ∃ v, VR g x v) → P.m < 16 → P.lo ≤ (imgL P.m (g.bv P.B)).length ∧ (imgL P.m (g.bv P.B)).length ≤ P.hi
  | x :: r, h, hx, hm => by
    have hr : hasWord P r = true → _ := fun h => hasWord_ok h (fun y hy => hx y (List.mem_cons_of_mem _ hy)) hm
    cases x with
    | sstr l =>
      simp only [hasWord, Bool.or_eq_true] at h
      rcases h with h | h
      · obtain ⟨s, hs, hw⟩ := List.any_eq_true.1 h
        cases s with
        | b _ => cases hw
        | w k cls lo hi =>
          simp only [Bool.and_eq_true] at hw
          obtain ⟨v, hv⟩ := hx _ (List.mem_cons_self ..)
          cases hv with
          | sstr _ hok =>
          have hk := Nat.eq_of_beq_eq_true hw.1.1
          have hlo := Nat.eq_of_beq_eq_true hw.1.2
          have hhi := Nat.eq_of_beq_eq_true hw.2
          subst hk hlo hhi
          have key : ∀ {l : List Seg}, SegsOK g.sv l → .w (16 * P.B + P.m) cls P.lo P.hi ∈ l → P.lo ≤ (g.sv (16 * P.B + P.m)).length ∧ (g.sv (16 * P.B + P.m)).length ≤ P.hi := by
            intro l
            induction l with
            | nil => intro _ h; cases h
            | cons s l ih =>
              intro hok hm
              rcases List.mem_cons.1 hm with e | hm2
              · subst e; exact ⟨hok.1.1, hok.1.2.1⟩
              · cases s with
                | b _ => exact ih hok hm2
                | w _ _ _ _ => exact ih hok.2 hm2
          have := key hok hs
          have e : g.sv (16 * P.B + P.m) = imgL P.m (g.bv P.B) := by
            unfold Ghost.sv
            rw [show (16 * P.B + P.m) / 16 = P.B by omega, show (16 * P.B + P.m) % 16 = P.m by omega]; rfl
          rw [e] at this
          exact this
      · exact hr h
    | _ => exact hr h
end


/-- The text's block when the bytes p are gone over. -/
noncomputable def blkW (sv : Nat → List UInt8) (P : Pl) (p : List UInt8) : Blk → Blk
  | .cells e cs => .cells e (mapK (slotW sv P p) P.cks cs)
  | .siter l n ts => .iter (den sv l) (n + tval sv ts + (imgL P.m p).length).toNat
  | b => b
theorem VRs_all2 {g g' : Ghost} : ∀ {cs ds : List AV} {l : List Value}, All2 (fun x z => ∀ v, VR g x v → VR g' z v) cs ds → VRs g cs l → VRs g' ds l
  | [], [], _, _, h => by cases h; exact .nil
  | _ :: cs, _ :: ds, _, ha, h => by
    cases h with
    | cons h1 h2 => exact .cons (ha.1 _ h1) (VRs_all2 ha.2 h2)
theorem BR_map {g g' : Ghost} {n e : Nat} {cs ds : List AV} {o : Obj} (ha : All2 (fun x z => ∀ v, VR g x v → VR g' z v) cs ds) (h : BR g n (.cells e cs) o) : BR g' n (.cells e ds) o := by
  obtain ⟨l, r, h1, h2, h3, h4⟩ := h
  exact ⟨l, r, h1, h2, VRs_all2 ha h3, h4⟩
theorem VRs_mem {g : Ghost} : ∀ {cs : List AV} {l : List Value}, VRs g cs l → ∀ x ∈ cs, ∃ v, VR g x v
  | _, _, .nil, x, h => by cases h
  | _, _, .cons h1 h2, x, h => by
    rcases List.mem_cons.1 h with rfl | h
    · exact ⟨_, h1⟩
    · exact VRs_mem h2 x h
theorem stM_get {P : Pl} {f : Blk → Blk} {σ : Store} {i : Nat} {bl : Blk} (h : (stM P f σ).get i = some bl) : (P.sb ≠ some i ∧ σ.get i = some bl) ∨ (P.sb = some i ∧ ∃ b, σ.get i = some b ∧ bl = f b) := by
  unfold stM at h
  split at h
  · rename_i hn; exact .inl ⟨fun e => (by rw [hn] at e; cases e), h⟩
  · rename_i id hid
    split at h
    · rename_i b hb
      by_cases e : i = id
      · subst e
        have : (σ.upd i (f b)).get i = some (f b) := PT.get_upd _ _ _ _ hb
        rw [this] at h; cases h
        exact .inr ⟨hid, b, hb, rfl⟩
      · have : (σ.upd id (f b)).get i = σ.get i := PT.get_upd_ne _ _ _ _ e
        rw [this] at h
        exact .inl ⟨fun h2 => (by rw [hid] at h2; cases h2; exact e rfl), h⟩
    · rename_i hb
      exact .inl ⟨fun h2 => (by rw [hid] at h2; cases h2; rw [hb] at h; cases h), h⟩
theorem stM_put {P : Pl} {f : Blk → Blk} {σ : Store} {i : Nat} {b : Blk} (hb : σ.get i = some b) : (stM P f σ).get i = some (match P.sb with | some id => if i = id then f b else b | none => b) := by
  unfold stM
  split
  · rename_i hn; simp only [hn]; exact hb
  · rename_i id hid
    simp only [hid]
    by_cases e : i = id
    · subst e
      rw [hb, if_pos rfl]
      exact PT.get_upd _ _ _ _ hb
    · rw [if_neg e]
      split
      · exact (PT.get_upd_ne _ _ _ _ e).trans hb
      · exact hb
theorem stM_next {P : Pl} {f : Blk → Blk} {σ : Store} : (stM P f σ).next = σ.next := by
  unfold stM
  split
  · rfl
  · split <;> rfl
/-- Blocks told anew. -/
theorem Sim.anew {g g' : Ghost} (hn : g'.next = g.next) (hπ : g'.π = g.π) (hI : g'.I = g.I) {σ σ' : Store} {w : World} (hnx : σ'.next = σ.next) (hb : ∀ i bl, σ'.get i = some bl → ∃ b0, σ.get i = some b0 ∧ ∀ n o, BR g n b0 o → BR g' n bl o) (hs : Sim g σ w) (hrv : g'.rv = g.rv := by rfl) : Sim g' σ' w := by
  have hag : Agree 0 g g' := ⟨fun k h => absurd h (Nat.not_lt_zero k), hn, hπ, hI, hrv⟩
  refine ⟨by rw [hn, hnx]; exact hs.next, ?_, ?_, ?_, ?_, ?_⟩
  · intro id bl hg
    obtain ⟨b0, h0, hbr⟩ := hb id bl hg
    obtain ⟨b, k, o, h1, h2, h3⟩ := hs.blk id b0 h0
    exact ⟨b, k, o, by rw [hπ]; exact h1, h2, hbr _ _ h3⟩
  · rw [hπ]; exact hs.inj
  · intro b cs h
    rw [hI] at h
    obtain ⟨e, k, o, h1, h2⟩ := hs.imm b cs h
    exact ⟨e, k, o, h1, h2.agree hag (g.iok b cs h)⟩
  · intro b cs id k h hp
    rw [hI] at h; rw [hπ] at hp
    exact hs.apart b cs id k h hp
  · intro id b k hp
    rw [hπ] at hp; rw [hn]
    exact hs.lt id b k hp
theorem spC_spell {g : Ghost} {T : Nat} {a : List UInt8} {v : Value} (h : VR g (spC T a) v) : Spell g T v a := by
  cases T with
  | zero => exact .inl ⟨rfl, by cases h; rfl⟩
  | succ T =>
    refine .inr ⟨Nat.succ_ne_zero T, ?_⟩
    cases h with
    | iface _ h1 => cases h1 with
      | ref _ _ b hI => exact ⟨b, rfl, hI⟩
theorem spell_spC {g : Ghost} {T : Nat} {a : List UInt8} {v : Value} (h : Spell g T v a) : VR g (spC T a) v := by
  rcases h with ⟨rfl, rfl⟩ | ⟨h1, b, rfl, h3⟩
  · exact .str a
  · cases T with
    | zero => exact absurd rfl h1
    | succ T => exact .iface _ (.ref _ _ b h3)
theorem spells_row {g : Ghost} {T m : Nat} : ∀ {us : List Value} {s : List UInt8}, Spells g T m us s → RR g (cellsR (s.map fun c => spC T (mapB m c))) us
  | [], [], _ => rfl
  | v :: us, c :: s, ⟨h1, h2⟩ => ⟨v, us, rfl, spell_spC h1, spells_row h2⟩
theorem row_spells {g : Ghost} {T m : Nat} : ∀ {s : List UInt8} {l : List RSeg} {vs : List Value}, RR g (cellsR (s.map fun c => spC T (mapB m c)) ++ l) vs → ∃ us r, vs = us ++ r ∧ Spells g T m us s ∧ RR g l r
  | [], _, vs, h => ⟨[], vs, rfl, trivial, h⟩
  | c :: s, _, _, ⟨x, r, h1, h2, h3⟩ => by
    obtain ⟨us, r', e, h4, h5⟩ := row_spells h3
    exact ⟨x :: us, r', by rw [h1, e]; rfl, ⟨spC_spell h2, h4⟩, h5⟩
theorem Spells.agree {n : Nat} {g g' : Ghost} (h : Agree n g g') {T m : Nat} {us : List Value} {s : List UInt8} (hs : Spells g T m us s) : Spells g' T m us s := hs.mono fun b a hb => by rw [h.I]; exact hb
theorem Spells.join {g : Ghost} {T m : Nat} {a b c : List Value} {s t u : List UInt8} (h1 : Spells g T m a s) (h2 : Spells g T m b t) (h3 : Spells g T m c u) : Spells g T m (a ++ (b ++ c)) (s ++ t ++ u) := by
  rw [List.append_assoc]; exact h1.append (h2.append h3)
section
variable {g : Ghost} {B B1 : Nat} {p r : List UInt8} {c : UInt8}
/-- A row whose run is parted. -/
theorem spRow_in {gi : Ghost} (hb : gi.bv = g.bv) (hs : g.bv B = p ++ [c] ++ r) (hu) (hr) : ∀ {l : List RSeg} {vs : List Value}, ltRow (16 * B1) l = true → RR gi l vs → RR (gi.re B1 p r hu hr) (spRow B B1 [c] l) vs
  | [], _, _, h => h
  | .c v :: l, _, hl, ⟨x, q, h1, h2, h3⟩ => by
    simp only [ltRow, Bool.and_eq_true] at hl
    exact ⟨x, q, h1, h2.agree re_agree hl.1, spRow_in hb hs hu hr hl.2 h3⟩
  | .r B' m T lo hi :: l, _, hl, ⟨us, q, h1, ⟨h2, h3, h4⟩, h5⟩ => by
    simp only [ltRow, Bool.and_eq_true, Nat.blt_eq] at hl
    have ih := spRow_in hb hs hu hr hl.2 h5
    have hag : Agree (16 * B1) gi (gi.re B1 p r hu hr) := re_agree
    show RR _ (cond (Nat.beq B' B) _ _) _
    cases hB : Nat.beq B' B with
    | false => exact ⟨us, q, h1, ⟨by rw [hag.sv _ hl.1]; exact h2.agree hag, h3, h4⟩, ih⟩
    | true =>
      have := Nat.eq_of_beq_eq_true hB
      subst this
      rw [cond_true]
      rw [sv_base, hb, hs] at h2
      have hlen := h2.length
      obtain ⟨u12, u3, e1, k12, k3⟩ := h2.split
      obtain ⟨u1, u2, e2, k1, k2⟩ := k12.split
      subst e2
      subst e1
      subst h1
      have g1 : (gi.re B1 p r hu hr).sv (16 * B1) = p := by
        have := re_sv1 (g := gi) (u := p) (v := r) (hu := hu) (hv := hr) (m := 0) (by omega)
        rw [Nat.add_zero, imgL_zero] at this; exact this
      have g2 : (gi.re B1 p r hu hr).sv (16 * (B1 + 16)) = r := by
        have := re_sv2 (g := gi) (u := p) (v := r) (hu := hu) (hv := hr) (m := 0) (by omega)
        rw [Nat.add_zero, imgL_zero] at this; exact this
      have l1 := k1.length
      have l2 := k2.length
      have l3 := k3.length
      simp only [List.length_append, List.length_cons, List.length_nil] at h4 hlen l2
      refine ⟨u1, u2 ++ (u3 ++ q), by simp only [List.append_assoc], ⟨by rw [g1]; exact k1.agree hag, Nat.zero_le _, by show u1.length ≤ hi - 1; omega⟩, ?_⟩
      refine RR.append (spells_row (k2.agree hag)) ?_
      exact ⟨u3, q, rfl, ⟨by rw [g2]; exact k3.agree hag, Nat.zero_le _, by show u3.length ≤ hi - 1; omega⟩, ih⟩
/-- The parts put together. -/
theorem spRow_out {gi g4 : Ghost} (hb : gi.bv = g.bv) (hs : g.bv B = p ++ [c] ++ r) (hu) (hr) (h4 : g4.bv = (gi.re B1 p r hu hr).bv) : ∀ {l : List RSeg} {vs vs0 : List Value}, ltRow (16 * B1) l = true → RR g l vs0 → RR g4 (spRow B B1 [c] l) vs → RR (g4.back g) l vs
  | [], _, _, _, _, h => h
  | .c v :: l, _, _, hl, ⟨x0, q0, _, _, h30⟩, ⟨x, q, h1, h2, h3⟩ => by
    simp only [ltRow, Bool.and_eq_true] at hl
    have hag : Agree (16 * B1) g4 (g4.back g) := by
      refine ⟨fun k hk => ?_, rfl, rfl, rfl, rfl⟩
      have h5 : (gi.re B1 p r hu hr).sv k = gi.sv k := re_agree.sv k hk
      show g.sv k = g4.sv k
      have h6 : g4.sv k = (gi.re B1 p r hu hr).sv k := by unfold Ghost.sv; rw [h4]
      have h7 : gi.sv k = g.sv k := by unfold Ghost.sv; rw [hb]
      rw [h6, h5, h7]
    exact ⟨x, q, h1, h2.agree hag hl.1, spRow_out hb hs hu hr h4 hl.2 h30 h3⟩
  | .r B' m T lo hi :: l, _, _, hl, ⟨us0, q0, e0, ⟨h20, h30, h40⟩, h50⟩, h => by
    simp only [ltRow, Bool.and_eq_true, Nat.blt_eq] at hl
    have hsv : ∀ k, k < 16 * B1 → g4.sv k = g.sv k := by
      intro k hk
      have h5 : (gi.re B1 p r hu hr).sv k = gi.sv k := re_agree.sv k hk
      have h6 : g4.sv k = (gi.re B1 p r hu hr).sv k := by unfold Ghost.sv; rw [h4]
      have h7 : gi.sv k = g.sv k := by unfold Ghost.sv; rw [hb]
      rw [h6, h5, h7]
    have hI : ∀ b a, g4.I b = some [.str a] → (g4.back g).I b = some [.str a] := fun _ _ h => h
    change RR g4 (cond (Nat.beq B' B) _ _) _ at h
    cases hB : Nat.beq B' B with
    | false =>
      rw [hB, cond_false] at h
      obtain ⟨us, q, h1, ⟨h2, h3, h5⟩, h6⟩ := h
      refine ⟨us, q, h1, ⟨?_, h3, h5⟩, spRow_out hb hs hu hr h4 hl.2 h50 h6⟩
      rw [hsv _ hl.1] at h2
      exact h2.mono hI
    | true =>
      have hBB := Nat.eq_of_beq_eq_true hB
      rw [hB, cond_true] at h
      obtain ⟨u1, q1, e1, ⟨k1, _, _⟩, h⟩ := h
      obtain ⟨u2, q2, e2, k2, h⟩ := row_spells h
      obtain ⟨u3, q3, e3, ⟨k3, _, _⟩, h⟩ := h
      have g1 : g4.sv (16 * B1) = p := by
        have := re_sv1 (g := gi) (u := p) (v := r) (hu := hu) (hv := hr) (m := 0) (by omega)
        rw [Nat.add_zero, imgL_zero] at this
        have h6 : g4.sv (16 * B1) = (gi.re B1 p r hu hr).sv (16 * B1) := by unfold Ghost.sv; rw [h4]
        rw [h6, this]
      have g2 : g4.sv (16 * (B1 + 16)) = r := by
        have := re_sv2 (g := gi) (u := p) (v := r) (hu := hu) (hv := hr) (m := 0) (by omega)
        rw [Nat.add_zero, imgL_zero] at this
        have h6 : g4.sv (16 * (B1 + 16)) = (gi.re B1 p r hu hr).sv (16 * (B1 + 16)) := by unfold Ghost.sv; rw [h4]
        rw [h6, this]
      have ih := spRow_out hb hs hu hr h4 hl.2 h50 h
      rw [g1] at k1
      rw [g2] at k3
      have l0 := h20.length
      rw [sv_base, hBB, hs] at l0
      subst e1 e2 e3
      have hj := Spells.join k1 k2 k3
      have lj := hj.length
      refine ⟨u1 ++ (u2 ++ u3), q3, by simp only [List.append_assoc], ⟨?_, by rw [lj, ← l0]; exact h30, by rw [lj, ← l0]; exact h40⟩, ih⟩
      rw [sv_base, hBB]
      show Spells _ T m _ (g.bv B)
      rw [hs]
      exact hj.mono hI
end
section
variable {g : Ghost} {P : Pl} {b : Blk} {n n0 : Nat} {o o0 : Obj}
theorem blk_start (hk : blkOk P b = true) (h : BR g n b o) : BR g n (blkW g.sv P [] b) o := by
  cases b with
  | cells e cs =>
    refine BR_map (all2_start hk fun k x hk hx v hv => slot_start hk hv) h
  | siter l c ts =>
    obtain ⟨p, h1, h2, h3, h4⟩ := h
    show o = .stringIter _ (c + tval g.sv ts + ((imgL P.m []).length : Int)).toNat
    rw [← h4]
    simpa [imgL] using h1
  | iter _ _ => cases hk
  | bytes _ _ => cases hk
  | mp _ _ => cases hk
  | sb _ => cases hk
  | row _ _ => exact h
theorem blk_fin (hP : PlOk g P) (hk : blkOk P b = true) (hx : BR g n0 b o0) {gi : Ghost} (hb : gi.bv = g.bv) (h : BR gi n (blkW g.sv P (g.bv P.B) b) o) : BR gi n (blkZ P b) o := by
  have hsv : gi.sv = g.sv := by unfold Ghost.sv; rw [hb]
  cases b with
  | cells e cs =>
    obtain ⟨l, r, _, _, h3, _⟩ := hx
    exact BR_map (all2_map hk fun k x hk hx v hv => by obtain ⟨v0, hv0⟩ := VRs_mem h3 x hx; exact slot_fin hP hk hv0 hb hv) h
  | siter l c ts =>
    obtain ⟨p, h1, h2, h3, h4⟩ := hx
    have h : o = .stringIter ⟨(den g.sv l).toArray⟩ (c + tval g.sv ts + ((imgL P.m (g.bv P.B)).length : Int)).toNat := h
    have h5 : gi.sv (16 * P.B + P.m) = imgL P.m (g.bv P.B) := by
      have := hP.m
      unfold Ghost.sv
      rw [hb, show (16 * P.B + P.m) / 16 = P.B by omega, show (16 * P.B + P.m) % 16 = P.m by omega]; rfl
    rw [← hsv] at h2 h3 h4 h
    obtain ⟨a1, a2⟩ := addTs_ok (sv := gi.sv) (a := ts) (b := [⟨16 * P.B + P.m, 1, P.lo, P.hi⟩]) h3 ⟨⟨by rw [h5]; exact hP.lo, by rw [h5]; exact hP.hi⟩, trivial⟩
    refine ⟨_, h, h2, a1, ?_⟩
    simp only [tval, Int.one_mul, Int.add_zero, h5] at a2
    rw [a2]
    omega
  | iter _ _ => cases hk
  | bytes _ _ => cases hk
  | mp _ _ => cases hk
  | sb _ => cases hk
  | row _ _ => exact h
variable {p r : List UInt8} {c : UInt8}
theorem facts_at (hP : PlOk g P) (hs : g.bv P.B = p ++ [c] ++ r) {gi g4 : Ghost} (hb : gi.bv = g.bv) (hu) (hr) (h4 : g4.bv = (gi.re P.B1 p r hu hr).bv) :
    (∀ k, k < 16 * P.B1 → g4.sv k = g.sv k) ∧ (∀ m, m < 16 → g4.sv (16 * P.B1 + m) = imgL m p) ∧ (∀ m, m < 16 → g4.sv (16 * (P.B1 + 16) + m) = imgL m r) ∧ (∀ m, m < 16 → g.sv (16 * P.B + m) = imgL m (p ++ [c] ++ r)) ∧ (imgL P.m p).length + (imgL P.m [c]).length + (imgL P.m r).length ≤ P.hi := by
  have hsv : gi.sv = g.sv := by unfold Ghost.sv; rw [hb]
  have h4sv : g4.sv = (gi.re P.B1 p r hu hr).sv := by unfold Ghost.sv; rw [h4]
  have hag : Agree (16 * P.B1) gi (gi.re P.B1 p r hu hr) := re_agree
  refine ⟨fun k h => by rw [h4sv, hag.sv k h, hsv], fun m h => by rw [h4sv]; exact re_sv1 h, fun m h => by rw [h4sv]; exact re_sv2 h, ?_, ?_⟩
  · intro m hm
    unfold Ghost.sv
    rw [show (16 * P.B + m) / 16 = P.B by omega, show (16 * P.B + m) % 16 = m by omega, hs]; rfl
  · have hhi := hP.hi
    rw [hs, imgL_append, imgL_append] at hhi
    simpa only [List.length_append] using hhi
theorem blk_in (hP : PlOk g P) (hs : g.bv P.B = p ++ [c] ++ r) (hk : blkOk P b = true) (hx : BR g n0 b o0) {gi : Ghost} (hb : gi.bv = g.bv) (hu) (hr) (h : BR gi n (blkW g.sv P p b) o) : BR (gi.re P.B1 p r hu hr) n (blkG P [c] b) o := by
  cases b with
  | cells e cs =>
    obtain ⟨l, r', _, _, h3, _⟩ := hx
    exact BR_map (all2_map hk fun k x hk hx v hv => by obtain ⟨v0, hv0⟩ := VRs_mem h3 x hx; exact slot_in hP hs hk hv0 hb hu hr hv) h
  | siter l d ts =>
    obtain ⟨p0, h1, h2, h3, h4⟩ := hx
    have h : o = .stringIter ⟨(den g.sv l).toArray⟩ (d + tval g.sv ts + ((imgL P.m p).length : Int)).toNat := h
    obtain ⟨a0, a1, a2, hBB, hhi⟩ := facts_at (g4 := gi.re P.B1 p r hu hr) hP hs hb hu hr rfl
    generalize (gi.re P.B1 p r hu hr) = gt at *
    simp only [blkOk, Bool.and_eq_true] at hk
    obtain ⟨s1, s2⟩ := spSeg_ok a0 a1 a2 hBB hk.1 h2
    have t1 := TsOK_agree a0 hk.2 h3
    have t2 := tval_agree a0 hk.2
    have h5 := a1 P.m hP.m
    obtain ⟨b1, b2⟩ := addTs_ok (sv := gt.sv) (a := ts) (b := [⟨16 * P.B1 + P.m, 1, 0, P.hi - (imgL P.m [c]).length⟩]) t1 ⟨⟨Nat.zero_le _, by rw [h5]; show (imgL P.m p).length ≤ P.hi - (imgL P.m [c]).length; omega⟩, trivial⟩
    refine ⟨_, by rw [s2]; exact h, s1, b1, ?_⟩
    simp only [tval, Int.one_mul, Int.add_zero, h5] at b2
    rw [b2, t2]
    omega
  | iter _ _ => cases hk
  | bytes _ _ => cases hk
  | mp _ _ => cases hk
  | sb _ => cases hk
  | row e l =>
    obtain ⟨vs, rest, h1, h2, h3⟩ := h
    exact ⟨vs, rest, h1, h2, spRow_in hb hs hu hr hk h3⟩
theorem blk_out (hP : PlOk g P) (hs : g.bv P.B = p ++ [c] ++ r) (hk : blkOk P b = true) (hx : BR g n0 b o0) {gi g4 : Ghost} (hb : gi.bv = g.bv) (hu) (hr) (h4 : g4.bv = (gi.re P.B1 p r hu hr).bv) {y : Blk} (hy : BR g4 n y o) (hkd : blkSame P y (blkE P [c] b) = true) : BR (g4.back g) n (blkW g.sv P (p ++ [c]) b) o := by
  cases b with
  | cells e cs =>
    obtain ⟨l, r', _, _, h3, _⟩ := hx
    cases y <;> simp only [blkE, blkSame, Bool.and_eq_true, Bool.false_eq_true] at hkd
    rename_i e' cs'
    obtain ⟨k1, k2⟩ := hkd
    have := Nat.eq_of_beq_eq_true k1
    subst this
    exact BR_map (all2_end hk k2 fun k x y hk hx hkd v hv => by obtain ⟨v0, hv0⟩ := VRs_mem h3 x hx; exact slot_out hP hs hk hv0 hb hu hr h4 hv hkd) hy
  | siter l d ts =>
    obtain ⟨p0, h1, h2, h3, h40⟩ := hx
    obtain ⟨a0, a1, a2, hBB, hhi⟩ := facts_at (g4 := g4) hP hs hb hu hr h4
    simp only [blkOk, Bool.and_eq_true] at hk
    obtain ⟨s1, s2⟩ := spSeg_ok a0 a1 a2 hBB hk.1 h2
    have t1 := TsOK_agree a0 hk.2 h3
    have t2 := tval_agree a0 hk.2
    have h5 := a1 P.m hP.m
    obtain ⟨b1, b2⟩ := addTs_ok (sv := g4.sv) (a := ts) (b := [⟨16 * P.B1 + P.m, 1, 0, P.hi - (imgL P.m [c]).length⟩]) t1 ⟨⟨Nat.zero_le _, by rw [h5]; show (imgL P.m p).length ≤ P.hi - (imgL P.m [c]).length; omega⟩, trivial⟩
    simp only [tval, Int.one_mul, Int.add_zero, h5] at b2
    cases y <;> simp only [blkE, blkSame, Bool.and_eq_true, Bool.false_eq_true] at hkd
    rename_i l' c' ts'
    obtain ⟨k1, k2⟩ := hkd
    obtain ⟨p', q1, q2, q3, q4⟩ := hy
    have e1 := segSame_ok (sv := g4.sv) k1
    have e2 := uvSame_ok k2 (VR.lin c' ts' q3) (VR.lin _ _ b1)
    injection e2 with _ e2
    show o = .stringIter ⟨(den g.sv l).toArray⟩ (d + tval g.sv ts + ((imgL P.m (p ++ [c])).length : Int)).toNat
    rw [q1, e1, s2, imgL_append, List.length_append]
    congr 1
    omega
  | iter _ _ => cases hk
  | bytes _ _ => cases hk
  | mp _ _ => cases hk
  | sb _ => cases hk
  | row e l =>
    obtain ⟨vs0, rest0, _, _, h30⟩ := hx
    cases y <;> simp only [blkE, blkSame, Bool.and_eq_true, Bool.false_eq_true] at hkd
    rename_i e' l'
    obtain ⟨k1, k2⟩ := hkd
    have := Nat.eq_of_beq_eq_true k1
    subst this
    have := rowBeq_eq k2
    subst this
    obtain ⟨vs, rest, h1, h2, h3⟩ := hy
    exact ⟨vs, rest, h1, h2, spRow_out hb hs hu hr h4 hk h30 h3⟩
end

/-- No way out. -/
noncomputable def failK : Kont R := fun _ _ _ => .fail
section
variable {X : Env} {N : Nat} {b : Code} {js : List Nat} {bodyx : (List AV → Store → Tr R) → List AV → Store → Tr R}
theorem isOk_sat {t : Tr R} (h : isOk t = true) : t.sat fun _ => True := by
  unfold isOk at h
  split at h
  · rename_i a ha; exact Tr.sat_of_val ha trivial
  · cases h
theorem steps_ok (hx : ∀ s2 fr σ, KOK X N b fr σ (bodyx s2 (js.map fun j => fr.getD j .any) σ) (thenK (fun fr σ => s2 (js.map fun j => fr.getD j .any) σ) failK)) {mt : List AV → Store → Bool} {Q : Exit → Act → World → Prop} :
    ∀ f (fr : List AV) (σ : Store) (g : Ghost) (a : Act) (w : World), fr.length = N → (stepsK bodyx mt f (js.map fun j => fr.getD j .any) σ).sat (fun _ => True) → FR g fr a → Sim g σ w → GR X g →
      (∀ fr' σ' g' a' w', fr'.length = N → mt (js.map fun j => fr'.getD j .any) σ' = true → FR g' fr' a' → Sim g' σ' w' → Ext g g' w w' → Loops X.P b Q a' w') → Loops X.P b Q a w := by
  intro f
  induction f with
  | zero => intro fr σ g a w _ h; exact h.elim
  | succ f ih =>
    intro fr σ g a w hN h hf hs hG hend
    unfold stepsK at h
    cases hm : mt (js.map fun j => fr.getD j .any) σ with
    | true => exact hend fr σ g a w hN hm hf hs (Ext.refl g w)
    | false =>
      rw [hm, cond_false] at h
      refine Loops.round (wp_mono (hx (stepsK bodyx mt f) fr σ (fun _ => True) g a w hN h hf hs hG) ?_)
      rintro e a' w' ⟨fr', σ', g', ⟨h1, h1'⟩, h2, h3, h4⟩
      cases e with
      | normal => exact fun B k' cs => ih fr' σ' g' a' w' h1 h1' h2 h3 (Ghost.GR_mono hG h4.le) (fun fr2 σ2 g2 a2 w2 q1 q2 q3 q4 q5 => hend fr2 σ2 g2 a2 w2 q1 q2 q3 q4 (h4.trans q5)) B k' cs
      | _ => exact h1'.elim
theorem unitsOk_at {P : Pl} {xs : List AV} {σ : Store} : ∀ {l : List UInt8}, unitsOk bodyx P xs σ l = true → ∀ c ∈ l, isOk (stepsK bodyx (mtE P [c] xs σ) 8 (mapK (slotG P [c]) P.ks xs) (stM P (blkG P [c]) σ)) = true
  | d :: l, h, c, hc => by
    simp only [unitsOk, Bool.and_eq_true] at h
    rcases List.mem_cons.1 hc with rfl | hc
    · exact h.1
    · exact unitsOk_at h.2 c hc
variable {k : Kont R} {pl : List AV → Store → Option Pl} {body : (List AV → Store → Tr R) → List AV → Store → Tr R}
/-- A loop over texts: words are gone over at once. -/
theorem KOK.sweep (hjs : sortedB N js = true) (pl : List AV → Store → Option Pl)
    (hb : ∀ s2 fr σ, KOK X N b fr σ (body s2 (js.map fun j => fr.getD j .any) σ) (thenK (fun fr σ => s2 (js.map fun j => fr.getD j .any) σ) k))
    (hx : ∀ s2 fr σ, KOK X N b fr σ (bodyx s2 (js.map fun j => fr.getD j .any) σ) (thenK (fun fr σ => s2 (js.map fun j => fr.getD j .any) σ) failK)) :
    ∀ m fr σ, KOK X N (.loop b) fr σ (sweepU pl body bodyx m (js.map fun j => fr.getD j .any) σ) k := by
  refine KOK.loopA (u := fun m fr σ => sweepU pl body bodyx m (js.map fun j => fr.getD j .any) σ) (fun _ _ => rfl) ?_
  intro m fr σ K g a w hN ht hf hs hG ih
  have plain : (body (sweepU pl body bodyx m) (js.map fun j => fr.getD j .any) σ).sat K → LO X N b k K g a w :=
    fun ht => LO.step (hb (sweepU pl body bodyx m) fr σ) hN ht hf hs hG fun fr' σ' g' a' w' h1 h2 h3 h4 h5 _ => ih fr' σ' g' a' w' h1 h2 h3 h4 h5
  change (sweepU pl body bodyx (m + 1) (js.map fun j => fr.getD j .any) σ).sat K at ht
  unfold sweepU at ht
  generalize hxs : (js.map fun j => fr.getD j .any) = xs at ht plain
  split at ht
  · exact plain ht
  rename_i P _
  cases hc : sweepOk bodyx P xs σ with
  | false => rw [hc, cond_false] at ht; exact plain ht
  | true =>
  rw [hc, cond_true] at ht
  simp only [sweepOk, Bool.and_eq_true] at hc
  obtain ⟨⟨⟨⟨⟨⟨⟨c1, c2⟩, c3⟩, c4⟩, c5⟩, c8⟩, c6⟩, c7⟩ := hc
  have c1 : P.m < 16 := by simpa [Nat.blt_eq] using c1
  have c2 : P.B < P.B1 := by simpa [Nat.blt_eq] using c2
  have c3 := Nat.eq_of_beq_eq_true c3
  have hxv : ∀ x ∈ xs, ∃ v, VR g x v := by
    intro x hx
    rw [← hxs] at hx
    obtain ⟨j, _, rfl⟩ := List.mem_map.1 hx
    rcases Nat.lt_or_ge j fr.length with hj | hj
    · obtain ⟨v, _, h⟩ := hf.vrs.get j (fr.getD j .any) (by rw [List.getD_eq_getElem?_getD, List.getElem?_eq_getElem hj]; rfl)
      exact ⟨v, h⟩
    · rw [List.getD_eq_getElem?_getD, List.getElem?_eq_none hj]
      exact ⟨.bool true, .any _⟩
  have hbv : ∀ i b, P.sb = some i → σ.get i = some b → blkOk P b = true ∧ ∃ n o, BR g n b o := by
    intro i b hi hbg
    obtain ⟨b', n, o, _, _, h3⟩ := hs.blk i b hbg
    refine ⟨?_, n, o, h3⟩
    simp only [sbOk, hi, hbg] at c8
    exact c8
  have hsv0 : ∀ x ∈ sbVals P σ, ∃ v, VR g x v := by
    intro x hx
    unfold sbVals at hx
    split at hx
    · cases hx
    · rename_i i hi
      split at hx
      · rename_i e cs hg
        obtain ⟨_, n, o, l, r, _, _, h3, _⟩ := hbv i _ hi hg
        exact VRs_mem h3 x hx
      · rename_i l d ts hg
        obtain ⟨_, n, o, q, _, h2, _⟩ := hbv i _ hi hg
        rcases List.mem_cons.1 hx with rfl | hx
        · exact ⟨_, .sstr _ h2⟩
        · cases hx
      · rename_i e l hg
        obtain ⟨_, n, o, vs, rest, _, _, h3⟩ := hbv i _ hi hg
        exact rowWs_ok h3 x hx
      · cases hx
  obtain ⟨d1, d2⟩ := hasWord_ok c4 (fun x hx => by
    rcases List.mem_append.1 hx with h | h
    · exact hxv x h
    · exact hsv0 x h) c1
  have hP : PlOk g P := ⟨c1, c2, c3, d1, d2⟩
  have hlen : js.length = xs.length := by rw [← hxs, List.length_map]
  have hml : ∀ f, js.length = (mapK f P.ks xs).length := fun f => by rw [mapK_length c5, hlen]
  obtain ⟨S, hS⟩ : ∃ S, g.bv P.B = S := ⟨_, rfl⟩
  have hcl : ∀ c ∈ S, c ∈ clsT (P.B1 % 16) := by rw [c3, ← hS]; exact g.bok P.B
  have walk : ∀ r p, p ++ r = S → ∀ g2 a2 w2, FR g2 (frS 0 N (js.zip (mapK (slotW g.sv P p) P.ks xs))) a2 → g2.bv = g.bv → Sim g2 (stM P (blkW g.sv P p) σ) w2 → GR X g2 → LO X N b k K g2 a2 w2 := by
    intro r
    induction r with
    | nil =>
      intro p hp g2 a2 w2 hf2 hb2 hs2 hG2
      rw [List.append_nil] at hp
      subst hp
      refine ih (frS 0 N (js.zip (mapK (slotZ P) P.ks xs))) (stM P (blkZ P) σ) g2 a2 w2 (frS_length _ _ _) ?_ ?_ ?_ hG2
      · show (sweepU pl body bodyx m _ _).sat K
        rw [frS_map hjs (hml _)]; exact ht
      · refine hf2.anew (frS_length _ _ _) ?_
        rw [frS_map hjs (hml _)]
        refine all2_map c5 fun k x hk hx v hv => ?_
        obtain ⟨v0, hv0⟩ := hxv x hx
        rw [← hS] at hv
        exact slot_fin hP hk hv0 hb2 hv
      · refine Sim.anew (g := g2) (g' := g2) (σ := stM P (blkW g.sv P p) σ) rfl rfl rfl (by rw [stM_next, stM_next]) ?_ hs2
        intro i bl hg
        rcases stM_get hg with ⟨h1, h2⟩ | ⟨h1, b0, h2, rfl⟩
        · refine ⟨bl, ?_, fun _ _ h => h⟩
          rw [stM_put h2]
          split
          · rename_i id hid; rw [if_neg (fun e => h1 (by rw [hid, e]))]
          · rfl
        · obtain ⟨hok, n0, o0, hbr⟩ := hbv i b0 h1 h2
          refine ⟨blkW g.sv P p b0, ?_, fun n o h => ?_⟩
          · rw [stM_put h2, h1]; simp
          · rw [← hS] at h
            exact blk_fin hP hok hbr hb2 h
    | cons c r ihr =>
      intro p hp g2 a2 w2 hf2 hb2 hs2 hG2
      have hp' : g.bv P.B = p ++ [c] ++ r := by rw [hS, ← hp]; simp
      have hu : ∀ d ∈ p, d ∈ clsT (P.B1 % 16) := fun d hd => hcl d (by rw [← hp]; simp [hd])
      have hr : ∀ d ∈ r, d ∈ clsT (P.B1 % 16) := fun d hd => hcl d (by rw [← hp]; simp [hd])
      have hcc : c ∈ clsT (P.B % 16) := by rw [← c3]; exact hcl c (by rw [← hp]; simp)
      have hun := isOk_sat (unitsOk_at c7 c hcc)
      have hag : Agree (16 * P.B1) g2 (g2.re P.B1 p r hu hr) := re_agree
      have hfr : FR (g2.re P.B1 p r hu hr) (frS 0 N (js.zip (mapK (slotG P [c]) P.ks xs))) a2 := by
        refine hf2.anew (frS_length _ _ _) ?_
        rw [frS_map hjs (hml _)]
        refine all2_map c5 fun k x hk hx v hv => ?_
        obtain ⟨v0, hv0⟩ := hxv x hx
        exact slot_in hP hp' hk hv0 hb2 hu hr hv
      have hss : Sim (g2.re P.B1 p r hu hr) (stM P (blkG P [c]) σ) w2 := by
        refine Sim.anew (g := g2) (g' := g2.re P.B1 p r hu hr) (σ := stM P (blkW g.sv P p) σ) rfl rfl rfl (by rw [stM_next, stM_next]) ?_ hs2
        intro i bl hg
        rcases stM_get hg with ⟨h1, h2⟩ | ⟨h1, b0, h2, rfl⟩
        · refine ⟨bl, ?_, fun _ _ h => h.agree hag (ptLt_get c6 h2)⟩
          rw [stM_put h2]
          split
          · rename_i id hid; rw [if_neg (fun e => h1 (by rw [hid, e]))]
          · rfl
        · obtain ⟨hok, n0, o0, hbr⟩ := hbv i b0 h1 h2
          refine ⟨blkW g.sv P p b0, ?_, fun n o h => ?_⟩
          · rw [stM_put h2, h1]; simp
          · exact blk_in hP hp' hok hbr hb2 hu hr h
      have hGG : GR X (g2.re P.B1 p r hu hr) := hG2
      refine steps_ok hx 8 (frS 0 N (js.zip (mapK (slotG P [c]) P.ks xs))) (stM P (blkG P [c]) σ) (g2.re P.B1 p r hu hr) a2 w2 (frS_length _ _ _) (by rw [frS_map hjs (hml _)]; exact hun) hfr hss hGG ?_
      intro fr4 σ4 g4 a4 w4 hN4 hm4 hf4 hs4 hE4
      simp only [mtE, Bool.and_eq_true] at hm4
      obtain ⟨m1, m2⟩ := hm4
      have hbv4 : g4.bv = (g2.re P.B1 p r hu hr).bv := hE4.le.bv
      have hag4 : Agree (16 * P.B1) g4 (g4.back g) := by
        refine ⟨fun k hk => ?_, rfl, rfl, rfl, rfl⟩
        have h1 := hag.sv k hk
        unfold Ghost.sv at h1 ⊢
        rw [hbv4]
        show (g.bv (k / 16)).flatMap _ = _
        rw [← hb2]
        exact h1.symm
      have hE : Ext g2 (g4.back g) w2 w4 := ⟨⟨hE4.le.next, by show g.bv = g2.bv; rw [hb2], hE4.le.π, hE4.le.I, hE4.le.rv⟩, hE4.os, hE4.tape, hE4.output, hE4.size, hE4.keep, hE4.old⟩
      have key := ihr (p ++ [c]) (by rw [← hp]; simp) (g4.back g) a4 w4 ?_ rfl ?_ (Ghost.GR_mono hG2 hE.le)
      · exact fun B k' cs => let ⟨e, a'', w'', q, ar⟩ := key B k' cs; ⟨e, a'', w'', q.trans hE, ar⟩
      · refine hf4.anew hN4 ?_
        refine all2_end c5 m1 fun k x y hk hx hkd v hv => ?_
        obtain ⟨v0, hv0⟩ := hxv x hx
        exact slot_out hP hp' hk hv0 hb2 hu hr hbv4 hv hkd
      · unfold stSame at m2
        split at m2
        · rename_i hsb
          have := Store.beq_eq m2
          subst this
          have e0 : ∀ f, stM P f σ4 = σ4 := fun f => by unfold stM; rw [hsb]
          rw [e0]
          exact hs4.agree hag4 c6
        · rename_i id hsb
          split at m2
          case h_2 => cases m2
          rename_i b4 b0 hg4 hg0
          simp only [Bool.and_eq_true] at m2
          have hst := Store.beq_eq m2.2
          obtain ⟨hok, n0, o0, hbr⟩ := hbv id b0 hsb hg0
          refine Sim.anew (g := g4) (g' := g4.back g) (σ := σ4) rfl rfl rfl (by rw [stM_next, ← hst]; rfl) ?_ hs4
          intro i bl hg
          rcases stM_get hg with ⟨h1, h2⟩ | ⟨h1, b0', h2, rfl⟩
          · have hne : i ≠ id := fun e => h1 (by rw [hsb, e])
            refine ⟨bl, ?_, fun _ _ h => h.agree hag4 (ptLt_get c6 h2)⟩
            rw [← hst] at h2
            have : (σ4.upd id b0).get i = σ4.get i := PT.get_upd_ne _ _ _ _ hne
            rw [this] at h2
            exact h2
          · rw [hsb] at h1
            cases h1
            rw [hg0] at h2
            cases h2
            exact ⟨b4, hg4, fun n o h => blk_out hP hp' hok hbr hb2 hu hr hbv4 h m2.1⟩
  refine walk S [] rfl g a w ?_ rfl ?_ hG
  · refine hf.anew hN ?_
    rw [hxs]
    refine all2_start c5 fun k x hk hx v hv => ?_
    exact slot_start hk hv
  · refine Sim.anew (g := g) (g' := g) (σ := σ) rfl rfl rfl stM_next ?_ hs
    intro i bl hg
    rcases stM_get hg with ⟨h1, h2⟩ | ⟨h1, b0, h2, rfl⟩
    · exact ⟨bl, h2, fun _ _ h => h⟩
    · obtain ⟨hok, _⟩ := hbv i b0 h1 h2
      exact ⟨b0, h2, fun n o h => blk_start hok h⟩
end
end Go.AM
