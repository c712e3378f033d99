/- The abstract machine: the operations with what comes behind them are the operations, the rest. -/
import Derived.Test.YtpefmbpjanafkaaGreatDoorSnM
set_option linter.unusedVariables false
set_option linter.unusedSimpArgs false
namespace Go.AM
section
variable {β : Type} {K : β → Prop}

theorem nthK_sat {cs : List AV} {i : Nat} {f : AV → Tr β} (h : (nthK cs i f).sat K) : ∃ v, cs[i]? = some v ∧ (f v).sat K := by
  obtain ⟨v, hv, h1⟩ := Tr.sat_opt h
  exact ⟨v, by rw [← nthA_eq]; exact hv, h1⟩
theorem loadK_sat {P : Program} {σ : Store} {t : TypeId} {a : AV} {f : AV → Tr β} (h : (loadK P σ t a f).sat K) : ∃ v, loadA P σ t a = some v ∧ (f v).sat K := by
  have at_ : ∀ {g : List AV → Nat → Tr β}, (atK σ a g).sat K → ∃ cs off, cellsAt σ a = some (cs, off) ∧ (g cs off).sat K := by
    clear h
    intro g h
    unfold atK at h
    split at h
    · rename_i p hp; exact ⟨p.1, p.2, hp, h⟩
    · exact h.elim
  unfold loadK at h
  split at h
  · rename_i n h1 h2
    obtain ⟨cs, off, hc, h3⟩ := at_ h
    obtain ⟨hn, h4⟩ := cond_sat h3
    refine ⟨_, ?_, h4⟩
    unfold loadA
    split
    · cases hc
    · simp only [hc, h1, h2, hn, cond_true]
  · rename_i n h1 h2
    obtain ⟨v, hv, h4⟩ := Tr.sat_opt (show (opt (ld1A σ a) f).sat K from h)
    refine ⟨v, ?_, h4⟩
    unfold ld1A at hv
    unfold loadA
    split at hv
    · split at hv
      · rename_i hr
        simp only [loadR, h1, h2, hr]; exact hv
      · rename_i hr
        simp only [loadR, h1, h2, hr]; exact hv
      · cases hv
    · rename_i hn
      split at hv
      · rename_i p hp
        split
        · exact (hn _ _ _ rfl).elim
        · simp only [hp, h1, h2]
          rw [← nthA_eq]; exact hv
      · cases hv
  · exact h.elim
theorem cellsK_sat {σ : Store} {a : AV} {g : Nat → Nat → TypeId → List AV → Tr β} (h : (cellsK σ a g).sat K) : ∃ id off e cs, a = .ptr id off ∧ σ.get id = some (.cells e cs) ∧ (g id off e cs).sat K := by
  unfold cellsK at h
  split at h
  · rename_i id off
    split at h
    · rename_i e cs hcs; exact ⟨id, off, e, cs, rfl, hcs, h⟩
    · exact h.elim
  · exact h.elim
theorem one_cells {v : AV} (h : v.one = true) : v.cells = [v] := by cases v <;> first | rfl | cases h
theorem storeK_sat {P : Program} {σ : Store} {t : TypeId} {a v : AV} {f : AV → Store → Tr β} (h : (storeK P σ t a v f).sat K) : ∃ σ', storeA P σ t a v = some σ' ∧ (f .any σ').sat K := by
  unfold storeK at h
  split at h
  · rename_i h1 h2
    unfold st1K at h
    split at h
    case h_2 => exact h.elim
    rename_i σ' hp
    refine ⟨σ', ?_, h⟩
    unfold put1 at hp
    split at hp
    case h_2 => cases hp
    rename_i id off
    split at hp
    case h_2 => cases hp
    rename_i b hb
    split at hp
    case h_2 => cases hp
    rename_i b' hb'
    cases hp
    unfold put1B at hb'
    split at hb'
    · rename_i e cs
      obtain ⟨hc, hb'⟩ := cond_some hb'
      cases hb'
      simp only [Bool.and_eq_true] at hc
      unfold storeA
      simp only [hb, h2, one_cells hc.1, List.length_singleton, Nat.beq_refl, allOne, hc.1, hc.2, Bool.and_self, cond_true, over]
    · rename_i s
      unfold storeA
      simp only [hb, h2, hb', Option.map_some]
    · cases hb'
  · rename_i n h2 _
    obtain ⟨id, off, e, cs, rfl, hcs, h3⟩ := cellsK_sat h
    obtain ⟨hc, h4⟩ := cond_sat h3
    refine ⟨_, ?_, h4⟩
    unfold storeA
    simp only [hcs, h2, hc, cond_true]
  · exact h.elim
theorem fillK_fillA {place : Nat → Option (Nat × Nat)} : ∀ {ps : List (Nat × AV)} {l : List (Nat × Nat × AV)} {z cs : List AV}, placesK place ps = some l → fillK z l = some cs → fillA place z ps = some cs
  | [], l, z, cs, h1, h2 => by cases h1; exact h2
  | (i, v) :: ps, l, z, cs, h1, h2 => by
    unfold placesK at h1
    split at h1
    · rename_i p m hp hm
      cases h1
      unfold fillK at h2
      cases hc : (Nat.beq v.cells.length p.2 && Nat.ble (p.1 + v.cells.length) z.length && nonAny v) with
      | false => rw [hc] at h2; cases h2
      | true =>
        rw [hc] at h2
        have ih := fillK_fillA hm h2
        unfold fillA
        rw [hp]
        change (cond (Nat.beq v.cells.length p.2 && Nat.ble (p.1 + v.cells.length) z.length && nonAny v) (fillA place (over z p.1 v.cells) ps) none) = some cs
        rw [hc]
        exact ih
    · cases h1
theorem newK_sat {σ : Store} {e : TypeId} {cs : List AV} {f : AV → Store → Tr β} (h : (newK σ e cs f).sat K) : (opt (newA σ e cs) (Tr.ret : R → Tr R)).sat fun r => (f r.1 r.2).sat K := by
  unfold newK at h
  unfold newA
  simp only
  split at h
  · rename_i b hb; rw [hb]; exact h
  · exact h.elim
theorem newSK_sat {σ : Store} {e : TypeId} {cs : List AV} {len n : Nat} {f : AV → Store → Tr β} (h : (newSK σ e cs len n f).sat K) :
    (opt (newA σ e cs) fun r => match r with | (.ptr id _, σ') => (.ret (.slice id 0 len len n, σ') : Tr R) | _ => .fail).sat fun r => (f r.1 r.2).sat K := by
  unfold newSK at h
  unfold newA
  simp only
  split at h
  · rename_i b hb; rw [hb]; exact h
  · exact h.elim
theorem nchkK_sat {x : AV} {σ : Store} {f : AV → Tr β} (h : (nchkK x f).sat K) : (match isNilA x, x with
    | some false, .fn (.func _) _ _ => (.ret (x, σ) : Tr R)
    | some false, .fn _ _ _ => .fail
    | some false, a => .ret (a, σ)
    | _, _ => .fail).sat fun r => (f r.1).sat K := by
  unfold nchkK at h
  split at h <;> first | exact h | exact h.elim
theorem addrK_sat {x : AV} {off : Nat} {f : AV → Tr β} (h : (addrK x off f).sat K) : ∃ v, (match x with | .ptr id o => some (AV.ptr id (o + off)) | .ref cs o => some (.ref cs (o + off)) | _ => none) = some v ∧ (f v).sat K := by
  unfold addrK at h
  split at h
  · exact ⟨_, rfl, h⟩
  · exact ⟨_, rfl, h⟩
  · exact h.elim
theorem fieldAddrK_sat {P : Program} {t : TypeId} {x : AV} {i : Nat} {f : AV → Tr β} (h : (fieldAddrK P t x i f).sat K) : ∃ v, fieldAddrA P t x i = some v ∧ (f v).sat K := by
  unfold fieldAddrK at h
  split at h
  · rename_i fs hu
    split at h
    · rename_i fd hfd
      split at h
      · rename_i n hn
        obtain ⟨v, hv, h1⟩ := addrK_sat h
        refine ⟨v, ?_, h1⟩
        unfold fieldAddrA
        simp only [hu, hfd, hn]
        exact hv
      · exact h.elim
    · exact h.elim
  · exact h.elim
theorem eqIfc_bin {P : Program} {t : TypeId} {x y : AV} {cy b : Bool} {f : AV → Tr β} (ht : isIfcT P t = true) (h : eqIfc P cy x y = some b) (hf : (f (.bool b)).sat K) : (binK P .eql t cy x y f).sat K := by
  unfold isIfcT at ht
  split at ht
  case h_2 => cases ht
  rename_i ms hms
  have hs : symBin .eql x y = none := by
    unfold eqIfc at h
    split at h <;> first | rfl | (cases h; done)
  unfold binK
  simp only [hms, eqO, eqOK, symK, hs, eqOK0, h, opt]
  exact hf
theorem ifcK_sat {P : Program} {σ : Store} {op : BinOp} {t : TypeId} {x y : AV} {cy : Bool} {f : AV → Tr β} (h : (ifcK P σ op t cy x y f).sat K) : (ifcA P σ op t x y cy).sat fun v => (f v).sat K := by
  unfold ifcA
  cases op <;> first | (exact h.elim) | skip
  · have h : (opt (ifcO P σ t cy x y) fun b => f (.bool b)).sat K := h
    obtain ⟨b, hb, h⟩ := Tr.sat_opt h
    unfold ifcO at hb
    cases hc : samePtr P σ t x y with
    | true =>
      rw [hc] at hb
      cases hb
      simp only [isEql, Bool.true_and, cond_true]
      exact h
    | false =>
      rw [hc, cond_false] at hb
      simp only [isEql, Bool.true_and, cond_false]
      cases ht : isIfcT P t with
      | false => rw [ht] at hb; cases hb
      | true =>
        rw [ht, cond_true] at hb
        exact binK_sat (eqIfc_bin ht hb h)
  · have h : (binK P .neq t cy x y f).sat K := h
    simp only [isEql, Bool.false_and, cond_false]
    exact binK_sat h
theorem allocK_sat {P : Program} {s d : TypeId} {σ : Store} {x : AV} {f : AV → Store → Tr β} (h : (allocK P s d σ x f).sat K) : (allocC P s d x σ).sat fun r => (f r.1 r.2).sat K := by
  unfold allocK at h
  split at h
  case h_2 => exact h.elim
  rename_i e h1 h2
  split at h
  case h_2 => exact h.elim
  rename_i h3
  unfold s2bK at h
  obtain ⟨u, rfl, h4⟩ := asStrK_sat h
  unfold sbK at h4
  obtain ⟨hc, h4⟩ := cond_sat h4
  unfold allocC
  rw [h1, h2]
  simp only [h3, hc, cond_true]
  split at h4
  · rename_i y hy
    simp only [hy]
    exact h4
  · exact h4.elim
theorem convK_sat {P : Program} {s d : TypeId} {σ : Store} {x : AV} {f : AV → Tr β} (h : (convK P s d σ x f).sat K) : (convertA P s d x σ).sat fun v => (f v).sat K := by
  unfold convK at h
  split at h
  · rename_i k1 k2 h1 h2
    unfold fitsK at h
    split at h
    · unfold convertA
      simp only [h1, h2]
      exact fitK_sat h
    · obtain ⟨r, hr, h⟩ := Tr.sat_opt h
      unfold convertA
      simp only [h1, h2, hr, opt, Tr.sat]
      exact h
    · obtain ⟨r, hr, h⟩ := Tr.sat_opt h
      unfold convertA
      simp only [h1, h2, hr, opt, Tr.sat]
      exact h
    · unfold convertA
      simp only [h1, h2, Tr.sat]
      exact h
    · exact h.elim
  · rename_i h1 h2
    unfold asStrV at h
    split at h
    · unfold convertA
      simp only [h1, h2]
      exact h
    · obtain ⟨l, rfl, h3⟩ := asStrK_sat h
      unfold convertA
      simp only [h1, h2]
      exact h3
  · rename_i k1 h1 h2
    obtain ⟨k, n, rfl, h3⟩ := asIntK_sat h
    obtain ⟨hk, h4⟩ := cond_sat h3
    cases kindB_eq hk
    obtain ⟨v, hv, h5⟩ := Tr.sat_opt h4
    unfold convertA
    simp only [h1, h2, hv, opt, Tr.sat]
    exact h5
  · rename_i e h1 h2
    split at h
    · rename_i hu
      unfold b2sK at h
      split at h
      · exact h.elim
      · obtain ⟨l, hl, h4⟩ := Tr.sat_opt h
        unfold convertA
        simp only [h1, h2, hu, hl, opt, Tr.sat]
        exact h4
      · rename_i hx
        split at h
        · rename_i xs n hs
          obtain ⟨l, hl, h4⟩ := Tr.sat_opt h
          unfold convertA
          simp only [h1, h2, hu, hs, hl, opt, Tr.sat]
          exact h4
        · exact h.elim
    · exact h.elim
  · exact h.elim
theorem must_lt {b : Bool} {f : Tr β} {g : Tr AV} {G : AV → Prop} (h : (must b f).sat K) (hf : f.sat K → g.sat G) : (must b g).sat G := by
  obtain ⟨hb, h1⟩ := Tr.sat_must h
  subst hb
  exact hf h1
theorem indexAddrK_sat {P : Program} {t : TypeId} {x i : AV} {f : AV → Tr β} (h : (indexAddrK P t x i f).sat K) : (indexAddrA P t x i).sat fun v => (f v).sat K := by
  unfold indexAddrK at h
  unfold indexAddrA
  split at h
  · rename_i len e hu
    obtain ⟨z, hz, h1⟩ := Tr.sat_opt h
    obtain ⟨k, n, rfl, h2⟩ := asIntK_sat h1
    simp only [indexAddrA0, hu]
    split at h2
    · obtain ⟨hb, h3⟩ := Tr.sat_must h2
      simp only [leI_eq, ltI_eq] at hb
      simp only [hz, opt, must, hb, Tr.sat]; exact h3
    · obtain ⟨hb, h3⟩ := Tr.sat_must h2
      simp only [leI_eq, ltI_eq] at hb
      simp only [hz, opt, must, hb, Tr.sat]; exact h3
    · exact h2.elim
  · rename_i e hu
    obtain ⟨z, hz, h1⟩ := Tr.sat_opt h
    unfold idxK at h1
    split at h1
    case h_2 => exact h1.elim
    rename_i r hr
    obtain ⟨hb, h3⟩ := Tr.sat_must h1
    unfold idxV at hr
    split at hr
    · split at hr
      case h_2 => cases hr
      rename_i n hn
      cases hr
      simp only [Bool.and_eq_true] at hb
      obtain ⟨hz1, hb1, hb2⟩ := hb
      have hz1 := Nat.eq_of_beq_eq_true hz1
      subst hz1
      simp only [hu, idxR, hn, hz, must, hb1, hb2, Bool.and_self, Tr.sat]; exact h3
    · split at hr
      case h_2 => cases hr
      rename_i n hn
      cases hr
      simp only [Bool.and_eq_true] at hb
      obtain ⟨hz1, hb1, hb2⟩ := hb
      have hz1 := Nat.eq_of_beq_eq_true hz1
      subst hz1
      simp only [hu, idxR, hn, hz, must, hb1, hb2, Bool.and_self, Tr.sat]; exact h3
    · split at hr
      case h_2 => cases hr
      cases hr
      simp only [leI_eq, ltI_eq] at hb
      simp only [indexAddrA0, hu, hz, opt, must, hb, Tr.sat]; exact h3
    · split at hr
      case h_2 => cases hr
      cases hr
      simp only [leI_eq, ltI_eq] at hb
      simp only [indexAddrA0, hu, hz, opt, must, hb, Tr.sat]; exact h3
    · cases hr
  · exact h.elim
theorem idxSK_sat {P : Program} {t : TypeId} (hu : P.underlying t = some .string) {x i : AV} {f : AV → Tr β} (h : (idxSK x i f).sat K) : (indexA P t x i).sat fun v => (f v).sat K := by
  unfold idxSK at h
  unfold indexA
  cases hs : symIdx x i with
  | some r => rw [hs] at h; simp only [hu]; exact h
  | none =>
    rw [hs] at h
    simp only [hu]
    obtain ⟨k, n, rfl, h2⟩ := asIntK_sat (show (asIntK i _).sat K from h)
    obtain ⟨s, rfl, h3⟩ := asStrK_sat h2
    obtain ⟨hb, h4⟩ := Tr.sat_must h3
    simp only [leI_eq, ltI_eq] at hb
    unfold indexA0
    simp only [hu, must, hb, Tr.sat]; exact h4
theorem lenK_sat {P : Program} {t : TypeId} {x : AV} {f : AV → Tr β} (h : (lenK P t x f).sat K) : ∃ v, lenAV P t x = some v ∧ (f v).sat K := by
  unfold lenK at h
  split at h
  · rename_i hu
    unfold lenSK at h
    cases hs : symLen x with
    | some r => rw [hs] at h; exact ⟨r, by simp [lenAV, hu, hs], h⟩
    | none =>
      rw [hs] at h
      obtain ⟨s, rfl, h1⟩ := asStrK_sat (show (asStrK x _).sat K from h)
      exact ⟨_, by simp [lenAV, hu, hs, lenA], h1⟩
  · rename_i e hu
    unfold lenLK at h
    split at h
    · rename_i v hv
      refine ⟨v, ?_, h⟩
      unfold lenLV at hv
      split at hv <;> first | (cases hv; simp [lenAV, lenA, hu]) | cases hv
    · exact h.elim
  · rename_i d h1 h2
    obtain ⟨n, hn, h3⟩ := Tr.sat_opt h
    refine ⟨.int .i64 n, ?_, h3⟩
    unfold lenAV
    split
    · rename_i hu _; exact (h1 hu).elim
    · rename_i e0 _ hu; exact (h2 _ hu).elim
    · rw [hn]; rfl
theorem sliceK_sat {P : Program} {σ : Store} {t : TypeId} {x : AV} {lo hi : Option AV} {f : AV → Tr β} (h : (sliceK P σ t x lo hi f).sat K) : (sliceA P σ t x lo hi).sat fun v => (f v).sat K := by
  unfold sliceK at h
  split at h
  · rename_i hu
    unfold sliceSK at h
    unfold sliceA
    cases hs : symSlice x lo hi with
    | some r => rw [hs] at h; simp only [hu]; exact h
    | none =>
      rw [hs] at h
      simp only [hu]
      obtain ⟨s, rfl, h1⟩ := asStrK_sat (show (asStrK x _).sat K from h)
      split at h1
      · rename_i l hh h2 h3
        obtain ⟨hb, h4⟩ := Tr.sat_must h1
        simp only [leI_eq] at hb
        unfold sliceA0
        simp only [hu, h2, h3, must, hb, Tr.sat]; exact h4
      · exact h1.elim
  · unfold sliceLK at h
    rw [Tr.sat_bind] at h; exact h
theorem appendK_sat {P : Program} {σ : Store} {t tx : TypeId} {s x : AV} {f : AV → Store → Tr β} (h : (appendK P σ t tx s x f).sat K) : (appendA P σ t tx s x).sat fun r => (f r.1 r.2).sat K := by
  unfold appendK at h
  unfold appendA
  split at h
  · rename_i e h1 h2
    simp only [h1, h2]
    split at h
    · rename_i z by_ h3 h4
      obtain ⟨hc, h5⟩ := cond_sat h
      simp only [h3, h4]
      unfold appK at h5
      rw [Tr.sat_bind] at h5
      unfold appV at h5
      cases hw : rowWant s x with
      | true =>
        rw [hw, cond_true] at h5
        obtain ⟨hz1, h6⟩ := cond_sat h5
        have : (Nat.beq z 1 && zeroOk P e z && Nat.blt 0 z && Nat.blt 0 by_) = true := by simp only [Bool.and_eq_true] at hc ⊢; exact ⟨⟨⟨hz1, hc.1.1⟩, hc.1.2⟩, hc.2⟩
        rw [cond_true, this, cond_true]
        exact h6
      | false =>
      rw [hw, cond_false] at h5
      rw [cond_false]
      split at h5
      · rename_i xs n hs
        obtain ⟨ho, h6⟩ := cond_sat h5
        simp only [hs]
        have : (allOne xs && zeroOk P e z && Nat.blt 0 z && Nat.blt 0 by_) = true := by simp only [Bool.and_eq_true] at hc ⊢; exact ⟨⟨⟨ho, hc.1.1⟩, hc.1.2⟩, hc.2⟩
        rw [this]
        exact h6
      · exact h5.elim
    · exact h.elim
  · exact h.elim
theorem callK_sat {X : Env} {run : FuncId → List AV → Store → Tr R} {σ : Store} {ρ : Operand → AV} (hρ : ∀ g, ρ (.func g) = .fn (.func g) [] []) {c : Call} {f : AV → Store → Tr β} (h : (callK X run σ ρ c f).sat K) : (callA X run σ ρ c).sat fun r => (f r.1 r.2).sat K := by
  unfold callK at h
  unfold callA
  split at h
  · rename_i hcal
    simp only [hcal]
    split at h
    · rename_i t x h1 h2
      obtain ⟨n, hn, h3⟩ := lenK_sat h
      simp only [h1, h2, hn, opt]
      exact h3
    · exact h.elim
  · rename_i hcal
    simp only [hcal]
    split at h
    · rename_i t u s x h1 h2 h3
      simp only [h1, h2, h3]
      exact appendK_sat h
    · exact h.elim
  · exact h.elim
  · rename_i hcal
    simp only [hcal]
    unfold invK at h
    split at h
    · rename_i t v hv
      obtain ⟨fr, hm, h1⟩ := Tr.sat_opt h
      obtain ⟨hc, h2⟩ := cond_sat h1
      unfold calK at h2
      rw [Tr.sat_bind] at h2
      simp only [hv, hm, opt, hc, cond_true]
      exact h2
    · exact h.elim
  · rename_i g hg
    obtain ⟨hc, h2⟩ := cond_sat h
    unfold calK at h2
    rw [Tr.sat_bind] at h2
    simp only [hg, hρ, hc, cond_true, List.nil_append, List.append_nil]
    exact h2
  · rename_i x _ hx
    unfold dynK at h
    split at h
    · rename_i g first cap hv
      obtain ⟨hc, h2⟩ := cond_sat h
      unfold calK at h2
      rw [Tr.sat_bind] at h2
      simp only [hx, hv, hc, cond_true]
      exact h2
    · exact h.elim
theorem typeAssertK_sat {P : Program} {x : AV} {a : TypeId} {ok : Bool} {f : AV → Tr β} (h : (typeAssertK P x a ok f).sat K) : ∃ v, typeAssertA P x a ok = some v ∧ (f v).sat K := by
  unfold typeAssertK at h
  split at h
  · obtain ⟨v, hv, h1⟩ := Tr.sat_opt h
    exact ⟨v, hv, h1⟩
  · rename_i d hd hu
    have hd' : ∀ m, d ≠ .interface m := fun m e => hd m e
    unfold tasK at h
    unfold typeAssertA
    simp only [hu]
    split at h
    · obtain ⟨hk, h1⟩ := cond_sat h
      obtain ⟨z, hz, h2⟩ := Tr.sat_opt h1
      refine ⟨_, ?_, h2⟩
      cases d <;> first | (exact (hd' _ rfl).elim) | (simp [hk, hz]; done)
    · rename_i t v
      cases ht : Nat.beq t a with
      | true =>
        rw [ht] at h
        refine ⟨_, ?_, h⟩
        cases d <;> first | (exact (hd' _ rfl).elim) | (simp [ht]; done)
      | false =>
        rw [ht] at h
        obtain ⟨hk, h1⟩ := cond_sat h
        obtain ⟨z, hz, h2⟩ := Tr.sat_opt h1
        refine ⟨_, ?_, h2⟩
        cases d <;> first | (exact (hd' _ rfl).elim) | (simp [ht, hk, hz]; done)
    · exact h.elim
  · exact h.elim

/-- AN OPERATION WITH WHAT COMES BEHIND IT IS THE OPERATION. -/
theorem opK_sat {X : Env} {run : FuncId → List AV → Store → Tr R} {σ : Store} {ρ : Operand → AV} (hρ : ∀ g, ρ (.func g) = .fn (.func g) [] []) {o : Op} {f : AV → Store → Tr β} (h : (opK X run σ ρ o f).sat K) :
    (opA X run σ ρ o).sat fun r => (f r.1 r.2).sat K := by
  cases o
  case move x => exact h
  case assign x => exact h
  case pick c a b =>
    obtain ⟨d, hd, h1⟩ := asBoolK_sat (show (asBoolK (ρ c) _).sat K from h)
    simp only [opA, hd, Tr.sat]
    cases d <;> exact h1
  case alloc e =>
    obtain ⟨z, hz, h1⟩ := Tr.sat_opt (show (opt (zeroT X.P e) _).sat K from h)
    simp only [opA, hz, opt]
    exact newK_sat h1
  case box e x =>
    obtain ⟨hc, h1⟩ := cond_sat (show (cond (nonAny (ρ x)) (newK σ (2 * e + 1) (ρ x).cells f) Tr.fail).sat K from h)
    simp only [opA, hc, cond_true]
    exact newK_sat h1
  case build t parts =>
    obtain ⟨z, hz, h1⟩ := Tr.sat_opt (show (opt (zeroT X.P t) _).sat K from h)
    simp only [opA, hz, opt]
    split at h1
    · rename_i fs hu
      obtain ⟨hc, h2⟩ := cond_sat h1
      obtain ⟨l, hl, h3⟩ := Tr.sat_opt h2
      obtain ⟨cs, hcs, h4⟩ := Tr.sat_opt (show (opt (fillK z l) _).sat K from h3)
      simp only [hu, hc, cond_true]
      have := fillK_fillA hl hcs
      rw [this]
      exact h4
    · rename_i n e hu
      obtain ⟨n', hn, h2⟩ := Tr.sat_opt h1
      obtain ⟨l, hl, h3⟩ := Tr.sat_opt h2
      obtain ⟨cs, hcs, h4⟩ := Tr.sat_opt (show (opt (fillK z l) _).sat K from h3)
      simp only [hu, hn, opt]
      have := fillK_fillA hl hcs
      rw [this]
      exact h4
    · exact h1.elim
  case buildSlice t len parts =>
    simp only [opK] at h
    simp only [opA]
    split at h
    · rename_i e hu
      obtain ⟨z, hz, h1⟩ := Tr.sat_opt h
      obtain ⟨n, hn, h2⟩ := Tr.sat_opt h1
      obtain ⟨hc, h3⟩ := cond_sat h2
      obtain ⟨l, hl, h4⟩ := Tr.sat_opt h3
      obtain ⟨cs, hcs, h5⟩ := Tr.sat_opt h4
      have := fillK_fillA hl hcs
      simp only [hu, hz, hn, opt, hc, cond_true, this]
      exact newSK_sat h5
    · exact h.elim
  case load t a =>
    obtain ⟨v, hv, h1⟩ := loadK_sat (show (loadK X.P σ t (ρ a) _).sat K from h)
    exact sat_p hv h1
  case store t a x =>
    obtain ⟨σ', hσ, h1⟩ := storeK_sat (show (storeK X.P σ t (ρ a) (ρ x) _).sat K from h)
    simp only [opA, hσ, opt]
    exact h1
  case nilCheck x =>
    have := nchkK_sat (σ := σ) (show (nchkK (ρ x) fun v => f v σ).sat K from h)
    simp only [opA]
    revert this
    generalize ρ x = v
    intro this
    cases v <;> first | exact this | (rename_i g _ _; cases g <;> exact this)
  case binOp op t x y t' =>
    have h : ((match Nat.beq t ifcT112 with | true => ifcK X.P σ op t (constO x || constO y) (ρ x) (ρ y) | false => binK X.P op t (constO x || constO y) (ρ x) (ρ y)) fun v => f v σ).sat K := h
    show (cond (Nat.beq t ifcT112) ((ifcA X.P σ op t (ρ x) (ρ y) (constO x || constO y)).bind fun a => (.ret (a, σ) : Tr R)) ((binA X.P op t (ρ x) (ρ y) (constO x || constO y)).bind fun a => (.ret (a, σ) : Tr R))).sat _
    cases hd : Nat.beq t ifcT112 with
    | true =>
      rw [hd] at h
      simp only [cond_true]
      exact sat_v (ifcK_sat h)
    | false =>
      rw [hd] at h
      simp only [cond_false]
      exact sat_v (binK_sat h)
  case unOp op t x =>
    cases op <;> first | exact h.elim | skip
    case not =>
      obtain ⟨b, hb, h1⟩ := asBoolK_sat (show (asBoolK (ρ x) _).sat K from h)
      simp only [opA, hb, Tr.sat]
      exact h1
    case neg =>
      obtain ⟨k, n, hb, h1⟩ := asIntK_sat (show (asIntK (ρ x) _).sat K from h)
      simp only [opA, hb]
      exact sat_v (fitK_sat h1)
  case convert s d x =>
    have h : ((match Nat.beq d bytesT34 with | true => allocK X.P s d σ (ρ x) | false => fun k => convK X.P s d σ (ρ x) fun v => k v σ) f).sat K := h
    show (cond (Nat.beq d bytesT34) (allocC X.P s d (ρ x) σ) ((convertA X.P s d (ρ x) σ).bind fun a => (.ret (a, σ) : Tr R))).sat _
    cases hd : Nat.beq d bytesT34 with
    | true => rw [hd] at h; rw [cond_true]; exact allocK_sat h
    | false => rw [hd] at h; rw [cond_false]; exact sat_v (convK_sat h)
  case makeInterface t x =>
    simp only [opK] at h
    simp only [opA]
    split at h <;> first | exact h.elim | skip
    rename_i d hd hu
    simp only [hu]
    exact h
  case makeFunc g a b => exact h
  case slice t x l hh mx =>
    cases mx with
    | none => exact sat_v (sliceK_sat (show (sliceK X.P σ t (ρ x) _ _ _).sat K from h))
    | some m => exact h.elim
  case fieldAddr t x i =>
    obtain ⟨v, hv, h1⟩ := fieldAddrK_sat (show (fieldAddrK X.P t (ρ x) i _).sat K from h)
    exact sat_p hv h1
  case indexAddr t x i => exact sat_v (indexAddrK_sat (show (indexAddrK X.P t (ρ x) (ρ i) _).sat K from h))
  case index t x i =>
    simp only [opK] at h
    refine sat_v ?_
    split at h
    · rename_i hu; exact idxSK_sat hu h
    · rw [Tr.sat_bind] at h; exact h
  case typeAssert x t a ok =>
    obtain ⟨v, hv, h1⟩ := typeAssertK_sat (show (typeAssertK X.P (ρ x) a ok _).sat K from h)
    exact sat_p hv h1
  case extract x i =>
    simp only [opK, extK] at h
    simp only [opA]
    split at h
    · rename_i l hl
      obtain ⟨v, hv, h1⟩ := nthK_sat h
      simp only [hl]
      exact sat_p hv h1
    · exact h.elim
  case call c => exact callK_sat hρ (show (callK X run σ ρ c f).sat K from h)
  all_goals
    simp only [opK] at h
    rw [Tr.sat_bind] at h
    exact h
end
end Go.AM
/- The abstract machine: code with what comes behind it. -/
namespace Go.AM
section
variable {β : Type}

/-- An operation that is run under a condition. -/
noncomputable def grdK (x : AV) (want : Bool) (σ : Store) (t : (AV → Store → Tr β) → Tr β) (f : AV → Store → Tr β) : Tr β :=
  match x with
  | .bool b => .ask b fun c => cond (cond want c (!c)) (t f) (f (.tup []) σ)
  | .any => .fail
  | .ub => .fail
  | _ => f (.tup []) σ
noncomputable def operV (X : Env) (run : FuncId → List AV → Store → Tr R) (ops : Array Oper) (o : Oper) (fr : List AV) (σ : Store) (f : AV → Store → Tr β) : Tr β :=
  match o.guard with
  | none => opK X run σ (evalO X fr) o.op f
  | some p => match (ops[p.1]?).bind (·.dst) with
    | some d => grdK (fr.getD d .any) p.2 σ (opK X run σ (evalO X fr) o.op) f
    | none => .fail
noncomputable def operK (X : Env) (run : FuncId → List AV → Store → Tr R) (ops : Array Oper) (o : Oper) (fr : List AV) (σ : Store) (f : List AV → Store → Tr β) : Tr β :=
  operV X run ops o fr σ fun v σ => f (putA fr o.dst v) σ
noncomputable def seqK (X : Env) (run : FuncId → List AV → Store → Tr R) (ops : Array Oper) : List Oper → List AV → Store → (List AV → Store → Tr β) → Tr β
  | [], fr, σ, f => f fr σ
  | o :: l, fr, σ, f => operK X run ops o fr σ fun fr σ => seqK X run ops l fr σ f

noncomputable def stageK (X : Env) (run : FuncId → List AV → Store → Tr R) (ops : Array Oper) : List Oper → List AV → Store → List Store → (List AV → List Store → Tr β) → Tr β
  | [], fr, σ, acc, f => f fr (σ :: acc).reverse
  | o :: l, fr, σ, acc, f => match stillOp o.op with
    | true => operK X run ops o fr σ fun fr _ => stageK X run ops l fr σ acc f
    | false => operK X run ops o fr σ fun fr σ' => stageK X run ops l fr σ' (σ :: acc) f
noncomputable def readK (X : Env) (run : FuncId → List AV → Store → Tr R) (ops : Array Oper) (o : Oper) (fr : List AV) (stores : List Store) (f : Tr β) : List Nat → Tr β
  | [] => f
  | s :: l => match stores[s]? with
    | none => .fail
    | some σ => operV X run ops o fr σ fun v _ => match o.dst with
      | some d => must (AV.beq v (fr.getD d .any)) (readK X run ops o fr stores f l)
      | none => readK X run ops o fr stores f l
noncomputable def readsK (X : Env) (run : FuncId → List AV → Store → Tr R) (ops : Array Oper) (rest : List Nat) (stores : List Store) (fr : List AV) (f : Tr β) : List Nat → Tr β
  | [] => f
  | i :: l => match ops[i]? with
    | some o => match readsOp o.op with
      | true => readK X run ops o fr stores (readsK X run ops rest stores fr f l) (othersS ops rest i)
      | false => readsK X run ops rest stores fr f l
    | none => readsK X run ops rest stores fr f l
noncomputable def drawK (X : Env) (run : FuncId → List AV → Store → Tr R) (l : List Oper) (fr : List AV) (σ : Store) (f : List AV → Store → Tr β) : Tr β :=
  match Region.lexTailB .any l.toArray (Nat.min (headLen l) (l.length - 1)) with
  | true => seqK X run l.toArray l fr σ f
  | false => match slotsOk l.toArray && backOk l.toArray && chainOk l.toArray (restIdx l.toArray) && Region.noSelect l.toArray with
    | true => stageK X run l.toArray l fr σ [] fun fr stores => readsK X run l.toArray (restIdx l.toArray) stores fr (match stores.getLast? with | some σ' => f fr σ' | none => .fail) (List.range l.length)
    | false => .fail

/-- A branch. -/
noncomputable def ifK (x : AV) (a b : Tr β) : Tr β := asBoolK x fun d => .ask d fun d => cond d a b
/-- How code is cut: 'sub u' is code of which u tells the run, and what comes behind it. -/
inductive Ann (β : Type) where
  | leaf
  | seq (a b : Ann β)
  | cond (a b : Ann β)
  | block (a : Ann β)
  | scope (a : Ann β)
  | sub (u : List AV → Store → Tr β)

abbrev Kont (β : Type) := Exit → List AV → Store → Tr β
/-- Behind the normal end comes f. -/
noncomputable def thenK (f : List AV → Store → Tr β) (k : Kont β) : Kont β := fun e fr σ => match e with
  | .normal => f fr σ
  | e => k e fr σ
noncomputable def blockK (id : Nat) (k : Kont β) : Kont β := fun e fr σ => match e with
  | .exit id' => match Nat.beq id' id with
    | true => k .normal fr σ
    | false => k (.exit id') fr σ
  | e => k e fr σ
/-- No jump is let out. -/
noncomputable def noGotoK (k : Kont β) : Kont β := fun e fr σ => match e with
  | .goto _ => .fail
  | e => k e fr σ
noncomputable def codeK (X : Env) (run : FuncId → List AV → Store → Tr R) : Ann β → Code → List AV → Store → Kont β → Tr β
  | .sub u, _, fr, σ, _ => u fr σ
  | .seq a b, .seq x y, fr, σ, k => codeK X run a x fr σ (thenK (fun fr σ => codeK X run b y fr σ k) k)
  | .cond a b, .cond c x y, fr, σ, k => ifK (evalO X fr c) (codeK X run a x fr σ k) (codeK X run b y fr σ k)
  | .block a, .block id x, fr, σ, k => codeK X run a x fr σ (blockK id k)
  | .scope a, .scope x, fr, σ, k => codeK X run a x fr σ (noGotoK k)
  | .leaf, .skip, fr, σ, k => k .normal fr σ
  | .leaf, .label _, fr, σ, k => k .normal fr σ
  | .leaf, .exit id, fr, σ, k => k (.exit id) fr σ
  | .leaf, .goto l, fr, σ, k => k (.goto l) fr σ
  | .leaf, .ret, fr, σ, k => k .ret fr σ
  | .leaf, .region _ ops false, fr, σ, k => seqK X run ops ops.toList fr σ (k .normal)
  | .leaf, .region _ ops true, fr, σ, k => drawK X run ops.toList fr σ (k .normal)
  | _, _, _, _, _ => .fail

/-- The results. -/
noncomputable def resK (P : Program) (fr : List AV) (σ : Store) : List ResultVar → List AV → (List AV → Tr β) → Tr β
  | [], acc, f => f acc.reverse
  | .tmp t :: l, acc, f => resK P fr σ l (fr.getD t .any :: acc) f
  | .cell a t :: l, acc, f => loadK P σ t (fr.getD a .any) fun v => resK P fr σ l (v :: acc) f
noncomputable def tupK (σ : Store) (l : List AV) : Tr R := match l with
  | [v] => .ret (v, σ)
  | l => .ret (.tup l, σ)
noncomputable def retK (P : Program) (rs : List ResultVar) : Kont R := fun e fr σ => match e with
  | .normal => resK P fr σ rs [] (tupK σ)
  | .ret => resK P fr σ rs [] (tupK σ)
  | _ => .fail
end
end Go.AM
/- The abstract machine: code with what comes behind it: soundness. -/
namespace Go.AM
section
variable {β : Type} {K : β → Prop} {X : Env} {run : FuncId → List AV → Store → Tr R}

theorem evalO_func (fr : List AV) (g : FuncId) : evalO X fr (.func g) = .fn (.func g) [] [] := rfl

theorem operV_sat {ops : Array Oper} {o : Oper} {fr : List AV} {σ : Store} {f : AV → Store → Tr β} (h : (operV X run ops o fr σ f).sat K) :
    (wantA ops fr o.guard).sat fun c => match c with
      | true => (opA X run σ (evalO X fr) o.op).sat fun r => (f r.1 r.2).sat K
      | false => (f (.tup []) σ).sat K := by
  unfold operV at h
  unfold wantA
  split at h
  · rename_i hg
    simp only [hg]
    exact opK_sat (evalO_func fr) h
  · rename_i p hg
    simp only [hg]
    split at h
    · rename_i d hd
      simp only [hd]
      unfold grdK at h
      split at h
      · rename_i b hb
        simp only [hb, Tr.sat]
        simp only [Tr.sat] at h
        have : (b == p.2) = cond p.2 b (!b) := by cases b <;> cases p.2 <;> rfl
        rw [this]
        cases hc : cond p.2 b (!b) with
        | true => rw [hc] at h; exact opK_sat (evalO_func fr) h
        | false => rw [hc] at h; exact h
      · exact h.elim
      · exact h.elim
      · rename_i v h1 h2 h3
        generalize hv : fr.getD d .any = v at h1 h2 h3
        cases v <;> first | exact h | exact (h1 _ rfl).elim | exact (h2 rfl).elim | exact (h3 rfl).elim
    · exact h.elim
theorem operK_sat {ops : Array Oper} {o : Oper} {fr : List AV} {σ : Store} {f : List AV → Store → Tr β} (h : (operK X run ops o fr σ f).sat K) :
    (operA X run ops o fr σ).sat fun r => (f r.1 r.2).sat K := by
  have := operV_sat h
  unfold operA
  rw [Tr.sat_bind]
  refine Tr.sat_mono (fun c hc => ?_) this
  cases c with
  | true => simp only at hc ⊢; rw [Tr.sat_bind]; exact hc
  | false => exact hc
theorem seqK_sat {ops : Array Oper} : ∀ {l : List Oper} {fr : List AV} {σ : Store} {f : List AV → Store → Tr β}, (seqK X run ops l fr σ f).sat K → (seqA X run ops l fr σ).sat fun r => (f r.1 r.2).sat K
  | [], fr, σ, f, h => h
  | o :: l, fr, σ, f, h => by
    unfold seqA
    rw [Tr.sat_bind]
    exact Tr.sat_mono (fun r hr => seqK_sat hr) (operK_sat h)
theorem stageK_sat {ops : Array Oper} : ∀ {l : List Oper} {fr : List AV} {σ : Store} {acc : List Store} {f : List AV → List Store → Tr β}, (stageK X run ops l fr σ acc f).sat K → (stageA X run ops l fr σ acc).sat fun r => (f r.1 r.2).sat K
  | [], fr, σ, acc, f, h => h
  | o :: l, fr, σ, acc, f, h => by
    unfold stageK at h
    unfold stageA
    rw [Tr.sat_bind]
    cases hs : stillOp o.op with
    | true => rw [hs] at h; exact Tr.sat_mono (fun r hr => stageK_sat hr) (operK_sat h)
    | false => rw [hs] at h; exact Tr.sat_mono (fun r hr => stageK_sat hr) (operK_sat h)
theorem readK_sat {ops : Array Oper} {o : Oper} {fr : List AV} {stores : List Store} {f : Tr β} : ∀ {l : List Nat}, (readK X run ops o fr stores f l).sat K → (readAt X run ops o fr stores l).sat (fun _ => f.sat K)
  | [], h => h
  | s :: l, h => by
    unfold readK at h
    unfold readAt
    split at h
    · exact h.elim
    · rename_i σ hσ
      simp only [hσ]
      rw [Tr.sat_bind]
      refine Tr.sat_mono (fun c hc => ?_) (operV_sat h)
      cases c with
      | true =>
        simp only at hc ⊢
        rw [Tr.sat_bind]
        refine Tr.sat_mono (fun r hr => ?_) hc
        cases hd : o.dst with
        | some d =>
          rw [hd] at hr
          obtain ⟨hb, h1⟩ := Tr.sat_must hr
          simp only [must, hb, Tr.sat]
          exact readK_sat h1
        | none => rw [hd] at hr; exact readK_sat hr
      | false =>
        simp only at hc ⊢
        split at hc
        · rename_i d hd
          exact readK_sat (Tr.sat_must hc).2
        · exact readK_sat hc
theorem readsK_sat {ops : Array Oper} {rest : List Nat} {fr : List AV} {stores : List Store} {f : Tr β} : ∀ {l : List Nat}, (readsK X run ops rest stores fr f l).sat K → (readsA X run ops rest stores fr l).sat (fun _ => f.sat K)
  | [], h => h
  | i :: l, h => by
    unfold readsK at h
    unfold readsA
    cases ho : ops[i]? with
    | none => rw [ho] at h; exact readsK_sat h
    | some o =>
      rw [ho] at h
      simp only at h ⊢
      cases hr : readsOp o.op with
      | true =>
        rw [hr] at h
        simp only [cond_true]
        rw [Tr.sat_bind]
        exact Tr.sat_mono (fun _ h1 => readsK_sat h1) (readK_sat h)
      | false => rw [hr] at h; exact readsK_sat h
theorem drawK_sat {l : List Oper} {fr : List AV} {σ : Store} {f : List AV → Store → Tr β} (h : (drawK X run l fr σ f).sat K) : (drawA X run l fr σ).sat fun r => (f r.1 r.2).sat K := by
  unfold drawK at h
  unfold drawA
  simp only
  split at h
  · rename_i hl
    simp only [hl, cond_true]
    exact seqK_sat h
  · rename_i hl
    simp only [hl, cond_false]
    split at h
    · rename_i hs
      simp only [hs, cond_true]
      rw [Tr.sat_bind]
      refine Tr.sat_mono (fun r hr => ?_) (stageK_sat h)
      rw [Tr.sat_bind]
      refine Tr.sat_mono (fun _ hr => ?_) (readsK_sat hr)
      split at hr
      · rename_i σ' hσ; simp only [hσ]; exact hr
      · exact hr.elim
    · exact h.elim

/-- What is told of code with what comes behind it holds. -/
noncomputable def KOK (X : Env) (N : Nat) (c : Code) (fr : List AV) (σ : Store) (t : Tr β) (k : Kont β) : Prop :=
  ∀ (K : β → Prop) (g : Ghost) (a : Act) (w : World), fr.length = N → t.sat K → FR g fr a → Sim g σ w → GR X g → c.wp X.P (Meets g w fun r => r.2.1.length = N ∧ (k r.1 r.2.1 r.2.2).sat K) a w

theorem putA_length (fr : List AV) (d : Option Tmp) (v : AV) : (putA fr d v).length = fr.length := by cases d <;> simp [putA]
theorem operA_length {ops : Array Oper} {o : Oper} {fr : List AV} {σ : Store} {Q : List AV × Store → Prop} (h : (operA X run ops o fr σ).sat Q) : (operA X run ops o fr σ).sat fun r => r.1.length = fr.length ∧ Q r := by
  unfold operA at h ⊢
  rw [Tr.sat_bind] at h ⊢
  refine Tr.sat_mono (fun c hc => ?_) h
  cases c with
  | true => simp only at hc ⊢; rw [Tr.sat_bind] at hc ⊢; exact Tr.sat_mono (fun r hr => ⟨putA_length _ _ _, hr⟩) hc
  | false => exact ⟨putA_length _ _ _, hc⟩
theorem seqA_length {ops : Array Oper} : ∀ {l : List Oper} {fr : List AV} {σ : Store} {Q : List AV × Store → Prop}, (seqA X run ops l fr σ).sat Q → (seqA X run ops l fr σ).sat fun r => r.1.length = fr.length ∧ Q r
  | [], fr, σ, Q, h => ⟨rfl, h⟩
  | o :: l, fr, σ, Q, h => by
    unfold seqA at h ⊢
    rw [Tr.sat_bind] at h ⊢
    refine Tr.sat_mono (fun r hr => ?_) (operA_length h)
    refine Tr.sat_mono (fun r' hr' => ⟨hr'.1.trans hr.1, hr'.2⟩) (seqA_length hr.2)
theorem stageA_length {ops : Array Oper} : ∀ {l : List Oper} {fr : List AV} {σ : Store} {acc : List Store} {Q : List AV × List Store → Prop}, (stageA X run ops l fr σ acc).sat Q → (stageA X run ops l fr σ acc).sat fun r => r.1.length = fr.length ∧ Q r
  | [], fr, σ, acc, Q, h => ⟨rfl, h⟩
  | o :: l, fr, σ, acc, Q, h => by
    unfold stageA at h ⊢
    rw [Tr.sat_bind] at h ⊢
    refine Tr.sat_mono (fun r hr => ?_) (operA_length h)
    obtain ⟨h1, h2⟩ := hr
    cases hs : stillOp o.op with
    | true => rw [hs] at h2; exact Tr.sat_mono (fun r' hr' => ⟨hr'.1.trans h1, hr'.2⟩) (stageA_length h2)
    | false => rw [hs] at h2; exact Tr.sat_mono (fun r' hr' => ⟨hr'.1.trans h1, hr'.2⟩) (stageA_length h2)
theorem drawA_length {l : List Oper} {fr : List AV} {σ : Store} {Q : List AV × Store → Prop} (h : (drawA X run l fr σ).sat Q) : (drawA X run l fr σ).sat fun r => r.1.length = fr.length ∧ Q r := by
  unfold drawA at h ⊢
  simp only at h ⊢
  cases hl : Region.lexTailB .any l.toArray (Nat.min (headLen l) (l.length - 1)) with
  | true => rw [hl] at h; exact seqA_length h
  | false =>
    rw [hl] at h
    simp only [cond_false] at h ⊢
    cases hs : slotsOk l.toArray && backOk l.toArray && chainOk l.toArray (restIdx l.toArray) && Region.noSelect l.toArray with
    | false => rw [hs] at h; exact h.elim
    | true =>
      rw [hs] at h
      simp only [cond_true] at h ⊢
      rw [Tr.sat_bind] at h ⊢
      refine Tr.sat_mono (fun r hr => ?_) (stageA_length h)
      obtain ⟨h1, h2⟩ := hr
      rw [Tr.sat_bind] at h2 ⊢
      refine Tr.sat_mono (fun _ h3 => ?_) h2
      split at h3
      · exact ⟨h1, h3⟩
      · exact h3.elim

/-- What is told of a scope's run, from code c in it on, holds. -/
noncomputable def ScOK (X : Env) (N : Nat) (b c : Code) (fr : List AV) (σ : Store) (t : Tr β) (k : Kont β) : Prop :=
  ∀ (K : β → Prop) (g : Ghost) (a : Act) (w : World), fr.length = N → t.sat K → FR g fr a → Sim g σ w → GR X g →
    ∀ (B : Frame) (k' : List Item) (cs : List Frame), ∃ e a' w', Meets g w (fun r => r.2.1.length = N ∧ (k r.1 r.2.1 r.2.2).sat K) e a' w' ∧ Arrives X.P (lone (B.at a (.code c :: .inScope b :: k')) cs w) B k' cs e a' w'
/-- Jumps to the labels of b go on with u. -/
noncomputable def scopeK (b : Code) (u : Nat → List AV → Store → Tr β) (k : Kont β) : Kont β := fun e fr σ => match e with
  | .goto l => match findLabel b l with
    | some _ => u l fr σ
    | none => .fail
  | e => k e fr σ
theorem ScOK.step {N : Nat} {b c : Code} {fr : List AV} {σ : Store} {t : Tr β} {k : Kont β} {u : Nat → List AV → Store → Tr β} (h : KOK X N c fr σ t (scopeK b u k)) (hu : ∀ l rest, findLabel b l = some rest → ∀ fr σ, ScOK X N b rest fr σ (u l fr σ) k) : ScOK X N b c fr σ t k := by
  intro K g a w hN ht hf hs hG B k' cs
  obtain ⟨e, a₁, w₁, hq, harr⟩ := h K g a w hN ht hf hs hG B (.inScope b :: k') cs
  obtain ⟨fr', σ', g', ⟨h0, h1⟩, h2, h3, h4⟩ := hq
  cases e with
  | normal => exact ⟨.normal, a₁, w₁, ⟨fr', σ', g', ⟨h0, h1⟩, h2, h3, h4⟩, Steps.trans harr (.one step_inScope)⟩
  | exit id => exact ⟨.exit id, a₁, w₁, ⟨fr', σ', g', ⟨h0, h1⟩, h2, h3, h4⟩, fun k' hk => harr k' (by simp [exitTo, hk])⟩
  | goto l =>
    simp only [scopeK] at h1
    cases hl : findLabel b l with
    | none => rw [hl] at h1; exact h1.elim
    | some rest =>
      rw [hl] at h1
      have hg : gotoIn l (.inScope b :: k') = some (.code rest :: .inScope b :: k') := by simp [gotoIn, hl]
      obtain ⟨e₂, a₂, w₂, m₂, harr₂⟩ := hu l rest hl fr' σ' K g' a₁ w₁ h0 h1 h2 h3 (Ghost.GR_mono hG h4.le) B k' cs
      exact ⟨e₂, a₂, w₂, m₂.trans h4, .of_steps (harr _ hg) harr₂⟩
  | ret => exact ⟨_, a₁, w₁, ⟨fr', σ', g', ⟨h0, h1⟩, h2, h3, h4⟩, harr⟩
  | panic ch => exact ⟨_, a₁, w₁, ⟨fr', σ', g', ⟨h0, h1⟩, h2, h3, h4⟩, harr⟩
  | outgrown => exact ⟨_, a₁, w₁, ⟨fr', σ', g', ⟨h0, h1⟩, h2, h3, h4⟩, harr⟩
theorem ScOK.scope {N : Nat} {b : Code} {fr : List AV} {σ : Store} {t : Tr β} {k : Kont β} (h : ScOK X N b b fr σ t k) : KOK X N (.scope b) fr σ t k := by
  intro K g a w hN ht hf hs hG B k' cs
  obtain ⟨e, a', w', hq, harr⟩ := h K g a w hN ht hf hs hG B k' cs
  exact ⟨e, a', w', hq, .of_steps (.one step_scope) harr⟩
theorem KOK.mono {N : Nat} {c : Code} {fr : List AV} {σ : Store} {t : Tr β} {k k' : Kont β} (hk : ∀ e fr σ K, (k e fr σ).sat K → (k' e fr σ).sat K) (h : KOK X N c fr σ t k) : KOK X N c fr σ t k' :=
  fun K g a w hN ht hf hs hG => wp_mono (h K g a w hN ht hf hs hG) fun _ _ _ ⟨fr', σ', g', ⟨h0, h1⟩, h2⟩ => ⟨fr', σ', g', ⟨h0, hk _ _ _ K h1⟩, h2⟩
theorem KOK.noGoto {N : Nat} {b : Code} {fr : List AV} {σ : Store} {t : Tr β} {k : Kont β} (h : KOK X N b fr σ t (noGotoK k)) : KOK X N (.scope b) fr σ t k := by
  refine ScOK.scope (ScOK.step (u := fun _ _ _ => .fail) (KOK.mono (k := noGotoK k) (fun e fr σ K hs => ?_) h) (fun l rest hl fr σ K g a w _ ht => ht.elim))
  unfold noGotoK at hs
  unfold scopeK
  cases e <;> first | exact hs.elim | exact hs

/-- What the cuts owe. -/
noncomputable def Owes (X : Env) (run : FuncId → List AV → Store → Tr R) (N : Nat) : Ann β → Code → Kont β → Prop
  | .sub u, c, k => ∀ fr σ, KOK X N c fr σ (u fr σ) k
  | .seq a b, .seq x y, k => Owes X run N a x (thenK (fun fr σ => codeK X run b y fr σ k) k) ∧ Owes X run N b y k
  | .cond a b, .cond _ x y, k => Owes X run N a x k ∧ Owes X run N b y k
  | .block a, .block id x, k => Owes X run N a x (blockK id k)
  | .scope a, .scope x, k => Owes X run N a x (noGotoK k)
  | _, _, _ => True

theorem codeK_sound (hX : EnvOK X) (hrun : RunOK X run) {N : Nat} : ∀ (ann : Ann β) (c : Code) (fr : List AV) (σ : Store) (k : Kont β), Owes X run N ann c k → KOK X N c fr σ (codeK X run ann c fr σ k) k
  | .sub u, c, fr, σ, k, h => by simpa only [codeK] using h fr σ
  | .seq a b, c, fr, σ, k, h => by
    cases c <;> first | (exact fun K g a w _ h => h.elim) | skip
    rename_i x y
    intro K g a' w hN ht hf hs hG
    refine wp_seq (wp_mono (codeK_sound hX hrun a x fr σ _ h.1 K g a' w hN ht hf hs hG) (exit_then ?_ ?_))
    · intro fr' σ' g' a'' w' h1 h2 h3 h4
      exact wp_mono (codeK_sound hX hrun b y fr' σ' k h.2 K g' a'' w' h1.1 h1.2 h2 h3 (Ghost.GR_mono hG h4.le)) fun e a w m => m.trans h4
    · intro e fr' σ' hne h1
      refine ⟨h1.1, ?_⟩
      have h2 := h1.2
      unfold thenK at h2
      cases e <;> first | exact (hne rfl).elim | exact h2
  | .cond a b, c, fr, σ, k, h => by
    cases c <;> first | (exact fun K g a w _ h => h.elim) | skip
    rename_i cnd x y
    intro K g a' w hN ht hf hs hG
    obtain ⟨d, hd, h1⟩ := asBoolK_sat (show (asBoolK (evalO X fr cnd) fun d => .ask d fun d => cond d (codeK X run a x fr σ k) (codeK X run b y fr σ k)).sat K from ht)
    have hv := hf.er hG cnd
    rw [hd] at hv
    generalize hu : a'.eval cnd = u at hv
    cases hv
    refine wp_cond hu ?_
    cases d with
    | true => exact codeK_sound hX hrun a x fr σ k h.1 K g a' w hN h1 hf hs hG
    | false => exact codeK_sound hX hrun b y fr σ k h.2 K g a' w hN h1 hf hs hG
  | .block a, c, fr, σ, k, h => by
    cases c <;> first | (exact fun K g a w _ h => h.elim) | skip
    rename_i id x
    intro K g a' w hN ht hf hs hG
    refine wp_block (wp_mono (codeK_sound hX hrun a x fr σ _ h K g a' w hN ht hf hs hG) ?_)
    rintro e a'' w' ⟨fr', σ', g', ⟨h0, h1⟩, h2, h3, h4⟩
    cases e with
    | exit id' =>
      simp only [Exit.inBlock]
      simp only [blockK] at h1
      cases hid : Nat.beq id' id with
      | true =>
        rw [hid] at h1
        rw [if_pos (Nat.eq_of_beq_eq_true hid)]
        exact ⟨fr', σ', g', ⟨h0, h1⟩, h2, h3, h4⟩
      | false =>
        rw [hid] at h1
        rw [if_neg (fun e => by rw [e, Nat.beq_refl] at hid; cases hid)]
        exact ⟨fr', σ', g', ⟨h0, h1⟩, h2, h3, h4⟩
    | _ => exact ⟨fr', σ', g', ⟨h0, h1⟩, h2, h3, h4⟩
  | .scope a, c, fr, σ, k, h => by
    cases c <;> first | (exact fun K g a w _ h => h.elim) | skip
    exact KOK.noGoto (codeK_sound hX hrun a _ fr σ _ h)
  | .leaf, c, fr, σ, k, h => by
    intro K g a w hN ht hf hs hG
    cases c with
    | skip => exact wp_skip ⟨fr, σ, g, ⟨hN, ht⟩, hf, hs, .refl g w⟩
    | label l => exact wp_label ⟨fr, σ, g, ⟨hN, ht⟩, hf, hs, .refl g w⟩
    | exit id => exact wp_exit ⟨fr, σ, g, ⟨hN, ht⟩, hf, hs, .refl g w⟩
    | goto l => exact wp_goto ⟨fr, σ, g, ⟨hN, ht⟩, hf, hs, .refl g w⟩
    | ret => exact wp_ret ⟨fr, σ, g, ⟨hN, ht⟩, hf, hs, .refl g w⟩
    | region id ops draw =>
      cases draw with
      | false =>
        have h1 := seqA_length (seqK_sat (show (seqK X run ops ops.toList fr σ (k .normal)).sat K from ht))
        exact wp_region_list (seq_sound hX hrun ops.toList hG hs hf h1 fun fr' σ' a' w' g' h1 h2 h3 h4 => ⟨fr', σ', g', ⟨h1.1.trans hN, h1.2⟩, h2, h3, h4⟩)
      | true =>
        have h1 := drawA_length (drawK_sat (show (drawK X run ops.toList fr σ (k .normal)).sat K from ht))
        exact draw_sound hX hrun hG hs hf h1 fun fr' σ' a' w' g' h1 h2 h3 h4 => ⟨fr', σ', g', ⟨h1.1.trans hN, h1.2⟩, h2, h3, h4⟩
    | _ => exact ht.elim
/-- A piece that is not run. -/
noncomputable def deadK (fr : List AV) (σ : Store) : Tr β := .fail
theorem KOK.dead {N : Nat} {c : Code} {k : Kont β} : ∀ fr σ, KOK X N c fr σ (deadK fr σ) k := fun _ _ K g a w _ h => h.elim
end
end Go.AM
