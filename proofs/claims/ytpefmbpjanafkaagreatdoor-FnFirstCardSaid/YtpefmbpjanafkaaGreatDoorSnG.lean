/- The abstract machine: indexes, conversions, assertions, lengths, structs; all of what leaves the world alone, together. -/
import Derived.Test.YtpefmbpjanafkaaGreatDoorSnB
set_option linter.unusedVariables false
set_option linter.unusedSimpArgs false
namespace Go.AM

section
variable {P : Program} {g : Ghost} {σ : Store} {w : World}

theorem indexAddr_soundR {t e : TypeId} (hu : P.underlying t = some (.slice e)) {id : Nat} {o c : Int} {os ts : List Tm} {i : AV} {v u : Value} (hx : VR g (.rsl id o os c ts) v) (hi : VR g i u) {K : AV → Prop} (h : (idxR P e id o os c ts i).sat K) : Owe P g w (Instr.indexAt t v u) K := by
  unfold idxR at h
  split at h
  case h_2 => exact h.elim
  rename_i n hn hz
  obtain ⟨hm, hq⟩ := Tr.sat_must h
  simp only [Bool.and_eq_true, leI_eq, decide_eq_true_eq] at hm
  obtain ⟨m1, m2⟩ := hm
  obtain ⟨t1, rfl⟩ := sym_lin hi hn
  cases hx with
  | rsl _ _ _ _ _ a off len cp hO hT ho h0 hlc h1 h2 h3 =>
  obtain ⟨n1, n2⟩ := negTs_ok t1
  obtain ⟨s5, s6⟩ := addTs_ok n1 hT
  obtain ⟨s7, s8⟩ := addTs_ok t1 hO
  have k1 := min_ok t1
  have k4 := min_ok s5
  obtain ⟨L, hL⟩ : ∃ L : Nat, (L : Int) = n.1 + tval g.sv n.2 := ⟨(n.1 + tval g.sv n.2).toNat, by omega⟩
  have hLl : L < len := by omega
  refine ⟨_, .pointer (some (a.add (L * 1))), hq, ?_, ?_⟩
  · refine .rptr _ _ _ _ (off + L) s7 ?_ h1 (fun b n hp => ?_)
    · rw [s8]; push_cast; omega
    · obtain ⟨rfl, h5⟩ := h2 b n hp
      rw [addr_add, Nat.mul_one]
  · rw [← hL]
    simp only [Instr.indexAt, Sem.run_bind, run_asIntOf, Result.andThen_ok, run_und hu]
    simp [hLl, run_size hz]
theorem indexAddr_sound0 {t : TypeId} {x i : AV} {v u : Value} (hx : VR g x v) (hi : VR g i u) {K : AV → Prop} (h : (indexAddrA0 P t x i).sat K) : Owe P g w (Instr.indexAt t v u) K := by
  unfold indexAddrA0 at h
  split at h
  case h_2 => exact h.elim
  rename_i k n
  cases hi
  split at h
  · rename_i len e id off hu
    obtain ⟨z, hz, h⟩ := Tr.sat_opt h
    obtain ⟨hm, h⟩ := Tr.sat_must h
    simp only [Bool.and_eq_true, decide_eq_true_eq] at hm
    cases hx with
    | ptr _ _ a h1 h2 =>
    refine .of h (v := .pointer (some (a.add (n.toNat * z)))) (.ptr _ _ _ h1 fun b n hb => by rw [h2 b n hb, addr_add]) ?_
    simp only [Instr.indexAt, Sem.run_bind, run_asIntOf, Result.andThen_ok, run_und hu, Instr.sureAddr]
    simp [hm.1, hm.2, run_size hz]
  · rename_i len e cs off hu
    obtain ⟨z, hz, h⟩ := Tr.sat_opt h
    obtain ⟨hm, h⟩ := Tr.sat_must h
    simp only [Bool.and_eq_true, decide_eq_true_eq] at hm
    cases hx with
    | ref _ _ b hI =>
    refine .of h (v := .pointer (some ⟨b, off + n.toNat * z, none⟩)) (.ref _ _ _ hI) ?_
    simp only [Instr.indexAt, Sem.run_bind, run_asIntOf, Result.andThen_ok, run_und hu, Instr.sureAddr]
    simp [hm.1, hm.2, run_size hz, addr_add]
  · rename_i e id off len cap z' hu
    obtain ⟨z, hz, h⟩ := Tr.sat_opt h
    obtain ⟨hm, h⟩ := Tr.sat_must h
    simp only [Bool.and_eq_true, decide_eq_true_eq] at hm
    cases hx with
    | slice _ _ _ _ _ a c h1 h2 hcb =>
    refine .of h (v := .pointer (some (a.add (n.toNat * z)))) (.ptr _ _ _ h1 fun b n hb => by rw [(h2 b n hb).1, addr_add]) ?_
    simp only [Instr.indexAt, Sem.run_bind, run_asIntOf, Result.andThen_ok, run_und hu]
    simp [hm.1, hm.2, run_size hz]
  · rename_i e cs off len hu
    obtain ⟨z, hz, h⟩ := Tr.sat_opt h
    obtain ⟨hm, h⟩ := Tr.sat_must h
    simp only [Bool.and_eq_true, decide_eq_true_eq] at hm
    cases hx with
    | rslice _ _ _ b c hI hc =>
    refine .of h (v := .pointer (some ⟨b, off + n.toNat * z, none⟩)) (.ref _ _ _ hI) ?_
    simp only [Instr.indexAt, Sem.run_bind, run_asIntOf, Result.andThen_ok, run_und hu]
    simp [hm.1, hm.2, run_size hz, addr_add]
  · exact h.elim

theorem indexAddr_sound {t : TypeId} {x i : AV} {v u : Value} (hx : VR g x v) (hi : VR g i u) {K : AV → Prop} (h : (indexAddrA P t x i).sat K) : Owe P g w (Instr.indexAt t v u) K := by
  unfold indexAddrA at h
  split at h
  · split at h
    · exact indexAddr_soundR ‹_› hx hi h
    · exact h.elim
  · split at h
    · rename_i e hu
      cases hx with
      | bsl _ _ _ a len cp hT h0 h1 h2 h3 =>
      unfold idxR at h
      split at h
      case h_2 => exact h.elim
      rename_i n hn hz
      obtain ⟨hm, hq⟩ := Tr.sat_must h
      simp only [Bool.and_eq_true, leI_eq, decide_eq_true_eq] at hm
      obtain ⟨m1, m2⟩ := hm
      obtain ⟨t1, rfl⟩ := sym_lin hi hn
      obtain ⟨n1, n2⟩ := negTs_ok t1
      obtain ⟨s5, s6⟩ := addTs_ok n1 hT
      obtain ⟨s7, s8⟩ := addTs_ok t1 (b := []) trivial
      have k1 := min_ok t1
      have k4 := min_ok s5
      obtain ⟨L, hL⟩ : ∃ L : Nat, (L : Int) = n.1 + tval g.sv n.2 := ⟨(n.1 + tval g.sv n.2).toNat, by omega⟩
      have hLl : L < len := by omega
      refine ⟨_, .pointer (some (a.add (L * 1))), hq, ?_, ?_⟩
      · refine .rptr _ _ _ _ L s7 ?_ h1 (fun b n hp => ?_)
        · rw [s8]; simp only [tval]; omega
        · obtain ⟨rfl, h5⟩ := h2 b n hp
          rw [addr_add, Nat.mul_one, Nat.zero_add]
      · rw [← hL]
        simp only [Instr.indexAt, Sem.run_bind, run_asIntOf, Result.andThen_ok, run_und hu]
        simp [hLl, run_size hz]
    · exact h.elim
  · exact indexAddr_sound0 hx hi h

theorem index_sound0 {t : TypeId} {x i : AV} {v u : Value} (hx : VR g x v) (hi : VR g i u) {K : AV → Prop} (h : (indexA0 P t x i).sat K) : Owe P g w (Instr.index t v u) K := by
  unfold indexA0 at h
  split at h
  case h_2 => exact h.elim
  rename_i k n
  cases hi
  split at h
  · rename_i s hu
    obtain ⟨hm, h⟩ := Tr.sat_must h
    simp only [Bool.and_eq_true, decide_eq_true_eq] at hm
    cases hx
    refine .of h (.int _ _) ?_
    have hlt : n.toNat < s.length := by omega
    have e1 : (⟨s.toArray⟩ : ByteArray)[n.toNat]? = some s[n.toNat] := by
      have : n.toNat < (⟨s.toArray⟩ : ByteArray).size := by rw [size_mk]; exact hlt
      exact (getElem?_pos (⟨s.toArray⟩ : ByteArray) n.toNat this).trans rfl
    simp only [Instr.index, Sem.run_bind, run_asIntOf, Result.andThen_ok, run_und hu, hm.1, if_true, e1]
    simp [List.getD, hlt]
  · rename_i len e cs hu
    obtain ⟨z, hz, h⟩ := Tr.sat_opt h
    obtain ⟨hm, h⟩ := Tr.sat_must h
    obtain ⟨r, hr, h⟩ := Tr.sat_opt h
    simp only [Bool.and_eq_true, decide_eq_true_eq] at hm
    cases hx with
    | agg hv =>
    obtain ⟨r', h1, h2⟩ := part_sound (P := P) (w := w) hv hr
    refine .of h h1 ?_
    simp only [Instr.index, Sem.run_bind, run_asIntOf, Result.andThen_ok, run_und hu]
    simp [hm.1, hm.2, run_size hz, h2]
  · exact h.elim

theorem mapQ_head {m : Nat} (h : m = 7 ∨ m = 8) (c : UInt8) : (mapB m c).head? = some 38 := by
  rcases h with rfl | rfl <;> rfl
theorem headQ_ok {l : List Seg} {n : Int} {ts : List Tm} (h : headQ l n ts = true) (hl : SegsOK g.sv l) (ht : TsOK g.sv ts) : (den g.sv l)[(n + tval g.sv ts).toNat]? = some 38 := by
  unfold headQ at h
  split at h
  case h_2 => cases h
  rename_i p k cls lo hi r hs
  simp only [Bool.and_eq_true, Bool.or_eq_true, Nat.blt_eq] at h
  obtain ⟨h1, h2, h3, h4⟩ := symSplit_ok hs hl ht
  have h5 : lo ≤ (g.sv k).length := h4.1.1
  have hk : k % 16 = 7 ∨ k % 16 = 8 := h.2.imp (fun e => Nat.eq_of_beq_eq_true e) fun e => Nat.eq_of_beq_eq_true e
  have h6 : (g.sv k).head? = some 38 := by
    unfold Ghost.sv at h5 ⊢
    cases hb : g.bv (k / 16) with
    | nil => rw [hb] at h5; simp at h5; omega
    | cons c s =>
      rw [List.flatMap_cons]
      have := mapQ_head hk c
      cases hm : mapB (k % 16) c with
      | nil => rw [hm] at this; cases this
      | cons d t => rw [hm] at this; cases this; rfl
  have e : den g.sv (p, Seg.w k cls lo hi :: r).1 = den g.sv p := rfl
  rw [e] at h1 h2
  rw [h1, List.getElem?_append_right (by omega), show (n + tval g.sv ts).toNat - (den g.sv p).length = 0 by omega]
  show (g.sv k ++ den g.sv r)[0]? = _
  cases hg : g.sv k with
  | nil => rw [hg] at h6; cases h6
  | cons d t => rw [hg] at h6; cases h6; rfl
theorem symAtQ_ok {l : List Seg} {n : Int} {ts : List Tm} {r : AV} (h : symAtQ l n ts = some r) (hl : SegsOK g.sv l) (ht : TsOK g.sv ts) :
    0 ≤ n + tval g.sv ts ∧ n + tval g.sv ts < (den g.sv l).length ∧ ∀ c, (den g.sv l)[(n + tval g.sv ts).toNat]? = some c → r = .int .u8 c.toNat ∨ ∃ cl, r = .cls cl ∧ c ∈ cl := by
  unfold symAtQ at h
  split at h
  · rename_i cl hs
    obtain ⟨a1, a2, a3⟩ := symAt_ok hs hl ht
    cases hq : headQ l n ts with
    | true =>
      rw [hq, cond_true] at h
      cases h
      refine ⟨a1, a2, fun c hc => .inl ?_⟩
      rw [headQ_ok hq hl ht] at hc
      cases hc
      rfl
    | false => rw [hq, cond_false] at h; cases h; exact ⟨a1, a2, a3⟩
  · exact symAt_ok h hl ht
theorem index_sound {t : TypeId} {x i : AV} {v u : Value} (hx : VR g x v) (hi : VR g i u) {K : AV → Prop} (h : (indexA P t x i).sat K) : Owe P g w (Instr.index t v u) K := by
  unfold indexA at h
  split at h
  · rename_i r hu hr
    unfold symIdx at hr
    rcases cond_yes hr with ⟨_, hr⟩ | ⟨_, hr⟩
    case inr => cases hr
    split at hr
    case h_2 => cases hr
    rename_i l n hl hn
    obtain ⟨l1, rfl⟩ := sym_segs hx hl
    obtain ⟨n1, rfl⟩ := sym_lin hi hn
    obtain ⟨e1, e2, e3⟩ := symAtQ_ok hr l1 n1
    have hlt : (n.1 + tval g.sv n.2).toNat < (den g.sv l).length := by omega
    have main : (indexA0 P t (.str (den g.sv l)) (.int .i64 (n.1 + tval g.sv n.2))).sat fun z => z = .int .u8 ((den g.sv l).getD (n.1 + tval g.sv n.2).toNat 0).toNat := by
      unfold indexA0
      simp only [hu, must, Tr.sat, e1, e2, decide_true, Bool.and_self]
    obtain ⟨z, v', e, h5, h6⟩ := index_sound0 (P := P) (w := w) (g := g) (.str _) (.int _ _) main
    subst e
    cases h5
    refine ⟨_, _, h, ?_, h6⟩
    have hc := e3 _ (List.getElem?_eq_getElem hlt)
    have hg : (den g.sv l).getD (n.1 + tval g.sv n.2).toNat 0 = (den g.sv l)[(n.1 + tval g.sv n.2).toNat] := by simp [List.getD, hlt]
    rw [hg]
    rcases hc with rfl | ⟨cl, rfl, hm⟩
    · exact .int _ _
    · exact .cls cl _ hm
  · exact index_sound0 hx hi h

theorem extract_sound {x r : AV} {l : List AV} {v : Value} {i : Nat} (hx : VR g x v) (h : x = .tup l) (hr : l[i]? = some r) : ∃ r', VR g r r' ∧ (Instr.extract v i).run P w = .ok r' w := by
  subst h
  cases hx with
  | tup hv =>
  obtain ⟨r', h1, h2⟩ := hv.get _ _ hr
  exact ⟨r', h2, by simp [Instr.extract, h1]⟩

theorem len_sound {t ty : TypeId} {x : AV} {n : Int} {v : Value} (hx : VR g x v) (h : lenA P t x = some n) : (Builtin.len_ #[t] ty #[v]).run P w = .ok (.int .i64 n) w := by
  unfold lenA at h
  split at h <;> first | (cases h; done) | skip
  all_goals (rename_i hu; cases h)
  case h_6 => simp [Builtin.len_, run_und hu, goInt]
  all_goals (cases hx; simp [Builtin.len_, run_und hu, goInt])
  rfl

theorem lenAV_sound {t ty : TypeId} {x r : AV} {v : Value} (hx : VR g x v) (h : lenAV P t x = some r) : ∃ u, VR g r u ∧ (Builtin.len_ #[t] ty #[v]).run P w = .ok u w := by
  unfold lenAV at h
  split at h
  · rename_i r' hu hr
    cases h
    unfold symLen at hr
    split at hr
    case h_2 => cases hr
    rename_i l
    cases hr
    cases hx with
    | sstr _ hl =>
    obtain ⟨h1, h2⟩ := segLen_ok hl
    have h3 := len_sound (P := P) (w := w) (t := t) (ty := ty) (n := (den g.sv l).length) (.str (g := g) (den g.sv l)) (by unfold lenA; rw [hu])
    refine ⟨_, ?_, h3⟩
    rw [h2]
    exact VR_mkLin h1
  · rename_i e0 _ hu
    split at h
    · rename_i id c ts
      cases h
      cases hx with
      | bsl _ _ _ a len cp hT h0 h1 h2 h3 =>
      refine ⟨.int .i64 len, by rw [h0]; exact VR_mkLin hT, ?_⟩
      simp [Builtin.len_, run_und hu, goInt]
    · rename_i id o os c ts
      cases h
      cases hx with
      | rsl _ _ _ _ _ a off len cp hO hT ho h0 hlc h1 h2 h3 =>
      refine ⟨.int .i64 len, by rw [h0]; exact VR_mkLin hT, ?_⟩
      simp [Builtin.len_, run_und hu, goInt]
    · simp only [Option.map_eq_some_iff] at h
      obtain ⟨n, hn, rfl⟩ := h
      exact ⟨_, .int _ _, len_sound hx hn⟩
  · simp only [Option.map_eq_some_iff] at h
    obtain ⟨n, hn, rfl⟩ := h
    exact ⟨_, .int _ _, len_sound hx hn⟩

theorem zeroT_some {t : TypeId} {z : List AV} (h : zeroT P t = some z) : ∃ i zv, P.info? t = some i ∧ i.zero = some zv ∧ z = (ofV zv).cells := by
  simp only [zeroT, Option.map_eq_some_iff, Option.bind_eq_some_iff] at h
  obtain ⟨zv, ⟨i, h1, h2⟩, h3⟩ := h
  exact ⟨i, zv, h1, h2, h3.symm⟩
theorem VRs_cells {a : AV} {v : Value} (h : VR g a v) (hn : nonAny a = true) : VRs g a.cells v.cells.toList := by
  cases h <;> first | (cases hn; done) | exact .cons (by constructor <;> assumption) .nil | skip
  case agg h => exact h
theorem ofV_any_cells (v : Value) (h : nonAny (ofV v) = true ∨ (ofV v) = .any ∧ v.cells.size = 1) : VRs g (ofV v).cells v.cells.toList := by
  rcases h with h | ⟨h1, h2⟩
  · exact VRs_cells (VR_ofV g v) h
  · rw [h1]
    have : ∃ x, v.cells.toList = [x] := by
      rw [← Array.length_toList] at h2
      match v.cells.toList, h2 with
      | [x], _ => exact ⟨x, rfl⟩
    obtain ⟨x, hx⟩ := this
    rw [hx]; exact .cons (.any _) .nil
theorem cells_one (v : Value) (h : ofV v = .any) : v.cells.size = 1 := by
  cases v <;> first | rfl | (rename_i cs; cases cs; simp [ofV] at h)
theorem VRs_zero (v : Value) : VRs g (ofV v).cells v.cells.toList := by
  refine ofV_any_cells v ?_
  cases h : ofV v <;> simp [nonAny]
  exact cells_one v h
theorem zero_sound {t : TypeId} {z : List AV} (h : zeroT P t = some z) : ∃ zv, (zeroValue t).run P w = .ok zv w ∧ VRs g z zv.cells.toList := by
  obtain ⟨i, zv, h1, h2, rfl⟩ := zeroT_some h
  exact ⟨zv, by simp [zeroValue, run_info h1, h2], VRs_zero zv⟩

theorem zeroV_sound {t : TypeId} {z : AV} (h : zeroV P t = some z) : ∃ zv, (zeroValue t).run P w = .ok zv w ∧ VR g z zv := by
  simp only [zeroV, Option.map_eq_some_iff, Option.bind_eq_some_iff] at h
  obtain ⟨zv, ⟨i, h1, h2⟩, rfl⟩ := h
  exact ⟨zv, by simp [zeroValue, run_info h1, h2], VR_ofV g zv⟩

theorem tup2 {a : AV} {v : Value} (h : VR g a v) (b : Bool) : VR g (.tup [a, .bool b]) (.tuple #[v, .bool b]) := .tup (.cons h (.cons (.bool b) .nil))

theorem typeAssert_sound {x r : AV} {a xt : TypeId} {ok : Bool} {v : Value} (hx : VR g x v) (h : typeAssertA P x a ok = some r) : ∃ r', VR g r r' ∧ (Instr.typeAssert v xt a ok).run P w = .ok r' w := by
  unfold typeAssertA at h
  split at h
  · rename_i ms hu
    cases hx
    cases ok with
    | false => cases h
    | true =>
      simp only [cond_true, Option.map_eq_some_iff] at h
      obtain ⟨z, hz, rfl⟩ := h
      obtain ⟨zv, h1, h2⟩ := zeroV_sound (g := g) (w := w) hz
      exact ⟨_, tup2 h2 false, by simp [Instr.typeAssert, run_und hu, h1]⟩
  · cases h
  · rename_i d hn hu
    cases hx
    cases ok with
    | false => cases h
    | true =>
      simp only [cond_true, Option.map_eq_some_iff] at h
      obtain ⟨z, hz, rfl⟩ := h
      obtain ⟨zv, h1, h2⟩ := zeroV_sound (g := g) (w := w) hz
      refine ⟨_, tup2 h2 false, ?_⟩
      cases d <;> first | (exact (hn _ rfl).elim) | (simp [Instr.typeAssert, run_und hu, h1])
  · rename_i d t x hn hu
    cases hx with
    | iface _ hx =>
    rename_i v'
    cases hta : Nat.beq t a with
    | true =>
      rw [hta] at h
      simp only [cond_true, Option.some.injEq] at h
      have hta' : t = a := Nat.eq_of_beq_eq_true hta
      subst hta'
      cases ok with
      | true => refine ⟨_, by rw [← h]; exact tup2 hx true, ?_⟩; cases d <;> first | (exact (hn _ rfl).elim) | (simp [Instr.typeAssert, run_und hu])
      | false => refine ⟨_, by rw [← h]; exact hx, ?_⟩; cases d <;> first | (exact (hn _ rfl).elim) | (simp [Instr.typeAssert, run_und hu])
    | false =>
      rw [hta] at h
      have hta' : t ≠ a := fun e => by rw [e, Nat.beq_refl] at hta; cases hta
      cases ok with
      | false => cases h
      | true =>
        simp only [cond_true, cond_false, Option.map_eq_some_iff] at h
        obtain ⟨z, hz, rfl⟩ := h
        obtain ⟨zv, h1, h2⟩ := zeroV_sound (g := g) (w := w) hz
        refine ⟨_, tup2 h2 false, ?_⟩
        cases d <;> first | (exact (hn _ rfl).elim) | (simp [Instr.typeAssert, run_und hu, h1, hta'])
  · cases h

/-- The like over real values. -/
noncomputable def over' : List Value → Nat → List Value → List Value
  | cs, _, [] => cs
  | cs, off, v :: l => over' (cs.set off v) (off + 1) l
theorem over_append {cs : List AV} {l : List Value} (h : VRs g cs l) : ∀ {xs : List AV} {ys : List Value} (off : Nat), VRs g xs ys → VRs g (over cs off xs) (over' l off ys) := by
  intro xs
  induction xs generalizing cs l with
  | nil => intro ys off hx; cases hx; exact h
  | cons a xs ih => intro ys off hx; cases hx with | cons h1 hs => exact ih (h.set off h1) (off + 1) hs

theorem fold_over (off : Nat) : ∀ (l : List Value) (k : Nat) (cells : Array Value), ((l.zipIdx k).foldl (fun cs (x : Value × Nat) => cs.setIfInBounds (off + x.2) x.1) cells).toList = over' cells.toList (off + k) l
  | [], _, _ => rfl
  | v :: l, k, cells => by
    simp only [List.zipIdx_cons, List.foldl_cons, over']
    rw [fold_over off l (k + 1), Array.toList_setIfInBounds]; rfl
theorem over'_length : ∀ (l : List Value) (cs : List Value) (off : Nat), (over' cs off l).length = cs.length
  | [], _, _ => rfl
  | v :: l, cs, off => by rw [over', over'_length l]; simp

theorem cells_length {a : AV} {v : Value} (h : VR g a v) (hn : nonAny a = true) : a.cells.length = v.cells.size := by
  rw [(VRs_cells h hn).length, Array.length_toList]

theorem fill_sound {place : Nat → Option (Nat × Nat)} : ∀ (parts : List (Nat × AV)) (parts' : List (Nat × Value)) (cells : List AV) (cells' : Array Value) (r : List AV),
    parts.length = parts'.length → (∀ (i : Nat) p p', parts[i]? = some p → parts'[i]? = some p' → p.1 = p'.1 ∧ VR g p.2 p'.2) → VRs g cells cells'.toList → fillA place cells parts = some r →
    ∃ r', Instr.fill place cells' parts' = some r' ∧ VRs g r r'.toList
  | [], [], cells, cells', r, _, _, hc, h => by cases h; exact ⟨cells', rfl, hc⟩
  | [], _ :: _, _, _, _, hl, _, _, _ => by simp at hl
  | _ :: _, [], _, _, _, hl, _, _, _ => by simp at hl
  | (i, v) :: parts, (i', v') :: parts', cells, cells', r, hl, hp, hc, h => by
    obtain ⟨he, hv⟩ := hp 0 (i, v) (i', v') rfl rfl
    simp only at he hv
    subst he
    unfold fillA at h
    split at h
    case h_1 => cases h
    rename_i off size hpl
    obtain ⟨hcond, h⟩ := cond_some h
    simp only [Bool.and_eq_true] at hcond
    obtain ⟨⟨c1, c2⟩, c3⟩ := hcond
    have c3' : nonAny v = true := by cases v <;> first | rfl | (cases c3)
    have c1' : v.cells.length = size := Nat.eq_of_beq_eq_true c1
    have c2' : off + v.cells.length ≤ cells.length := by simpa using c2
    have hlen := cells_length hv c3'
    have hcl : cells.length = cells'.size := by rw [hc.length, Array.length_toList]
    have hover : VRs g (over cells off v.cells) (v'.cells.zipIdx.foldl (fun cs (x : Value × Nat) => cs.setIfInBounds (off + x.2) x.1) cells').toList := by
      rw [← Array.foldl_toList, Array.toList_zipIdx, fold_over off _ 0]
      exact over_append hc off (VRs_cells hv c3')
    obtain ⟨r', h1, h2⟩ := fill_sound parts parts' _ _ r (by simpa using hl) (fun j p p' hj hj' => hp (j + 1) p p' (by simpa using hj) (by simpa using hj')) hover h
    refine ⟨r', ?_, h2⟩
    unfold Instr.fill
    simp only [hpl]
    rw [if_neg (by simp; omega)]
    exact h1

/-- Operands read alike. -/
noncomputable def ER (g : Ghost) (ρ : Operand → AV) (ρ' : Operand → Value) : Prop := ∀ x, VR g (ρ x) (ρ' x)

theorem parts_get {ρ : Operand → AV} {ρ' : Operand → Value} (h : ER g ρ ρ') (l : List (Nat × Operand)) (i : Nat) (p : Nat × AV) (p' : Nat × Value) (h1 : (l.map fun q => (q.1, ρ q.2))[i]? = some p) (h2 : (l.map fun q => (q.1, ρ' q.2))[i]? = some p') :
    p.1 = p'.1 ∧ VR g p.2 p'.2 := by
  simp only [List.getElem?_map, Option.map_eq_some_iff] at h1 h2
  obtain ⟨q, hq, rfl⟩ := h1
  obtain ⟨q', hq', rfl⟩ := h2
  rw [hq] at hq'; cases hq'
  exact ⟨rfl, h _⟩

theorem build_struct {t : TypeId} {fs : Array Field} (hu : P.underlying t = some (.struct fs)) {ρ : Operand → AV} {ρ' : Operand → Value} (h : ER g ρ ρ') {parts : Array (Nat × Operand)} {z r : List AV} (hz : zeroT P t = some z)
    (hf : fillA (fieldPlaces P fs) z (parts.toList.map fun q => (q.1, ρ q.2)) = some r) (hall : ∀ f ∈ fs.toList, ∃ n, sizeT P f.type = some n) :
    ∃ r', VR g (.agg r) r' ∧ (Instr.build t (parts.map fun (i, x) => (i, ρ' x))).run P w = .ok r' w := by
  obtain ⟨zv, hz1, hz2⟩ := zero_sound (g := g) (w := w) hz
  have hm : (fs.mapM fun f => (do pure (f.offset, ← sizeOf f.type) : Sem (Nat × Nat))).run P w = .ok (fs.map fun f => (f.offset, ((sizeT P f.type).getD 0))) w := by
    rw [Array.mapM_eq_mapM_toList]
    have : ∀ l : List Field, (∀ f ∈ l, ∃ n, sizeT P f.type = some n) → (l.mapM fun f => (do pure (f.offset, ← sizeOf f.type) : Sem (Nat × Nat))).run P w = .ok (l.map fun f => (f.offset, ((sizeT P f.type).getD 0))) w := by
      intro l
      induction l with
      | nil => intro _; rfl
      | cons f l ih =>
        intro hl
        obtain ⟨n, hn⟩ := hl f (List.mem_cons_self ..)
        simp only [List.mapM_cons, Sem.run_bind, Sem.run_pure, run_size hn, Result.andThen_ok, ih fun f' hf' => hl f' (List.mem_cons_of_mem _ hf'), List.map_cons, hn, Option.getD_some]
    have h2 := this fs.toList hall
    simp only [Sem.run_map, h2, Result.andThen_ok]
    rw [← Array.toList_map]
  obtain ⟨r', h1, h2⟩ := fill_sound (g := g) (place := fieldPlaces P fs) (parts.toList.map fun q => (q.1, ρ q.2)) (parts.toList.map fun q => (q.1, ρ' q.2)) z zv.cells r (by simp) (parts_get h _) hz2 hf
  refine ⟨.agg r', ?_, ?_⟩
  · have := VR.agg (g := g) (cs := r) (cs' := r'.toList) h2; simpa using this
  · have hpl : (fun i => (fs.map fun f => (f.offset, ((sizeT P f.type).getD 0)))[i]?) = fieldPlaces P fs := by
      funext i
      simp only [Array.getElem?_map, fieldPlaces]
      cases hfi : fs[i]? with
      | none => rfl
      | some f =>
        obtain ⟨n, hn⟩ := hall f (by
          have := Array.mem_of_getElem? hfi
          exact Array.mem_toList_iff.2 this)
        simp [hn]
    simp only [Instr.build, Sem.run_bind, hz1, Result.andThen_ok, run_und hu, hm]
    rw [hpl]
    simp only [Array.toList_map]
    rw [show (List.map (fun (x : Nat × Operand) => (x.1, ρ' x.2)) parts.toList) = (parts.toList.map fun q => (q.1, ρ' q.2)) from rfl, h1]
    rfl
theorem build_array {t e : TypeId} {len n : Nat} (hu : P.underlying t = some (.array len e)) (hn : sizeT P e = some n) {ρ : Operand → AV} {ρ' : Operand → Value} (h : ER g ρ ρ') {parts : Array (Nat × Operand)} {z r : List AV} (hz : zeroT P t = some z)
    (hf : fillA (fun i => some (i * n, n)) z (parts.toList.map fun q => (q.1, ρ q.2)) = some r) :
    ∃ r', VR g (.agg r) r' ∧ (Instr.build t (parts.map fun (i, x) => (i, ρ' x))).run P w = .ok r' w := by
  obtain ⟨zv, hz1, hz2⟩ := zero_sound (g := g) (w := w) hz
  obtain ⟨r', h1, h2⟩ := fill_sound (g := g) (place := fun i => some (i * n, n)) (parts.toList.map fun q => (q.1, ρ q.2)) (parts.toList.map fun q => (q.1, ρ' q.2)) z zv.cells r (by simp) (parts_get h _) hz2 hf
  refine ⟨.agg r', ?_, ?_⟩
  · have := VR.agg (g := g) (cs := r) (cs' := r'.toList) h2; simpa using this
  · simp only [Instr.build, Sem.run_bind, hz1, Result.andThen_ok, run_und hu, run_size hn]
    simp only [Array.toList_map]
    rw [show (List.map (fun (x : Nat × Operand) => (x.1, ρ' x.2)) parts.toList) = (parts.toList.map fun q => (q.1, ρ' q.2)) from rfl, h1]
    rfl

/-- The cells that a source holds, in memory. -/
theorem source_sound (hs : Sim g σ w) {z : Nat} {x : AV} {v : Value} (hx : VR g x v) {xs : List AV} {n : Nat} (h : sourceA σ z x = some (xs, n)) :
    ∃ l, VRs g xs l ∧ xs.length = n * z ∧
      ((∃ s : List UInt8, v = .string ⟨s.toArray⟩ ∧ z = 1 ∧ l = s.map (fun b => Value.int .u8 b.toNat) ∧ s.length = n) ∨
       (∃ a c, v = .slice a 0 c ∧ n = 0) ∨
       (∃ b off c l0 rest e, ∃ mk : Nat × Nat, v = .slice (some ⟨b, off, none⟩) n c ∧ w.heap[b]? = some (.cells ⟨l0 ++ rest⟩ e mk) ∧ off + n * z ≤ l0.length ∧ l = (l0.drop off).take (n * z))) := by
  unfold sourceA at h
  split at h
  · cases h; cases hx; exact ⟨[], .nil, by simp, .inr (.inl ⟨_, _, rfl, rfl⟩)⟩
  · cases h; cases hx; exact ⟨[], .nil, by simp, .inr (.inl ⟨_, _, rfl, rfl⟩)⟩
  · rename_i s
    obtain ⟨hz, h⟩ := cond_some h
    have hz : z = 1 := Nat.eq_of_beq_eq_true hz
    subst hz
    cases h
    cases hx
    refine ⟨s.map fun b => Value.int .u8 b.toNat, ?_, by simp, .inl ⟨s, rfl, rfl, rfl, rfl⟩⟩
    clear hs h
    induction s with
    | nil => exact .nil
    | cons b s ih => exact .cons (.int _ _) ih
  · rename_i id off len cap z'
    split at h
    case h_3 => cases h
    case h_2 =>
      rename_i s hg
      obtain ⟨hle, h⟩ := cond_some h
      cases h
      simp only [Bool.and_eq_true, Nat.ble_eq] at hle
      have hz : z = 1 := Nat.eq_of_beq_eq_true hle.1
      subst hz
      obtain ⟨b, nn, o, hp, ho, e, r, he, hn⟩ := hs.blk _ _ hg
      have hv := VRs_sb g s
      cases hx with
      | slice _ _ _ _ _ a c h1 h2 hcb =>
      obtain ⟨rfl, _, _⟩ := h2 b nn hp
      have hle' : off + n * 1 ≤ (s.map fun b => Value.int .u8 b.toNat).length := by rw [List.length_map]; exact hle.2
      refine ⟨((s.map fun b => Value.int .u8 b.toNat).drop off).take (n * 1), (hv.drop off).take _, ?_, .inr (.inr ⟨b, off, c, _, r, e, _, rfl, by rw [ho, he], hle', rfl⟩)⟩
      rw [List.length_take, List.length_drop]; have := hv.length; omega
    rename_i e cs hg
    obtain ⟨hle, h⟩ := cond_some h
    cases h
    obtain ⟨b, nn, o, hp, ho, l, r, he, hn, hv, _⟩ := hs.blk _ _ hg
    cases hx with
    | slice _ _ _ _ _ a c h1 h2 hcb =>
    obtain ⟨rfl, _, _⟩ := h2 b nn hp
    have hle' : off + n * z ≤ l.length := by rw [← hv.length]; simpa using hle
    refine ⟨(l.drop off).take (n * z), (hv.drop off).take _, ?_, .inr (.inr ⟨b, off, c, l, r, e / 2, _, rfl, by rw [ho, he], hle', rfl⟩)⟩
    rw [List.length_take, List.length_drop]; have := hv.length; omega
  · rename_i cs off len
    obtain ⟨hle, h⟩ := cond_some h
    cases h
    cases hx with
    | rslice _ _ _ b c hI hc =>
    obtain ⟨e, nn, o, ho, l, r, ⟨mk, he⟩, hn, hv, _⟩ := hs.imm b cs hI
    have hle' : off + n * z ≤ l.length := by rw [← hv.length]; simpa using hle
    refine ⟨(l.drop off).take (n * z), (hv.drop off).take _, ?_, .inr (.inr ⟨b, off, c, l, r, e / 2, _, rfl, by rw [ho, he], hle', rfl⟩)⟩
    rw [List.length_take, List.length_drop]; have := hv.length; omega
  · cases h

theorem bytesOf_sound : ∀ {xs : List AV} {s : List UInt8}, convertA.bytesOf xs = some s → ∀ {l : List Value}, VRs g xs l →
    ∃ ns : List Int, l = ns.map (Value.int .u8) ∧ ∀ acc : ByteArray, ns.foldl (fun r n => r.push (UInt8.ofNat n.toNat)) acc = ⟨acc.data ++ s.toArray⟩ := by
  intro xs
  induction xs with
  | nil => intro s h l hl; cases h; cases hl; exact ⟨[], rfl, fun acc => by simp⟩
  | cons a xs ih =>
    intro s h l hl
    cases hl with
    | cons h1 h2 =>
    cases h1 <;> first | (simp only [convertA.bytesOf, reduceCtorEq] at h; done) | skip
    rename_i k n
    cases k <;> first | (simp only [convertA.bytesOf, reduceCtorEq] at h; done) | skip
    unfold convertA.bytesOf at h
    split at h
    case h_2 => cases h
    rename_i m hm
    cases h
    obtain ⟨ns, rfl, hf⟩ := ih hm h2
    refine ⟨n :: ns, rfl, fun acc => ?_⟩
    rw [List.foldl_cons, hf]
    apply ByteArray.ext
    simp [ByteArray.push]

theorem cvCls_ok {g : Ghost} {k : IntKind} {l : List UInt8} {r : AV} (h : cvCls k l = some r) {c : UInt8} (hc : c ∈ l) : VR g r (.int k (k.wrap c.toNat)) := by
  unfold cvCls at h
  rcases cond_yes h with ⟨ha, h⟩ | ⟨_, h⟩
  case inr => cases h
  cases h
  have h1 : c.toNat < 128 := by
    have := List.all_eq_true.1 ha c hc
    simpa [Nat.blt_eq] using this
  have hw : k.wrap (c.toNat : Int) = c.toNat := inR_wrap (by cases k <;> simp [inR] <;> omega)
  rw [hw]
  cases k <;> first | exact .cls _ _ hc | exact .rn _ _ _ hc
theorem sameTsA_eq : ∀ {a b : List Tm}, sameTsA a b = true → a = b
  | [], [], _ => rfl
  | a :: l, b :: m, h => by
    simp only [sameTsA, Bool.and_eq_true] at h
    obtain ⟨⟨⟨⟨h1, h2⟩, h3⟩, h4⟩, h5⟩ := h
    obtain ⟨k, co, lo, hi⟩ := a
    obtain ⟨k', co', lo', hi'⟩ := b
    simp only at h1 h2 h3 h4
    rw [eqI_eq] at h2
    rw [Nat.eq_of_beq_eq_true h1, of_decide_eq_true h2, Nat.eq_of_beq_eq_true h3, Nat.eq_of_beq_eq_true h4, sameTsA_eq h5]
theorem rowText_some {σ : Store} {id : Nat} {c : Int} {ts : List Tm} {l : List Seg} (h : rowText σ (.bsl id c ts) = some l) : ∃ e, σ.get id = some (.bytes e l) ∧ (segLen l).1 = c ∧ (segLen l).2 = ts := by
  simp only [rowText] at h
  split at h
  · rename_i e l' hg
    rcases cond_yes h with ⟨hc, h⟩ | ⟨_, h⟩
    · cases h
      simp only [Bool.and_eq_true, eqI_eq, decide_eq_true_eq] at hc
      exact ⟨e, hg, hc.1, sameTsA_eq hc.2⟩
    · cases h
  · cases h
theorem bytesOf_map : ∀ s : List UInt8, convertA.bytesOf (s.map fun b => AV.int .u8 b.toNat) = some s
  | [] => rfl
  | b :: s => by
    simp only [List.map_cons, convertA.bytesOf, bytesOf_map s]
    congr 2
    simp
theorem VRs_bytes (g : Ghost) : ∀ s : List UInt8, VRs g (s.map fun b => AV.int .u8 b.toNat) (s.map fun b => Value.int .u8 b.toNat)
  | [] => .nil
  | _ :: s => .cons (.int _ _) (VRs_bytes g s)
theorem convert_sound (hs : Sim g σ w) {src dst : TypeId} {x : AV} {v : Value} (hx : VR g x v) {K : AV → Prop} (h : (convertA P src dst x σ).sat K) : Owe P g w (convert src dst v) K := by
  unfold convertA at h
  split at h
  · rename_i k k' _ n h1 h2
    cases hx
    exact .of (fit_sat h) (.int _ _) (by simp [convert, run_und h1, run_und h2, Conv.intToInt])
  · rename_i k k' l h1 h2
    obtain ⟨r, hr, h⟩ := Tr.sat_opt h
    cases hx with
    | cls _ c hm =>
    exact .of h (cvCls_ok hr hm) (by simp [convert, run_und h1, run_und h2, Conv.intToInt])
  · rename_i k k' _ l h1 h2
    obtain ⟨r, hr, h⟩ := Tr.sat_opt h
    cases hx with
    | rn _ _ c hm =>
    exact .of h (cvCls_ok hr hm) (by simp [convert, run_und h1, run_und h2, Conv.intToInt])
  · rename_i k k' _ h1 h2
    cases hx with
    | num _ n =>
    exact .of h (.num k' (k'.wrap n)) (by simp [convert, run_und h1, run_und h2, Conv.intToInt])
  · rename_i s h1 h2
    cases hx
    exact .of h (.str _) (by simp [convert, run_und h1, run_und h2])
  · rename_i l h1 h2
    cases hx with
    | sstr _ hl => exact .of h (.sstr _ hl) (by simp [convert, run_und h1, run_und h2])
  · rename_i k' k n h1 h2
    cases hx
    cases k <;> first | (exact h.elim) | skip
    obtain ⟨r, hr, h⟩ := Tr.sat_opt h
    exact .of h (VR_ofV g r) (by simp [convert, run_und h1, run_und h2, Sem.run_calm w hr])
  · rename_i e h1 h2
    split at h
    case h_2 => exact h.elim
    rename_i he
    split at h
    case h_1 => exact h.elim
    case h_2 =>
      rename_i id cc ts
      obtain ⟨l, hl, h⟩ := Tr.sat_opt h
      obtain ⟨e', hg, hc1, hc2⟩ := rowText_some hl
      obtain ⟨b, m, o, hp, ho, rest, rfl, hm, hok⟩ := hs.blk _ _ hg
      cases hx with
      | bsl _ _ _ a len c hT h0 h1' h2' h3 =>
      obtain ⟨rfl, rfl⟩ := h2' b m hp
      obtain ⟨s1, s2⟩ := segLen_ok hok
      rw [hc1, hc2, ← h0] at s2
      have hlen : len = (den g.sv l).length := by omega
      obtain ⟨ns, e1, hf⟩ := bytesOf_sound (bytesOf_map (den g.sv l)) (VRs_bytes g (den g.sv l))
      have hE : (⟨ByteArray.empty.data ++ (den g.sv l).toArray⟩ : ByteArray) = ⟨(den g.sv l).toArray⟩ := by apply ByteArray.ext; simp
      refine .of h (VR_mkStr hok) ?_
      rw [run_convert_bytes_string w _ _ _ _ _ _ h1 he h2]
      rw [run_bytesToString w _ len _ ns (by
        have := run_loadCellsFrom (P := P) (w := w) (b := b) (l := (den g.sv l).map fun b => Value.int .u8 b.toNat) (rest := rest) (e := e') ho 0 len 0 #[] (by rw [List.length_map]; omega)
        simp only [loadCells]
        rw [this, e1, List.drop_zero, List.take_of_length_le (by rw [← e1, List.length_map]; omega)]
        simp), hf, hE]
    rename_i hns _
    split at h
    case h_2 => exact h.elim
    rename_i xs n hsrc
    obtain ⟨s, hb, h⟩ := Tr.sat_opt h
    obtain ⟨l, hl, hlen, hcase⟩ := source_sound hs hx hsrc
    obtain ⟨ns, rfl, hf⟩ := bytesOf_sound hb hl
    refine .of h (.str s) ?_
    have hE : (⟨ByteArray.empty.data ++ s.toArray⟩ : ByteArray) = ⟨s.toArray⟩ := by apply ByteArray.ext; simp
    rcases hcase with ⟨s', rfl, _⟩ | ⟨a, c, rfl, rfl⟩ | ⟨b, off, c, l0, rest, e', mk, rfl, hbk, hle, hl'⟩
    · cases hx <;> first | (exact (hns _ rfl).elim) | (simp [sourceA] at hsrc; done)
    · have hns : ns = [] := by
        have := hl.length; rw [hlen] at this; simp at this; exact List.length_eq_zero_iff.1 this.symm
      subst hns
      have hs0 : s = [] := by have := hf ByteArray.empty; simpa using congrArg (fun b => b.data.toList) this.symm
      subst hs0
      rw [run_convert_bytes_string w _ _ _ _ _ _ h1 he h2]
      cases a with
      | none => simp [Conv.bytesToString]; rfl
      | some a =>
        rw [run_bytesToString w a 0 c [] (by simp [loadCells, loadCellsFrom])]
        rfl
    · rw [run_convert_bytes_string w _ _ _ _ _ _ h1 he h2]
      rw [run_bytesToString w _ n c ns (by
        have := run_loadCellsFrom (P := P) hbk off n 0 #[] (by omega)
        simp only [loadCells]
        rw [this, hl']
        simp), hf, hE]
  · exact h.elim

theorem run_v {s : Sem Value} {v : Value} (h : s.run P w = .ok v w) : (do pure (.value (← s)) : Sem Next).run P w = .ok (.value v) w := by simp [h]

/-- WHAT LEAVES THE WORLD ALONE: the real operation comes to a value that the abstract one tells of; the world is as it was. -/
theorem still_sound {X : Env} {run : FuncId → List AV → Store → Tr R} (hs : Sim g σ w) {ρ : Operand → AV} {ρ' : Operand → Value} (hρ : ER g ρ ρ') (o : Oper) (hst : stillOp o.op = true) {K : R → Prop} (h : (opA X run σ ρ o.op).sat K) :
    ∃ a v, K (a, σ) ∧ VR g a v ∧ (execOp ρ' o).run X.P w = .ok (.value v) w := by
  have viaT : ∀ {t : Tr AV}, (t.bind fun a => (.ret (a, σ) : Tr R)).sat K → t.sat fun a => K (a, σ) := fun h => by rwa [Tr.sat_bind] at h
  have ofOwe : ∀ {s : Sem Value}, Owe X.P g w s (fun a => K (a, σ)) → (execOp ρ' o = (do pure (.value (← s)) : Sem Next)) → ∃ a v, K (a, σ) ∧ VR g a v ∧ (execOp ρ' o).run X.P w = .ok (.value v) w := by
    rintro s ⟨a, v, h1, h2, h3⟩ he
    exact ⟨a, v, h1, h2, by rw [he]; exact run_v h3⟩
  obtain ⟨dst, op, ty, pos, after, guard⟩ := o
  cases op <;> simp only [stillOp] at hst <;> try cases hst
  case move x => exact ⟨_, _, h, hρ x, rfl⟩
  case assign x => exact ⟨_, _, h, hρ x, rfl⟩
  case pick c a b =>
    have hc := hρ c
    simp only [opA] at h
    split at h
    case h_2 => exact h.elim
    rename_i cb hcb
    rw [hcb] at hc
    generalize hcv : ρ' c = cv at hc
    cases hc
    cases cb with
    | true => exact ⟨_, _, h, hρ a, by simp [execOp, hcv, asBool]⟩
    | false => exact ⟨_, _, h, hρ b, by simp [execOp, hcv, asBool]⟩
  case build t parts =>
    simp only [opA] at h
    obtain ⟨z, hz, h⟩ := Tr.sat_opt h
    split at h
    · rename_i fs hu
      cases hall : fs.toList.all fun f => (sizeT X.P f.type).isSome with
      | false => rw [hall] at h; exact h.elim
      | true =>
        rw [hall] at h
        simp only [cond_true] at h
        obtain ⟨r, hr, h⟩ := Tr.sat_opt h
        simp only [Option.map_eq_some_iff] at hr
        obtain ⟨r, hr, rfl⟩ := hr
        obtain ⟨r', h1, h2⟩ := build_struct (g := g) (w := w) hu hρ hz hr (fun f hf => Option.isSome_iff_exists.1 (List.all_eq_true.1 hall f hf))
        exact ⟨_, _, h, h1, run_v h2⟩
    · rename_i len e hu
      obtain ⟨n, hn, h⟩ := Tr.sat_opt h
      obtain ⟨r, hr, h⟩ := Tr.sat_opt h
      simp only [Option.map_eq_some_iff] at hr
      obtain ⟨r, hr, rfl⟩ := hr
      obtain ⟨r', h1, h2⟩ := build_array (g := g) (w := w) hu hn hρ hz hr
      exact ⟨_, _, h, h1, run_v h2⟩
    · exact h.elim
  case load t a =>
    obtain ⟨r, hr, h⟩ := Tr.sat_opt h
    obtain ⟨r', h1, h2⟩ := load_sound hs (hρ a) hr
    exact ⟨_, _, h, h1, run_v h2⟩
  case nilCheck x =>
    have hx := hρ x
    have hxx : ∀ v, ρ' x = v → (v = .pointer none ∨ v = .nilIface ∨ v = .nilFunc → False) → (∀ n f c, v ≠ .func (.method n) f c) → (execOp ρ' ⟨dst, .nilCheck x, ty, pos, after, guard⟩).run X.P w = .ok (.value v) w := by
      intro v hv h1 h2
      simp only [execOp, hv]
      split
      · exact (h1 (.inl rfl)).elim
      · exact (h1 (.inr (.inl rfl))).elim
      · exact (h1 (.inr (.inr rfl))).elim
      · exact (h2 _ _ _ rfl).elim
      · rfl
    simp only [opA] at h
    generalize ha : ρ x = a at hx h
    generalize hv : ρ' x = v at hx
    cases hx <;> simp only [isNilA] at h <;> first | (exact h.elim) | skip
    case ptr => exact ⟨_, _, h, by constructor <;> assumption, hxx _ hv (by simp) (by simp)⟩
    case ref => exact ⟨_, _, h, by constructor <;> assumption, hxx _ hv (by simp) (by simp)⟩
    case slice => exact ⟨_, _, h, by constructor <;> assumption, hxx _ hv (by simp) (by simp)⟩
    case rslice => exact ⟨_, _, h, by constructor <;> assumption, hxx _ hv (by simp) (by simp)⟩
    case amap => exact ⟨_, _, h, by constructor <;> assumption, hxx _ hv (by simp) (by simp)⟩
    case iface => exact ⟨_, _, h, by constructor <;> assumption, hxx _ hv (by simp) (by simp)⟩
    case fn f a b a' b' hA hB =>
      cases f <;> first | (exact h.elim) | skip
      exact ⟨_, _, h, .fn _ hA hB, hxx _ hv (by simp) (by simp)⟩
  case binOp op t x y yt =>
    rw [Bool.not_eq_true'] at hst
    have h : (cond (Nat.beq t ifcT112) ((ifcA X.P σ op t (ρ x) (ρ y) (constO x || constO y)).bind fun a => (.ret (a, σ) : Tr R)) ((binA X.P op t (ρ x) (ρ y) (constO x || constO y)).bind fun a => (.ret (a, σ) : Tr R))).sat K := h
    rw [hst, cond_false] at h
    exact ofOwe (bin_sound (hρ x) (hρ y) (viaT h)) rfl
  case unOp op t x =>
    have hx := hρ x
    simp only [opA] at h
    split at h
    · rename_i b hb
      rw [hb] at hx
      generalize hv : ρ' x = v at hx
      cases hx
      exact ⟨_, _, h, .bool _, run_v (by simp [hv, Op.unary])⟩
    · rename_i k n hb
      rw [hb] at hx
      generalize hv : ρ' x = v at hx
      cases hx
      have := fit_sat (viaT h)
      exact ⟨_, _, this, .int _ _, run_v (by simp [hv, Op.unary, Op.intArith])⟩
    · exact h.elim
  case convert s d x =>
    simp only [Bool.not_eq_true'] at hst
    have h : (cond (Nat.beq d bytesT34) (allocC X.P s d (ρ x) σ) ((convertA X.P s d (ρ x) σ).bind fun a => (.ret (a, σ) : Tr R))).sat K := h
    rw [hst, cond_false] at h
    exact ofOwe (convert_sound hs (hρ x) (viaT h)) rfl
  case makeInterface t x =>
    simp only [opA] at h
    split at h
    · exact h.elim
    · rename_i d hn hu
      refine ⟨_, _, h, .iface t (hρ x), run_v ?_⟩
      cases d <;> first | (exact (hn _ rfl).elim) | (simp [Instr.makeInterface, run_und hu])
    · exact h.elim
  case makeFunc f a b =>
    have hl : ∀ l : List Operand, VRs g (l.map ρ) (l.map ρ') := fun l => by
      induction l with
      | nil => exact .nil
      | cons x l ih => exact .cons (hρ x) ih
    refine ⟨_, _, h, .fn f (hl a.toList) (hl b.toList), run_v ?_⟩
    simp [Instr.makeFunc]
    exact ⟨by cases a; simp, by cases b; simp⟩
  case slice t x lo hi mx =>
    simp only [opA] at h
    cases mx with
    | some m => exact h.elim
    | none =>
      have hO : ∀ y : Option Operand, OR g (y.map ρ) (y.map ρ') := fun y => by
        cases y with
        | none => exact ⟨(fun a h => by cases h), fun _ => rfl⟩
        | some y => exact ⟨(fun a h => by cases h; exact ⟨_, rfl, hρ y⟩), (fun h => by cases h)⟩
      have := slice_sound (P := X.P) (w := w) hs (t := t) (hρ x) (hO lo) (hO hi) (viaT h)
      obtain ⟨a, v, h1, h2, h3⟩ := this
      refine ⟨a, v, h1, h2, run_v ?_⟩
      have : ∀ n e, X.P.underlying t ≠ some (.array n e) := by
        intro n e hu
        have := viaT h
        simp only [sliceA, sliceA0, hu] at this
        exact this
      unfold Instr.sliceAt
      cases hu : X.P.underlying t with
      | none => simp only [Instr.slice, underlying, Sem.run_bind, run_program, Result.andThen_ok, hu] at h3; cases h3
      | some d =>
        simp only [Sem.run_bind, run_und hu, Result.andThen_ok]
        cases d <;> first | (exact absurd hu (this _ _)) | exact h3
  case fieldAddr t x f =>
    obtain ⟨r, hr, h⟩ := Tr.sat_opt h
    obtain ⟨r', h1, h2⟩ := fieldAddr_sound (w := w) (hρ x) hr
    exact ⟨_, _, h, h1, run_v h2⟩
  case field t x f =>
    obtain ⟨r, hr, h⟩ := Tr.sat_opt h
    obtain ⟨r', h1, h2⟩ := field_sound (w := w) (hρ x) hr
    exact ⟨_, _, h, h1, run_v h2⟩
  case indexAddr t x i => exact ofOwe (indexAddr_sound (hρ x) (hρ i) (viaT h)) rfl
  case index t x i => exact ofOwe (index_sound (hρ x) (hρ i) (viaT h)) rfl
  case typeAssert x xt a ok =>
    obtain ⟨r, hr, h⟩ := Tr.sat_opt h
    obtain ⟨r', h1, h2⟩ := typeAssert_sound (w := w) (xt := xt) (hρ x) hr
    exact ⟨_, _, h, h1, run_v h2⟩
  case extract x i =>
    have hx := hρ x
    simp only [opA] at h
    split at h
    case h_2 => exact h.elim
    rename_i l hl
    obtain ⟨r, hr, h⟩ := Tr.sat_opt h
    obtain ⟨r', h1, h2⟩ := extract_sound (P := X.P) (w := w) hx hl hr
    exact ⟨_, _, h, h1, run_v h2⟩
  case call c =>
    obtain ⟨callee, args, at'⟩ := c
    cases callee <;> try (cases hst; done)
    rename_i b
    cases b <;> try (cases hst; done)
    simp only [opA, callA] at h
    split at h
    case h_2 => exact h.elim
    rename_i t x ht hx
    obtain ⟨n, hn, h⟩ := Tr.sat_opt h
    obtain ⟨u, h0, h1⟩ := lenAV_sound (P := X.P) (w := w) (ty := ty) (hρ x) hn
    refine ⟨_, _, h, h0, ?_⟩
    have : Builtin.len_ at' ty (args.map ρ') = Builtin.len_ #[t] ty #[ρ' x] := by
      unfold Builtin.len_
      simp [ht, hx]
    simp [execOp, resolve, invoke, builtin, this, h1]
end
end Go.AM
/- The abstract machine: memory that is made, written and appended to. -/
namespace Go.AM

/-- Block b turned. -/
noncomputable def _root_.Go.World.setB (w : World) (b : Nat) (o : Obj) : World := { w with heap := w.heap.setIfInBounds b o }

section
variable {P : Program} {g : Ghost} {σ : Store} {w : World}

theorem Sim.fresh (hs : Sim g σ w) : σ.get σ.next = none := by
  cases h : σ.get σ.next with
  | none => rfl
  | some bl =>
    obtain ⟨b, n, o, hp, _⟩ := hs.blk _ _ h
    have := (hs.lt _ _ _ hp).1
    rw [hs.next] at this
    omega

/-- A new block. -/
theorem new_sim (hs : Sim g σ w) {bl : Blk} {o : Obj} {n : Nat} (hb : BR g n bl o) (hget : ∃ x, (σ.new bl).get σ.next = some x) {w' : World} (hw : w'.heap = w.heap.push o) (h1 : w'.os = w.os) (h2 : w'.tape = w.tape) (h3 : w'.output = w.output) :
    ∃ g', Sim g' (σ.new bl) w' ∧ Ext g g' w w' ∧ σ.next < g'.next ∧ (∀ b m, g'.π σ.next = some (b, m) → b = w.heap.size ∧ m = n) := by
  have hle : g.le { π := fun i => if i = g.next then some (w.heap.size, n) else g.π i, I := g.I, next := g.next + 1, bv := g.bv, bok := g.bok, iok := g.iok, rv := g.rv } :=
    ⟨Nat.le_succ _, rfl, fun id x hi hx => by simpa [Nat.ne_of_lt hi] using hx, fun _ _ h => h, fun _ _ h => h⟩
  refine ⟨_, ⟨by simp [Store.new, hs.next], ?_, ?_, ?_, ?_, ?_⟩, ⟨hle, h1, h2, h3, by rw [hw]; simp, ?_, ?_⟩, by simp [hs.next], fun b m h => by simp [hs.next] at h; exact ⟨h.1.symm, h.2.symm⟩⟩
  · intro id bl' hid
    by_cases hn : id = σ.next
    · subst hn
      obtain ⟨x, hx⟩ := hget
      have e1 : x = bl := PT.get_ins 64 σ.t σ.next bl x hs.fresh hx
      have e2 : bl' = bl := by rw [hx] at hid; cases hid; exact e1
      subst e2
      exact ⟨w.heap.size, n, o, by simp [hs.next], by rw [hw]; simp, hb.mono hle⟩
    · have : σ.get id = some bl' := by
        have := PT.get_ins_ne 64 σ.t σ.next id bl hn
        exact this.symm.trans hid
      obtain ⟨b, m, o', hp, ho, hbr⟩ := hs.blk _ _ this
      have hlt := hs.lt _ _ _ hp
      exact ⟨b, m, o', by simp [Nat.ne_of_lt hlt.1, hp], by rw [hw, Array.getElem?_push, if_neg (by omega)]; exact ho, hbr.mono hle⟩
  · intro id id' b m m' h h'
    simp only at h h'
    split at h <;> split at h'
    · simp_all
    · simp only [Option.some.injEq, Prod.mk.injEq] at h; have := (hs.lt _ _ _ h').2; omega
    · simp only [Option.some.injEq, Prod.mk.injEq] at h'; have := (hs.lt _ _ _ h).2; omega
    · exact hs.inj _ _ _ _ _ h h'
  · intro b cs hI
    obtain ⟨e, m, o', ho, hbr⟩ := hs.imm b cs hI
    have hlt : b < w.heap.size := by
      rcases Nat.lt_or_ge b w.heap.size with h | h
      · exact h
      · rw [Array.getElem?_eq_none h] at ho; cases ho
    exact ⟨e, m, o', by rw [hw, Array.getElem?_push, if_neg (by omega)]; exact ho, hbr.mono hle⟩
  · intro b cs id m hI hp
    simp only at hp
    split at hp
    · simp only [Option.some.injEq, Prod.mk.injEq] at hp
      obtain ⟨_, m', o', ho, _⟩ := hs.imm b cs hI
      rw [← hp.1] at ho
      simp at ho
    · exact hs.apart b cs id m hI hp
  · intro id b m hp
    simp only at hp
    rw [hw]
    split at hp
    · simp only [Option.some.injEq, Prod.mk.injEq] at hp; rename_i h; simp; omega
    · have := hs.lt _ _ _ hp; simp; omega
  · intro b hb hn
    rw [hw, Array.getElem?_push, if_neg (by omega)]
  · intro id b m hp hb
    simp only at hp
    split at hp
    · simp only [Option.some.injEq, Prod.mk.injEq] at hp; omega
    · exact ⟨id, m, hp⟩

/-- A block is turned. -/
theorem set_sim (hs : Sim g σ w) {id b n : Nat} (hp : g.π id = some (b, n)) {bl bl' : Blk} (hget : σ.get id = some bl) {o : Obj} (hb : BR g n bl' o) {w' : World} (hw : w'.heap = w.heap.setIfInBounds b o) (h1 : w'.os = w.os) (h2 : w'.tape = w.tape) (h3 : w'.output = w.output) :
    Sim g (σ.upd id bl') w' ∧ Ext g g w w' := by
  refine ⟨⟨hs.next, ?_, hs.inj, ?_, hs.apart, fun id b n hp => by rw [hw]; simpa using hs.lt _ _ _ hp⟩, ⟨.refl g, h1, h2, h3, by rw [hw]; simp, ?_, fun id b n h _ => ⟨id, n, h⟩⟩⟩
  · intro id' bl'' hid
    by_cases he : id' = id
    · subst he
      have : (σ.upd id' bl').get id' = some bl' := PT.get_upd _ _ _ _ hget
      rw [this] at hid; cases hid
      refine ⟨b, n, o, hp, ?_, hb⟩
      rw [hw, Array.getElem?_setIfInBounds_self, if_pos (hs.lt _ _ _ hp).2]
    · have : σ.get id' = some bl'' := (PT.get_upd_ne σ.t id id' (some bl') he).symm.trans hid
      obtain ⟨b', m, o', hp', ho, hbr⟩ := hs.blk _ _ this
      refine ⟨b', m, o', hp', ?_, hbr⟩
      rw [hw, Array.getElem?_setIfInBounds_ne (fun e => he (by subst e; exact hs.inj _ _ _ _ _ hp' hp))]
      exact ho
  · intro b' cs hI
    obtain ⟨e, m, o', ho, hbr⟩ := hs.imm b' cs hI
    refine ⟨e, m, o', ?_, hbr⟩
    rw [hw, Array.getElem?_setIfInBounds_ne (fun e => hs.apart b' cs id n hI (by rw [hp, e]))]
    exact ho
  · intro b' hb' hn
    rw [hw, Array.getElem?_setIfInBounds_ne (fun e => hn id n (by rw [hp, e]))]

theorem setCell_setB {b i : Nat} {l : List Value} {e : TypeId} {v : Value} (h : w.heap[b]? = some (.cells ⟨l⟩ e (0, 0))) : w.setCell ⟨b, i, none⟩ v = w.setB b (.cells ⟨l.set i v⟩ e (0, 0)) := by
  unfold World.setCell World.setB
  congr 1
  apply Array.ext_getElem?
  intro j
  rw [Array.getElem?_modify, Array.getElem?_setIfInBounds]
  have hlt : b < w.heap.size := by
    rcases Nat.lt_or_ge b w.heap.size with h' | h'
    · exact h'
    · rw [Array.getElem?_eq_none h'] at h; cases h
  have hE : w.heap[b] = .cells ⟨l⟩ e (0, 0) := by rw [Array.getElem?_eq_getElem hlt] at h; exact Option.some.inj h
  by_cases hj : b = j
  · subst hj
    simp [hlt, hE]
  · simp [hj]

theorem one_cell {a : AV} {v : Value} (h : VR g a v) (ho : a.one = true) : (∀ c, v ≠ .agg c) ∧ (∀ c, v ≠ .tuple c) := by
  cases h <;> first | (cases ho; done) | (constructor <;> intro c hc <;> cases hc)

/-- Cells are stored one behind the other. -/
theorem run_storeCells {b : Nat} {e : TypeId} (off : Nat) : ∀ (vs : List Value) (as : List AV) (i : Nat) (l : List Value) (w : World), VRs g as vs → allOne as = true → w.heap[b]? = some (.cells ⟨l⟩ e (0, 0)) → off + i + vs.length ≤ l.length →
    (storeCells ⟨b, off, none⟩ vs i).run P w = .ok () (w.setB b (.cells ⟨over' l (off + i) vs⟩ e (0, 0)))
  | [], as, i, l, w, _, _, h, _ => by
    simp only [storeCells, over', Sem.run_pure]
    have hE : w.heap.setIfInBounds b (.cells ⟨l⟩ e (0, 0)) = w.heap := by
      apply Array.ext_getElem?
      intro j
      rw [Array.getElem?_setIfInBounds]
      split
      · rename_i hj
        subst hj
        split
        · exact h.symm
        · rename_i h'; rw [Array.getElem?_eq_none (by omega)] at h; cases h
      · rfl
    unfold World.setB
    rw [hE]
  | v :: vs, as, i, l, w, hv, ho, h, hle => by
    cases hv with
    | cons h1 h2 =>
    rename_i a as'
    simp only [allOne, Bool.and_eq_true] at ho
    simp only [List.length_cons] at hle
    obtain ⟨n1, n2⟩ := one_cell h1 ho.1
    have hc : w.cell? ⟨b, off + i, none⟩ = some (l[off + i]'(by omega)) := by simp [World.cell?, h, show off + i < l.length by omega]
    have hf : w.frozen? ⟨b, off + i, none⟩ = false := by simp [World.frozen?, h]
    simp only [storeCells, Sem.run_bind, store, addr_add]
    have hst : (Sem.store Mode.plain ⟨b, off + i, none⟩ v (.pure ())).run P w = .ok () (w.setCell ⟨b, off + i, none⟩ v) := by
      cases v <;> first | (exact absurd rfl (n1 _)) | (exact absurd rfl (n2 _)) | simp [Sem.run, hc, hf]
    rw [hst]
    simp only [Result.andThen_ok, over']
    rw [setCell_setB h]
    have hb : (w.setB b (.cells ⟨l.set (off + i) v⟩ e (0, 0))).heap[b]? = some (.cells ⟨l.set (off + i) v⟩ e (0, 0)) := by
      have hlt : b < w.heap.size := by
        rcases Nat.lt_or_ge b w.heap.size with h' | h'
        · exact h'
        · rw [Array.getElem?_eq_none h'] at h; cases h
      simp [World.setB, hlt]
    have := run_storeCells off vs as' (i + 1) (l.set (off + i) v) (w.setB b (.cells ⟨l.set (off + i) v⟩ e (0, 0))) h2 ho.2 hb (by simp; omega)
    rw [this]
    congr 1
    unfold World.setB
    simp [Array.setIfInBounds_setIfInBounds, Nat.add_assoc]

theorem store_sound (hs : Sim g σ w) {t : TypeId} {a x : AV} {v u : Value} (ha : VR g a v) (hx : VR g x u) {σ' : Store} (h : storeA P σ t a x = some σ') :
    ∃ w', (Instr.storeAt t v u).run P w = .ok () w' ∧ Sim g σ' w' ∧ Ext g g w w' := by
  unfold storeA at h
  split at h
  case h_2 => cases h
  rename_i id off
  split at h
  case h_3 => cases h
  case h_2 =>
    rename_i s hg hz
    unfold putSb at h
    split at h
    case h_2 => cases h
    rename_i k
    cases hc : (Nat.blt k 256 && Nat.ble (off + 1) s.length) with
    | false => rw [hc] at h; cases h
    | true =>
    rw [hc] at h
    cases h
    simp only [Bool.and_eq_true, Nat.blt_eq, Nat.ble_eq] at hc
    cases ha with
    | ptr _ _ ad h1 h2 =>
    cases hx
    obtain ⟨b, m, o, hp, ho, e, rest, rfl, hm⟩ := hs.blk _ _ hg
    obtain rfl := h2 b m hp
    have hst : (Sem.store Mode.plain ⟨b, off, none⟩ (.int .u8 (Int.ofNat k)) (.pure ())).run P w = .ok () (w.setCell ⟨b, off, none⟩ (.int .u8 (Int.ofNat k))) := by
      have hcell : w.cell? ⟨b, off, none⟩ = some (((s.map fun b => Value.int .u8 b.toNat) ++ rest)[off]'(by simp; omega)) := by simp [World.cell?, ho, show off < s.length + rest.length by omega]
      have hfz : w.frozen? ⟨b, off, none⟩ = false := by simp [World.frozen?, ho]; omega
      simp [Sem.run, hcell, hfz]
    have hset : w.setCell ⟨b, off, none⟩ (.int .u8 (Int.ofNat k)) = w.setB b (.cells ⟨((s.set off k.toUInt8).map fun b => Value.int .u8 b.toNat) ++ rest⟩ e (m, m + 1)) := by
      unfold World.setCell World.setB
      congr 1
      apply Array.ext_getElem?
      intro j
      rw [Array.getElem?_modify, Array.getElem?_setIfInBounds]
      have hlt : b < w.heap.size := by
        rcases Nat.lt_or_ge b w.heap.size with h' | h'
        · exact h'
        · rw [Array.getElem?_eq_none h'] at ho; cases ho
      have hE : w.heap[b] = .cells ⟨(s.map fun b => Value.int .u8 b.toNat) ++ rest⟩ e (m, m + 1) := by rw [Array.getElem?_eq_getElem hlt] at ho; exact Option.some.inj ho
      by_cases hj : b = j
      · subst hj
        have hl : off < (s.map fun b => Value.int .u8 b.toNat).length := by rw [List.length_map]; omega
        have hk2 : (k : Int) % 256 = k := by omega
        simp [hlt, hE, List.set_append_left _ _ hl, List.map_set, hk2]
      · simp [hj]
    refine ⟨_, ?_, set_sim hs hp hg (bl' := .sb (s.set off k.toUInt8)) (o := .cells ⟨((s.set off k.toUInt8).map fun b => Value.int .u8 b.toNat) ++ rest⟩ e (m, m + 1)) ⟨e, rest, rfl, by rw [List.length_set]; exact hm⟩ (w' := w.setB b _) rfl rfl rfl rfl⟩
    simp only [Instr.storeAt, Instr.sureAddr, storeVar, Sem.run_bind, Sem.run_pure, Result.andThen_ok, run_size hz]
    have hcl : (Value.int .u8 (Int.ofNat k)).cells = #[.int .u8 (Int.ofNat k)] := rfl
    rw [hcl]
    simp only [show (#[Value.int .u8 (Int.ofNat k)] : Array Value).size = 1 from rfl, ne_eq, not_true_eq_false, if_false, storeCells, Sem.run_bind, store, show (⟨b, off, none⟩ : Addr).add 0 = ⟨b, off, none⟩ from rfl]
    rw [hst]
    simp only [Result.andThen_ok, Sem.run_pure, hset]
  rename_i e cs n hg hz
  obtain ⟨hc, h⟩ := cond_some h
  simp only [Bool.and_eq_true] at hc
  obtain ⟨⟨c1, c2⟩, c3⟩ := hc
  cases h
  cases ha with
  | ptr _ _ ad h1 h2 =>
  obtain ⟨b, m, o, hp, ho, l, rest, rfl, hm, hv, hxx⟩ := hs.blk _ _ hg
  obtain rfl := h2 b m hp
  have c1' : x.cells.length = n := Nat.eq_of_beq_eq_true c1
  have c3' : off + n ≤ cs.length := by simpa using c3
  have hna : nonAny x = true := by
    cases x <;> first | rfl | (simp [AV.cells, allOne, AV.one] at c2; done)
  have hcl := cells_length hx hna
  have hcells := VRs_cells hx hna
  have hlen := hv.length
  have hst := run_storeCells (P := P) off u.cells.toList x.cells 0 (l ++ rest) w hcells c2 ho (by rw [Array.length_toList, List.length_append]; omega)
  refine ⟨_, ?_, set_sim hs hp hg (bl' := .cells e (over cs off x.cells)) (o := .cells ⟨over' l off u.cells.toList ++ rest⟩ (e / 2) (0, 0)) ⟨_, rest, rfl, by rw [over'_length]; exact hm, over_append hv off hcells, hxx⟩ (w' := w.setB b _) rfl rfl rfl rfl⟩
  simp only [Instr.storeAt, Instr.sureAddr, storeVar, Sem.run_bind, Sem.run_pure, Result.andThen_ok, run_size hz]
  rw [if_neg (by omega), hst]
  congr 2
  have happ : ∀ (vs : List Value) (l rest : List Value) (k : Nat), k + vs.length ≤ l.length → over' (l ++ rest) k vs = over' l k vs ++ rest := by
    intro vs
    induction vs with
    | nil => intro l rest k _; rfl
    | cons v vs ih =>
      intro l rest k hk
      simp only [List.length_cons] at hk
      rw [over', over', List.set_append_left _ _ (by omega), ih _ _ _ (by simp; omega)]
  rw [Nat.add_zero, happ _ _ _ _ (by rw [Array.length_toList]; omega)]
end
end Go.AM
/- The abstract machine: append. -/
namespace Go.AM

section
variable {P : Program} {g : Ghost} {σ : Store} {w : World}

theorem growBy_le (need : Nat) : ∀ (r c : Nat), Builtin.growBy need r c ≤ max c (need + (need + 768) / 4)
  | 0, c => by simp only [Builtin.growBy]; omega
  | r + 1, c => by
    unfold Builtin.growBy
    split
    · omega
    · have := growBy_le need r (c + (c + 768) / 4); omega
theorem nextcap_le {need c : Nat} (h : c < need) : Builtin.nextslicecap need c ≤ 3 * need := by
  unfold Builtin.nextslicecap
  split
  · omega
  · split
    · omega
    · have := growBy_le need 4 c; omega

theorem first_run {z n : Nat} {v : Value} {l : List Value} (hlen : l.length = n * z)
    (h : (∃ s : List UInt8, v = .string ⟨s.toArray⟩ ∧ z = 1 ∧ l = s.map (fun b => Value.int .u8 b.toNat) ∧ s.length = n) ∨ (∃ a c, v = .slice a 0 c ∧ n = 0) ∨
       (∃ b off c l0 rest e, ∃ mk : Nat × Nat, v = .slice (some ⟨b, off, none⟩) n c ∧ w.heap[b]? = some (.cells ⟨l0 ++ rest⟩ e mk) ∧ off + n * z ≤ l0.length ∧ l = (l0.drop off).take (n * z))) :
    (Builtin.lenOf v).run P w = .ok n w ∧ ∀ w' : World, w'.heap = w.heap → (Builtin.firstCells z n v).run P w' = .ok l.toArray w' := by
  rcases h with ⟨s, rfl, rfl, rfl, hs⟩ | ⟨a, c, rfl, rfl⟩ | ⟨b, off, c, l0, rest, e, mk, rfl, hb, hle, rfl⟩
  · refine ⟨by simp [Builtin.lenOf, size_mk, hs], fun w' _ => ?_⟩
    simp only [Builtin.firstCells, Sem.run_pure]
    congr 1
    rw [extract_mk, List.drop_zero, List.take_of_length_le (by omega)]
    simp
  · refine ⟨rfl, fun w' _ => ?_⟩
    have : l = [] := List.length_eq_zero_iff.1 (by rw [hlen]; simp)
    subst this
    cases a with
    | none => rfl
    | some a => simp [Builtin.firstCells, loadCells, loadCellsFrom]
  · refine ⟨rfl, fun w' hw => ?_⟩
    have := run_loadCellsFrom (P := P) (w := w') (b := b) (l := l0) (rest := rest) (e := e) (by rw [hw]; exact hb) off (n * z) 0 #[] (by omega)
    simp only [Builtin.firstCells, loadCells]
    rw [this]; simp

theorem size_zeros (z : Array Value) (n : Nat) : (Builtin.zeroCells z n).size = n * z.size := by simp [Builtin.zeroCells]

/-- Sim behind a block that is forgotten and one that is known anew (the same real block, or a new one). -/
theorem renew_sim (hs : Sim g σ w) {id b0 n0 : Nat} {bl0 : Blk} (hget : σ.get id = some bl0) (hp : g.π id = some (b0, n0)) {bl : Blk} {o : Obj} {n b : Nat} (hbr : BR g n bl o) (hnew : ∃ x, ((σ.kill id).new bl).get σ.next = some x)
    {w' : World} (hcase : (b = b0 ∧ w'.heap = w.heap.setIfInBounds b0 o) ∨ (b = w.heap.size ∧ w'.heap = w.heap.push o)) (h1 : w'.os = w.os) (h2 : w'.tape = w.tape) (h3 : w'.output = w.output) :
    ∃ g', Sim g' ((σ.kill id).new bl) w' ∧ Ext g g' w w' ∧ σ.next < g'.next ∧ g'.π σ.next = some (b, n) := by
  have hid := hs.lt _ _ _ hp
  have hne : id ≠ σ.next := by have := hid.1; rw [hs.next] at this; omega
  have hle : g.le { π := fun i => if i = g.next then some (b, n) else if i = id then none else g.π i, I := g.I, next := g.next + 1, bv := g.bv, bok := g.bok, iok := g.iok, rv := g.rv } :=
    ⟨Nat.le_succ _, rfl, fun i x hi hx => by
      simp only [Nat.ne_of_lt hi, if_false] at hx
      split at hx
      · cases hx
      · exact hx, fun _ _ h => h, fun _ _ h => h⟩
  have hbsz : b < w'.heap.size := by
    rcases hcase with ⟨rfl, hw⟩ | ⟨rfl, hw⟩
    · rw [hw]; simp; exact hid.2
    · rw [hw]; simp
  have hge : w.heap.size ≤ w'.heap.size := by rcases hcase with ⟨_, hw⟩ | ⟨_, hw⟩ <;> rw [hw] <;> simp
  have hbo : w'.heap[b]? = some o := by
    rcases hcase with ⟨rfl, hw⟩ | ⟨rfl, hw⟩
    · rw [hw, Array.getElem?_setIfInBounds_self, if_pos hid.2]
    · rw [hw]; simp
  have hother : ∀ c, c < w.heap.size → c ≠ b0 → w'.heap[c]? = w.heap[c]? := by
    intro c hc hcb
    rcases hcase with ⟨rfl, hw⟩ | ⟨rfl, hw⟩
    · rw [hw, Array.getElem?_setIfInBounds_ne (Ne.symm hcb)]
    · rw [hw, Array.getElem?_push, if_neg (by omega)]
  have hbb : ∀ c, c < w.heap.size → c ≠ b0 → c ≠ b := by
    intro c hc hcb
    rcases hcase with ⟨rfl, hw⟩ | ⟨rfl, hw⟩
    · exact hcb
    · omega
  refine ⟨_, ⟨by simp [Store.new, Store.kill, hs.next], ?_, ?_, ?_, ?_, ?_⟩, ⟨hle, h1, h2, h3, hge, ?_, ?_⟩, by simp [hs.next], by simp [hs.next]⟩
  · intro i bl' hi
    by_cases hn : i = σ.next
    · subst hn
      obtain ⟨x, hx⟩ := hnew
      have hk : (σ.kill id).t.get σ.next = none := by
        have := PT.get_upd_ne σ.t id σ.next none hne.symm
        exact this.trans hs.fresh
      have e1 : x = bl := PT.get_ins 64 (σ.kill id).t σ.next bl x hk hx
      have e2 : bl' = bl := by rw [hx] at hi; cases hi; exact e1
      subst e2
      exact ⟨b, n, o, by simp [hs.next], hbo, hbr.mono hle⟩
    · have e1 : (σ.kill id).get i = some bl' := (PT.get_ins_ne 64 (σ.kill id).t σ.next i bl hn).symm.trans hi
      by_cases hid' : i = id
      · subst hid'
        have : (σ.kill i).get i = none := PT.get_upd_none σ.t i
        rw [this] at e1; cases e1
      · have e2 : σ.get i = some bl' := (PT.get_upd_ne σ.t id i none hid').symm.trans e1
        obtain ⟨b', m, o', hp', ho, hbr'⟩ := hs.blk _ _ e2
        have hlt := hs.lt _ _ _ hp'
        refine ⟨b', m, o', by simp [Nat.ne_of_lt hlt.1, hid', hp'], ?_, hbr'.mono hle⟩
        rw [hother b' hlt.2 (fun e => hid' (by subst e; exact hs.inj _ _ _ _ _ hp' hp))]
        exact ho
  · intro i j c m m' h h'
    simp only at h h'
    have key : ∀ i, i ≠ g.next → ∀ m, (if i = id then none else g.π i) = some (b, m) → False := by
      intro i hi m hm
      split at hm
      · cases hm
      · rename_i hii
        have hlt := hs.lt _ _ _ hm
        by_cases hb : b = b0
        · subst hb; exact hii (hs.inj _ _ _ _ _ hm hp)
        · exact hbb b hlt.2 hb rfl
    split at h <;> split at h'
    · simp_all
    · rename_i hj
      simp only [Option.some.injEq, Prod.mk.injEq] at h
      obtain ⟨rfl, rfl⟩ := h
      exact (key _ hj _ h').elim
    · rename_i hi _
      simp only [Option.some.injEq, Prod.mk.injEq] at h'
      obtain ⟨rfl, rfl⟩ := h'
      exact (key _ hi _ h).elim
    · split at h <;> split at h' <;> first | cases h | cases h' | exact hs.inj _ _ _ _ _ h h'
  · intro c cs hI
    obtain ⟨e, m, o', ho, hbr'⟩ := hs.imm c cs hI
    have hlt : c < w.heap.size := by
      rcases Nat.lt_or_ge c w.heap.size with h | h
      · exact h
      · rw [Array.getElem?_eq_none h] at ho; cases ho
    exact ⟨e, m, o', by rw [hother c hlt (fun e => hs.apart c cs id n0 hI (by rw [hp, e]))]; exact ho, hbr'.mono hle⟩
  · intro c cs i m hI hpi
    simp only at hpi
    split at hpi
    · simp only [Option.some.injEq, Prod.mk.injEq] at hpi
      obtain ⟨rfl, rfl⟩ := hpi
      obtain ⟨_, m', o', ho, _⟩ := hs.imm b cs hI
      rcases hcase with ⟨rfl, hw⟩ | ⟨rfl, hw⟩
      · exact hs.apart b cs id n0 hI hp
      · simp at ho
    · split at hpi
      · cases hpi
      · exact hs.apart c cs i m hI hpi
  · intro i c m hpi
    simp only at hpi
    split at hpi
    · simp only [Option.some.injEq, Prod.mk.injEq] at hpi
      rename_i h
      obtain ⟨rfl, rfl⟩ := hpi
      exact ⟨by simp only; omega, hbsz⟩
    · split at hpi
      · cases hpi
      · have := hs.lt _ _ _ hpi; exact ⟨by simp only; omega, by omega⟩
  · intro c hc hn
    exact hother c hc (fun e => hn id n0 (by rw [hp, e]))
  · intro i c m hpi hc
    simp only at hpi
    split at hpi
    · simp only [Option.some.injEq, Prod.mk.injEq] at hpi
      obtain ⟨rfl, rfl⟩ := hpi
      rcases hcase with ⟨rfl, hw⟩ | ⟨rfl, hw⟩
      · exact ⟨id, n0, hp⟩
      · omega
    · split at hpi
      · cases hpi
      · exact ⟨i, m, hpi⟩
end
end Go.AM
/- The abstract machine: the built-in append; what makes and writes memory, together. -/
namespace Go.AM

/-- What an operation that may write owes. -/
noncomputable def OweW (P : Program) (g : Ghost) (w : World) (s : Sem Value) (K : R → Prop) : Prop :=
  ∃ a σ' g' v w', K (a, σ') ∧ s.run P w = .ok v w' ∧ Sim g' σ' w' ∧ Ext g g' w w' ∧ VR g' a v

section
variable {P : Program} {g : Ghost} {σ : Store} {w : World}

theorem newA_some {e : TypeId} {cs : List AV} {r : R} (h : newA σ e cs = some r) : r = (.ptr σ.next 0, σ.new (.cells e cs)) ∧ ∃ x, (σ.new (.cells e cs)).get σ.next = some x := by
  unfold newA at h
  simp only at h
  split at h
  · rename_i x hx; cases h; exact ⟨rfl, x, hx⟩
  · cases h

theorem over'_app : ∀ (vs l rest : List Value) (k : Nat), k + vs.length ≤ l.length → over' (l ++ rest) k vs = over' l k vs ++ rest := by
  intro vs
  induction vs with
  | nil => intro l rest k _; rfl
  | cons v vs ih =>
    intro l rest k hk
    simp only [List.length_cons] at hk
    rw [over', over', List.set_append_left _ _ (by omega), ih _ _ _ (by simp; omega)]
theorem over'_at : ∀ (vs l : List Value) (k : Nat), k + vs.length ≤ l.length → ∃ rest, over' l k vs = l.take k ++ vs ++ rest := by
  intro vs
  induction vs with
  | nil => intro l k _; exact ⟨l.drop k, by simp [over']⟩
  | cons v vs ih =>
    intro l k hk
    simp only [List.length_cons] at hk
    obtain ⟨rest, hr⟩ := ih (l.set k v) (k + 1) (by simp; omega)
    refine ⟨rest, ?_⟩
    rw [over', hr, List.take_succ_eq_append_getElem (by simp; omega)]
    simp [List.take_set_of_le]

theorem unB_ok {sv : Nat → List UInt8} : ∀ {as : List AV} {m : List Seg} {vs : List Value}, unB as = some m → VRs g as vs → vs = (den sv m).map (fun b => Value.int .u8 b.toNat) ∧ SegsOK sv m
  | [], m, vs, h, hv => by cases h; cases hv; exact ⟨rfl, trivial⟩
  | a :: as, m, vs, h, hv => by
    cases hv with
    | cons h1 h2 =>
    unfold unB at h
    split at h
    · rename_i hal; cases hal
    · rename_i k l hal
      injection hal with ha hl
      subst ha hl
      rcases cond_yes h with ⟨hk, h⟩ | ⟨_, h⟩
      case inr => cases h
      split at h
      case h_2 => cases h
      rename_i m' hm
      cases h
      obtain ⟨e1, e2⟩ := unB_ok (sv := sv) hm h2
      cases h1
      subst e1
      refine ⟨?_, e2⟩
      have hk : k ≤ 255 := by simpa [Nat.ble_eq] using hk
      show _ = (k.toUInt8 :: den sv m').map _
      rw [List.map_cons]
      congr 2
      simp [UInt8.toNat_ofNat']
      omega
    · cases h
theorem rowSrc_sound (hs : Sim g σ w) {x : AV} {v : Value} (hx : VR g x v) {add : List Seg} (h : rowSrc σ x = some add) : SegsOK g.sv add ∧
    ((∃ s : List UInt8, v = .string ⟨s.toArray⟩ ∧ 1 = 1 ∧ (den g.sv add).map (fun b => Value.int .u8 b.toNat) = s.map (fun b => Value.int .u8 b.toNat) ∧ s.length = (den g.sv add).length) ∨ (∃ a c, v = .slice a 0 c ∧ (den g.sv add).length = 0) ∨
       (∃ b off c l0 rest e, ∃ mk : Nat × Nat, v = .slice (some ⟨b, off, none⟩) (den g.sv add).length c ∧ w.heap[b]? = some (.cells ⟨l0 ++ rest⟩ e mk) ∧ off + (den g.sv add).length * 1 ≤ l0.length ∧ (den g.sv add).map (fun b => Value.int .u8 b.toNat) = (l0.drop off).take ((den g.sv add).length * 1))) := by
  unfold rowSrc at h
  split at h
  · rename_i s
    cases h
    cases hx
    exact ⟨(SegsOK_bytes s).1, .inl ⟨s, rfl, rfl, by rw [(SegsOK_bytes s).2], by rw [(SegsOK_bytes s).2]⟩⟩
  · cases h
    cases hx with
    | sstr _ hok => exact ⟨hok, .inl ⟨_, rfl, rfl, rfl, rfl⟩⟩
  · rename_i id off n cp
    split at h
    case h_2 => cases h
    rename_i e cs hg
    rcases cond_yes h with ⟨hle, h⟩ | ⟨_, h⟩
    case inr => cases h
    have hle : off + n ≤ cs.length := by simpa [Nat.ble_eq] using hle
    obtain ⟨b, m, o, hp, ho, l0, rest, rfl, hm, hv, _⟩ := hs.blk _ _ hg
    obtain ⟨e1, e2⟩ := unB_ok (sv := g.sv) h ((hv.drop off).take n)
    have hl0 := hv.length
    have hlen : (den g.sv add).length = n := by
      have := congrArg List.length e1
      rw [List.length_map, List.length_take, List.length_drop] at this
      omega
    cases hx with
    | slice _ _ _ _ _ a c h1 h2 h3 =>
    obtain ⟨rfl, _, _⟩ := h2 b m hp
    refine ⟨e2, .inr (.inr ⟨b, off, c, l0, rest, _, _, by rw [hlen], ho, by rw [hlen]; omega, by rw [hlen, Nat.mul_one]; exact e1.symm⟩)⟩
  · cases h
theorem rowHeld_sound (hs : Sim g σ w) {e : TypeId} {s : AV} {v : Value} (hx : VR g s v) {old : List Seg} (h : rowHeld σ e s = some old) :
    ∃ b m bl0 rest, σ.get (rowId s) = some bl0 ∧ g.π (rowId s) = some (b, m) ∧ w.heap[b]? = some (.cells ⟨(den g.sv old).map (fun b => Value.int .u8 b.toNat) ++ rest⟩ e (0, 0)) ∧ (den g.sv old).length + rest.length = m ∧ v = .slice (some ⟨b, 0, none⟩) (den g.sv old).length m ∧ SegsOK g.sv old ∧ m ≤ 9223372036854775807 := by
  unfold rowHeld at h
  split at h
  · rename_i id c ts
    split at h
    case h_2 => cases h
    rename_i e' l hg
    rcases cond_yes h with ⟨hc, h⟩ | ⟨_, h⟩
    case inr => cases h
    cases h
    simp only [Bool.and_eq_true, eqI_eq, decide_eq_true_eq] at hc
    obtain ⟨⟨k1, k2⟩, k3⟩ := hc
    have := Nat.eq_of_beq_eq_true k1
    subst this
    have k3 := sameTsA_eq k3
    obtain ⟨b, m, o, hp, ho, rest, rfl, hm, hok⟩ := hs.blk _ _ hg
    cases hx with
    | bsl _ _ _ a len cp hT h0 h1 h2 h3 =>
    obtain ⟨rfl, rfl⟩ := h2 b m hp
    obtain ⟨s1, s2⟩ := segLen_ok hok
    rw [k2, k3, ← h0] at s2
    have hl : len = (den g.sv old).length := by omega
    subst hl
    exact ⟨b, _, _, rest, hg, hp, ho, hm, rfl, hok, h3⟩
  · rename_i id len cp
    split at h
    case h_2 => cases h
    rename_i e' cs hg
    rcases cond_yes h with ⟨hc, h⟩ | ⟨_, h⟩
    case inr => cases h
    simp only [Bool.and_eq_true] at hc
    have hee := Nat.eq_of_beq_eq_true hc.1
    have hle : len ≤ cs.length := by simpa [Nat.ble_eq] using hc.2
    obtain ⟨b, m, o, hp, ho, l0, rest, rfl, hm, hv, _⟩ := hs.blk _ _ hg
    obtain ⟨e1, e2⟩ := unB_ok (sv := g.sv) h (hv.take len)
    have hl0 := hv.length
    have hlen : (den g.sv old).length = len := by
      have := congrArg List.length e1
      rw [List.length_map, List.length_take] at this
      omega
    cases hx with
    | slice _ _ _ _ _ a c h1 h2 h3 =>
    obtain ⟨rfl, hcm, _⟩ := h2 b m hp
    have hcm : c = m := by omega
    subst hcm
    subst hee
    refine ⟨b, _, _, l0.drop len ++ rest, hg, hp, ?_, ?_, by rw [hlen], e2, h3⟩
    · rw [ho, ← e1, ← List.append_assoc, List.take_append_drop]
    · rw [hlen, List.length_append, List.length_drop]; omega
  · cases h
theorem allOne_bytes : ∀ s : List UInt8, allOne (s.map fun b => AV.int .u8 b.toNat) = true
  | [] => rfl
  | _ :: s => by simp only [List.map_cons, allOne, allOne_bytes s]; rfl
set_option maxHeartbeats 1000000 in
theorem appRow_sound (hs : Sim g σ w) {t u ty e by_ : Nat} {s x : AV} {vs vx : Value} (hvs : VR g s vs) (hvx : VR g x vx) (ht : P.underlying t = some (.slice e)) (hu' : (∃ e', P.underlying u = some (.slice e')) ∨ P.underlying u = some .string)
    (hz : sizeT P e = some 1) (hby : bytesT P e = some by_) (hzz : zeroOk P e 1 = true) (hby0 : 1 ≤ by_) {K : R → Prop} (h : (appRow σ e by_ s x).sat K) :
    OweW P g w (Builtin.append_ #[t, u] ty #[vs, vx]) K := by
  unfold zeroOk at hzz
  split at hzz
  case h_2 => cases hzz
  rename_i zl hzl
  have hzlen : zl.length = 1 := Nat.eq_of_beq_eq_true hzz
  obtain ⟨i, zv, hi, hiz, hzle⟩ := zeroT_some hzl
  have hzsize : zv.cells.size = 1 := by rw [← hzlen, hzle, ← Array.length_toList, (VRs_zero (g := g) zv).length]
  have hzrun : ∀ w' : World, (zeroValue e).run P w' = .ok zv w' := fun w' => by simp [zeroValue, run_info hi, hiz]
  have hsz : ∀ w' : World, (sizeOf e).run P w' = .ok 1 w' := fun w' => run_size hz w'
  have hbytes : i.bytes = by_ := by simpa [bytesT, hi] using hby
  have hinfo : ∀ w' : World, (typeInfo e).run P w' = .ok i w' := fun w' => run_info hi w'
  unfold appRow at h
  obtain ⟨add, hadd, hA⟩ := Tr.sat_opt h
  clear h
  obtain ⟨aok, hcase⟩ := rowSrc_sound hs hvx hadd
  generalize hl : (den g.sv add).map (fun b => Value.int .u8 b.toNat) = l at hcase
  generalize hn : (den g.sv add).length = n at hcase
  have hll0 : l.length = n := by rw [← hl, List.length_map, hn]
  have hll : l.length = n * 1 := by omega
  obtain ⟨hlenOf, hfirst⟩ := first_run (P := P) hll hcase
  have hVl : VRs g ((den g.sv add).map fun b => AV.int .u8 b.toNat) l := by rw [← hl]; exact VRs_bytes g _
  have inplace : ∀ (base : Option Addr) (sl c : Nat), sl + n ≤ c →
      (Builtin.append_ #[t, u] ty #[.slice base sl c, vx]).run P w = ((match base with | some a => storeCells (a.add (sl * 1)) l | none => pure () : Sem Unit).run P w).andThen fun _ w' => .ok (.slice base (sl + n) c) w' := by
    intro base sl c hle
    rcases hu' with ⟨e', hu⟩ | hu <;> simp [Builtin.append_, run_und ht, run_und hu, hsz, hlenOf, hle, hfirst w rfl] <;> cases base <;> simp
  have beyond : ∀ (base : Option Addr) (sl c : Nat), c < sl + n → (sl + n) * by_ ≤ roomA → ∀ old : List Value, (∀ w' : World, w'.heap = w.heap → (Builtin.firstCells 1 sl (.slice base sl c)).run P w' = .ok old.toArray w') →
      ∃ (rest : List Value) (cap : Nat), sl + n ≤ cap ∧ cap ≤ 9223372036854775807 ∧ rest.length = (cap - (sl + n)) * 1 ∧ (Builtin.append_ #[t, u] ty #[.slice base sl c, vx]).run P w = .ok (.slice (some ⟨w.heap.size, 0, none⟩) (sl + n) cap) (w.drew.alloc (.cells ⟨(old ++ l) ++ rest⟩ e)) := by
    intro base sl c hlt hroom old hold
    have hnc := nextcap_le hlt
    have hb1 : ¬ Builtin.nextslicecap (sl + n) c * i.bytes > 2 ^ 48 := by
      rw [hbytes]
      have := Nat.mul_le_mul_right by_ hnc
      unfold roomA at hroom
      rw [Nat.mul_assoc] at this
      omega
    have hneed : sl + n ≤ roomA := by have := Nat.mul_le_mul_left (sl + n) hby0; omega
    have hb2 : ¬ ((((sl + n : Nat) : Int) > IntKind.i64.max) ∧ (i.bytes = 0)) := by rw [hbytes]; omega
    have hnle : ¬ sl + n ≤ c := by omega
    refine ⟨(Builtin.zeroCells zv.cells ((sl + n + w.tape w.drawn (.appendCap (sl + n) c e) % (2 ^ 63 - (sl + n))) - (sl + n))).toList, sl + n + w.tape w.drawn (.appendCap (sl + n) c e) % (2 ^ 63 - (sl + n)), by omega, by
      have hmod := Nat.mod_lt (w.tape w.drawn (.appendCap (sl + n) c e)) (show 2 ^ 63 - (sl + n) > 0 by unfold roomA at hneed; omega)
      unfold roomA at hneed
      omega, ?_, ?_⟩
    · rw [Array.length_toList, size_zeros, hzsize]
    · have hask : ∀ (m : Nat) (w' : World), (askRoom m).run P w' = .ok () w' := by
        intro m w'; unfold askRoom; split <;> rfl
      have hfo : (Question.appendCap (sl + n) c e).forced = false := rfl
      have hcut : (Question.appendCap (sl + n) c e).cut (w.tape w.drawn (.appendCap (sl + n) c e)) = sl + n + w.tape w.drawn (.appendCap (sl + n) c e) % (2 ^ 63 - (sl + n)) := rfl
      have hb3 : i.bytes ≠ 0 := by rw [hbytes]; omega
      generalize sl + n + w.tape w.drawn (.appendCap (sl + n) c e) % (2 ^ 63 - (sl + n)) = cap at *
      rcases hu' with ⟨e', hu⟩ | hu <;> (
        simp [Builtin.append_, run_und ht, run_und hu, hsz, hlenOf, hnle, hinfo, hb3, hb1, hfo, hcut, hask, hold w.drew rfl, hfirst w.drew rfl, hzrun, newRow]
        congr 3
        rw [← Array.toList_inj]; simp)
  obtain ⟨as1, as2⟩ := segLen_ok aok
  have amax := max_ok as1
  have amin := min_ok as1
  split at hA
  · rename_i hnil
    obtain ⟨hm, hB⟩ := Tr.sat_must hA
    clear hA
    simp only [Bool.and_eq_true, leI_eq, decide_eq_true_eq] at hm
    have hs0 : s = .nils := by cases s <;> first | rfl | cases hnil
    subst hs0
    cases hvs
    split at hB
    case h_2 => exact hB.elim
    rename_i xx hxx
    have hroom : n * by_ ≤ roomA := by
      have h1 : (n : Int) ≤ (segLen add).1 + maxTs (segLen add).2 := by rw [← hn]; omega
      have h2 := Int.mul_le_mul_of_nonneg_right h1 (Int.natCast_nonneg by_)
      have h3 : (n : Int) * by_ ≤ roomA := Int.le_trans h2 hm.2
      exact_mod_cast h3
    have hn1 : 0 < 0 + n := by rw [← hn]; omega
    obtain ⟨rest, cap, hcap, hcap2, hrl, hrun⟩ := beyond none 0 0 hn1 (by simpa using hroom) [] (fun w' _ => rfl)
    rw [Nat.zero_add] at hcap hrl hrun
    rw [Nat.mul_one] at hrl
    have hbr : BR g cap (.bytes e add) (.cells ⟨([] ++ l) ++ rest⟩ e (0, 0)) := ⟨rest, by rw [List.nil_append, ← hl], by rw [hn, hrl]; omega, aok⟩
    obtain ⟨g', h1, h2, h3, h4⟩ := new_sim (hs.same (w' := w.drew) rfl) hbr ⟨xx, hxx⟩ (w' := w.drew.alloc (.cells ⟨([] ++ l) ++ rest⟩ e (0, 0))) rfl rfl rfl rfl
    refine ⟨_, _, g', _, _, hB, hrun, h1, (Ext.same (w := w) (w' := w.drew) rfl rfl rfl rfl).trans h2, .bsl _ _ _ _ _ _ ?_ ?_ h3 (fun b m hp => ?_) hcap2⟩
    · rw [h2.le.sv]; exact as1
    · rw [h2.le.sv, ← hn]; exact as2
    · obtain ⟨rfl, rfl⟩ := h4 b m hp
      exact ⟨rfl, rfl⟩
  · obtain ⟨old, hold, hC⟩ := Tr.sat_opt hA
    clear hA
    obtain ⟨hm, hB⟩ := Tr.sat_must hC
    clear hC
    simp only [leI_eq, decide_eq_true_eq] at hm
    split at hB
    case h_2 => exact hB.elim
    rename_i xx hxx
    obtain ⟨b, m, bl0, rest, hg, hp, ho, hmm, rfl, ook, hmax⟩ := rowHeld_sound hs hvs hold
    generalize hsl : (den g.sv old).length = sl at *
    have nok := SegsOK_append ook aok
    obtain ⟨ns1, ns2⟩ := segLen_ok nok
    have nmax := max_ok ns1
    have hnl : (den g.sv (old ++ add)).length = sl + n := by rw [den_append, List.length_append, hsl, hn]
    have hmapl : ((den g.sv old).map (fun b => Value.int .u8 b.toNat)).length = sl := by rw [List.length_map, hsl]
    have hden : (den g.sv (old ++ add)).map (fun b => Value.int .u8 b.toNat) = (den g.sv old).map (fun b => Value.int .u8 b.toNat) ++ l := by rw [den_append, List.map_append, hl]
    have hroom : (sl + n) * by_ ≤ roomA := by
      have h1 : ((sl + n : Nat) : Int) ≤ (segLen (old ++ add)).1 + maxTs (segLen (old ++ add)).2 := by rw [← hnl]; omega
      have h2 := Int.mul_le_mul_of_nonneg_right h1 (Int.natCast_nonneg by_)
      have h3 : ((sl + n : Nat) : Int) * by_ ≤ roomA := Int.le_trans h2 hm
      exact_mod_cast h3
    by_cases hlc : sl + n ≤ m
    · have hst := run_storeCells (P := P) (g := g) (0 + sl * 1) l _ 0 ((den g.sv old).map (fun b => Value.int .u8 b.toNat) ++ rest) w hVl (allOne_bytes _) ho (by rw [List.length_append, hmapl, hll0]; omega)
      obtain ⟨rest', hr'⟩ := over'_at l ((den g.sv old).map (fun b => Value.int .u8 b.toNat) ++ rest) (0 + sl * 1 + 0) (by rw [List.length_append, hmapl, hll0]; omega)
      have htk : ((den g.sv old).map (fun b => Value.int .u8 b.toNat) ++ rest).take (0 + sl * 1 + 0) = (den g.sv old).map (fun b => Value.int .u8 b.toNat) := by
        rw [show 0 + sl * 1 + 0 = ((den g.sv old).map (fun b => Value.int .u8 b.toNat)).length by rw [hmapl]; omega, List.take_left]
      rw [hr', htk] at hst
      have hlen' : (sl + n) + rest'.length = m := by
        have := congrArg List.length hr'
        rw [over'_length, htk] at this
        simp only [List.length_append, hmapl, hll0] at this
        omega
      obtain ⟨g', r1, r2, r3, r4⟩ := renew_sim hs hg hp (bl := .bytes e (old ++ add)) (o := .cells ⟨((den g.sv old).map (fun b => Value.int .u8 b.toNat) ++ l) ++ rest'⟩ e (0, 0)) (n := m) (b := b) ⟨rest', by rw [hden], by rw [hnl]; exact hlen', nok⟩ ⟨xx, hxx⟩
        (w' := w.setB b (.cells ⟨((den g.sv old).map (fun b => Value.int .u8 b.toNat) ++ l) ++ rest'⟩ e (0, 0))) (.inl ⟨rfl, rfl⟩) rfl rfl rfl
      refine ⟨_, _, g', .slice (some ⟨b, 0, none⟩) (sl + n) m, _, hB, ?_, r1, r2, .bsl _ _ _ _ _ _ ?_ ?_ r3 (fun b' m' hp' => ?_) hmax⟩
      · rw [inplace (some ⟨b, 0, none⟩) sl m hlc]
        simp only [addr_add, hst, Result.andThen_ok]
      · rw [r2.le.sv]; exact ns1
      · rw [r2.le.sv, ← hnl]; exact ns2
      · rw [r4] at hp'; cases hp'
        exact ⟨rfl, rfl⟩
    · obtain ⟨rest', cap', hcap, hcap2, hrl, hrun⟩ := beyond (some ⟨b, 0, none⟩) sl m (by omega) hroom ((den g.sv old).map (fun b => Value.int .u8 b.toNat)) (fun w' hw => by
        have := run_loadCellsFrom (P := P) (w := w') (b := b) (l := (den g.sv old).map (fun b => Value.int .u8 b.toNat)) (rest := rest) (e := e) (by rw [hw]; exact ho) 0 (sl * 1) 0 #[] (by rw [hmapl]; omega)
        simp only [Builtin.firstCells, loadCells]
        rw [this, List.drop_zero, List.take_of_length_le (by rw [hmapl]; omega)]; simp)
      rw [Nat.mul_one] at hrl
      obtain ⟨g', r1, r2, r3, r4⟩ := renew_sim (hs.same (w' := w.drew) rfl) hg hp (bl := .bytes e (old ++ add)) (o := .cells ⟨((den g.sv old).map (fun b => Value.int .u8 b.toNat) ++ l) ++ rest'⟩ e (0, 0)) (n := cap') (b := w.heap.size) ⟨rest', by rw [hden], by rw [hnl, hrl]; omega, nok⟩ ⟨xx, hxx⟩
        (w' := w.drew.alloc (.cells ⟨((den g.sv old).map (fun b => Value.int .u8 b.toNat) ++ l) ++ rest'⟩ e (0, 0))) (.inr ⟨rfl, rfl⟩) rfl rfl rfl
      refine ⟨_, _, g', _, _, hB, hrun, r1, (Ext.same (w := w) (w' := w.drew) rfl rfl rfl rfl).trans r2, .bsl _ _ _ _ _ _ ?_ ?_ r3 (fun b' m' hp' => ?_) hcap2⟩
      · rw [r2.le.sv]; exact ns1
      · rw [r2.le.sv, ← hnl]; exact ns2
      · rw [r4] at hp'; cases hp'
        exact ⟨rfl, rfl⟩

set_option maxHeartbeats 1000000 in
theorem append_sound (hs : Sim g σ w) {t u ty : TypeId} {s x : AV} {vs vx : Value} (hvs : VR g s vs) (hvx : VR g x vx) {K : R → Prop} (h : (appendA P σ t u s x).sat K) :
    OweW P g w (Builtin.append_ #[t, u] ty #[vs, vx]) K := by
  unfold appendA at h
  split at h
  case h_2 => exact h.elim
  rename_i e ht hu0
  have hu' : (∃ e', P.underlying u = some (.slice e')) ∨ P.underlying u = some .string := by
    revert hu0
    cases hu : P.underlying u with
    | none => intro h0; cases h0
    | some d => cases d <;> first | (intro _; exact .inl ⟨_, rfl⟩) | (intro _; exact .inr rfl) | (intro h0; cases h0)
  clear hu0
  split at h
  case h_2 => exact h.elim
  rename_i z by_ hz hby
  cases hw : rowWant s x with
  | true =>
    rw [hw, cond_true] at h
    cases hcond : (Nat.beq z 1 && zeroOk P e z && Nat.blt 0 z && Nat.blt 0 by_) with
    | false => rw [hcond] at h; exact h.elim
    | true =>
      rw [hcond, cond_true] at h
      simp only [Bool.and_eq_true] at hcond
      obtain ⟨⟨⟨hz1, hzz⟩, _⟩, hby0⟩ := hcond
      have hz1 := Nat.eq_of_beq_eq_true hz1
      subst hz1
      exact appRow_sound hs hvs hvx ht hu' hz hby hzz (by simpa [Nat.blt] using hby0) h
  | false =>
  rw [hw, cond_false] at h
  split at h
  case h_2 => exact h.elim
  rename_i xs n hsrc
  cases hcond : (allOne xs && zeroOk P e z && Nat.blt 0 z && Nat.blt 0 by_) with
  | false => rw [hcond] at h; exact h.elim
  | true =>
  rw [hcond] at h
  simp only [cond_true] at h
  simp only [Bool.and_eq_true] at hcond
  obtain ⟨⟨⟨hone, hzz⟩, hz0⟩, hby0⟩ := hcond
  have hz0 : 1 ≤ z := by simpa [Nat.blt] using hz0
  have hby0 : 1 ≤ by_ := by simpa [Nat.blt] using hby0
  unfold zeroOk at hzz
  split at hzz
  case h_2 => cases hzz
  rename_i zl hzl
  have hzlen : zl.length = z := Nat.eq_of_beq_eq_true hzz
  obtain ⟨i, zv, hi, hiz, hzle⟩ := zeroT_some hzl
  have hzsize : zv.cells.size = z := by rw [← hzlen, hzle, ← Array.length_toList, (VRs_zero (g := g) zv).length]
  have hzrun : ∀ w' : World, (zeroValue e).run P w' = .ok zv w' := fun w' => by simp [zeroValue, run_info hi, hiz]
  have hsz : ∀ w' : World, (sizeOf e).run P w' = .ok z w' := fun w' => run_size hz w'
  have hbytes : i.bytes = by_ := by simpa [bytesT, hi] using hby
  have hinfo : ∀ w' : World, (typeInfo e).run P w' = .ok i w' := fun w' => run_info hi w'
  obtain ⟨l, hl, hlen, hcase⟩ := source_sound hs hvx hsrc
  have hll : l.length = n * z := by rw [← hl.length, hlen]
  obtain ⟨hlenOf, hfirst⟩ := first_run (P := P) hll hcase
  -- within the capacity
  have inplace : ∀ (base : Option Addr) (sl c : Nat), sl + n ≤ c →
      (Builtin.append_ #[t, u] ty #[.slice base sl c, vx]).run P w = ((match base with | some a => storeCells (a.add (sl * z)) l | none => pure () : Sem Unit).run P w).andThen fun _ w' => .ok (.slice base (sl + n) c) w' := by
    intro base sl c hle
    rcases hu' with ⟨e', hu⟩ | hu <;> simp [Builtin.append_, run_und ht, run_und hu, hsz, hlenOf, hle, hfirst w rfl] <;> cases base <;> simp
  -- beyond it
  have beyond : ∀ (base : Option Addr) (sl c : Nat), c < sl + n → (sl + n) * by_ ≤ roomA → ∀ old : List Value, (∀ w' : World, w'.heap = w.heap → (Builtin.firstCells z sl (.slice base sl c)).run P w' = .ok old.toArray w') →
      ∃ (rest : List Value) (cap : Nat), sl + n ≤ cap ∧ cap ≤ 9223372036854775807 ∧ rest.length = (cap - (sl + n)) * z ∧ (Builtin.append_ #[t, u] ty #[.slice base sl c, vx]).run P w = .ok (.slice (some ⟨w.heap.size, 0, none⟩) (sl + n) cap) (w.drew.alloc (.cells ⟨(old ++ l) ++ rest⟩ e)) := by
    intro base sl c hlt hroom old hold
    have hnc := nextcap_le hlt
    have hb1 : ¬ Builtin.nextslicecap (sl + n) c * i.bytes > 2 ^ 48 := by
      rw [hbytes]
      have := Nat.mul_le_mul_right by_ hnc
      unfold roomA at hroom
      rw [Nat.mul_assoc] at this
      omega
    have hneed : sl + n ≤ roomA := by have := Nat.mul_le_mul_left (sl + n) hby0; omega
    have hb2 : ¬ ((((sl + n : Nat) : Int) > IntKind.i64.max) ∧ (i.bytes = 0)) := by rw [hbytes]; omega
    have hnle : ¬ sl + n ≤ c := by omega
    refine ⟨(Builtin.zeroCells zv.cells ((sl + n + w.tape w.drawn (.appendCap (sl + n) c e) % (2 ^ 63 - (sl + n))) - (sl + n))).toList, sl + n + w.tape w.drawn (.appendCap (sl + n) c e) % (2 ^ 63 - (sl + n)), by omega, by
      have hmod := Nat.mod_lt (w.tape w.drawn (.appendCap (sl + n) c e)) (show 2 ^ 63 - (sl + n) > 0 by unfold roomA at hneed; omega)
      unfold roomA at hneed
      omega, ?_, ?_⟩
    · rw [Array.length_toList, size_zeros, hzsize]
    · have hask : ∀ (m : Nat) (w' : World), (askRoom m).run P w' = .ok () w' := by
        intro m w'; unfold askRoom; split <;> rfl
      have hfo : (Question.appendCap (sl + n) c e).forced = false := rfl
      have hcut : (Question.appendCap (sl + n) c e).cut (w.tape w.drawn (.appendCap (sl + n) c e)) = sl + n + w.tape w.drawn (.appendCap (sl + n) c e) % (2 ^ 63 - (sl + n)) := rfl
      have hb3 : i.bytes ≠ 0 := by rw [hbytes]; omega
      generalize sl + n + w.tape w.drawn (.appendCap (sl + n) c e) % (2 ^ 63 - (sl + n)) = cap at *
      rcases hu' with ⟨e', hu⟩ | hu <;> (
        simp [Builtin.append_, run_und ht, run_und hu, hsz, hlenOf, hnle, hinfo, hb3, hb1, hfo, hcut, hask, hold w.drew rfl, hfirst w.drew rfl, hzrun, newRow]
        congr 3
        rw [← Array.toList_inj]; simp)
  have bdrew : ∀ (hs : Sim g σ w), Sim g σ w.drew := fun hs => hs.same rfl
  cases hr : isRsl s with
  | true =>
    rw [hr, cond_true] at h
    cases hz1 : Nat.beq z 1 with
    | false => rw [hz1] at h; exact h.elim
    | true =>
    rw [hz1, cond_true] at h
    have hz1 := Nat.eq_of_beq_eq_true hz1
    subst hz1
    unfold appCells at h
    split at h
    case h_2 => exact h.elim
    rename_i id o os c ts
    split at h
    case h_2 => exact h.elim
    rename_i e' l0 hg
    have hm := (Tr.sat_must h).1
    replace h := (Tr.sat_must h).2
    simp only [Bool.and_eq_true, eqI_eq, decide_eq_true_eq] at hm
    obtain ⟨hee, rfl⟩ := hm
    have hee := Nat.eq_of_beq_eq_true hee
    subst hee
    cases hvs with
    | rsl _ _ _ _ _ a off len cp hO hT ho h0 hlc h1 h2 h3 =>
    obtain ⟨b, m, obj, hp, hobj, vs0, rest, rfl, hmm, hrr⟩ := hs.blk _ _ hg
    obtain ⟨rfl, hcm⟩ := h2 b m hp
    have hoff : off = 0 := by simp only [tval] at ho; omega
    subst hoff
    have hcm : cp = m := by omega
    subst hcm
    obtain ⟨r1, r2⟩ := rowLen_ok hrr
    have hll1 : l.length = n := by omega
    cases hc : (eqI (rowLen l0).1 c && sameTsA (rowLen l0).2 ts) with
    | true =>
      simp only [hc] at h
      simp only [Bool.and_eq_true, eqI_eq, decide_eq_true_eq] at hc
      have hvl : vs0.length = len := by
        have := sameTsA_eq hc.2
        rw [hc.1, this] at r2
        omega
      obtain ⟨hroom, h⟩ := Tr.sat_must h
      simp only [leI_eq, decide_eq_true_eq] at hroom
      split at h
      case h_2 => exact h.elim
      rename_i xx hxx
      have hmx := max_ok hT
      have hroom : (len + n) * by_ ≤ roomA := by
        have k1 : ((len + n : Nat) : Int) ≤ c + n + maxTs ts := by push_cast; omega
        have k2 := Int.mul_le_mul_of_nonneg_right k1 (Int.natCast_nonneg by_)
        have k3 : ((len + n : Nat) : Int) * by_ ≤ roomA := Int.le_trans k2 hroom
        exact_mod_cast k3
      have hRR : RR g (l0 ++ cellsR xs) (vs0 ++ l) := hrr.append (RR.cells hl)
      by_cases hle : len + n ≤ cp
      · have hst := run_storeCells (P := P) (0 + len * 1) l xs 0 (vs0 ++ rest) w hl hone hobj (by rw [List.length_append]; omega)
        obtain ⟨rest', hr'⟩ := over'_at l (vs0 ++ rest) (0 + len * 1 + 0) (by rw [List.length_append]; omega)
        have htk : (vs0 ++ rest).take (0 + len * 1 + 0) = vs0 := by
          rw [show 0 + len * 1 + 0 = vs0.length by omega, List.take_left]
        rw [hr', htk] at hst
        have hlen' : (vs0 ++ l).length + rest'.length = cp := by
          have := congrArg List.length hr'
          rw [over'_length, htk] at this
          simp only [List.length_append] at this ⊢
          omega
        obtain ⟨g', q1, q2, q3, q4⟩ := renew_sim hs hg hp (bl := .row e' (l0 ++ cellsR xs)) (o := .cells ⟨(vs0 ++ l) ++ rest'⟩ e' (0, 0)) (n := cp) (b := b) ⟨_, rest', rfl, hlen', hRR⟩ ⟨xx, hxx⟩
          (w' := w.setB b (.cells ⟨(vs0 ++ l) ++ rest'⟩ e' (0, 0))) (.inl ⟨rfl, rfl⟩) rfl rfl rfl
        refine ⟨_, _, g', .slice (some ⟨b, 0, none⟩) (len + n) cp, _, h, ?_, q1, q2, .rsl _ _ _ _ _ _ 0 _ _ trivial ?_ rfl ?_ hle q3 (fun b' m' hp' => ?_) h3⟩
        · rw [inplace (some ⟨b, 0, none⟩) len cp hle]
          simp only [addr_add, hst, Result.andThen_ok]
        · rw [q2.le.sv]; exact hT
        · rw [q2.le.sv]; push_cast; omega
        · rw [q4] at hp'; cases hp'
          exact ⟨rfl, by omega⟩
      · obtain ⟨rest', cap', hcap, hcap2, hrl, hrun⟩ := beyond (some ⟨b, 0, none⟩) len cp (by omega) hroom vs0 (fun w' hw => by
          have := run_loadCellsFrom (P := P) (w := w') (b := b) (l := vs0) (rest := rest) (e := e') (by rw [hw]; exact hobj) 0 (len * 1) 0 #[] (by omega)
          simp only [Builtin.firstCells, loadCells]
          rw [this, List.drop_zero, List.take_of_length_le (by omega)]; simp)
        rw [Nat.mul_one] at hrl
        have hlen' : (vs0 ++ l).length + rest'.length = cap' := by rw [List.length_append]; omega
        obtain ⟨g', q1, q2, q3, q4⟩ := renew_sim (hs.same (w' := w.drew) rfl) hg hp (bl := .row e' (l0 ++ cellsR xs)) (o := .cells ⟨(vs0 ++ l) ++ rest'⟩ e' (0, 0)) (n := cap') (b := w.heap.size) ⟨_, rest', rfl, hlen', hRR⟩ ⟨xx, hxx⟩
          (w' := w.drew.alloc (.cells ⟨(vs0 ++ l) ++ rest'⟩ e' (0, 0))) (.inr ⟨rfl, rfl⟩) rfl rfl rfl
        refine ⟨_, _, g', _, _, h, hrun, q1, (Ext.same (w := w) (w' := w.drew) rfl rfl rfl rfl).trans q2, .rsl _ _ _ _ _ _ 0 _ _ trivial ?_ rfl ?_ hcap q3 (fun b' m' hp' => ?_) hcap2⟩
        · rw [q2.le.sv]; exact hT
        · rw [q2.le.sv]; push_cast; omega
        · rw [q4] at hp'; cases hp'
          exact ⟨rfl, by omega⟩
    | false =>
      simp only [hc] at h
      split at h
      case h_2 => exact h.elim
      rename_i v
      obtain ⟨l', hl', h⟩ := Tr.sat_opt h
      cases hl with
      | cons hv hn =>
      cases hn
      rename_i x
      have hn1 : n = 1 := by simpa using hll1.symm
      subst hn1
      obtain ⟨p1, p2, us, rest2, p3, p4⟩ := rowPut_ok hv hl' hrr hT
      have hpos : (c + tval g.sv ts).toNat = len := by omega
      rw [hpos] at p3
      have hst := run_storeCells (P := P) (0 + len * 1) [x] [v] 0 (vs0 ++ rest) w (.cons hv .nil) hone hobj (by simp only [List.length_append, List.length_cons, List.length_nil]; omega)
      have hov : over' (vs0 ++ rest) (0 + len * 1 + 0) [x] = us ++ (rest2 ++ rest) := by
        show (vs0 ++ rest).set (0 + len * 1 + 0) x = _
        rw [show 0 + len * 1 + 0 = len by omega, List.set_append_left _ _ (by omega), p3, List.append_assoc]
      rw [hov] at hst
      have hlen' : us.length + (rest2 ++ rest).length = cp := by
        have := congrArg List.length p3
        rw [List.length_set, List.length_append] at this
        rw [List.length_append]; omega
      obtain ⟨hS, hE⟩ := set_sim hs hp hg (bl' := .row e' l') (o := .cells ⟨us ++ (rest2 ++ rest)⟩ e' (0, 0)) ⟨us, rest2 ++ rest, rfl, hlen', p4⟩ (w' := w.setB b _) rfl rfl rfl rfl
      refine ⟨_, _, g, .slice (some ⟨b, 0, none⟩) (len + 1) cp, _, h, ?_, hS, hE, .rsl _ _ _ _ _ _ 0 _ _ trivial hT rfl ?_ (by omega) h1 (fun b' m' hp' => ?_) h3⟩
      · rw [inplace (some ⟨b, 0, none⟩) len cp (by omega)]
        simp only [addr_add, hst, Result.andThen_ok]
      · push_cast; omega
      · rw [hp] at hp'; cases hp'
        exact ⟨rfl, by omega⟩
  | false =>
  rw [hr, cond_false] at h
  unfold appendTo at h
  split at h
  · -- nil
    cases hvs
    cases hn : Nat.beq n 0 with
    | true =>
      rw [hn] at h
      have : n = 0 := Nat.eq_of_beq_eq_true hn
      subst this
      refine ⟨_, _, g, _, _, h, ?_, hs, .refl g w, .nils⟩
      rw [inplace none 0 0 (by omega)]; rfl
    | false =>
      rw [hn] at h
      simp only [cond_false] at h
      have hn0 : n ≠ 0 := fun e => by subst e; cases hn
      obtain ⟨hm, h⟩ := Tr.sat_must h
      obtain ⟨r, hr, h⟩ := Tr.sat_opt h
      obtain ⟨rfl, hx⟩ := newA_some hr
      obtain ⟨rest, cap, hcap, hcap2, hrl, hrun⟩ := beyond none 0 0 (by omega) (by simpa using hm) [] (fun w' _ => rfl)
      rw [Nat.zero_add] at hcap hrl hrun
      have hbr : BR g (cap * z) (.cells (2 * e) xs) (.cells ⟨([] ++ l) ++ rest⟩ e (0, 0)) := ⟨l, rest, by rw [code_half0, List.nil_append], by rw [hll, hrl, ← Nat.add_mul]; congr 1; omega, hl, fun h => (code_even _ h).elim⟩
      obtain ⟨g', h1, h2, h3, h4⟩ := new_sim (hs.same (w' := w.drew) rfl) hbr hx (w' := w.drew.alloc (.cells ⟨([] ++ l) ++ rest⟩ e (0, 0))) rfl rfl rfl rfl
      refine ⟨_, _, g', _, _, h, hrun, h1, (Ext.same (w := w) (w' := w.drew) rfl rfl rfl rfl).trans h2, .slice _ _ _ _ _ _ _ h3 (fun b m hp => ?_) hcap2⟩
      obtain ⟨rfl, rfl⟩ := h4 b m hp
      exact ⟨rfl, by omega, hcap⟩
  · rename_i id off len cap z'
    obtain ⟨hzz', h⟩ := Tr.sat_must h
    have : z' = z := Nat.eq_of_beq_eq_true hzz'
    subst this
    cases hvs with
    | slice _ _ _ _ _ a c h1 h2 hcb =>
    by_cases hle : len + n ≤ cap
    · -- room that is known
      have hq : Nat.ble (len + n) cap = true := by simpa using hle
      simp only [Tr.sat, hq] at h
      split at h
      case h_2 => exact h.elim
      rename_i e0 cs hg
      obtain ⟨hm, h⟩ := Tr.sat_must h
      have hm : off + (len + n) * z' ≤ cs.length := by simpa using hm
      obtain ⟨b, m, o, hp, ho, l0, rest, rfl, hmm, hv, hxr⟩ := hs.blk _ _ hg
      obtain ⟨rfl, hsz1, hcc⟩ := h2 b m hp
      have hl0 : off + (len + n) * z' ≤ l0.length := by rw [← hv.length]; exact hm
      rw [Nat.add_mul] at hl0
      have hst := run_storeCells (P := P) (off + len * z') l xs 0 (l0 ++ rest) w hl hone ho (by rw [List.length_append, hll]; omega)
      rw [Nat.add_zero, over'_app _ _ _ _ (by rw [hll]; omega)] at hst
      obtain ⟨hS, hE⟩ := set_sim hs hp hg (bl' := .cells e0 (over cs (off + len * z') xs)) (o := .cells ⟨over' l0 (off + len * z') l ++ rest⟩ (e0 / 2) (0, 0)) ⟨_, rest, rfl, by rw [over'_length]; exact hmm, over_append hv _ hl, hxr⟩ (w' := w.setB b _) rfl rfl rfl rfl
      refine ⟨_, _, g, .slice (some ⟨b, off, none⟩) (len + n) c, _, h, ?_, hS, hE, .slice _ _ _ _ _ _ c h1 (fun b' m' hp' => ?_) hcb⟩
      · rw [inplace (some ⟨b, off, none⟩) len c (by omega)]
        simp only [addr_add, hst, Result.andThen_ok]
      · rw [hp] at hp'; cases hp'
        exact ⟨rfl, hsz1, hcc⟩
    · -- room that is not known
      have hq : Nat.ble (len + n) cap = false := by
        cases hb : Nat.ble (len + n) cap with
        | false => rfl
        | true => exact (hle (by simpa using hb)).elim
      simp only [Tr.sat, hq] at h
      split at h
      case h_2 => exact h.elim
      rename_i e0 cs hg _
      obtain ⟨hm, h⟩ := Tr.sat_must h
      simp only [Bool.and_eq_true] at hm
      have hm0 : e0 / 2 = e := Nat.eq_of_beq_eq_true hm.1.1
      have hm1 : (len + n) * by_ ≤ roomA := by simpa using hm.1.2
      have hm2 : len * z' ≤ cs.length := by simpa using hm.2
      subst hm0
      obtain ⟨b, m, o, hp, ho, l0, rest, rfl, hmm, hv, hxr⟩ := hs.blk _ _ hg
      obtain ⟨rfl, hsz1, hcc⟩ := h2 b m hp
      have hl0 : len * z' ≤ l0.length := by rw [← hv.length]; exact hm2
      split at h
      case h_2 => exact h.elim
      rename_i xx hxx
      have hVR : VRs g (cs.take (len * z') ++ xs) (l0.take (len * z') ++ l) := (hv.take _).append hl
      by_cases hlc : len + n ≤ c
      · -- in place
        have hmul := Nat.mul_le_mul_right z' hlc
        rw [Nat.add_mul] at hmul
        have hst := run_storeCells (P := P) (0 + len * z') l xs 0 (l0 ++ rest) w hl hone ho (by rw [List.length_append, hll]; omega)
        obtain ⟨rest', hr'⟩ := over'_at l (l0 ++ rest) (0 + len * z' + 0) (by rw [List.length_append, hll]; omega)
        have htk : (l0 ++ rest).take (0 + len * z' + 0) = l0.take (len * z') := by rw [Nat.add_zero, Nat.zero_add, List.take_append_of_le_length hl0]
        rw [hr', htk] at hst
        have hlen' : (l0.take (len * z') ++ l).length + rest'.length = m := by
          have := congrArg List.length hr'
          rw [over'_length, htk] at this
          simp only [List.length_append] at this ⊢
          omega
        obtain ⟨g', r1, r2, r3, r4⟩ := renew_sim hs hg hp (bl := .cells (2 * (e0 / 2)) (cs.take (len * z') ++ xs)) (o := .cells ⟨(l0.take (len * z') ++ l) ++ rest'⟩ (e0 / 2) (0, 0)) (n := m) (b := b) ⟨_, rest', by rw [code_half0], hlen', hVR, fun h => (code_even _ h).elim⟩ ⟨xx, hxx⟩
          (w' := w.setB b (.cells ⟨(l0.take (len * z') ++ l) ++ rest'⟩ (e0 / 2) (0, 0))) (.inl ⟨rfl, rfl⟩) rfl rfl rfl
        refine ⟨_, _, g', .slice (some ⟨b, 0, none⟩) (len + n) c, _, h, ?_, r1, r2, .slice _ _ _ _ _ _ c r3 (fun b' m' hp' => ?_) hcb⟩
        · rw [inplace (some ⟨b, 0, none⟩) len c hlc]
          simp only [addr_add, hst, Result.andThen_ok]
        · rw [r4] at hp'; cases hp'
          exact ⟨rfl, hsz1, hlc⟩
      · obtain ⟨rest', cap', hcap, hcap2, hrl, hrun⟩ := beyond (some ⟨b, 0, none⟩) len c (by omega) hm1 (l0.take (len * z')) (fun w' hw => by
          have := run_loadCellsFrom (P := P) (w := w') (b := b) (l := l0) (rest := rest) (e := e0 / 2) (by rw [hw]; exact ho) 0 (len * z') 0 #[] (by omega)
          simp only [Builtin.firstCells, loadCells]
          rw [this]; simp)
        have hlen' : (l0.take (len * z') ++ l).length + rest'.length = cap' * z' := by
          rw [List.length_append, List.length_take, hll, hrl, Nat.min_eq_left hl0, ← Nat.add_mul, ← Nat.add_mul]
          congr 1; omega
        obtain ⟨g', r1, r2, r3, r4⟩ := renew_sim (hs.same (w' := w.drew) rfl) hg hp (bl := .cells (2 * (e0 / 2)) (cs.take (len * z') ++ xs)) (o := .cells ⟨(l0.take (len * z') ++ l) ++ rest'⟩ (e0 / 2) (0, 0)) (n := cap' * z') (b := w.heap.size) ⟨_, rest', by rw [code_half0], hlen', hVR, fun h => (code_even _ h).elim⟩ ⟨xx, hxx⟩
          (w' := w.drew.alloc (.cells ⟨(l0.take (len * z') ++ l) ++ rest'⟩ (e0 / 2) (0, 0))) (.inr ⟨rfl, rfl⟩) rfl rfl rfl
        refine ⟨_, _, g', _, _, h, hrun, r1, (Ext.same (w := w) (w' := w.drew) rfl rfl rfl rfl).trans r2, .slice _ _ _ _ _ _ cap' r3 (fun b' m' hp' => ?_) hcap2⟩
        rw [r4] at hp'; cases hp'
        exact ⟨rfl, by omega, hcap⟩
  · exact h.elim
end
end Go.AM
