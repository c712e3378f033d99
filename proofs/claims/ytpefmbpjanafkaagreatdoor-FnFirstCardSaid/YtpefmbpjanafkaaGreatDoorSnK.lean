/- The abstract machine: every operation. -/
import Derived.Test.YtpefmbpjanafkaaGreatDoorSnG
import Derived.Lib.ConvBytes
set_option linter.unusedVariables false
set_option linter.unusedSimpArgs false
namespace Go.AM

noncomputable def Post (g : Ghost) (w : World) (K : R → Prop) (e : Ending) (w' : World) : Prop :=
  ∃ v a σ' g', e = .returned v ∧ K (a, σ') ∧ Sim g' σ' w' ∧ Ext g g' w w' ∧ VR g' a v

/-- What the run of an operation owes. -/
noncomputable def OpOK (P : Program) (g : Ghost) (w : World) (K : R → Prop) : Result Next → Prop
  | .ok (.value v) w' => ∃ a σ' g', K (a, σ') ∧ Sim g' σ' w' ∧ Ext g g' w w' ∧ VR g' a v
  | .ok .skip w' => ∃ a σ' g', K (a, σ') ∧ Sim g' σ' w' ∧ Ext g g' w w' ∧ VR g' a undef
  | .ok (.enter f args) w' => Calls P f args w' (Post g w K)
  | _ => False

/-- A byte below 128 is a character. -/
theorem decode_small (s : List UInt8) (pos : Nat) (h : pos < s.length) (c : Nat) (hc : c = (s[pos]'h).toNat) (h128 : c < 128) : Utf8.decode ⟨s.toArray⟩ pos = (c, 1) := by
  have hg : ((⟨s.toArray⟩ : ByteArray).get! pos).toNat = c := by
    rw [hc]
    show ((s.toArray)[pos]!).toNat = _
    simp [h]
  unfold Utf8.decode
  simp only [Nat.add_zero, hg, h128, if_true]
/-- The listed variables lie where the program has them. -/
noncomputable def GR (X : Env) (g : Ghost) : Prop := ∀ i cs, X.glob i = some cs → g.I i = some cs

noncomputable def RunOK (X : Env) (run : FuncId → List AV → Store → Tr R) : Prop :=
  ∀ (f : FuncId) (args : List AV) (σ : Store) (K : R → Prop) (g : Ghost) (w : World) (args' : List Value), (run f args σ).sat K → VRs g args args' → Sim g σ w → GR X g → Calls X.P f ⟨args'⟩ w (Post g w K)

structure EnvOK (X : Env) : Prop where
  callable : ∀ f, X.callable f = true → ∀ args w, (callFunc f args).run X.P w = .ok (.enter f args) w
  mixed : X.P.follows .mixedOrders = true

section
variable {P : Program} {g : Ghost} {σ : Store} {w : World}

theorem OpOK.value {s : Sem Value} {K : R → Prop} (h : OweW P g w s K) : OpOK P g w K ((do pure (.value (← s)) : Sem Next).run P w) := by
  obtain ⟨a, σ', g', v, w', h1, h2, h3, h4, h5⟩ := h
  simp only [Sem.run_bind, h2, Result.andThen_ok, Sem.run_pure]
  exact ⟨a, σ', g', h1, h3, h4, h5⟩

theorem alloc_owe (hs : Sim g σ w) {cs : List AV} {l : List Value} (hv : VRs g cs l) {K : R → Prop} (e : TypeId) (h : (opt (newA σ (2 * e + 1) cs) Tr.ret).sat K) (s : Sem Value)
    (hr : s.run P w = .ok (.pointer (some ⟨w.heap.size, 0, none⟩)) (w.alloc (.cells ⟨l⟩ e))) : OweW P g w s K := by
  obtain ⟨r, hr', h⟩ := Tr.sat_opt h
  obtain ⟨rfl, hx⟩ := newA_some hr'
  obtain ⟨g', h1, h2, h3, h4⟩ := new_sim hs (bl := .cells (2 * e + 1) cs) (o := .cells ⟨l⟩ e (0, 0)) (n := l.length) ⟨l, [], by rw [code_half1, List.append_nil], by simp, hv, fun _ => rfl⟩ hx (w' := w.alloc (.cells ⟨l⟩ e)) rfl rfl rfl rfl
  exact ⟨_, _, g', _, _, h, hr, h1, h2, .ptr _ _ _ h3 fun b n hp => by rw [(h4 b n hp).1]⟩

theorem method_sound (hs : Sim g σ w) {t : TypeId} {v : AV} {u : Value} (hv : VR g v u) {name : String} {f : FuncId} {r : AV} (h : methodA P σ t v name = some (f, r)) (fuel : Nat) :
    ∃ r', VR g r r' ∧ (method (fuel + 1) t u name).run P w = .ok (f, r') w := by
  unfold methodA at h
  split at h
  case h_1 => cases h
  rename_i i hi
  split at h
  case h_1 => cases h
  rename_i m hm
  have hrecv : ∀ {ft : TypeId} {ff : FuncId} {p : Bool} {a : AV} {ad : Addr}, VR g a (.pointer (some ad)) → methodA.recv P σ ft ff p a (sizeT P ft) = some (f, r) → ∃ r', VR g r r' ∧ ff = f ∧ ∀ wr, (receiverAt ft (.var ad) p wr).run P w = .ok r' w := by
    intro ft ff p a ad ha hrc
    unfold methodA.recv at hrc
    split at hrc
    case h_2 => cases hrc
    rename_i zz fs hz hu
    split at hrc
    · cases hrc
      exact ⟨_, ha, rfl, fun wr => by simp [receiverAt, run_und hu]⟩
    · simp only [Option.map_eq_some_iff, Prod.mk.injEq] at hrc
      obtain ⟨lv, hl, rfl, rfl⟩ := hrc
      obtain ⟨r', h1, h2⟩ := load_sound hs ha hl
      refine ⟨r', h1, rfl, fun wr => ?_⟩
      simp only [Instr.loadAt, Instr.sureAddr, Sem.run_bind, Sem.run_pure, Result.andThen_ok] at h2
      simp [receiverAt, run_und hu, Place.get, h2]
  split at h
  · rename_i f' hpath hfunc
    split at h
    case h_2 => cases h
    rename_i el hu
    cases h
    refine ⟨u, hv, ?_⟩
    have hp0 : m.path.toList = [] := hpath
    simp only [method, Sem.run_bind, run_info hi, Result.andThen_ok, hm, hp0, follow, Sem.run_pure, hfunc]
    simp [receiverAt, run_und hu, Place.get]
  · rename_i s f' p hpath hfunc
    split at h
    case h_2 => cases h
    rename_i fs hder hu
    have hget : (Place.get t (.val u)).run P w = .ok u w := rfl
    have hfp : ∀ (fd : Field) (ad : Addr) n, sizeT P fd.type = some (n + 1) → (fieldPlace ad fd).run P w = .ok (ad.add fd.offset) w := by
      intro fd ad n hz; simp [fieldPlace, run_size hz]
    split at h
    · rename_i fd id off hfd
      cases hv with
      | ptr _ _ ad h1 h2 =>
      cases hz : sizeT P fd.type with
      | none => rw [hz] at h; simp [methodA.recv] at h
      | some n =>
        cases n with
        | zero => rw [hz] at h; simp [methodA.recv] at h
        | succ n =>
          obtain ⟨r', q1, q2, q3⟩ := hrecv (a := .ptr id (off + fd.offset)) (ad := ad.add fd.offset) (.ptr _ _ _ h1 fun b m hp => by rw [h2 b m hp, addr_add]) h
          subst q2
          refine ⟨r', q1, ?_⟩
          simp only [method, Sem.run_bind, run_info hi, Result.andThen_ok, hm, hpath, follow, run_und hu, hfd, hder, if_true, hget, asAddr, Sem.run_pure, hfp fd ad n hz, hfunc, q3]
    · rename_i fd cs off hfd
      cases hv with
      | ref _ _ b hI =>
      cases hz : sizeT P fd.type with
      | none => rw [hz] at h; simp [methodA.recv] at h
      | some n =>
        cases n with
        | zero => rw [hz] at h; simp [methodA.recv] at h
        | succ n =>
          obtain ⟨r', q1, q2, q3⟩ := hrecv (a := .ref cs (off + fd.offset)) (ad := (⟨b, off, none⟩ : Addr).add fd.offset) (by rw [addr_add]; exact .ref _ _ _ hI) h
          subst q2
          refine ⟨r', q1, ?_⟩
          simp only [method, Sem.run_bind, run_info hi, Result.andThen_ok, hm, hpath, follow, run_und hu, hfd, hder, if_true, hget, asAddr, Sem.run_pure, hfp fd _ n hz, hfunc, q3]
    · cases h
  · cases h

noncomputable def repeatV (l : List Value) : Nat → List Value
  | 0 => []
  | n + 1 => l ++ repeatV l n
theorem VRs_repeat {z : List AV} {l : List Value} (h : VRs g z l) : ∀ n, VRs g (repeatA z n) (repeatV l n)
  | 0 => .nil
  | n + 1 => h.append (VRs_repeat h n)
theorem repeatV_length (l : List Value) : ∀ n, (repeatV l n).length = n * l.length
  | 0 => by simp [repeatV]
  | n + 1 => by simp [repeatV, repeatV_length l n, Nat.add_mul]; omega
theorem repeatV_get (l : List Value) : ∀ (n i : Nat), i < n * l.length → (repeatV l n)[i]? = l[i % l.length]?
  | 0, i, h => by simp at h
  | n + 1, i, h => by
    have h0 : 0 < l.length := by
      rcases Nat.eq_zero_or_pos l.length with e | e
      · rw [e] at h; simp at h
      · exact e
    unfold repeatV
    by_cases hi : i < l.length
    · rw [List.getElem?_append_left hi, Nat.mod_eq_of_lt hi]
    · rw [List.getElem?_append_right (by omega), repeatV_get l n (i - l.length) (by rw [Nat.add_mul] at h; omega)]
      congr 1
      rw [← Nat.mod_eq_sub_mod (by omega)]
theorem range_repeat (z : Array Value) (n : Nat) (hz : 0 < z.size) : ((Array.range (n * z.size)).map fun i => z[i % z.size]!) = ⟨repeatV z.toList n⟩ := by
  apply Array.ext_getElem?
  intro i
  by_cases hi : i < n * z.size
  · have h1 : i % z.size < z.size := Nat.mod_lt _ hz
    have h2 := repeatV_get z.toList n i (by simpa using hi)
    rw [Array.length_toList] at h2
    simp only [List.getElem?_toArray] 
    rw [h2]
    simp [hi, h1]
  · rw [Array.getElem?_eq_none (by simp; omega), Array.getElem?_eq_none (by simp [repeatV_length]; omega)]

theorem strT_some {t : TypeId} (h : strT P t = true) : P.underlying t = some .string := by
  unfold strT at h
  split at h
  · rename_i h2; exact h2
  · cases h
theorem key_run {kt : TypeId} (hk : P.underlying kt = some .string) {u : Value} {e : Bool} : (Instr.checkKey e 10000 kt u).run P w = .ok () w := by
  obtain ⟨m, hm⟩ : ∃ m, 10000 = m + 1 := ⟨9999, rfl⟩
  rw [hm]
  unfold Instr.checkKey
  simp only [Sem.run_bind, run_und hk, Result.andThen_ok]
  cases u <;> rfl
theorem str_beq {l m : List UInt8} : ((⟨l.toArray⟩ : ByteArray) == ⟨m.toArray⟩) = decide (l = m) := by
  show (l.toArray == m.toArray) = _
  by_cases h : l = m
  · subst h; simp
  · rw [decide_eq_false h]; simp [h]
/-- What stands behind a key is what the real map has there. -/
noncomputable def FoundOK (g : Ghost) (xv : Value) (es : List MapEntry) (i : Nat) : Option AV → Prop
  | none => Instr.findNow .string xv es i = some none
  | some v => ∃ j val, Instr.findNow .string xv es i = some (some (j, val)) ∧ VR g v val
theorem findM_ok {x : AV} {xv : Value} (hx : VR g x xv) : ∀ {ks vs : List AV} {es : List MapEntry} {i : Nat} {r : Option AV}, VRs g ks (es.map (·.key)) → VRs g vs (es.map (·.val)) → findM x ks vs = some r → FoundOK g xv es i r
  | [], vs, [], i, r, _, _, h => by cases h; rfl
  | k :: ks, [], e :: es, i, r, _, hv, _ => by cases hv
  | k :: ks, v :: vs, e :: es, i, r, hk, hv, h => by
    cases hk with
    | cons hk1 hk2 =>
    cases hv with
    | cons hv1 hv2 =>
    unfold findM at h
    have hkey : ∀ b, keyEq x k = some b → Instr.sameNow .string xv e.key = some b := by
      intro b hb
      unfold keyEq at hb
      split at hb
      · rename_i a c ha hc
        obtain ⟨a1, rfl⟩ := sym_segs hx ha
        obtain ⟨c1, c2⟩ := sym_segs hk1 hc
        have c2 : e.key = _ := c2
        rw [c2]
        show some (_ == _) = _
        rw [str_beq, symEq_ok hb a1 c1]
      · cases hb
    split at h
    · rename_i hb
      cases h
      refine ⟨i, e.val, ?_, hv1⟩
      unfold Instr.findNow
      rw [hkey _ hb]
    · rename_i hb
      have ih := findM_ok hx (i := i + 1) hk2 hv2 h
      have e1 : Instr.findNow .string xv (e :: es) i = Instr.findNow .string xv es (i + 1) := by
        conv => lhs; unfold Instr.findNow
        rw [hkey _ hb]
      cases r with
      | none => show _ = _; rw [e1]; exact ih
      | some v =>
        obtain ⟨j, val, h3, h4⟩ := ih
        exact ⟨j, val, by rw [e1]; exact h3, h4⟩
    · cases h
theorem refl_owe (hs : Sim g σ w) {s : Sem Value} {K : R → Prop} {a : AV} {v : Value} (h : K (a, σ)) (hv : VR g a v) (hr : s.run P w = .ok v w) : OweW P g w s K :=
  ⟨a, σ, g, v, w, h, hr, hs, .refl g w, hv⟩

theorem cond_yes' {α : Type} {c : Bool} {t : Tr α} {K : α → Prop} (h : (cond c t .fail).sat K) : c = true ∧ t.sat K := by
  cases c with
  | true => exact ⟨rfl, h⟩
  | false => exact h.elim
theorem bytes_owe (hs : Sim g σ w) {s d e : TypeId} {u : List UInt8} (h1 : P.underlying s = some .string) (h2 : P.underlying d = some (.slice e)) (he : P.underlying e = some (.int .u8)) (hu : u.length ≤ 1000000000) {y : Blk} (hy : (σ.new (.sb u)).get σ.next = some y) {K : R → Prop} (h : K (.slice σ.next 0 u.length u.length 1, σ.new (.sb u))) :
    OweW P g w (convert s d (.string ⟨u.toArray⟩)) K := by
  have hsz : (⟨u.toArray⟩ : ByteArray).size = u.length := by simp [size_mk]
  have hc1 := grownCap_ge w u.length 0 e
  have hc2 := grownCap_le_maxLen w u.length 0 e (by unfold maxLen; omega)
  have hn : (Lib.bytesCells w e ⟨u.toArray⟩).size = grownCap w u.length 0 e := by
    simp [Lib.bytesCells, size_mk]
    omega
  have hcells : Lib.bytesCells w e ⟨u.toArray⟩ = ⟨(u.map fun b => Value.int .u8 b.toNat) ++ (Array.replicate (grownCap w u.length 0 e - u.length) (Value.int .u8 0)).toList⟩ := by
    apply Array.ext'
    simp [Lib.bytesCells, size_mk]
  have hheap : (Lib.bytesWorld w e ⟨u.toArray⟩).heap = w.heap.push (.cells ⟨(u.map fun b => Value.int .u8 b.toNat) ++ (Array.replicate (grownCap w u.length 0 e - u.length) (Value.int .u8 0)).toList⟩ e (grownCap w u.length 0 e, grownCap w u.length 0 e + 1)) := by
    apply Array.ext_getElem?
    intro j
    rcases Nat.lt_trichotomy j w.heap.size with hj | hj | hj
    · rw [Lib.bytesWorld_at_old _ _ _ _ hj, Array.getElem?_push, if_neg (by omega)]
    · rw [hj, Lib.bytesWorld_at_new, Array.getElem?_push, if_pos rfl, hn, hcells]
    · rw [Array.getElem?_eq_none (by rw [Lib.bytesWorld_size]; omega), Array.getElem?_eq_none (by rw [Array.size_push]; omega)]
  obtain ⟨g', s1, s2, s3, s4⟩ := new_sim hs (bl := .sb u) (n := grownCap w u.length 0 e) ⟨e, _, rfl, by simp; omega⟩ ⟨y, hy⟩ (w' := Lib.bytesWorld w e ⟨u.toArray⟩) hheap rfl rfl rfl
  refine ⟨_, _, g', _, _, h, Lib.run_convert_string_bytes w s d e ⟨u.toArray⟩ h1 h2 he, s1, s2, ?_⟩
  rw [hsz]
  refine .slice _ _ _ _ _ _ _ s3 (fun b n hp => ?_) hc2
  obtain ⟨rfl, rfl⟩ := s4 b n hp
  exact ⟨rfl, by omega, hc1⟩
theorem ifc_sound (hs : Sim g σ w) {op : BinOp} {t : TypeId} {x y : Operand} {a b : AV} {v u : Value} (ha : VR g a v) (hb : VR g b u) {K : AV → Prop} (h : (ifcA P σ op t a b (constO x || constO y)).sat K) :
    Owe P g w (do eqGuard op t x y v u; binOp op t v u) K := by
  unfold ifcA at h
  cases hc : isEql op && samePtr P σ t a b with
  | false => rw [hc] at h; exact bin_sound ha hb h
  | true =>
    rw [hc] at h
    simp only [Bool.and_eq_true] at hc
    obtain ⟨ho, hc⟩ := hc
    cases op <;> first | (cases ho; done) | skip
    unfold samePtr at hc
    split at hc
    case h_2 => cases hc
    rename_i T1 i o T2 j q
    simp only [Bool.and_eq_true] at hc
    obtain ⟨⟨⟨⟨⟨c1, c2⟩, c3⟩, c4⟩, c5⟩, c6⟩ := hc
    have c1 := Nat.eq_of_beq_eq_true c1
    have c2 := Nat.eq_of_beq_eq_true c2
    have c3 := Nat.eq_of_beq_eq_true c3
    subst c1 c2 c3
    split at c4
    case h_2 => cases c4
    rename_i bl hbl
    obtain ⟨B, n, ob, hp, _, _⟩ := hs.blk _ _ hbl
    have hg : (eqGuard .eql t x y v u).run P w = .ok () w := eqGuard_ok (P := P) (w := w) (op := .eql) (t := t) (x := x) (y := y) ha hb (fun _ h => by cases h) (fun h => by cases h) (fun h => by cases h) (fun h => by cases h)
    cases ha with
    | iface _ ha =>
    cases hb with
    | iface _ hb =>
    cases ha with
    | ptr _ _ A a1 a2 =>
    cases hb with
    | ptr _ _ A' b1 b2 =>
    rw [a2 B n hp, b2 B n hp] at *
    refine .of h (.bool _) ?_
    split at c5
    case h_2 => cases c5
    rename_i ms hms
    split at c6
    case h_2 => cases c6
    rename_i inf el hi hpt
    simp only [Bool.and_eq_true] at c6
    obtain ⟨c6, c7⟩ := c6
    split at c7
    case h_2 => cases c7
    rename_i sz hsz
    have he : (Op.equal t (.iface T1 (.pointer (some ⟨B, o, none⟩))) (.iface T1 (.pointer (some ⟨B, o, none⟩)))).run P w = .ok true w := by
      unfold Op.equal
      obtain ⟨dep, hdep⟩ : ∃ d, Op.maxDepth = d + 1 + 1 := ⟨9998, rfl⟩
      rw [hdep, Op.equalIn]
      simp only [Sem.run_bind, run_und hms, Result.andThen_ok]
      simp only [ne_eq, not_true_eq_false, if_false, Sem.run_bind, run_info hi, Result.andThen_ok, c6, Bool.not_true, Bool.false_eq_true]
      have hsa : (sameAddr ⟨B, o, none⟩ ⟨B, o, none⟩).run P w = .ok true w := by simp [sameAddr]
      simp only [Op.equalIn, Sem.run_bind, run_und hpt, Result.andThen_ok, run_size hsz]
      split
      · exact hsa
      · rw [if_pos (by simp)]; rfl
    have hbo : (binOp .eql t (.iface T1 (.pointer (some ⟨B, o, none⟩))) (.iface T1 (.pointer (some ⟨B, o, none⟩)))).run P w = .ok (.bool true) w := by
      simp only [binOp, Sem.run_bind, he, Result.andThen_ok]; rfl
    simp [hg, hbo]
theorem op_sound {X : Env} (hX : EnvOK X) {run : FuncId → List AV → Store → Tr R} (hrun : RunOK X run) (hG : GR X g) (hs : Sim g σ w) {ρ : Operand → AV} {ρ' : Operand → Value} (hρ : ER g ρ ρ') (o : Oper) {K : R → Prop} (h : (opA X run σ ρ o.op).sat K) :
    OpOK X.P g w K ((execOp ρ' o).run X.P w) := by
  by_cases hst : stillOp o.op = true
  · obtain ⟨a, v, h1, h2, h3⟩ := still_sound hs hρ o hst h
    rw [h3]; exact ⟨a, σ, g, h1, hs, .refl g w, h2⟩
  obtain ⟨dst, op, ty, pos, after, guard⟩ := o
  cases op <;> simp only [stillOp, not_true_eq_false, reduceCtorEq, not_false_eq_true] at hst <;> try exact h.elim
  case convert s d x =>
    have hd : Nat.beq d bytesT34 = true := by cases hb : Nat.beq d bytesT34 with | true => rfl | false => rw [hb] at hst; exact absurd rfl hst
    have h : (cond (Nat.beq d bytesT34) (allocC X.P s d (ρ x) σ) ((convertA X.P s d (ρ x) σ).bind fun a => (.ret (a, σ) : Tr R))).sat K := h
    rw [hd, cond_true] at h
    unfold allocC at h
    split at h
    case h_2 => exact h.elim
    rename_i e u h1 h2 hx
    split at h
    case h_2 => exact h.elim
    rename_i he
    obtain ⟨hc, h⟩ := cond_yes' h
    split at h
    case h_2 => exact h.elim
    rename_i y hy
    have hv := hρ x
    rw [hx] at hv
    generalize hxv : ρ' x = v at hv
    cases hv
    exact OpOK.value (bytes_owe hs h1 h2 he (Nat.le_of_ble_eq_true hc) hy h |> fun q => by rw [← hxv] at q; exact q)
  case binOp op t x y yt =>
    have hd : Nat.beq t ifcT112 = true := by cases hb : Nat.beq t ifcT112 with | true => rfl | false => rw [hb] at hst; exact absurd rfl hst
    have h : (cond (Nat.beq t ifcT112) ((ifcA X.P σ op t (ρ x) (ρ y) (constO x || constO y)).bind fun a => (.ret (a, σ) : Tr R)) ((binA X.P op t (ρ x) (ρ y) (constO x || constO y)).bind fun a => (.ret (a, σ) : Tr R))).sat K := h
    rw [hd, cond_true, Tr.sat_bind] at h
    obtain ⟨a, v, h1, h2, h3⟩ := ifc_sound (P := X.P) (w := w) hs (x := x) (y := y) (hρ x) (hρ y) h
    exact OpOK.value ⟨a, σ, g, v, w, h1, h3, hs, .refl g w, h2⟩
  case alloc e =>
    simp only [opA] at h
    obtain ⟨z, hz, h⟩ := Tr.sat_opt h
    obtain ⟨zv, h1, h2⟩ := zero_sound (g := g) (w := w) hz
    exact OpOK.value (alloc_owe hs h2 e h _ (by simp [Instr.alloc, h1, newVar, newRow]))
  case box e x =>
    simp only [opA] at h
    cases hn : nonAny (ρ x) with
    | false => rw [hn] at h; exact h.elim
    | true =>
      rw [hn] at h
      exact OpOK.value (alloc_owe hs (VRs_cells (hρ x) hn) e h _ (by simp [Instr.box, newVar, newRow]))
  case buildSlice t len parts =>
    simp only [opA] at h
    split at h
    case h_2 => exact h.elim
    rename_i e hu
    obtain ⟨z, hz, h⟩ := Tr.sat_opt h
    obtain ⟨n, hn, h⟩ := Tr.sat_opt h
    cases hc : (Nat.beq z.length n && !(Nat.beq n 0) && !(Nat.beq len 0) && Nat.ble (len * n) 65536) with
    | false => rw [hc] at h; exact h.elim
    | true =>
    rw [hc] at h
    simp only [cond_true] at h
    simp only [Bool.and_eq_true, Bool.not_eq_true'] at hc
    obtain ⟨⟨⟨c1, c2⟩, c3⟩, c4⟩ := hc
    have c1 : z.length = n := Nat.eq_of_beq_eq_true c1
    have c2 : n ≠ 0 := fun h0 => by rw [h0] at c2; cases c2
    have c3 : len ≠ 0 := fun h0 => by rw [h0] at c3; cases c3
    have c4 : len * n ≤ 65536 := by simpa using c4
    obtain ⟨cs, hcs, h⟩ := Tr.sat_opt h
    obtain ⟨r, hr, h⟩ := Tr.sat_opt h
    obtain ⟨rfl, hx⟩ := newA_some hr
    obtain ⟨zv, h1, h2⟩ := zero_sound (g := g) (w := w) hz
    have hzs : zv.cells.size = n := by rw [← c1, h2.length, Array.length_toList]
    have hrep := range_repeat zv.cells len (by omega)
    rw [hzs] at hrep
    obtain ⟨r', f1, f2⟩ := fill_sound (g := g) (place := fun i => some (i * n, n)) (parts.toList.map fun q => (q.1, ρ q.2)) (parts.toList.map fun q => (q.1, ρ' q.2)) (repeatA z len) ⟨repeatV zv.cells.toList len⟩ cs (by simp) (parts_get hρ _) (VRs_repeat h2 len) hcs
    have hlen : r'.size = len * n := by
      have hl : ∀ (ps : List (Nat × AV)) (c r : List AV), fillA (fun i => some (i * n, n)) c ps = some r → r.length = c.length := by
        intro ps
        induction ps with
        | nil => intro c r h; cases h; rfl
        | cons p ps ih =>
          intro c r h
          obtain ⟨i, v⟩ := p
          unfold fillA at h
          simp only at h
          obtain ⟨_, h⟩ := cond_some h
          rw [ih _ _ h]
          have : ∀ (l c : List AV) (k : Nat), (over c k l).length = c.length := by
            intro l
            induction l with
            | nil => intro c k; rfl
            | cons a l ih => intro c k; rw [over, ih]; simp
          exact this _ _ _
      have e1 := hl _ _ _ hcs
      have e2 := (VRs_repeat h2 len).length
      rw [← Array.length_toList, ← f2.length, e1, e2, repeatV_length, Array.length_toList, hzs]
    obtain ⟨g', s1, s2, s3, s4⟩ := new_sim hs (bl := .cells (2 * e + 1) cs) (o := .cells ⟨r'.toList⟩ e (0, 0)) (n := r'.size) ⟨r'.toList, [], by rw [code_half1, List.append_nil], by simp, f2, fun _ => rfl⟩ hx (w' := w.alloc (.cells ⟨r'.toList⟩ e)) rfl rfl rfl rfl
    refine OpOK.value ⟨_, _, g', .slice (some ⟨w.heap.size, 0, none⟩) len len, _, h, ?_, s1, s2, .slice _ _ _ _ _ _ _ s3 (fun b m hp => ?_) (by have := Nat.le_mul_of_pos_right len (Nat.pos_of_ne_zero c2); omega)⟩
    · simp only [Instr.buildSlice, Sem.run_bind, run_und hu, Result.andThen_ok, run_size hn]
      rw [if_neg (by omega), if_neg (by rw [Nat.mul_eq_zero]; omega)]
      simp only [Sem.run_bind, h1, Result.andThen_ok, Sem.run_pure, hzs, hrep]
      simp only [Array.toList_map]
      rw [show (List.map (fun (x : Nat × Operand) => (x.1, ρ' x.2)) parts.toList) = (parts.toList.map fun q => (q.1, ρ' q.2)) from rfl, f1]
      simp [newRow]
    · obtain ⟨rfl, rfl⟩ := s4 b m hp
      exact ⟨rfl, by omega, Nat.le_refl _⟩
  case store t a x =>
    simp only [opA] at h
    obtain ⟨σ', hs', h⟩ := Tr.sat_opt h
    obtain ⟨w', h1, h2, h3⟩ := store_sound hs (hρ a) (hρ x) hs'
    have : (execOp ρ' ⟨dst, .store t a x, ty, pos, after, guard⟩).run X.P w = .ok .skip w' := by
      simp [execOp, h1]
    rw [this]
    exact ⟨_, _, g, h, h2, h3, .any _⟩
  case makeSlice t ln cp =>
    simp only [opA] at h
    unfold makeSliceA at h
    split at h
    case h_2 => exact h.elim
    rename_i e k1 l k2 c hu hl hc
    have hl' := hρ ln
    have hc' := hρ cp
    rw [hl] at hl'
    rw [hc] at hc'
    generalize hlv : ρ' ln = lv at hl'
    generalize hcv : ρ' cp = cv at hc'
    cases hl'; cases hc'
    split at h
    case h_2 => exact h.elim
    rename_i z by_ hz hby
    obtain ⟨hm, h⟩ := Tr.sat_must h
    simp only [Bool.and_eq_true, decide_eq_true_eq, Bool.not_eq_true'] at hm
    obtain ⟨⟨⟨⟨⟨⟨m1, m2⟩, m3⟩, m4⟩, m5⟩, m6⟩, m7⟩ := hm
    have m5 : by_ ≤ 65536 := by simpa using m5
    have m7 : z.length ≠ 0 := fun h0 => by rw [h0] at m7; cases m7
    obtain ⟨r, hr, h⟩ := Tr.sat_opt h
    obtain ⟨rfl, hx⟩ := newA_some hr
    obtain ⟨i, zv, hi, hiz, hzle⟩ := zeroT_some hz
    have hzv : VRs g z zv.cells.toList := by rw [hzle]; exact VRs_zero zv
    have hzs : zv.cells.size = z.length := by rw [hzv.length, Array.length_toList]
    have hzrun : (zeroValue e).run X.P w = .ok zv w := by simp [zeroValue, run_info hi, hiz]
    have hbytes : i.bytes = by_ := by simpa [hi] using hby
    obtain ⟨C, rfl⟩ : ∃ C : Nat, c = C := ⟨c.toNat, by omega⟩
    obtain ⟨L, rfl⟩ : ∃ L : Nat, l = L := ⟨l.toNat, by omega⟩
    have hwrap : ∀ n : Nat, (n : Int) ≤ 1048576 → IntKind.i64.wrap n = n := fun n hn => inR_wrap (by simp [inR]; omega)
    have hsz : sizeT X.P e = some z.length := by
      revert m6
      cases hs0 : sizeT X.P e with
      | none => intro h0; cases h0
      | some n => intro h0; rw [Nat.eq_of_beq_eq_true h0]
    have hmul : by_ * C ≤ 65536 * 1048576 := Nat.mul_le_mul m5 (by omega)
    have hmul' : ¬ ((by_ : Int) * (C : Int) > 2 ^ 48) := by
      have : ((by_ * C : Nat) : Int) = (by_ : Int) * C := by simp
      omega
    have hask : ∀ (m : Nat) (w' : World), (askRoom m).run X.P w' = .ok () w' := by
      intro m w'; unfold askRoom; split <;> rfl
    have hrep := range_repeat zv.cells C (by omega)
    rw [hzs] at hrep
    obtain ⟨g', s1, s2, s3, s4⟩ := new_sim hs (bl := .cells (2 * e + 1) (repeatA z C)) (o := .cells ⟨repeatV zv.cells.toList C⟩ e (0, 0)) (n := C * z.length) ⟨repeatV zv.cells.toList C, [], by rw [code_half1, List.append_nil], by rw [repeatV_length, Array.length_toList, hzs]; simp, VRs_repeat hzv C, fun _ => rfl⟩ (by simpa using hx) (w' := w.alloc (.cells ⟨repeatV zv.cells.toList C⟩ e)) rfl rfl rfl rfl
    refine OpOK.value ⟨_, _, g', .slice (some ⟨w.heap.size, 0, none⟩) L C, _, h, ?_, by simpa using s1, s2, ?_⟩
    · have c1 : ¬ ((C : Int) < 0) := by omega
      have c2 : ¬ ((L : Int) < 0) := by omega
      have c3 : ¬ ((L : Int) > C) := by omega
      have c4 : C * z.length ≠ 0 := by rw [Nat.mul_ne_zero_iff]; omega
      simp only [Instr.makeSlice, Sem.run_bind, run_und hu, Result.andThen_ok, hlv, hcv, asInt, asIntOf, Sem.run_pure, run_info hi, hbytes, hwrap C (by omega), hwrap L (by omega)]
      rw [if_neg (by simp [c1, c2, c3]; omega)]
      simp only [Sem.run_bind, hask, Result.andThen_ok, run_size hsz, Int.toNat_natCast, c4, if_false, hzrun, Sem.run_pure, hzs, hrep]
      simp [newRow]
    · simp only [Int.toNat_natCast]
      refine .slice _ _ _ _ _ _ _ s3 (fun b m hp => ?_) (by omega)
      obtain ⟨rfl, rfl⟩ := s4 b m hp
      exact ⟨rfl, by omega, Nat.le_refl _⟩
  case makeMap t re =>
    cases re with
    | some r => exact h.elim
    | none =>
    have h : (newM σ).sat K := h
    unfold newM at h
    split at h
    case h_2 => exact h.elim
    rename_i y hy
    obtain ⟨g', s1, s2, s3, s4⟩ := new_sim hs (bl := .mp [] []) (o := .map ⟨[]⟩ 0) (n := 0) ⟨[], 0, rfl, .nil, .nil⟩ ⟨y, hy⟩ (w' := w.alloc (.map ⟨[]⟩ 0)) rfl rfl rfl rfl
    exact OpOK.value ⟨_, _, g', .map (some w.heap.size), _, h, by simp [Instr.makeMap], s1, s2, .amap _ _ s3 fun b m hp => (s4 b m hp).1.symm⟩
  case mapUpdate t m k x =>
    have h : (updM X.P σ t (ρ m) (ρ k) (ρ x)).sat K := h
    unfold updM at h
    split at h
    case h_2 => exact h.elim
    rename_i id hm
    split at h
    case h_2 => exact h.elim
    rename_i kt et ks vs hu hg
    cases hst : strT X.P kt with
    | false => rw [hst] at h; exact h.elim
    | true =>
    rw [hst, cond_true] at h
    split at h
    case h_2 => exact h.elim
    rename_i sg hsg hf
    have hk := strT_some hst
    have hmv := hρ m
    rw [hm] at hmv
    generalize hv : ρ' m = v at hmv
    cases hmv with
    | amap _ r h1 h2 =>
    obtain ⟨b, n, o, hp, ho, es, cl, rfl, hks, hvs⟩ := hs.blk _ _ hg
    have hrb := h2 b n hp
    subst hrb
    have hf : Instr.findNow .string (ρ' k) es 0 = some none := findM_ok (hρ k) (i := 0) hks hvs hf
    obtain ⟨r1, r2⟩ := set_sim hs hp hg (bl' := .mp (ks ++ [ρ k]) (vs ++ [ρ x])) (o := .map ⟨es ++ [⟨ρ' k, ρ' x, cl⟩]⟩ (cl + 1)) ⟨es ++ [⟨ρ' k, ρ' x, cl⟩], cl + 1, rfl, by rw [List.map_append]; exact hks.append (.cons (hρ k) .nil), by rw [List.map_append]; exact hvs.append (.cons (hρ x) .nil)⟩ (w' := w.setB r (.map ⟨es ++ [⟨ρ' k, ρ' x, cl⟩]⟩ (cl + 1))) rfl rfl rfl rfl
    have hrun : (Instr.mapUpdate t (.map (some r)) (ρ' k) (ρ' x)).run X.P w = .ok () (w.setB r (.map ⟨es ++ [⟨ρ' k, ρ' x, cl⟩]⟩ (cl + 1))) := by
      have hfk : (Instr.findKey kt (ρ' k) es).run X.P w = .ok none w := by simp [Instr.findKey, run_und hk, hf]
      simp only [Instr.mapUpdate, Sem.run_bind, run_und hu, Result.andThen_ok, getObj, Sem.run, ho, key_run hk]
      rw [hfk]
      simp [setObj, Sem.run, ho, World.setB]
    have : (execOp ρ' ⟨dst, .mapUpdate t m k x, ty, pos, after, guard⟩).run X.P w = .ok .skip (w.setB r (.map ⟨es ++ [⟨ρ' k, ρ' x, cl⟩]⟩ (cl + 1))) := by
      simp [execOp, hv, hrun]
    rw [this]
    exact ⟨_, _, g, h, r1, r2, .any _⟩
  case lookup t x ix ok =>
    have h : (lookK X.P σ t (ρ x) (ρ ix) ok).sat K := h
    unfold lookK at h
    split at h
    case h_1 =>
      rename_i id hx
      unfold lookMp at h
      split at h
      case h_2 => exact h.elim
      rename_i k e ks vs hu hg
      obtain ⟨z, hz, h⟩ := Tr.sat_opt h
      cases hst : strT X.P k with
      | false => rw [hst] at h; exact h.elim
      | true =>
      rw [hst, cond_true] at h
      have hk := strT_some hst
      have hxv := hρ x
      rw [hx] at hxv
      generalize hv : ρ' x = v at hxv
      cases hxv with
      | amap _ r h1 h2 =>
      obtain ⟨b, n, o, hp, ho, es, cl, rfl, hks, hvs⟩ := hs.blk _ _ hg
      have hrb := h2 b n hp
      subst hrb
      obtain ⟨zv, z1, z2⟩ := zeroV_sound (g := g) (w := w) hz
      split at h
      case h_3 => exact h.elim
      case h_1 =>
        rename_i v hf
        obtain ⟨j, val, h3, h4⟩ := findM_ok (hρ ix) (i := 0) hks hvs hf
        have hfk : (Instr.findKey k (ρ' ix) es).run X.P w = .ok (some (j, val)) w := by simp [Instr.findKey, run_und hk, h3]
        have hrun : ∀ cok, (Instr.lookup t (ρ' x) (ρ' ix) cok).run X.P w = .ok (if cok then .tuple #[val, .bool true] else val) w := by
          intro cok
          simp only [Instr.lookup, Sem.run_bind, run_und hu, Result.andThen_ok, hv, getObj, Sem.run, ho, Sem.run_pure, key_run hk]
          rw [hfk]
          simp
        cases ok with
        | true => exact OpOK.value (refl_owe hs h (tup2 h4 true) (hrun true))
        | false => exact OpOK.value (refl_owe hs h h4 (hrun false))
      case h_2 =>
        rename_i hf
        have h3 : Instr.findNow .string (ρ' ix) es 0 = some none := findM_ok (hρ ix) (i := 0) hks hvs hf
        have hfk : (Instr.findKey k (ρ' ix) es).run X.P w = .ok none w := by simp [Instr.findKey, run_und hk, h3]
        have hrun : ∀ cok, (Instr.lookup t (ρ' x) (ρ' ix) cok).run X.P w = .ok (if cok then .tuple #[zv, .bool false] else zv) w := by
          intro cok
          simp only [Instr.lookup, Sem.run_bind, run_und hu, Result.andThen_ok, hv, getObj, Sem.run, ho, Sem.run_pure, key_run hk]
          rw [hfk]
          simp [z1]
        cases ok with
        | true => exact OpOK.value (refl_owe hs h (tup2 z2 false) (hrun true))
        | false => exact OpOK.value (refl_owe hs h z2 (hrun false))
    rename_i y hny hx9
    unfold lookA at h
    split at h
    case h_2 => exact h.elim
    rename_i k e hu hx
    obtain ⟨z, hz, h⟩ := Tr.sat_opt h
    have hk : X.P.underlying k = some .string := by
      cases hk : X.P.underlying k with
      | none => rw [hk] at h; exact h.elim
      | some d => cases d <;> first | rfl | (rw [hk] at h; exact h.elim)
    rw [hk] at h
    simp only [cond_false] at h
    have hxv := hρ x
    rw [hx] at hxv
    generalize hv : ρ' x = v at hxv
    cases hxv
    obtain ⟨zv, h1, h2⟩ := zeroV_sound (g := g) (w := w) hz
    have hck : ∀ u, (Instr.checkKey true 10000 k u).run X.P w = .ok () w := by
      intro u
      obtain ⟨m, hm⟩ : ∃ m, 10000 = m + 1 := ⟨9999, rfl⟩
      rw [hm]
      unfold Instr.checkKey
      simp only [Sem.run_bind, run_und hk, Result.andThen_ok]
      cases u <;> rfl
    have hfk : ∀ u, (Instr.findKey k u []).run X.P w = .ok none w := by
      intro u; simp [Instr.findKey, run_und hk, Instr.findNow]
    have hrun2 : ∀ cok, (Instr.lookup t (ρ' x) (ρ' ix) cok).run X.P w = .ok (if cok then .tuple #[zv, .bool false] else zv) w := by
      intro cok
      simp only [Instr.lookup, Sem.run_bind, run_und hu, Result.andThen_ok, hv, Sem.run_pure, Array.isEmpty_empty, hck, hfk, h1]
    cases ok with
    | true => exact OpOK.value (refl_owe hs h (tup2 h2 false) (hrun2 true))
    | false => exact OpOK.value (refl_owe hs h h2 (hrun2 false))
  case range t x =>
    simp only [opA] at h
    split at h
    case h_3 => exact h.elim
    case h_1 =>
      rename_i s hu hx
      split at h
      case h_2 => exact h.elim
      rename_i y hy
      have hxv := hρ x
      rw [hx] at hxv
      generalize hv : ρ' x = v at hxv
      cases hxv
      obtain ⟨g', s1, s2, s3, s4⟩ := new_sim hs (bl := .iter s 0) (o := .stringIter ⟨s.toArray⟩ 0) (n := 0) rfl ⟨y, hy⟩ (w' := w.alloc (.stringIter ⟨s.toArray⟩ 0)) rfl rfl rfl rfl
      exact OpOK.value ⟨_, _, g', .pointer (some ⟨w.heap.size, 0, none⟩), _, h, by simp [Instr.range, run_und hu, hv], s1, s2, .ptr _ _ _ s3 fun b m hp => by rw [(s4 b m hp).1]⟩
    case h_2 =>
      rename_i s hu hx
      split at h
      case h_2 => exact h.elim
      rename_i y hy
      have hxv := hρ x
      rw [hx] at hxv
      generalize hv : ρ' x = v at hxv
      cases hxv
      rename_i hok
      obtain ⟨g', s1, s2, s3, s4⟩ := new_sim hs (bl := .siter s 0 []) (o := .stringIter ⟨(den g.sv s).toArray⟩ 0) (n := 0) ⟨0, rfl, hok, trivial, rfl⟩ ⟨y, hy⟩ (w' := w.alloc (.stringIter ⟨(den g.sv s).toArray⟩ 0)) rfl rfl rfl rfl
      exact OpOK.value ⟨_, _, g', .pointer (some ⟨w.heap.size, 0, none⟩), _, h, by simp [Instr.range, run_und hu, hv], s1, s2, .ptr _ _ _ s3 fun b m hp => by rw [(s4 b m hp).1]⟩
  case next it isS =>
    cases isS with
    | false => exact h.elim
    | true =>
    simp only [opA] at h
    split at h
    case h_2 => exact h.elim
    rename_i id hit
    split at h
    case h_3 => exact h.elim
    case h_2 =>
      rename_i l n ts hg
      obtain ⟨b, m, o, hp, ho, hbr⟩ := hs.blk _ _ hg
      obtain ⟨pos, rfl, hok, hts, hpos⟩ := hbr
      have hiv := hρ it
      rw [hit] at hiv
      generalize hv : ρ' it = v at hiv
      cases hiv with
      | ptr _ _ a h1 h2 =>
      obtain rfl := h2 b m hp
      unfold siterA at h
      split at h
      case h_2 => exact h.elim
      · rename_i c hat
        obtain ⟨hm, h⟩ := Tr.sat_must h
        obtain ⟨a0, a1, a2⟩ := symAt_ok hat hok hts
        rw [← hpos] at a0 a1 a2
        have hlt : pos < (den g.sv l).length := by omega
        have hcc : (c : Int) = ((den g.sv l)[pos]'hlt).toNat := by
          rcases a2 ((den g.sv l)[pos]'hlt) (by simp [hlt]) with hc | ⟨cl, hc, _⟩
          · injection hc
          · cases hc
        have hcn : c = ((den g.sv l)[pos]'hlt).toNat := by exact_mod_cast hcc
        have hc128 : c < 128 := by simpa [Nat.blt_eq] using hm
        have hdec : Utf8.decode ⟨(den g.sv l).toArray⟩ pos = (c, 1) := decode_small _ _ hlt _ hcn hc128
        obtain ⟨hS, hE⟩ := set_sim hs hp hg (bl' := .siter l (n + 1) ts) (o := .stringIter ⟨(den g.sv l).toArray⟩ (pos + 1)) ⟨pos + 1, rfl, hok, hts, by omega⟩ (w' := w.setB b (.stringIter ⟨(den g.sv l).toArray⟩ (pos + 1))) rfl rfl rfl rfl
        have hlin := VR_mkLin (g := g) (c := n) hts
        rw [← hpos] at hlin
        refine OpOK.value ⟨_, _, g, .tuple #[.bool true, goInt pos, .int .i32 c], _, h, ?_, hS, hE, .tup (.cons (.bool _) (.cons hlin (.cons (.int _ _) .nil)))⟩
        simp only [Instr.next, hv, Sem.run_bind, getObj, Sem.run, ho, Result.andThen_ok, size_mk, hlt, if_true, setObj, hdec]
        rfl
      · obtain ⟨hm, h⟩ := Tr.sat_must h
        have hend : ¬ pos < (den g.sv l).length := by
          split at hm
          case h_2 => cases hm
          rename_i he
          obtain ⟨s1, s2⟩ := segLen_ok hok
          obtain ⟨n1, n2⟩ := negTs_ok s1
          obtain ⟨q1, q2⟩ := addTs_ok n1 hts
          rw [he] at q2
          simp only [tval] at q2
          rw [eqI_eq] at hm
          have hm := of_decide_eq_true hm
          omega
        refine OpOK.value (refl_owe hs h (v := .tuple #[.bool false]) (.tup (.cons (.bool _) .nil)) ?_)
        simp only [Instr.next, hv, Sem.run_bind, getObj, Sem.run, ho, Result.andThen_ok, size_mk, hend, if_false, Sem.run_pure]
        try rfl
    rename_i s pos hg
    obtain ⟨b, n, o, hp, ho, hbr⟩ := hs.blk _ _ hg
    have hbr : o = .stringIter ⟨s.toArray⟩ pos := hbr
    subst hbr
    have hiv := hρ it
    rw [hit] at hiv
    generalize hv : ρ' it = v at hiv
    cases hiv with
    | ptr _ _ a h1 h2 =>
    obtain rfl := h2 b n hp
    by_cases hlt : pos < s.length
    · have hq : Nat.blt pos s.length = true := by rw [Nat.blt_eq]; exact hlt
      simp only [Tr.sat, hq] at h
      obtain ⟨hS, hE⟩ := set_sim hs hp hg (bl' := .iter s (pos + (Utf8.decode ⟨s.toArray⟩ pos).2)) (o := .stringIter ⟨s.toArray⟩ (pos + (Utf8.decode ⟨s.toArray⟩ pos).2)) rfl (w' := w.setB b (.stringIter ⟨s.toArray⟩ (pos + (Utf8.decode ⟨s.toArray⟩ pos).2))) rfl rfl rfl rfl
      refine OpOK.value ⟨_, _, g, .tuple #[.bool true, goInt pos, .int .i32 (Utf8.decode ⟨s.toArray⟩ pos).1], _, h, ?_, hS, hE, .tup (.cons (.bool _) (.cons (.int _ _) (.cons (.int _ _) .nil)))⟩
      simp only [Instr.next, hv, Sem.run_bind, getObj, Sem.run, ho, Result.andThen_ok, size_mk, hlt, if_true, setObj]
      rfl
    · have hq : Nat.blt pos s.length = false := by
        cases hb : Nat.blt pos s.length with
        | false => rfl
        | true => exact (hlt (by rw [Nat.blt_eq] at hb; exact hb)).elim
      simp only [Tr.sat, hq] at h
      refine OpOK.value (refl_owe hs h (v := .tuple #[.bool false]) (.tup (.cons (.bool _) .nil)) ?_)
      simp only [Instr.next, hv, Sem.run_bind, getObj, Sem.run, ho, Result.andThen_ok, size_mk, hlt, if_false, Sem.run_pure]
      try rfl
  case call c =>
    have hl : ∀ l : List Operand, VRs g (l.map ρ) (l.map ρ') := fun l => by
      induction l with
      | nil => exact .nil
      | cons x l ih => exact .cons (hρ x) ih
    have enter : ∀ (f : FuncId) (as : List AV) (vs : List Value), VRs g as vs → (cond (X.callable f) (run f as σ) .fail).sat K → OpOK X.P g w K ((callFunc f ⟨vs⟩).run X.P w) := by
      intro f as vs hv hr
      cases hc : X.callable f with
      | false => rw [hc] at hr; exact hr.elim
      | true =>
        rw [hc] at hr
        rw [hX.callable f hc]
        exact hrun f as σ K g w vs hr hv hs hG
    obtain ⟨callee, args, at'⟩ := c
    simp only [opA, callA] at h
    split at h
    · exact absurd rfl hst
    · split at h
      case h_2 => exact h.elim
      rename_i t u s x ht hu hargs
      have hargs' : args = #[s, x] := by rw [← Array.toList_inj, hargs]
      subst hargs'
      have := append_sound (P := X.P) (ty := ty) hs (hρ s) (hρ x) h
      have h2 : Builtin.append_ at' ty #[ρ' s, ρ' x] = Builtin.append_ #[t, u] ty #[ρ' s, ρ' x] := by
        unfold Builtin.append_
        simp [ht, hu]
      have h3 : (execOp ρ' ⟨dst, .call ⟨.builtin .append, #[s, x], at'⟩, ty, pos, after, guard⟩).run X.P w = ((do pure (.value (← Builtin.append_ #[t, u] ty #[ρ' s, ρ' x])) : Sem Next)).run X.P w := by
        simp only [execOp, resolve, Sem.run_bind, Sem.run_pure, Result.andThen_ok, invoke, builtin, List.map_toArray, List.map_cons, List.map_nil, h2]
      rw [h3]
      exact OpOK.value this
    · exact h.elim
    · rename_i r name
      split at h
      case h_2 => exact h.elim
      rename_i t v hr
      obtain ⟨⟨f, rv⟩, hm, h⟩ := Tr.sat_opt h
      have hrv := hρ r
      rw [hr] at hrv
      generalize hv : ρ' r = u at hrv
      cases hrv with
      | iface _ hrv =>
      obtain ⟨r', q1, q2⟩ := method_sound (P := X.P) hs hrv hm (X.P.types.size + Made.depth - 1)
      have hd : X.P.types.size + Made.depth - 1 + 1 = X.P.types.size + Made.depth := by unfold Made.depth; omega
      rw [hd] at q2
      have := enter f (rv :: args.toList.map ρ) (r' :: args.toList.map ρ') (.cons q1 (hl _)) h
      have h3 : (execOp ρ' ⟨dst, .call ⟨.invoke r name, args, at'⟩, ty, pos, after, guard⟩).run X.P w = (callFunc f ⟨r' :: args.toList.map ρ'⟩).run X.P w := by
        have hsz : ∀ u : Value, (#[u] ++ args.map ρ').extract 1 (#[u] ++ args.map ρ').size = args.map ρ' := by
          intro u
          rw [← Array.toList_inj]
          simp
          rw [List.take_of_length_le (by simp)]
        have h0 : ∀ u : Value, (#[u] ++ args.map ρ')[0]? = some u := by intro u; rw [Array.getElem?_append_left (by simp)]; rfl
        have harr : #[r'] ++ args.map ρ' = ⟨r' :: args.toList.map ρ'⟩ := by rw [← Array.toList_inj]; simp
        simp only [execOp, resolve, Sem.run_bind, Sem.run_pure, Result.andThen_ok, invoke, hv]
        rw [hsz]
        simp only [h0, callMethod, Sem.run_bind, run_program, Result.andThen_ok, q2, harr]
      rw [h3]; exact this
    · rename_i f
      split at h
      case h_2 => exact h.elim
      rename_i gf first cap hf
      have hfv := hρ f
      rw [hf] at hfv
      generalize hv : ρ' f = u at hfv
      cases hfv with
      | fn _ ha hb =>
      have := enter gf _ _ ((ha.append (hl args.toList)).append hb) h
      rename_i fa fb
      have h3 : (execOp ρ' ⟨dst, .call ⟨.value f, args, at'⟩, ty, pos, after, guard⟩).run X.P w = (callFunc gf ⟨fa ++ args.toList.map ρ' ++ fb⟩).run X.P w := by
        have harr : (⟨fa⟩ ++ args.map ρ' ++ ⟨fb⟩ : Array Value) = ⟨fa ++ args.toList.map ρ' ++ fb⟩ := by rw [← Array.toList_inj]; simp
        simp only [execOp, resolve, hv, Deferred.ofValue, Sem.run_bind, Sem.run_pure, Result.andThen_ok, invoke]
        rw [harr]
      rw [h3]; exact this
end
end Go.AM
/- The abstract machine: regions. -/
namespace Go.AM

theorem Ghost.GR_mono {X : Env} {g g' : Ghost} (h : GR X g) (hg : g.le g') : GR X g' := fun i cs hi => hg.I i cs (h i cs hi)

/-- Frames that read alike. -/
structure FR (g : Ghost) (fr : List AV) (a : Act) : Prop where
  vrs : VRs g fr a.tmps.toList
  defers : a.defers = []

section
variable {X : Env} {g : Ghost} {σ : Store} {w : World}

theorem FR.mono {g g' : Ghost} (hg : g.le g') {fr : List AV} {a : Act} (h : FR g fr a) : FR g' fr a := ⟨h.vrs.mono hg, h.defers⟩

theorem FR.get {fr : List AV} {a : Act} (h : FR g fr a) (t : Nat) : VR g (fr.getD t .any) (a.tmps.getD t undef) := by
  by_cases ht : t < fr.length
  · obtain ⟨v, h1, h2⟩ := h.vrs.get t fr[t] (List.getElem?_eq_getElem ht)
    have e1 : fr.getD t .any = fr[t] := by simp [List.getD, ht]
    have e2 : a.tmps.getD t undef = v := by
      have : a.tmps[t]? = some v := by simpa using h1
      simp [Array.getD_eq_getD_getElem?, this]
    rw [e1, e2]; exact h2
  · have : fr.getD t .any = .any := by simp [List.getD, List.getElem?_eq_none (Nat.not_lt.1 ht)]
    rw [this]; exact .any _

theorem FR.er {fr : List AV} {a : Act} (h : FR g fr a) (hG : GR X g) : ER g (evalO X fr) a.eval := by
  intro x
  cases x with
  | tmp t => exact h.get t
  | const v => exact VR_ofV g v
  | global i =>
    simp only [evalO, Act.eval]
    cases hi : X.glob i with
    | none => exact .any _
    | some cs => exact .ref _ _ _ (hG i cs hi)
  | func f => exact .fn _ .nil .nil

theorem FR.put {fr : List AV} {a : Act} (h : FR g fr a) (d : Option Tmp) {v : AV} {u : Value} (hv : VR g v u) : FR g (putA fr d v) (a.put d u) := by
  cases d with
  | none => exact h
  | some d =>
    refine ⟨?_, h.defers⟩
    simp only [putA, Act.put, Array.toList_setIfInBounds]
    exact h.vrs.set d hv

theorem want_sound {ops : Array Oper} {fr : List AV} {a : Act} (h : FR g fr a) {o : Oper} {K : Bool → Prop} (hw : (wantA ops fr o.guard).sat K) : K (Region.wanted o (yielded ops a.tmps)) := by
  unfold wantA at hw
  unfold Region.wanted
  cases hg : o.guard with
  | none => rw [hg] at hw; exact hw
  | some p =>
    obtain ⟨j, want⟩ := p
    rw [hg] at hw
    simp only at hw
    cases hd : (ops[j]?).bind (·.dst) with
    | none => rw [hd] at hw; exact hw.elim
    | some d =>
      rw [hd] at hw
      simp only at hw
      have hget := h.get d
      have hlt : fr.getD d .any ≠ .any → d < fr.length := by
        intro hb
        rcases Nat.lt_or_ge d fr.length with h' | h'
        · exact h'
        · exact (hb (by simp [List.getD, List.getElem?_eq_none h'])).elim
      have htm : fr.getD d .any ≠ .any → a.tmps[d]? = some (a.tmps.getD d undef) := by
        intro hb
        have hsz : d < a.tmps.size := by rw [← Array.length_toList, ← h.vrs.length]; exact hlt hb
        rw [Array.getElem?_eq_getElem hsz]
        simp [Array.getD, hsz]
      split at hw
      · rename_i b hb
        have ht := htm (by rw [hb]; intro h; cases h)
        rw [hb] at hget
        generalize hu : a.tmps.getD d undef = u at hget ht
        cases hget
        have hy : yielded ops a.tmps j = some b := by
          unfold yielded
          rw [hd]
          simp [ht]
        show K (yielded ops a.tmps j == some want)
        rw [hy]
        have : (some b == some want) = (b == want) := by cases b <;> cases want <;> rfl
        rw [this]; exact hw
      · exact hw.elim
      · exact hw.elim
      · rename_i hnb hna hnu
        have ht := htm hna
        generalize hu : a.tmps.getD d undef = u at hget ht
        generalize hv : fr.getD d .any = v at hget hnb hna hnu
        have hy : yielded ops a.tmps j = none := by
          unfold yielded
          rw [hd]
          simp only [Option.bind_some, ht]
          cases hget <;> first | rfl | (exact (hnb _ rfl).elim) | (exact (hna rfl).elim) | (exact (hnu rfl).elim)
        show K (yielded ops a.tmps j == some want)
        rw [hy]
        exact hw

theorem oper_sound (hX : EnvOK X) {run : FuncId → List AV → Store → Tr R} (hrun : RunOK X run) (hG : GR X g) (hs : Sim g σ w) {ops : Array Oper} {fr : List AV} {a : Act} (hf : FR g fr a) {o : Oper} {K : List AV × Store → Prop}
    (h : (operA X run ops o fr σ).sat K) {rest : List Oper} {Q : Exit → Act → World → Prop}
    (hk : ∀ fr' σ' a' w' g', K (fr', σ') → FR g' fr' a' → Sim g' σ' w' → Ext g g' w w' → wpList X.P ops Q rest a' w') : wpList X.P ops Q (o :: rest) a w := by
  unfold operA at h
  rw [Tr.sat_bind] at h
  have hw := want_sound (K := fun c => Tr.sat (match c with | true => (opA X run σ (evalO X fr) o.op).bind fun r => .ret (putA fr o.dst r.1, r.2) | false => .ret (putA fr o.dst (.tup []), σ)) K) hf h
  unfold wpList
  cases hwt : Region.wanted o (yielded ops a.tmps) with
  | false =>
    rw [hwt] at hw
    simp only [Bool.false_eq_true, if_false]
    exact hk _ _ _ _ g hw (hf.put _ (.tup .nil)) hs (.refl g w)
  | true =>
    rw [hwt] at hw
    simp only [if_true]
    left
    simp only [Tr.sat_bind] at hw
    have := op_sound hX hrun hG hs (hf.er hG) o hw
    unfold Oper.wp
    generalize (execOp a.eval o).run X.P w = res at this
    cases res with
    | halt x w' => exact this.elim
    | ok n w' =>
      cases n <;> simp only [OpOK] at this <;> try exact this.elim
      case value v =>
        obtain ⟨av, σ', g', h1, h2, h3, h4⟩ := this
        exact hk _ _ _ _ g' h1 ((hf.mono h3.le).put _ h4) h2 h3
      case skip =>
        obtain ⟨av, σ', g', h1, h2, h3, h4⟩ := this
        exact hk _ _ _ _ g' h1 ((hf.mono h3.le).put _ h4) h2 h3
      case enter f args =>
        refine this.mono ?_
        rintro e w'' ⟨v, av, σ', g', rfl, h1, h2, h3, h4⟩
        exact hk _ _ _ _ g' h1 ((hf.mono h3.le).put _ h4) h2 h3

theorem seq_sound (hX : EnvOK X) {run : FuncId → List AV → Store → Tr R} (hrun : RunOK X run) {ops : Array Oper} {Q : Exit → Act → World → Prop} : ∀ (l : List Oper) {g : Ghost} {σ : Store} {w : World} {fr : List AV} {a : Act} {K : List AV × Store → Prop}, GR X g → Sim g σ w → FR g fr a →
    (seqA X run ops l fr σ).sat K → (∀ fr' σ' a' w' g', K (fr', σ') → FR g' fr' a' → Sim g' σ' w' → Ext g g' w w' → Q .normal a' w') → wpList X.P ops Q l a w
  | [], g, σ, w, fr, a, K, hG, hs, hf, h, hk => hk fr σ a w g h hf hs (.refl g w)
  | o :: l, g, σ, w, fr, a, K, hG, hs, hf, h, hk => by
    unfold seqA at h
    rw [Tr.sat_bind] at h
    refine oper_sound hX hrun hG hs hf h fun fr' σ' a' w' g' h1 h2 h3 h4 => ?_
    exact seq_sound hX hrun l (Ghost.GR_mono hG h4.le) h3 h2 h1 fun fr'' σ'' a'' w'' g'' k1 k2 k3 k4 => hk _ _ _ _ _ k1 k2 k3 (h4.trans k4)

theorem seqA_append (run : FuncId → List AV → Store → Tr R) (ops : Array Oper) : ∀ (l m : List Oper) (fr : List AV) (σ : Store), seqA X run ops (l ++ m) fr σ = (seqA X run ops l fr σ).bind fun r => seqA X run ops m r.1 r.2
  | [], m, fr, σ => rfl
  | o :: l, m, fr, σ => by
    have assoc : ∀ {α β γ : Type} (t : Tr α) (f : α → Tr β) (h : β → Tr γ), (t.bind f).bind h = t.bind fun a => (f a).bind h := by
      intro α β γ t f h
      induction t with
      | ret a => rfl
      | ask b k ih => simp only [Tr.bind]; congr 1; funext c; exact ih c
      | fail => rfl
    simp only [List.cons_append, seqA, assoc]
    congr 1
    funext r
    exact seqA_append run ops l m r.1 r.2

theorem head_still : ∀ (l : List Oper) (n : Nat), n ≤ headLen l → ∀ o ∈ l.take n, stillOp o.op = true
  | [], n, _, o, ho => by simp at ho
  | x :: l, n, hn, o, ho => by
    unfold headLen at hn
    cases hx : stillOp x.op with
    | false => rw [hx] at hn; simp only [cond_false, Nat.le_zero_eq] at hn; subst hn; simp at ho
    | true =>
      rw [hx] at hn
      cases n with
      | zero => simp at ho
      | succ n =>
        simp only [List.take_succ_cons, List.mem_cons] at ho
        rcases ho with rfl | ho
        · exact hx
        · exact head_still l n (by simp only [cond_true] at hn; omega) o ho

theorem stills_sound {run : FuncId → List AV → Store → Tr R} {ops : Array Oper} {Q : Act → Prop} (hG : GR X g) (hs : Sim g σ w) : ∀ (l : List Oper) {fr : List AV} {a : Act} {K : List AV × Store → Prop}, (∀ o ∈ l, stillOp o.op = true) → FR g fr a →
    (seqA X run ops l fr σ).sat K → (∀ fr' a', K (fr', σ) → FR g fr' a' → Q a') → wpStill X.P ops w Q l a
  | [], fr, a, K, _, hf, h, hk => hk fr a h hf
  | o :: l, fr, a, K, hst, hf, h, hk => by
    unfold seqA operA at h
    rw [Tr.sat_bind, Tr.sat_bind] at h
    have hw := want_sound (K := fun c => Tr.sat (match c with | true => (opA X run σ (evalO X fr) o.op).bind fun r => .ret (putA fr o.dst r.1, r.2) | false => .ret (putA fr o.dst (.tup []), σ)) fun r => (seqA X run ops l r.1 r.2).sat K) hf h
    unfold wpStill
    cases hwt : Region.wanted o (yielded ops a.tmps) with
    | false =>
      rw [hwt] at hw
      simp only [Bool.false_eq_true, if_false]
      exact stills_sound hG hs l (fun o ho => hst o (List.mem_cons_of_mem _ ho)) (hf.put _ (.tup .nil)) hw hk
    | true =>
      rw [hwt] at hw
      simp only [if_true]
      simp only [Tr.sat_bind] at hw
      obtain ⟨av, v, h1, h2, h3⟩ := still_sound hs (hf.er hG) o (hst o (List.mem_cons_self ..)) hw
      unfold Oper.still
      rw [h3]
      exact ⟨rfl, stills_sound hG hs l (fun o ho => hst o (List.mem_cons_of_mem _ ho)) (hf.put _ h2) h1 hk⟩

end
end Go.AM
