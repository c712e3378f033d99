/- The abstract machine: code, bodies, calls: THE SOUNDNESS OF THE EVALUATOR. -/
import Derived.Test.YtpefmbpjanafkaaGreatDoorSnL
import Derived.Scope
import Derived.ScopeJumps
set_option linter.unusedVariables false
set_option linter.unusedSimpArgs false
namespace Go.AM

abbrev RX := Exit × List AV × Store

/-- The end of a piece of code, as the abstract machine tells it. -/
noncomputable def Meets (g : Ghost) (w : World) (K : RX → Prop) (e : Exit) (a' : Act) (w' : World) : Prop :=
  ∃ fr' σ' g', K (e, fr', σ') ∧ FR g' fr' a' ∧ Sim g' σ' w' ∧ Ext g g' w w'

theorem Meets.trans {g g' : Ghost} {w w' : World} {K : RX → Prop} (h : Ext g g' w w') {e : Exit} {a : Act} {w'' : World} (m : Meets g' w' K e a w'') : Meets g w K e a w'' := by
  obtain ⟨fr, σ, g'', h1, h2, h3, h4⟩ := m
  exact ⟨fr, σ, g'', h1, h2, h3, h.trans h4⟩

/-- What is told of a piece of code holds. -/
noncomputable def CodeOK (X : Env) (c : Code) (fr : List AV) (σ : Store) (t : Tr RX) : Prop :=
  ∀ (K : RX → Prop) (g : Ghost) (a : Act) (w : World), t.sat K → FR g fr a → Sim g σ w → GR X g → c.wp X.P (Meets g w K) a w

/-- What is told of a call holds. -/
noncomputable def CallOK (X : Env) (f : FuncId) (args : List AV) (σ : Store) (t : Tr R) : Prop :=
  ∀ (K : R → Prop) (g : Ghost) (w : World) (args' : List Value), t.sat K → VRs g args args' → Sim g σ w → GR X g → Calls X.P f ⟨args'⟩ w (Post g w K)

structure EnvOK' (X : Env) : Prop extends EnvOK X where
  spec : ∀ f args σ t, X.spec f args σ = some t → CallOK X f args σ t
  loop : ∀ b fr σ t, X.loop b fr σ = some t → CodeOK X (.loop b) fr σ t

section
variable {X : Env}

/-- A result read. -/
noncomputable def resV (tmps : Array Value) : ResultVar → Sem Value
  | .tmp t => pure (tmps.getD t undef)
  | .cell a t => do loadVar t (← asAddr (tmps.getD a undef))

theorem result_sound {g : Ghost} {σ : Store} {w : World} (hs : Sim g σ w) {fr : List AV} {a : Act} (hf : FR g fr a) {r : ResultVar} {v : AV} (h : resultA X.P fr σ r = some v) :
    ∃ u, VR g v u ∧ (resV a.tmps r).run X.P w = .ok u w := by
  cases r with
  | tmp t => cases h; exact ⟨_, hf.get t, rfl⟩
  | cell c t =>
    have h : loadA X.P σ t (fr.getD c .any) = some v := h
    obtain ⟨u, h1, h2⟩ := load_sound hs (hf.get c) h
    refine ⟨u, h1, ?_⟩
    have hp : ∃ a0, a.tmps.getD c undef = .pointer (some a0) := by
      have hv := hf.get c
      generalize a.tmps.getD c undef = v0 at hv
      generalize fr.getD c .any = x0 at hv h
      unfold loadA at h
      split at h
      · cases hv; exact ⟨_, rfl⟩
      · cases hc : cellsAt σ x0 with
        | none => rw [hc] at h; cases h
        | some p =>
          obtain ⟨cs, off⟩ := p
          obtain ⟨b, l, rest, e, mk, hv2, _⟩ := cellsAt_sim hs hv hc
          exact ⟨_, hv2⟩
    obtain ⟨a0, hv⟩ := hp
    rw [hv] at h2
    simp only [Instr.loadAt, Instr.sureAddr, Sem.run_bind, Sem.run_pure, Result.andThen_ok] at h2
    simp only [resV, hv, asAddr, Sem.run_bind, Sem.run_pure, Result.andThen_ok, h2]

theorem results_sound {g : Ghost} {σ : Store} {w : World} (hs : Sim g σ w) {fr : List AV} {a : Act} (hf : FR g fr a) {fn : Func} {v : AV} (h : resultsA X.P fr σ fn.results.toList = some v) :
    ∃ u, VR g v u ∧ (results fn a.tmps).run X.P w = .ok u w := by
  have many : ∀ (l : List ResultVar) (vs : List AV), resultsA.go X.P fr σ l = some vs → ∃ us, VRs g vs us ∧ (l.mapM (resV a.tmps)).run X.P w = .ok us w := by
    intro l
    induction l with
    | nil => intro vs h; cases h; exact ⟨[], .nil, rfl⟩
    | cons r l ih =>
      intro vs h
      unfold resultsA.go at h
      split at h
      case h_2 => cases h
      rename_i v m hv hm
      cases h
      obtain ⟨u, h1, h2⟩ := result_sound hs hf hv
      obtain ⟨us, h3, h4⟩ := ih m hm
      exact ⟨u :: us, .cons h1 h3, by simp only [List.mapM_cons, Sem.run_bind, h2, h4, Result.andThen_ok, Sem.run_pure]⟩
  have hres : results fn a.tmps = (do let vs ← fn.results.mapM (resV a.tmps); pure (if h : vs.size = 1 then vs[0] else .tuple vs)) := by
    unfold results
    congr
  have hmap : ∀ (us : List Value), (fn.results.toList.mapM (resV a.tmps)).run X.P w = .ok us w →
      (results fn a.tmps).run X.P w = .ok (match us with | [u] => u | us => .tuple ⟨us⟩) w := by
    intro us hus
    rw [hres, Array.mapM_eq_mapM_toList]
    simp only [Sem.run_bind, Sem.run_map, hus, Result.andThen_ok, Sem.run_pure]
    congr 1
    match us with
    | [] => rfl
    | [u] => rfl
    | _ :: _ :: _ => simp
  unfold resultsA at h
  split at h
  · rename_i r hr
    obtain ⟨u, h1, h2⟩ := result_sound hs hf h
    refine ⟨u, h1, ?_⟩
    have := hmap [u] (by
      rw [hr]
      simp only [List.mapM_cons, List.mapM_nil, Sem.run_bind, h2, Result.andThen_ok, Sem.run_pure])
    exact this
  · rename_i hne
    simp only [Option.map_eq_some_iff] at h
    obtain ⟨vs, hvs, rfl⟩ := h
    obtain ⟨us, h1, h2⟩ := many _ _ hvs
    refine ⟨.tuple ⟨us⟩, .tup h1, ?_⟩
    have := hmap us h2
    rw [this]
    congr 1
    match us with
    | [] => rfl
    | [u] =>
      have hl : ∀ (l : List ResultVar) (vs : List AV), resultsA.go X.P fr σ l = some vs → vs.length = l.length := by
        intro l
        induction l with
        | nil => intro vs h; cases h; rfl
        | cons r l ih =>
          intro vs h
          unfold resultsA.go at h
          split at h
          case h_2 => cases h
          rename_i v m _ hm
          cases h
          simp [ih m hm]
      have h3 := hl _ _ hvs
      rw [h1.length] at h3
      match hrl : fn.results.toList, h3 with
      | [r], _ => exact (hne r hrl).elim
    | _ :: _ :: _ => rfl

theorem VRs_pad (g : Ghost) : ∀ n, VRs g (padA n) (List.replicate n undef)
  | 0 => .nil
  | n + 1 => .cons (.tup .nil) (VRs_pad g n)

theorem body_sound {code : Code → List AV → Store → Tr RX} (hc : ∀ c fr σ, CodeOK X c fr σ (code c fr σ)) (f : FuncId) (args : List AV) (σ : Store) : CallOK X f args σ (bodyA X code f args σ) := by
  intro K g w args' h ha hs hG
  unfold bodyA at h
  split at h
  case h_1 => exact h.elim
  rename_i fn hfn
  split at h
  case h_1 => exact h.elim
  rename_i c hb
  rw [Tr.sat_bind] at h
  refine calls_of_wp hfn hb ?_
  have hfr : FR g (args ++ padA (fn.ntmps - args.length)) { tmps := (⟨args'⟩ : Array Value) ++ Array.replicate (fn.ntmps - (⟨args'⟩ : Array Value).size) undef, defers := [] } := by
    refine ⟨?_, rfl⟩
    have : ((⟨args'⟩ : Array Value) ++ Array.replicate (fn.ntmps - (⟨args'⟩ : Array Value).size) undef).toList = args' ++ List.replicate (fn.ntmps - args.length) undef := by simp [ha.length]
    rw [this]
    exact ha.append (VRs_pad g _)
  refine wp_mono (hc c _ σ _ g _ w h hfr hs hG) ?_
  rintro e a' w' ⟨fr', σ', g', h1, h2, h3, h4⟩
  cases e <;> simp only [Tr.sat] at h1 <;> try exact h1.elim
  all_goals
    obtain ⟨v, hv, h1⟩ := Tr.sat_opt h1
    obtain ⟨u, q1, q2⟩ := results_sound h3 h2 hv
    exact ⟨h2.defers, u, q2, u, v, σ', g', rfl, h1, h3, h4, q1⟩

theorem run_sound (hX : EnvOK' X) {code : Code → List AV → Store → Tr RX} (hc : ∀ c fr σ, CodeOK X c fr σ (code c fr σ)) : RunOK X (runA X code) := by
  intro f args σ K g w args' h ha hs hG
  unfold runA at h
  split at h
  · rename_i t ht; exact hX.spec f args σ t ht K g w args' h ha hs hG
  · exact body_sound hc f args σ K g w args' h ha hs hG

theorem region_sound (hX : EnvOK' X) {code : Code → List AV → Store → Tr RX} (hc : ∀ c fr σ, CodeOK X c fr σ (code c fr σ)) (id : Nat) (ops : Array Oper) (fr : List AV) (σ : Store) :
    CodeOK X (.region id ops false) fr σ ((seqA X (runA X code) ops ops.toList fr σ).bind fun r => .ret (.normal, r.1, r.2)) := by
  intro K g a w h hf hs hG
  rw [Tr.sat_bind] at h
  exact wp_region_list (seq_sound hX.toEnvOK (run_sound hX hc) ops.toList hG hs hf h fun fr' σ' a' w' g' h1 h2 h3 h4 => ⟨fr', σ', g', h1, h2, h3, h4⟩)

theorem region_draw_sound (hX : EnvOK' X) {code : Code → List AV → Store → Tr RX} (hc : ∀ c fr σ, CodeOK X c fr σ (code c fr σ)) (id : Nat) (ops : Array Oper) (fr : List AV) (σ : Store) :
    CodeOK X (.region id ops true) fr σ ((drawA X (runA X code) ops.toList fr σ).bind fun r => .ret (.normal, r.1, r.2)) := by
  intro K g a w h hf hs hG
  rw [Tr.sat_bind] at h
  exact draw_sound hX.toEnvOK (run_sound hX hc) hG hs hf h fun fr' σ' a' w' g' h1 h2 h3 h4 => ⟨fr', σ', g', h1, h2, h3, h4⟩

/-- A scope, from wherever in it the run stands. -/
theorem scope_sound {step : Code → List AV → Store → Tr RX} (hstep : ∀ c fr σ, CodeOK X c fr σ (step c fr σ)) (b : Code) : ∀ (m : Nat) (c : Code) (fr : List AV) (σ : Store) (K : RX → Prop) (g : Ghost) (a : Act) (w : World),
    (scopeA step b m c fr σ).sat K → FR g fr a → Sim g σ w → GR X g →
    ∀ (B : Frame) (k : List Item) (cs : List Frame), ∃ e a' w', Meets g w K e a' w' ∧ Arrives X.P (lone (B.at a (.code c :: .inScope b :: k)) cs w) B k cs e a' w'
  | 0, c, fr, σ, K, g, a, w, h, _, _, _ => h.elim
  | m + 1, c, fr, σ, K, g, a, w, h, hf, hs, hG => by
    intro B k cs
    unfold scopeA at h
    rw [Tr.sat_bind] at h
    obtain ⟨e, a₁, w₁, hq, harr⟩ := hstep c fr σ _ g a w h hf hs hG B (.inScope b :: k) cs
    obtain ⟨fr', σ', g', h1, h2, h3, h4⟩ := hq
    cases e with
    | normal => exact ⟨.normal, a₁, w₁, ⟨fr', σ', g', h1, h2, h3, h4⟩, Steps.trans harr (.one step_inScope)⟩
    | exit id => exact ⟨.exit id, a₁, w₁, ⟨fr', σ', g', h1, h2, h3, h4⟩, fun k' hk => harr k' (by simp [exitTo, hk])⟩
    | goto l =>
      cases hl : findLabel b l with
      | none =>
        simp only [hl] at h1
        exact ⟨.goto l, a₁, w₁, ⟨fr', σ', g', h1, h2, h3, h4⟩, fun k' hk => harr k' (by simp [gotoIn, hl, hk])⟩
      | some rest =>
        simp only [hl] at h1
        have hg : gotoIn l (.inScope b :: k) = some (.code rest :: .inScope b :: k) := by simp [gotoIn, hl]
        obtain ⟨e₂, a₂, w₂, m₂, harr₂⟩ := scope_sound hstep b m rest fr' σ' K g' a₁ w₁ h1 h2 h3 (Ghost.GR_mono hG h4.le) B k cs
        exact ⟨e₂, a₂, w₂, m₂.trans h4, .of_steps (harr _ hg) harr₂⟩
    | ret => exact ⟨_, a₁, w₁, ⟨fr', σ', g', h1, h2, h3, h4⟩, harr⟩
    | panic ch => exact ⟨_, a₁, w₁, ⟨fr', σ', g', h1, h2, h3, h4⟩, harr⟩
    | outgrown => exact ⟨_, a₁, w₁, ⟨fr', σ', g', h1, h2, h3, h4⟩, harr⟩

theorem exit_then {g : Ghost} {w : World} {K K' : RX → Prop} {Q : Act → World → Prop} (hn : ∀ fr σ g' a w', K (.normal, fr, σ) → FR g' fr a → Sim g' σ w' → Ext g g' w w' → Q a w') (ho : ∀ e fr σ, e ≠ .normal → K (e, fr, σ) → K' (e, fr, σ)) :
    ∀ e a w', Meets g w K e a w' → Exit.then Q (Meets g w K') e a w' := by
  rintro e a w' ⟨fr, σ, g', h1, h2, h3, h4⟩
  cases e with
  | normal => exact hn fr σ g' a w' h1 h2 h3 h4
  | _ => exact ⟨fr, σ, g', ho _ fr σ (by intro h; cases h) h1, h2, h3, h4⟩

/-- From a loop's head on. -/
noncomputable def Loops (P : Program) (c : Code) (Q : Exit → Act → World → Prop) (a : Act) (w : World) : Prop :=
  ∀ (B : Frame) (k : List Item) (cs : List Frame), ∃ e a' w', Q e a' w' ∧ Arrives P (lone (B.at a (.code c :: .inLoop c :: k)) cs w) B k cs e a' w'
theorem Loops.round {P : Program} {c : Code} {Q : Exit → Act → World → Prop} {a : Act} {w : World} (h : c.wp P (Exit.then (Loops P c Q) Q) a w) : Loops P c Q a w := by
  intro b k cs
  obtain ⟨e, a₁, w₁, hq, harr⟩ := h b (.inLoop c :: k) cs
  cases e with
  | normal =>
    obtain ⟨e₂, a₂, w₂, hq₂, harr₂⟩ := hq b k cs
    exact ⟨e₂, a₂, w₂, hq₂, .of_steps (Steps.trans harr (.one step_inLoop)) harr₂⟩
  | exit id => exact ⟨_, a₁, w₁, hq, .pass (x := .inLoop c) rfl (fun _ _ => .inl (by simp)) harr⟩
  | goto l => exact ⟨_, a₁, w₁, hq, .pass (x := .inLoop c) rfl (fun _ _ => .inl (by simp)) harr⟩
  | ret => exact ⟨_, a₁, w₁, hq, .pass (x := .inLoop c) rfl (fun _ _ => .inl (by simp)) harr⟩
  | panic ch => exact ⟨_, a₁, w₁, hq, .pass (x := .inLoop c) rfl (fun _ _ => .inl (by simp)) harr⟩
  | outgrown => exact ⟨_, a₁, w₁, hq, .pass (x := .inLoop c) rfl (fun _ _ => .inl (by simp)) harr⟩
theorem Loops.loop {P : Program} {c : Code} {Q : Exit → Act → World → Prop} {a : Act} {w : World} (h : Loops P c Q a w) : (Code.loop c).wp P Q a w := by
  intro b k cs
  obtain ⟨e, a', w', hq, harr⟩ := h b k cs
  exact ⟨e, a', w', hq, .of_steps (.one step_loop) harr⟩

/-- A loop met at a frame and a store ends as told. -/
noncomputable def RO (X : Env) (b : Code) (fr : List AV) (σ : Store) (K : RX → Prop) : Prop :=
  ∀ (g : Ghost) (a : Act) (w : World), FR g fr a → Sim g σ w → GR X g → Loops X.P b (Meets g w K) a w
theorem RO.step {b : Code} {fr : List AV} {σ : Store} {K : RX → Prop} {t : Tr RX} (ht : CodeOK X b fr σ t) (h : t.sat fun r => match r.1 with | .normal => RO X b r.2.1 r.2.2 K | _ => K r) : RO X b fr σ K := by
  intro g a w hf hs hG
  refine Loops.round (wp_mono (ht _ g a w h hf hs hG) ?_)
  rintro e a' w' ⟨fr', σ', g', h1, h2, h3, h4⟩
  cases e with
  | normal => exact fun B k cs => let ⟨e, a'', w'', m, ar⟩ := h1 g' a' w' h2 h3 (Ghost.GR_mono hG h4.le) B k cs; ⟨e, a'', w'', m.trans h4, ar⟩
  | _ => exact ⟨fr', σ', g', h1, h2, h3, h4⟩
theorem RO.code {b : Code} {fr : List AV} {σ : Store} {t : Tr RX} (h : ∀ K, t.sat K → RO X b fr σ K) : CodeOK X (.loop b) fr σ t :=
  fun K g a w hK hf hs hG => (h K hK g a w hf hs hG).loop

theorem iter_sound {step : Code → List AV → Store → Tr RX} (hstep : ∀ c fr σ, CodeOK X c fr σ (step c fr σ)) (b : Code) (K : RX → Prop) : ∀ (m : Nat) (fr : List AV) (σ : Store), (iterA step b m fr σ).sat K → RO X b fr σ K
  | 0, fr, σ, h => h.elim
  | m + 1, fr, σ, h => by
    unfold iterA at h
    rw [Tr.sat_bind] at h
    refine RO.step (hstep b fr σ) (Tr.sat_mono (fun r hr => ?_) h)
    obtain ⟨e, fr', σ'⟩ := r
    cases e <;> first | exact hr | exact iter_sound hstep b K m fr' σ' hr

/-- THE EVALUATOR IS SOUND. -/
theorem code_sound (hX : EnvOK' X) : ∀ (n : Nat) (c : Code) (fr : List AV) (σ : Store), CodeOK X c fr σ (codeA X n c fr σ)
  | 0, c, fr, σ => fun K g a w h => h.elim
  | n + 1, c, fr, σ => by
    have ih := code_sound hX n
    cases c with
    | skip => exact fun K g a w h hf hs hG => wp_skip ⟨fr, σ, g, h, hf, hs, .refl g w⟩
    | label l => exact fun K g a w h hf hs hG => wp_label ⟨fr, σ, g, h, hf, hs, .refl g w⟩
    | exit id => exact fun K g a w h hf hs hG => wp_exit ⟨fr, σ, g, h, hf, hs, .refl g w⟩
    | goto l => exact fun K g a w h hf hs hG => wp_goto ⟨fr, σ, g, h, hf, hs, .refl g w⟩
    | ret => exact fun K g a w h hf hs hG => wp_ret ⟨fr, σ, g, h, hf, hs, .refl g w⟩
    | region id ops draw =>
      cases draw with
      | false => exact region_sound hX ih id ops fr σ
      | true => exact region_draw_sound hX ih id ops fr σ
    | seq x y =>
      intro K g a w h hf hs hG
      unfold codeA at h
      rw [Tr.sat_bind] at h
      refine wp_seq (wp_mono (ih x fr σ _ g a w h hf hs hG) (exit_then (K' := K) ?_ ?_))
      · intro fr' σ' g' a' w' h1 h2 h3 h4
        exact wp_mono (ih y fr' σ' K g' a' w' h1 h2 h3 (Ghost.GR_mono hG h4.le)) fun e a w m => m.trans h4
      · intro e fr' σ' hne h1
        cases e <;> first | exact (hne rfl).elim | exact h1
    | cond cnd x y =>
      intro K g a w h hf hs hG
      have h : Tr.sat (match evalO X fr cnd with
        | .bool b' => .ask b' fun d => match d with | true => codeA X n x fr σ | false => codeA X n y fr σ
        | _ => .fail) K := h
      split at h
      case h_2 => exact h.elim
      rename_i b hb
      have hv := hf.er hG cnd
      rw [hb] at hv
      generalize hu : a.eval cnd = u at hv
      cases hv
      refine wp_cond hu ?_
      cases b with
      | true => exact ih x fr σ K g a w h hf hs hG
      | false => exact ih y fr σ K g a w h hf hs hG
    | block id b =>
      intro K g a w h hf hs hG
      unfold codeA at h
      rw [Tr.sat_bind] at h
      refine wp_block (wp_mono (ih b fr σ _ g a w h hf hs hG) ?_)
      rintro e a' w' ⟨fr', σ', g', h1, h2, h3, h4⟩
      cases e with
      | exit id' =>
        simp only [Exit.inBlock]
        simp only at h1
        cases hid : Nat.beq id' id with
        | true =>
          rw [hid] at h1
          rw [if_pos (Nat.eq_of_beq_eq_true hid)]
          exact ⟨fr', σ', g', h1, h2, h3, h4⟩
        | false =>
          rw [hid] at h1
          rw [if_neg (fun e => by rw [e, Nat.beq_refl] at hid; cases hid)]
          exact ⟨fr', σ', g', h1, h2, h3, h4⟩
      | _ => exact ⟨fr', σ', g', h1, h2, h3, h4⟩
    | loop b =>
      show CodeOK X (.loop b) fr σ (match X.loop b fr σ with | some t => t | none => iterA (codeA X n) b n fr σ)
      cases hl : X.loop b fr σ with
      | some t => exact hX.loop b fr σ t hl
      | none => exact RO.code fun K hK => iter_sound ih b K n fr σ hK
    | scope b =>
      intro K g a w h hf hs hG B k cs
      obtain ⟨e, a', w', hq, harr⟩ := scope_sound ih b n b fr σ K g a w h hf hs hG B k cs
      exact ⟨e, a', w', hq, .of_steps (.one step_scope) harr⟩
    | rangeFunc f ps as b => exact fun K g a w h => h.elim
    | refuse why => exact fun K g a w h => h.elim

/-- A call, by the evaluator. -/
theorem eval_sound (hX : EnvOK' X) (n : Nat) (f : FuncId) (args : List AV) (σ : Store) : CallOK X f args σ (bodyA X (codeA X n) f args σ) := body_sound (code_sound hX n) f args σ
end
end Go.AM
/- The abstract machine: the operations with what comes behind them. -/
namespace Go.AM
section
variable {β : Type}

noncomputable def asIntK (x : AV) (f : IntKind → Int → Tr β) : Tr β := match x with | .int k n => f k n | _ => .fail
noncomputable def asBoolK (x : AV) (f : Bool → Tr β) : Tr β := match x with | .bool b => f b | _ => .fail
noncomputable def asStrK (x : AV) (f : List UInt8 → Tr β) : Tr β := match x with | .str s => f s | _ => .fail

noncomputable def kindB (a b : IntKind) : Bool := Nat.beq a.ctorIdx b.ctorIdx
noncomputable def inK (k : IntKind) (n : Int) : Bool := match k with
  | .i8 => leI (-128) n && leI n 127
  | .i16 => leI (-32768) n && leI n 32767
  | .i32 => leI (-2147483648) n && leI n 2147483647
  | .i64 => leI (-9223372036854775808) n && leI n 9223372036854775807
  | .u8 => leI 0 n && leI n 255
  | .u16 => leI 0 n && leI n 65535
  | .u32 => leI 0 n && leI n 4294967295
  | .u64 => leI 0 n && leI n 18446744073709551615
noncomputable def fitK (k : IntKind) (n : Int) (f : AV → Tr β) : Tr β := .ask (inK k n) fun c => f (.int k (cond c n (k.wrap n)))
noncomputable def addK0 (x y : AV) (f : AV → Tr β) : Tr β := asIntK x fun a m => asIntK y fun b n => cond (kindB a b) (fitK a (m + n) f) .fail
noncomputable def subK0 (x y : AV) (f : AV → Tr β) : Tr β := asIntK x fun a m => asIntK y fun b n => cond (kindB a b) (fitK a (m - n) f) .fail
noncomputable def mulK0 (x y : AV) (f : AV → Tr β) : Tr β := asIntK x fun a m => asIntK y fun b n => cond (kindB a b) (fitK a (m * n) f) .fail
noncomputable def quoK0 (x y : AV) (f : AV → Tr β) : Tr β := asIntK x fun a m => asIntK y fun b n => cond (kindB a b) (must (leI 0 m && ltI 0 n) (fitK a (m / n) f)) .fail
noncomputable def remK0 (x y : AV) (f : AV → Tr β) : Tr β := asIntK x fun a m => asIntK y fun b n => cond (kindB a b) (must (leI 0 m && ltI 0 n) (f (.int a (m % n)))) .fail
noncomputable def cmpK0 (c : Int → Int → Bool) (x y : AV) (f : AV → Tr β) : Tr β := asIntK x fun a m => asIntK y fun b n => cond (kindB a b) (f (.bool (c m n))) .fail
noncomputable def bitK0 (P : Program) (op : BinOp) (x y : AV) (f : AV → Tr β) : Tr β := asIntK x fun a m => asIntK y fun b n => cond (kindB a b) (opt ((Op.intBits op a m n).calm P) fun v => f (ofV v)) .fail
noncomputable def shK0 (P : Program) (op : BinOp) (x y : AV) (f : AV → Tr β) : Tr β := asIntK x fun a m => asIntK y fun b n => opt ((Op.shift op a m b n).calm P) fun v => f (ofV v)

noncomputable def eqS : List UInt8 → List UInt8 → Bool
  | [], [] => true
  | a :: l, b :: m => cond (Nat.beq a.toNat b.toNat) (eqS l m) false
  | _, _ => false
noncomputable def catK0 (x y : AV) (f : AV → Tr β) : Tr β := asStrK x fun a => asStrK y fun b => must (Nat.ble (a.length + b.length) 4611686018427387904) (f (.str (a ++ b)))
noncomputable def eqSK0 (x y : AV) (f : AV → Tr β) : Tr β := asStrK x fun a => asStrK y fun b => f (.bool (eqS a b))
noncomputable def neSK0 (x y : AV) (f : AV → Tr β) : Tr β := asStrK x fun a => asStrK y fun b => f (.bool (!eqS a b))
noncomputable def ltSK0 (x y : AV) (f : AV → Tr β) : Tr β := asStrK x fun a => asStrK y fun b => f (.bool (lessL a b))

noncomputable def intOpK0 (P : Program) (op : BinOp) (x y : AV) (f : AV → Tr β) : Tr β :=
  match op with
  | .add => addK0 x y f
  | .sub => subK0 x y f
  | .mul => mulK0 x y f
  | .quo => quoK0 x y f
  | .rem => remK0 x y f
  | .and => bitK0 P .and x y f
  | .or => bitK0 P .or x y f
  | .xor => bitK0 P .xor x y f
  | .andNot => bitK0 P .andNot x y f
  | .shl => shK0 P .shl x y f
  | .shr => shK0 P .shr x y f
  | .eql => cmpK0 eqI x y f
  | .neq => cmpK0 neI x y f
  | .lss => cmpK0 ltI x y f
  | .leq => cmpK0 leI x y f
  | .gtr => cmpK0 gtI x y f
  | .geq => cmpK0 geI x y f
noncomputable def strOpK0 (op : BinOp) (x y : AV) (f : AV → Tr β) : Tr β :=
  match op with
  | .add => catK0 x y f
  | .eql => eqSK0 x y f
  | .neq => neSK0 x y f
  | .lss => ltSK0 x y f
  | _ => .fail

noncomputable def nilP : AV → Option Bool
  | .nilp => some true
  | .ptr _ _ | .ref _ _ => some false
  | _ => none
noncomputable def nilS : AV → Option Bool
  | .nils => some true
  | .slice _ _ _ _ _ | .rslice _ _ _ => some false
  | _ => none
noncomputable def nilF : AV → Option Bool
  | .nilf => some true
  | .fn _ _ _ => some false
  | _ => none
noncomputable def nilM : AV → Option Bool
  | .nilm => some true
  | .amap _ => some false
  | _ => none
/-- Two values of which one at least is nil. -/
noncomputable def nilEq (t : AV → Option Bool) (x y : AV) : Option Bool :=
  match t x, t y with
  | some true, some b => some b
  | some false, some true => some false
  | _, _ => none
noncomputable def eqIfc (P : Program) (cy : Bool) (x y : AV) : Option Bool :=
  match x, y with
  | .nili, .nili => cond cy (some true) none
  | .nili, .iface _ _ => some false
  | .iface _ _, .nili => some false
  | .iface a u, .iface b v => eqIf P a u b v
  | _, _ => none
noncomputable def eqBo (x y : AV) : Option Bool :=
  match x, y with
  | .bool a, .bool b => some (a == b)
  | _, _ => none
noncomputable def eqStT (P : Program) (t : TypeId) (x y : AV) : Option Bool :=
  match x, y with
  | .agg xs, .agg ys => (match P.underlying t with | some (.struct fs) => cond (!(P.stoodInHeld t) && !(P.eqGuardType P.depth t) && eqFs P fs.toList xs ys) (some true) none | _ => none)
  | _, _ => none
noncomputable def eqO (P : Program) (t : TypeId) (cy : Bool) : Option (AV → AV → Option Bool) :=
  match P.underlying t with
  | some .bool => some eqBo
  | some (.pointer _) => some (nilEq nilP)
  | some (.slice _) => some (nilEq nilS)
  | some (.func _ _ _) => some (nilEq nilF)
  | some (.map _ _) => some (nilEq nilM)
  | some (.interface _) => some (eqIfc P cy)
  | some (.struct _) => some (eqStT P t)
  | _ => none
noncomputable def eqOK0 (c : AV → AV → Option Bool) (x y : AV) (f : AV → Tr β) : Tr β := opt (c x y) fun b => f (.bool b)
noncomputable def neOK0 (c : AV → AV → Option Bool) (x y : AV) (f : AV → Tr β) : Tr β := opt (c x y) fun b => f (.bool (!b))
noncomputable def binK0 (P : Program) (op : BinOp) (t : TypeId) (cy : Bool) (x y : AV) (f : AV → Tr β) : Tr β :=
  match P.underlying t with
  | some (.int _) => intOpK0 P op x y f
  | some .string => strOpK0 op x y f
  | _ => match op with
    | .eql => (match eqO P t cy with | some c => eqOK0 c x y f | none => .fail)
    | .neq => (match eqO P t cy with | some c => neOK0 c x y f | none => .fail)
    | _ => .fail

noncomputable def symK (op : BinOp) (x y : AV) (f : AV → Tr β) (t : Tr β) : Tr β := match symBin op x y with | some r => f r | none => t
noncomputable def addK (x y : AV) (f : AV → Tr β) : Tr β := symK .add x y f (addK0 x y f)
noncomputable def subK (x y : AV) (f : AV → Tr β) : Tr β := symK .sub x y f (subK0 x y f)
noncomputable def mulK (x y : AV) (f : AV → Tr β) : Tr β := symK .mul x y f (mulK0 x y f)
noncomputable def quoK (x y : AV) (f : AV → Tr β) : Tr β := symK .quo x y f (quoK0 x y f)
noncomputable def remK (x y : AV) (f : AV → Tr β) : Tr β := symK .rem x y f (remK0 x y f)
noncomputable def cmpF : BinOp → Int → Int → Bool
  | .eql => eqI
  | .neq => neI
  | .lss => ltI
  | .leq => leI
  | .gtr => gtI
  | .geq => geI
  | _ => fun _ _ => false
noncomputable def cmpK (op : BinOp) (x y : AV) (f : AV → Tr β) : Tr β := symK op x y f (cmpK0 (cmpF op) x y f)
noncomputable def bitK (P : Program) (op : BinOp) (x y : AV) (f : AV → Tr β) : Tr β := symK op x y f (bitK0 P op x y f)
noncomputable def shK (P : Program) (op : BinOp) (x y : AV) (f : AV → Tr β) : Tr β := symK op x y f (shK0 P op x y f)
noncomputable def catK (x y : AV) (f : AV → Tr β) : Tr β := symK .add x y f (catK0 x y f)
noncomputable def eqSK (x y : AV) (f : AV → Tr β) : Tr β := symK .eql x y f (eqSK0 x y f)
noncomputable def neSK (x y : AV) (f : AV → Tr β) : Tr β := symK .neq x y f (neSK0 x y f)
noncomputable def ltSK (x y : AV) (f : AV → Tr β) : Tr β := symK .lss x y f (ltSK0 x y f)
noncomputable def intOpK (P : Program) (op : BinOp) (x y : AV) (f : AV → Tr β) : Tr β :=
  match op with
  | .add => addK x y f
  | .sub => subK x y f
  | .mul => mulK x y f
  | .quo => quoK x y f
  | .rem => remK x y f
  | .and => bitK P .and x y f
  | .or => bitK P .or x y f
  | .xor => bitK P .xor x y f
  | .andNot => bitK P .andNot x y f
  | .shl => shK P .shl x y f
  | .shr => shK P .shr x y f
  | .eql => cmpK .eql x y f
  | .neq => cmpK .neq x y f
  | .lss => cmpK .lss x y f
  | .leq => cmpK .leq x y f
  | .gtr => cmpK .gtr x y f
  | .geq => cmpK .geq x y f
noncomputable def strOpK (op : BinOp) (x y : AV) (f : AV → Tr β) : Tr β :=
  match op with
  | .add => catK x y f
  | .eql => eqSK x y f
  | .neq => neSK x y f
  | .lss => ltSK x y f
  | _ => .fail
noncomputable def eqOK (c : AV → AV → Option Bool) (x y : AV) (f : AV → Tr β) : Tr β := symK .eql x y f (eqOK0 c x y f)
noncomputable def neOK (c : AV → AV → Option Bool) (x y : AV) (f : AV → Tr β) : Tr β := symK .neq x y f (neOK0 c x y f)
noncomputable def binK (P : Program) (op : BinOp) (t : TypeId) (cy : Bool) (x y : AV) (f : AV → Tr β) : Tr β :=
  match P.underlying t with
  | some (.int _) => intOpK P op x y f
  | some .string => strOpK op x y f
  | _ => match op with
    | .eql => (match eqO P t cy with | some c => eqOK c x y f | none => .fail)
    | .neq => (match eqO P t cy with | some c => neOK c x y f | none => .fail)
    | _ => .fail

/-- Equality of values behind interfaces, with a look at the store. -/
noncomputable def isIfcT (P : Program) (t : TypeId) : Bool := match P.underlying t with
  | some (.interface _) => true
  | _ => false
noncomputable def ifcO (P : Program) (σ : Store) (t : TypeId) (cy : Bool) (x y : AV) : Option Bool := cond (samePtr P σ t x y) (some true) (cond (isIfcT P t) (eqIfc P cy x y) none)
noncomputable def ifcK (P : Program) (σ : Store) (op : BinOp) (t : TypeId) (cy : Bool) (x y : AV) (f : AV → Tr β) : Tr β := match op with
  | .eql => opt (ifcO P σ t cy x y) fun b => f (.bool b)
  | .neq => binK P .neq t cy x y f
  | _ => .fail
noncomputable def pickK (c a b : AV) (f : AV → Tr β) : Tr β := asBoolK c fun c => .ask c fun c => f (cond c a b)
noncomputable def newK (σ : Store) (e : TypeId) (cs : List AV) (f : AV → Store → Tr β) : Tr β :=
  match (σ.new (.cells e cs)).get σ.next with
  | some _ => f (.ptr σ.next 0) (σ.new (.cells e cs))
  | none => .fail
noncomputable def newSK (σ : Store) (e : TypeId) (cs : List AV) (len n : Nat) (f : AV → Store → Tr β) : Tr β :=
  match (σ.new (.cells e cs)).get σ.next with
  | some _ => f (.slice σ.next 0 len len n) (σ.new (.cells e cs))
  | none => .fail
noncomputable def boxK (σ : Store) (e : TypeId) (x : AV) (f : AV → Store → Tr β) : Tr β := cond (nonAny x) (newK σ e x.cells f) .fail
noncomputable def fillK : List AV → List (Nat × Nat × AV) → Option (List AV)
  | cells, [] => some cells
  | cells, (off, size, v) :: rest =>
    cond (Nat.beq v.cells.length size && Nat.ble (off + v.cells.length) cells.length && nonAny v) (fillK (over cells off v.cells) rest) none
noncomputable def bldK (z : List AV) (l : List (Nat × Nat × AV)) (f : AV → Tr β) : Tr β := opt (fillK z l) fun cs => f (.agg cs)
noncomputable def placesK (place : Nat → Option (Nat × Nat)) : List (Nat × AV) → Option (List (Nat × Nat × AV))
  | [] => some []
  | (i, v) :: l => match place i, placesK place l with
    | some p, some m => some ((p.1, p.2, v) :: m)
    | _, _ => none

noncomputable def nthA : List AV → Nat → Option AV
  | [], _ => none
  | v :: _, 0 => some v
  | _ :: l, n + 1 => nthA l n
noncomputable def nthK (cs : List AV) (i : Nat) (f : AV → Tr β) : Tr β := opt (nthA cs i) f
noncomputable def atK (σ : Store) (a : AV) (f : List AV → Nat → Tr β) : Tr β := match cellsAt σ a with | some p => f p.1 p.2 | none => .fail
noncomputable def ld1A (σ : Store) (a : AV) : Option AV :=
  match a with
  | .rptr id c ts => match σ.get id with
    | some (.row _ l) => rowAt l c ts
    | some (.bytes _ l) => symAt l c ts
    | _ => none
  | a => match cellsAt σ a with
    | some p => nthA p.1 p.2
    | none => none
noncomputable def ld1K (σ : Store) (a : AV) (f : AV → Tr β) : Tr β := opt (ld1A σ a) f
noncomputable def partsK (cs : List AV) (off n : Nat) (f : AV → Tr β) : Tr β := cond (Nat.ble (off + n) cs.length) (f (.agg ((cs.drop off).take n))) .fail
noncomputable def ldNK (σ : Store) (a : AV) (n : Nat) (f : AV → Tr β) : Tr β := atK σ a fun cs off => partsK cs off n f
noncomputable def loadK (P : Program) (σ : Store) (t : TypeId) (a : AV) (f : AV → Tr β) : Tr β :=
  match aggT P t, sizeT P t with
  | some true, some n => ldNK σ a n f
  | some false, some _ => ld1K σ a f
  | _, _ => .fail
noncomputable def cellsK (σ : Store) (a : AV) (f : Nat → Nat → TypeId → List AV → Tr β) : Tr β :=
  match a with
  | .ptr id off => match σ.get id with
    | some (.cells e cs) => f id off e cs
    | _ => .fail
  | _ => .fail
noncomputable def put1B (b : Blk) (off : Nat) (v : AV) : Option Blk := match b with
  | .cells e cs => cond (v.one && Nat.ble (off + 1) cs.length) (some (.cells e (cs.set off v))) none
  | .sb s => putSb s off v
  | _ => none
noncomputable def put1 (σ : Store) (a v : AV) : Option Store := match a with
  | .ptr id off => match σ.get id with
    | some b => (match put1B b off v with | some b' => some (σ.upd id b') | none => none)
    | none => none
  | _ => none
noncomputable def st1K (σ : Store) (a v : AV) (f : AV → Store → Tr β) : Tr β :=
  match put1 σ a v with
  | some σ' => f .any σ'
  | none => .fail
noncomputable def stNK (σ : Store) (a : AV) (n : Nat) (v : AV) (f : AV → Store → Tr β) : Tr β :=
  cellsK σ a fun id off e cs => cond (Nat.beq v.cells.length n && allOne v.cells && Nat.ble (off + n) cs.length) (f .any (σ.upd id (.cells e (over cs off v.cells)))) .fail
noncomputable def storeK (P : Program) (σ : Store) (t : TypeId) (a v : AV) (f : AV → Store → Tr β) : Tr β :=
  match aggT P t, sizeT P t with
  | some false, some 1 => st1K σ a v f
  | _, some n => stNK σ a n v f
  | _, _ => .fail
noncomputable def nchkK (x : AV) (f : AV → Tr β) : Tr β :=
  match x with
  | .ptr _ _ | .ref _ _ | .amap _ | .iface _ _ | .slice _ _ _ _ _ | .rslice _ _ _ => f x
  | .fn (.func _) _ _ => f x
  | _ => .fail
noncomputable def notK (x : AV) (f : AV → Tr β) : Tr β := asBoolK x fun b => f (.bool (!b))
noncomputable def negK (x : AV) (f : AV → Tr β) : Tr β := asIntK x fun k n => fitK k (-n) f
noncomputable def addrK (x : AV) (off : Nat) (f : AV → Tr β) : Tr β :=
  match x with
  | .ptr id o => f (.ptr id (o + off))
  | .ref cs o => f (.ref cs (o + off))
  | _ => .fail
noncomputable def fieldAddrK (P : Program) (t : TypeId) (x : AV) (i : Nat) (f : AV → Tr β) : Tr β :=
  match P.underlying t with
  | some (.struct fs) =>
    match fs[i]? with
    | some fd => match sizeT P fd.type with
      | some (_ + 1) => addrK x fd.offset f
      | _ => .fail
    | none => .fail
  | _ => .fail
noncomputable def fitsK (k : IntKind) (x : AV) (f : AV → Tr β) : Tr β := match x with
  | .int _ n => fitK k n f
  | .cls l => opt (cvCls k l) f
  | .rn _ l => opt (cvCls k l) f
  | .num _ => f (.num k)
  | _ => .fail
noncomputable def i2sK (P : Program) (x : AV) (f : AV → Tr β) : Tr β := asIntK x fun k n => cond (kindB k .i32) (opt ((Conv.intToString n).calm P) fun v => f (ofV v)) .fail
noncomputable def b2sK (σ : Store) (x : AV) (f : AV → Tr β) : Tr β :=
  match x with
  | .str _ => .fail
  | .bsl id c ts => opt (rowText σ (.bsl id c ts)) fun l => f (mkStr l)
  | x => match sourceA σ 1 x with
    | some (xs, _) => opt (convertA.bytesOf xs) fun l => f (.str l)
    | none => .fail
noncomputable def asStrV (x : AV) (f : AV → Tr β) : Tr β := match x with | .sstr l => f (.sstr l) | x => asStrK x fun l => f (.str l)
noncomputable def convK (P : Program) (s d : TypeId) (σ : Store) (x : AV) (f : AV → Tr β) : Tr β :=
  match P.underlying s, P.underlying d with
  | some (.int _), some (.int k) => fitsK k x f
  | some .string, some .string => asStrV x f
  | some (.int _), some .string => i2sK P x f
  | some (.slice e), some .string => match P.underlying e with
    | some (.int .u8) => b2sK σ x f
    | _ => .fail
  | _, _ => .fail
/-- A text turned into bytes. -/
noncomputable def sbK (σ : Store) (s : List UInt8) (f : AV → Store → Tr β) : Tr β := cond (Nat.ble s.length 1000000000) (match (σ.new (.sb s)).get σ.next with
  | some _ => f (.slice σ.next 0 s.length s.length 1) (σ.new (.sb s))
  | none => .fail) .fail
noncomputable def s2bK (σ : Store) (x : AV) (f : AV → Store → Tr β) : Tr β := asStrK x fun s => sbK σ s f
noncomputable def allocK (P : Program) (s d : TypeId) (σ : Store) (x : AV) (f : AV → Store → Tr β) : Tr β :=
  match P.underlying s, P.underlying d with
  | some .string, some (.slice e) => match P.underlying e with
    | some (.int .u8) => s2bK σ x f
    | _ => .fail
  | _, _ => .fail
noncomputable def idxSK0 (x i : AV) (f : AV → Tr β) : Tr β := asIntK i fun _ n => asStrK x fun s => must (leI 0 n && ltI n s.length) (f (.int .u8 (s.getD n.toNat 0).toNat))
noncomputable def idxSK (x i : AV) (f : AV → Tr β) : Tr β := match symIdx x i with | some r => f r | none => idxSK0 x i f
noncomputable def idxArrK (len z : Nat) (x i : AV) (f : AV → Tr β) : Tr β := asIntK i fun _ n =>
  match x with
  | .ptr id off => must (leI 0 n && ltI n len) (f (.ptr id (off + n.toNat * z)))
  | .ref cs off => must (leI 0 n && ltI n len) (f (.ref cs (off + n.toNat * z)))
  | _ => .fail
/-- The address of an element, and whether it is one. -/
noncomputable def idxV (z : Nat) (x i : AV) : Option (Bool × AV) :=
  match x with
  | .rsl id o os c ts => match toLin i with
    | some n => some (Nat.beq z 1 && (leI 0 (n.1 + minTs n.2) && leI 1 (c - n.1 + minTs (addTs (negTs n.2) ts))), .rptr id (o + n.1) (addTs n.2 os))
    | none => none
  | .bsl id c ts => match toLin i with
    | some n => some (Nat.beq z 1 && (leI 0 (n.1 + minTs n.2) && leI 1 (c - n.1 + minTs (addTs (negTs n.2) ts))), .rptr id (0 + n.1) (addTs n.2 []))
    | none => none
  | .slice id off len _ _ => match i with
    | .int _ n => some (leI 0 n && ltI n len, .ptr id (off + n.toNat * z))
    | _ => none
  | .rslice cs off len => match i with
    | .int _ n => some (leI 0 n && ltI n len, .ref cs (off + n.toNat * z))
    | _ => none
  | _ => none
noncomputable def idxK (z : Nat) (x i : AV) (f : AV → Tr β) : Tr β := match idxV z x i with
  | some r => must r.1 (f r.2)
  | none => .fail
noncomputable def indexAddrK (P : Program) (t : TypeId) (x i : AV) (f : AV → Tr β) : Tr β :=
  match P.underlying t with
  | some (.array len e) => opt (sizeT P e) fun z => idxArrK len z x i f
  | some (.slice e) => opt (sizeT P e) fun z => idxK z x i f
  | _ => .fail
noncomputable def lenSK0 (x : AV) (f : AV → Tr β) : Tr β := asStrK x fun s => f (.int .i64 s.length)
noncomputable def lenSK (x : AV) (f : AV → Tr β) : Tr β := match symLen x with | some r => f r | none => lenSK0 x f
noncomputable def lenLV : AV → Option AV
  | .slice _ _ n _ _ => some (.int .i64 n)
  | .rslice _ _ n => some (.int .i64 n)
  | .nils => some (.int .i64 0)
  | .eslice => some (.int .i64 0)
  | .bsl _ c ts => some (mkLin c ts)
  | .rsl _ _ _ c ts => some (mkLin c ts)
  | _ => none
noncomputable def lenLK (x : AV) (f : AV → Tr β) : Tr β := match lenLV x with | some v => f v | none => .fail
noncomputable def lenK (P : Program) (t : TypeId) (x : AV) (f : AV → Tr β) : Tr β :=
  match P.underlying t with
  | some .string => lenSK x f
  | some (.slice _) => lenLK x f
  | _ => opt (lenA P t x) fun n => f (.int .i64 n)
noncomputable def sliceSK0 (x : AV) (lo hi : Option AV) (f : AV → Tr β) : Tr β := asStrK x fun s =>
  match boundA lo 0, boundA hi s.length with
  | some l, some h => must (leI 0 l && leI l h && leI h s.length) (f (.str ((s.take h.toNat).drop l.toNat)))
  | _, _ => .fail
noncomputable def sliceSK (x : AV) (lo hi : Option AV) (f : AV → Tr β) : Tr β := match symSlice x lo hi with | some r => f r | none => sliceSK0 x lo hi f
noncomputable def sliceLK (P : Program) (σ : Store) (t : TypeId) (x : AV) (lo hi : Option AV) (f : AV → Tr β) : Tr β := (sliceA P σ t x lo hi).bind f
noncomputable def sliceK (P : Program) (σ : Store) (t : TypeId) (x : AV) (lo hi : Option AV) (f : AV → Tr β) : Tr β :=
  match P.underlying t with
  | some .string => sliceSK x lo hi f
  | _ => sliceLK P σ t x lo hi f
noncomputable def extK (x : AV) (i : Nat) (f : AV → Tr β) : Tr β :=
  match x with
  | .tup l => nthK l i f
  | _ => .fail
noncomputable def appV (e : TypeId) (z by_ : Nat) (σ : Store) (s x : AV) : Tr R :=
  cond (rowWant s x) (cond (Nat.beq z 1) (appRow σ e by_ s x) .fail)
  (match sourceA σ z x with
  | some (xs, n) => cond (allOne xs) (cond (isRsl s) (cond (Nat.beq z 1) (appCells σ e by_ s xs n) .fail) (appendTo σ e z by_ xs n s)) .fail
  | none => .fail)
noncomputable def appK (e : TypeId) (z by_ : Nat) (σ : Store) (s x : AV) (f : AV → Store → Tr β) : Tr β := (appV e z by_ σ s x).bind fun r => f r.1 r.2
noncomputable def appendK (P : Program) (σ : Store) (t tx : TypeId) (s x : AV) (f : AV → Store → Tr β) : Tr β :=
  match P.underlying t, srcOk (P.underlying tx) with
  | some (.slice e), true =>
    match sizeT P e, bytesT P e with
    | some z, some by_ => cond (zeroOk P e z && Nat.blt 0 z && Nat.blt 0 by_) (appK e z by_ σ s x f) .fail
    | _, _ => .fail
  | _, _ => .fail
noncomputable def calK (run : FuncId → List AV → Store → Tr R) (g : FuncId) (args : List AV) (σ : Store) (f : AV → Store → Tr β) : Tr β := (run g args σ).bind fun r => f r.1 r.2
noncomputable def invK (X : Env) (run : FuncId → List AV → Store → Tr R) (x : AV) (name : String) (args : List AV) (σ : Store) (f : AV → Store → Tr β) : Tr β :=
  match x with
  | .iface t v => opt (methodA X.P σ t v name) fun fr => cond (X.callable fr.1) (calK run fr.1 (fr.2 :: args) σ f) .fail
  | _ => .fail
noncomputable def dynK (X : Env) (run : FuncId → List AV → Store → Tr R) (x : AV) (args : List AV) (σ : Store) (f : AV → Store → Tr β) : Tr β :=
  match x with
  | .fn (.func g) first cap => cond (X.callable g) (calK run g (first ++ args ++ cap) σ f) .fail
  | _ => .fail
noncomputable def callK (X : Env) (run : FuncId → List AV → Store → Tr R) (σ : Store) (ρ : Operand → AV) (c : Call) (f : AV → Store → Tr β) : Tr β :=
  match c.callee with
  | .builtin .len => match (c.argTypes[0]? : Option TypeId), c.args[0]? with
    | some t, some x => lenK X.P t (ρ x) fun v => f v σ
    | _, _ => .fail
  | .builtin .append => match (c.argTypes[0]? : Option TypeId), (c.argTypes[1]? : Option TypeId), c.args.toList with
    | some t, some u, [s, x] => appendK X.P σ t u (ρ s) (ρ x) f
    | _, _, _ => .fail
  | .builtin _ => .fail
  | .invoke r name => invK X run (ρ r) name (c.args.toList.map ρ) σ f
  | .value (.func g) => cond (X.callable g) (calK run g (c.args.toList.map ρ) σ f) .fail
  | .value x => dynK X run (ρ x) (c.args.toList.map ρ) σ f
noncomputable def tasK (z : Option AV) (a : TypeId) (ok : Bool) (x : AV) (f : AV → Tr β) : Tr β :=
  match x with
  | .nili => cond ok (opt z fun z => f (.tup [z, .bool false])) .fail
  | .iface t v => cond (Nat.beq t a) (f (cond ok (.tup [v, .bool true]) v)) (cond ok (opt z fun z => f (.tup [z, .bool false])) .fail)
  | _ => .fail
noncomputable def typeAssertK (P : Program) (x : AV) (a : TypeId) (ok : Bool) (f : AV → Tr β) : Tr β :=
  match P.underlying a with
  | some (.interface _) => opt (typeAssertA P x a ok) f
  | some _ => tasK (zeroV P a) a ok x f
  | none => .fail

noncomputable def genK (t : Tr R) (f : AV → Store → Tr β) : Tr β := t.bind fun r => f r.1 r.2
noncomputable def rangeA (P : Program) (σ : Store) (t : TypeId) (x : AV) : Tr R := match P.underlying t, x with
  | some .string, .str s =>
    let σ' := σ.new (.iter s 0)
    match σ'.get σ.next with
    | some _ => .ret (.ptr σ.next 0, σ')
    | none => .fail
  | some .string, .sstr l =>
    let σ' := σ.new (.siter l 0 [])
    match σ'.get σ.next with
    | some _ => .ret (.ptr σ.next 0, σ')
    | none => .fail
  | _, _ => .fail
noncomputable def nextA (σ : Store) (it : AV) : Tr R := match it with
  | .ptr id 0 => match σ.get id with
    | some (.iter s pos) => .ask (Nat.blt pos s.length) fun c => match c with
      | true => let d := Utf8.decode ⟨s.toArray⟩ pos
        .ret (.tup [.bool true, .int .i64 pos, .int .i32 d.1], σ.upd id (.iter s (pos + d.2)))
      | false => .ret (.tup [.bool false], σ)
    | some (.siter l n ts) => siterA σ id l n ts
    | _ => .fail
  | _ => .fail
noncomputable def lenOK (P : Program) (t : TypeId) (x : AV) (f : AV → Tr β) : Tr β := opt (lenA P t x) fun n => f (.int .i64 n)

/-- An operation, and what comes behind it. -/
noncomputable def opK (X : Env) (run : FuncId → List AV → Store → Tr R) (σ : Store) (ρ : Operand → AV) (o : Op) (f : AV → Store → Tr β) : Tr β :=
  match o with
  | .move x => f (ρ x) σ
  | .assign x => f (ρ x) σ
  | .pick c a b => pickK (ρ c) (ρ a) (ρ b) fun v => f v σ
  | .alloc e => opt (zeroT X.P e) fun z => newK σ (2 * e + 1) z f
  | .box e x => boxK σ (2 * e + 1) (ρ x) f
  | .build t parts => opt (zeroT X.P t) fun z => match X.P.underlying t with
    | some (.struct fs) => cond (fs.toList.all fun f => (sizeT X.P f.type).isSome) (opt (placesK (fieldPlaces X.P fs) (parts.toList.map fun q => (q.1, ρ q.2))) fun l => bldK z l fun v => f v σ) .fail
    | some (.array _ e) => opt (sizeT X.P e) fun n => opt (placesK (fun i => some (i * n, n)) (parts.toList.map fun q => (q.1, ρ q.2))) fun l => bldK z l fun v => f v σ
    | _ => .fail
  | .buildSlice t len parts => match X.P.underlying t with
    | some (.slice e) => opt (zeroT X.P e) fun z => opt (sizeT X.P e) fun n =>
      cond (Nat.beq z.length n && !(Nat.beq n 0) && !(Nat.beq len 0) && Nat.ble (len * n) 65536)
        (opt (placesK (fun i => some (i * n, n)) (parts.toList.map fun q => (q.1, ρ q.2))) fun l => opt (fillK (repeatA z len) l) fun cs => newSK σ (2 * e + 1) cs len n f)
        .fail
    | _ => .fail
  | .load t a => loadK X.P σ t (ρ a) fun v => f v σ
  | .store t a x => storeK X.P σ t (ρ a) (ρ x) f
  | .nilCheck x => nchkK (ρ x) fun v => f v σ
  | .binOp op t x y _ => (match Nat.beq t ifcT112 with | true => ifcK X.P σ op t (constO x || constO y) (ρ x) (ρ y) | false => binK X.P op t (constO x || constO y) (ρ x) (ρ y)) fun v => f v σ
  | .unOp op _ x => match op with
    | .not => notK (ρ x) fun v => f v σ
    | .neg => negK (ρ x) fun v => f v σ
    | _ => .fail
  | .convert s d x => (match Nat.beq d bytesT34 with | true => allocK X.P s d σ (ρ x) | false => fun k => convK X.P s d σ (ρ x) fun v => k v σ) f
  | .makeInterface t x => match X.P.underlying t with
    | some (.interface _) => .fail
    | some _ => f (.iface t (ρ x)) σ
    | none => .fail
  | .makeFunc g a b => f (.fn g (a.toList.map ρ) (b.toList.map ρ)) σ
  | .slice t x l h mx => match mx with
    | none => sliceK X.P σ t (ρ x) (l.map ρ) (h.map ρ) fun v => f v σ
    | some _ => .fail
  | .fieldAddr t x i => fieldAddrK X.P t (ρ x) i fun v => f v σ
  | .indexAddr t x i => indexAddrK X.P t (ρ x) (ρ i) fun v => f v σ
  | .index t x i => match X.P.underlying t with
    | some .string => idxSK (ρ x) (ρ i) fun v => f v σ
    | _ => (indexA X.P t (ρ x) (ρ i)).bind fun v => f v σ
  | .typeAssert x _ a ok => typeAssertK X.P (ρ x) a ok fun v => f v σ
  | .extract x i => extK (ρ x) i fun v => f v σ
  | .call c => callK X run σ ρ c f
  | o => (opA X run σ ρ o).bind fun r => f r.1 r.2
end
end Go.AM
/- The abstract machine: the operations with what comes behind them are the operations. -/
namespace Go.AM
section
variable {β : Type} {K : β → Prop}

theorem asIntK_sat {x : AV} {f : IntKind → Int → Tr β} (h : (asIntK x f).sat K) : ∃ k n, x = .int k n ∧ (f k n).sat K := by
  unfold asIntK at h; split at h
  · exact ⟨_, _, rfl, h⟩
  · exact h.elim
theorem asBoolK_sat {x : AV} {f : Bool → Tr β} (h : (asBoolK x f).sat K) : ∃ b, x = .bool b ∧ (f b).sat K := by
  unfold asBoolK at h; split at h
  · exact ⟨_, rfl, h⟩
  · exact h.elim
theorem asStrK_sat {x : AV} {f : List UInt8 → Tr β} (h : (asStrK x f).sat K) : ∃ s, x = .str s ∧ (f s).sat K := by
  unfold asStrK at h; split at h
  · exact ⟨_, rfl, h⟩
  · exact h.elim
theorem cond_sat {c : Bool} {t : Tr β} (h : (cond c t .fail).sat K) : c = true ∧ t.sat K := by
  cases c with
  | true => exact ⟨rfl, h⟩
  | false => exact h.elim

theorem kindB_eq {a b : IntKind} (h : kindB a b = true) : a = b := by
  cases a <;> cases b <;> first | rfl | cases h
theorem inK_eq (k : IntKind) (n : Int) : inK k n = inR k n := by
  cases k <;> simp only [inK, inR, leI_eq]
theorem eqS_eq : ∀ a b : List UInt8, eqS a b = decide (a = b)
  | [], [] => rfl
  | [], _ :: _ => rfl
  | _ :: _, [] => rfl
  | a :: l, b :: m => by
    unfold eqS
    rw [eqS_eq l m, Bool.eq_iff_iff]
    cases h : Nat.beq a.toNat b.toNat with
    | true =>
      have : a = b := UInt8.toNat_inj.1 (Nat.eq_of_beq_eq_true h)
      simp [this]
    | false =>
      have : a ≠ b := fun e => by rw [e, Nat.beq_refl] at h; cases h
      simp [this]
theorem nthA_eq : ∀ (l : List AV) (n : Nat), nthA l n = l[n]?
  | [], _ => rfl
  | _ :: _, 0 => rfl
  | _ :: l, n + 1 => by simpa [nthA] using nthA_eq l n

theorem fitK_sat {k : IntKind} {n : Int} {f : AV → Tr β} (h : (fitK k n f).sat K) : (fit k n).sat fun v => (f v).sat K := by
  unfold fitK at h
  unfold fit
  simp only [Tr.sat, inK_eq] at h ⊢
  cases hc : inR k n <;> rw [hc] at h <;> exact h
theorem sat_v {t : Tr AV} {σ : Store} {f : AV → Store → Tr β} (h : t.sat fun v => (f v σ).sat K) : (t.bind fun a => (.ret (a, σ) : Tr R)).sat fun r => (f r.1 r.2).sat K := by
  rw [Tr.sat_bind]; exact h
theorem sat_p {t : Option AV} {σ : Store} {f : AV → Store → Tr β} {v : AV} (ht : t = some v) (h : (f v σ).sat K) : (opt t fun a => (.ret (a, σ) : Tr R)).sat fun r => (f r.1 r.2).sat K := by
  rw [ht]; exact h

theorem two_sat {x y : AV} {g : IntKind → Int → Int → Tr β} (h : (asIntK x fun a m => asIntK y fun b n => cond (kindB a b) (g a m n) .fail).sat K) : ∃ k m n, x = .int k m ∧ y = .int k n ∧ (g k m n).sat K := by
  obtain ⟨a, m, rfl, h1⟩ := asIntK_sat h
  obtain ⟨b, n, rfl, h2⟩ := asIntK_sat h1
  obtain ⟨hk, h3⟩ := cond_sat h2
  cases kindB_eq hk
  exact ⟨_, _, _, rfl, rfl, h3⟩
theorem cmp_sat {c : Int → Int → Bool} {x y : AV} {f : AV → Tr β} (h : (cmpK0 c x y f).sat K) : ∃ k m n, x = .int k m ∧ y = .int k n ∧ (f (.bool (c m n))).sat K := two_sat (g := fun _ m n => f (.bool (c m n))) h
theorem sh_sat {P : Program} {o : BinOp} {x y : AV} {f : AV → Tr β} (h : (shK0 P o x y f).sat K) : ∃ a m b n, x = .int a m ∧ y = .int b n ∧ (opt ((Op.shift o a m b n).calm P) fun v => f (ofV v)).sat K := by
  obtain ⟨a, m, rfl, h1⟩ := asIntK_sat h
  obtain ⟨b, n, rfl, h2⟩ := asIntK_sat h1
  exact ⟨_, _, _, _, rfl, rfl, h2⟩
theorem intOpK0_sat {P : Program} {op : BinOp} {t : TypeId} {x y : AV} {cy : Bool} {f : AV → Tr β} (h : (intOpK0 P op x y f).sat K) : (binA0 P op t x y cy).sat fun v => (f v).sat K := by
  cases op
  case shl => obtain ⟨a, m, b, n, rfl, rfl, h1⟩ := sh_sat h; obtain ⟨v, hv, h2⟩ := Tr.sat_opt h1; simp only [binA0, hv, opt, Tr.sat]; exact h2
  case shr => obtain ⟨a, m, b, n, rfl, rfl, h1⟩ := sh_sat h; obtain ⟨v, hv, h2⟩ := Tr.sat_opt h1; simp only [binA0, hv, opt, Tr.sat]; exact h2
  case add => obtain ⟨k, m, n, rfl, rfl, h1⟩ := two_sat h; simp only [binA0, decide_true, cond_true]; exact fitK_sat h1
  case sub => obtain ⟨k, m, n, rfl, rfl, h1⟩ := two_sat h; simp only [binA0, decide_true, cond_true]; exact fitK_sat h1
  case mul => obtain ⟨k, m, n, rfl, rfl, h1⟩ := two_sat h; simp only [binA0, decide_true, cond_true]; exact fitK_sat h1
  case quo =>
    obtain ⟨k, m, n, rfl, rfl, h1⟩ := two_sat h
    obtain ⟨hm, h2⟩ := Tr.sat_must h1
    simp only [leI_eq, ltI_eq] at hm
    simp only [binA0, decide_true, cond_true, hm, must, Tr.sat]
    exact fitK_sat h2
  case rem =>
    obtain ⟨k, m, n, rfl, rfl, h1⟩ := two_sat h
    obtain ⟨hm, h2⟩ := Tr.sat_must h1
    simp only [leI_eq, ltI_eq] at hm
    simp only [binA0, decide_true, cond_true, hm, must, Tr.sat]
    exact h2
  case and => obtain ⟨k, m, n, rfl, rfl, h1⟩ := two_sat h; obtain ⟨v, hv, h2⟩ := Tr.sat_opt h1; simp only [binA0, decide_true, cond_true, hv, opt, Tr.sat]; exact h2
  case or => obtain ⟨k, m, n, rfl, rfl, h1⟩ := two_sat h; obtain ⟨v, hv, h2⟩ := Tr.sat_opt h1; simp only [binA0, decide_true, cond_true, hv, opt, Tr.sat]; exact h2
  case xor => obtain ⟨k, m, n, rfl, rfl, h1⟩ := two_sat h; obtain ⟨v, hv, h2⟩ := Tr.sat_opt h1; simp only [binA0, decide_true, cond_true, hv, opt, Tr.sat]; exact h2
  case andNot => obtain ⟨k, m, n, rfl, rfl, h1⟩ := two_sat h; obtain ⟨v, hv, h2⟩ := Tr.sat_opt h1; simp only [binA0, decide_true, cond_true, hv, opt, Tr.sat]; exact h2
  case eql => obtain ⟨k, m, n, rfl, rfl, h1⟩ := cmp_sat h; rw [eqI_eq] at h1; simp only [binA0, decide_true, cond_true, Tr.sat]; exact h1
  case neq => obtain ⟨k, m, n, rfl, rfl, h1⟩ := cmp_sat h; rw [neI_eq] at h1; simp only [binA0, decide_true, cond_true, Tr.sat]; exact h1
  case lss => obtain ⟨k, m, n, rfl, rfl, h1⟩ := cmp_sat h; rw [ltI_eq] at h1; simp only [binA0, decide_true, cond_true, Tr.sat]; exact h1
  case leq => obtain ⟨k, m, n, rfl, rfl, h1⟩ := cmp_sat h; rw [leI_eq] at h1; simp only [binA0, decide_true, cond_true, Tr.sat]; exact h1
  case gtr => obtain ⟨k, m, n, rfl, rfl, h1⟩ := cmp_sat h; rw [gtI_eq] at h1; simp only [binA0, decide_true, cond_true, Tr.sat]; exact h1
  case geq => obtain ⟨k, m, n, rfl, rfl, h1⟩ := cmp_sat h; rw [geI_eq] at h1; simp only [binA0, decide_true, cond_true, Tr.sat]; exact h1

theorem strOpK0_sat {P : Program} {op : BinOp} {t : TypeId} {x y : AV} {cy : Bool} {f : AV → Tr β} (h : (strOpK0 op x y f).sat K) : (binA0 P op t x y cy).sat fun v => (f v).sat K := by
  have two : ∀ {g : List UInt8 → List UInt8 → Tr β}, (asStrK x fun a => asStrK y fun b => g a b).sat K → ∃ a b, x = .str a ∧ y = .str b ∧ (g a b).sat K := by
    clear h
    intro g h
    obtain ⟨a, rfl, h1⟩ := asStrK_sat h
    obtain ⟨b, rfl, h2⟩ := asStrK_sat h1
    exact ⟨_, _, rfl, rfl, h2⟩
  cases op <;> first | (exact h.elim) | skip
  case add =>
    obtain ⟨a, b, rfl, rfl, h1⟩ := two h
    obtain ⟨hm, h2⟩ := Tr.sat_must h1
    have hm := Nat.le_of_ble_eq_true hm
    simp only [binA0, must, Tr.sat, decide_eq_true hm]
    exact h2
  case eql => obtain ⟨a, b, rfl, rfl, h1⟩ := two h; rw [eqS_eq] at h1; exact h1
  case neq => obtain ⟨a, b, rfl, rfl, h1⟩ := two h; rw [eqS_eq] at h1; exact h1
  case lss => obtain ⟨a, b, rfl, rfl, h1⟩ := two h; exact h1

theorem nilEq_eqA {P : Program} {t : TypeId} {c : AV → AV → Option Bool} {cy : Bool} (hc : eqO P t cy = some c) {x y : AV} {b : Bool} (h : c x y = some b) :
    (x = .nili ∧ y = .nili ∧ cy = true ∧ b = true ∧ ∃ m, P.underlying t = some (.interface m)) ∨ ((¬ (x = .nili ∧ y = .nili)) ∧ eqA P t x y = some b) := by
  unfold eqO at hc
  split at hc <;> first | (cases hc; done) | skip
  · rename_i hu
    cases hc
    unfold eqBo at h
    split at h
    · cases h; exact .inr ⟨fun e => (nomatch e.1), by simp [eqA, eqA0, hu]⟩
    · cases h
  · rename_i e hu
    cases hc
    right
    cases x <;> cases y <;> simp [nilEq, nilP] at h <;> subst h <;> exact ⟨fun e => (nomatch e.1), by simp [eqA, eqA0, hu]⟩
  · rename_i e hu
    cases hc
    right
    cases x <;> cases y <;> simp [nilEq, nilS] at h <;> subst h <;> exact ⟨fun e => (nomatch e.1), by simp [eqA, eqA0, hu]⟩
  · rename_i e hu
    cases hc
    right
    cases x <;> cases y <;> simp [nilEq, nilF] at h <;> subst h <;> exact ⟨fun e => (nomatch e.1), by simp [eqA, eqA0, hu]⟩
  · rename_i e hu
    cases hc
    right
    cases x <;> cases y <;> simp [nilEq, nilM] at h <;> subst h <;> exact ⟨fun e => (nomatch e.1), by simp [eqA, eqA0, hu]⟩
  · rename_i m hu
    cases hc
    unfold eqIfc at h
    split at h
    · cases cy with
      | true => cases h; exact .inl ⟨rfl, rfl, rfl, rfl, m, hu⟩
      | false => cases h
    · cases h; exact .inr ⟨fun e => (nomatch e.2), by simp [eqA, eqA0, hu]⟩
    · cases h; exact .inr ⟨fun e => (nomatch e.1), by simp [eqA, eqA0, hu]⟩
    · exact .inr ⟨fun e => (nomatch e.1), by simp [eqA, eqA0, hu, h]⟩
    · cases h
  · rename_i fs hu
    cases hc
    unfold eqStT at h
    split at h
    · exact .inr ⟨fun e => (nomatch e.1), by simp only [eqA]; exact h⟩
    · cases h

theorem bin_eql {P : Program} {t : TypeId} {x y : AV} {cy b : Bool} (hn : ¬ (x = .nili ∧ y = .nili)) (he : eqA P t x y = some b) : binA0 P .eql t x y cy = .ret (.bool b) := by
  have e : binA0 P .eql t x y cy = opt (eqA P t x y) fun b => .ret (.bool b) := by
    cases x <;> cases y <;> first | rfl | (exact (hn ⟨rfl, rfl⟩).elim) | (simp [eqA, eqA0] at he; done)
  rw [e, he]; rfl
theorem bin_neq {P : Program} {t : TypeId} {x y : AV} {cy b : Bool} (hn : ¬ (x = .nili ∧ y = .nili)) (he : eqA P t x y = some b) : binA0 P .neq t x y cy = .ret (.bool (!b)) := by
  have e : binA0 P .neq t x y cy = opt (eqA P t x y) fun b => .ret (.bool (!b)) := by
    cases x <;> cases y <;> first | rfl | (exact (hn ⟨rfl, rfl⟩).elim) | (simp [eqA, eqA0] at he; done)
  rw [e, he]; rfl

theorem binK0_sat {P : Program} {op : BinOp} {t : TypeId} {x y : AV} {cy : Bool} {f : AV → Tr β} (h : (binK0 P op t cy x y f).sat K) : (binA0 P op t x y cy).sat fun v => (f v).sat K := by
  unfold binK0 at h
  split at h
  · exact intOpK0_sat h
  · exact strOpK0_sat h
  · cases op <;> first | (exact h.elim) | skip
    case eql =>
      cases hc : eqO P t cy with
      | none => rw [hc] at h; exact h.elim
      | some c =>
        rw [hc] at h
        obtain ⟨b, hb, h⟩ := Tr.sat_opt h
        rcases nilEq_eqA hc hb with ⟨rfl, rfl, rfl, rfl, m, hm⟩ | ⟨hn, he⟩
        · simp only [binA0, cond_true, hm, Tr.sat]; exact h
        · rw [bin_eql hn he]; exact h
    case neq =>
      cases hc : eqO P t cy with
      | none => rw [hc] at h; exact h.elim
      | some c =>
        rw [hc] at h
        obtain ⟨b, hb, h⟩ := Tr.sat_opt h
        rcases nilEq_eqA hc hb with ⟨rfl, rfl, rfl, rfl, m, hm⟩ | ⟨hn, he⟩
        · simp only [binA0, cond_true, hm, Tr.sat]; exact h
        · rw [bin_neq hn he]; exact h

theorem symK_bin {P : Program} {op : BinOp} {t : TypeId} {x y : AV} {cy : Bool} {f : AV → Tr β} {r : Tr β} (h : (symK op x y f r).sat K) (h0 : r.sat K → (binA0 P op t x y cy).sat fun v => (f v).sat K) : (binA P op t x y cy).sat fun v => (f v).sat K := by
  unfold symK at h
  unfold binA
  cases hs : symBin op x y with
  | some r => rw [hs] at h; exact h
  | none => rw [hs] at h; exact h0 h
theorem intOpK_sat {P : Program} {op : BinOp} {t : TypeId} {x y : AV} {cy : Bool} {f : AV → Tr β} (h : (intOpK P op x y f).sat K) : (binA P op t x y cy).sat fun v => (f v).sat K := by
  cases op <;> exact symK_bin h fun h0 => intOpK0_sat h0
theorem strOpK_sat {P : Program} {op : BinOp} {t : TypeId} {x y : AV} {cy : Bool} {f : AV → Tr β} (h : (strOpK op x y f).sat K) : (binA P op t x y cy).sat fun v => (f v).sat K := by
  cases op <;> first | (exact h.elim) | (exact symK_bin h fun h0 => strOpK0_sat h0)
theorem binK_sat {P : Program} {op : BinOp} {t : TypeId} {x y : AV} {cy : Bool} {f : AV → Tr β} (h : (binK P op t cy x y f).sat K) : (binA P op t x y cy).sat fun v => (f v).sat K := by
  unfold binK at h
  split at h
  · exact intOpK_sat h
  · exact strOpK_sat h
  · rename_i d h1 h2
    cases op <;> first | (exact h.elim) | skip
    case eql =>
      cases hc : eqO P t cy with
      | none => rw [hc] at h; exact h.elim
      | some c =>
        rw [hc] at h
        refine symK_bin h fun h0 => binK0_sat ?_
        unfold binK0
        split
        · rename_i hu; exact (h1 _ hu).elim
        · rename_i hu; exact (h2 hu).elim
        · simp only [hc]; exact h0
    case neq =>
      cases hc : eqO P t cy with
      | none => rw [hc] at h; exact h.elim
      | some c =>
        rw [hc] at h
        refine symK_bin h fun h0 => binK0_sat ?_
        unfold binK0
        split
        · rename_i hu; exact (h1 _ hu).elim
        · rename_i hu; exact (h2 hu).elim
        · simp only [hc]; exact h0
end
end Go.AM
