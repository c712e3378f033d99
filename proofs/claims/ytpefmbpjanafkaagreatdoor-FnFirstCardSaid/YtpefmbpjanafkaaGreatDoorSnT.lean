/- The abstract machine: loops, cuts, bodies. -/
import Derived.Test.YtpefmbpjanafkaaGreatDoorSnP
import Derived.Test.YtpefmbpjanafkaaGreatDoorSnA
set_option linter.unusedVariables false
set_option linter.unusedSimpArgs false
namespace Go.AM
section
variable {β : Type} {X : Env} {run : FuncId → List AV → Store → Tr R}

/-- A loop: 'u m' is m rounds of it at most. -/
theorem KOK.loop {N : Nat} {b : Code} {k : Kont β} {u : Nat → List AV → Store → Tr β} (h0 : ∀ fr σ, u 0 fr σ = .fail) (hs : ∀ m fr σ, KOK X N b fr σ (u (m + 1) fr σ) (thenK (u m) k)) : ∀ m fr σ, KOK X N (.loop b) fr σ (u m fr σ) k := by
  have main : ∀ m fr σ (K : β → Prop) (g : Ghost) (a : Act) (w : World), fr.length = N → (u m fr σ).sat K → FR g fr a → Sim g σ w → GR X g → Loops X.P b (Meets g w fun r => r.2.1.length = N ∧ (k r.1 r.2.1 r.2.2).sat K) a w := by
    intro m
    induction m with
    | zero => intro fr σ K g a w _ ht; rw [h0] at ht; exact ht.elim
    | succ m ih =>
      intro fr σ K g a w hN ht hf hs' hG
      refine Loops.round (wp_mono (hs m fr σ K g a w hN ht hf hs' hG) ?_)
      rintro e a' w' ⟨fr', σ', g', ⟨h1, h1'⟩, h2, h3, h4⟩
      cases e with
      | normal => exact fun B k cs => let ⟨e, a'', w'', q, ar⟩ := ih fr' σ' K g' a' w' h1 h1' h2 h3 (Ghost.GR_mono hG h4.le) B k cs; ⟨e, a'', w'', q.trans h4, ar⟩
      | _ => exact ⟨fr', σ', g', ⟨h1, h1'⟩, h2, h3, h4⟩
  exact fun m fr σ K g a w hN ht hf hs' hG => (main m fr σ K g a w hN ht hf hs' hG).loop

/-- A scope with jumps: 'u m l' is the run from label l on, with m jumps at most. -/
theorem KOK.scope {N : Nat} {b : Code} {k : Kont β} {u : Nat → Nat → List AV → Store → Tr β} (h0 : ∀ l fr σ, u 0 l fr σ = .fail) (hs : ∀ m l rest, findLabel b l = some rest → ∀ fr σ, KOK X N rest fr σ (u (m + 1) l fr σ) (scopeK b (u m) k)) (n : Nat) {fr : List AV} {σ : Store} {t : Tr β} (h : KOK X N b fr σ t (scopeK b (u n) k)) : KOK X N (.scope b) fr σ t k := by
  have main : ∀ m l rest, findLabel b l = some rest → ∀ fr σ, ScOK X N b rest fr σ (u m l fr σ) k := by
    intro m
    induction m with
    | zero => intro l rest _ fr σ K g a w _ ht; rw [h0] at ht; exact ht.elim
    | succ m ih => intro l rest hl fr σ; exact ScOK.step (hs m l rest hl fr σ) ih
  exact ScOK.scope (ScOK.step h (main n))
/-- What stands behind a label. -/
noncomputable def lblC (l : Nat) (b : Code) : Code := match findLabel b l with | some c => c | none => .skip
/-- A jump to one label. -/
noncomputable def lblU (l0 : Nat) (u : List AV → Store → Tr β) (l : Nat) : List AV → Store → Tr β := match Nat.beq l l0 with | true => u | false => fun _ _ => .fail
/-- A scope with jumps to one label. -/
theorem KOK.scope1 {N : Nat} {b : Code} {k : Kont β} (l0 : Nat) {u : Nat → List AV → Store → Tr β} (h0 : ∀ fr σ, u 0 fr σ = .fail) (hs : ∀ m fr σ, KOK X N (lblC l0 b) fr σ (u (m + 1) fr σ) (scopeK b (lblU l0 (u m)) k)) (n : Nat) {fr : List AV} {σ : Store} {t : Tr β} (h : KOK X N b fr σ t (scopeK b (lblU l0 (u n)) k)) : KOK X N (.scope b) fr σ t k := by
  refine KOK.scope (u := fun m l => lblU l0 (u m) l) ?_ ?_ n h
  · intro l fr σ
    unfold lblU
    cases Nat.beq l l0 with
    | true => exact h0 fr σ
    | false => rfl
  · intro m l rest hl fr σ
    show KOK X N rest fr σ (lblU l0 (u (m + 1)) l fr σ) _
    rw [lblU]
    cases hb : Nat.beq l l0 with
    | true =>
      have := hs m fr σ
      have hll := Nat.eq_of_beq_eq_true hb
      subst hll
      unfold lblC at this
      rw [hl] at this
      exact this
    | false => exact fun K g a w _ ht => ht.elim

/-- A frame of which some slots are told: from slot i on, n slots. -/
noncomputable def frS : Nat → Nat → List (Nat × AV) → List AV
  | _, 0, _ => []
  | i, n + 1, [] => .any :: frS (i + 1) n []
  | i, n + 1, (j, x) :: l => match Nat.beq i j with
    | true => x :: frS (i + 1) n l
    | false => .any :: frS (i + 1) n ((j, x) :: l)
theorem frS_length : ∀ n i l, (frS i n l).length = n
  | 0, _, _ => rfl
  | n + 1, i, [] => by simp [frS, frS_length n]
  | n + 1, i, (j, x) :: l => by
    unfold frS
    cases Nat.beq i j <;> simp [frS_length n]
theorem VRs_frS {g : Ghost} {fr : List AV} {vs : List Value} (h : VRs g fr vs) (full : List AV) (i : Nat) (hfull : ∀ n, fr[n]? = full[i + n]?) (js : List Nat) : VRs g (frS i fr.length (js.map fun j => (j, full.getD j .any))) vs := by
  induction fr generalizing vs i js with
  | nil => cases h; exact .nil
  | cons v fr ih =>
    cases h with
    | cons hv ht =>
      have hs : ∀ n, fr[n]? = full[i + 1 + n]? := fun n => by
        have := hfull (n + 1)
        rw [List.getElem?_cons_succ] at this
        rw [this]; congr 1; omega
      cases js with
      | nil => exact .cons (.any _) (ih ht (i + 1) hs [])
      | cons j js =>
        show VRs g (match Nat.beq i j with | true => full.getD j .any :: frS (i + 1) fr.length (js.map fun j => (j, full.getD j .any)) | false => .any :: frS (i + 1) fr.length ((j :: js).map fun j => (j, full.getD j .any))) _
        cases hj : Nat.beq i j with
        | true =>
          have hij := Nat.eq_of_beq_eq_true hj
          subst hij
          have : full.getD i .any = v := by
            have := hfull 0
            simp only [List.getElem?_cons_zero, Nat.add_zero] at this
            simp [List.getD, ← this]
          rw [this]
          exact .cons hv (ih ht (i + 1) hs js)
        | false => exact .cons (.any _) (ih ht (i + 1) hs (j :: js))
/-- Slots that are not looked at any more are let go. -/
theorem KOK.cut {N : Nat} {c : Code} {fr : List AV} {σ : Store} {t : Tr β} {k : Kont β} (js : List Nat) (h : KOK X N c (frS 0 N (js.map fun j => (j, fr.getD j .any))) σ t k) : KOK X N c fr σ t k := by
  intro K g a w hN ht hf hs hG
  refine h K g a w (frS_length _ _ _) ht ⟨?_, hf.defers⟩ hs hG
  rw [← hN]
  exact VRs_frS hf.vrs fr 0 (fun n => by rw [Nat.zero_add]) js
/-- One piece of code, cut. -/
theorem KOK.piece (hX : EnvOK X) (hrun : RunOK X run) {N : Nat} {ann : Ann β} {c : Code} {fr : List AV} {σ : Store} {t : Tr β} {k : Kont β} (js : List Nat) (he : codeK X run ann c (frS 0 N (js.map fun j => (j, fr.getD j .any))) σ k = t) (ho : Owes X run N ann c k) : KOK X N c fr σ t k :=
  KOK.cut js (he ▸ codeK_sound hX hrun ann c _ σ k ho)

theorem KOK.whole (hX : EnvOK X) (hrun : RunOK X run) {N : Nat} {ann : Ann β} {c : Code} {fr : List AV} {σ : Store} {t : Tr β} {k : Kont β} (he : codeK X run ann c fr σ k = t) (ho : Owes X run N ann c k) : KOK X N c fr σ t k :=
  he ▸ codeK_sound hX hrun ann c _ σ k ho
/-- A part of code. -/
noncomputable def subC : List Bool → Code → Code
  | [], c => c
  | false :: l, .seq a _ => subC l a
  | true :: l, .seq _ b => subC l b
  | false :: l, .cond _ a _ => subC l a
  | true :: l, .cond _ _ b => subC l b
  | _ :: l, .block _ b => subC l b
  | _ :: l, .loop b => subC l b
  | _ :: l, .scope b => subC l b
  | _, _ => .skip

theorem resK_sat {P : Program} {fr : List AV} {σ : Store} {K : β → Prop} : ∀ {rs : List ResultVar} {acc : List AV} {f : List AV → Tr β}, (resK P fr σ rs acc f).sat K → ∃ l, resultsA.go P fr σ rs = some l ∧ (f (acc.reverse ++ l)).sat K
  | [], acc, f, h => ⟨[], rfl, by rw [List.append_nil]; exact h⟩
  | .tmp t :: rs, acc, f, h => by
    obtain ⟨l, h1, h2⟩ := resK_sat (rs := rs) h
    refine ⟨fr.getD t .any :: l, by simp [resultsA.go, resultA, h1], ?_⟩
    rw [List.reverse_cons, List.append_assoc] at h2; exact h2
  | .cell a t :: rs, acc, f, h => by
    obtain ⟨v, hv, h0⟩ := loadK_sat (show (loadK P σ t (fr.getD a .any) _).sat K from h)
    obtain ⟨l, h1, h2⟩ := resK_sat (rs := rs) h0
    refine ⟨v :: l, by simp only [resultsA.go, resultA, h1, hv], ?_⟩
    rw [List.reverse_cons, List.append_assoc] at h2; exact h2
theorem go_length {P : Program} {fr : List AV} {σ : Store} : ∀ {rs : List ResultVar} {l : List AV}, resultsA.go P fr σ rs = some l → l.length = rs.length
  | [], l, h => by cases h; rfl
  | r :: rs, l, h => by
    unfold resultsA.go at h
    split at h
    · rename_i v m _ hm
      cases h
      simp [go_length hm]
    · cases h
theorem retK_sat {P : Program} {rs : List ResultVar} {e : Exit} {fr : List AV} {σ : Store} {K : R → Prop} (h : (retK P rs e fr σ).sat K) : (e = .normal ∨ e = .ret) ∧ ∃ v, resultsA P fr σ rs = some v ∧ K (v, σ) := by
  have main : (resK P fr σ rs [] (tupK σ)).sat K → ∃ v, resultsA P fr σ rs = some v ∧ K (v, σ) := by
    intro h
    obtain ⟨l, h1, h2⟩ := resK_sat h
    rw [List.reverse_nil, List.nil_append] at h2
    have hl := go_length h1
    unfold resultsA
    split
    · rename_i r
      match l, hl, h2 with
      | [v], _, h2 =>
        refine ⟨v, ?_, h2⟩
        unfold resultsA.go at h1
        split at h1
        · rename_i v' m hv hm; cases h1; exact hv
        · cases h1
    · rename_i hne
      refine ⟨.tup l, by rw [h1]; rfl, ?_⟩
      match l, rs, hl, h2, hne with
      | [], _, _, h2, _ => exact h2
      | [v], [r], _, _, hne => exact (hne r rfl).elim
      | _ :: _ :: _, _, _, h2, _ => exact h2
  cases e with
  | normal => exact ⟨.inl rfl, main h⟩
  | ret => exact ⟨.inr rfl, main h⟩
  | _ => exact h.elim
/-- A function by its body. -/
theorem KOK.body {f : FuncId} {fn : Func} {c : Code} {args : List AV} {σ : Store} {t : Tr R} (hf : X.P.funcs[f]? = some fn) (hb : fn.body = some c) (hl : args.length ≤ fn.ntmps)
    (h : KOK X fn.ntmps c (args ++ padA (fn.ntmps - args.length)) σ t (retK X.P fn.results.toList)) : CallOK X f args σ t := by
  intro K g w args' ht ha hs hG
  refine calls_of_wp hf hb ?_
  have hpl : ∀ n, (padA n).length = n := fun n => by induction n with | zero => rfl | succ n ih => simp [padA, ih]
  have hfr : FR g (args ++ padA (fn.ntmps - args.length)) { tmps := (⟨args'⟩ : Array Value) ++ Array.replicate (fn.ntmps - (⟨args'⟩ : Array Value).size) undef, defers := [] } := by
    refine ⟨?_, rfl⟩
    have : ((⟨args'⟩ : Array Value) ++ Array.replicate (fn.ntmps - (⟨args'⟩ : Array Value).size) undef).toList = args' ++ List.replicate (fn.ntmps - args.length) undef := by simp [ha.length]
    rw [this]
    exact ha.append (VRs_pad g _)
  refine wp_mono (h K g _ w (by rw [List.length_append, hpl]; omega) ht hfr hs hG) ?_
  rintro e a' w' ⟨fr', σ', g', ⟨_, h1⟩, h2, h3, h4⟩
  obtain ⟨he, v, hv, h1⟩ := retK_sat h1
  obtain ⟨u, q1, q2⟩ := results_sound h3 h2 hv
  rcases he with rfl | rfl <;> exact ⟨h2.defers, u, q2, u, v, σ', g', rfl, h1, h3, h4, q1⟩
/-- A function that can be entered. -/
noncomputable def hasBody (P : Program) (f : FuncId) : Bool := match P.funcs[f]? with | some fn => fn.body.isSome && !(fn.name == "runtime.NumGoroutine") | none => false
theorem hasBody_enter {P : Program} {f : FuncId} (h : hasBody P f = true) (args : Array Value) (w : World) : (callFunc f args).run P w = .ok (.enter f args) w := by
  unfold hasBody at h
  split at h
  · rename_i fn hfn
    simp only [Bool.and_eq_true, Bool.not_eq_true'] at h
    obtain ⟨c, hb⟩ : ∃ c, fn.body = some c := Option.isSome_iff_exists.1 h.1
    have h1 : fn.name ≠ "runtime.NumGoroutine" := by simpa using h.2
    simp [callFunc, hfn, h1, hb]
  · cases h
end
end Go.AM
/- The abstract machine: a program's functions, by their numbers. -/
namespace Go.AM
inductive Tab where
  | leaf
  | node (l : Tab) (f : Nat) (t : List AV → Store → Tr R) (r : Tab)
noncomputable def Tab.at : Tab → Nat → List AV → Store → Tr R
  | .leaf, _ => fun _ _ => .fail
  | .node l f t r, n => cond (Nat.blt n f) (l.at n) (cond (Nat.beq n f) t (r.at n))
/-- Each function that stands in the table is told rightly. -/
noncomputable def Tab.OK (X : Env) : Tab → Prop
  | .leaf => True
  | .node l f t r => l.OK X ∧ (∀ args σ, CallOK X f args σ (t args σ)) ∧ r.OK X
theorem CallOK.fail (X : Env) (f : FuncId) (args : List AV) (σ : Store) : CallOK X f args σ .fail := fun _ _ _ _ h => h.elim
theorem Tab.at_ok {X : Env} : ∀ {T : Tab}, T.OK X → ∀ n args σ, CallOK X n args σ (T.at n args σ)
  | .leaf, _, n, args, σ => CallOK.fail X n args σ
  | .node l f t r, h, n, args, σ => by
    unfold Tab.at
    cases Nat.blt n f with
    | true => exact Tab.at_ok h.1 n args σ
    | false =>
      simp only [cond_false]
      cases hb : Nat.beq n f with
      | true =>
        have := Nat.eq_of_beq_eq_true hb
        subst this
        exact h.2.1 args σ
      | false => exact Tab.at_ok h.2.2 n args σ
/-- Calls, n deep at most. -/
noncomputable def runT (tab : (FuncId → List AV → Store → Tr R) → Tab) : Nat → FuncId → List AV → Store → Tr R
  | 0 => fun _ _ _ => .fail
  | n + 1 => fun f => (tab (runT tab n)).at f
theorem runT_ok {X : Env} {tab : (FuncId → List AV → Store → Tr R) → Tab} (h : ∀ run, RunOK X run → (tab run).OK X) : ∀ n, RunOK X (runT tab n)
  | 0 => fun _ _ _ _ _ _ _ h => h.elim
  | n + 1 => fun f args σ K g w args' hs ha hsim hG => Tab.at_ok (h _ (runT_ok h n)) f args σ K g w args' hs ha hsim hG
end Go.AM
/- The abstract machine: the operations' values, as rules for rewriting. -/
namespace Go.AM
section
variable {β : Type}

theorem val_ask (b : Bool) (k : Bool → Tr β) : (Tr.ask b k).val = (k b).val := rfl
theorem val_ret (a : β) : (Tr.ret a).val = some a := rfl
theorem val_mustT {b : Bool} (t : Tr β) (h : b = true) : (must b t).val = t.val := by subst h; rfl
theorem val_ifK (b : Bool) (s t : Tr β) : (ifK (.bool b) s t).val = cond b s.val t.val := by cases b <;> rfl
theorem val_pickK (c : Bool) (a b : AV) (f : AV → Tr β) : (pickK (.bool c) a b f).val = (f (cond c a b)).val := rfl
theorem val_grdT (σ : Store) (t : (AV → Store → Tr β) → Tr β) (f : AV → Store → Tr β) (want : Bool) (b : Bool) : (grdK (.bool b) want σ t f).val = cond (b == want) (t f).val (f (.tup []) σ).val := by cases b <;> cases want <;> rfl
theorem val_grdN (want : Bool) (σ : Store) (t : (AV → Store → Tr β) → Tr β) (f : AV → Store → Tr β) (l : List AV) : (grdK (.tup l) want σ t f).val = (f (.tup []) σ).val := rfl

theorem symInt (op : BinOp) (k k' : IntKind) (a b : Int) : symBin op (.int k a) (.int k' b) = none := rfl
theorem symStr (op : BinOp) (a b : List UInt8) : symBin op (.str a) (.str b) = none := rfl
theorem kindB_self (k : IntKind) : kindB k k = true := by cases k <;> rfl
theorem val_addK (a b : Int) (f : AV → Tr β) (h1 : -9223372036854775808 ≤ a + b) (h2 : a + b ≤ 9223372036854775807) : (addK (.int .i64 a) (.int .i64 b) f).val = (f (.int .i64 (a + b))).val := by
  have : inK .i64 (a + b) = true := by simp [inK, leI_eq, h1, h2]
  simp only [addK, symK, symInt, addK0, asIntK, fitK, show kindB .i64 .i64 = true from rfl, cond_true, val_ask, this]
theorem val_subK (a b : Int) (f : AV → Tr β) (h1 : -9223372036854775808 ≤ a - b) (h2 : a - b ≤ 9223372036854775807) : (subK (.int .i64 a) (.int .i64 b) f).val = (f (.int .i64 (a - b))).val := by
  have : inK .i64 (a - b) = true := by simp [inK, leI_eq, h1, h2]
  simp only [subK, symK, symInt, subK0, asIntK, fitK, show kindB .i64 .i64 = true from rfl, cond_true, val_ask, this]
theorem val_lt (k : IntKind) (a b : Int) (f : AV → Tr β) : (cmpK .lss (.int k a) (.int k b) f).val = (f (.bool (decide (a < b)))).val := by simp only [cmpK, symK, symInt, cmpK0, cmpF, asIntK, kindB_self, cond_true, ltI_eq]
theorem val_le (k : IntKind) (a b : Int) (f : AV → Tr β) : (cmpK .leq (.int k a) (.int k b) f).val = (f (.bool (decide (a ≤ b)))).val := by simp only [cmpK, symK, symInt, cmpK0, cmpF, asIntK, kindB_self, cond_true, leI_eq]
theorem val_gt (k : IntKind) (a b : Int) (f : AV → Tr β) : (cmpK .gtr (.int k a) (.int k b) f).val = (f (.bool (decide (b < a)))).val := by simp only [cmpK, symK, symInt, cmpK0, cmpF, asIntK, kindB_self, cond_true, gtI, ltI_eq]
theorem val_ge (k : IntKind) (a b : Int) (f : AV → Tr β) : (cmpK .geq (.int k a) (.int k b) f).val = (f (.bool (decide (b ≤ a)))).val := by simp only [cmpK, symK, symInt, cmpK0, cmpF, asIntK, kindB_self, cond_true, geI, leI_eq]
theorem val_eq (k : IntKind) (a b : Int) (f : AV → Tr β) : (cmpK .eql (.int k a) (.int k b) f).val = (f (.bool (decide (a = b)))).val := by simp only [cmpK, symK, symInt, cmpK0, cmpF, asIntK, kindB_self, cond_true, eqI_eq]
theorem val_ne (k : IntKind) (a b : Int) (f : AV → Tr β) : (cmpK .neq (.int k a) (.int k b) f).val = (f (.bool (!decide (a = b)))).val := by simp only [cmpK, symK, symInt, cmpK0, cmpF, asIntK, kindB_self, cond_true, neI, eqI_eq]
theorem val_lenS (s : List UInt8) (f : AV → Tr β) : (lenSK (.str s) f).val = (f (.int .i64 s.length)).val := rfl
theorem val_eqS (s t : List UInt8) (f : AV → Tr β) : (eqSK (.str s) (.str t) f).val = (f (.bool (decide (s = t)))).val := by simp only [eqSK, symK, symStr, eqSK0, asStrK, eqS_eq]
theorem val_neS (s t : List UInt8) (f : AV → Tr β) : (neSK (.str s) (.str t) f).val = (f (.bool (!decide (s = t)))).val := by simp only [neSK, symK, symStr, neSK0, asStrK, eqS_eq]
theorem symIdxN (s : List UInt8) (k : IntKind) (i : Int) : symIdx (.str s) (.int k i) = none := rfl
theorem symSlN (s : List UInt8) (k k' : IntKind) (i j : Int) : symSlice (.str s) (some (.int k i)) (some (.int k' j)) = none := rfl
theorem symSlL (s : List UInt8) (k : IntKind) (i : Int) : symSlice (.str s) (some (.int k i)) none = none := rfl
theorem symSlH (s : List UInt8) (k : IntKind) (i : Int) : symSlice (.str s) none (some (.int k i)) = none := rfl
/-- An index within a string. -/
theorem val_idxS (k : IntKind) (s : List UInt8) (i : Int) (f : AV → Tr β) (h0 : 0 ≤ i) (h1 : i < s.length) : (idxSK (.str s) (.int k i) f).val = (f (.int .u8 (s.getD i.toNat 0).toNat)).val := by
  unfold idxSK idxSK0
  simp only [symIdxN, asIntK, asStrK]
  rw [val_mustT _ (by simp [leI_eq, ltI_eq, h0, h1])]
theorem val_slice (k k' : IntKind) (s : List UInt8) (l h : Int) (f : AV → Tr β) (h0 : 0 ≤ l) (h1 : l ≤ h) (h2 : h ≤ s.length) : (sliceSK (.str s) (some (.int k l)) (some (.int k' h)) f).val = (f (.str ((s.take h.toNat).drop l.toNat))).val := by
  unfold sliceSK sliceSK0
  simp only [symSlN, asStrK, boundA]
  rw [val_mustT _ (by simp [leI_eq, h0, h1, h2])]
theorem val_sliceL (k : IntKind) (s : List UInt8) (l : Int) (f : AV → Tr β) (h0 : 0 ≤ l) (h1 : l ≤ s.length) : (sliceSK (.str s) (some (.int k l)) none f).val = (f (.str (s.drop l.toNat))).val := by
  unfold sliceSK sliceSK0
  simp only [symSlL, asStrK, boundA]
  rw [val_mustT _ (by simp [leI_eq, h0, h1])]
  simp
theorem val_sliceH (k : IntKind) (s : List UInt8) (h : Int) (f : AV → Tr β) (h0 : 0 ≤ h) (h1 : h ≤ s.length) : (sliceSK (.str s) none (some (.int k h)) f).val = (f (.str (s.take h.toNat))).val := by
  unfold sliceSK sliceSK0
  simp only [symSlH, asStrK, boundA]
  rw [val_mustT _ (by simp [leI_eq, h0, h1])]
  simp
theorem val_lenL (id off n c z : Nat) (f : AV → Tr β) : (lenLK (.slice id off n c z) f).val = (f (.int .i64 n)).val := rfl
theorem bind_valV {α : Type} {t : Tr α} {f : α → Tr β} {a : α} (h : t.val = some a) : (t.bind f).val = (f a).val := by
  induction t with
  | ret b => cases h; rfl
  | ask b k ih => exact ih b h
  | fail => cases h
theorem val_cal {run : FuncId → List AV → Store → Tr R} {g : FuncId} {args : List AV} {σ : Store} {f : AV → Store → Tr β} {v : AV} {τ : Store} (h : (run g args σ).val = some (v, τ)) : (calK run g args σ f).val = (f v τ).val := by
  unfold calK
  rw [bind_valV h]
/-- An element of a slice of single cells. -/
theorem val_elem {σ : Store} {id len cap e : Nat} {cs : List AV} {j : Nat} {x : AV} (hg : σ.get id = some (.cells e cs)) (hj : j < len) (hx : cs[j]? = some x) (f : AV → Tr β) : (idxK 1 (.slice id 0 len cap 1) (.int .i64 j) fun a => ld1K σ a f).val = (f x).val := by
  unfold idxK
  simp only [idxV]
  rw [val_mustT _ (by simp [leI_eq, ltI_eq]; exact hj)]
  have hn : nthA cs j = some x := by rw [nthA_eq]; exact hx
  simp only [ld1K, ld1A, cellsAt, hg, Int.toNat_natCast, Nat.zero_add, Nat.mul_one, hn, opt]
end
/-- What is computed under a condition, in place of a function. -/
theorem CallOK.of_val {X : Env} {f : FuncId} {args : List AV} {σ : Store} {t : Tr R} (h : CallOK X f args σ t) {b : Bool} {r : R} (hv : b = true → t.val = some r) : CallOK X f args σ (must b (.ret r)) := by
  intro K g w args' ht
  obtain ⟨hb, hk⟩ := Tr.sat_must ht
  exact h K g w args' (Tr.sat_of_val (hv hb) hk)
end Go.AM
namespace Go.AM
/-- Code that is told in another way. -/
theorem KOK.of_sat {β : Type} {X : Env} {N : Nat} {c : Code} {fr : List AV} {σ : Store} {t t' : Tr β} {k : Kont β} (h : KOK X N c fr σ t k) (hs : ∀ K, t'.sat K → t.sat K) : KOK X N c fr σ t' k :=
  fun K g a w hN ht hf hsim hG => h K g a w hN (hs K ht) hf hsim hG
end Go.AM
/- The abstract machine: what functions of the library do. -/
namespace Go.AM

noncomputable def bytesA (l : List UInt8) : List AV := l.map fun b => .int .u8 b.toNat
noncomputable def unbytesA : List AV → Option (List UInt8)
  | [] => some []
  | .int .u8 (.ofNat k) :: l => cond (Nat.ble k 255) (match unbytesA l with | some m => some (k.toUInt8 :: m) | none => none) none
  | _ :: _ => none

/-- The bytes that a slice of bytes holds (u8: the type of bytes). -/
noncomputable def heldA (u8 : TypeId) (σ : Store) : AV → Option (List AV)
  | .nils => some []
  | .slice id 0 len _ 1 => match σ.get id with | some (.cells e cs) => cond (Nat.beq (e / 2) u8 && !(Nat.beq len 0) && Nat.ble len cs.length && allOne cs) (some (cs.take len)) none | _ => none
  | _ => none
/-- A block is forgotten. -/
noncomputable def dropA (σ : Store) : AV → Store
  | .slice id _ _ _ _ => σ.kill id
  | _ => σ

/-- strings.Builder: copyCheck (T: the type of a Builder). -/
noncomputable def copyCheckA (T : TypeId) (σ : Store) (id : Nat) : Tr R :=
  match σ.get id with
  | some (.cells e [p, buf]) => must (Nat.beq e (2 * T + 1)) (match p with
    | .nilp => .ret (.tup [], σ.upd id (.cells e [.ptr id 0, buf]))
    | .ptr i 0 => must (Nat.beq i id) (.ret (.tup [], σ))
    | .np i 0 => must (Nat.beq i id) (.ret (.tup [], σ))
    | _ => .fail)
  | _ => .fail
/-- strings.Builder: String. -/
noncomputable def bldString (T u8 : TypeId) (σ : Store) (id : Nat) : Tr R :=
  match σ.get id with
  | some (.cells e [_, buf]) => must (Nat.beq e (2 * T + 1)) (match buf with
    | .bsl r c ts => opt (rowHeld σ u8 (.bsl r c ts)) fun l => must (leI 1 (c + minTs ts)) (.ret (mkStr l, σ.kill r))
    | buf => opt (heldA u8 σ buf) fun old => opt (unbytesA old) fun l => .ret (.str l, dropA σ buf))
  | _ => .fail
noncomputable def sameTs : List Tm → List Tm → Bool
  | [], [] => true
  | a :: l, b :: m => Nat.beq a.k b.k && eqI a.co b.co && Nat.beq a.lo b.lo && Nat.beq a.hi b.hi && sameTs l m
  | _, _ => false
noncomputable def linSame (a b : Int × List Tm) : Bool := eqI a.1 b.1 && sameTs a.2 b.2
/-- The text that a buffer's row holds. -/
noncomputable def bufHeld (u8 : TypeId) (σ : Store) : AV → Option (List Seg)
  | .nils => some []
  | .bsl id c ts => match σ.get id with
    | some (.bytes e l) => cond (Nat.beq e u8 && linSame (segLen l) (c, ts) && leI 1 ((segLen l).1 + minTs (segLen l).2)) (some l) none
    | _ => none
  | _ => none
noncomputable def dropB (σ : Store) : AV → Store
  | .bsl id _ _ => σ.kill id
  | _ => σ
/-- bytes.Buffer, only written (T: the type of a Buffer). -/
noncomputable def bufWrite (T u8 : TypeId) (σ : Store) (id : Nat) (add : List Seg) (r : AV) : Tr R :=
  match σ.get id with
  | some (.cells e [buf, .int .i64 0, .int .i8 _]) => must (Nat.beq e (2 * T + 1)) (opt (bufHeld u8 σ buf) fun old =>
      must (leI 1 ((segLen add).1 + minTs (segLen add).2) && leI ((segLen (old ++ add)).1 + maxTs (segLen (old ++ add)).2) 70368744177664)
        (match ((dropB σ buf).new (.bytes u8 (old ++ add))).get σ.next with
         | some _ => .ret (r, ((dropB σ buf).new (.bytes u8 (old ++ add))).upd id (.cells e [.bsl σ.next (segLen (old ++ add)).1 (segLen (old ++ add)).2, .int .i64 0, .int .i8 0]))
         | none => .fail))
  | _ => .fail
noncomputable def bufString (T u8 : TypeId) (σ : Store) (id : Nat) : Tr R :=
  match σ.get id with
  | some (.cells e [buf, .int .i64 0, .int .i8 _]) => must (Nat.beq e (2 * T + 1)) (opt (bufHeld u8 σ buf) fun l => .ret (mkStr l, σ))
  | _ => .fail
noncomputable def bufLen (T u8 : TypeId) (σ : Store) (id : Nat) : Tr R :=
  match σ.get id with
  | some (.cells e [buf, .int .i64 0, .int .i8 _]) => must (Nat.beq e (2 * T + 1)) (opt (bufHeld u8 σ buf) fun l => .ret (mkLin (segLen l).1 (segLen l).2, σ))
  | _ => .fail
noncomputable def repA (l : List UInt8) : Nat → List UInt8
  | 0 => []
  | n + 1 => l ++ repA l n
noncomputable def indexB (c : UInt8) : List UInt8 → Nat → Int
  | [], _ => -1
  | b :: l, i => cond (Nat.beq b.toNat c.toNat) i (indexB c l (i + 1))
end Go.AM
