/- FnFirst: the call answers true, and leaves all as it was. -/
import Derived.Test.YtpefmbpjanafkaaGreatDoorFV0
import Derived.Test.YtpefmbpjanafkaaGreatDoorFV1
import Derived.Test.YtpefmbpjanafkaaGreatDoorFTop
set_option linter.unusedVariables false
set_option linter.unusedSimpArgs false
namespace Go.Proofs.YtpefmbpjanafkaaGreatDoor
open Go.ChangeMaps Go.ChangeShapes Go.WideShapes Go.ChangeAt Go.RowKit Go.AM
theorem forget {X : Env} {f : FuncId} {args : List AV} {σ : Store} {t : Tr R} (h : CallOK X f args (lf σ.next) t) : CallOK X f args σ t := by
  intro K g w args' ht ha hs hG
  refine h K g w args' ht ha ⟨hs.next, fun id bl hg => ?_, hs.inj, hs.imm, hs.apart, hs.lt⟩ hG
  have : (lf σ.next).get id = none := PT.get_leaf
  rw [this] at hg; cases hg
theorem forget2 {X : Env} {f : FuncId} {args : List AV} {σ σ1 : Store} {v : AV} (h : CallOK X f args σ (.ret (v, σ1))) : CallOK X f args σ (.ret (v, lf σ1.next)) := by
  intro K g w args' ht ha hs hG
  refine (h (fun r => r = (v, σ1)) g w args' rfl ha hs hG).mono ?_
  rintro e w' ⟨u, a, σ2, g', rfl, hK, hS, hE, hvr⟩
  cases hK
  refine ⟨u, v, lf σ1.next, g', rfl, ht, ⟨hS.next, fun id bl hg => ?_, hS.inj, hS.imm, hS.apart, hS.lt⟩, hE, hvr⟩
  have : (lf σ1.next).get id = none := PT.get_leaf
  rw [this] at hg; cases hg
noncomputable def res20 (n : Nat) : Option (AV × Nat) := (c20 runB 1 (lf n)).val.map fun r => (r.1, r.2.next)
theorem ok20c {n : Nat} (h : res20 n = some (optP, n + 1)) {σ : Store} (hn : σ.next = n) : CallOK X0 20 [] σ (.ret (optP, lf (n + 1))) := by
  subst hn
  unfold res20 at h
  cases hv : (c20 runB 1 (lf σ.next)).val with
  | none => rw [hv] at h; cases h
  | some r =>
    rw [hv] at h
    obtain ⟨v, σ1⟩ := r
    simp only [Option.map_some, Option.some.injEq, Prod.mk.injEq] at h
    obtain ⟨rfl, hn⟩ := h
    have h0 : CallOK X0 20 [] (lf σ.next) (.ret (optP, σ1)) := by
      intro K g w args' ht
      exact ok20 runB_ok 1 (lf σ.next) K g w args' (Tr.sat_of_val hv ht)
    rw [← hn]
    exact forget (forget2 h0)
theorem res20_1 : res20 1 = some (optP, 2) := by kernel_rfl
theorem res20_2 : res20 2 = some (optP, 3) := by kernel_rfl
open Classical in
/-- The calls that FnFirst makes: the HTML of one text is given. -/
noncomputable def run7 (t H : List UInt8) (σ0 : Store) (b : Nat) (f : FuncId) (args : List AV) (σ : Store) : Tr R :=
  if f = 20 then match args with
    | [] => if σ.next = 1 then .ret (optP, lf 2) else if σ.next = 2 then .ret (optP, lf 3) else .fail
    | _ => .fail
  else if f = 25 ∧ args = [optP, .str t] ∧ σ = σ0 then .ret (.str H, lf b)
  else .fail
theorem run7_ok {t H : List UInt8} {σ0 : Store} {b : Nat} (h : CallOK X0 25 [optP, .str t] σ0 (.ret (.str H, lf b))) : RunOK X0 (run7 t H σ0 b) := by
  intro f args σ K g w args' hs ha hsim hG
  unfold run7 at hs
  split at hs
  · subst f
    split at hs
    · split at hs
      · rename_i h1; exact ok20c res20_1 h1 K g w args' hs ha hsim hG
      · split at hs
        · rename_i h1; exact ok20c res20_2 h1 K g w args' hs ha hsim hG
        · exact hs.elim
    · exact hs.elim
  · split at hs
    · rename_i h1
      obtain ⟨rfl, rfl, rfl⟩ := h1
      exact h K g w args' hs ha hsim hG
    · exact hs.elim
theorem run7_1 {t H : List UInt8} {σ0 σ : Store} {b : Nat} (h : σ.next = 1) : (run7 t H σ0 b 20 [] σ).val = some (optP, lf 2) := by
  unfold run7; rw [if_pos rfl]; simp only [h, if_true]; rfl
theorem run7_2 {t H : List UInt8} {σ0 σ : Store} {b : Nat} (h : σ.next = 2) : (run7 t H σ0 b 20 [] σ).val = some (optP, lf 3) := by
  unfold run7; rw [if_pos rfl]; simp only [h, if_true, if_neg (by decide : ¬ (2 = 1))]; rfl
theorem run7_25 {t H : List UInt8} {σ0 : Store} {b : Nat} : (run7 t H σ0 b 25 [optP, .str t] σ0).val = some (.str H, lf b) := by
  unfold run7; rw [if_neg (by decide), if_pos ⟨rfl, rfl, rfl⟩]; rfl
section
variable {l a b : List UInt8}
noncomputable def bvF (l a b : List UInt8) (B : Nat) : List UInt8 := if B = 22 then l else if B = 38 then a else if B = 54 then b else []
theorem okS_all {s : List UInt8} (h : okS s = true) : s ≠ [] ∧ s.length ≤ 60 ∧ ∀ c ∈ s, okC c = true := by
  simp only [okS, allC, Bool.and_eq_true, Bool.not_eq_true', decide_eq_false_iff_not, List.all_eq_true] at h
  exact ⟨h.1.1, by omega, h.2⟩
theorem okC_mem {c : UInt8} (h : okC c = true) : c ∈ clsT 6 := by
  have key : ∀ n, n < 256 → okC (UInt8.ofNat n) = true → UInt8.ofNat n ∈ clsT 6 := by decide +kernel
  have := key c.toNat c.toNat_lt
  rw [UInt8.ofNat_toNat] at this
  exact this h
theorem bvF_ok (hl : okS l = true) (ha : okS a = true) (hb : okS b = true) (B : Nat) : ∀ c, c ∈ bvF l a b B → c ∈ clsT (B % 16) := by
  intro c hc
  unfold bvF at hc
  split at hc
  · rename_i h; rw [h]; exact okC_mem ((okS_all hl).2.2 c hc)
  · split at hc
    · rename_i h; rw [h]; exact okC_mem ((okS_all ha).2.2 c hc)
    · split at hc
      · rename_i h; rw [h]; exact okC_mem ((okS_all hb).2.2 c hc)
      · cases hc
theorem img6 : ∀ {s : List UInt8}, (∀ c ∈ s, okC c = true) → imgL 6 s = s.map upC
  | [], _ => rfl
  | c :: s, h => by
    have ih := img6 fun d hd => h d (List.mem_cons_of_mem _ hd)
    obtain ⟨h1, h2⟩ := okC_iff (h c (List.mem_cons_self ..))
    show mapB 6 c ++ imgL 6 s = _
    rw [ih]
    have : mapB 6 c = [upC c] := by
      show cond (Nat.ble 97 c.toNat && Nat.ble c.toNat 122) [(c.toNat - 32).toUInt8] [c] = _
      rw [show (Nat.ble 97 c.toNat && Nat.ble c.toNat 122) = true by simp [h1, h2]]; rfl
    rw [this]; rfl
theorem html_at {m n0 : Nat} (hm : m = 0 ∨ m = 6) (hr : rF m n0 = true) (hl : okS l = true) (ha : okS a = true) (hb : okS b = true) : ∃ b0, CallOK X0 25 [optP, .str (txt (imgL m l) l a b)] (lf n0) (.ret (.str (htm (imgL m l) a), lf b0)) := by
  have hrun : RunOK X0 runF := Go.AM.runT_ok (fun run h => tabF_ok fuel run h) deep
  obtain ⟨l1, l2, l3⟩ := okS_all hl
  obtain ⟨a1, a2, a3⟩ := okS_all ha
  obtain ⟨b1, b2, b3⟩ := okS_all hb
  have sl : ∀ k, k < 16 → svOf (bvF l a b) (16 * 22 + k) = imgL k l := fun k hk => by
    unfold svOf bvF
    rw [show (16 * 22 + k) / 16 = 22 by omega, show (16 * 22 + k) % 16 = k by omega, if_pos rfl]; rfl
  have sa : svOf (bvF l a b) (16 * 38) = a := imgL_zero a
  have sb : svOf (bvF l a b) (16 * 54) = b := imgL_zero b
  have hm16 : m < 16 := by omega
  have ilen : ∀ k, k = 0 ∨ k = 6 → (imgL k l).length = l.length := by
    rintro k (rfl | rfl)
    · rw [imgL_zero]
    · rw [img6 l3, List.length_map]
  have lpos : 0 < l.length := List.length_pos_iff.2 l1
  have apos : 0 < a.length := List.length_pos_iff.2 a1
  have bpos : 0 < b.length := List.length_pos_iff.2 b1
  have okl : ∀ k, k = 0 ∨ k = 6 → ∀ r, SegsOK (svOf (bvF l a b)) r → SegsOK (svOf (bvF l a b)) (wL k :: r) := by
    intro k hk r hr
    refine ⟨⟨by rw [sl k (by omega), ilen k hk]; exact lpos, by rw [sl k (by omega), ilen k hk]; exact l2, by rw [sl k (by omega)]; exact imgL_mem fun c hc => okC_mem (l3 c hc)⟩, hr⟩
  have oka : ∀ r, SegsOK (svOf (bvF l a b)) r → SegsOK (svOf (bvF l a b)) (wA :: r) := fun r hr => ⟨⟨by rw [sa]; exact apos, by rw [sa]; exact a2, by rw [sa]; exact fun c hc => okC_mem (a3 c hc)⟩, hr⟩
  have okb : ∀ r, SegsOK (svOf (bvF l a b)) r → SegsOK (svOf (bvF l a b)) (wB :: r) := fun r hr => ⟨⟨by rw [sb]; exact bpos, by rw [sb]; exact b2, by rw [sb]; exact fun c hc => okC_mem (b3 c hc)⟩, hr⟩
  have hW : SegsOK (svOf (bvF l a b)) (tX m) := okl m hm _ (okl 0 (.inl rfl) _ (oka _ (okl m hm _ (okb _ trivial))))
  have hX : den (svOf (bvF l a b)) (tX m) = txt (imgL m l) l a b := by
    simp only [tX, wL, wA, wB, den, sl m hm16, sl 0 (by omega), sa, sb, imgL_zero, txt, List.append_assoc, List.cons_append, List.nil_append]
  have hH : den (svOf (bvF l a b)) (tH m) = htm (imgL m l) a := by
    simp only [tH, wL, wA, den, sl m hm16, sa, htm, List.append_assoc, List.cons_append, List.nil_append]
  refine ⟨nxT (runF 25 ([optP] ++ [.sstr (tX m)]) { t := .leaf, next := n0 }), ?_⟩
  rw [← hX, ← hH]
  exact lift_ok hrun (pre := [optP]) (okE_L hr) (bvF_ok hl ha hb) hW rfl
theorem first_at (up : Bool) (hl : okS l = true) (ha : okS a = true) (hb : okS b = true) : ∃ run σ', RunOK X0 run ∧ (c7 run 100 (.str l) (.str a) (.str b) (.bool up) (lf 0)).val = some (.bool true, σ') := by
  obtain ⟨l1, l2, l3⟩ := okS_all hl
  have a2 := (okS_all ha).2.1
  have b2 := (okS_all hb).2.1
  have hall : (okS l && okS a && okS b) = true := by rw [hl, ha, hb]; rfl
  cases up with
  | false =>
    obtain ⟨b0, h⟩ := html_at (m := 0) (n0 := 2) (.inl rfl) r0 hl ha hb
    rw [imgL_zero] at h
    refine ⟨run7 (txt l l a b) (htm l a) (lf 2) b0, lf b0, run7_ok h, ?_⟩
    rw [at7 hall]
    unfold c7_1
    rw [val_ifK, cond_false]
    exact fin7 (by omega) (by omega) (by omega) (by omega) (run7_1 rfl) run7_25
  | true =>
    obtain ⟨b0, h⟩ := html_at (m := 6) (n0 := 3) (.inr rfl) r1 hl ha hb
    rw [img6 l3] at h
    refine ⟨run7 (txt (l.map upC) l a b) (htm (l.map upC) a) (lf 3) b0, lf b0, run7_ok h, ?_⟩
    rw [at7 hall]
    unfold c7_1
    rw [val_ifK, cond_true]
    simp only [s2bK, asStrK, sbK, s2_new, show (s1 [.str l, .str a, .str b]).next = 1 from rfl, s2_get, show Nat.ble l.length 1000000000 = true by simp; omega, cond_true]
    rw [val_lenL]
    have := loopU (run := run7 (txt (l.map upC) l a b) (htm (l.map upC) a) (lf 3) b0) (fu := 100) (x0 := .str l) (x1 := .str a) (x2 := .str b) (L := [.str l, .str a, .str b]) (n := l.length) (by omega) 99 [] l (by omega) l3 (by simp)
    simp only [List.nil_append, List.length_nil] at this
    refine this.trans ?_
    unfold c7_3
    rw [show l.length = (l.map upC).length by simp, val_b2s]
    exact fin7 (by simp; omega) (by omega) (by omega) (by omega) (run7_2 rfl) run7_25
end
theorem f_calls (l a b : ByteArray) (up : Bool) (w : World) (hw : HasG1 w) : Calls Tryz.prog 7 #[.string l, .string a, .string b, .bool up] w fun e w' => e = .returned (.bool true) ∧ Below w.heap.size w w' := by
  have main : ∀ {run : FuncId → List AV → Store → Tr R} {σ' : Store}, RunOK X0 run → (c7 run 100 (.str l.data.toList) (.str a.data.toList) (.str b.data.toList) (.bool up) (lf 0)).val = some (.bool true, σ') → Calls Tryz.prog 7 #[.string l, .string a, .string b, .bool up] w fun e w' => e = .returned (.bool true) ∧ Below w.heap.size w w' := by
    intro run σ' hrun hv
    have h := ok7 hrun 100 (.str l.data.toList) (.str a.data.toList) (.str b.data.toList) (.bool up) (lf 0) (fun r => r.1 = .bool true) (ghostT [] (fun _ h => by cases h)) w [.string l, .string a, .string b, .bool up] (Tr.sat_of_val hv rfl) (.cons (strP l) (.cons (strP a) (.cons (strP b) (.cons (.bool up) .nil)))) (simT hw) grT
    exact Calls.mono (show Calls Tryz.prog 7 #[.string l, .string a, .string b, .bool up] w _ from h) fun e w' => finT
  by_cases hc : (okS l.data.toList && okS a.data.toList && okS b.data.toList) = true
  · simp only [Bool.and_eq_true] at hc
    obtain ⟨run, σ', h1, h2⟩ := first_at up hc.1.1 hc.1.2 hc.2
    exact main h1 h2
  · obtain ⟨σ', h⟩ := out7 (run := runB) (x3 := .bool up) hc
    exact main runB_ok h
end Go.Proofs.YtpefmbpjanafkaaGreatDoor
