/- FnFirst at texts that are known. -/
import Derived.Test.YtpefmbpjanafkaaGreatDoorSnRa
import Derived.Test.YtpefmbpjanafkaaGreatDoorNS1
import Derived.Test.YtpefmbpjanafkaaGreatDoorFQA
import Derived.Test.YtpefmbpjanafkaaGreatDoorFQB
import Derived.Test.YtpefmbpjanafkaaGreatDoorFQC
import Derived.KernelRfl
set_option linter.unusedVariables false
set_option linter.unusedSimpArgs false
namespace Go.Proofs.YtpefmbpjanafkaaGreatDoor
open Go.AM
noncomputable def okC (c : UInt8) : Bool := !(decide ((c.toNat : Int) < 97)) && !(decide ((122 : Int) < c.toNat))
noncomputable def allC (s : List UInt8) : Bool := s.all okC
noncomputable def okS (s : List UInt8) : Bool := !(decide (s = [])) && !(decide ((60 : Int) < s.length)) && allC s
noncomputable def lf (n : Nat) : Store := { t := .leaf, next := n }
section
variable {run : FuncId → List AV → Store → Tr R} {fu : Nat}
theorem loopI (s5 : AV → AV → AV → AV → AV → AV → AV → Store → Tr R) (x0 x1 x2 x3 x31 x32 x33 : AV) (s : List UInt8) (σ : Store) (hlen : s.length ≤ 1000000) : ∀ m i, s.length ≤ i + m → i ≤ s.length →
    (c7_7 run fu s5 (m + 1) x0 x1 x2 x3 (.str s) (.int .i64 i) x31 x32 x33 σ).val = cond (allC (s.drop i)) (c7_6 run fu s5 x0 x1 x2 x3 x31 x32 x33 σ).val (some (.bool true, σ)) := by
  have fin : ∀ m i, i = s.length → (c7_7 run fu s5 (m + 1) x0 x1 x2 x3 (.str s) (.int .i64 i) x31 x32 x33 σ).val = cond (allC (s.drop i)) (c7_6 run fu s5 x0 x1 x2 x3 x31 x32 x33 σ).val (some (.bool true, σ)) := by
    intro m i h
    unfold c7_7 c7_7b
    rw [val_lenS, val_lt, val_ifK, show decide ((i : Int) < (s.length : Nat)) = false by simp; omega, cond_false, List.drop_eq_nil_of_le (by omega)]
    rfl
  intro m
  induction m with
  | zero => intro i h1 h2; exact fin 0 i (by omega)
  | succ m ihm =>
    intro i h1 h2
    by_cases he : i = s.length
    · exact fin _ i he
    have ih := ihm (i + 1) (by omega) (by omega)
    have hi : i < s.length := by omega
    have hd : s.drop i = s.getD i 0 :: s.drop (i + 1) := by
      rw [List.drop_eq_getElem_cons hi, List.getD_eq_getElem?_getD, List.getElem?_eq_getElem hi]; rfl
    have hA : allC (s.drop i) = (okC (s.getD i 0) && allC (s.drop (i + 1))) := by rw [hd]; rfl
    rw [hA]
    unfold c7_7 c7_7b
    rw [val_lenS, val_lt, val_ifK, show decide ((i : Int) < (s.length : Nat)) = true by simp; omega, cond_true, val_idxS _ _ _ _ (by omega) (by omega), Int.toNat_natCast, val_lt]
    by_cases h3 : ((s.getD i 0).toNat : Int) < 97
    · have hc : okC (s.getD i 0) = false := by unfold okC; rw [decide_eq_true h3]; rfl
      rw [decide_eq_true h3, hc, Bool.false_and, cond_false, val_grdT, show (true == false) = false from rfl, cond_false, val_grdT, show (true == false) = false from rfl, cond_false, val_grdT, show (true == false) = false from rfl, cond_false, val_grdT, show (true == false) = false from rfl, cond_false, val_pickK, cond_true, val_ifK, cond_true, val_ret]
    · rw [decide_eq_false h3, val_grdT, show (false == false) = true from rfl, cond_true, val_grdT, show (false == false) = true from rfl, cond_true, val_grdT, show (false == false) = true from rfl, cond_true, val_idxS _ _ _ _ (by omega) (by omega), Int.toNat_natCast, val_grdT, show (false == false) = true from rfl, cond_true, val_gt, val_pickK, cond_false, val_ifK]
      by_cases h4 : (122 : Int) < (s.getD i 0).toNat
      · have hc : okC (s.getD i 0) = false := by unfold okC; rw [decide_eq_true h4, Bool.not_true, Bool.and_false]
        rw [decide_eq_true h4, hc, Bool.false_and, cond_false, cond_true, val_ret]
      · have hc : okC (s.getD i 0) = true := by unfold okC; rw [decide_eq_false h4, decide_eq_false h3]; rfl
        rw [decide_eq_false h4, hc, Bool.true_and, cond_false, val_addK _ _ _ (by omega) (by omega)]
        rw [show ((i : Int) + 1) = ((i + 1 : Nat) : Int) by omega]
        exact ih
theorem stepO {x0 x1 x2 x3 : AV} {L : List AV} {σ : Store} {id j m : Nat} {s : List UInt8} (hg : σ.get id = some (.cells 19 L)) (hj : j < 3) (hx : L[j]? = some (.str s)) (hfu : 61 ≤ fu) :
    (c7_5 run fu (m + 1) x0 x1 x2 x3 (.slice id 0 3 3 1) (.int .i64 3) (.int .i64 j) σ).val = cond (okS s) (c7_5 run fu m x0 x1 x2 x3 (.slice id 0 3 3 1) (.int .i64 3) (.int .i64 ((j + 1 : Nat) : Int)) σ).val (some (.bool true, σ)) := by
  obtain ⟨f, rfl⟩ : ∃ f, fu = f + 1 := ⟨fu - 1, by omega⟩
  show (c7_5b run (f + 1) (c7_5 run (f + 1) m) x0 x1 x2 x3 (.slice id 0 3 3 1) (.int .i64 3) (.int .i64 j) σ).val = _
  unfold c7_5b
  rw [val_lt, val_ifK, show decide ((j : Int) < 3) = true by simp; omega, cond_true, val_elem hg hj hx, val_eqS]
  unfold okS
  by_cases h1 : s = []
  · rw [decide_eq_true h1, val_grdT, show (true == false) = false from rfl, cond_false, val_grdT, show (true == false) = false from rfl, cond_false, val_grdT, show (true == false) = false from rfl, cond_false, val_pickK, cond_true, val_ifK, cond_true, val_ret]
    rfl
  · rw [decide_eq_false h1, val_grdT, show (false == false) = true from rfl, cond_true, val_grdT, show (false == false) = true from rfl, cond_true, val_lenS, val_grdT, show (false == false) = true from rfl, cond_true, val_gt, val_pickK, cond_false, val_ifK]
    by_cases h2 : (60 : Int) < s.length
    · rw [decide_eq_true h2, cond_true, val_ret]
      rfl
    · rw [decide_eq_false h2, cond_false]
      have := loopI (run := run) (fu := f + 1) (c7_5 run (f + 1) m) x0 x1 x2 x3 (.slice id 0 3 3 1) (.int .i64 3) (.int .i64 j) s σ (by omega) f 0 (by omega) (by omega)
      rw [List.drop_zero] at this
      rw [show ((0 : Int)) = ((0 : Nat) : Int) from rfl, this]
      simp only [Bool.not_false, Bool.true_and]
      congr 1
      unfold c7_6
      rw [val_addK _ _ _ (by omega) (by omega)]
      rw [show ((j : Int) + 1) = ((j + 1 : Nat) : Int) by omega]

theorem endO {x0 x1 x2 x3 : AV} {σ : Store} {id m : Nat} :
    (c7_5 run fu (m + 1) x0 x1 x2 x3 (.slice id 0 3 3 1) (.int .i64 3) (.int .i64 ((3 : Nat) : Int)) σ).val = (c7_1 run fu x0 x1 x2 x3 σ).val := by
  unfold c7_5 c7_5b
  rw [val_lt, val_ifK, show decide (((3 : Nat) : Int) < 3) = false by decide, cond_false]
noncomputable def s1 (L : List AV) : Store := { t := .node .leaf (some (.cells 19 L)) .leaf, next := 1 }
noncomputable def s2 (L : List AV) (u : List UInt8) : Store := { t := .node (.node .leaf (some (.sb u)) .leaf) (some (.cells 19 L)) .leaf, next := 2 }
theorem s1_new (L : List AV) : (lf 0).new (.cells 19 L) = s1 L := by
  show Store.mk (PT.ins 64 .leaf 0 _) 1 = _
  rw [PT.ins_leaf (f := 63)]; rfl
theorem s1_get (L : List AV) : (s1 L).get 0 = some (.cells 19 L) := by
  show PT.get (.node .leaf _ .leaf) 0 = _
  rw [PT.get_node]; rfl
theorem s2_new (L : List AV) (u : List UInt8) : (s1 L).new (.sb u) = s2 L u := by
  show Store.mk (PT.ins 64 (.node .leaf _ .leaf) 1 _) 2 = _
  rw [PT.ins_node (f := 63)]
  show Store.mk (.node (PT.ins 63 .leaf 0 _) _ _) 2 = _
  rw [PT.ins_leaf (f := 62)]; rfl
theorem s2_get (L : List AV) (u : List UInt8) : (s2 L u).get 1 = some (.sb u) := by
  show PT.get (.node _ _ _) 1 = _
  rw [PT.get_node]
  show PT.get (.node _ _ _) 0 = _
  rw [PT.get_node]; rfl
theorem s2_upd (L : List AV) (u v : List UInt8) : (s2 L u).upd 1 (.sb v) = s2 L v := by
  show Store.mk (PT.upd (.node _ _ _) 1 _) 2 = _
  rw [PT.upd_node]
  show Store.mk (.node (PT.upd (.node _ _ _) 0 _) _ _) 2 = _
  rw [PT.upd_node]; rfl
noncomputable def upC (c : UInt8) : UInt8 := (c.toNat - 32).toUInt8
theorem val_sub8 {β : Type} (a b : Int) (f : AV → Tr β) (h1 : 0 ≤ a - b) (h2 : a - b ≤ 255) : (subK (.int .u8 a) (.int .u8 b) f).val = (f (.int .u8 (a - b))).val := by
  have h : inK .u8 (a - b) = true := by simp [inK, leI_eq]; omega
  simp only [subK, symK, symInt, subK0, asIntK, kindB_self, cond_true, fitK, val_ask, h]
theorem okC_iff {c : UInt8} (h : okC c = true) : 97 ≤ c.toNat ∧ c.toNat ≤ 122 := by
  unfold okC at h
  simp only [Bool.and_eq_true, Bool.not_eq_true', decide_eq_false_iff_not] at h
  omega
theorem val_idx8 {β : Type} {id n : Nat} {j : Nat} (hj : j < n) (f : AV → Tr β) : (idxK 1 (.slice id 0 n n 1) (.int .i64 j) f).val = (f (.ptr id j)).val := by
  unfold idxK
  simp only [idxV]
  rw [val_mustT _ (by simp [leI_eq, ltI_eq]; exact hj)]
  simp only [Int.toNat_natCast, Nat.zero_add, Nat.mul_one]
theorem val_ld8 {β : Type} {L : List AV} {u : List UInt8} {j : Nat} {c : UInt8} (h : u[j]? = some c) (f : AV → Tr β) : (ld1K (s2 L u) (.ptr 1 j) f).val = (f (.int .u8 c.toNat)).val := by
  have hn : nthA (u.map fun b => AV.int .u8 b.toNat) j = some (.int .u8 c.toNat) := by rw [nthA_eq, List.getElem?_map, h]; rfl
  simp only [ld1K, ld1A, cellsAt, s2_get, hn, opt]
theorem val_st8 {β : Type} {L : List AV} {u : List UInt8} {j k : Nat} (hj : j < u.length) (hk : k < 256) (f : AV → Store → Tr β) : (st1K (s2 L u) (.ptr 1 j) (.int .u8 (.ofNat k)) f).val = (f .any (s2 L (u.set j k.toUInt8))).val := by
  have hc : (Nat.blt k 256 && Nat.ble (j + 1) u.length) = true := by simp [Nat.blt_eq, Nat.ble_eq]; omega
  simp only [st1K, put1, s2_get, put1B, putSb, hc, cond_true, s2_upd]
theorem loopU {x0 x1 x2 : AV} {L : List AV} {n : Nat} (hn : n ≤ 1000) : ∀ (m : Nat) (p r : List UInt8), r.length ≤ m → (∀ c ∈ r, okC c = true) → p.length + r.length = n →
    (c7_4 run fu (m + 1) x0 x1 x2 (.slice 1 0 n n 1) (.int .i64 n) (.int .i64 p.length) (s2 L (p ++ r))).val = (c7_3 run fu x0 x1 x2 (.slice 1 0 n n 1) (s2 L (p ++ r.map upC))).val := by
  intro m
  induction m with
  | zero =>
    intro p r h1 h2 h3
    have : r = [] := List.eq_nil_of_length_eq_zero (by omega)
    subst this
    unfold c7_4 c7_4b
    rw [val_lt, val_ifK, show decide ((p.length : Int) < (n : Nat)) = false by simp at h3 ⊢; omega, cond_false]
    rfl
  | succ m ih =>
    intro p r h1 h2 h3
    cases r with
    | nil =>
      unfold c7_4 c7_4b
      rw [val_lt, val_ifK, show decide ((p.length : Int) < (n : Nat)) = false by simp at h3 ⊢; omega, cond_false]
      rfl
    | cons c r =>
      simp only [List.length_cons] at h1 h3
      obtain ⟨o1, o2⟩ := okC_iff (h2 c (List.mem_cons_self ..))
      have hg : (p ++ c :: r)[p.length]? = some c := by simp
      have hs : (p ++ c :: r).set p.length (upC c) = (p ++ [upC c]) ++ r := by simp
      unfold c7_4 c7_4b
      rw [val_lt, val_ifK, show decide ((p.length : Int) < (n : Nat)) = true by simp; omega, cond_true, val_idx8 (by omega), val_ld8 hg, val_sub8 _ _ _ (by omega) (by omega), val_idx8 (by omega)]
      rw [show ((c.toNat : Int) - 32) = Int.ofNat (c.toNat - 32) by simp; omega, val_st8 (by simp) (by omega), val_addK _ _ _ (by omega) (by omega)]
      rw [show ((c.toNat - 32).toUInt8) = upC c from rfl, hs]
      have := ih (p ++ [upC c]) r (by omega) (fun d hd => h2 d (List.mem_cons_of_mem _ hd)) (by simp; omega)
      rw [List.length_append, List.length_singleton] at this
      rw [show ((p.length : Int) + 1) = ((p.length + 1 : Nat) : Int) by omega, this]
      simp
theorem bytesOf_map : ∀ u : List UInt8, convertA.bytesOf (u.map fun b => AV.int .u8 b.toNat) = some u
  | [] => rfl
  | b :: u => by
    have h := bytesOf_map u
    show (match convertA.bytesOf (u.map fun b => AV.int .u8 b.toNat) with | some m => some ((b.toNat : Int).toNat.toUInt8 :: m) | none => none) = _
    rw [h]
    simp
theorem val_b2s {β : Type} {L : List AV} {u : List UInt8} (f : AV → Tr β) : (b2sK (s2 L u) (.slice 1 0 u.length u.length 1) f).val = (f (.str u)).val := by
  have hb : (Nat.beq 1 1 && Nat.ble (0 + u.length * 1) u.length) = true := by simp
  have ht : ((u.map fun b => AV.int .u8 b.toNat).drop 0).take (u.length * 1) = u.map fun b => AV.int .u8 b.toNat := by
    rw [List.drop_zero, List.take_of_length_le (by simp)]
  simp only [b2sK, sourceA, s2_get, hb, cond_true, ht, bytesOf_map, opt]
theorem val_cat {β : Type} (a b : List UInt8) (h : a.length + b.length ≤ 4611686018427387904) (f : AV → Tr β) : (catK (.str a) (.str b) f).val = (f (.str (a ++ b))).val := by
  simp only [catK, symK, symStr, catK0, asStrK]
  exact val_mustT _ (by simpa [Nat.ble_eq] using h)
noncomputable def optP : AV := .agg [.bool false, .bool false, .bool false, .bool false, .bool false, .bool false, .bool false, .bool false, .bool false, .bool false]
noncomputable def txt (o l a b : List UInt8) : List UInt8 := [91] ++ o ++ [93, 10, 10, 91] ++ l ++ [93, 58, 32, 47] ++ a ++ [10, 91] ++ o ++ [93, 58, 32, 47] ++ b ++ [10]
noncomputable def htm (o a : List UInt8) : List UInt8 := [60, 112, 62, 60, 97, 32, 104, 114, 101, 102, 61, 34, 47] ++ a ++ [34, 62] ++ o ++ [60, 47, 97, 62, 60, 47, 112, 62, 10]
theorem fin7 {o l a b : List UInt8} {σ σ1 σ' : Store} (ho : o.length ≤ 1000) (hl : l.length ≤ 1000) (ha : a.length ≤ 1000) (hb : b.length ≤ 1000) (h20 : (run 20 [] σ).val = some (optP, σ1)) (h25 : (run 25 [optP, .str (txt o l a b)] σ1).val = some (.str (htm o a), σ')) :
    (c7_2 run fu (.str l) (.str a) (.str b) (.str o) σ).val = some (.bool true, σ') := by
  unfold c7_2
  rw [val_cal h20, val_cat _ _ (by simp; omega), val_cat _ _ (by simp; omega), val_cat _ _ (by simp; omega), val_cat _ _ (by simp; omega), val_cat _ _ (by simp; omega), val_cat _ _ (by simp; omega), val_cat _ _ (by simp; omega), val_cat _ _ (by simp; omega), val_cat _ _ (by simp; omega), val_cat _ _ (by simp; omega)]
  rw [show ([91] ++ o ++ [93, 10, 10, 91] ++ l ++ [93, 58, 32, 47] ++ a ++ [10, 91] ++ o ++ [93, 58, 32, 47] ++ b ++ [10] : List UInt8) = txt o l a b from rfl, val_cal h25, val_cat _ _ (by simp; omega), val_cat _ _ (by simp; omega), val_cat _ _ (by simp; omega), val_cat _ _ (by simp; omega)]
  rw [show ([60, 112, 62, 60, 97, 32, 104, 114, 101, 102, 61, 34, 47] ++ a ++ [34, 62] ++ o ++ [60, 47, 97, 62, 60, 47, 112, 62, 10] : List UInt8) = htm o a from rfl, val_eqS, val_ret]
  simp
noncomputable def big (s : List UInt8) : Bool := decide ((2147483647 : Int) < s.length)
theorem c7_val {l a b : List UInt8} {x3 : AV} : (c7 run fu (.str l) (.str a) (.str b) x3 (lf 0)).val = cond (big l || big a || big b) (some (.bool true, lf 0)) (c7_5 run fu fu (.str l) (.str a) (.str b) x3 (.slice 0 0 3 3 1) (.int .i64 3) (.int .i64 ((0 : Nat) : Int)) (s1 [.str l, .str a, .str b])).val := by
  have hf : fillK [(.str []), (.str []), (.str [])] [(0, 1, .str l), (1, 1, .str a), (2, 1, .str b)] = some [.str l, .str a, .str b] := rfl
  unfold c7 big
  rw [val_lenS, val_gt]
  by_cases h1 : (2147483647 : Int) < l.length
  · rw [decide_eq_true h1, val_grdT, show (true == false) = false from rfl, cond_false, val_grdT, show (true == false) = false from rfl, cond_false, val_grdT, show (true == false) = false from rfl, cond_false, val_pickK, cond_true, val_grdT, show (true == false) = false from rfl, cond_false, val_grdT, show (true == false) = false from rfl, cond_false, val_grdT, show (true == false) = false from rfl, cond_false, val_pickK, cond_true, val_ifK, cond_true, val_ret]
    rfl
  · rw [decide_eq_false h1, val_grdT, show (false == false) = true from rfl, cond_true, val_grdT, show (false == false) = true from rfl, cond_true, val_lenS, val_grdT, show (false == false) = true from rfl, cond_true, val_gt, val_pickK, cond_false]
    by_cases h2 : (2147483647 : Int) < a.length
    · rw [decide_eq_true h2, val_grdT, show (true == false) = false from rfl, cond_false, val_grdT, show (true == false) = false from rfl, cond_false, val_grdT, show (true == false) = false from rfl, cond_false, val_pickK, cond_true, val_ifK, cond_true, val_ret]
      rfl
    · rw [decide_eq_false h2, val_grdT, show (false == false) = true from rfl, cond_true, val_grdT, show (false == false) = true from rfl, cond_true, val_lenS, val_grdT, show (false == false) = true from rfl, cond_true, val_gt, val_pickK, cond_false, val_ifK]
      by_cases h3 : (2147483647 : Int) < b.length
      · rw [decide_eq_true h3, cond_true, val_ret]; rfl
      · rw [decide_eq_false h3, cond_false, hf]
        simp only [opt, newSK, s1_new, show (lf 0).next = 0 from rfl, s1_get, Bool.or_self, cond_false]
        rw [val_lenL]
        rfl
theorem at7 {l a b : List UInt8} {x3 : AV} (h : (okS l && okS a && okS b) = true) : (c7 run 100 (.str l) (.str a) (.str b) x3 (lf 0)).val = (c7_1 run 100 (.str l) (.str a) (.str b) x3 (s1 [.str l, .str a, .str b])).val := by
  simp only [Bool.and_eq_true] at h
  obtain ⟨⟨h1, h2⟩, h3⟩ := h
  have sm : ∀ {s : List UInt8}, okS s = true → big s = false := by
    intro s hs
    simp only [okS, Bool.and_eq_true, Bool.not_eq_true', decide_eq_false_iff_not] at hs
    unfold big
    exact decide_eq_false (by omega)
  rw [c7_val, sm h1, sm h2, sm h3, Bool.or_self, Bool.or_self, cond_false]
  rw [stepO (m := 99) (s1_get _) (by decide) (s := l) rfl (by decide), h1, cond_true, stepO (m := 98) (s1_get _) (by decide) (s := a) rfl (by decide), h2, cond_true, stepO (m := 97) (s1_get _) (by decide) (s := b) rfl (by decide), h3, cond_true]
  exact endO (m := 96)
theorem out7 {l a b : List UInt8} {x3 : AV} (h : ¬ ((okS l && okS a && okS b) = true)) : ∃ σ', (c7 run 100 (.str l) (.str a) (.str b) x3 (lf 0)).val = some (.bool true, σ') := by
  rw [c7_val]
  cases hb : big l || big a || big b with
  | true => exact ⟨_, rfl⟩
  | false =>
    rw [cond_false, stepO (m := 99) (s1_get _) (by decide) (s := l) rfl (by decide)]
    cases h1 : okS l with
    | false => exact ⟨_, rfl⟩
    | true =>
      rw [cond_true, stepO (m := 98) (s1_get _) (by decide) (s := a) rfl (by decide)]
      cases h2 : okS a with
      | false => exact ⟨_, rfl⟩
      | true =>
        rw [cond_true, stepO (m := 97) (s1_get _) (by decide) (s := b) rfl (by decide)]
        cases h3 : okS b with
        | false => exact ⟨_, rfl⟩
        | true => exact (h (by rw [h1, h2, h3]; rfl)).elim
end
end Go.Proofs.YtpefmbpjanafkaaGreatDoor
