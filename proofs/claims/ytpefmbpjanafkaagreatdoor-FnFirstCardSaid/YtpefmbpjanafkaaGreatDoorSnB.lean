/- The abstract machine: what an abstract value, store and frame say of a real one; how this lasts. -/
import Derived.Test.YtpefmbpjanafkaaGreatDoorSnA
import Derived.Lib.Index
import Derived.Laws.StructEq
set_option linter.unusedVariables false
set_option linter.unusedSimpArgs false
namespace Go.AM

theorem u8Beq_eq {a b : UInt8} (h : u8Beq a b = true) : a = b := UInt8.toNat_inj.1 (Nat.eq_of_beq_eq_true h)
theorem bytesBeq_eq : ∀ {a b : List UInt8}, bytesBeq a b = true → a = b
  | [], [], _ => rfl
  | a :: l, b :: m, h => by
    simp only [bytesBeq, Bool.and_eq_true] at h
    rw [u8Beq_eq h.1, bytesBeq_eq h.2]
theorem segsBeq_eq : ∀ {a b : List Seg}, segsBeq a b = true → a = b
  | [], [], _ => rfl
  | .b c :: l, .b d :: m, h => by
    simp only [segsBeq, Bool.and_eq_true] at h
    rw [u8Beq_eq h.1, segsBeq_eq h.2]
  | .w k c lo hi :: l, .w k' c' lo' hi' :: m, h => by
    simp only [segsBeq, Bool.and_eq_true] at h
    obtain ⟨⟨⟨⟨h1, h2⟩, h3⟩, h4⟩, h5⟩ := h
    rw [Nat.eq_of_beq_eq_true h1, Nat.eq_of_beq_eq_true h2, Nat.eq_of_beq_eq_true h3, bytesBeq_eq h4, segsBeq_eq h5]
theorem intBeq_eq : ∀ {a b : Int}, intBeq a b = true → a = b
  | .ofNat m, .ofNat n, h => by rw [Nat.eq_of_beq_eq_true h]
  | .negSucc m, .negSucc n, h => by rw [Nat.eq_of_beq_eq_true h]
theorem tmsBeq_eq : ∀ {a b : List Tm}, tmsBeq a b = true → a = b
  | [], [], _ => rfl
  | a :: l, b :: m, h => by
    simp only [tmsBeq, Bool.and_eq_true] at h
    obtain ⟨⟨⟨⟨h1, h2⟩, h3⟩, h4⟩, h5⟩ := h
    obtain ⟨k, co, lo, hi⟩ := a
    obtain ⟨k', co', lo', hi'⟩ := b
    simp only at h1 h2 h3 h4
    rw [Nat.eq_of_beq_eq_true h1, intBeq_eq h2, Nat.eq_of_beq_eq_true h3, Nat.eq_of_beq_eq_true h4, tmsBeq_eq h5]

namespace PT
variable {α : Type}
theorem get_upd_ne (t : PT α) : ∀ (n m : Nat) (x : Option α), m ≠ n → (t.upd n x).get m = t.get m := by
  induction t with
  | leaf => intros; simp only [upd_leaf, get_leaf]
  | node l v r ihl ihr =>
    intro n m x h
    simp only [upd_leaf, upd_node, get_leaf, get_node, cond_eq_ite, Nat.beq_eq]
    by_cases hn : n = 0
    · subst hn; simp [get_leaf, get_node, cond_eq_ite, Nat.beq_eq, h]
    · by_cases hn2 : n % 2 = 1
      · simp only [hn, hn2, if_true, if_false, get_leaf, get_node, cond_eq_ite, Nat.beq_eq]
        by_cases hm : m = 0
        · simp [hm]
        · by_cases hm2 : m % 2 = 1
          · simp only [hm, hm2, if_true, if_false]; exact ihl _ _ _ (by omega)
          · simp [hm, hm2]
      · simp only [hn, hn2, if_false, get_leaf, get_node, cond_eq_ite, Nat.beq_eq]
        by_cases hm : m = 0
        · simp [hm]
        · by_cases hm2 : m % 2 = 1
          · simp [hm, hm2]
          · simp only [hm, hm2, if_false]; exact ihr _ _ _ (by omega)
theorem get_upd (t : PT α) : ∀ (n : Nat) (x : Option α) (y : α), t.get n = some y → (t.upd n x).get n = x := by
  induction t with
  | leaf => intro n x y h; rw [get_leaf] at h; cases h
  | node l v r ihl ihr =>
    intro n x y h
    simp only [get_leaf, get_node, cond_eq_ite, Nat.beq_eq] at h
    simp only [upd_leaf, upd_node, cond_eq_ite, Nat.beq_eq]
    by_cases hn : n = 0
    · subst hn; simp [get_leaf, get_node]
    · by_cases hn2 : n % 2 = 1
      · simp only [hn, hn2, if_true, if_false, get_leaf, get_node, cond_eq_ite, Nat.beq_eq] at h ⊢; exact ihl _ _ _ h
      · simp only [hn, hn2, if_false, get_leaf, get_node, cond_eq_ite, Nat.beq_eq] at h ⊢; exact ihr _ _ _ h
theorem get_upd_none (t : PT α) : ∀ (n : Nat), (t.upd n none).get n = none := by
  induction t with
  | leaf => intro n; simp only [upd_leaf, get_leaf]
  | node l v r ihl ihr =>
    intro n
    simp only [upd_leaf, upd_node, cond_eq_ite, Nat.beq_eq]
    by_cases hn : n = 0
    · subst hn; simp [get_leaf, get_node]
    · by_cases hn2 : n % 2 = 1
      · simp only [hn, hn2, if_true, if_false, get_leaf, get_node, cond_eq_ite, Nat.beq_eq]; exact ihl _
      · simp only [hn, hn2, if_false, get_leaf, get_node, cond_eq_ite, Nat.beq_eq]; exact ihr _
theorem get_ins_ne : ∀ (f : Nat) (t : PT α) (n m : Nat) (x : α), m ≠ n → (ins f t n x).get m = t.get m := by
  intro f
  induction f with
  | zero => intros; rw [ins_zero]
  | succ f ih =>
    intro t n m x h
    cases t with
    | leaf =>
      simp only [ins_leaf, ins_node, cond_eq_ite, Nat.beq_eq]
      by_cases hn : n = 0
      · subst hn; simp [get_leaf, get_node, cond_eq_ite, Nat.beq_eq, h]
      · by_cases hn2 : n % 2 = 1
        · simp only [hn, hn2, if_true, if_false, get_leaf, get_node, cond_eq_ite, Nat.beq_eq]
          by_cases hm : m = 0
          · simp [hm]
          · by_cases hm2 : m % 2 = 1
            · simp only [hm, hm2, if_true, if_false]; rw [ih _ _ _ _ (by omega)]; simp only [get_leaf]
            · simp [hm, hm2]
        · simp only [hn, hn2, if_false, get_leaf, get_node, cond_eq_ite, Nat.beq_eq]
          by_cases hm : m = 0
          · simp [hm]
          · by_cases hm2 : m % 2 = 1
            · simp [hm, hm2]
            · simp only [hm, hm2, if_false]; rw [ih _ _ _ _ (by omega)]; simp only [get_leaf]
    | node l v r =>
      simp only [ins_leaf, ins_node, cond_eq_ite, Nat.beq_eq]
      by_cases hn : n = 0
      · subst hn; simp [get_leaf, get_node, cond_eq_ite, Nat.beq_eq, h]
      · by_cases hn2 : n % 2 = 1
        · simp only [hn, hn2, if_true, if_false, get_leaf, get_node, cond_eq_ite, Nat.beq_eq]
          by_cases hm : m = 0
          · simp [hm]
          · by_cases hm2 : m % 2 = 1
            · simp only [hm, hm2, if_true, if_false]; exact ih _ _ _ _ (by omega)
            · simp [hm, hm2]
        · simp only [hn, hn2, if_false, get_leaf, get_node, cond_eq_ite, Nat.beq_eq]
          by_cases hm : m = 0
          · simp [hm]
          · by_cases hm2 : m % 2 = 1
            · simp [hm, hm2]
            · simp only [hm, hm2, if_false]; exact ih _ _ _ _ (by omega)
theorem get_ins : ∀ (f : Nat) (t : PT α) (n : Nat) (x y : α), t.get n = none → (ins f t n x).get n = some y → y = x := by
  intro f
  induction f with
  | zero => intro t n x y h h'; rw [ins_zero, h] at h'; cases h'
  | succ f ih =>
    intro t n x y h h'
    cases t with
    | leaf =>
      simp only [ins_leaf, ins_node, cond_eq_ite, Nat.beq_eq] at h'
      by_cases hn : n = 0
      · subst hn; simp [get_leaf, get_node] at h'; exact h'.symm
      · by_cases hn2 : n % 2 = 1
        · simp only [hn, hn2, if_true, if_false, get_leaf, get_node, cond_eq_ite, Nat.beq_eq] at h'; exact ih _ _ _ _ get_leaf h'
        · simp only [hn, hn2, if_false, get_leaf, get_node, cond_eq_ite, Nat.beq_eq] at h'; exact ih _ _ _ _ get_leaf h'
    | node l v r =>
      simp only [ins_leaf, ins_node, cond_eq_ite, Nat.beq_eq] at h'
      simp only [get_leaf, get_node, cond_eq_ite, Nat.beq_eq] at h
      by_cases hn : n = 0
      · subst hn; simp [get_leaf, get_node] at h'; exact h'.symm
      · by_cases hn2 : n % 2 = 1
        · simp only [hn, hn2, if_true, if_false, get_leaf, get_node, cond_eq_ite, Nat.beq_eq] at h h'; exact ih _ _ _ _ h h'
        · simp only [hn, hn2, if_false, get_leaf, get_node, cond_eq_ite, Nat.beq_eq] at h h'; exact ih _ _ _ _ h h'
end PT

namespace Tr
variable {α β : Type}
theorem sat_bind (t : Tr α) (f : α → Tr β) (Q : β → Prop) : (t.bind f).sat Q = t.sat fun a => (f a).sat Q := by
  induction t with
  | ret a => rfl
  | ask b k ih => exact ih b
  | fail => rfl
theorem sat_mono {t : Tr α} {Q Q' : α → Prop} (h : ∀ a, Q a → Q' a) (hs : t.sat Q) : t.sat Q' := by
  induction t with
  | ret a => exact h _ hs
  | ask b k ih => exact ih b hs
  | fail => exact hs
theorem sat_of_val {t : Tr α} {a : α} {Q : α → Prop} (h : t.val = some a) (hq : Q a) : t.sat Q := by
  induction t with
  | ret b => cases h; exact hq
  | ask b k ih => exact ih b h
  | fail => cases h
theorem val_of_path {t : Tr α} : ∀ {ds : List (Option Bool)} {o : List (Bool × Bool)} {a : α}, t.path ds = some (o, a) → (∀ p ∈ o, p.1 = p.2) → t.val = some a := by
  induction t with
  | ret b => intro ds o a h _; simp only [path, Option.some.injEq, Prod.mk.injEq] at h; simp [val, h.2]
  | ask b k ih =>
    intro ds o a h ho
    cases ds with
    | nil => cases h
    | cons d ds =>
      cases d with
      | none => exact ih b h ho
      | some d =>
        simp only [path, Option.map_eq_some_iff] at h
        obtain ⟨⟨o', a'⟩, h1, h2⟩ := h
        simp only [Prod.mk.injEq] at h2
        obtain ⟨rfl, rfl⟩ := h2
        have hb : b = d := ho (b, d) (List.mem_cons_self ..)
        show (k b).val = some a'
        rw [hb]
        exact ih d h1 fun p hp => ho p (List.mem_cons_of_mem _ hp)
  | fail => intro ds o a h _; cases ds <;> simp [path] at h
theorem sat_must {b : Bool} {t : Tr α} {Q : α → Prop} (h : (must b t).sat Q) : b = true ∧ t.sat Q := by
  cases b with
  | true => exact ⟨rfl, h⟩
  | false => exact h.elim
theorem sat_opt {o : Option α} {f : α → Tr β} {Q : β → Prop} (h : (opt o f).sat Q) : ∃ a, o = some a ∧ (f a).sat Q := by
  cases o with
  | none => exact h.elim
  | some a => exact ⟨a, rfl, h⟩
end Tr

theorem Sem.run_calm {α : Type} {P : Program} (w : World) : ∀ {s : Sem α} {a : α}, s.calm P = some a → s.run P w = .ok a w := by
  intro s
  induction s with
  | pure b => intro a h; cases h; rfl
  | program k ih => intro a h; exact ih P h
  | mark m k ih => intro a h; exact ih h
  | _ => intro a h; cases h

/-- Words below a number alone. -/
noncomputable def ltSegs (n : Nat) : List Seg → Bool
  | [] => true
  | .b _ :: l => ltSegs n l
  | .w k _ _ _ :: l => Nat.blt k n && ltSegs n l
noncomputable def ltTs (n : Nat) : List Tm → Bool
  | [] => true
  | t :: l => Nat.blt t.k n && ltTs n l
mutual
/-- All words stand below a number. -/
noncomputable def ltW (n : Nat) : AV → Bool
  | .sstr l => ltSegs n l
  | .lin _ ts | .bsl _ _ ts | .rptr _ _ ts => ltTs n ts
  | .rsl _ _ os _ ts => ltTs n os && ltTs n ts
  | .ref cs _ | .rslice cs _ _ | .agg cs | .tup cs => ltWs n cs
  | .fn _ a b => ltWs n a && ltWs n b
  | .iface _ v => ltW n v
  | _ => true
noncomputable def ltWs (n : Nat) : List AV → Bool
  | [] => true
  | a :: l => ltW n a && ltWs n l
end
/-- What is known of the real memory: which block (and of how many cells) an abstract one is; which blocks never change; what the words are. -/
structure Ghost where
  π : Nat → Option (Nat × Nat)
  I : Nat → Option (List AV)
  next : Nat
  bv : Nat → List UInt8
  bok : ∀ B c, c ∈ bv B → c ∈ clsT (B % 16)
  iok : ∀ b cs, I b = some cs → ltWs 0 cs = true
  rv : Nat → Option (List Value)
/-- The words: images of the bases. -/
noncomputable def Ghost.sv (g : Ghost) (k : Nat) : List UInt8 := (g.bv (k / 16)).flatMap (mapB (k % 16))

/-- A text as it is. -/
noncomputable def den (sv : Nat → List UInt8) : List Seg → List UInt8
  | [] => []
  | .b c :: l => c :: den sv l
  | .w k _ _ _ :: l => sv k ++ den sv l
/-- What is told of a text's words is so. -/
noncomputable def SegsOK (sv : Nat → List UInt8) : List Seg → Prop
  | [] => True
  | .b _ :: l => SegsOK sv l
  | .w k cls lo hi :: l => (lo ≤ (sv k).length ∧ (sv k).length ≤ hi ∧ ∀ c ∈ sv k, c ∈ cls) ∧ SegsOK sv l
noncomputable def TsOK (sv : Nat → List UInt8) : List Tm → Prop
  | [] => True
  | t :: l => (t.lo ≤ (sv t.k).length ∧ (sv t.k).length ≤ t.hi) ∧ TsOK sv l
noncomputable def tval (sv : Nat → List UInt8) : List Tm → Int
  | [] => 0
  | t :: l => t.co * (sv t.k).length + tval sv l

mutual
inductive VR (g : Ghost) : AV → Value → Prop
  | sstr (l : List Seg) (h : SegsOK g.sv l) : VR g (.sstr l) (.string ⟨(den g.sv l).toArray⟩)
  | lin (c : Int) (ts : List Tm) (h : TsOK g.sv ts) : VR g (.lin c ts) (.int .i64 (c + tval g.sv ts))
  | cls (l : List UInt8) (b : UInt8) (h : b ∈ l) : VR g (.cls l) (.int .u8 b.toNat)
  | rn (k : IntKind) (l : List UInt8) (b : UInt8) (h : b ∈ l) : VR g (.rn k l) (.int k b.toNat)
  | num (k : IntKind) (n : Int) : VR g (.num k) (.int k n)
  | bsl (id : Nat) (cc : Int) (ts : List Tm) (a : Addr) (len c : Nat) (hT : TsOK g.sv ts) (h0 : (len : Int) = cc + tval g.sv ts) (h1 : id < g.next) (h2 : ∀ b n, g.π id = some (b, n) → a = ⟨b, 0, none⟩ ∧ c = n) (h3 : c ≤ 9223372036854775807) : VR g (.bsl id cc ts) (.slice (some a) len c)
  | ub (b : Bool) : VR g .ub (.bool b)
  | npN (id off : Nat) (h1 : id < g.next) : VR g (.np id off) (.pointer none)
  | npP (id off : Nat) (a : Addr) (h1 : id < g.next) (h2 : ∀ b n, g.π id = some (b, n) → a = ⟨b, off, none⟩) : VR g (.np id off) (.pointer (some a))
  | rsl (id : Nat) (o : Int) (os : List Tm) (cc : Int) (ts : List Tm) (a : Addr) (off len c : Nat) (hO : TsOK g.sv os) (hT : TsOK g.sv ts) (ho : (off : Int) = o + tval g.sv os) (h0 : (len : Int) = cc + tval g.sv ts) (hlc : len ≤ c) (h1 : id < g.next) (h2 : ∀ b n, g.π id = some (b, n) → a = ⟨b, off, none⟩ ∧ off + c = n) (h3 : c ≤ 9223372036854775807) : VR g (.rsl id o os cc ts) (.slice (some a) len c)
  | rptr (id : Nat) (cc : Int) (ts : List Tm) (a : Addr) (off : Nat) (hT : TsOK g.sv ts) (h0 : (off : Int) = cc + tval g.sv ts) (h1 : id < g.next) (h2 : ∀ b n, g.π id = some (b, n) → a = ⟨b, off, none⟩) : VR g (.rptr id cc ts) (.pointer (some a))
  | any (v : Value) : VR g .any v
  | bool (b : Bool) : VR g (.bool b) (.bool b)
  | int (k : IntKind) (n : Int) : VR g (.int k n) (.int k n)
  | str (s : List UInt8) : VR g (.str s) (.string ⟨s.toArray⟩)
  | nilp : VR g .nilp (.pointer none)
  | ptr (id off : Nat) (a : Addr) (h1 : id < g.next) (h2 : ∀ b n, g.π id = some (b, n) → a = ⟨b, off, none⟩) : VR g (.ptr id off) (.pointer (some a))
  | ref (cs : List AV) (off b : Nat) (h : g.I b = some cs) : VR g (.ref cs off) (.pointer (some ⟨b, off, none⟩))
  | nils : VR g .nils (.slice none 0 0)
  | slice (id off len cap z : Nat) (a : Addr) (c : Nat) (h1 : id < g.next) (h2 : ∀ b n, g.π id = some (b, n) → a = ⟨b, off, none⟩ ∧ off + c * z = n ∧ cap ≤ c) (h3 : c ≤ 9223372036854775807) : VR g (.slice id off len cap z) (.slice (some a) len c)
  | eslice (a : Option Addr) (c : Nat) : VR g .eslice (.slice a 0 c)
  | rslice (cs : List AV) (off len b c : Nat) (h : g.I b = some cs) (hc : len ≤ c) : VR g (.rslice cs off len) (.slice (some ⟨b, off, none⟩) len c)
  | nilm : VR g .nilm (.map none)
  | amap (id r : Nat) (h1 : id < g.next) (h2 : ∀ b n, g.π id = some (b, n) → r = b) : VR g (.amap id) (.map (some r))
  | nilf : VR g .nilf .nilFunc
  | fn (f : Fn) {a b : List AV} {a' b' : List Value} (ha : VRs g a a') (hb : VRs g b b') : VR g (.fn f a b) (.func f ⟨a'⟩ ⟨b'⟩)
  | nili : VR g .nili .nilIface
  | iface (t : TypeId) {v : AV} {v' : Value} (h : VR g v v') : VR g (.iface t v) (.iface t v')
  | agg {cs : List AV} {cs' : List Value} (h : VRs g cs cs') : VR g (.agg cs) (.agg ⟨cs'⟩)
  | tup {cs : List AV} {cs' : List Value} (h : VRs g cs cs') : VR g (.tup cs) (.tuple ⟨cs'⟩)
inductive VRs (g : Ghost) : List AV → List Value → Prop
  | nil : VRs g [] []
  | cons {a : AV} {v : Value} {l : List AV} {m : List Value} (h : VR g a v) (hs : VRs g l m) : VRs g (a :: l) (v :: m)
end

/-- What is known lasts. -/
structure Ghost.le (g g' : Ghost) : Prop where
  next : g.next ≤ g'.next
  bv : g'.bv = g.bv
  π : ∀ id x, id < g.next → g'.π id = some x → g.π id = some x
  I : ∀ b cs, g.I b = some cs → g'.I b = some cs
  rv : ∀ k m, g.rv k = some m → g'.rv k = some m
theorem Ghost.le.sv {g g' : Ghost} (h : g.le g') : g'.sv = g.sv := by unfold Ghost.sv; rw [h.bv]
theorem Ghost.le.refl (g : Ghost) : g.le g := ⟨Nat.le_refl _, rfl, fun _ _ _ h => h, fun _ _ h => h, fun _ _ h => h⟩
theorem Ghost.le.trans {g g' g'' : Ghost} (h : g.le g') (k : g'.le g'') : g.le g'' :=
  ⟨Nat.le_trans h.next k.next, k.bv.trans h.bv, fun id x hi hx => h.π id x hi (k.π id x (Nat.lt_of_lt_of_le hi h.next) hx), fun b cs hb => k.I b cs (h.I b cs hb), fun i m hm => k.rv i m (h.rv i m hm)⟩

mutual
theorem VR.mono {g g' : Ghost} (hg : g.le g') : ∀ {a : AV} {v : Value}, VR g a v → VR g' a v
  | _, _, .sstr l h => by rw [← hg.sv]; exact .sstr l (by rw [hg.sv]; exact h)
  | _, _, .lin c ts h => by rw [← hg.sv]; exact .lin c ts (by rw [hg.sv]; exact h)
  | _, _, .cls l b h => .cls l b h
  | _, _, .rn k l b h => .rn k l b h
  | _, _, .num k n => .num k n
  | _, _, .bsl id cc ts a len c hT h0 h1 h2 h3 => .bsl id cc ts a len c (by rw [hg.sv]; exact hT) (by rw [hg.sv]; exact h0) (Nat.lt_of_lt_of_le h1 hg.next) (fun b n h => h2 b n (hg.π id _ h1 h)) h3
  | _, _, .ub b => .ub b
  | _, _, .npN id off h1 => .npN id off (Nat.lt_of_lt_of_le h1 hg.next)
  | _, _, .npP id off a h1 h2 => .npP id off a (Nat.lt_of_lt_of_le h1 hg.next) fun b n h => h2 b n (hg.π id _ h1 h)
  | _, _, .rsl id o os cc ts a off len c hO hT ho h0 hlc h1 h2 h3 => .rsl id o os cc ts a off len c (by rw [hg.sv]; exact hO) (by rw [hg.sv]; exact hT) (by rw [hg.sv]; exact ho) (by rw [hg.sv]; exact h0) hlc (Nat.lt_of_lt_of_le h1 hg.next) (fun b n h => h2 b n (hg.π id _ h1 h)) h3
  | _, _, .rptr id cc ts a off hT h0 h1 h2 => .rptr id cc ts a off (by rw [hg.sv]; exact hT) (by rw [hg.sv]; exact h0) (Nat.lt_of_lt_of_le h1 hg.next) (fun b n h => h2 b n (hg.π id _ h1 h))
  | _, _, .any v => .any v
  | _, _, .bool b => .bool b
  | _, _, .int k n => .int k n
  | _, _, .str s => .str s
  | _, _, .nilp => .nilp
  | _, _, .ptr id off a h1 h2 => .ptr id off a (Nat.lt_of_lt_of_le h1 hg.next) fun b n h => h2 b n (hg.π id _ h1 h)
  | _, _, .ref cs off b h => .ref cs off b (hg.I b cs h)
  | _, _, .nils => .nils
  | _, _, .slice id off len cap z a c h1 h2 h3 => .slice id off len cap z a c (Nat.lt_of_lt_of_le h1 hg.next) (fun b n h => h2 b n (hg.π id _ h1 h)) h3
  | _, _, .eslice a c => .eslice a c
  | _, _, .rslice cs off len b c h hc => .rslice cs off len b c (hg.I b cs h) hc
  | _, _, .nilm => .nilm
  | _, _, .amap id r h1 h2 => .amap id r (Nat.lt_of_lt_of_le h1 hg.next) fun b n h => h2 b n (hg.π id _ h1 h)
  | _, _, .nilf => .nilf
  | _, _, .fn f ha hb => .fn f (VRs.mono hg ha) (VRs.mono hg hb)
  | _, _, .nili => .nili
  | _, _, .iface t h => .iface t (VR.mono hg h)
  | _, _, .agg h => .agg (VRs.mono hg h)
  | _, _, .tup h => .tup (VRs.mono hg h)
theorem VRs.mono {g g' : Ghost} (hg : g.le g') : ∀ {a : List AV} {v : List Value}, VRs g a v → VRs g' a v
  | _, _, .nil => .nil
  | _, _, .cons h hs => .cons (VR.mono hg h) (VRs.mono hg hs)
end

mutual
theorem VR_ofV (g : Ghost) : ∀ v : Value, VR g (ofV v) v
  | .bool b => .bool b
  | .int k n => .int k n
  | .string s => by
    have : s = ⟨s.data.toList.toArray⟩ := by cases s; simp
    unfold ofV; generalize h : s.data.toList = l at *; rw [this]; exact .str l
  | .pointer none => .nilp
  | .pointer (some _) => .any _
  | .slice none 0 0 => .nils
  | .slice none 0 (_ + 1) => .any _
  | .slice none (_ + 1) _ => .any _
  | .slice (some _) _ _ => .any _
  | .map none => .nilm
  | .map (some _) => .any _
  | .func f ⟨a⟩ ⟨b⟩ => .fn f (VRs_ofVs g a) (VRs_ofVs g b)
  | .nilFunc => .nilf
  | .nilIface => .nili
  | .iface t v => .iface t (VR_ofV g v)
  | .agg ⟨cs⟩ => .agg (VRs_ofVs g cs)
  | .tuple ⟨cs⟩ => .tup (VRs_ofVs g cs)
  | .float _ _ => .any _
  | .complex _ _ _ => .any _
  | .chan _ => .any _
theorem VRs_ofVs (g : Ghost) : ∀ l : List Value, VRs g (ofVs l) l
  | [] => .nil
  | v :: l => .cons (VR_ofV g v) (VRs_ofVs g l)
end

namespace VRs
variable {g : Ghost}
theorem length {l : List AV} : ∀ {m : List Value}, VRs g l m → l.length = m.length := by
  induction l with
  | nil => intro m h; cases h; rfl
  | cons a l ih => intro m h; cases h with | cons _ hs => simp [ih hs]
theorem get {l : List AV} : ∀ {m : List Value}, VRs g l m → ∀ (i : Nat) (a : AV), l[i]? = some a → ∃ v, m[i]? = some v ∧ VR g a v := by
  induction l with
  | nil => intro m h i a ha; simp at ha
  | cons b l ih =>
    intro m h i a ha
    cases h with
    | cons h1 hs =>
      cases i with
      | zero => simp at ha; subst ha; exact ⟨_, by simp, h1⟩
      | succ i => simpa using ih hs i a (by simpa using ha)
theorem getV {l : List AV} : ∀ {m : List Value}, VRs g l m → ∀ (i : Nat) (v : Value), m[i]? = some v → ∃ a, l[i]? = some a ∧ VR g a v := by
  induction l with
  | nil => intro m h i a ha; cases h; simp at ha
  | cons b l ih =>
    intro m h i a ha
    cases h with
    | cons h1 hs =>
      cases i with
      | zero => simp at ha; subst ha; exact ⟨_, by simp, h1⟩
      | succ i => simpa using ih hs i a (by simpa using ha)
theorem append {l l' : List AV} : ∀ {m m' : List Value}, VRs g l m → VRs g l' m' → VRs g (l ++ l') (m ++ m') := by
  induction l with
  | nil => intro m m' h h'; cases h; exact h'
  | cons a l ih => intro m m' h h'; cases h with | cons h1 hs => exact .cons h1 (ih hs h')
theorem drop {l : List AV} : ∀ {m : List Value}, VRs g l m → ∀ n, VRs g (l.drop n) (m.drop n) := by
  induction l with
  | nil => intro m h n; cases h; simp; exact .nil
  | cons a l ih =>
    intro m h n
    cases h with
    | cons h1 hs => cases n with
      | zero => exact .cons h1 hs
      | succ n => exact ih hs n
theorem take {l : List AV} : ∀ {m : List Value}, VRs g l m → ∀ n, VRs g (l.take n) (m.take n) := by
  induction l with
  | nil => intro m h n; cases h; simp; exact .nil
  | cons a l ih =>
    intro m h n
    cases h with
    | cons h1 hs => cases n with
      | zero => exact .nil
      | succ n => exact .cons h1 (ih hs n)
theorem set {l : List AV} : ∀ {m : List Value}, VRs g l m → ∀ i {a : AV} {v : Value}, VR g a v → VRs g (l.set i a) (m.set i v) := by
  induction l with
  | nil => intro m h i a v _; cases h; simp; exact .nil
  | cons b l ih =>
    intro m h i a v hv
    cases h with
    | cons h1 hs => cases i with
      | zero => exact .cons hv hs
      | succ i => exact .cons h1 (ih hs i hv)
end VRs
/-- A value that spells a text: a string; a pointer of a type, behind an interface, to a string that never changes. -/
noncomputable def Spell (g : Ghost) (T : Nat) (v : Value) (a : List UInt8) : Prop :=
  (T = 0 ∧ v = .string ⟨a.toArray⟩) ∨ (T ≠ 0 ∧ ∃ b, v = .iface T (.pointer (some ⟨b, 0, none⟩)) ∧ g.I b = some [.str a])
/-- Cells that tell of the images of bytes, one of each. -/
noncomputable def Spells (g : Ghost) (T m : Nat) : List Value → List UInt8 → Prop
  | [], [] => True
  | v :: l, c :: s => Spell g T v (mapB m c) ∧ Spells g T m l s
  | _, _ => False
theorem Spell.mono {g g' : Ghost} (hI : ∀ b a, g.I b = some [.str a] → g'.I b = some [.str a]) {T : Nat} {v : Value} {a : List UInt8} (h : Spell g T v a) : Spell g' T v a := by
  rcases h with h | ⟨h1, b, h2, h3⟩
  · exact .inl h
  · exact .inr ⟨h1, b, h2, hI _ _ h3⟩
theorem Spells.mono {g g' : Ghost} (hI : ∀ b a, g.I b = some [.str a] → g'.I b = some [.str a]) {T m : Nat} : ∀ {l : List Value} {t : List UInt8}, Spells g T m l t → Spells g' T m l t
  | [], [], _ => trivial
  | _ :: _, _ :: _, ⟨h1, h2⟩ => ⟨h1.mono hI, h2.mono hI⟩
theorem Spells.append {g : Ghost} {T k : Nat} : ∀ {l m : List Value} {t u : List UInt8}, Spells g T k l t → Spells g T k m u → Spells g T k (l ++ m) (t ++ u)
  | [], _, [], _, _, k => k
  | _ :: _, _, _ :: _, _, ⟨h1, h2⟩, k => ⟨h1, h2.append k⟩
theorem Spells.length {g : Ghost} {T m : Nat} : ∀ {l : List Value} {t : List UInt8}, Spells g T m l t → l.length = t.length
  | [], [], _ => rfl
  | _ :: _, _ :: _, ⟨_, h2⟩ => by rw [List.length_cons, List.length_cons, h2.length]
theorem Spells.split {g : Ghost} {T k : Nat} : ∀ {l : List Value} {t u : List UInt8}, Spells g T k l (t ++ u) → ∃ a b, l = a ++ b ∧ Spells g T k a t ∧ Spells g T k b u
  | l, [], u, h => ⟨[], l, rfl, trivial, h⟩
  | [], _ :: _, _, h => h.elim
  | v :: l, _ :: _, _, ⟨h1, h2⟩ => by
    obtain ⟨a, b, e, h3, h4⟩ := h2.split
    exact ⟨v :: a, b, by rw [e]; rfl, ⟨h1, h3⟩, h4⟩
theorem sv_base (g : Ghost) (B : Nat) : g.sv (16 * B) = g.bv B := by
  unfold Ghost.sv
  rw [show 16 * B / 16 = B by omega, show 16 * B % 16 = 0 by omega]
  generalize g.bv B = l
  induction l with
  | nil => rfl
  | cons c l ih => rw [List.flatMap_cons, ih]; rfl
/-- The cells of a row. -/
noncomputable def RR (g : Ghost) : List RSeg → List Value → Prop
  | [], vs => vs = []
  | .c v :: l, vs => ∃ x r, vs = x :: r ∧ VR g v x ∧ RR g l r
  | .r B m T lo hi :: l, vs => ∃ us r, vs = us ++ r ∧ (Spells g T m us (g.sv (16 * B)) ∧ lo ≤ us.length ∧ us.length ≤ hi) ∧ RR g l r
theorem RR.mono {g g' : Ghost} (hg : g.le g') : ∀ {l : List RSeg} {vs : List Value}, RR g l vs → RR g' l vs
  | [], _, h => h
  | .c _ :: _, _, ⟨x, r, h1, h2, h3⟩ => ⟨x, r, h1, h2.mono hg, h3.mono hg⟩
  | .r B m T lo hi :: _, _, ⟨us, r, h1, ⟨h2, h3, h4⟩, h7⟩ => ⟨us, r, h1, ⟨by rw [hg.sv]; exact h2.mono fun b a hb => hg.I b _ hb, h3, h4⟩, h7.mono hg⟩
theorem RR.append {g : Ghost} : ∀ {l m : List RSeg} {vs us : List Value}, RR g l vs → RR g m us → RR g (l ++ m) (vs ++ us)
  | [], m, vs, us, h, k => by cases h; exact k
  | .c _ :: _, m, _, us, ⟨x, r, h1, h2, h3⟩, k => ⟨x, r ++ us, by rw [h1]; rfl, h2, h3.append k⟩
  | .r _ _ _ _ _ :: _, m, _, us, ⟨n, r, h1, h2, h3⟩, k => ⟨n, r ++ us, by rw [h1, List.append_assoc], h2, h3.append k⟩
theorem RR.cells {g : Ghost} : ∀ {l : List AV} {vs : List Value}, VRs g l vs → RR g (cellsR l) vs
  | [], _, h => by cases h; rfl
  | v :: l, _, h => by cases h with | cons h1 h2 => exact ⟨_, _, rfl, h1, RR.cells h2⟩
end Go.AM
/- The abstract machine: a real world that an abstract store tells of; reading, writing and making blocks. -/
namespace Go.AM

theorem code_even (e : Nat) : ¬ 2 * e % 2 = 1 := by omega
theorem code_odd (e : Nat) : (2 * e + 1) % 2 = 1 := by omega
theorem code_half0 (e : Nat) : 2 * e / 2 = e := by omega
theorem code_half1 (e : Nat) : (2 * e + 1) / 2 = e := by omega

/-- What a block says of a real object of n cells. -/
noncomputable def BR (g : Ghost) (n : Nat) : Blk → Obj → Prop
  | .cells e cs, o => ∃ (l rest : List Value), o = .cells ⟨l ++ rest⟩ (e / 2) (0, 0) ∧ l.length + rest.length = n ∧ VRs g cs l ∧ (e % 2 = 1 → rest = [])
  | .iter s pos, o => o = .stringIter ⟨s.toArray⟩ pos
  | .siter l c ts, o => ∃ pos : Nat, o = .stringIter ⟨(den g.sv l).toArray⟩ pos ∧ SegsOK g.sv l ∧ TsOK g.sv ts ∧ (pos : Int) = c + tval g.sv ts
  | .bytes e l, o => ∃ rest : List Value, o = .cells ⟨((den g.sv l).map fun b => Value.int .u8 b.toNat) ++ rest⟩ e (0, 0) ∧ (den g.sv l).length + rest.length = n ∧ SegsOK g.sv l
  | .row e l, o => ∃ vs rest : List Value, o = .cells ⟨vs ++ rest⟩ e (0, 0) ∧ vs.length + rest.length = n ∧ RR g l vs
  | .mp ks vs, o => ∃ (es : List MapEntry) (cl : Nat), o = .map ⟨es⟩ cl ∧ VRs g ks (es.map (·.key)) ∧ VRs g vs (es.map (·.val))
  | .sb s, o => ∃ (e : TypeId) (rest : List Value), o = .cells ⟨(s.map fun b => Value.int .u8 b.toNat) ++ rest⟩ e (n, n + 1) ∧ s.length + rest.length = n

theorem BR.mono {g g' : Ghost} (hg : g.le g') {n : Nat} {b : Blk} {o : Obj} (h : BR g n b o) : BR g' n b o := by
  cases b with
  | cells e cs => obtain ⟨l, r, h1, h2, h3, h4⟩ := h; exact ⟨l, r, h1, h2, h3.mono hg, h4⟩
  | iter s pos => exact h
  | siter l c ts => obtain ⟨p, h1, h2, h3, h4⟩ := h; exact ⟨p, by rw [hg.sv]; exact h1, by rw [hg.sv]; exact h2, by rw [hg.sv]; exact h3, by rw [hg.sv]; exact h4⟩
  | bytes e l => obtain ⟨rest, h1, h2, h3⟩ := h; exact ⟨rest, by rw [hg.sv]; exact h1, by rw [hg.sv]; exact h2, by rw [hg.sv]; exact h3⟩
  | row e l => obtain ⟨vs, rest, h1, h2, h3⟩ := h; exact ⟨vs, rest, h1, h2, h3.mono hg⟩
  | mp ks vs => obtain ⟨es, cl, h1, h2, h3⟩ := h; exact ⟨es, cl, h1, h2.mono hg, h3.mono hg⟩
  | sb s => exact h

/-- What a block that never changes says of a real object. -/
noncomputable def BRI (g : Ghost) (n : Nat) (e : TypeId) (cs : List AV) (o : Obj) : Prop :=
  ∃ (l rest : List Value), (∃ mk, o = .cells ⟨l ++ rest⟩ (e / 2) mk) ∧ l.length + rest.length = n ∧ VRs g cs l ∧ (e % 2 = 1 → rest = [])
theorem BR.fixed {g : Ghost} {n : Nat} {e : TypeId} {cs : List AV} {o : Obj} (h : BR g n (.cells e cs) o) : BRI g n e cs o := by
  obtain ⟨l, r, h1, h2, h3, h4⟩ := h; exact ⟨l, r, ⟨_, h1⟩, h2, h3, h4⟩
theorem BRI.mono {g g' : Ghost} (hg : g.le g') {n : Nat} {e : TypeId} {cs : List AV} {o : Obj} (h : BRI g n e cs o) : BRI g' n e cs o := by
  obtain ⟨l, r, h1, h2, h3, h4⟩ := h; exact ⟨l, r, h1, h2, h3.mono hg, h4⟩

structure Sim (g : Ghost) (σ : Store) (w : World) : Prop where
  next : g.next = σ.next
  blk : ∀ id bl, σ.get id = some bl → ∃ b n o, g.π id = some (b, n) ∧ w.heap[b]? = some o ∧ BR g n bl o
  inj : ∀ id id' b n n', g.π id = some (b, n) → g.π id' = some (b, n') → id = id'
  imm : ∀ b cs, g.I b = some cs → ∃ e n o, w.heap[b]? = some o ∧ BRI g n e cs o
  apart : ∀ b cs id n, g.I b = some cs → g.π id ≠ some (b, n)
  lt : ∀ id b n, g.π id = some (b, n) → id < g.next ∧ b < w.heap.size

/-- From one world to a later one: what was told lasts; what was not told of stands. -/
structure Ext (g g' : Ghost) (w w' : World) : Prop where
  le : g.le g'
  os : w'.os = w.os
  tape : w'.tape = w.tape
  output : w'.output = w.output
  size : w.heap.size ≤ w'.heap.size
  keep : ∀ b, b < w.heap.size → (∀ id n, g.π id ≠ some (b, n)) → w'.heap[b]? = w.heap[b]?
  old : ∀ id b n, g'.π id = some (b, n) → b < w.heap.size → ∃ id0 n0, g.π id0 = some (b, n0)

theorem Ext.refl (g : Ghost) (w : World) : Ext g g w w := ⟨.refl g, rfl, rfl, rfl, Nat.le_refl _, fun _ _ _ => rfl, fun id b n h _ => ⟨id, n, h⟩⟩
theorem Ext.trans {g g' g'' : Ghost} {w w' w'' : World} (h : Ext g g' w w') (k : Ext g' g'' w' w'') : Ext g g'' w w'' where
  le := h.le.trans k.le
  os := k.os.trans h.os
  tape := k.tape.trans h.tape
  output := k.output.trans h.output
  size := Nat.le_trans h.size k.size
  keep := fun b hb hn => by
    rw [k.keep b (Nat.lt_of_lt_of_le hb h.size) (fun id n hid => by obtain ⟨id0, n0, h0⟩ := h.old id b n hid hb; exact hn id0 n0 h0)]
    exact h.keep b hb hn
  old id b n hid hb := by
    obtain ⟨id0, n0, h0⟩ := k.old id b n hid (Nat.lt_of_lt_of_le hb h.size)
    exact h.old id0 b n0 h0 hb

/-- A draw changes nothing that is told. -/
theorem Sim.same {g : Ghost} {σ : Store} {w w' : World} (h : Sim g σ w) (hh : w'.heap = w.heap) : Sim g σ w' :=
  ⟨h.next, fun id bl hb => by rw [hh]; exact h.blk id bl hb, h.inj, fun b cs hb => by rw [hh]; exact h.imm b cs hb, h.apart, fun id b n hb => by rw [hh]; exact h.lt id b n hb⟩
theorem Ext.same {g : Ghost} {w w' : World} (hh : w'.heap = w.heap) (ho : w'.os = w.os) (ht : w'.tape = w.tape) (hp : w'.output = w.output) : Ext g g w w' :=
  ⟨.refl g, ho, ht, hp, by rw [hh]; exact Nat.le_refl _, fun _ _ _ => by rw [hh], fun id b n h _ => ⟨id, n, h⟩⟩

theorem VRs_sb (g : Ghost) : ∀ s : List UInt8, VRs g (s.map fun b => AV.int .u8 b.toNat) (s.map fun b => Value.int .u8 b.toNat)
  | [] => .nil
  | b :: s => .cons (.int _ _) (VRs_sb g s)
section cells
variable {g : Ghost} {σ : Store} {w : World}
/-- An abstract address: where it lies. -/
theorem cellsAt_sim (hs : Sim g σ w) {a : AV} {v : Value} (ha : VR g a v) {cs : List AV} {off : Nat} (hc : cellsAt σ a = some (cs, off)) :
    ∃ b l rest e mk, v = .pointer (some ⟨b, off, none⟩) ∧ w.heap[b]? = some (.cells ⟨l ++ rest⟩ e mk) ∧ VRs g cs l := by
  cases ha <;> simp only [cellsAt] at hc <;> try cases hc
  case ptr id off' a h1 h2 =>
    split at hc
    · rename_i cs' hg
      cases hc
      obtain ⟨b, n, o, hb, ho, l, r, he, hn, hv, _⟩ := hs.blk _ _ hg
      rw [h2 b n hb]
      exact ⟨b, l, r, _, _, rfl, by rw [ho, he], hv⟩
    · rename_i s hg
      cases hc
      obtain ⟨b, n, o, hb, ho, e, r, he, hn⟩ := hs.blk _ _ hg
      rw [h2 b n hb]
      exact ⟨b, _, r, _, _, rfl, by rw [ho, he], VRs_sb g s⟩
    · cases hc
  case ref b h =>
    obtain ⟨e, n, o, ho, l, r, ⟨mk, he⟩, hn, hv, _⟩ := hs.imm b cs h
    exact ⟨b, l, r, e / 2, mk, rfl, by rw [ho, he], hv⟩

theorem cell_of {b : Nat} {l rest : List Value} {e : TypeId} {mk : Nat × Nat} (h : w.heap[b]? = some (.cells ⟨l ++ rest⟩ e mk)) (i : Nat) {v : Value} (hi : l[i]? = some v) : w.cell? ⟨b, i, none⟩ = some v := by
  have hlt : i < l.length := by
    rcases Nat.lt_or_ge i l.length with h' | h'
    · exact h'
    · rw [List.getElem?_eq_none h'] at hi; cases hi
  simp [World.cell?, h, List.getElem?_append_left hlt, hi]
theorem addr_add (b o n : Nat) : (⟨b, o, none⟩ : Addr).add n = ⟨b, o + n, none⟩ := by
  unfold Addr.add
  split
  · rename_i h; subst h; rfl
  · rfl
end cells

/-- Cells are loaded one behind the other. -/
theorem run_loadCellsFrom {P : Program} {w : World} {b : Nat} {l rest : List Value} {e : TypeId} {mk : Nat × Nat} (h : w.heap[b]? = some (.cells ⟨l ++ rest⟩ e mk)) (off : Nat) :
    ∀ (n i : Nat) (acc : Array Value), off + i + n ≤ l.length → (loadCellsFrom ⟨b, off, none⟩ i n acc).run P w = .ok (acc ++ ((l.drop (off + i)).take n).toArray) w := by
  intro n
  induction n with
  | zero => intro i acc _; simp [loadCellsFrom]
  | succ n ih =>
    intro i acc hle
    have hlt : off + i < l.length := by omega
    have hd : l.drop (off + i) = l[off + i] :: l.drop (off + i + 1) := List.drop_eq_getElem_cons hlt
    have hc : w.cell? ((⟨b, off, none⟩ : Addr).add i) = some l[off + i] := by
      rw [addr_add]; exact cell_of h _ (List.getElem?_eq_getElem hlt)
    simp only [loadCellsFrom, load, Sem.run_bind, Sem.run, hc, Result.andThen_ok]
    rw [ih (i + 1) _ (by omega), hd, show off + (i + 1) = off + i + 1 from by omega]
    congr 1
    simp [← Array.toList_inj]
    rw [hd, List.take_succ_cons]
end Go.AM
/- The abstract machine: operators at words that are not known. -/
namespace Go.AM
theorem ltI_eq (a b : Int) : ltI a b = decide (a < b) := by
  cases a <;> cases b <;> simp only [ltI] <;> rw [Bool.eq_iff_iff] <;> simp [Nat.blt_eq] <;> omega
theorem leI_eq (a b : Int) : leI a b = decide (a ≤ b) := by
  cases a <;> cases b <;> simp only [leI] <;> rw [Bool.eq_iff_iff] <;> simp [Nat.ble_eq] <;> omega
theorem eqI_eq (a b : Int) : eqI a b = decide (a = b) := by
  cases a <;> cases b <;> simp only [eqI] <;> rw [Bool.eq_iff_iff] <;> simp <;> omega
theorem neI_eq (a b : Int) : neI a b = !decide (a = b) := by unfold neI; rw [eqI_eq]
theorem gtI_eq (a b : Int) : gtI a b = decide (b < a) := ltI_eq b a
theorem geI_eq (a b : Int) : geI a b = decide (b ≤ a) := leI_eq b a

theorem cond_yes {α : Type} {c : Bool} {x y : Option α} {r : α} (h : cond c x y = some r) : (c = true ∧ x = some r) ∨ (c = false ∧ y = some r) := by
  cases c with
  | true => exact .inl ⟨rfl, h⟩
  | false => exact .inr ⟨rfl, h⟩

section
variable {sv : Nat → List UInt8}

theorem addTm_ok {k : Nat} {co : Int} {lo hi : Nat} (hk : lo ≤ (sv k).length ∧ (sv k).length ≤ hi) : ∀ {ts : List Tm}, TsOK sv ts → TsOK sv (addTm k co lo hi ts) ∧ tval sv (addTm k co lo hi ts) = co * (sv k).length + tval sv ts
  | [], _ => ⟨⟨hk, trivial⟩, rfl⟩
  | t :: r, h => by
    rw [show addTm k co lo hi (t :: r) = cond (Nat.beq t.k k) (cond (eqI (t.co + co) 0) r (⟨t.k, t.co + co, t.lo, t.hi⟩ :: r)) (cond (Nat.ble k t.k) (⟨k, co, lo, hi⟩ :: t :: r) (t :: addTm k co lo hi r)) from rfl]
    cases hb : Nat.beq t.k k with
    | true =>
      have hk' : t.k = k := Nat.eq_of_beq_eq_true hb
      simp only [cond_true, eqI_eq]
      by_cases h0 : t.co + co = 0
      · simp only [h0, decide_true, cond_true]
        refine ⟨h.2, ?_⟩
        show tval sv r = co * (sv k).length + (t.co * (sv t.k).length + tval sv r)
        rw [hk', ← Int.add_assoc, ← Int.add_mul, Int.add_comm co, h0]; simp
      · simp only [h0, decide_false, cond_false]
        refine ⟨⟨h.1, h.2⟩, ?_⟩
        show (t.co + co) * (sv t.k).length + tval sv r = co * (sv k).length + (t.co * (sv t.k).length + tval sv r)
        rw [hk', Int.add_mul]; omega
    | false =>
      rw [cond_false]
      cases Nat.ble k t.k with
      | true => exact ⟨⟨hk, h⟩, rfl⟩
      | false =>
      rw [cond_false]
      obtain ⟨h1, h2⟩ := addTm_ok (co := co) hk h.2
      refine ⟨⟨h.1, h1⟩, ?_⟩
      show t.co * (sv t.k).length + tval sv (addTm k co lo hi r) = co * (sv k).length + (t.co * (sv t.k).length + tval sv r)
      rw [h2]; omega
theorem mergeT_ok {t : Tm} {f : List Tm → List Tm} {V : Int} (ht : t.lo ≤ (sv t.k).length ∧ (sv t.k).length ≤ t.hi) (hf : ∀ {us}, TsOK sv us → TsOK sv (f us) ∧ tval sv (f us) = V + tval sv us) : ∀ {ts : List Tm}, TsOK sv ts → TsOK sv (mergeT t f ts) ∧ tval sv (mergeT t f ts) = t.co * (sv t.k).length + V + tval sv ts
  | [], _ => by
    obtain ⟨h1, h2⟩ := hf (us := []) trivial
    refine ⟨⟨ht, h1⟩, ?_⟩
    show t.co * (sv t.k).length + tval sv (f []) = _
    rw [h2]; omega
  | u :: us, h => by
    rw [show mergeT t f (u :: us) = cond (Nat.beq u.k t.k) (cond (eqI (u.co + t.co) 0) (f us) (⟨u.k, u.co + t.co, u.lo, u.hi⟩ :: f us)) (cond (Nat.ble t.k u.k) (t :: f (u :: us)) (u :: mergeT t f us)) from rfl]
    cases hb : Nat.beq u.k t.k with
    | true =>
      have hk' : u.k = t.k := Nat.eq_of_beq_eq_true hb
      obtain ⟨h1, h2⟩ := hf h.2
      simp only [cond_true, eqI_eq]
      by_cases h0 : u.co + t.co = 0
      · simp only [h0, decide_true, cond_true]
        refine ⟨h1, ?_⟩
        show tval sv (f us) = t.co * (sv t.k).length + V + (u.co * (sv u.k).length + tval sv us)
        rw [h2, hk']
        have : u.co * ((sv t.k).length : Int) = (u.co + t.co) * ((sv t.k).length : Int) - t.co * ((sv t.k).length : Int) := by rw [Int.add_mul]; omega
        rw [this, h0]; simp; omega
      · simp only [h0, decide_false, cond_false]
        refine ⟨⟨h.1, h1⟩, ?_⟩
        show (u.co + t.co) * (sv u.k).length + tval sv (f us) = t.co * (sv t.k).length + V + (u.co * (sv u.k).length + tval sv us)
        rw [h2, hk', Int.add_mul]; omega
    | false =>
      rw [cond_false]
      cases Nat.ble t.k u.k with
      | true =>
        obtain ⟨h1, h2⟩ := hf h
        refine ⟨⟨ht, h1⟩, ?_⟩
        show t.co * (sv t.k).length + tval sv (f (u :: us)) = _
        rw [h2]; omega
      | false =>
        rw [cond_false]
        obtain ⟨h1, h2⟩ := mergeT_ok ht hf h.2
        refine ⟨⟨h.1, h1⟩, ?_⟩
        show u.co * (sv u.k).length + tval sv (mergeT t f us) = t.co * (sv t.k).length + V + (u.co * (sv u.k).length + tval sv us)
        rw [h2]; omega
theorem addTs_ok : ∀ {a b : List Tm}, TsOK sv a → TsOK sv b → TsOK sv (addTs a b) ∧ tval sv (addTs a b) = tval sv a + tval sv b
  | [], b, _, hb => ⟨hb, by show tval sv b = 0 + tval sv b; omega⟩
  | t :: r, b, ha, hb => by
    obtain ⟨h3, h4⟩ := mergeT_ok (t := t) (f := fun us => addTs r us) (V := tval sv r) ha.1 (fun h => addTs_ok ha.2 h) hb
    exact ⟨h3, h4⟩
theorem negTs_ok : ∀ {a : List Tm}, TsOK sv a → TsOK sv (negTs a) ∧ tval sv (negTs a) = - tval sv a
  | [], _ => ⟨trivial, rfl⟩
  | t :: r, h => by
    obtain ⟨h1, h2⟩ := negTs_ok h.2
    refine ⟨⟨h.1, h1⟩, ?_⟩
    show -t.co * (sv t.k).length + tval sv (negTs r) = -(t.co * (sv t.k).length + tval sv r)
    rw [h2, Int.neg_mul]; omega
theorem posT_ok (b : Bool) : ∀ {a : List Tm}, TsOK sv a → cond b ((posT b a : Int) - lossT b a ≤ tval sv a) (tval sv a ≤ (posT b a : Int) - lossT b a)
  | [], _ => by cases b <;> exact Int.le_refl _
  | t :: r, h => by
    have ih := posT_ok b h.2
    obtain ⟨k, co, lo, hi⟩ := t
    have h1 : lo ≤ (sv k).length := h.1.1
    have h2 : (sv k).length ≤ hi := h.1.2
    cases co with
    | ofNat n =>
      have e1 : posT b (⟨k, .ofNat n, lo, hi⟩ :: r) = n * (cond b lo hi) + posT b r := rfl
      have e2 : lossT b (⟨k, .ofNat n, lo, hi⟩ :: r) = lossT b r := rfl
      have e3 : tval sv (⟨k, .ofNat n, lo, hi⟩ :: r) = ((n * (sv k).length : Nat) : Int) + tval sv r := rfl
      rw [e1, e2, e3]
      have m1 := Nat.mul_le_mul_left n h1
      have m2 := Nat.mul_le_mul_left n h2
      cases b with
      | true => simp only [cond_true] at ih ⊢; push_cast at *; omega
      | false => simp only [cond_false] at ih ⊢; push_cast at *; omega
    | negSucc n =>
      have e1 : posT b (⟨k, .negSucc n, lo, hi⟩ :: r) = posT b r := rfl
      have e2 : lossT b (⟨k, .negSucc n, lo, hi⟩ :: r) = (n + 1) * (cond b hi lo) + lossT b r := rfl
      have e3 : tval sv (⟨k, .negSucc n, lo, hi⟩ :: r) = -(((n + 1) * (sv k).length : Nat) : Int) + tval sv r := by
        show Int.negSucc n * ((sv k).length : Int) + tval sv r = _
        rw [Int.negSucc_eq, Int.neg_mul]; push_cast; rfl
      rw [e1, e2, e3]
      have m1 := Nat.mul_le_mul_left (n + 1) h1
      have m2 := Nat.mul_le_mul_left (n + 1) h2
      clear e1 e2 e3
      generalize n + 1 = N at *
      cases b with
      | true => simp only [cond_true] at ih ⊢; push_cast at *; omega
      | false => simp only [cond_false] at ih ⊢; push_cast at *; omega
theorem min_ok {a : List Tm} (h : TsOK sv a) : minTs a ≤ tval sv a := by
  have := posT_ok true h
  unfold minTs
  rw [Int.subNatNat_eq_coe]
  exact this
theorem max_ok {a : List Tm} (h : TsOK sv a) : tval sv a ≤ maxTs a := by
  have := posT_ok false h
  unfold maxTs
  rw [Int.subNatNat_eq_coe]
  exact this

theorem segLen_ok : ∀ {l : List Seg}, SegsOK sv l → TsOK sv (segLen l).2 ∧ ((den sv l).length : Int) = (segLen l).1 + tval sv (segLen l).2
  | [], _ => ⟨trivial, rfl⟩
  | .b c :: l, h => by
    obtain ⟨h1, h2⟩ := segLen_ok (l := l) h
    refine ⟨h1, ?_⟩
    show ((c :: den sv l).length : Int) = (segLen l).1 + 1 + tval sv (segLen l).2
    rw [List.length_cons]; omega
  | .w k cls lo hi :: l, h => by
    obtain ⟨h1, h2⟩ := segLen_ok (l := l) h.2
    obtain ⟨h3, h4⟩ := addTm_ok (co := 1) ⟨h.1.1, h.1.2.1⟩ h1
    refine ⟨h3, ?_⟩
    show ((sv k ++ den sv l).length : Int) = (segLen l).1 + tval sv (addTm k 1 lo hi (segLen l).2)
    rw [h4, List.length_append]; omega
theorem den_append : ∀ {l m : List Seg}, den sv (l ++ m) = den sv l ++ den sv m
  | [], _ => rfl
  | .b c :: l, m => by show c :: den sv (l ++ m) = _; rw [den_append]; rfl
  | .w k _ _ _ :: l, m => by show sv k ++ den sv (l ++ m) = sv k ++ den sv l ++ den sv m; rw [den_append, List.append_assoc]
theorem SegsOK_append : ∀ {l m : List Seg}, SegsOK sv l → SegsOK sv m → SegsOK sv (l ++ m)
  | [], _, _, h => h
  | .b _ :: l, m, h, k => SegsOK_append (l := l) h k
  | .w _ _ _ _ :: l, m, h, k => ⟨h.1, SegsOK_append (l := l) h.2 k⟩
theorem SegsOK_bytes : ∀ s : List UInt8, SegsOK sv (s.map .b) ∧ den sv (s.map .b) = s
  | [] => ⟨trivial, rfl⟩
  | c :: s => ⟨(SegsOK_bytes s).1, by show c :: den sv (s.map .b) = _; rw [(SegsOK_bytes s).2]⟩
theorem segBytes_ok : ∀ {l : List Seg} {s : List UInt8}, segBytes l = some s → den sv l = s
  | [], s, h => by cases h; rfl
  | .b c :: l, s, h => by
    unfold segBytes at h
    split at h
    · rename_i m hm; cases h; show c :: den sv l = _; rw [segBytes_ok hm]
    · cases h
  | .w _ _ _ _ :: l, s, h => by cases h

theorem memB_ok {c : UInt8} : ∀ {l : List UInt8}, memB c l = false → c ∉ l
  | [], _ => by simp
  | d :: l, h => by
    unfold memB at h
    cases hb : Nat.beq c.toNat d.toNat with
    | true => rw [hb] at h; cases h
    | false =>
      rw [hb] at h
      have := memB_ok (l := l) h
      intro hm
      cases hm with
      | head => rw [Nat.beq_refl] at hb; cases hb
      | tail _ hm => exact this hm
theorem first_ne {k : Nat} {cls : List UInt8} {lo hi : Nat} {d : UInt8} (h : lo ≤ (sv k).length ∧ (sv k).length ≤ hi ∧ ∀ c ∈ sv k, c ∈ cls) (hl : Nat.blt 0 lo = true) (hm : memB d cls = false) {l m : List UInt8} : sv k ++ l ≠ d :: m := by
  have hlo : 0 < lo := by simpa [Nat.blt_eq] using hl
  intro e
  cases hs : sv k with
  | nil => rw [hs] at h; simp at h; omega
  | cons c r =>
    rw [hs] at e
    simp only [List.cons_append, List.cons.injEq] at e
    exact memB_ok hm (e.1 ▸ h.2.2 c (by rw [hs]; exact List.mem_cons_self ..))
theorem nonempty_of {k : Nat} {lo : Nat} (h : lo ≤ (sv k).length) (hl : Nat.blt 0 lo = true) {l : List UInt8} : sv k ++ l ≠ [] := by
  have hlo : 0 < lo := by simpa [Nat.blt_eq] using hl
  intro e
  have := congrArg List.length e
  rw [List.length_append, List.length_nil] at this
  omega
theorem symEq_ok : ∀ {l m : List Seg} {b : Bool}, symEq l m = some b → SegsOK sv l → SegsOK sv m → b = decide (den sv l = den sv m)
  | [], [], b, h, _, _ => by cases h; rfl
  | .b c :: l, .b d :: m, b, h, hl, hm => by
    unfold symEq at h
    show b = decide (c :: den sv l = d :: den sv m)
    cases hb : Nat.beq c.toNat d.toNat with
    | true =>
      rw [hb] at h
      have : c = d := UInt8.toNat_inj.1 (Nat.eq_of_beq_eq_true hb)
      subst this
      rw [symEq_ok (l := l) (m := m) h hl hm]; simp
    | false =>
      rw [hb] at h; cases h
      have : c ≠ d := fun e => by rw [e, Nat.beq_refl] at hb; cases hb
      simp [this]
  | .w k _ _ _ :: l, .w k' _ _ _ :: m, b, h, hl, hm => by
    unfold symEq at h
    show b = decide (sv k ++ den sv l = sv k' ++ den sv m)
    rcases cond_yes h with ⟨hb, h2⟩ | ⟨hb, h2⟩
    · rw [symEq_ok (l := l) (m := m) h2 hl.2 hm.2, ← Nat.eq_of_beq_eq_true hb]; simp
    · cases h2
  | .w k cls lo _ :: l, .b d :: m, b, h, hl, hm => by
    unfold symEq at h
    rcases cond_yes h with ⟨hb, h⟩ | ⟨hb, h⟩
    · cases h
      simp only [Bool.and_eq_true, Bool.not_eq_true'] at hb
      exact (decide_eq_false (first_ne hl.1 hb.1 hb.2)).symm
    · cases h
  | .b d :: l, .w k cls lo _ :: m, b, h, hl, hm => by
    unfold symEq at h
    rcases cond_yes h with ⟨hb, h⟩ | ⟨hb, h⟩
    · cases h
      simp only [Bool.and_eq_true, Bool.not_eq_true'] at hb
      exact (decide_eq_false (Ne.symm (first_ne hm.1 hb.1 hb.2))).symm
    · cases h
  | [], .b _ :: _, b, h, _, _ => by cases h; rfl
  | .b _ :: _, [], b, h, _, _ => by cases h; rfl
  | [], .w _ _ lo _ :: _, b, h, _, hm => by
    unfold symEq at h
    rcases cond_yes h with ⟨hb, h⟩ | ⟨hb, h⟩
    · cases h; exact (decide_eq_false (Ne.symm (nonempty_of hm.1.1 hb))).symm
    · cases h
  | .w _ _ lo _ :: _, [], b, h, hl, _ => by
    unfold symEq at h
    rcases cond_yes h with ⟨hb, h⟩ | ⟨hb, h⟩
    · cases h; exact (decide_eq_false (nonempty_of hl.1.1 hb)).symm
    · cases h

theorem delTm_ok {k : Nat} : ∀ {ts r : List Tm}, delTm k ts = some r → TsOK sv ts → TsOK sv r ∧ tval sv ts = (sv k).length + tval sv r
  | [], r, h, _ => by cases h
  | t :: ts, r, h, ht => by
    rw [show delTm k (t :: ts) = cond (Nat.beq t.k k) (cond (eqI t.co 1) (some ts) (cond (ltI 1 t.co) (some (⟨t.k, t.co - 1, t.lo, t.hi⟩ :: ts)) none)) (cond (Nat.ble k t.k) none (match delTm k ts with | some m => some (t :: m) | none => none)) from rfl] at h
    rcases cond_yes h with ⟨hb, h⟩ | ⟨hb, h⟩
    · have hk : t.k = k := Nat.eq_of_beq_eq_true hb
      rcases cond_yes h with ⟨hc, h⟩ | ⟨hc, h⟩
      · cases h
        rw [eqI_eq] at hc
        have hc : t.co = 1 := of_decide_eq_true hc
        refine ⟨ht.2, ?_⟩
        show t.co * (sv t.k).length + tval sv ts = _
        rw [hc, hk]; omega
      · rcases cond_yes h with ⟨_, h⟩ | ⟨_, h⟩
        · cases h
          refine ⟨⟨ht.1, ht.2⟩, ?_⟩
          show t.co * (sv t.k).length + tval sv ts = (sv k).length + ((t.co - 1) * (sv t.k).length + tval sv ts)
          rw [← hk, Int.sub_mul]; omega
        · cases h
    · rcases cond_yes h with ⟨_, h⟩ | ⟨_, h⟩
      · cases h
      split at h
      · rename_i m hm
        cases h
        obtain ⟨h1, h2⟩ := delTm_ok hm ht.2
        refine ⟨⟨ht.1, h1⟩, ?_⟩
        show t.co * (sv t.k).length + tval sv ts = (sv k).length + (t.co * (sv t.k).length + tval sv m)
        rw [h2]; omega
      · cases h

theorem symAt_ok : ∀ {l : List Seg} {n : Int} {ts : List Tm} {r : AV}, symAt l n ts = some r → SegsOK sv l → TsOK sv ts →
    0 ≤ n + tval sv ts ∧ n + tval sv ts < (den sv l).length ∧ ∀ c, (den sv l)[(n + tval sv ts).toNat]? = some c → r = .int .u8 c.toNat ∨ ∃ cl, r = .cls cl ∧ c ∈ cl := by
  intro l
  induction l with
  | nil => intro n ts r h; cases h
  | cons s l ih =>
    intro n ts r h hl ht
    cases s with
    | b d =>
      cases ts with
      | nil =>
        rw [symAt_b0] at h
        show 0 ≤ n + 0 ∧ n + 0 < ((d :: den sv l).length : Int) ∧ ∀ c, (d :: den sv l)[(n + 0).toNat]? = some c → _
        rw [List.length_cons]
        rcases cond_yes h with ⟨h0, h2⟩ | ⟨h0, h2⟩
        · rw [eqI_eq] at h0
          have h0 : n = 0 := of_decide_eq_true h0
          subst h0
          cases h2
          refine ⟨by omega, by omega, fun c hc => .inl ?_⟩
          simp at hc
          rw [hc]
        · rcases cond_yes h2 with ⟨h1, h3⟩ | ⟨h1, h3⟩
          · rw [ltI_eq] at h1
            have h1 : 0 < n := of_decide_eq_true h1
            obtain ⟨a1, a2, a3⟩ := ih h3 hl trivial
            simp only [tval, Int.add_zero] at a1 a2 a3 ⊢
            refine ⟨by omega, by omega, fun c hc => a3 c ?_⟩
            rw [show n.toNat = (n - 1).toNat + 1 from by omega, List.getElem?_cons_succ] at hc
            exact hc
          · cases h3
      | cons t ts =>
        rw [symAt_b1] at h
        obtain ⟨a1, a2, a3⟩ := ih h hl ht
        generalize tval sv (t :: ts) = V at *
        show 0 ≤ n + V ∧ n + V < ((d :: den sv l).length : Int) ∧ ∀ c, (d :: den sv l)[(n + V).toNat]? = some c → _
        rw [List.length_cons]
        refine ⟨by omega, by omega, fun c hc => a3 c ?_⟩
        rw [show (n + V).toNat = (n - 1 + V).toNat + 1 from by omega, List.getElem?_cons_succ] at hc
        exact hc
    | w k cls lo hi =>
      have inside : ∀ i : Int, 0 ≤ i → i < (sv k).length → ∀ c, (sv k ++ den sv l)[i.toNat]? = some c → c ∈ cls := by
        intro i h0 h1 c hc
        rw [List.getElem?_append_left (by omega)] at hc
        exact hl.1.2.2 c (List.mem_of_getElem? hc)
      rw [symAt_w] at h
      unfold atW at h
      show 0 ≤ n + tval sv ts ∧ n + tval sv ts < ((sv k ++ den sv l).length : Int) ∧ ∀ c, (sv k ++ den sv l)[(n + tval sv ts).toNat]? = some c → _
      have hlo : ((lo : Int)) ≤ (sv k).length := by exact_mod_cast hl.1.1
      have later : ∀ {ts'}, delTm k ts = some ts' → symAt l n ts' = some r → 0 ≤ n + tval sv ts ∧ n + tval sv ts < ((sv k ++ den sv l).length : Int) ∧ ∀ c, (sv k ++ den sv l)[(n + tval sv ts).toNat]? = some c → r = .int .u8 c.toNat ∨ ∃ cl, r = .cls cl ∧ c ∈ cl := by
        intro ts' hd h2
        obtain ⟨d1, d2⟩ := delTm_ok hd ht
        obtain ⟨a1, a2, a3⟩ := ih h2 hl.2 d1
        rw [d2, List.length_append]
        generalize tval sv ts' = V at *
        refine ⟨by omega, by omega, fun c hc => a3 c ?_⟩
        rw [List.getElem?_append_right (by omega)] at hc
        rw [show (n + V).toNat = (n + (((sv k).length : Int) + V)).toNat - (sv k).length from by omega]
        exact hc
      split at h
      · rename_i hd
        obtain ⟨d1, d2⟩ := delTm_ok hd ht
        rcases cond_yes h with ⟨h0, h2⟩ | ⟨h0, h2⟩
        · exact later hd h2
        · rcases cond_yes h2 with ⟨h3, h4⟩ | ⟨h3, h4⟩
          · cases h4
            simp only [Bool.and_eq_true, ltI_eq, leI_eq, decide_eq_true_eq] at h3
            rw [d2, List.length_append]
            simp only [tval, Int.add_zero]
            exact ⟨by omega, by omega, fun c hc => .inr ⟨cls, rfl, inside _ (by omega) (by omega) c hc⟩⟩
          · cases h4
      · rename_i ts' _ hd
        exact later hd h
      · split at h
        · rcases cond_yes h with ⟨h3, h4⟩ | ⟨h3, h4⟩
          · cases h4
            simp only [Bool.and_eq_true, ltI_eq, leI_eq, decide_eq_true_eq] at h3
            rw [List.length_append]
            simp only [tval, Int.add_zero]
            exact ⟨by omega, by omega, fun c hc => .inr ⟨cls, rfl, inside _ (by omega) (by omega) c hc⟩⟩
          · cases h4
        · cases h

theorem symSplit_ok : ∀ {l : List Seg} {n : Int} {ts : List Tm} {p : List Seg × List Seg}, symSplit l n ts = some p → SegsOK sv l → TsOK sv ts →
    den sv l = den sv p.1 ++ den sv p.2 ∧ ((den sv p.1).length : Int) = n + tval sv ts ∧ SegsOK sv p.1 ∧ SegsOK sv p.2 := by
  intro l
  induction l with
  | nil =>
    intro n ts p h hl ht
    cases ts with
    | nil =>
      have h : cond (eqI n 0) (some (([] : List Seg), ([] : List Seg))) none = some p := h
      rcases cond_yes h with ⟨h0, h2⟩ | ⟨h0, h2⟩
      · rw [eqI_eq] at h0
        have h0 : n = 0 := of_decide_eq_true h0
        subst h0; cases h2
        exact ⟨rfl, rfl, trivial, hl⟩
      · cases h2
    | cons t ts => cases h
  | cons s l ih =>
    intro n ts p h hl ht
    have byte : ∀ {c : UInt8} {ts : List Tm}, s = .b c → TsOK sv ts → consP (.b c) (symSplit l (n - 1) ts) = some p → den sv (s :: l) = den sv p.1 ++ den sv p.2 ∧ ((den sv p.1).length : Int) = n + tval sv ts ∧ SegsOK sv p.1 ∧ SegsOK sv p.2 := by
      intro c ts9 hs ht9 h9
      obtain ⟨q, hq, rfl⟩ := consP_some h9
      subst hs
      obtain ⟨a1, a2, a3, a4⟩ := ih hq hl ht9
      refine ⟨?_, ?_, a3, a4⟩
      · show c :: den sv l = c :: den sv q.1 ++ den sv q.2
        rw [a1]; rfl
      · show ((c :: den sv q.1).length : Int) = _
        rw [List.length_cons]; omega
    cases ts with
    | nil =>
      have h : cond (eqI n 0) (some (([] : List Seg), s :: l)) (Seg.rec (motive := fun _ => Option (List Seg × List Seg)) (fun c => cond (ltI 0 n) (consP (.b c) (symSplit l (n - 1) [])) none) (fun _ _ _ _ => none) s) = some p := h
      rcases cond_yes h with ⟨h0, h2⟩ | ⟨h0, h2⟩
      · rw [eqI_eq] at h0
        have h0 : n = 0 := of_decide_eq_true h0
        subst h0; cases h2
        exact ⟨rfl, rfl, trivial, hl⟩
      · cases s with
        | w k cls lo hi => cases h2
        | b c =>
          rcases cond_yes h2 with ⟨h1, h3⟩ | ⟨h1, h3⟩
          · exact byte rfl trivial h3
          · cases h3
    | cons t ts =>
      cases s with
      | b c => exact byte rfl ht h
      | w k cls lo hi =>
        obtain ⟨ts', q, hd, hq, rfl⟩ := splitD_some (show splitD (.w k cls lo hi) n (symSplit l) (delTm k (t :: ts)) = some p from h)
        obtain ⟨d1, d2⟩ := delTm_ok hd ht
        obtain ⟨a1, a2, a3, a4⟩ := ih hq hl.2 d1
        refine ⟨?_, ?_, ⟨hl.1, a3⟩, a4⟩
        · show sv k ++ den sv l = (sv k ++ den sv q.1) ++ den sv q.2
          rw [a1, List.append_assoc]
        · show ((sv k ++ den sv q.1).length : Int) = _
          rw [List.length_append, d2]; omega

theorem linCmp_ok {op : BinOp} {lo hi v : Int} {b : Bool} (h : linCmp op lo hi = some b) (h1 : lo ≤ v) (h2 : v ≤ hi) :
    match op with
    | .lss => b = decide (v < 0) | .leq => b = decide (v ≤ 0) | .gtr => b = decide (0 < v) | .geq => b = decide (0 ≤ v) | .eql => b = decide (v = 0) | .neq => b = !decide (v = 0)
    | _ => True := by
  cases op <;> simp only [linCmp] at h <;> first | trivial | skip
  all_goals
    simp only [ltI_eq, leI_eq, eqI_eq] at h
    rcases cond_yes h with ⟨a, k⟩ | ⟨a, k⟩
  all_goals first | (cases k; simp only [Bool.and_eq_true, decide_eq_true_eq] at a; simp; omega) | skip
  all_goals
    rcases cond_yes k with ⟨a2, k2⟩ | ⟨a2, k2⟩
  all_goals first | (cases k2; done) | skip
  all_goals (cases k2; simp only [Bool.or_eq_true, decide_eq_true_eq] at a2; simp; omega)
end

section
variable {g : Ghost}
theorem rowLen_ok : ∀ {l : List RSeg} {vs : List Value}, RR g l vs → TsOK g.sv (rowLen l).2 ∧ (vs.length : Int) = (rowLen l).1 + tval g.sv (rowLen l).2
  | [], vs, h => by cases h; exact ⟨trivial, rfl⟩
  | .c v :: l, _, ⟨x, r, h1, h2, h3⟩ => by
    obtain ⟨a1, a2⟩ := rowLen_ok h3
    subst h1
    refine ⟨a1, ?_⟩
    show ((r.length + 1 : Nat) : Int) = (rowLen l).1 + 1 + tval g.sv (rowLen l).2
    omega
  | .r B i T lo hi :: l, _, ⟨m, r, h1, ⟨h2, h4, h5⟩, h7⟩ => by
    obtain ⟨a1, a2⟩ := rowLen_ok h7
    subst h1
    have h3 := h2.length
    obtain ⟨b1, b2⟩ := addTm_ok (sv := g.sv) (k := 16 * B) (co := 1) (lo := lo) (hi := hi) (by rw [← h3]; exact ⟨h4, h5⟩) a1
    refine ⟨b1, ?_⟩
    show ((m ++ r).length : Int) = (rowLen l).1 + tval g.sv (addTm (16 * B) 1 lo hi (rowLen l).2)
    rw [b2, ← h3, List.length_append]
    push_cast
    omega
theorem rowAt_ok : ∀ {l : List RSeg} {n : Int} {ts : List Tm} {v : AV} {vs : List Value}, rowAt l n ts = some v → RR g l vs → TsOK g.sv ts →
    0 ≤ n + tval g.sv ts ∧ ∃ x, vs[(n + tval g.sv ts).toNat]? = some x ∧ VR g v x
  | [], _, _, _, _, h, _, _ => by cases h
  | .c w :: l, n, [], v, _, h, ⟨x, r, h1, h2, h3⟩, ht => by
    subst h1
    unfold rowAt at h
    simp only [tval, Int.add_zero]
    rcases cond_yes h with ⟨h0, h4⟩ | ⟨h0, h4⟩
    · rw [eqI_eq] at h0
      have h0 : n = 0 := of_decide_eq_true h0
      subst h0; cases h4
      exact ⟨by omega, x, rfl, h2⟩
    · rcases cond_yes h4 with ⟨h5, h6⟩ | ⟨h5, h6⟩
      · rw [ltI_eq] at h5
        have h5 : 0 < n := of_decide_eq_true h5
        obtain ⟨a1, y, a2, a3⟩ := rowAt_ok h6 h3 trivial
        simp only [tval, Int.add_zero] at a1 a2
        refine ⟨by omega, y, ?_, a3⟩
        rw [show n.toNat = (n - 1).toNat + 1 from by omega, List.getElem?_cons_succ]; exact a2
      · cases h6
  | .c w :: l, n, t :: ts, v, _, h, ⟨x, r, h1, h2, h3⟩, ht => by
    subst h1
    unfold rowAt at h
    obtain ⟨a1, y, a2, a3⟩ := rowAt_ok h h3 ht
    generalize tval g.sv (t :: ts) = V at *
    refine ⟨by omega, y, ?_, a3⟩
    rw [show (n + V).toNat = (n - 1 + V).toNat + 1 from by omega, List.getElem?_cons_succ]; exact a2
  | .r B i T lo hi :: l, n, ts, v, _, h, ⟨m, r, h1, ⟨h2, h4, h5⟩, h7⟩, ht => by
    subst h1
    have h3 := h2.length
    unfold rowAt at h
    split at h
    case h_2 => cases h
    rename_i ts' hd
    obtain ⟨d1, d2⟩ := delTm_ok hd ht
    obtain ⟨a1, y, a2, a3⟩ := rowAt_ok h h7 d1
    rw [d2, ← h3]
    generalize tval g.sv ts' = V at *
    refine ⟨by omega, y, ?_, a3⟩
    rw [List.getElem?_append_right (by omega), show (n + (m.length + V)).toNat - m.length = (n + V).toNat from by omega]; exact a2
theorem rowPut_ok {v : AV} {x : Value} (hv : VR g v x) : ∀ {l l' : List RSeg} {n : Int} {ts : List Tm} {vs : List Value}, rowPut l n ts v = some l' → RR g l vs → TsOK g.sv ts →
    0 ≤ n + tval g.sv ts ∧ n + tval g.sv ts < vs.length ∧ ∃ us rest, vs.set (n + tval g.sv ts).toNat x = us ++ rest ∧ RR g l' us
  | [], _, _, _, _, h, _, _ => by cases h
  | .c w :: l, l', n, [], _, h, ⟨y, r, h1, h2, h3⟩, ht => by
    subst h1
    unfold rowPut at h
    simp only [tval, Int.add_zero, List.length_cons]
    rcases cond_yes h with ⟨h0, h4⟩ | ⟨h0, h4⟩
    · rw [eqI_eq] at h0
      have h0 : n = 0 := of_decide_eq_true h0
      subst h0; cases h4
      exact ⟨by omega, by omega, x :: r, [], by simp, x, r, rfl, hv, h3⟩
    · rcases cond_yes h4 with ⟨h5, h6⟩ | ⟨h5, h6⟩
      · rw [ltI_eq] at h5
        have h5 : 0 < n := of_decide_eq_true h5
        simp only [Option.map_eq_some_iff] at h6
        obtain ⟨l2, h6, rfl⟩ := h6
        obtain ⟨a1, a2, us, rest, a3, a4⟩ := rowPut_ok hv h6 h3 trivial
        simp only [tval, Int.add_zero] at a1 a2 a3
        refine ⟨by omega, by omega, y :: us, rest, ?_, y, us, rfl, h2, a4⟩
        rw [show n.toNat = (n - 1).toNat + 1 from by omega, List.set_cons_succ, a3]; rfl
      · cases h6
  | .c w :: l, l', n, t :: ts, _, h, ⟨y, r, h1, h2, h3⟩, ht => by
    subst h1
    unfold rowPut at h
    simp only [Option.map_eq_some_iff] at h
    obtain ⟨l2, h, rfl⟩ := h
    obtain ⟨a1, a2, us, rest, a3, a4⟩ := rowPut_ok hv h h3 ht
    generalize tval g.sv (t :: ts) = V at *
    refine ⟨by omega, by rw [List.length_cons]; omega, y :: us, rest, ?_, y, us, rfl, h2, a4⟩
    rw [show (n + V).toNat = (n - 1 + V).toNat + 1 from by omega, List.set_cons_succ, a3]; rfl
  | .r B i T lo hi :: l, l', n, ts, _, h, ⟨m, r, h1, ⟨h2, h4, h5⟩, h7⟩, ht => by
    subst h1
    have h3 := h2.length
    unfold rowPut at h
    split at h
    · rename_i ts' hd
      obtain ⟨d1, d2⟩ := delTm_ok hd ht
      simp only [Option.map_eq_some_iff] at h
      obtain ⟨l2, h, rfl⟩ := h
      obtain ⟨a1, a2, us, rest, a3, a4⟩ := rowPut_ok hv h h7 d1
      rw [d2, ← h3]
      generalize tval g.sv ts' = V at *
      refine ⟨by omega, by rw [List.length_append]; push_cast; omega, m ++ us, rest, ?_, m, us, rfl, ⟨h2, h4, h5⟩, a4⟩
      rw [List.set_append_right _ _ (by omega), show (n + (m.length + V)).toNat - m.length = (n + V).toNat from by omega, a3, List.append_assoc]
    · split at h
      · rcases cond_yes h with ⟨h0, h8⟩ | ⟨h0, h8⟩
        · simp only [Bool.and_eq_true, eqI_eq, decide_eq_true_eq] at h0
          obtain ⟨rfl, hlo⟩ := h0
          have hlo : 0 < lo := by simpa [Nat.blt_eq] using hlo
          cases h8
          simp only [tval, Int.add_zero]
          have hm : 0 < m.length := by omega
          refine ⟨by omega, by rw [List.length_append]; push_cast; omega, [x], m.tail ++ r, ?_, x, [], rfl, hv, rfl⟩
          cases m with
          | nil => simp at hm
          | cons a m => rfl
        · cases h8
      · cases h
end
end Go.AM
/- The abstract machine: the operations that leave the world alone. -/
namespace Go.AM

section
variable {P : Program} {g : Ghost} {σ : Store} {w : World}

theorem run_und {t : TypeId} {d : TypeDesc} (h : P.underlying t = some d) (w : World) : (underlying t).run P w = .ok d w := run_underlying h w
theorem run_info {t : TypeId} {i : TypeInfo} (h : P.info? t = some i) (w : World) : (typeInfo t).run P w = .ok i w := by simp [typeInfo, h]
theorem sizeT_some {t : TypeId} {n : Nat} (h : sizeT P t = some n) : ∃ i, P.info? t = some i ∧ i.size = n := by
  simp only [sizeT, Option.map_eq_some_iff] at h; exact h
theorem run_size {t : TypeId} {n : Nat} (h : sizeT P t = some n) (w : World) : (sizeOf t).run P w = .ok n w := by
  obtain ⟨i, hi, rfl⟩ := sizeT_some h
  simp [sizeOf, run_info hi]
theorem run_isAgg' {t : TypeId} {b : Bool} (h : aggT P t = some b) (w : World) : (isAgg t).run P w = .ok b w := by
  unfold aggT at h
  split at h
  · rename_i hu; cases h; simp [isAgg, run_und hu]
  · rename_i hu; cases h; simp [isAgg, run_und hu]
  · rename_i d hn1 hn2 hu
    cases h
    simp only [isAgg, Sem.run_bind, run_und hu, Result.andThen_ok]
    cases d <;> first | rfl | (exact absurd hu (hn1 _)) | (exact absurd hu (hn2 _ _))
  · cases h

theorem cond_some {α : Type} {c : Bool} {x : Option α} {y : α} (h : cond c x none = some y) : c = true ∧ x = some y := by
  cases c with
  | true => exact ⟨rfl, h⟩
  | false => cases h

theorem load_sound (hs : Sim g σ w) {t : TypeId} {a r : AV} {v : Value} (ha : VR g a v) (h : loadA P σ t a = some r) :
    ∃ r', VR g r r' ∧ (Instr.loadAt t v).run P w = .ok r' w := by
  unfold loadA at h
  split at h
  · rename_i id c ts
    unfold loadR at h
    split at h
    case h_3 => cases h
    case h_2 =>
      rename_i n e l hg hz hr
      obtain ⟨b, m, o, hp, ho, rest, rfl, hm, hok⟩ := hs.blk _ _ hr
      cases ha with
      | rptr _ _ _ a off hT h0 h1 h2 =>
      obtain rfl := h2 b m hp
      obtain ⟨a1, a2, a3⟩ := symAt_ok h hok hT
      have e1 : (c + tval g.sv ts).toNat = off := by omega
      rw [e1] at a3
      have hlt : off < (den g.sv l).length := by omega
      have hcell := cell_of ho off (v := .int .u8 ((den g.sv l)[off]).toNat) (by rw [List.getElem?_map, List.getElem?_eq_getElem hlt]; rfl)
      refine ⟨.int .u8 ((den g.sv l)[off]).toNat, ?_, ?_⟩
      · rcases a3 _ (List.getElem?_eq_getElem hlt) with rfl | ⟨cl, rfl, hm⟩
        · exact .int _ _
        · exact .cls cl _ hm
      · simp only [Instr.loadAt, Instr.sureAddr, Sem.run_bind, Sem.run_pure, Result.andThen_ok, loadVar, run_isAgg' hg]
        simp [load, Sem.run, hcell]
    rename_i n e l hg hz hr
    obtain ⟨b, m, o, hp, ho, vs, rest, rfl, hm, hrr⟩ := hs.blk _ _ hr
    cases ha with
    | rptr _ _ _ a off hT h0 h1 h2 =>
    obtain rfl := h2 b m hp
    obtain ⟨a1, x, a2, a3⟩ := rowAt_ok h hrr hT
    refine ⟨x, a3, ?_⟩
    have e1 : (c + tval g.sv ts).toNat = off := by omega
    rw [e1] at a2
    simp only [Instr.loadAt, Instr.sureAddr, Sem.run_bind, Sem.run_pure, Result.andThen_ok, loadVar, run_isAgg' hg]
    simp [load, Sem.run, cell_of ho _ a2]
  split at h
  case h_2 => cases h
  rename_i cs off hc
  obtain ⟨b, l, rest, e, mk, rfl, hb, hv⟩ := cellsAt_sim hs ha hc
  have hI : (Instr.loadAt t (.pointer (some ⟨b, off, none⟩))).run P w = (loadVar t ⟨b, off, none⟩).run P w := by simp [Instr.loadAt, Instr.sureAddr]
  rw [hI]
  split at h
  · rename_i n hg hz
    obtain ⟨hle, h⟩ := cond_some h
    cases h
    have hle' : off + n ≤ l.length := by rw [← hv.length]; simpa using hle
    refine ⟨.agg ((l.drop off).take n).toArray, .agg ((hv.drop off).take n), ?_⟩
    simp only [loadVar, Sem.run_bind, run_isAgg' hg, Result.andThen_ok, if_true, run_size hz, loadCells]
    rw [run_loadCellsFrom hb off n 0 _ (by omega)]
    simp
  · rename_i n hg hz
    obtain ⟨v, hv1, hv2⟩ := hv.get _ _ h
    refine ⟨v, hv2, ?_⟩
    simp only [loadVar, Sem.run_bind, run_isAgg' hg, Result.andThen_ok]
    simp [load, Sem.run, cell_of hb _ hv1]
  · cases h

theorem part_sound {t : TypeId} {cs : List AV} {l : List Value} (hv : VRs g cs l) {off : Nat} {r : AV} (h : partA P t cs off = some r) :
    ∃ r', VR g r r' ∧ (part t ⟨l⟩ off).run P w = .ok r' w := by
  unfold partA at h
  split at h
  · rename_i n hg hz
    cases h
    refine ⟨.agg ((l.drop off).take n).toArray, .agg ((hv.drop off).take n), ?_⟩
    simp only [part, Sem.run_bind, run_isAgg' hg, Result.andThen_ok, if_true, run_size hz]
    simp [List.drop_take]
  · rename_i n hg hz
    obtain ⟨v, hv1, hv2⟩ := hv.get _ _ h
    refine ⟨v, hv2, ?_⟩
    simp only [part, Sem.run_bind, run_isAgg' hg, Result.andThen_ok]
    simp [hv1]
  · cases h

theorem fieldAddr_sound {t : TypeId} {x r : AV} {v : Value} {f : Nat} (hx : VR g x v) (h : fieldAddrA P t x f = some r) :
    ∃ r', VR g r r' ∧ (Instr.fieldAt t v f).run P w = .ok r' w := by
  unfold fieldAddrA at h
  split at h
  case h_2 => cases h
  rename_i fs hfs
  split at h
  case h_2 => cases h
  rename_i fd hfd
  split at h
  case h_2 => cases h
  rename_i n hz
  have key : ∀ a : Addr, (Instr.fieldAt t (.pointer (some a)) f).run P w = .ok (.pointer (some (a.add fd.offset))) w := by
    intro a
    simp [Instr.fieldAt, run_und hfs, hfd, Instr.sureAddr, fieldPlace, run_size hz]
  split at h
  · cases h
    cases hx with
    | ptr id off a h1 h2 => exact ⟨.pointer (some (a.add fd.offset)), .ptr _ _ _ h1 (fun b n hb => by rw [h2 b n hb, addr_add]), key a⟩
  · cases h
    cases hx with
    | ref cs off b hI =>
      refine ⟨_, ?_, key _⟩
      rw [addr_add]; exact .ref _ _ _ hI
  · cases h

theorem field_sound {t : TypeId} {x r : AV} {v : Value} {f : Nat} (hx : VR g x v) (h : fieldA P t x f = some r) :
    ∃ r', VR g r r' ∧ (Instr.field t v f).run P w = .ok r' w := by
  unfold fieldA at h
  split at h
  case h_2 => cases h
  rename_i fs cs hfs
  cases hx with
  | agg hv =>
    split at h
    case h_2 => cases h
    rename_i fd hfd
    obtain ⟨r', h1, h2⟩ := part_sound (P := P) (w := w) hv h
    refine ⟨r', h1, ?_⟩
    simp [Instr.field, run_und hfs, hfd, asAgg, h2]

theorem inR_wrap {k : IntKind} {n : Int} (h : inR k n = true) : k.wrap n = n := by
  cases k <;> simp only [inR, Bool.and_eq_true, decide_eq_true_eq] at h <;> simp [IntKind.wrap, IntKind.bits, IntKind.signed] <;> omega
theorem fit_sat {k : IntKind} {n : Int} {K : AV → Prop} (h : (fit k n).sat K) : K (.int k (k.wrap n)) := by
  unfold fit at h
  show K _
  cases hb : inR k n with
  | true => simp only [Tr.sat, hb] at h; rw [inR_wrap hb]; exact h
  | false => simpa only [Tr.sat, hb] using h

theorem size_mk (l : List UInt8) : (⟨l.toArray⟩ : ByteArray).size = l.length := by simp [ByteArray.size]
theorem append_mk (a b : List UInt8) : (⟨a.toArray⟩ : ByteArray) ++ ⟨b.toArray⟩ = ⟨(a ++ b).toArray⟩ := by
  apply ByteArray.ext; simp
theorem extract_mk (l : List UInt8) (a b : Nat) : (⟨l.toArray⟩ : ByteArray).extract a b = ⟨((l.take b).drop a).toArray⟩ := by
  apply ByteArray.ext
  rw [← Array.toList_inj]
  rw [show ((⟨l.toArray⟩ : ByteArray).extract a b).data.toList = _ from Lib.extract_data _ _ _]
  simp [List.drop_take]

theorem bytesLess_less : ∀ a b : List UInt8, Op.bytesLess a b = lessL a b
  | _, [] => by cases ‹List UInt8› <;> rfl
  | [], _ :: _ => rfl
  | a :: x, b :: y => by rw [Op.bytesLess, lessL, bytesLess_less x y, show (a == b) = decide (a = b) from by by_cases h : a = b <;> simp [h]]

theorem isNil_some {a : AV} {v : Value} (h : VR g a v) {b : Bool} (hb : isNilA a = some b) :
    (b = true ↔ v = .pointer none ∨ v = .slice none 0 0 ∨ v = .map none ∨ v = .nilFunc ∨ v = .nilIface) := by
  cases h <;> simp only [isNilA, Option.some.injEq, reduceCtorEq] at hb <;> subst hb <;> simp

set_option maxHeartbeats 2000000 in
theorem eq_sound0 {t : TypeId} {x y : AV} {v u : Value} (hx : VR g x v) (hy : VR g y u) {b : Bool} (h : eqA0 P t x y = some b) : (Op.equal t v u).run P w = .ok b w := by
  unfold Op.equal
  obtain ⟨dep, hdep⟩ : ∃ d, Op.maxDepth = d + 1 + 1 := ⟨9998, rfl⟩
  rw [hdep]
  have ptr2 : ∀ (d : Nat) (t e : TypeId) (a : Addr), P.underlying t = some (.pointer e) → (Op.equalIn (d + 1) t (.pointer none) (.pointer (some a))).run P w = .ok false w ∧ (Op.equalIn (d + 1) t (.pointer (some a)) (.pointer none)).run P w = .ok false w ∧ (Op.equalIn (d + 1) t (.pointer none) (.pointer none)).run P w = .ok true w := by
    intro d t e a ht; simp [Op.equalIn, run_und ht]
  unfold eqA0 at h
  split at h
  case h_20 =>
    rename_i a u' b' v'
    split at h
    case h_2 => cases h
    rename_i ms hms
    cases hx with
    | iface _ hx =>
      cases hy with
      | iface _ hy =>
        unfold eqIf at h
        cases hab : Nat.beq a b' with
        | false =>
          rw [hab] at h; cases h
          have : a ≠ b' := fun e => by rw [e, Nat.beq_refl] at hab; cases hab
          simp [Op.equalIn, run_und hms, this]
        | true =>
          rw [hab] at h
          have hab' : a = b' := Nat.eq_of_beq_eq_true hab
          subst hab'
          simp only [cond_true] at h
          split at h
          case h_2 => cases h
          rename_i i el hi hp
          obtain ⟨hc, h⟩ := cond_some h
          rw [Op.equalIn]
          simp only [Sem.run_bind, run_und hms, Result.andThen_ok]
          simp only [ne_eq, not_true_eq_false, if_false, Sem.run_bind, run_info hi, Result.andThen_ok, hc, Bool.not_true, Bool.false_eq_true]
          split at h <;> first | (cases h; done) | skip
          all_goals (cases h; cases hx; cases hy)
          · exact (ptr2 _ a el ⟨0, 0, none⟩ hp).2.2
          · exact (ptr2 _ a el _ hp).1
          · exact (ptr2 _ a el _ hp).1
          · exact (ptr2 _ a el _ hp).2.1
          · exact (ptr2 _ a el _ hp).2.1
  all_goals first | (cases h; done) | skip
  all_goals (split at h <;> first | (cases h; done) | skip)
  all_goals (cases h; cases hx; cases hy; (simp [Op.equalIn, run_und (by assumption)]; done))
end
end Go.AM
/- The abstract machine: equality of structures. -/
namespace Go.AM
section
variable {P : Program} {g : Ghost} {w : World}
theorem segs_val {x : AV} {v : Value} {l : List Seg} (h : VR g x v) (hx : toSegs x = some l) : SegsOK g.sv l ∧ v = .string ⟨(den g.sv l).toArray⟩ := by
  cases h <;> simp only [toSegs, Option.some.injEq, reduceCtorEq] at hx
  · subst hx; exact ⟨‹_›, rfl⟩
  · subst hx
    rename_i s
    obtain ⟨h1, h2⟩ := SegsOK_bytes (sv := g.sv) s
    exact ⟨h1, by rw [h2]⟩
theorem fldEq_ok {t : TypeId} {x y : AV} {v u : Value} (hx : VR g x v) (hy : VR g y u) (h : fldEq P t x y = true) (d : Nat) : (Op.equalIn (d + 1) t v u).run P w = .ok true w := by
  unfold fldEq at h
  split at h
  · rename_i k ht
    split at h
    · rename_i a m b n
      simp only [Bool.and_eq_true, decide_eq_true_eq] at h
      obtain ⟨h1, h2⟩ := h
      have h2 := intBeq_eq h2
      subst h1 h2
      cases hx; cases hy
      simp [Op.equalIn, run_und ht]
    · cases h
  · rename_i ht
    split at h
    · rename_i a b ha hb
      split at h
      · rename_i c hc
        subst h
        obtain ⟨a1, rfl⟩ := segs_val hx ha
        obtain ⟨b1, rfl⟩ := segs_val hy hb
        have := symEq_ok hc a1 b1
        have he : den g.sv a = den g.sv b := by simpa using this
        rw [he]
        have hb2 : ((⟨(den g.sv b).toArray⟩ : ByteArray) == ⟨(den g.sv b).toArray⟩) = true := by
          show ((den g.sv b).toArray == (den g.sv b).toArray) = true
          simp
        simp [Op.equalIn, run_und ht, hb2]
      · cases h
    · cases h
  · cases h
theorem eqFs_ok {xs ys : List AV} {l m : List Value} (hx : VRs g xs l) (hy : VRs g ys m) (d : Nat) : ∀ {fs : List Field}, eqFs P fs xs ys = true → (Op.eqFields (d + 1) ⟨l⟩ ⟨m⟩ fs).run P w = .ok true w
  | [], _ => by simp [Op.eqFields]
  | f :: fs, h => by
    simp only [eqFs, Bool.and_eq_true] at h
    obtain ⟨h1, h2⟩ := h
    have ih := eqFs_ok hx hy d h2
    split at h1
    · rename_i x y ha hb
      obtain ⟨r1, q1, q2⟩ := part_sound (P := P) (w := w) hx ha
      obtain ⟨r2, q3, q4⟩ := part_sound (P := P) (w := w) hy hb
      have q5 := fldEq_ok (P := P) (w := w) q1 q3 h1 d
      unfold Op.eqFields
      split
      · simp only [Sem.run_bind, q2, q4, q5, Result.andThen_ok, Bool.not_true, Bool.false_eq_true, if_false, ih]
      · exact ih
    · cases h1
theorem eq_sound {t : TypeId} {x y : AV} {v u : Value} (hx : VR g x v) (hy : VR g y u) {b : Bool} (h : eqA P t x y = some b) : (Op.equal t v u).run P w = .ok b w := by
  unfold eqA at h
  split at h
  · rename_i xs ys
    split at h
    case h_2 => cases h
    rename_i fs hfs
    rcases cond_yes h with ⟨hc, h⟩ | ⟨_, h⟩
    case inr => cases h
    cases h
    simp only [Bool.and_eq_true, Bool.not_eq_true'] at hc
    unfold Op.equal
    obtain ⟨dep, hdep⟩ : ∃ d, Op.maxDepth = d + 1 + 1 := ⟨9998, rfl⟩
    rw [hdep]
    cases hx with
    | agg hx =>
    cases hy with
    | agg hy =>
    have hF : P.fieldsOf t = fs := by unfold Program.fieldsOf; rw [hfs]
    rw [run_equalIn_struct w _ t _ _ (by rw [hF]; exact hfs) hc.1.1, hF]
    exact eqFs_ok hx hy dep hc.2
  · exact eq_sound0 hx hy h
theorem eqA_guard {t : TypeId} {l : List AV} {y : AV} {b : Bool} (h : eqA P t (.agg l) y = some b) : P.eqGuardType P.depth t = false := by
  unfold eqA at h
  split at h
  · split at h
    case h_2 => cases h
    rcases cond_yes h with ⟨hc, _⟩ | ⟨_, h⟩
    · simp only [Bool.and_eq_true, Bool.not_eq_true'] at hc
      exact hc.1.2
    · cases h
  · simp [eqA0] at h
end
end Go.AM
/- The abstract machine: operators, slices, indexes, conversions, assertions: the rest of what leaves the world alone. -/
namespace Go.AM

section
variable {P : Program} {g : Ghost} {σ : Store} {w : World}

theorem run_ret {v : Value} : (pure v : Sem Value).run P w = .ok v w := rfl

/-- What a value-only operation owes. -/
noncomputable def Owe (P : Program) (g : Ghost) (w : World) (s : Sem Value) (K : AV → Prop) : Prop := ∃ a v, K a ∧ VR g a v ∧ s.run P w = .ok v w

theorem Owe.of {s : Sem Value} {K : AV → Prop} {a : AV} {v : Value} (h : K a) (hv : VR g a v) (hr : s.run P w = .ok v w) : Owe P g w s K := ⟨a, v, h, hv, hr⟩

theorem eqGuard_ok {op : BinOp} {t : TypeId} {x y : Operand} {a b : AV} {v u : Value} (ha : VR g a v) (hb : VR g b u) (hc : ∀ l, a = .agg l → P.eqGuardType P.depth t = false) (hn : a = .nili → b = .nili → (constO x || constO y) = true) (ha' : a ≠ .any) (hb' : b ≠ .any) :
    (eqGuard op t x y v u).run P w = .ok () w := by
  cases op <;> first
    | rfl
    | (cases ha <;> cases hb <;> first
        | (exact absurd rfl ha')
        | (exact absurd rfl hb')
        | rfl
        | (have hcc := hc _ rfl; simp [eqGuard, run_program, hcc]; done)
        | (have := hn rfl rfl
           cases x <;> cases y <;> first | rfl | (simp [constO] at this; done)))

set_option maxHeartbeats 4000000 in
theorem bin_sound0 {op : BinOp} {t : TypeId} {x y : Operand} {a b : AV} {v u : Value} (ha : VR g a v) (hb : VR g b u) {K : AV → Prop} (h : (binA0 P op t a b (constO x || constO y)).sat K) :
    Owe P g w (do eqGuard op t x y v u; binOp op t v u) K := by
  unfold binA0 at h
  split at h
  · -- shl
    rename_i k a' k' b'
    obtain ⟨r, hr, h⟩ := Tr.sat_opt h
    cases ha; cases hb
    refine .of h (VR_ofV g r) ?_
    simp [eqGuard, binOp, Sem.run_calm w hr]
  · rename_i k a' k' b'
    obtain ⟨r, hr, h⟩ := Tr.sat_opt h
    cases ha; cases hb
    refine .of h (VR_ofV g r) ?_
    simp [eqGuard, binOp, Sem.run_calm w hr]
  · rename_i op' k a' k' b' hs1 hs2
    cases hk : decide (k = k') with
    | false => rw [hk] at h; exact h.elim
    | true =>
      rw [hk] at h
      have hk' : k = k' := of_decide_eq_true hk
      subst hk'
      cases ha; cases hb
      have hg : (eqGuard op t x y (.int k a') (.int k b')).run P w = .ok () w := by
        cases op <;> rfl
      simp only [cond_true] at h
      split at h <;> first | (exact h.elim) | skip
      · exact .of (fit_sat h) (.int _ _) (by simp [hg, binOp, Op.intArith])
      · exact .of (fit_sat h) (.int _ _) (by simp [hg, binOp, Op.intArith])
      · exact .of (fit_sat h) (.int _ _) (by simp [hg, binOp, Op.intArith])
      · obtain ⟨hm, h⟩ := Tr.sat_must h
        simp only [Bool.and_eq_true, decide_eq_true_eq] at hm
        have e1 : b' ≠ 0 := by omega
        have e2 : a'.tdiv b' = a' / b' := Int.tdiv_eq_ediv_of_nonneg hm.1
        exact .of (fit_sat h) (.int _ _) (by simp [hg, binOp, Op.intDiv, e1, e2])
      · obtain ⟨hm, h⟩ := Tr.sat_must h
        simp only [Bool.and_eq_true, decide_eq_true_eq] at hm
        have e1 : b' ≠ 0 := by omega
        have e2 : a'.tmod b' = a' % b' := Int.tmod_eq_emod_of_nonneg hm.1
        exact .of h (.int _ _) (by simp [hg, binOp, Op.intDiv, e1, e2])
      all_goals first
        | (obtain ⟨r, hr, h⟩ := Tr.sat_opt h
           exact .of h (VR_ofV g r) (by simp [hg, binOp, Sem.run_calm w hr]))
        | (refine .of h (.bool _) ?_
           simp only [Sem.run_bind, hg, Result.andThen_ok, binOp, ne_eq, not_true_eq_false, if_false, Op.intCmp]
           rfl)
  · -- strings
    cases ha; cases hb
    rename_i a' b'
    have hg : (eqGuard op t x y (.string ⟨a'.toArray⟩) (.string ⟨b'.toArray⟩)).run P w = .ok () w := by cases op <;> rfl
    split at h <;> first | (exact h.elim) | skip
    · obtain ⟨hm, h⟩ := Tr.sat_must h
      simp only [decide_eq_true_eq] at hm
      refine .of h (.str _) ?_
      have : ¬ (((⟨a'.toArray⟩ : ByteArray).size + (⟨b'.toArray⟩ : ByteArray).size : Nat) : Int) > IntKind.i64.max := by
        rw [size_mk, size_mk]; simp [IntKind.max, IntKind.bits, IntKind.signed]; omega
      simp only [Sem.run_bind, hg, Result.andThen_ok, binOp, Op.stringOp, this, if_false, append_mk]
      rfl
    · refine .of h (.bool _) ?_
      simp only [Sem.run_bind, hg, Result.andThen_ok, binOp, Op.stringOp, ByteArray.toList_mk]
      rw [show (a' == b') = decide (a' = b') from by by_cases hh : a' = b' <;> simp [hh]]
      rfl
    · refine .of h (.bool _) ?_
      simp only [Sem.run_bind, hg, Result.andThen_ok, binOp, Op.stringOp, ByteArray.toList_mk]
      rw [show (a' == b') = decide (a' = b') from by by_cases hh : a' = b' <;> simp [hh]]
      rfl
    · refine .of h (.bool _) ?_
      simp only [Sem.run_bind, hg, Result.andThen_ok, binOp, Op.stringOp, ByteArray.toList_mk, bytesLess_less]
      rfl
  · -- ==
    split at h
    · cases hc : (constO x || constO y) with
      | false => rw [hc] at h; exact h.elim
      | true =>
        rw [hc] at h
        simp only [cond_true] at h
        split at h <;> first | (exact h.elim) | skip
        rename_i ms hms
        have hg := eqGuard_ok (P := P) (w := w) (op := .eql) (t := t) (x := x) (y := y) ha hb (fun _ h => by cases h) (fun _ _ => hc) (fun h => by cases h) (fun h => by cases h)
        cases ha; cases hb
        refine .of h (.bool _) ?_
        have : (Op.equal t .nilIface .nilIface).run P w = .ok true w := by
          unfold Op.equal
          obtain ⟨dep, hdep⟩ : ∃ d, Op.maxDepth = d + 1 := ⟨9999, rfl⟩
          rw [hdep]
          simp [Op.equalIn, run_und hms]
        simp [hg, binOp, this]
    · rename_i hnn
      obtain ⟨b', hb', h⟩ := Tr.sat_opt h
      have hg : (eqGuard .eql t x y v u).run P w = .ok () w := by
        refine eqGuard_ok ha hb (fun l hl => by rw [hl] at hb'; exact eqA_guard hb') (fun e1 e2 => (hnn e1 e2).elim) (fun e => by rw [e] at hb'; cases b <;> simp [eqA, eqA0] at hb') (fun e => by rw [e] at hb'; cases a <;> simp [eqA, eqA0] at hb')
      refine .of h (.bool _) ?_
      have he := eq_sound (w := w) ha hb hb'
      have hne : ∀ k n k' n', ¬ (v = .int k n ∧ u = .int k' n') := by
        rintro k n k' n' ⟨rfl, rfl⟩; cases ha <;> cases hb <;> simp [eqA, eqA0] at hb'
      have hns : ∀ s s', ¬ (v = .string s ∧ u = .string s') := by
        rintro s s' ⟨rfl, rfl⟩; cases ha <;> cases hb <;> simp [eqA, eqA0] at hb'
      have hbo : (binOp .eql t v u).run P w = .ok (.bool b') w := by
        cases ha <;> cases hb <;> first
          | (simp [eqA, eqA0] at hb'; done)
          | (simp only [binOp, Sem.run_bind, he, Result.andThen_ok]; rfl)
      simp [hg, hbo]
  · split at h
    · cases hc : (constO x || constO y) with
      | false => rw [hc] at h; exact h.elim
      | true =>
        rw [hc] at h
        simp only [cond_true] at h
        split at h <;> first | (exact h.elim) | skip
        rename_i ms hms
        have hg := eqGuard_ok (P := P) (w := w) (op := .neq) (t := t) (x := x) (y := y) ha hb (fun _ h => by cases h) (fun _ _ => hc) (fun h => by cases h) (fun h => by cases h)
        cases ha; cases hb
        refine .of h (.bool _) ?_
        have : (Op.equal t .nilIface .nilIface).run P w = .ok true w := by
          unfold Op.equal
          obtain ⟨dep, hdep⟩ : ∃ d, Op.maxDepth = d + 1 := ⟨9999, rfl⟩
          rw [hdep]
          simp [Op.equalIn, run_und hms]
        simp [hg, binOp, this]
    · rename_i hnn
      obtain ⟨b', hb', h⟩ := Tr.sat_opt h
      have hg : (eqGuard .neq t x y v u).run P w = .ok () w := by
        refine eqGuard_ok ha hb (fun l hl => by rw [hl] at hb'; exact eqA_guard hb') (fun e1 e2 => (hnn e1 e2).elim) (fun e => by rw [e] at hb'; cases b <;> simp [eqA, eqA0] at hb') (fun e => by rw [e] at hb'; cases a <;> simp [eqA, eqA0] at hb')
      refine .of h (.bool _) ?_
      have he := eq_sound (w := w) ha hb hb'
      have hbo : (binOp .neq t v u).run P w = .ok (.bool (!b')) w := by
        cases ha <;> cases hb <;> first
          | (simp [eqA, eqA0] at hb'; done)
          | (simp only [binOp, Sem.run_bind, he, Result.andThen_ok]; rfl)
      simp [hg, hbo]
  · exact h.elim

theorem sym_segs {x : AV} {v : Value} {l : List Seg} (h : VR g x v) (hx : toSegs x = some l) : SegsOK g.sv l ∧ v = .string ⟨(den g.sv l).toArray⟩ := by
  cases h <;> simp only [toSegs, Option.some.injEq, reduceCtorEq] at hx
  case sstr l' hl => subst hx; exact ⟨hl, rfl⟩
  case str s => subst hx; exact ⟨(SegsOK_bytes s).1, by rw [(SegsOK_bytes s).2]⟩
theorem sym_lin {x : AV} {v : Value} {n : Int × List Tm} (h : VR g x v) (hx : toLin x = some n) : TsOK g.sv n.2 ∧ v = .int .i64 (n.1 + tval g.sv n.2) := by
  unfold toLin at hx
  split at hx
  · cases hx; cases h; exact ⟨trivial, by simp [tval]⟩
  · cases hx; cases h; exact ⟨by assumption, rfl⟩
  · cases hx
theorem VR_mkStr {l : List Seg} (h : SegsOK g.sv l) : VR g (mkStr l) (.string ⟨(den g.sv l).toArray⟩) := by
  unfold mkStr
  split
  · rename_i s hs; rw [segBytes_ok hs]; exact .str s
  · exact .sstr l h
theorem VR_mkLin {c : Int} {ts : List Tm} (h : TsOK g.sv ts) : VR g (mkLin c ts) (.int .i64 (c + tval g.sv ts)) := by
  unfold mkLin
  split
  · simp only [tval, Int.add_zero]; exact .int _ _
  · exact .lin c ts h

theorem clsCmp_ok {op : BinOp} {fl : Bool} {n : Nat} : ∀ {l : List UInt8} {b : Bool}, clsCmp op fl n l = some b → ∀ c ∈ l, cond fl (cmpN op n c.toNat) (cmpN op c.toNat n) = some b
  | [], b, h => by cases h
  | [c], b, h => by
    intro d hd
    cases hd with
    | head => exact h
    | tail _ hd => cases hd
  | c :: c2 :: l, b, h => by
    unfold clsCmp at h
    split at h
    · rename_i a' b' h1 h2
      rcases cond_yes h with ⟨h3, h4⟩ | ⟨h3, h4⟩
      · have h3 : a' = b' := by simpa using h3
        subst h3
        cases h4
        intro d hd
        cases hd with
        | head => exact h1
        | tail _ hd => exact clsCmp_ok h2 d hd
      · cases h4
    · cases h
theorem cmpN_sat {op : BinOp} {t : TypeId} {cy : Bool} {a b : Nat} {r : Bool} {k : IntKind} (h : cmpN op a b = some r) : (binA0 P op t (.int k a) (.int k b) cy).sat fun x => x = .bool r := by
  cases op <;> simp only [cmpN, Option.some.injEq, reduceCtorEq] at h <;> subst h
  all_goals
    simp only [binA0, decide_true, cond_true, Tr.sat]
    congr 1
    rw [Bool.eq_iff_iff]
    simp [Nat.blt_eq, Nat.ble_eq, Nat.beq_eq]
  all_goals first | omega | (rw [← Bool.not_eq_true, Nat.beq_eq]; omega)

theorem rnCmp {k k' : IntKind} {o : Option Bool} {r : AV} (h : cond (decide (k = k')) (match o with | some b => some (AV.bool b) | none => none) none = some r) : k = k' ∧ ∃ b, o = some b ∧ r = .bool b := by
  rcases cond_yes h with ⟨hk, h2⟩ | ⟨_, h2⟩
  · cases o with
    | none => cases h2
    | some b => cases h2; exact ⟨of_decide_eq_true hk, b, rfl, rfl⟩
  · cases h2
theorem fit_val (k : IntKind) (n : Int) : (fit k n).sat fun z => z = .int k (k.wrap n) := by
  unfold fit
  cases hb : inR k n with
  | true => simp only [Tr.sat]; rw [inR_wrap hb]
  | false => simp only [Tr.sat]
theorem numKind_ok {a : AV} {v : Value} {k : IntKind} (h : VR g a v) (hk : numKind a = some k) : ∃ n, v = .int k n := by
  cases h <;> simp only [numKind, Option.some.injEq, reduceCtorEq] at hk
  all_goals (subst hk; exact ⟨_, rfl⟩)
theorem numOp_some {op : BinOp} {k : IntKind} {x r : AV} (h : numOp op k x = some r) : ∃ k', numKind x = some k' ∧ k' = k ∧ r = .num k := by
  unfold numOp at h
  split at h
  case h_4 => cases h
  all_goals
    rename_i k' hx
    rcases cond_yes h with ⟨hk, h⟩ | ⟨_, h⟩
    · cases h; exact ⟨k', hx, (of_decide_eq_true hk).symm, rfl⟩
    · cases h
theorem numOp_op {op : BinOp} {k : IntKind} {x r : AV} (h : numOp op k x = some r) : op = .add ∨ op = .sub ∨ op = .mul := by
  unfold numOp at h
  split at h
  · exact .inl rfl
  · exact .inr (.inl rfl)
  · exact .inr (.inr rfl)
  · cases h
theorem symBin_sound {op : BinOp} {t : TypeId} {x y : Operand} {a b r : AV} {v u : Value} (h : symBin op a b = some r) (ha : VR g a v) (hb : VR g b u) : Owe P g w (do eqGuard op t x y v u; binOp op t v u) (fun z => z = r) := by
  have done : ∀ {a' b' r' : AV}, VR g a' v → VR g b' u → (binA0 P op t a' b' (constO x || constO y)).sat (fun z => z = r') → (∀ z, VR g r' z → VR g r z) → Owe P g w (do eqGuard op t x y v u; binOp op t v u) (fun z => z = r) := by
    intro a' b' r' h1 h2 h3 h4
    obtain ⟨z, v', e, h5, h6⟩ := bin_sound0 (w := w) h1 h2 h3
    subst e
    exact ⟨r, v', rfl, h4 _ h5, h6⟩
  unfold symBin at h
  rcases cond_yes h with ⟨_, h⟩ | ⟨_, h⟩
  case inr => cases h
  unfold symBin1 at h
  split at h
  · rename_i l n
    split at h
    case h_2 => cases h
    rename_i bb hc
    cases h
    cases ha with
    | cls _ c hm =>
    cases hb
    exact done (.int _ _) (.int _ _) (cmpN_sat (clsCmp_ok hc c hm)) fun z hz => hz
  · rename_i n l
    split at h
    case h_2 => cases h
    rename_i bb hc
    cases h
    cases hb with
    | cls _ c hm =>
    cases ha
    exact done (.int _ _) (.int _ _) (cmpN_sat (clsCmp_ok hc c hm)) fun z hz => hz
  · rename_i k l k' n
    obtain ⟨rfl, bb, hc, rfl⟩ := rnCmp h
    cases ha with
    | rn _ _ c hm =>
    cases hb
    exact done (.int _ _) (.int _ _) (cmpN_sat (clsCmp_ok hc c hm)) fun z hz => hz
  · rename_i k' n k l
    obtain ⟨rfl, bb, hc, rfl⟩ := rnCmp h
    cases hb with
    | rn _ _ c hm =>
    cases ha
    exact done (.int _ _) (.int _ _) (cmpN_sat (clsCmp_ok hc c hm)) fun z hz => hz
  · rename_i k _
    obtain ⟨k', hy, hkk, hr⟩ := numOp_some h
    subst hkk
    have hop := numOp_op h
    clear h
    subst hr
    obtain ⟨n, hn⟩ := numKind_ok ha (show numKind (.num k') = some k' from rfl)
    obtain ⟨m, hm⟩ := numKind_ok hb hy
    subst hn hm
    rcases hop with rfl | rfl | rfl
    · exact done (.int _ _) (.int _ _) (by simp only [binA0, decide_true, cond_true]; exact fit_val _ _) fun z hz => by cases hz; exact .num _ _
    · exact done (.int _ _) (.int _ _) (by simp only [binA0, decide_true, cond_true]; exact fit_val _ _) fun z hz => by cases hz; exact .num _ _
    · exact done (.int _ _) (.int _ _) (by simp only [binA0, decide_true, cond_true]; exact fit_val _ _) fun z hz => by cases hz; exact .num _ _
  · rename_i k _ _ _ _ _
    obtain ⟨k', hy, hkk, hr⟩ := numOp_some h
    subst hkk
    have hop := numOp_op h
    clear h
    subst hr
    obtain ⟨n, hn⟩ := numKind_ok hb (show numKind (.num k') = some k' from rfl)
    obtain ⟨m, hm⟩ := numKind_ok ha hy
    subst hn hm
    rcases hop with rfl | rfl | rfl
    · exact done (.int _ _) (.int _ _) (by simp only [binA0, decide_true, cond_true]; exact fit_val _ _) fun z hz => by cases hz; exact .num _ _
    · exact done (.int _ _) (.int _ _) (by simp only [binA0, decide_true, cond_true]; exact fit_val _ _) fun z hz => by cases hz; exact .num _ _
    · exact done (.int _ _) (.int _ _) (by simp only [binA0, decide_true, cond_true]; exact fit_val _ _) fun z hz => by cases hz; exact .num _ _
  · split at h
    · rename_i l m hl hm
      obtain ⟨l1, rfl⟩ := sym_segs ha hl
      obtain ⟨m1, rfl⟩ := sym_segs hb hm
      split at h
      · rcases cond_yes h with ⟨h1, h2⟩ | ⟨h1, h2⟩
        case inr => cases h2
        cases h2
        rw [leI_eq] at h1
        have h1 := of_decide_eq_true h1
        obtain ⟨s1, s2⟩ := segLen_ok (SegsOK_append l1 m1)
        have := max_ok s1
        refine done (.str _) (.str _) (r' := .str (den g.sv l ++ den g.sv m)) ?_ fun z hz => ?_
        · have hle : (den g.sv l).length + (den g.sv m).length ≤ 4611686018427387904 := by
            rw [den_append, List.length_append] at s2; omega
          simp only [binA0, must, Tr.sat, hle, decide_true]
        · cases hz
          rw [← den_append]
          exact VR_mkStr (SegsOK_append l1 m1)
      · split at h
        · rename_i bb he
          cases h
          refine done (.str _) (.str _) (r' := .bool bb) ?_ fun z hz => hz
          simp only [binA0, Tr.sat]
          rw [symEq_ok he l1 m1]
        · cases h
      · split at h
        · rename_i bb he
          cases h
          refine done (.str _) (.str _) (r' := .bool (!bb)) ?_ fun z hz => hz
          simp only [binA0, Tr.sat]
          rw [symEq_ok he l1 m1]
        · cases h
      · cases h
    · split at h
      case h_2 => cases h
      rename_i p q hp hq
      obtain ⟨p1, rfl⟩ := sym_lin ha hp
      obtain ⟨q1, rfl⟩ := sym_lin hb hq
      obtain ⟨a1, a2⟩ := addTs_ok p1 q1
      obtain ⟨n1, n2⟩ := negTs_ok q1
      obtain ⟨d1, d2⟩ := addTs_ok n1 p1
      rw [n2] at d2
      have amin := min_ok a1
      have amax := max_ok a1
      have dmin := min_ok d1
      have dmax := max_ok d1
      split at h
      · rcases cond_yes h with ⟨h1, h2⟩ | ⟨h1, h2⟩
        case inr => cases h2
        cases h2
        simp only [fitsI, Bool.and_eq_true, leI_eq, decide_eq_true_eq] at h1
        refine done (.int _ _) (.int _ _) (r' := .int .i64 (p.1 + tval g.sv p.2 + (q.1 + tval g.sv q.2))) ?_ fun z hz => ?_
        · have hr : inR .i64 (p.1 + tval g.sv p.2 + (q.1 + tval g.sv q.2)) = true := by simp only [inR, Bool.and_eq_true, decide_eq_true_eq]; omega
          simp only [binA0, decide_true, cond_true, fit, Tr.sat, hr]
        · cases hz
          rw [show p.1 + tval g.sv p.2 + (q.1 + tval g.sv q.2) = p.1 + q.1 + tval g.sv (addTs p.2 q.2) from by omega]
          exact VR_mkLin a1
      · rcases cond_yes h with ⟨h1, h2⟩ | ⟨h1, h2⟩
        case inr => cases h2
        cases h2
        simp only [fitsI, Bool.and_eq_true, leI_eq, decide_eq_true_eq] at h1
        refine done (.int _ _) (.int _ _) (r' := .int .i64 (p.1 + tval g.sv p.2 - (q.1 + tval g.sv q.2))) ?_ fun z hz => ?_
        · have hr : inR .i64 (p.1 + tval g.sv p.2 - (q.1 + tval g.sv q.2)) = true := by simp only [inR, Bool.and_eq_true, decide_eq_true_eq]; omega
          simp only [binA0, decide_true, cond_true, fit, Tr.sat, hr]
        · cases hz
          rw [show p.1 + tval g.sv p.2 - (q.1 + tval g.sv q.2) = p.1 - q.1 + tval g.sv (addTs (negTs q.2) p.2) from by omega]
          exact VR_mkLin d1
      · rename_i hna hns
        split at h
        case h_2 => cases h
        rename_i bb hc
        cases h
        have hk := linCmp_ok (v := p.1 - q.1 + tval g.sv (addTs (negTs q.2) p.2)) hc (by omega) (by omega)
        refine done (.int _ _) (.int _ _) (r' := .bool bb) ?_ fun z hz => hz
        cases op <;> first | (cases hc; done) | skip
        all_goals
          simp only at hk
          subst hk
          simp only [binA0, decide_true, cond_true, Tr.sat]
          congr 1
          rw [Bool.eq_iff_iff]
          simp only [decide_eq_true_eq, Bool.not_eq_true', decide_eq_false_iff_not]
          omega
theorem bin_sound {op : BinOp} {t : TypeId} {x y : Operand} {a b : AV} {v u : Value} (ha : VR g a v) (hb : VR g b u) {K : AV → Prop} (h : (binA P op t a b (constO x || constO y)).sat K) :
    Owe P g w (do eqGuard op t x y v u; binOp op t v u) K := by
  unfold binA at h
  split at h
  · rename_i r hr
    obtain ⟨z, v', e, h2, h3⟩ := symBin_sound (P := P) (w := w) (t := t) (x := x) (y := y) hr ha hb
    subst e
    exact ⟨_, v', h, h2, h3⟩
  · exact bin_sound0 ha hb h
end
end Go.AM
/- The abstract machine: slices, indexes, conversions, assertions, lengths, structs. -/
namespace Go.AM

section
variable {P : Program} {g : Ghost} {σ : Store} {w : World}

theorem run_asIntOf (k : IntKind) (n : Int) : (asIntOf (.int k n)).run P w = .ok (k, n) w := rfl

/-- Go's bounds of a slice expression. -/
theorem bounds_run {isSlice : Bool} {len cap : Nat} {lo hi : Option Value} {l h : Nat} (hl : ∀ v, lo = some v → ∃ k, v = .int k l) (hl0 : lo = none → l = 0) (hh : ∀ v, hi = some v → ∃ k, v = .int k h) (hh0 : hi = none → h = len)
    (h1 : l ≤ h) (h2 : hi ≠ none → h ≤ cap) : (Instr.sliceBounds isSlice len cap lo hi none).run P w = .ok (l, h, cap) w := by
  have e1 : ∀ (x y : Nat) (c : BoundsCode) (k : IntKind), x ≤ y → (Instr.sliceBound (.int k x) y c).run P w = .ok x w := by
    intro x y c k hxy
    have : (0 : Int) ≤ x ∧ (x : Int) ≤ y := by omega
    simp [Instr.sliceBound, asIntOf, this]
  unfold Instr.sliceBounds
  cases hi with
  | none =>
    have := hh0 rfl; subst this
    cases lo with
    | none => have := hl0 rfl; subst this; rfl
    | some v => obtain ⟨k, rfl⟩ := hl v rfl; simp [e1 _ _ _ _ h1]
  | some u =>
    obtain ⟨k', rfl⟩ := hh u rfl
    have h3 := h2 (by simp)
    cases lo with
    | none => have := hl0 rfl; subst this; simp [e1 _ _ _ _ h3]
    | some v => obtain ⟨k, rfl⟩ := hl v rfl; simp [e1 _ _ _ _ h1, e1 _ _ _ _ h3]

theorem bound_some {x : Option AV} {d n : Int} (h : boundA x d = some n) {v : Option Value} (hv : ∀ a, x = some a → ∃ u, v = some u ∧ VR g a u) (hx : x = none → v = none) (h0 : 0 ≤ n) :
    (∀ u, v = some u → ∃ k, u = .int k n.toNat) ∧ (v = none → n = d) := by
  cases x with
  | none => simp only [boundA, Option.some.injEq] at h; rw [hx rfl]; exact ⟨(fun u hu => by cases hu), fun _ => h.symm⟩
  | some a =>
    obtain ⟨u, rfl, hu⟩ := hv a rfl
    cases hu <;> simp only [boundA, Option.some.injEq, reduceCtorEq] at h
    subst h
    rename_i k n
    exact ⟨(fun u hu => by cases hu; exact ⟨k, by rw [Int.toNat_of_nonneg h0]⟩), (fun h => by cases h)⟩

/-- Operands that may be left out. -/
noncomputable def OR (g : Ghost) (x : Option AV) (v : Option Value) : Prop := (∀ a, x = some a → ∃ u, v = some u ∧ VR g a u) ∧ (x = none → v = none)

theorem slice_sound0 (hs : Sim g σ w) {t : TypeId} {x : AV} {v : Value} (hx : VR g x v) {lo hi : Option AV} {lo' hi' : Option Value} (hlo : OR g lo lo') (hhi : OR g hi hi') {K : AV → Prop} (h : (sliceA0 P σ t x lo hi).sat K) :
    Owe P g w (Instr.slice t v lo' hi' none) K := by
  unfold sliceA0 at h
  split at h
  · rename_i s hu
    cases hx
    split at h
    case h_2 => exact h.elim
    rename_i l hh hl1 hl2
    obtain ⟨hm, h⟩ := Tr.sat_must h
    simp only [Bool.and_eq_true, decide_eq_true_eq] at hm
    obtain ⟨⟨m1, m2⟩, m3⟩ := hm
    obtain ⟨a1, a2⟩ := bound_some hl1 hlo.1 hlo.2 m1
    obtain ⟨b1, b2⟩ := bound_some hl2 hhi.1 hhi.2 (by omega)
    refine .of h (.str _) ?_
    have hb := bounds_run (P := P) (w := w) (isSlice := false) (len := s.length) (cap := s.length) (l := l.toNat) (h := hh.toNat) a1 (fun e => by rw [a2 e]; rfl) b1 (fun e => by rw [b2 e]; rfl) (by omega) (fun _ => by omega)
    simp only [Instr.slice, Sem.run_bind, run_und hu, Result.andThen_ok, Option.isSome, Bool.false_eq_true, if_false, size_mk, hb, extract_mk]
    rfl
  · rename_i e id off len cap z' hu
    cases hx with
    | slice _ _ _ _ _ a c h1 h2 hcb =>
    split at h
    case h_2 => exact h.elim
    rename_i l hh z hl1 hl2 hz
    obtain ⟨hm, hq⟩ := Tr.sat_must h
    simp only [Bool.and_eq_true, decide_eq_true_eq] at hm
    obtain ⟨⟨⟨m1, m2⟩, m3⟩, m4⟩ := hm
    have m4 : z = z' := Nat.eq_of_beq_eq_true m4
    subst m4
    split at hz
    case h_2 => cases hz
    rename_i bl hbl
    obtain ⟨a1, a2⟩ := bound_some hl1 hlo.1 hlo.2 m1
    obtain ⟨b1, b2⟩ := bound_some hl2 hhi.1 hhi.2 (by omega)
    have hcap : ∀ c, cap ≤ c → (Instr.slice t (.slice (some a) len c) lo' hi' none).run P w = .ok (.slice (if c = l.toNat then some a else some (a.add (l.toNat * z))) (hh.toNat - l.toNat) (c - l.toNat)) w := by
      intro c hc
      have hb := bounds_run (P := P) (w := w) (isSlice := true) (len := len) (cap := c) (l := l.toNat) (h := hh.toNat) a1 (fun e => by rw [a2 e]; rfl) b1 (fun e => by rw [b2 e]; rfl) (by omega) (fun _ => by omega)
      simp only [Instr.slice, Sem.run_bind, run_und hu, Result.andThen_ok, hb, run_size hz]
      rfl
    obtain ⟨b, n, o, hp, _⟩ := hs.blk _ _ hbl
    obtain ⟨rfl, hn, hcc⟩ := h2 b n hp
    by_cases hlt : l < cap
    · have h : K (.slice id (off + l.toNat * z) (hh - l).toNat (cap - l.toNat) z) := by simpa only [Tr.sat, hlt, decide_true] using hq
      refine .of h ?_ (hcap c hcc)
      rw [if_neg (by omega), addr_add]
      have e1 : hh.toNat - l.toNat = (hh - l).toNat := by omega
      rw [e1]
      refine .slice _ _ _ _ _ _ _ h1 (fun b' n' hp' => ?_) (by omega)
      rw [hp] at hp'
      simp only [Option.some.injEq, Prod.mk.injEq] at hp'
      obtain ⟨rfl, rfl⟩ := hp'
      refine ⟨rfl, ?_, by omega⟩
      rw [Nat.sub_mul, ← hn]
      have := Nat.mul_le_mul_right z (show l.toNat ≤ c by omega)
      omega
    · have h : K .eslice := by simpa only [Tr.sat, hlt, decide_false] using hq
      refine .of h ?_ (hcap c hcc)
      have e1 : hh.toNat - l.toNat = 0 := by omega
      rw [e1]
      exact .eslice _ _
  · rename_i e cs off len hu
    cases hx with
    | rslice _ _ _ b c hI hc =>
    split at h
    case h_2 => exact h.elim
    rename_i l hh z hl1 hl2 hz
    obtain ⟨hm, h⟩ := Tr.sat_must h
    simp only [Bool.and_eq_true, decide_eq_true_eq] at hm
    obtain ⟨⟨m1, m2⟩, m3⟩ := hm
    obtain ⟨a1, a2⟩ := bound_some hl1 hlo.1 hlo.2 m1
    obtain ⟨b1, b2⟩ := bound_some hl2 hhi.1 hhi.2 (by omega)
    have hrun : (Instr.slice t (.slice (some ⟨b, off, none⟩) len c) lo' hi' none).run P w = .ok (.slice (if c = l.toNat then some ⟨b, off, none⟩ else some ((⟨b, off, none⟩ : Addr).add (l.toNat * z))) (hh.toNat - l.toNat) (c - l.toNat)) w := by
      have hb := bounds_run (P := P) (w := w) (isSlice := true) (len := len) (cap := c) (l := l.toNat) (h := hh.toNat) a1 (fun e => by rw [a2 e]; rfl) b1 (fun e => by rw [b2 e]; rfl) (by omega) (fun _ => by omega)
      simp only [Instr.slice, Sem.run_bind, run_und hu, Result.andThen_ok, hb, run_size hz]
      rfl
    by_cases hlt : l < len
    · have h : K (.rslice cs (off + l.toNat * z) (hh - l).toNat) := by simpa only [Tr.sat, hlt, decide_true] using h
      refine .of h ?_ hrun
      rw [if_neg (by omega), addr_add]
      have e1 : hh.toNat - l.toNat = (hh - l).toNat := by omega
      rw [e1]
      exact .rslice _ _ _ _ _ hI (by omega)
    · have h : K .eslice := by simpa only [Tr.sat, hlt, decide_false] using h
      refine .of h ?_ hrun
      have e1 : hh.toNat - l.toNat = 0 := by omega
      rw [e1]
      exact .eslice _ _
  · rename_i e hu
    cases hx
    split at h
    case h_2 => exact h.elim
    rename_i l hh _ hl1 hl2 hz
    obtain ⟨hm, h⟩ := Tr.sat_must h
    simp only [Bool.and_eq_true, decide_eq_true_eq] at hm
    obtain ⟨rfl, rfl⟩ := hm
    obtain ⟨a1, a2⟩ := bound_some hl1 hlo.1 hlo.2 (by omega)
    obtain ⟨b1, b2⟩ := bound_some hl2 hhi.1 hhi.2 (by omega)
    refine .of h .nils ?_
    have hb := bounds_run (P := P) (w := w) (isSlice := true) (len := 0) (cap := 0) (l := 0) (h := 0) a1 (fun _ => rfl) b1 (fun _ => rfl) (by omega) (fun _ => by omega)
    simp only [Instr.slice, Sem.run_bind, run_und hu, Result.andThen_ok, hb, run_size hz]
    simp
  · rename_i e hu
    cases hx with
    | eslice a c =>
    split at h
    case h_2 => exact h.elim
    rename_i l hh _ hl1 hl2 hz
    obtain ⟨hm, h⟩ := Tr.sat_must h
    simp only [Bool.and_eq_true, decide_eq_true_eq] at hm
    obtain ⟨rfl, rfl⟩ := hm
    obtain ⟨a1, a2⟩ := bound_some hl1 hlo.1 hlo.2 (by omega)
    obtain ⟨b1, b2⟩ := bound_some hl2 hhi.1 hhi.2 (by omega)
    have hb := bounds_run (P := P) (w := w) (isSlice := true) (len := 0) (cap := c) (l := 0) (h := 0) a1 (fun _ => rfl) b1 (fun _ => rfl) (by omega) (fun _ => by omega)
    refine .of h (.eslice (if c = 0 then a else a.map fun x => x.add 0) c) ?_
    simp only [Instr.slice, Sem.run_bind, run_und hu, Result.andThen_ok, hb, run_size hz]
    simp
  · exact h.elim

/-- The bound of a slice expression, as a number. -/
theorem bound_conc {x : Option AV} {v : Option Value} (hv : OR g x v) : (x = none → ∀ d, boundA (none : Option AV) d = some d ∧ OR g none v) ∧ (∀ a n, x = some a → toLin a = some n → TsOK g.sv n.2 ∧ OR g (some (.int .i64 (n.1 + tval g.sv n.2))) v) := by
  refine ⟨fun h d => ⟨rfl, (fun a ha => by cases ha), fun _ => hv.2 h⟩, fun a n h hn => ?_⟩
  obtain ⟨u, h1, h2⟩ := hv.1 a h
  obtain ⟨h3, h4⟩ := sym_lin h2 hn
  refine ⟨h3, fun b hb => ?_, fun h0 => by cases h0⟩
  cases hb
  exact ⟨u, h1, by rw [h4]; exact .int _ _⟩

theorem symHi_ok {l m : List Seg} {x : Option AV} {v : Option Value} (h : symHi l x = some m) (hl : SegsOK g.sv l) (hv : OR g x v) : SegsOK g.sv m ∧ ∃ x' n, OR g x' v ∧ boundA x' (den g.sv l).length = some n ∧ 0 ≤ n ∧ n ≤ (den g.sv l).length ∧ den g.sv m = (den g.sv l).take n.toNat := by
  cases x with
  | none =>
    cases h
    exact ⟨hl, none, (den g.sv l).length, ((bound_conc hv).1 rfl 0).2, rfl, by omega, Int.le_refl _, by simp⟩
  | some a =>
    unfold symHi at h
    simp only at h
    split at h
    case h_2 => cases h
    rename_i n hn
    split at h
    case h_2 => cases h
    rename_i p hp
    cases h
    obtain ⟨h3, h4⟩ := (bound_conc hv).2 a n rfl hn
    obtain ⟨e1, e2, e3, e4⟩ := symSplit_ok hp hl h3
    refine ⟨e3, _, _, h4, rfl, by omega, ?_, ?_⟩
    · rw [e1, List.length_append]; omega
    · rw [e1, ← e2, Int.toNat_natCast, List.take_left]
theorem symLo_ok {l m : List Seg} {x : Option AV} {v : Option Value} (h : symLo l x = some m) (hl : SegsOK g.sv l) (hv : OR g x v) : SegsOK g.sv m ∧ ∃ x' n, OR g x' v ∧ boundA x' 0 = some n ∧ 0 ≤ n ∧ n ≤ (den g.sv l).length ∧ den g.sv m = (den g.sv l).drop n.toNat := by
  cases x with
  | none =>
    cases h
    exact ⟨hl, none, 0, ((bound_conc hv).1 rfl 0).2, rfl, by omega, by omega, by simp⟩
  | some a =>
    unfold symLo at h
    simp only at h
    split at h
    case h_2 => cases h
    rename_i n hn
    split at h
    case h_2 => cases h
    rename_i p hp
    cases h
    obtain ⟨h3, h4⟩ := (bound_conc hv).2 a n rfl hn
    obtain ⟨e1, e2, e3, e4⟩ := symSplit_ok hp hl h3
    refine ⟨e4, _, _, h4, rfl, by omega, ?_, ?_⟩
    · rw [e1, List.length_append]; omega
    · rw [e1, ← e2, Int.toNat_natCast, List.drop_left]

/-- A bound of a row's part. -/
theorem linO_ok {d n : Int × List Tm} {x : Option AV} {v : Option Value} (h : linO d x = some n) (hd : TsOK g.sv d.2) (hv : OR g x v) : TsOK g.sv n.2 ∧ (∀ u, v = some u → u = .int .i64 (n.1 + tval g.sv n.2)) ∧ (v = none → n = d) := by
  cases x with
  | none =>
    cases h
    exact ⟨hd, (fun u hu => by rw [hv.2 rfl] at hu; cases hu), fun _ => rfl⟩
  | some a =>
    obtain ⟨u, h1, h2⟩ := hv.1 a rfl
    obtain ⟨h3, h4⟩ := sym_lin h2 h
    refine ⟨h3, (fun u' hu => ?_), fun e => by rw [h1] at e; cases e⟩
    rw [h1] at hu; cases hu; exact h4
theorem slice_soundR {t e : TypeId} (hu : P.underlying t = some (.slice e)) {id : Nat} {o c : Int} {os ts : List Tm} {v : Value} (hx : VR g (.rsl id o os c ts) v) {lo hi : Option AV} {lo' hi' : Option Value} (hlo : OR g lo lo') (hhi : OR g hi hi') {K : AV → Prop} (h : (sliceR P e id o os c ts lo hi).sat K) :
    Owe P g w (Instr.slice t v lo' hi' none) K := by
  unfold sliceR at h
  split at h
  case h_2 => exact h.elim
  rename_i l hh hl1 hl2 hz
  obtain ⟨hm, hq⟩ := Tr.sat_must h
  simp only [Bool.and_eq_true, leI_eq, decide_eq_true_eq] at hm
  obtain ⟨⟨⟨m1, m2⟩, m3⟩, m4⟩ := hm
  cases hx with
  | rsl _ _ _ _ _ a off len cp hO hT ho h0 hlc h1 h2 h3 =>
  obtain ⟨t1, a1, a2⟩ := linO_ok hl1 trivial hlo
  obtain ⟨t2, b1, b2⟩ := linO_ok hl2 hT hhi
  obtain ⟨n1, n2⟩ := negTs_ok t1
  obtain ⟨n3, n4⟩ := negTs_ok t2
  obtain ⟨s1, s2⟩ := addTs_ok n1 t2
  obtain ⟨s3, s4⟩ := addTs_ok n3 hT
  obtain ⟨s5, s6⟩ := addTs_ok n1 hT
  obtain ⟨s7, s8⟩ := addTs_ok t1 hO
  have k1 := min_ok t1
  have k2 := min_ok s1
  have k3 := min_ok s3
  have k4 := min_ok s5
  obtain ⟨L, hL⟩ : ∃ L : Nat, (L : Int) = l.1 + tval g.sv l.2 := ⟨(l.1 + tval g.sv l.2).toNat, by omega⟩
  obtain ⟨H, hH⟩ : ∃ H : Nat, (H : Int) = hh.1 + tval g.sv hh.2 := ⟨(hh.1 + tval g.sv hh.2).toNat, by omega⟩
  have hLH : L ≤ H := by omega
  have hHl : H ≤ len := by omega
  have hLl : L < len := by omega
  have hb := bounds_run (P := P) (w := w) (isSlice := true) (len := len) (cap := cp) (lo := lo') (hi := hi') (l := L) (h := H)
    (fun u hu => ⟨.i64, by rw [a1 u hu, hL]⟩) (fun e => by have := a2 e; subst this; simp only [tval] at hL; omega)
    (fun u hu => ⟨.i64, by rw [b1 u hu, hH]⟩) (fun e => by have := b2 e; subst this; simp only at hH; omega) hLH (fun _ => by omega)
  refine ⟨_, .slice (some (a.add (L * 1))) (H - L) (cp - L), hq, ?_, ?_⟩
  · refine .rsl _ _ _ _ _ _ (off + L) _ _ s7 s1 ?_ ?_ (by omega) h1 (fun b n hp => ?_) (by omega)
    · rw [s8]; push_cast; omega
    · rw [s2, n2]; omega
    · obtain ⟨rfl, h5⟩ := h2 b n hp
      exact ⟨by rw [addr_add, Nat.mul_one], by omega⟩
  · simp only [Instr.slice, Sem.run_bind, run_und hu, Result.andThen_ok, hb, run_size hz]
    rw [if_neg (by omega)]
    rfl
theorem slice_soundB {t e : TypeId} (hu : P.underlying t = some (.slice e)) {id : Nat} {c : Int} {ts : List Tm} {v : Value} (hx : VR g (.bsl id c ts) v) {lo hi : Option AV} {lo' hi' : Option Value} (hlo : OR g lo lo') (hhi : OR g hi hi') {K : AV → Prop} (h : (sliceB P e id c ts lo hi).sat K) :
    Owe P g w (Instr.slice t v lo' hi' none) K := by
  unfold sliceB at h
  split at h
  case h_2 => exact h.elim
  rename_i z hl1 hz
  obtain ⟨t1, a1, a2⟩ := linO_ok hl1 trivial hlo
  have hh := hhi.2 rfl
  subst hh
  have hx0 := hx
  cases hx with
  | bsl _ _ _ a len cp hT h0 h1 h2 h3 =>
  by_cases hlc : len ≤ cp
  · have hb := bounds_run (P := P) (w := w) (isSlice := true) (len := len) (cap := cp) (lo := lo') (hi := none) (l := 0) (h := len)
      (fun u hu => ⟨.i64, by rw [a1 u hu]; rfl⟩) (fun _ => rfl) (fun u hu => by cases hu) (fun _ => rfl) (Nat.zero_le _) (fun h => absurd rfl h)
    refine ⟨_, .slice (some a) len cp, h, hx0, ?_⟩
    simp only [Instr.slice, Sem.run_bind, run_und hu, Result.andThen_ok, hb, run_size hz]
    rcases a with ⟨ab, ao, ap⟩
    simp [Addr.add]
  · have hb := bounds_run (P := P) (w := w) (isSlice := true) (len := len) (cap := cp) (lo := lo') (hi := none) (l := 0) (h := len)
      (fun u hu => ⟨.i64, by rw [a1 u hu]; rfl⟩) (fun _ => rfl) (fun u hu => by cases hu) (fun _ => rfl) (Nat.zero_le _) (fun h => absurd rfl h)
    refine ⟨_, .slice (some a) len cp, h, hx0, ?_⟩
    simp only [Instr.slice, Sem.run_bind, run_und hu, Result.andThen_ok, hb, run_size hz]
    rcases a with ⟨ab, ao, ap⟩
    simp [Addr.add]
theorem slice_sound (hs : Sim g σ w) {t : TypeId} {x : AV} {v : Value} (hx : VR g x v) {lo hi : Option AV} {lo' hi' : Option Value} (hlo : OR g lo lo') (hhi : OR g hi hi') {K : AV → Prop} (h : (sliceA P σ t x lo hi).sat K) :
    Owe P g w (Instr.slice t v lo' hi' none) K := by
  unfold sliceA at h
  split at h
  · rename_i r hu hr
    unfold symSlice at hr
    rcases cond_yes hr with ⟨_, hr⟩ | ⟨_, hr⟩
    case inr => cases hr
    split at hr
    case h_2 => cases hr
    rename_i l hl
    split at hr
    case h_2 => cases hr
    rename_i m hm
    split at hr
    case h_2 => cases hr
    rename_i q hq
    cases hr
    obtain ⟨l1, rfl⟩ := sym_segs hx hl
    obtain ⟨m1, xh, nh, oh, bh, h0, h1, hd⟩ := symHi_ok hm l1 hhi
    obtain ⟨q1, xl, nl, ol, bl, k0, k1, kd⟩ := symLo_ok hq m1 hlo
    have hk : nl ≤ nh := by rw [hd, List.length_take] at k1; omega
    have main : (sliceA0 P σ t (.str (den g.sv l)) xl xh).sat fun z => z = .str (den g.sv q) := by
      unfold sliceA0
      rw [hu]
      simp only [bl, bh, must, Tr.sat, k0, hk, h1, decide_true, Bool.and_self]
      rw [kd, hd]
    obtain ⟨z, v', e, h5, h6⟩ := slice_sound0 (P := P) hs (.str _) ol oh main
    subst e
    cases h5
    exact ⟨_, _, h, VR_mkStr q1, h6⟩
  · rename_i e _ hu
    split at h
    · exact slice_soundR hu hx hlo hhi h
    · exact slice_soundB hu hx hlo hhi h
    · exact slice_sound0 hs hx hlo hhi h
  · exact slice_sound0 hs hx hlo hhi h
end
end Go.AM
