/- FnDots, run by the abstract machine at unknown words. -/
import Derived.Test.YtfmgdjkcdmjloaaGreatDoorDTab
import Derived.Test.YtfmgdjkcdmjloaaGreatDoorDWord
import Derived.KernelRfl
import Derived.Test.YtfmgdjkcdmjloaaGreatDoorSnRa
set_option linter.unusedVariables false
set_option linter.unusedSimpArgs false
namespace Go.Proofs.YtfmgdjkcdmjloaaGreatDoor
open Go.AM
noncomputable def fuel : Nat := 1000
noncomputable def deep : Nat := 60
noncomputable def runD : FuncId → List AV → Store → Tr R := Go.AM.runT (tabD fuel) deep
/-- Plain bytes, up to so many. -/
noncomputable def wP (i lo : Nat) : Seg := .w (16 * (16 * (i + 1) + 13) + 9) (imgCls 9 (clsT 13)) lo 100
/-- Three full stops, any number of times; ellipses, as many. -/
noncomputable def wE (i : Nat) : Seg := .w (16 * (16 * (i + 1) + 14) + 9) (imgCls 9 (clsT 14)) 0 100
noncomputable def wF (i : Nat) : Seg := .w (16 * (16 * (i + 1) + 14) + 10) (imgCls 10 (clsT 14)) 0 100
/-- Both, as one word; what is made of it. -/
noncomputable def wM : Seg := .w (16 * (16 * 1 + 15) + 9) (imgCls 9 (clsT 15)) 0 100
noncomputable def wN : Seg := .w (16 * (16 * 1 + 15) + 10) (imgCls 10 (clsT 15)) 0 100
/-- Groups: three full stops, more of them, plain bytes. -/
noncomputable def gX : Nat → Nat → List Seg
  | _, 0 => []
  | i, m + 1 => .b 46 :: .b 46 :: .b 46 :: wE i :: wP (i + 1) (cond (Nat.beq m 0) 0 1) :: gX (i + 1) m
noncomputable def gF : Nat → Nat → List Seg
  | _, 0 => []
  | i, m + 1 => .b 226 :: .b 128 :: .b 166 :: wF i :: wP (i + 1) (cond (Nat.beq m 0) 0 1) :: gF (i + 1) m
/-- Full stops at the end. -/
noncomputable def tl (n : Nat) : List Seg := match n with
  | 0 => [.b 120]
  | 1 => [.b 46, .b 120]
  | _ => [.b 46, .b 46, .b 120]
noncomputable def tX (k n : Nat) : List Seg := .b 120 :: wP 0 0 :: (gX 0 k ++ tl n)
noncomputable def tF (k n : Nat) : List Seg := .b 120 :: wP 0 0 :: (gF 0 k ++ tl n)
noncomputable def tH (k n : Nat) : List Seg := .b 60 :: .b 112 :: .b 62 :: (tF k n ++ [.b 60, .b 47, .b 112, .b 62, .b 10])
/-- Blocks behind the HTML. -/
noncomputable def nH (k : Nat) : Nat := match k with
  | 0 => 92
  | k + 1 => 114 + 17 * k
/-- The HTML of such a text; what it comes to in ellipses. -/
noncomputable def rH (k n : Nat) : Bool := okL (runD 12 ([optD] ++ [.sstr (tX k n)]) { t := .leaf, next := 0 }) (tH k n) (nH k)
noncomputable def rF (k n : Nat) : Bool := okE (runD 13 ([] ++ [.sstr (.b 120 :: wM :: tl n)]) { t := .leaf, next := nH k }) (.b 120 :: wN :: tl n)
end Go.Proofs.YtfmgdjkcdmjloaaGreatDoor
/- Texts of letters, spaces and full stops, parted at three full stops. -/
namespace Go.Proofs.YtfmgdjkcdmjloaaGreatDoor
open Go.AM
/-- The parts: plain bytes; three full stops, more of them, plain bytes; so many full stops at the end. -/
structure Pt where
  p : List UInt8
  gs : List (List UInt8 × List UInt8)
  t : Nat
noncomputable def denG (q : List UInt8 × List UInt8) : List UInt8 := 46 :: 46 :: 46 :: (imgL 9 q.1 ++ imgL 9 q.2)
noncomputable def Pt.den (d : Pt) : List UInt8 := imgL 9 d.p ++ (d.gs.flatMap denG ++ List.replicate d.t 46)
noncomputable def lastOk : List (List UInt8 × List UInt8) → Prop
  | [] => True
  | [_] => True
  | q :: r :: l => q.2 ≠ [] ∧ lastOk (r :: l)
structure Pt.OK (d : Pt) : Prop where
  p : ∀ c ∈ d.p, c ∈ clsT 13
  gs : ∀ q ∈ d.gs, (∀ c ∈ q.1, c ∈ clsT 14) ∧ ∀ c ∈ q.2, c ∈ clsT 13
  last : lastOk d.gs
  t : d.t ≤ 2
theorem dotE : ∀ {e : List UInt8}, (∀ c ∈ e, c ∈ clsT 14) → ∀ r : List UInt8, 46 :: (imgL 9 e ++ r) = imgL 9 e ++ 46 :: r
  | [], _, _ => rfl
  | c :: e, h, r => by
    have hc : c = 69 := by simpa [clsT] using h c (List.mem_cons_self ..)
    subst hc
    have ih := dotE (e := e) (fun d hd => h d (List.mem_cons_of_mem _ hd)) r
    have h1 : imgL 9 (69 :: e) = 46 :: 46 :: 46 :: imgL 9 e := rfl
    rw [h1]
    simp only [List.cons_append]
    rw [← ih]
theorem lastOk_cons {q : List UInt8 × List UInt8} {l : List (List UInt8 × List UInt8)} (h : q.2 ≠ []) (hl : lastOk l) : lastOk (q :: l) := by
  cases l with
  | nil => trivial
  | cons r l => exact ⟨h, hl⟩
theorem lastOk_set {q q' : List UInt8 × List UInt8} {l : List (List UInt8 × List UInt8)} (h : lastOk (q :: l)) (hq : q.2 ≠ [] → q'.2 ≠ []) : lastOk (q' :: l) := by
  cases l with
  | nil => trivial
  | cons r l => exact ⟨hq h.1, h.2⟩
theorem lastOk_tail {q : List UInt8 × List UInt8} {l : List (List UInt8 × List UInt8)} (h : lastOk (q :: l)) : lastOk l := by
  cases l with
  | nil => trivial
  | cons r l => exact h.2
/-- A full stop ahead of a plain byte: another plain byte, or three full stops and one. -/
noncomputable def upD (u : UInt8) : Option UInt8 := match u.toNat with
  | 97 => some 1
  | 98 => some 2
  | 32 => some 3
  | 1 => some 4
  | 2 => some 5
  | 3 => some 6
  | _ => none
noncomputable def downD (u : UInt8) : UInt8 := match u.toNat with
  | 4 => 97
  | 5 => 98
  | _ => 32
theorem up_ok : ∀ u ∈ clsT 13, (∃ v, upD u = some v ∧ v ∈ clsT 13 ∧ mapB 9 v = 46 :: mapB 9 u) ∨ (upD u = none ∧ downD u ∈ clsT 13 ∧ mapB 9 u = 46 :: 46 :: mapB 9 (downD u)) := by
  intro u hu
  simp only [clsT, List.mem_cons, List.mem_nil_iff, or_false] at hu
  rcases hu with rfl | rfl | rfl | rfl | rfl | rfl | rfl | rfl | rfl
  · exact .inl ⟨1, rfl, by decide, rfl⟩
  · exact .inl ⟨2, rfl, by decide, rfl⟩
  · exact .inl ⟨3, rfl, by decide, rfl⟩
  · exact .inl ⟨4, rfl, by decide, rfl⟩
  · exact .inl ⟨5, rfl, by decide, rfl⟩
  · exact .inl ⟨6, rfl, by decide, rfl⟩
  · exact .inr ⟨rfl, by decide, rfl⟩
  · exact .inr ⟨rfl, by decide, rfl⟩
  · exact .inr ⟨rfl, by decide, rfl⟩
theorem img_cons (m : Nat) (c : UInt8) (l : List UInt8) : imgL m (c :: l) = mapB m c ++ imgL m l := rfl
theorem cls69 : (69 : UInt8) ∈ clsT 14 := by decide
theorem parts : ∀ s : List UInt8, (∀ c ∈ s, c ∈ [97, 98, 32, 46]) → ∃ d : Pt, d.OK ∧ d.den = s
  | [], _ => ⟨⟨[], [], 0⟩, ⟨fun _ h => (by cases h), fun _ h => (by cases h), trivial, by decide⟩, rfl⟩
  | c :: s, h => by
    obtain ⟨⟨p, gs, t⟩, ⟨hp, hg, hl, ht⟩, rfl⟩ := parts s fun d hd => h d (List.mem_cons_of_mem _ hd)
    have ht : t ≤ 2 := ht
    have hc := h c (List.mem_cons_self ..)
    by_cases h46 : c = 46
    case neg =>
      have hc13 : c ∈ clsT 13 ∧ mapB 9 c = [c] := by
        simp only [List.mem_cons, List.mem_nil_iff, or_false] at hc
        rcases hc with rfl | rfl | rfl | rfl
        · exact ⟨by decide, rfl⟩
        · exact ⟨by decide, rfl⟩
        · exact ⟨by decide, rfl⟩
        · exact (h46 rfl).elim
      refine ⟨⟨c :: p, gs, t⟩, ⟨fun d hd => ?_, hg, hl, ht⟩, ?_⟩
      · rcases List.mem_cons.1 hd with rfl | hd
        · exact hc13.1
        · exact hp d hd
      · simp only [Pt.den, img_cons, hc13.2]; rfl
    subst h46
    cases p with
    | cons u p =>
      have hu := hp u (List.mem_cons_self ..)
      have hp' : ∀ d ∈ p, d ∈ clsT 13 := fun d hd => hp d (List.mem_cons_of_mem _ hd)
      rcases up_ok u hu with ⟨v, _, hv, e⟩ | ⟨_, hv, e⟩
      · refine ⟨⟨v :: p, gs, t⟩, ⟨fun d hd => ?_, hg, hl, ht⟩, ?_⟩
        · rcases List.mem_cons.1 hd with rfl | hd
          · exact hv
          · exact hp' d hd
        · simp only [Pt.den, img_cons, e]; rfl
      · refine ⟨⟨[], ([], downD u :: p) :: gs, t⟩, ⟨fun _ h => (by cases h), fun q hq => ?_, lastOk_cons (by simp) hl, ht⟩, ?_⟩
        · rcases List.mem_cons.1 hq with rfl | hq
          · refine ⟨fun _ h => (by cases h), fun d hd => ?_⟩
            rcases List.mem_cons.1 hd with rfl | hd
            · exact hv
            · exact hp' d hd
          · exact hg q hq
        · simp only [Pt.den, e, List.flatMap_cons, denG, imgL, List.flatMap_nil, List.nil_append, List.cons_append, List.append_assoc]
    | nil =>
      cases gs with
      | nil =>
        rcases (by omega : t = 0 ∨ t = 1 ∨ t = 2) with rfl | rfl | rfl
        · exact ⟨⟨[], [], 1⟩, ⟨fun _ h => (by cases h), fun _ h => (by cases h), trivial, by decide⟩, rfl⟩
        · exact ⟨⟨[], [], 2⟩, ⟨fun _ h => (by cases h), fun _ h => (by cases h), trivial, by decide⟩, rfl⟩
        · exact ⟨⟨[], [([], [])], 0⟩, ⟨fun _ h => (by cases h), fun q hq => (by
            rcases List.mem_cons.1 hq with rfl | hq
            · exact ⟨fun _ h => (by cases h), fun _ h => (by cases h)⟩
            · cases hq), trivial, by decide⟩, rfl⟩
      | cons q gs =>
        obtain ⟨e, q⟩ := q
        have hgq := hg (e, q) (List.mem_cons_self ..)
        have hgs : ∀ q ∈ gs, (∀ c ∈ q.1, c ∈ clsT 14) ∧ ∀ c ∈ q.2, c ∈ clsT 13 := fun x hx => hg x (List.mem_cons_of_mem _ hx)
        have hE : ∀ r : List UInt8, 46 :: (imgL 9 e ++ r) = imgL 9 e ++ 46 :: r := dotE hgq.1
        have hE69 : ∀ c ∈ (69 :: e), c ∈ clsT 14 := fun c hc => by
          rcases List.mem_cons.1 hc with rfl | hc
          · exact cls69
          · exact hgq.1 c hc
        have i69 : imgL 9 (69 :: e) = 46 :: 46 :: 46 :: imgL 9 e := rfl
        cases q with
        | cons u q =>
          have hu := hgq.2 u (List.mem_cons_self ..)
          have hq' : ∀ d ∈ q, d ∈ clsT 13 := fun d hd => hgq.2 d (List.mem_cons_of_mem _ hd)
          rcases up_ok u hu with ⟨v, _, hv, ev⟩ | ⟨_, hv, ev⟩
          · refine ⟨⟨[], (e, v :: q) :: gs, t⟩, ⟨fun _ h => (by cases h), fun x hx => ?_, lastOk_set hl (fun _ => by simp), ht⟩, ?_⟩
            · rcases List.mem_cons.1 hx with rfl | hx
              · refine ⟨hgq.1, fun d hd => ?_⟩
                rcases List.mem_cons.1 hd with rfl | hd
                · exact hv
                · exact hq' d hd
              · exact hgs x hx
            · simp only [Pt.den, List.flatMap_cons, denG, img_cons, ev, List.cons_append, List.append_assoc]
              rw [← hE]
              rfl
          · refine ⟨⟨[], (69 :: e, downD u :: q) :: gs, t⟩, ⟨fun _ h => (by cases h), fun x hx => ?_, lastOk_set hl (fun _ => by simp), ht⟩, ?_⟩
            · rcases List.mem_cons.1 hx with rfl | hx
              · refine ⟨hE69, fun d hd => ?_⟩
                rcases List.mem_cons.1 hd with rfl | hd
                · exact hv
                · exact hq' d hd
              · exact hgs x hx
            · simp only [Pt.den, List.flatMap_cons, denG, i69, img_cons, ev, List.cons_append, List.append_assoc]
              rw [← hE, ← hE]
              rfl
        | nil =>
          have hgn : gs = [] := by
            cases gs with
            | nil => rfl
            | cons r l => exact (hl.1 rfl).elim
          subst hgn
          have base : ∀ n, (⟨[], [(e, [])], n⟩ : Pt).den = 46 :: 46 :: 46 :: (imgL 9 e ++ List.replicate n 46) := by
            intro n
            simp [Pt.den, denG, imgL]
          have okE : ∀ n, n ≤ 2 → (⟨[], [(e, [])], n⟩ : Pt).OK := fun n hn => ⟨fun _ h => (by cases h), hg, trivial, hn⟩
          rcases (by omega : t = 0 ∨ t = 1 ∨ t = 2) with rfl | rfl | rfl
          · refine ⟨⟨[], [(e, [])], 1⟩, okE 1 (by omega), ?_⟩
            rw [base, base, show List.replicate 1 (46 : UInt8) = 46 :: List.replicate 0 46 from rfl, ← hE]
          · refine ⟨⟨[], [(e, [])], 2⟩, okE 2 (by omega), ?_⟩
            rw [base, base, show List.replicate 2 (46 : UInt8) = 46 :: List.replicate 1 46 from rfl, ← hE]
          · refine ⟨⟨[], [(69 :: e, [])], 0⟩, ⟨fun _ h => (by cases h), fun x hx => ?_, trivial, Nat.zero_le _⟩, ?_⟩
            · rcases List.mem_cons.1 hx with rfl | hx
              · exact ⟨hE69, fun _ h => (by cases h)⟩
              · cases hx
            · rw [base, show List.replicate 2 (46 : UInt8) = 46 :: 46 :: List.replicate 0 46 from rfl, ← hE, ← hE]
              simp [Pt.den, denG, imgL]
              rfl
/-- How long the groups are. -/
theorem gs_len : ∀ {gs : List (List UInt8 × List UInt8)}, lastOk gs → 4 * gs.length ≤ (gs.flatMap denG).length + 1
  | [], _ => by simp
  | [q], _ => by simp [denG]
  | q :: r :: l, h => by
    have ih := gs_len h.2
    have h1 : 1 ≤ (imgL 9 q.2).length := by
      have := (imgL_len 9 q.2).1
      have : 0 < q.2.length := List.length_pos_iff.2 h.1
      omega
    have e : ((q :: r :: l).flatMap denG).length = (denG q).length + ((r :: l).flatMap denG).length := by rw [List.flatMap_cons, List.length_append]
    have e2 : (denG q).length = 3 + ((imgL 9 q.1).length + (imgL 9 q.2).length) := by simp [denG]; omega
    rw [e, e2, List.length_cons]
    omega
theorem g_len : ∀ {gs : List (List UInt8 × List UInt8)} {q}, q ∈ gs → (imgL 9 q.1).length + (imgL 9 q.2).length ≤ (gs.flatMap denG).length
  | q' :: l, q, h => by
    rw [List.flatMap_cons, List.length_append]
    rcases List.mem_cons.1 h with rfl | h
    · simp [denG]; omega
    · have := g_len h
      omega
end Go.Proofs.YtfmgdjkcdmjloaaGreatDoor
/- FnDots: what the runs say of a text in parts. -/
namespace Go.Proofs.YtfmgdjkcdmjloaaGreatDoor
open Go.AM
/-- All parts as one word. -/
noncomputable def mixG (q : List UInt8 × List UInt8) : List UInt8 := 69 :: (q.1 ++ q.2)
noncomputable def mixD (d : Pt) : List UInt8 := d.p ++ d.gs.flatMap mixG
theorem mixD_ok {d : Pt} (hd : d.OK) : ∀ c ∈ mixD d, c ∈ clsT 15 := by
  have h13 : ∀ c : UInt8, c ∈ clsT 13 → c ∈ clsT 15 := fun c h => by
    simp only [clsT, List.mem_cons, List.mem_nil_iff, or_false] at h ⊢
    rcases h with rfl | rfl | rfl | rfl | rfl | rfl | rfl | rfl | rfl <;> decide
  have h14 : ∀ c : UInt8, c ∈ clsT 14 → c ∈ clsT 15 := fun c h => by
    simp only [clsT, List.mem_cons, List.mem_nil_iff, or_false] at h ⊢
    subst h; decide
  intro c hc
  unfold mixD at hc
  rcases List.mem_append.1 hc with h | h
  · exact h13 c (hd.p c h)
  · obtain ⟨q, hq, h⟩ := List.mem_flatMap.1 h
    obtain ⟨c1, c2⟩ := hd.gs q hq
    rcases List.mem_cons.1 h with rfl | h
    · decide
    · rcases List.mem_append.1 h with h | h
      · exact h14 c (c1 c h)
      · exact h13 c (c2 c h)
/-- The words of a text in parts. -/
noncomputable def bvD (d : Pt) (B : Nat) : List UInt8 :=
  if B % 16 = 13 then (if B / 16 = 1 then d.p else ((d.gs[B / 16 - 2]?).map (·.2)).getD [])
  else if B % 16 = 14 then ((d.gs[B / 16 - 1]?).map (·.1)).getD []
  else if B % 16 = 15 then (if B / 16 = 1 then mixD d else []) else []
theorem bvD_ok {d : Pt} (hd : d.OK) (B : Nat) : ∀ c, c ∈ bvD d B → c ∈ clsT (B % 16) := by
  intro c hc
  unfold bvD at hc
  split at hc
  · rename_i h
    rw [h]
    split at hc
    · exact hd.p c hc
    · cases hq : d.gs[B / 16 - 2]? with
      | none => rw [hq] at hc; cases hc
      | some q => rw [hq] at hc; exact (hd.gs q (List.mem_of_getElem? hq)).2 c hc
  · split at hc
    · rename_i h
      rw [h]
      cases hq : d.gs[B / 16 - 1]? with
      | none => rw [hq] at hc; cases hc
      | some q => rw [hq] at hc; exact (hd.gs q (List.mem_of_getElem? hq)).1 c hc
    · split at hc
      · rename_i h
        rw [h]
        split at hc
        · exact mixD_ok hd c hc
        · cases hc
      · cases hc
theorem sv0 (d : Pt) : svOf (bvD d) (16 * (16 * (0 + 1) + 13) + 9) = imgL 9 d.p := rfl
theorem svP {d : Pt} {i : Nat} {q} (h : d.gs[i]? = some q) : svOf (bvD d) (16 * (16 * (i + 1 + 1) + 13) + 9) = imgL 9 q.2 := by
  unfold svOf bvD
  rw [show (16 * (16 * (i + 1 + 1) + 13) + 9) / 16 = 16 * (i + 1 + 1) + 13 by omega, show (16 * (16 * (i + 1 + 1) + 13) + 9) % 16 = 9 by omega, if_pos (by omega), if_neg (by omega), show (16 * (i + 1 + 1) + 13) / 16 - 2 = i by omega, h]
  rfl
theorem svE {d : Pt} {i : Nat} {q} {m : Nat} (hm : m < 16) (h : d.gs[i]? = some q) : svOf (bvD d) (16 * (16 * (i + 1) + 14) + m) = imgL m q.1 := by
  unfold svOf bvD
  rw [show (16 * (16 * (i + 1) + 14) + m) / 16 = 16 * (i + 1) + 14 by omega, show (16 * (16 * (i + 1) + 14) + m) % 16 = m by omega, if_neg (by omega), if_pos (by omega), show (16 * (i + 1) + 14) / 16 - 1 = i by omega, h]
  rfl
noncomputable def denF (q : List UInt8 × List UInt8) : List UInt8 := 226 :: 128 :: 166 :: (imgL 10 q.1 ++ imgL 9 q.2)
theorem drop_cons {α : Type} {l : List α} {i m : Nat} (h : i + (m + 1) = l.length) : ∃ q, l[i]? = some q ∧ l.drop i = q :: l.drop (i + 1) := by
  have hi : i < l.length := by omega
  exact ⟨l[i], List.getElem?_eq_getElem hi, List.drop_eq_getElem_cons hi⟩
theorem den_gX {d : Pt} : ∀ {m i : Nat}, i + m = d.gs.length → den (svOf (bvD d)) (gX i m) = (d.gs.drop i).flatMap denG
  | 0, i, h => by rw [List.drop_eq_nil_of_le (by omega)]; rfl
  | m + 1, i, h => by
    obtain ⟨q, h1, h2⟩ := drop_cons h
    have ih := den_gX (d := d) (m := m) (i := i + 1) (by omega)
    rw [h2, List.flatMap_cons, ← ih]
    show 46 :: 46 :: 46 :: (svOf (bvD d) (16 * (16 * (i + 1) + 14) + 9) ++ (svOf (bvD d) (16 * (16 * (i + 1 + 1) + 13) + 9) ++ den (svOf (bvD d)) (gX (i + 1) m))) = _
    rw [svE (by omega) h1, svP h1]
    simp [denG]
theorem den_gF {d : Pt} : ∀ {m i : Nat}, i + m = d.gs.length → den (svOf (bvD d)) (gF i m) = (d.gs.drop i).flatMap denF
  | 0, i, h => by rw [List.drop_eq_nil_of_le (by omega)]; rfl
  | m + 1, i, h => by
    obtain ⟨q, h1, h2⟩ := drop_cons h
    have ih := den_gF (d := d) (m := m) (i := i + 1) (by omega)
    rw [h2, List.flatMap_cons, ← ih]
    show 226 :: 128 :: 166 :: (svOf (bvD d) (16 * (16 * (i + 1) + 14) + 10) ++ (svOf (bvD d) (16 * (16 * (i + 1 + 1) + 13) + 9) ++ den (svOf (bvD d)) (gF (i + 1) m))) = _
    rw [svE (by omega) h1, svP h1]
    simp [denF]
theorem lastOk_at : ∀ {gs : List (List UInt8 × List UInt8)} {i : Nat} {q}, lastOk gs → gs[i]? = some q → i + 1 < gs.length → q.2 ≠ []
  | [], i, q, _, h, _ => by cases h
  | [_], i, q, _, h, h2 => by simp at h2
  | q' :: r :: l, 0, q, hl, h, _ => by cases h; exact hl.1
  | q' :: r :: l, i + 1, q, hl, h, h2 => lastOk_at (gs := r :: l) hl.2 (by simpa using h) (by simpa using h2)
theorem ok_gX {d : Pt} (hd : d.OK) (hq : ∀ q ∈ d.gs, (imgL 9 q.1).length + (imgL 9 q.2).length ≤ 100) : ∀ {m i : Nat}, i + m = d.gs.length → SegsOK (svOf (bvD d)) (gX i m)
  | 0, i, h => trivial
  | m + 1, i, h => by
    obtain ⟨q, h1, h2⟩ := drop_cons h
    have hm := List.mem_of_getElem? h1
    have hl := hq q hm
    obtain ⟨c1, c2⟩ := hd.gs q hm
    have ih := ok_gX hd hq (m := m) (i := i + 1) (by omega)
    refine ⟨⟨Nat.zero_le _, by rw [svE (by omega) h1]; omega, by rw [svE (by omega) h1]; exact imgL_mem c1⟩, ⟨?_, by rw [svP h1]; omega, by rw [svP h1]; exact imgL_mem c2⟩, ih⟩
    rw [svP h1]
    cases m with
    | zero => exact Nat.zero_le _
    | succ m =>
      have hn := lastOk_at hd.last h1 (by omega)
      have h3 := (imgL_len 9 q.2).1
      have h4 : 0 < q.2.length := List.length_pos_iff.2 hn
      show 1 ≤ _
      omega
theorem tl_ok (sv : Nat → List UInt8) : ∀ n, n ≤ 2 → den sv (tl n) = List.replicate n 46 ++ [120] ∧ SegsOK sv (tl n)
  | 0, _ => ⟨rfl, trivial⟩
  | 1, _ => ⟨rfl, trivial⟩
  | 2, _ => ⟨rfl, trivial⟩
  | n + 3, h => by omega
theorem gF_len : ∀ {gs : List (List UInt8 × List UInt8)}, (∀ q ∈ gs, (imgL 9 q.1).length + (imgL 9 q.2).length ≤ 100) → (gs.flatMap denF).length ≤ 703 * gs.length
  | [], _ => by simp
  | q :: l, h => by
    have ih := gF_len (gs := l) fun x hx => h x (List.mem_cons_of_mem _ hx)
    have h1 := h q (List.mem_cons_self ..)
    have h2 := imgL_len 10 q.1
    have h3 := imgL_len 9 q.1
    rw [List.flatMap_cons, List.length_append, List.length_cons]
    have : (denF q).length = 3 + ((imgL 10 q.1).length + (imgL 9 q.2).length) := by simp [denF]; omega
    omega
theorem svM (d : Pt) (m : Nat) (hm : m < 16) : svOf (bvD d) (16 * (16 * 1 + 15) + m) = imgL m (mixD d) := by
  unfold svOf bvD
  rw [show (16 * (16 * 1 + 15) + m) / 16 = 31 by omega, show (16 * (16 * 1 + 15) + m) % 16 = m by omega]
  rfl
theorem img9_10 : ∀ {p : List UInt8}, (∀ c ∈ p, c ∈ clsT 13) → imgL 10 p = imgL 9 p
  | [], _ => rfl
  | c :: p, h => by
    rw [img_cons, img_cons, img9_10 fun d hd => h d (List.mem_cons_of_mem _ hd)]
    congr 1
    have hc := h c (List.mem_cons_self ..)
    simp only [clsT, List.mem_cons, List.mem_nil_iff, or_false] at hc
    rcases hc with rfl | rfl | rfl | rfl | rfl | rfl | rfl | rfl | rfl <;> rfl
theorem mix9 {d : Pt} : imgL 9 (mixD d) = imgL 9 d.p ++ d.gs.flatMap denG := by
  have : ∀ gs : List (List UInt8 × List UInt8), imgL 9 (gs.flatMap mixG) = gs.flatMap denG := by
    intro gs
    induction gs with
    | nil => rfl
    | cons q gs ih =>
      rw [List.flatMap_cons, List.flatMap_cons, imgL_append, ih]
      congr 1
      show imgL 9 (69 :: (q.1 ++ q.2)) = _
      rw [img_cons, imgL_append]
      rfl
  unfold mixD
  rw [imgL_append, this]
theorem mix10 {d : Pt} (hd : d.OK) : imgL 10 (mixD d) = imgL 9 d.p ++ d.gs.flatMap denF := by
  have : ∀ gs : List (List UInt8 × List UInt8), (∀ q ∈ gs, ∀ c ∈ q.2, c ∈ clsT 13) → imgL 10 (gs.flatMap mixG) = gs.flatMap denF := by
    intro gs
    induction gs with
    | nil => intro _; rfl
    | cons q gs ih =>
      intro h
      rw [List.flatMap_cons, List.flatMap_cons, imgL_append, ih fun x hx => h x (List.mem_cons_of_mem _ hx)]
      congr 1
      show imgL 10 (69 :: (q.1 ++ q.2)) = _
      rw [img_cons, imgL_append, img9_10 (h q (List.mem_cons_self ..))]
      rfl
  unfold mixD
  rw [imgL_append, img9_10 hd.p, this _ fun q hq => (hd.gs q hq).2]
theorem dots_run {d : Pt} (hd : d.OK) (hlen : d.den.length ≤ 100) (hH : rH d.gs.length d.t = true) (hF : rF d.gs.length d.t = true) :
    ∃ (E : List UInt8) (b : Nat), E.length ≤ 100000 ∧ CallOK X0 12 [optD, .str (120 :: (d.den ++ [120]))] (lf 0) (.ret (.str (60 :: 112 :: 62 :: (E ++ [60, 47, 112, 62, 10])), lf (nH d.gs.length))) ∧ CallOK X0 13 [.str (120 :: (d.den ++ [120]))] (lf (nH d.gs.length)) (.ret (.str E, lf b)) := by
  have hrun : RunOK X0 runD := Go.AM.runT_ok (fun run h => tabD_ok fuel run h) deep
  have hlen2 := hlen
  simp only [Pt.den, List.length_append] at hlen2
  have hq : ∀ q ∈ d.gs, (imgL 9 q.1).length + (imgL 9 q.2).length ≤ 100 := fun q h => by
    have := g_len h
    omega
  have hk : d.gs.length ≤ 25 := by
    have := gs_len hd.last
    omega
  obtain ⟨t1, t2⟩ := tl_ok (svOf (bvD d)) d.t hd.t
  have hX : den (svOf (bvD d)) (tX d.gs.length d.t) = 120 :: (d.den ++ [120]) := by
    show 120 :: (svOf (bvD d) (16 * (16 * (0 + 1) + 13) + 9) ++ den (svOf (bvD d)) (gX 0 d.gs.length ++ tl d.t)) = _
    rw [sv0, den_append, den_gX (by omega), t1, List.drop_zero]
    simp [Pt.den]
  have hW : SegsOK (svOf (bvD d)) (tX d.gs.length d.t) := by
    refine ⟨⟨Nat.zero_le _, by rw [sv0]; omega, by rw [sv0]; exact imgL_mem hd.p⟩, SegsOK_append (ok_gX hd hq (by omega)) t2⟩
  have hHd : den (svOf (bvD d)) (tH d.gs.length d.t) = 60 :: 112 :: 62 :: (den (svOf (bvD d)) (tF d.gs.length d.t) ++ [60, 47, 112, 62, 10]) := by
    show 60 :: 112 :: 62 :: den (svOf (bvD d)) (tF d.gs.length d.t ++ [.b 60, .b 47, .b 112, .b 62, .b 10]) = _
    rw [den_append]; rfl
  have hFl : (den (svOf (bvD d)) (tF d.gs.length d.t)).length ≤ 100000 := by
    show (120 :: (svOf (bvD d) (16 * (16 * (0 + 1) + 13) + 9) ++ den (svOf (bvD d)) (gF 0 d.gs.length ++ tl d.t))).length ≤ _
    rw [sv0, den_append, den_gF (by omega), t1, List.drop_zero]
    have := gF_len hq
    have := hd.t
    simp only [List.length_cons, List.length_append, List.length_replicate, List.length_nil]
    omega
  have hM : den (svOf (bvD d)) (.b 120 :: wM :: tl d.t) = 120 :: (d.den ++ [120]) := by
    show 120 :: (svOf (bvD d) (16 * (16 * 1 + 15) + 9) ++ den (svOf (bvD d)) (tl d.t)) = _
    rw [svM d 9 (by omega), mix9, t1]
    simp [Pt.den]
  have hN : den (svOf (bvD d)) (.b 120 :: wN :: tl d.t) = den (svOf (bvD d)) (tF d.gs.length d.t) := by
    show 120 :: (svOf (bvD d) (16 * (16 * 1 + 15) + 10) ++ den (svOf (bvD d)) (tl d.t)) = 120 :: (svOf (bvD d) (16 * (16 * (0 + 1) + 13) + 9) ++ den (svOf (bvD d)) (gF 0 d.gs.length ++ tl d.t))
    rw [svM d 10 (by omega), mix10 hd, sv0, den_append, den_gF (by omega), List.drop_zero, List.append_assoc]
  have hMW : SegsOK (svOf (bvD d)) (.b 120 :: wM :: tl d.t) := by
    refine ⟨⟨Nat.zero_le _, ?_, ?_⟩, t2⟩
    · rw [svM d 9 (by omega), mix9, List.length_append]; omega
    · rw [svM d 9 (by omega)]; exact imgL_mem (mixD_ok hd)
  refine ⟨den (svOf (bvD d)) (tF d.gs.length d.t), nxT (runD 13 ([] ++ [.sstr (.b 120 :: wM :: tl d.t)]) { t := .leaf, next := nH d.gs.length }), hFl, ?_, ?_⟩
  · rw [← hX, ← hHd]
    exact lift_ok hrun (pre := [optD]) hH (bvD_ok hd) hW rfl
  · rw [← hM, ← hN]
    exact lift_ok hrun (pre := []) (okE_L hF) (bvD_ok hd) hMW rfl
end Go.Proofs.YtfmgdjkcdmjloaaGreatDoor
