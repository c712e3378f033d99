/- The beginning of a run: words given. -/
import Derived.Test.YtfmgdjkcdmjloaaGreatDoorSxWc
import Derived.Test.YtfmgdjkcdmjloaaGreatDoorWTab
import Derived.WalkKit
import Derived.ProofKit
import Derived.OpenShut
import Derived.Lay
import Derived.LaidOnce
import Derived.SevenTiedAt
import Derived.JoinedOf
import Derived.RowKit
import Derived.LaidLaws
import Derived.Stop.Joined
import Derived.ChangeMaps5
import Derived.Test.YtfmgdjkcdmjloaaGreatDoorWV0
import Derived.Test.YtfmgdjkcdmjloaaGreatDoorWV1
import Derived.Test.YtfmgdjkcdmjloaaGreatDoorWV2
import Derived.Test.YtfmgdjkcdmjloaaGreatDoorWV3
import Derived.Test.YtfmgdjkcdmjloaaGreatDoorWV4
import Derived.Test.YtfmgdjkcdmjloaaGreatDoorWV5
import Derived.Test.YtfmgdjkcdmjloaaGreatDoorWV6
import Derived.Test.YtfmgdjkcdmjloaaGreatDoorWV7
import Derived.Test.YtfmgdjkcdmjloaaGreatDoorWV8
import Derived.Test.YtfmgdjkcdmjloaaGreatDoorWWord
set_option linter.unusedVariables false
set_option linter.unusedSimpArgs false
namespace Go.Proofs.YtfmgdjkcdmjloaaGreatDoor
open Go.ChangeMaps Go.ChangeShapes Go.WideShapes Go.ChangeAt Go.RowKit Go.AM
def bvOf : List (Nat × List UInt8) → Nat → List UInt8
  | [], _ => []
  | p :: r, B => if B = p.1 then p.2 else bvOf r B
def okBv (l : List (Nat × List UInt8)) : Prop := ∀ p ∈ l, ∀ c ∈ p.2, c ∈ clsT (p.1 % 16)
theorem bvOf_ok : ∀ {l : List (Nat × List UInt8)}, okBv l → ∀ B c, c ∈ bvOf l B → c ∈ clsT (B % 16)
  | [], _, _, _, h => by cases h
  | p :: r, hl, B, c, h => by
    unfold bvOf at h
    split at h
    · rename_i e
      rw [e]; exact hl p (List.mem_cons_self ..) c h
    · exact bvOf_ok (fun q hq => hl q (List.mem_cons_of_mem _ hq)) B c h
/-- A ghost that tells of words alone. -/
def ghostT (l : List (Nat × List UInt8)) (h : okBv l) : Ghost := { π := fun _ => none, I := fun _ => none, next := 0, bv := bvOf l, bok := bvOf_ok h, iok := fun _ _ h => by cases h }
section
variable {l : List (Nat × List UInt8)} {hl : okBv l}
theorem simT (w : World) : Sim (ghostT l hl) { t := .leaf, next := 0 } w where
  next := rfl
  blk := fun id bl h => by simp [Store.get, PT.get] at h
  inj := fun _ _ _ _ _ h => by cases h
  imm := fun _ _ h => by cases h
  apart := fun _ _ _ _ h => by cases h
  lt := fun _ _ _ h => by cases h
theorem extT {g : Ghost} {w w' : World} (h : Ext (ghostT l hl) g w w') : Below w.heap.size w w' :=
  ⟨h.os, h.tape, h.output, h.size, fun b hb => h.keep b hb fun _ _ h => by cases h⟩
theorem finT {w : World} {e : Ending} {w' : World} : Post (ghostT l hl) w (fun r => r.1 = .bool true) e w' → e = .returned (.bool true) ∧ Below w.heap.size w w' := by
  rintro ⟨v, a, σ', g', rfl, ha, hs, he, hv⟩
  subst ha
  cases hv
  exact ⟨rfl, extT he⟩
theorem svT (B : Nat) : (ghostT l hl).sv (16 * B) = bvOf l B := by
  unfold Ghost.sv
  rw [show 16 * B / 16 = B by omega, show 16 * B % 16 = 0 by omega]
  exact imgL_zero _
theorem segT {B lo hi : Nat} {rest : List Seg} (h1 : lo ≤ (bvOf l B).length) (h2 : (bvOf l B).length ≤ hi) (h3 : SegsOK (ghostT l hl).sv rest) : SegsOK (ghostT l hl).sv (wrd B lo hi :: rest) :=
  ⟨⟨by rw [svT]; exact h1, by rw [svT]; exact h2, fun c hc => by rw [svT] at hc; exact bvOf_ok hl B c hc⟩, h3⟩
theorem denT (B lo hi : Nat) (rest : List Seg) : den (ghostT l hl).sv (wrd B lo hi :: rest) = bvOf l B ++ den (ghostT l hl).sv rest := by
  show (ghostT l hl).sv (16 * B) ++ _ = _
  rw [svT]
theorem denN : den (ghostT l hl).sv [] = [] := rfl
theorem denB (c : UInt8) (rest : List Seg) : den (ghostT l hl).sv (.b c :: rest) = c :: den (ghostT l hl).sv rest := rfl
/-- A text as a value. -/
theorem strT {m : List Seg} {s : ByteArray} (hm : SegsOK (ghostT l hl).sv m) (hd : den (ghostT l hl).sv m = s.data.toList) : VR (ghostT l hl) (.sstr m) (.string s) := by
  have := VR.sstr (g := ghostT l hl) m hm
  rw [hd] at this
  simpa using this
theorem strP (s : ByteArray) : VR (ghostT l hl) (.str s.data.toList) (.string s) := by
  have := VR.str (g := ghostT l hl) s.data.toList
  simpa using this
end
end Go.Proofs.YtfmgdjkcdmjloaaGreatDoor
/- FnWWW at every first word. -/
namespace Go.Proofs.YtfmgdjkcdmjloaaGreatDoor
theorem www_ok (c : WCase) (hc : c ∈ casesW) (path plain : Bool) : okB (goW c path plain) = true := by
  simp only [casesW, List.mem_cons, List.mem_nil_iff, or_false] at hc
  rcases hc with rfl | rfl | rfl | rfl | rfl | rfl | rfl | rfl | rfl | rfl | rfl | rfl | rfl | rfl | rfl | rfl | rfl | rfl | rfl | rfl | rfl | rfl | rfl | rfl | rfl | rfl | rfl | rfl | rfl | rfl | rfl | rfl | rfl | rfl
  · exact match path, plain with | false, false => www0ff | false, true => www0ft | true, false => www0tf | true, true => www0tt
  · exact match path, plain with | false, false => www1ff | false, true => www1ft | true, false => www1tf | true, true => www1tt
  · exact match path, plain with | false, false => www2ff | false, true => www2ft | true, false => www2tf | true, true => www2tt
  · exact match path, plain with | false, false => www3ff | false, true => www3ft | true, false => www3tf | true, true => www3tt
  · exact match path, plain with | false, false => www5ff | false, true => www5ft | true, false => www5tf | true, true => www5tt
  · exact match path, plain with | false, false => www6ff | false, true => www6ft | true, false => www6tf | true, true => www6tt
  · exact match path, plain with | false, false => www7ff | false, true => www7ft | true, false => www7tf | true, true => www7tt
  · exact match path, plain with | false, false => www8ff | false, true => www8ft | true, false => www8tf | true, true => www8tt
  · exact match path, plain with | false, false => www9ff | false, true => www9ft | true, false => www9tf | true, true => www9tt
  · exact match path, plain with | false, false => www10ff | false, true => www10ft | true, false => www10tf | true, true => www10tt
  · exact match path, plain with | false, false => www11ff | false, true => www11ft | true, false => www11tf | true, true => www11tt
  · exact match path, plain with | false, false => www12ff | false, true => www12ft | true, false => www12tf | true, true => www12tt
  · exact match path, plain with | false, false => www13ff | false, true => www13ft | true, false => www13tf | true, true => www13tt
  · exact match path, plain with | false, false => www14ff | false, true => www14ft | true, false => www14tf | true, true => www14tt
  · exact match path, plain with | false, false => www15ff | false, true => www15ft | true, false => www15tf | true, true => www15tt
  · exact match path, plain with | false, false => www17ff | false, true => www17ft | true, false => www17tf | true, true => www17tt
  · exact match path, plain with | false, false => www18ff | false, true => www18ft | true, false => www18tf | true, true => www18tt
  · exact match path, plain with | false, false => www19ff | false, true => www19ft | true, false => www19tf | true, true => www19tt
  · exact match path, plain with | false, false => www20ff | false, true => www20ft | true, false => www20tf | true, true => www20tt
  · exact match path, plain with | false, false => www21ff | false, true => www21ft | true, false => www21tf | true, true => www21tt
  · exact match path, plain with | false, false => www22ff | false, true => www22ft | true, false => www22tf | true, true => www22tt
  · exact match path, plain with | false, false => www23ff | false, true => www23ft | true, false => www23tf | true, true => www23tt
  · exact match path, plain with | false, false => www24ff | false, true => www24ft | true, false => www24tf | true, true => www24tt
  · exact match path, plain with | false, false => www25ff | false, true => www25ft | true, false => www25tf | true, true => www25tt
  · exact match path, plain with | false, false => www26ff | false, true => www26ft | true, false => www26tf | true, true => www26tt
  · exact match path, plain with | false, false => www27ff | false, true => www27ft | true, false => www27tf | true, true => www27tt
  · exact match path, plain with | false, false => www29ff | false, true => www29ft | true, false => www29tf | true, true => www29tt
  · exact match path, plain with | false, false => www30ff | false, true => www30ft | true, false => www30tf | true, true => www30tt
  · exact match path, plain with | false, false => www31ff | false, true => www31ft | true, false => www31tf | true, true => www31tt
  · exact match path, plain with | false, false => www32ff | false, true => www32ft | true, false => www32tf | true, true => www32tt
  · exact match path, plain with | false, false => www33ff | false, true => www33ft | true, false => www33tf | true, true => www33tt
  · exact match path, plain with | false, false => www34ff | false, true => www34ft | true, false => www34tf | true, true => www34tt
  · exact match path, plain with | false, false => www35ff | false, true => www35ft | true, false => www35tf | true, true => www35tt
  · exact match path, plain with | false, false => www36ff | false, true => www36ft | true, false => www36tf | true, true => www36tt
theorem www9_ok (d : UInt8) (hd : d ∈ [48, 49, 57]) (lt path plain : Bool) : okB (goW9 d lt path plain) = true := by
  simp only [List.mem_cons, List.mem_nil_iff, or_false] at hd
  rcases hd with rfl | rfl | rfl
  · exact match lt, path, plain with | false, false, false => w9_48fff | false, false, true => w9_48fft | false, true, false => w9_48ftf | false, true, true => w9_48ftt | true, false, false => w9_48tff | true, false, true => w9_48tft | true, true, false => w9_48ttf | true, true, true => w9_48ttt
  · exact match lt, path, plain with | false, false, false => w9_49fff | false, false, true => w9_49fft | false, true, false => w9_49ftf | false, true, true => w9_49ftt | true, false, false => w9_49tff | true, false, true => w9_49tft | true, true, false => w9_49ttf | true, true, true => w9_49ttt
  · exact match lt, path, plain with | false, false, false => w9_57fff | false, false, true => w9_57fft | false, true, false => w9_57ftf | false, true, true => w9_57ftt | true, false, false => w9_57tff | true, false, true => w9_57tft | true, true, false => w9_57ttf | true, true, true => w9_57ttt
end Go.Proofs.YtfmgdjkcdmjloaaGreatDoor
/- FnWWW where it speaks of nothing. -/
namespace Go.Proofs.YtfmgdjkcdmjloaaGreatDoor
open Go.AM
theorem www_out (a d e p b : List UInt8) (q : Bool) (σ : Store) (h : a.length > 2147483647 ∨ d.length > 2147483647 ∨ e.length > 2147483647 ∨ p.length > 2147483647 ∨ b.length > 2147483647 ∨ wordB a = false ∨ wordB b = false ∨ wordB d = false ∨ wordB e = false ∨ onlyB p [97, 98, 47] 20 = false) : (c10 runO 1 (.str a) (.str d) (.str e) (.str p) (.str b) (.bool q) σ).val = some (.bool true, σ) := by
  unfold c10
  rw [val_lenS, val_gt]
  cases h1 : decide ((2147483647 : Int) < ((a.length : Nat) : Int))
  case true => rw [val_gFT, val_gFT, val_gFT, val_pickT _ _ _ _ rfl, val_gFT, val_gFT, val_gFT, val_pickT _ _ _ _ rfl, val_gFT, val_gFT, val_gFT, val_pickT _ _ _ _ rfl, val_gFT, val_gFT, val_gFT, val_pickT _ _ _ _ rfl, val_ifT _ _ _ rfl, val_ret]
  rw [val_gFF, val_gFF, val_lenS, val_gFF, val_gt]
  rw [val_pickF _ _ _ _ rfl]
  cases h2 : decide ((2147483647 : Int) < ((d.length : Nat) : Int))
  case true => rw [val_gFT, val_gFT, val_gFT, val_pickT _ _ _ _ rfl, val_gFT, val_gFT, val_gFT, val_pickT _ _ _ _ rfl, val_gFT, val_gFT, val_gFT, val_pickT _ _ _ _ rfl, val_ifT _ _ _ rfl, val_ret]
  rw [val_gFF, val_gFF, val_lenS, val_gFF, val_gt]
  rw [val_pickF _ _ _ _ rfl]
  cases h3 : decide ((2147483647 : Int) < ((e.length : Nat) : Int))
  case true => rw [val_gFT, val_gFT, val_gFT, val_pickT _ _ _ _ rfl, val_gFT, val_gFT, val_gFT, val_pickT _ _ _ _ rfl, val_ifT _ _ _ rfl, val_ret]
  rw [val_gFF, val_gFF, val_lenS, val_gFF, val_gt]
  rw [val_pickF _ _ _ _ rfl]
  cases h4 : decide ((2147483647 : Int) < ((p.length : Nat) : Int))
  case true => rw [val_gFT, val_gFT, val_gFT, val_pickT _ _ _ _ rfl, val_ifT _ _ _ rfl, val_ret]
  rw [val_gFF, val_gFF, val_lenS, val_gFF, val_gt]
  rw [val_pickF _ _ _ _ rfl]
  cases h5 : decide ((2147483647 : Int) < ((b.length : Nat) : Int))
  case true => rw [val_ifT _ _ _ rfl, val_ret]
  rw [val_ifF _ _ _ rfl]
  rw [val_o14, val_notK]
  cases h6 : wordB a
  case false => rw [Bool.not_false, val_gFT, val_gFT, val_gFT, val_pickT _ _ _ _ rfl, val_gFT, val_gFT, val_gFT, val_pickT _ _ _ _ rfl, val_gFT, val_gFT, val_gFT, val_pickT _ _ _ _ rfl, val_gFT, val_gFT, val_gFT, val_pickT _ _ _ _ rfl, val_ifT _ _ _ rfl, val_ret]
  rw [Bool.not_true]
  rw [val_gFF, val_gFF, val_o14, val_gFF, val_notK]
  rw [val_pickF _ _ _ _ rfl]
  cases h7 : wordB b
  case false => rw [Bool.not_false, val_gFT, val_gFT, val_gFT, val_pickT _ _ _ _ rfl, val_gFT, val_gFT, val_gFT, val_pickT _ _ _ _ rfl, val_gFT, val_gFT, val_gFT, val_pickT _ _ _ _ rfl, val_ifT _ _ _ rfl, val_ret]
  rw [Bool.not_true]
  rw [val_gFF, val_gFF, val_o14, val_gFF, val_notK]
  rw [val_pickF _ _ _ _ rfl]
  cases h8 : wordB d
  case false => rw [Bool.not_false, val_gFT, val_gFT, val_gFT, val_pickT _ _ _ _ rfl, val_gFT, val_gFT, val_gFT, val_pickT _ _ _ _ rfl, val_ifT _ _ _ rfl, val_ret]
  rw [Bool.not_true]
  rw [val_gFF, val_gFF, val_o14, val_gFF, val_notK]
  rw [val_pickF _ _ _ _ rfl]
  cases h9 : wordB e
  case false => rw [Bool.not_false, val_gFT, val_gFT, val_gFT, val_pickT _ _ _ _ rfl, val_ifT _ _ _ rfl, val_ret]
  rw [Bool.not_true]
  rw [val_gFF, val_gFF, val_o11 _ _ _ (by decide), val_gFF, val_notK]
  rw [val_pickF _ _ _ _ rfl]
  cases h10 : onlyB p [97, 98, 47] 20
  case false => rw [Bool.not_false, val_ifT _ _ _ rfl, val_ret]
  rw [Bool.not_true]
  exfalso
  simp only [decide_eq_false_iff_not] at h1 h2 h3 h4 h5
  rcases h with h | h | h | h | h | h | h | h | h | h
  · omega
  · omega
  · omega
  · omega
  · omega
  · rw [h6] at h; cases h
  · rw [h7] at h; cases h
  · rw [h8] at h; cases h
  · rw [h9] at h; cases h
  · rw [h10] at h; cases h
end Go.Proofs.YtfmgdjkcdmjloaaGreatDoor
/- A word is one of the first words. -/
namespace Go.Proofs.YtfmgdjkcdmjloaaGreatDoor
open Go.AM
def digB (c : UInt8) : Bool := decide (c ∈ [48, 49, 57])
/-- The parts of a word that is told by a case. -/
structure WParts (c : WCase) (s r l q : List UInt8) : Prop where
  eq : s = c.pre ++ (r ++ (l ++ q))
  r : (c.rhi = 0 → r = []) ∧ c.rlo ≤ r.length ∧ r.length ≤ c.rhi ∧ ∀ x ∈ r, x ∈ [48, 49, 57]
  l : (c.let1 = false → l = []) ∧ (c.let1 = true → l.length = 1) ∧ ∀ x ∈ l, x ∈ [97, 98, 122]
  q : (c.qhi = 0 → q = []) ∧ c.qlo ≤ q.length ∧ q.length ≤ c.qhi ∧ ∀ x ∈ q, x ∈ alph
theorem drop_head {p : UInt8 → Bool} : ∀ {l : List UInt8} {y : UInt8} {t : List UInt8}, l.dropWhile p = y :: t → p y = false
  | x :: l, y, t, h => by
    rw [List.dropWhile_cons] at h
    split at h
    · exact drop_head h
    · rename_i hx; cases h; simpa using hx
theorem mem_takeW {p : UInt8 → Bool} : ∀ {l : List UInt8} {x : UInt8}, x ∈ l.takeWhile p → p x = true
  | y :: l, x, h => by
    rw [List.takeWhile_cons] at h
    split at h
    · rcases List.mem_cons.1 h with rfl | h
      · assumption
      · exact mem_takeW h
    · cases h
/-- The parts of a word that begins with nine digits and goes on. -/
structure Parts9 (d : UInt8) (lt : Bool) (s r l q : List UInt8) : Prop where
  eq : s = [d] ++ (r ++ (l ++ q))
  rlen : r.length = 8
  r : ∀ x ∈ r, x ∈ [48, 49, 57]
  llen : l.length = 1
  lt1 : lt = true → ∀ x ∈ l, x ∈ [97, 98, 122]
  lt0 : lt = false → ∀ x ∈ l, x ∈ [48, 49, 57]
  qlen : q.length ≤ 10
  q : ∀ x ∈ q, x ∈ alph
theorem a_split (s : List UInt8) (h1 : 1 ≤ s.length) (h20 : s.length ≤ 20) (ha : ∀ c ∈ s, c ∈ alph) : (∃ c ∈ casesW, ∃ r l q, WParts c s r l q) ∨ ∃ d ∈ ([48, 49, 57] : List UInt8), ∃ lt r l q, Parts9 d lt s r l q := by
  cases s with
  | nil => simp at h1
  | cons x t =>
  have hx := ha x (List.mem_cons_self ..)
  have ht : ∀ c ∈ t, c ∈ alph := fun c hc => ha c (List.mem_cons_of_mem _ hc)
  simp only [List.length_cons] at h20
  by_cases hlet : x ∈ [97, 98, 122]
  · refine .inl ⟨⟨[], 0, 0, true, 0, 19⟩, by simp [casesW], [], [x], t, ⟨rfl, ⟨fun _ => rfl, Nat.le_refl _, Nat.le_refl _, by simp⟩, ⟨by simp, by simp, by simpa using hlet⟩, ⟨by simp, Nat.zero_le _, by simp only; omega, ht⟩⟩⟩
  have hdig : x ∈ [48, 49, 57] := by
    simp only [alph, List.mem_cons, List.mem_nil_iff, or_false] at hx hlet ⊢
    rcases hx with h | h | h | h | h | h
    · exact (hlet (.inl h)).elim
    · exact (hlet (.inr (.inl h))).elim
    · exact (hlet (.inr (.inr h))).elim
    · exact .inl h
    · exact .inr (.inl h)
    · exact .inr (.inr h)
  have htd := List.takeWhile_append_dropWhile (p := digB) (l := t)
  generalize hr : t.takeWhile digB = r at htd
  generalize hq : t.dropWhile digB = u at htd
  have hrd : ∀ y ∈ r, y ∈ [48, 49, 57] := fun y hy => by
    rw [← hr] at hy
    have := mem_takeW hy
    simpa [digB] using this
  have hlen := congrArg List.length htd
  rw [List.length_append] at hlen
  -- the case of the first digit
  have pick : ∀ (rlo rhi qlo qhi : Nat) (b : Bool), (∀ d ∈ ([48, 49, 57] : List UInt8), (⟨[d], rlo, rhi, b, qlo, qhi⟩ : WCase) ∈ casesW) → ∀ r l q, x :: t = [x] ++ (r ++ (l ++ q)) → ((rhi = 0 → r = []) ∧ rlo ≤ r.length ∧ r.length ≤ rhi ∧ ∀ x ∈ r, x ∈ [48, 49, 57]) → ((b = false → l = []) ∧ (b = true → l.length = 1) ∧ ∀ x ∈ l, x ∈ [97, 98, 122]) → ((qhi = 0 → q = []) ∧ qlo ≤ q.length ∧ q.length ≤ qhi ∧ ∀ x ∈ q, x ∈ alph) → (∃ c ∈ casesW, ∃ r l q, WParts c (x :: t) r l q) ∨ ∃ d ∈ ([48, 49, 57] : List UInt8), ∃ lt r l q, Parts9 d lt (x :: t) r l q :=
    fun rlo rhi qlo qhi b hm r l q e p1 p2 p3 => .inl ⟨⟨[x], rlo, rhi, b, qlo, qhi⟩, hm x hdig, r, l, q, ⟨e, p1, p2, p3⟩⟩
  have ht' : t = r ++ u := htd.symm
  have hu : ∀ c ∈ u, c ∈ alph := fun c hc => ht c (by rw [ht']; exact List.mem_append_right _ hc)
  by_cases h8 : 8 ≤ r.length
  · have e8 : t = r.take 8 ++ (r.drop 8 ++ u) := by rw [← List.append_assoc, List.take_append_drop]; exact ht'
    have l8 : (r.take 8).length = 8 := by rw [List.length_take]; omega
    have d8 : ∀ y ∈ r.take 8, y ∈ [48, 49, 57] := fun y hy => hrd y (List.mem_of_mem_take hy)
    have q8 : ∀ y ∈ r.drop 8 ++ u, y ∈ alph := fun y hy => ht y (by rw [e8]; exact List.mem_append_right _ hy)
    have len8 := congrArg List.length e8
    rw [List.length_append, l8] at len8
    by_cases hz : r.drop 8 ++ u = []
    · refine pick 8 8 0 0 false (by simp [casesW]) (r.take 8) [] [] (by rw [e8, hz]; rfl) ⟨by simp, by omega, by omega, d8⟩ ⟨fun _ => rfl, by simp, by simp⟩ ⟨fun _ => rfl, Nat.le_refl _, Nat.le_refl _, by simp⟩
    · have hz1 : 1 ≤ (r.drop 8 ++ u).length := by
        rcases Nat.eq_zero_or_pos (r.drop 8 ++ u).length with h | h
        · exact (hz (List.length_eq_zero_iff.1 h)).elim
        · exact h
      cases hv : r.drop 8 ++ u with
      | nil => rw [hv] at hz1; simp at hz1
      | cons y v =>
        rw [hv] at q8 e8 len8
        simp only [List.length_cons] at len8
        have hv9 : ∀ c ∈ v, c ∈ alph := fun c hc => q8 c (List.mem_cons_of_mem _ hc)
        have hya := q8 y (List.mem_cons_self ..)
        refine .inr ⟨x, hdig, decide (y ∈ [97, 98, 122]), r.take 8, [y], v, ⟨by rw [e8]; simp, l8, d8, rfl, ?_, ?_, by omega, hv9⟩⟩
        · intro h z hz
          have : z = y := by simpa using hz
          rw [this]; simpa using h
        · intro h z hz
          have : z = y := by simpa using hz
          rw [this]
          have hn : y ∉ [97, 98, 122] := by simpa using h
          simp only [alph, List.mem_cons, List.mem_nil_iff, or_false] at hya hn ⊢
          rcases hya with h | h | h | h | h | h
          · exact (hn (.inl h)).elim
          · exact (hn (.inr (.inl h))).elim
          · exact (hn (.inr (.inr h))).elim
          · exact .inl h
          · exact .inr (.inl h)
          · exact .inr (.inr h)
  · cases hu0 : u with
    | nil =>
      rw [hu0, List.append_nil] at ht'
      rcases Nat.eq_zero_or_pos r.length with h0 | h0
      · have := List.length_eq_zero_iff.1 h0
        subst this
        exact pick 0 0 0 0 false (by simp [casesW]) [] [] [] (by rw [ht']; rfl) ⟨fun _ => rfl, Nat.le_refl _, Nat.le_refl _, by simp⟩ ⟨fun _ => rfl, by simp, by simp⟩ ⟨fun _ => rfl, Nat.le_refl _, Nat.le_refl _, by simp⟩
      · exact pick 1 7 0 0 false (by simp [casesW]) r [] [] (by rw [ht']; simp) ⟨by simp, h0, by omega, hrd⟩ ⟨fun _ => rfl, by simp, by simp⟩ ⟨fun _ => rfl, Nat.le_refl _, Nat.le_refl _, by simp⟩
    | cons y v =>
      rw [hu0] at ht' hu hlen hq
      have hy := drop_head hq
      have hya := hu y (List.mem_cons_self ..)
      have hyl : y ∈ [97, 98, 122] := by
        have hn : y ∉ [48, 49, 57] := by simpa [digB] using hy
        simp only [alph, List.mem_cons, List.mem_nil_iff, or_false] at hya hn ⊢
        rcases hya with h | h | h | h | h | h
        · exact .inl h
        · exact .inr (.inl h)
        · exact .inr (.inr h)
        · exact (hn (.inl h)).elim
        · exact (hn (.inr (.inl h))).elim
        · exact (hn (.inr (.inr h))).elim
      have hv : ∀ c ∈ v, c ∈ alph := fun c hc => hu c (List.mem_cons_of_mem _ hc)
      simp only [List.length_cons] at hlen
      have e : x :: t = [x] ++ (r ++ ([y] ++ v)) := by rw [ht']; simp
      have pl : ((true = false → [y] = []) ∧ (true = true → [y].length = 1) ∧ ∀ x ∈ [y], x ∈ [97, 98, 122]) := ⟨by simp, by simp, by simpa using hyl⟩
      rcases Nat.eq_zero_or_pos r.length with h0 | h0
      · have := List.length_eq_zero_iff.1 h0
        subst this
        simp only [List.length_nil] at hlen
        exact pick 0 0 0 18 true (by simp [casesW]) [] [y] v e ⟨fun _ => rfl, Nat.le_refl _, Nat.le_refl _, by simp⟩ pl ⟨by simp, Nat.zero_le _, by omega, hv⟩
      · by_cases hv11 : v.length ≤ 11
        · exact pick 1 7 0 11 true (by simp [casesW]) r [y] v e ⟨by simp, h0, by omega, hrd⟩ pl ⟨by simp, Nat.zero_le _, hv11, hv⟩
        · have fin : ∀ m, v.length = m → (∀ d ∈ ([48, 49, 57] : List UInt8), (⟨[d], 1, 18 - m, true, m, m⟩ : WCase) ∈ casesW) → 1 ≤ 18 - m → 1 ≤ m → (∃ c ∈ casesW, ∃ r l q, WParts c (x :: t) r l q) ∨ ∃ d ∈ ([48, 49, 57] : List UInt8), ∃ lt r l q, Parts9 d lt (x :: t) r l q :=
            fun m hm hc h1m h1 => pick 1 (18 - m) m m true hc r [y] v e ⟨by omega, h0, by omega, hrd⟩ pl ⟨by omega, by omega, by omega, hv⟩
          have hcase : v.length = 12 ∨ v.length = 13 ∨ v.length = 14 ∨ v.length = 15 ∨ v.length = 16 ∨ v.length = 17 := by omega
          rcases hcase with h | h | h | h | h | h
          · exact fin 12 h (by simp [casesW]) (by decide) (by decide)
          · exact fin 13 h (by simp [casesW]) (by decide) (by decide)
          · exact fin 14 h (by simp [casesW]) (by decide) (by decide)
          · exact fin 15 h (by simp [casesW]) (by decide) (by decide)
          · exact fin 16 h (by simp [casesW]) (by decide) (by decide)
          · exact fin 17 h (by simp [casesW]) (by decide) (by decide)
end Go.Proofs.YtfmgdjkcdmjloaaGreatDoor
/- FnWWW: the call answers true, and leaves all as it was. -/
namespace Go.Proofs.YtfmgdjkcdmjloaaGreatDoor
open Go.ChangeMaps Go.ChangeShapes Go.WideShapes Go.ChangeAt Go.RowKit Go.AM
theorem only_ok {s set : List UInt8} {most : Int} (h : onlyB s set most = true) : (s.length : Int) ≤ most ∧ ∀ c ∈ s, c ∈ set := by
  simp only [onlyB, allB, Bool.and_eq_true, decide_eq_true_eq, List.all_eq_true] at h
  exact ⟨h.1, fun c hc => by simpa using h.2 c hc⟩
section
variable {l : List (Nat × List UInt8)} {hl : okBv l}
theorem part_ok {B lo hi : Nat} {r : List UInt8} (hB : bvOf l B = r) (h0 : hi = 0 → r = []) (h1 : lo ≤ r.length) (h2 : r.length ≤ hi) :
    SegsOK (ghostT l hl).sv (match (generalizing := false) hi with | 0 => [] | _ + 1 => [wrd B lo hi]) ∧ den (ghostT l hl).sv (match (generalizing := false) hi with | 0 => [] | _ + 1 => [wrd B lo hi]) = r := by
  cases hi with
  | zero => exact ⟨trivial, (h0 rfl).symm⟩
  | succ n => exact ⟨segT (by rw [hB]; exact h1) (by rw [hB]; exact h2) trivial, by rw [denT, denN, List.append_nil, hB]⟩
theorem part1_ok {B : Nat} {b : Bool} {r : List UInt8} (hB : bvOf l B = r) (h0 : b = false → r = []) (h1 : b = true → r.length = 1) :
    SegsOK (ghostT l hl).sv (match (generalizing := false) b with | false => [] | true => [wrd B 1 1]) ∧ den (ghostT l hl).sv (match (generalizing := false) b with | false => [] | true => [wrd B 1 1]) = r := by
  cases b with
  | false => exact ⟨trivial, (h0 rfl).symm⟩
  | true =>
    have := h1 rfl
    exact ⟨segT (by rw [hB]; omega) (by rw [hB]; omega) trivial, by rw [denT, denN, List.append_nil, hB]⟩
end
theorem app_eq {a b c d : List UInt8} (h : a = b) (k : c = d) : a ++ c = b ++ d := by rw [h, k]
theorem w_run {a d e p b : ByteArray} {q : Bool} {w : World} {L : List (Nat × List UInt8)} (hl : okBv L) {av : AV} (ha : VR (ghostT L hl) av (.string a))
    (hd : bvOf L 16 = d.data.toList) (he : bvOf L 32 = e.data.toList) (hp : bvOf L 1 = p.data.toList) (hb : bvOf L 48 = b.data.toList)
    (d1 : 1 ≤ d.data.toList.length) (d2 : d.data.toList.length ≤ 20) (e1 : 1 ≤ e.data.toList.length) (e2 : e.data.toList.length ≤ 20) (b1 : 1 ≤ b.data.toList.length) (b2 : b.data.toList.length ≤ 20) (p2 : p.data.toList.length ≤ 20)
    (hok : ∀ z, okB (goS 10 [av, .sstr [wrd 16 1 20], .sstr [wrd 32 1 20], pathW z, .sstr [wrd 48 1 20], .bool q]) = true) :
    Calls Tryz.prog 10 #[.string a, .string d, .string e, .string p, .string b, .bool q] w fun e w' => e = .returned (.bool true) ∧ Below w.heap.size w w' := by
  have one : ∀ (B : Nat) (s : ByteArray), bvOf L B = s.data.toList → 1 ≤ s.data.toList.length → s.data.toList.length ≤ 20 → VR (ghostT L hl) (.sstr [wrd B 1 20]) (.string s) := by
    intro B s hB h1 h2
    exact strT (segT (by rw [hB]; exact h1) (by rw [hB]; exact h2) trivial) (by rw [denT, denN, List.append_nil, hB])
  have hp : ∃ z, VR (ghostT L hl) (pathW z) (.string p) := by
    by_cases h0 : p.data.toList = []
    · refine ⟨false, ?_⟩
      have hp0 : (⟨([] : List UInt8).toArray⟩ : ByteArray) = p := by
        rw [← h0]
      exact Eq.mp (congrArg (fun z => VR (ghostT L hl) (.str []) (.string z)) hp0) (VR.str [])
    · refine ⟨true, one 1 p hp ?_ p2⟩
      rcases Nat.eq_zero_or_pos p.data.toList.length with h | h
      · exact (h0 (List.length_eq_zero_iff.1 h)).elim
      · exact h
  obtain ⟨z, hz⟩ := hp
  have h := Go.AM.runT_ok (fun run h => tabS_ok fuel run h) deep 10 [av, .sstr [wrd 16 1 20], .sstr [wrd 32 1 20], pathW z, .sstr [wrd 48 1 20], .bool q] { t := .leaf, next := 0 } (fun r => r.1 = .bool true) (ghostT L hl) w [.string a, .string d, .string e, .string p, .string b, .bool q] (sat_of_okB (hok z)) (.cons ha (.cons (one 16 d hd d1 d2) (.cons (one 32 e he e1 e2) (.cons hz (.cons (one 48 b hb b1 b2) (.cons (.bool _) .nil)))))) (simT w) (fun i cs h => by cases h)
  exact Calls.mono (show Calls Tryz.prog 10 #[.string a, .string d, .string e, .string p, .string b, .bool q] w _ from h) fun e w' => finT
theorem w_calls (a d e p b : ByteArray) (q : Bool) (w : World) : Calls Tryz.prog 10 #[.string a, .string d, .string e, .string p, .string b, .bool q] w fun e w' => e = .returned (.bool true) ∧ Below w.heap.size w w' := by
  by_cases hc : a.data.toList.length > 2147483647 ∨ d.data.toList.length > 2147483647 ∨ e.data.toList.length > 2147483647 ∨ p.data.toList.length > 2147483647 ∨ b.data.toList.length > 2147483647 ∨ wordB a.data.toList = false ∨ wordB b.data.toList = false ∨ wordB d.data.toList = false ∨ wordB e.data.toList = false ∨ onlyB p.data.toList [97, 98, 47] 20 = false
  · have h := ok10 runO_ok 1 (.str a.data.toList) (.str d.data.toList) (.str e.data.toList) (.str p.data.toList) (.str b.data.toList) (.bool q) { t := .leaf, next := 0 } (fun r => r.1 = .bool true) (ghostT [] (fun _ h => by cases h)) w [.string a, .string d, .string e, .string p, .string b, .bool q] (Tr.sat_of_val (www_out _ _ _ _ _ q _ hc) rfl) (.cons (strP a) (.cons (strP d) (.cons (strP e) (.cons (strP p) (.cons (strP b) (.cons (.bool _) .nil)))))) (simT w) (fun i cs h => by cases h)
    exact Calls.mono (show Calls Tryz.prog 10 #[.string a, .string d, .string e, .string p, .string b, .bool q] w _ from h) fun e w' => finT
  · simp only [not_or, Bool.not_eq_false] at hc
    obtain ⟨_, _, _, _, _, wa, wb, wd, we, wp⟩ := hc
    obtain ⟨a1, a2, a3⟩ := word_ok wa
    obtain ⟨b1, b2, b3⟩ := word_ok wb
    obtain ⟨d1, d2, d3⟩ := word_ok wd
    obtain ⟨e1, e2, e3⟩ := word_ok we
    obtain ⟨p2, p3⟩ := only_ok wp
    rcases a_split _ a1 a2 a3 with ⟨c, hcW, r, l, t, hP⟩ | ⟨d0, hd0, lt, r, l, t, hP⟩
    · have hl : okBv [(7, r), (3, l), (0, t), (16, d.data.toList), (32, e.data.toList), (1, p.data.toList), (48, b.data.toList)] := by
        intro x hx y hy
        simp only [List.mem_cons, List.mem_nil_iff, or_false] at hx
        rcases hx with rfl | rfl | rfl | rfl | rfl | rfl | rfl
        · rw [show ((7 : Nat), r).1 % 16 = 7 by simp]; exact hP.r.2.2.2 y hy
        · rw [show ((3 : Nat), l).1 % 16 = 3 by simp]; exact hP.l.2.2 y hy
        · rw [show ((0 : Nat), t).1 % 16 = 0 by simp]; exact hP.q.2.2.2 y hy
        · rw [show ((16 : Nat), d.data.toList).1 % 16 = 0 by simp]; exact d3 y hy
        · rw [show ((32 : Nat), e.data.toList).1 % 16 = 0 by simp]; exact e3 y hy
        · rw [show ((1 : Nat), p.data.toList).1 % 16 = 1 by simp]; exact p3 y hy
        · rw [show ((48 : Nat), b.data.toList).1 % 16 = 0 by simp]; exact b3 y hy
      refine w_run hl ?_ rfl rfl rfl rfl d1 d2 e1 e2 b1 b2 (by omega) fun z => www_ok c hcW z q
      obtain ⟨q1, q2⟩ := part_ok (hl := hl) (B := 7) (r := r) rfl hP.r.1 hP.r.2.1 hP.r.2.2.1
      obtain ⟨q3, q4⟩ := part1_ok (hl := hl) (B := 3) (r := l) rfl hP.l.1 hP.l.2.1
      obtain ⟨q5, q6⟩ := part_ok (hl := hl) (B := 0) (r := t) rfl hP.q.1 hP.q.2.1 hP.q.2.2.1
      obtain ⟨q7, q8⟩ := SegsOK_bytes (sv := (ghostT _ hl).sv) c.pre
      have hok : SegsOK (ghostT _ hl).sv c.segs := SegsOK_append q7 (SegsOK_append q1 (SegsOK_append q3 q5))
      have hden : den (ghostT _ hl).sv c.segs = a.data.toList := by
        unfold WCase.segs
        rw [den_append, den_append, den_append]
        exact Eq.trans (app_eq q8 (app_eq q2 (app_eq q4 q6))) hP.eq.symm
      have := VR_mkStr (g := ghostT _ hl) hok
      rw [hden] at this
      simpa using this
    · cases lt with
      | true =>
        have hl : okBv [(7, r), (3, l), (0, t), (16, d.data.toList), (32, e.data.toList), (1, p.data.toList), (48, b.data.toList)] := by
          intro x hx y hy
          simp only [List.mem_cons, List.mem_nil_iff, or_false] at hx
          rcases hx with rfl | rfl | rfl | rfl | rfl | rfl | rfl
          · rw [show ((7 : Nat), r).1 % 16 = 7 by simp]; exact hP.r y hy
          · rw [show ((3 : Nat), l).1 % 16 = 3 by simp]; exact hP.lt1 rfl y hy
          · rw [show ((0 : Nat), t).1 % 16 = 0 by simp]; exact hP.q y hy
          · rw [show ((16 : Nat), d.data.toList).1 % 16 = 0 by simp]; exact d3 y hy
          · rw [show ((32 : Nat), e.data.toList).1 % 16 = 0 by simp]; exact e3 y hy
          · rw [show ((1 : Nat), p.data.toList).1 % 16 = 1 by simp]; exact p3 y hy
          · rw [show ((48 : Nat), b.data.toList).1 % 16 = 0 by simp]; exact b3 y hy
        refine w_run hl (strT (m := segs9 d0 true) ?_ ?_) rfl rfl rfl rfl d1 d2 e1 e2 b1 b2 (by omega) fun z => www9_ok d0 hd0 true z q
        · exact segT (l := [(7, r), (3, l), (0, t), _, _, _, _]) (by rw [show bvOf _ 7 = r from rfl, hP.rlen]; exact Nat.le_refl _) (by rw [show bvOf _ 7 = r from rfl, hP.rlen]; exact Nat.le_refl _) (segT (by rw [show bvOf _ 3 = l from rfl, hP.llen]; exact Nat.le_refl _) (by rw [show bvOf _ 3 = l from rfl, hP.llen]; exact Nat.le_refl _) (segT (Nat.zero_le _) (by rw [show bvOf _ 0 = t from rfl]; exact hP.qlen) trivial))
        · show den _ (.b d0 :: wrd 7 8 8 :: wrd 3 1 1 :: wrd 0 0 10 :: []) = _
          rw [denB, denT, denT, denT, denN, List.append_nil]
          exact hP.eq.symm
      | false =>
        have hl : okBv [(7, r), (23, l), (0, t), (16, d.data.toList), (32, e.data.toList), (1, p.data.toList), (48, b.data.toList)] := by
          intro x hx y hy
          simp only [List.mem_cons, List.mem_nil_iff, or_false] at hx
          rcases hx with rfl | rfl | rfl | rfl | rfl | rfl | rfl
          · rw [show ((7 : Nat), r).1 % 16 = 7 by simp]; exact hP.r y hy
          · rw [show ((23 : Nat), l).1 % 16 = 7 by simp]; exact hP.lt0 rfl y hy
          · rw [show ((0 : Nat), t).1 % 16 = 0 by simp]; exact hP.q y hy
          · rw [show ((16 : Nat), d.data.toList).1 % 16 = 0 by simp]; exact d3 y hy
          · rw [show ((32 : Nat), e.data.toList).1 % 16 = 0 by simp]; exact e3 y hy
          · rw [show ((1 : Nat), p.data.toList).1 % 16 = 1 by simp]; exact p3 y hy
          · rw [show ((48 : Nat), b.data.toList).1 % 16 = 0 by simp]; exact b3 y hy
        refine w_run hl (strT (m := segs9 d0 false) ?_ ?_) rfl rfl rfl rfl d1 d2 e1 e2 b1 b2 (by omega) fun z => www9_ok d0 hd0 false z q
        · exact segT (l := [(7, r), (23, l), (0, t), _, _, _, _]) (by rw [show bvOf _ 7 = r from rfl, hP.rlen]; exact Nat.le_refl _) (by rw [show bvOf _ 7 = r from rfl, hP.rlen]; exact Nat.le_refl _) (segT (by rw [show bvOf _ 23 = l from rfl, hP.llen]; exact Nat.le_refl _) (by rw [show bvOf _ 23 = l from rfl, hP.llen]; exact Nat.le_refl _) (segT (Nat.zero_le _) (by rw [show bvOf _ 0 = t from rfl]; exact hP.qlen) trivial))
        · show den _ (.b d0 :: wrd 7 8 8 :: wrd 23 1 1 :: wrd 0 0 10 :: []) = _
          rw [denB, denT, denT, denT, denN, List.append_nil]
          exact hP.eq.symm
end Go.Proofs.YtfmgdjkcdmjloaaGreatDoor
