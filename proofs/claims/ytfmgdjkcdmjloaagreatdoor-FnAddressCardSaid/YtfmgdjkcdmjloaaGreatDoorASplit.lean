/- A name is one of the names that are run. -/
import Derived.Test.YtfmgdjkcdmjloaaGreatDoorATab
import Derived.Test.YtfmgdjkcdmjloaaGreatDoorAWord
set_option linter.unusedVariables false
set_option linter.unusedSimpArgs false
namespace Go.Proofs.YtfmgdjkcdmjloaaGreatDoor
open Go.AM
def cl0 : List UInt8 := [97, 98, 122, 48, 49, 57]
def cl2 : List UInt8 := [97, 98, 122, 48, 49, 57, 46, 43, 45, 95]
def ldB (c : UInt8) : Bool := decide (c ∈ cl0)
theorem drop_head {p : UInt8 → Bool} : ∀ {l : List UInt8} {y : UInt8} {t : List UInt8}, l.dropWhile p = y :: t → p y = false
  | x :: l, y, t, h => by
    rw [List.dropWhile_cons] at h
    split at h
    · exact drop_head h
    · rename_i hx; cases h; simpa using hx
theorem mem_takeW {p : UInt8 → Bool} : ∀ {l : List UInt8} {x : UInt8}, x ∈ l.takeWhile p → p x = true
  | y :: l, x, h => by
    rw [List.takeWhile_cons] at h
    split at h
    · rcases List.mem_cons.1 h with rfl | h
      · assumption
      · exact mem_takeW h
    · cases h
theorem a_split (s : List UInt8) (h1 : 1 ≤ s.length) (h40 : s.length ≤ 40) (ha : ∀ c ∈ s, c ∈ cl2) :
    (s.length ≤ 15 ∧ ∀ c ∈ s, c ∈ cl0) ∨
    (∃ r c t, s = r ++ c :: t ∧ r.length ≤ 15 ∧ t.length + r.length ≤ 39 ∧ (∀ x ∈ r, x ∈ cl0) ∧ c ∈ ([46, 43, 45, 95] : List UInt8) ∧ ∀ x ∈ t, x ∈ cl2) ∨
    (∃ r t, s = r ++ t ∧ r.length = 16 ∧ t.length ≤ 24 ∧ (∀ x ∈ r, x ∈ cl0) ∧ ∀ x ∈ t, x ∈ cl2) := by
  have htd := List.takeWhile_append_dropWhile (p := ldB) (l := s)
  generalize hr : s.takeWhile ldB = r at htd
  generalize hq : s.dropWhile ldB = u at htd
  have hrd : ∀ y ∈ r, y ∈ cl0 := fun y hy => by
    rw [← hr] at hy
    have := mem_takeW hy
    simpa [ldB] using this
  have hlen := congrArg List.length htd
  rw [List.length_append] at hlen
  by_cases h16 : 16 ≤ r.length
  · refine .inr (.inr ⟨r.take 16, r.drop 16 ++ u, ?_, ?_, ?_, ?_, ?_⟩)
    · rw [← List.append_assoc, List.take_append_drop]; exact htd.symm
    · rw [List.length_take]; omega
    · rw [List.length_append, List.length_drop]; omega
    · exact fun y hy => hrd y (List.mem_of_mem_take hy)
    · intro y hy
      apply ha
      rw [← htd]
      rcases List.mem_append.1 hy with hy | hy
      · exact List.mem_append_left _ (List.mem_of_mem_drop hy)
      · exact List.mem_append_right _ hy
  · cases u with
    | nil =>
      rw [List.append_nil] at htd
      subst htd
      exact .inl ⟨by omega, hrd⟩
    | cons c t =>
      have hc := drop_head hq
      have hc2 : c ∈ cl2 := ha c (by rw [← htd]; exact List.mem_append_right _ (List.mem_cons_self ..))
      refine .inr (.inl ⟨r, c, t, htd.symm, by omega, ?_, hrd, ?_, ?_⟩)
      · rw [List.length_cons] at hlen; omega
      · have hn : c ∉ cl0 := by simpa [ldB] using hc
        simp only [cl0, cl2, List.mem_cons, List.mem_nil_iff, or_false] at hc2 hn ⊢
        rcases hc2 with h | h | h | h | h | h | h | h | h | h
        · exact (hn (.inl h)).elim
        · exact (hn (.inr (.inl h))).elim
        · exact (hn (.inr (.inr (.inl h)))).elim
        · exact (hn (.inr (.inr (.inr (.inl h))))).elim
        · exact (hn (.inr (.inr (.inr (.inr (.inl h)))))).elim
        · exact (hn (.inr (.inr (.inr (.inr (.inr h)))))).elim
        · exact .inl h
        · exact .inr (.inl h)
        · exact .inr (.inr (.inl h))
        · exact .inr (.inr (.inr h))
      · exact fun y hy => ha y (by rw [← htd]; exact List.mem_append_right _ (List.mem_cons_of_mem _ hy))
end Go.Proofs.YtfmgdjkcdmjloaaGreatDoor
