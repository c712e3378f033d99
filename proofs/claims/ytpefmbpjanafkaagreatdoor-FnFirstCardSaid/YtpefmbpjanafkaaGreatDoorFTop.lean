/- The beginning of a run: words given, and a variable that never changes. -/
import Derived.Test.YtpefmbpjanafkaaGreatDoorSnRa
import Derived.Test.YtpefmbpjanafkaaGreatDoorSnX
import Derived.KernelRfl
import Derived.WalkKit
import Derived.ProofKit
import Derived.OpenShut
import Derived.Lay
import Derived.LaidOnce
import Derived.SevenTiedAt
import Derived.JoinedOf
import Derived.RowKit
import Derived.LaidLaws
import Derived.Stop.Joined
import Derived.ChangeMaps5
import Derived.MakeChecks
set_option linter.unusedVariables false
set_option linter.unusedSimpArgs false
namespace Go.Proofs.YtpefmbpjanafkaaGreatDoor
open Go.ChangeMaps Go.ChangeShapes Go.WideShapes Go.ChangeAt Go.RowKit Go.AM
noncomputable def str8 (l : List UInt8) : Value := .string ⟨l.toArray⟩
theorem und347 : Tryz.prog.underlying 347 = some (.array 2 9) := by kernel_rfl
theorem und348 : Tryz.prog.underlying 348 = some (.array 12 347) := by kernel_rfl
theorem cel9 : Tryz.prog.cellsOf 9 = 1 := by kernel_rfl
theorem cel347 : Tryz.prog.cellsOf 347 = 2 := by kernel_rfl
theorem cel348 : Tryz.prog.cellsOf 348 = 24 := by kernel_rfl
theorem one_str {H : Type} {enc : TypeId × Value → H} {w : World} {base : Nat} {sp : Nat → Bool} {held : Bool} {fuel : Nat} {cs : List Value} {a : List UInt8} {q : List MemPlace}
    (h : DataW.trod enc Tryz.prog w base sp held fuel 9 cs = some (.lit (.string a), q)) : cs = [str8 a] := by
  obtain ⟨s, h1, h2, _⟩ := DataW.trod_string Tryz.underlying9 h
  simp only [Prod.mk.injEq, DataW.lit.injEq, Lit.string.injEq] at h2
  obtain ⟨rfl, _⟩ := h2
  rw [h1]
  unfold str8
  congr 1
theorem len2 {α : Type} : ∀ {l : List α}, l.length = 2 → ∃ a b, l = [a, b]
  | [a, b], _ => ⟨a, b, rfl⟩
theorem pair_of {H : Type} {enc : TypeId × Value → H} {w : World} {base : Nat} {sp : Nat → Bool} {held : Bool} {fuel : Nat} {cs : List Value} {a b : List UInt8} {q : List MemPlace}
    (h : DataW.trod enc Tryz.prog w base sp held fuel 347 cs = some (.agg [.lit (.string a), .lit (.string b)], q)) : cs = [str8 a, str8 b] := by
  obtain ⟨xs, m, rfl, hx, hl, hxl, hf⟩ := DataW.trod_array und347 h
  rw [cel347] at hl
  rw [cel9] at hf
  simp only [Prod.mk.injEq, DataW.agg.injEq] at hx
  have hm := hx.1
  have f0 := hf 0 (by decide)
  have f1 := hf 1 (by decide)
  obtain ⟨c0, c1, rfl⟩ := len2 hl
  obtain ⟨x0, x1, rfl⟩ := len2 hxl
  simp only [List.map_cons, List.map_nil, List.cons.injEq, and_true] at hm
  have k0 : DataW.trod enc Tryz.prog w base sp held m 9 [c0] = some x0 := f0
  have k1 : DataW.trod enc Tryz.prog w base sp held m 9 [c1] = some x1 := f1
  obtain ⟨x00, x01⟩ := x0
  obtain ⟨x10, x11⟩ := x1
  simp only at hm
  rw [← hm.1] at k0
  rw [← hm.2] at k1
  have e0 := one_str k0
  have e1 := one_str k1
  simp only [List.cons.injEq, and_true] at e0 e1
  rw [e0, e1]
noncomputable def ents : List (List UInt8 × List UInt8) := [([38, 97, 109, 112, 59], [38]), ([38, 97, 112, 111, 115, 59], [39]), ([38, 99, 111, 112, 121, 59], [194, 169]), ([38, 102, 114, 97, 99, 51, 52, 59], [194, 190]), ([38, 103, 116, 59], [62]), ([38, 104, 101, 108, 108, 105, 112, 59], [226, 128, 166]), ([38, 108, 116, 59], [60]), ([38, 109, 100, 97, 115, 104, 59], [226, 128, 148]), ([38, 110, 98, 115, 112, 59], [194, 160]), ([38, 110, 100, 97, 115, 104, 59], [226, 128, 147]), ([38, 113, 117, 111, 116, 59], [34]), ([38, 114, 101, 103, 59], [194, 174])]
noncomputable def entV (p : List UInt8 × List UInt8) : List Value := [str8 p.1, str8 p.2]
theorem chunks {α β : Type} {f : β → List α} (hf : ∀ e, (f e).length = 2) : ∀ {es : List β} {L : List α}, L.length = 2 * es.length → (∀ (i : Nat) e, es[i]? = some e → (L.drop (i * 2)).take 2 = f e) → L = es.flatMap f
  | [], L, h, _ => by simpa using h
  | e :: es, L, h, hi => by
    have h0 : L.take 2 = f e := by simpa using hi 0 e rfl
    have ht : L.drop 2 = es.flatMap f := chunks hf (by simp at h ⊢; omega) fun i e' he => by
      have := hi (i + 1) e' (by simpa using he)
      rw [List.drop_drop, show 2 + i * 2 = (i + 1) * 2 by omega]; exact this
    rw [List.flatMap_cons, ← h0, ← ht, List.take_append_drop]
theorem ents_of {H : Type} {enc : TypeId × Value → H} {w : World} {base : Nat} {sp : Nat → Bool} {held : Bool} {fuel : Nat} {cs : List Value} {q : List MemPlace}
    (h : DataW.trod enc Tryz.prog w base sp held fuel 348 cs = some (.agg (ents.map fun p => .agg [.lit (.string p.1), .lit (.string p.2)]), q)) : cs = ents.flatMap entV := by
  obtain ⟨xs, m, rfl, hx, hl, hxl, hf⟩ := DataW.trod_array und348 h
  rw [cel348] at hl
  rw [cel347] at hf
  simp only [Prod.mk.injEq, DataW.agg.injEq] at hx
  have hm := hx.1
  refine chunks (fun _ => rfl) (by rw [hl]; rfl) fun i e he => ?_
  have hi : i < 12 := by
    rcases Nat.lt_or_ge i 12 with h1 | h1
    · exact h1
    · rw [List.getElem?_eq_none (by simpa [ents] using h1)] at he; cases he
  have f := hf i hi
  have hxi : (xs.map (·.1))[i]? = some (.agg [.lit (.string e.1), .lit (.string e.2)]) := by
    rw [← hm, List.getElem?_map, he]; rfl
  rw [List.getElem?_map, Option.map_eq_some_iff] at hxi
  obtain ⟨x, hx1, hx2⟩ := hxi
  rw [hx1] at f
  obtain ⟨x0, x1⟩ := x
  simp only at hx2
  subst hx2
  exact pair_of f
theorem LaidVars_at {P : Program} {w : World} : ∀ {l : List (String × DataW Unit)} {ps : List MemPlace}, DataW.LaidVars P w l ps → ∀ n d, (n, d) ∈ l → ∃ g t cs fuel p, P.globalNamed n = some g ∧ (P.globals[g]?).map (·.type) = some t ∧ w.var? P n = some cs ∧ DataW.trod (fun _ => ()) P w 0 (fun _ => true) false fuel t cs.toList = some (d, p) ∧ ∀ x ∈ MemPlace.row ⟨g, 0, none⟩ cs.size, x ∈ ps
  | [], _, _, _, _, hm => by cases hm
  | (n', d') :: r, ps, h, n, d, hm => by
    obtain ⟨g, t, cs, fuel, p, q, h1, h2, h3, h4, h5, h6⟩ := h
    rcases List.mem_cons.1 hm with e | e
    · cases e
      exact ⟨g, t, cs, fuel, p, h1, h2, h3, h4, fun x hx => by rw [h6]; simp [hx]⟩
    · obtain ⟨g, t, cs, fuel, p, k1, k2, k3, k4, k5⟩ := LaidVars_at h5 n d e
      exact ⟨g, t, cs, fuel, p, k1, k2, k3, k4, fun x hx => by rw [h6]; simp [k5 x hx]⟩
/-- htmlEntities lies in memory as it is listed. -/
noncomputable def HasG1 (w : World) : Prop := ∃ e, w.heap[1]? = some (.cells ⟨ents.flatMap entV⟩ e (0, 0))
theorem named1 : Tryz.prog.globalNamed "pub-paratext/pub/rscmarkdown.htmlEntities" = some 1 := by kernel_rfl
theorem type1 : (Tryz.prog.globals[1]?).map (·.type) = some 348 := by kernel_rfl
theorem hasG1 {w : World} {l : List (String × DataW Unit)} (h : laidMet Tryz.prog l w) (hm : ("pub-paratext/pub/rscmarkdown.htmlEntities", Rows.laid_pub_paratext_pub_rscmarkdown_htmlEntities) ∈ l) : HasG1 w := by
  obtain ⟨ps, hv, _, hc⟩ := h
  obtain ⟨g, t, cs, fuel, p, k1, k2, k3, k4, k5⟩ := LaidVars_at hv _ _ hm
  rw [named1] at k1
  cases k1
  rw [type1] at k2
  cases k2
  have hcs := ents_of (show DataW.trod _ _ _ _ _ _ _ 348 cs.toList = some (.agg (ents.map fun p => .agg [.lit (.string p.1), .lit (.string p.2)]), p) from k4)
  have hsz : cs.size = 24 := by rw [← Array.length_toList, hcs]; rfl
  obtain ⟨⟨c, t, hh⟩, _⟩ := hc 1 0 (k5 _ (by rw [hsz]; simp [MemPlace.row]))
  unfold World.var? at k3
  rw [named1] at k3
  simp only [Option.bind_some, hh, Option.some.injEq] at k3
  subst k3
  refine ⟨t, ?_⟩
  rw [hh, ← hcs]
noncomputable def bvOf : List (Nat × List UInt8) → Nat → List UInt8
  | [], _ => []
  | p :: r, B => if B = p.1 then p.2 else bvOf r B
noncomputable def okBv (l : List (Nat × List UInt8)) : Prop := ∀ p ∈ l, ∀ c ∈ p.2, c ∈ clsT (p.1 % 16)
theorem bvOf_ok : ∀ {l : List (Nat × List UInt8)}, okBv l → ∀ B c, c ∈ bvOf l B → c ∈ clsT (B % 16)
  | [], _, _, _, h => by cases h
  | p :: r, hl, B, c, h => by
    unfold bvOf at h
    split at h
    · rename_i e
      rw [e]; exact hl p (List.mem_cons_self ..) c h
    · exact bvOf_ok (fun q hq => hl q (List.mem_cons_of_mem _ hq)) B c h
theorem iok0 (b : Nat) (cs : List AV) (h : glob0 b = some cs) : ltWs 0 cs = true := by
  unfold glob0 at h
  split at h
  · cases h; rfl
  · cases h
/-- A ghost that tells of words and of the variable. -/
noncomputable def ghostT (l : List (Nat × List UInt8)) (h : okBv l) : Ghost := { π := fun _ => none, I := glob0, next := 0, bv := bvOf l, bok := bvOf_ok h, iok := fun b cs h => iok0 b cs h, rv := fun _ => none }
theorem VRs_ents (g : Ghost) : VRs g g1 (ents.flatMap entV) := by
  have : ∀ es : List (List UInt8 × List UInt8), VRs g (es.flatMap fun p => [.str p.1, .str p.2]) (es.flatMap entV) := by
    intro es
    induction es with
    | nil => exact .nil
    | cons e es ih => exact .cons (.str _) (.cons (.str _) ih)
  exact this ents
section
variable {l : List (Nat × List UInt8)} {hl : okBv l}
theorem simT {w : World} (hw : HasG1 w) : Sim (ghostT l hl) { t := .leaf, next := 0 } w where
  next := rfl
  blk := fun id bl h => by simp [Store.get, PT.get_leaf, PT.get_node] at h
  inj := fun _ _ _ _ _ h => by cases h
  imm := fun b cs h => by
    have h : glob0 b = some cs := h
    unfold glob0 at h
    split at h
    · cases h
      obtain ⟨e, he⟩ := hw
      exact ⟨2 * e, (ents.flatMap entV).length, _, he, ents.flatMap entV, [], ⟨_, by rw [code_half0, List.append_nil]⟩, by simp, VRs_ents _, fun h => (code_even _ h).elim⟩
    · cases h
  apart := fun _ _ _ _ _ h => by cases h
  lt := fun _ _ _ h => by cases h
theorem grT : GR X0 (ghostT l hl) := fun _ _ h => h
theorem extT {g : Ghost} {w w' : World} (h : Ext (ghostT l hl) g w w') : Below w.heap.size w w' :=
  ⟨h.os, h.tape, h.output, h.size, fun b hb => h.keep b hb fun _ _ h => by cases h⟩
theorem finT {w : World} {e : Ending} {w' : World} : Post (ghostT l hl) w (fun r => r.1 = .bool true) e w' → e = .returned (.bool true) ∧ Below w.heap.size w w' := by
  rintro ⟨v, a, σ', g', rfl, ha, hs, he, hv⟩
  subst ha
  cases hv
  exact ⟨rfl, extT he⟩
theorem svT (B : Nat) : (ghostT l hl).sv (16 * B) = bvOf l B := by
  unfold Ghost.sv
  rw [show 16 * B / 16 = B by omega, show 16 * B % 16 = 0 by omega]
  exact imgL_zero _
theorem denN : den (ghostT l hl).sv [] = [] := rfl
/-- A text as a value. -/
theorem strT {m : List Seg} {s : ByteArray} (hm : SegsOK (ghostT l hl).sv m) (hd : den (ghostT l hl).sv m = s.data.toList) : VR (ghostT l hl) (.sstr m) (.string s) := by
  have := VR.sstr (g := ghostT l hl) m hm
  rw [hd] at this
  exact this
theorem strP (s : ByteArray) : VR (ghostT l hl) (.str s.data.toList) (.string s) := VR.str (g := ghostT l hl) s.data.toList
end
end Go.Proofs.YtpefmbpjanafkaaGreatDoor
