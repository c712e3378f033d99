/- Sweeps of loops that write: a row of bytes grows by the word's image; blocks that nobody names any more are forgotten. -/
import Derived.Test.YtpefmbpjanafkaaGreatDoorSnWc
import Derived.Test.YtpefmbpjanafkaaGreatDoorSnZ
import Derived.Test.YtpefmbpjanafkaaGreatDoorSnT
set_option linter.unusedVariables false
set_option linter.unusedSimpArgs false
namespace Go.AM
/-- A row that grows: where it stands (a slot; from 100 on a cell of the text's block), the image, the type, what it held, its block. -/
structure Rw where
  at_ : Nat
  m : Nat
  e : TypeId
  old : List Seg
  id0 : Option Nat
noncomputable def setRow (p : Nat) (x : AV) (xs : List AV) : List AV := cond (Nat.blt p 100) (xs.set p x) xs
noncomputable def setCell (p : Nat) (x : AV) (cs : List AV) : List AV := cond (Nat.blt p 100) cs (cs.set (p - 100) x)
noncomputable def setBlk (p : Nat) (x : AV) : Blk → Blk
  | .cells e cs => .cells e (setCell p x cs)
  | b => b
noncomputable def contG (P : Pl) (Q : Rw) : List Seg := Q.old ++ [.w (16 * P.B1 + Q.m) (imgCls Q.m (clsT (P.B % 16))) 0 (mulHi Q.m (P.hi - 1))]
noncomputable def contE (P : Pl) (Q : Rw) (u : List UInt8) : List Seg := Q.old ++ (.w (16 * P.B1 + Q.m) (imgCls Q.m (clsT (P.B % 16))) 0 (mulHi Q.m (P.hi - 1)) :: putB (imgL Q.m u) [])
noncomputable def contS (Q : Rw) (u : List UInt8) : List Seg := Q.old ++ putB (imgL Q.m u) []
noncomputable def contZ (P : Pl) (Q : Rw) : List Seg := Q.old ++ [.w (16 * P.B + Q.m) (imgCls Q.m (clsT (P.B % 16))) (cond (Nat.beq P.m 0) P.lo (cond (Nat.beq P.lo 0) 0 1)) (mulHi Q.m P.hi)]
noncomputable def bslOf (n : Nat) (l : List Seg) : AV := .bsl n (segLen l).1 (segLen l).2
/-- The store with the row's block at the end. -/
noncomputable def stBase (P : Pl) (Q : Rw) (f : Blk → Blk) (x : AV) (σ : Store) : Store :=
  match Q.id0 with
  | none => stM P (fun b => setBlk Q.at_ x (f b)) σ
  | some i => (stM P (fun b => setBlk Q.at_ x (f b)) σ).kill i
noncomputable def stRow (P : Pl) (Q : Rw) (f : Blk → Blk) (l : List Seg) (σ : Store) : Store := (stBase P Q f (bslOf σ.next l) σ).new (.bytes Q.e l)
/-- The value at the row's place. -/
noncomputable def rowVal (P : Pl) (p : Nat) (xs : List AV) (σ : Store) : AV := cond (Nat.blt p 100) (xs.getD p .any) (match P.sb with
  | some id => match σ.get id with
    | some (.cells _ cs) => cs.getD (p - 100) .any
    | _ => .any
  | none => .any)
/-- What stands in the first tree stands in the second. -/
noncomputable def ptSub : PT Blk → PT Blk → Bool
  | .leaf, _ => true
  | .node l none r, .node l' _ r' => ptSub l l' && ptSub r r'
  | .node l (some v) r, .node l' (some v') r' => Blk.beq v v' && ptSub l l' && ptSub r r'
  | .node l none r, .leaf => ptSub l .leaf && ptSub r .leaf
  | .node _ (some _) _, _ => false
/-- The store without the text's block and the row's. -/
noncomputable def stLess (P : Pl) (Q : Rw) (σ : Store) : Store :=
  match P.sb, Q.id0 with
  | some a, some b => (σ.kill a).kill b
  | some a, none => σ.kill a
  | none, some b => σ.kill b
  | none, none => σ
noncomputable def mtR (P : Pl) (Q : Rw) (C : List Seg) (u : List UInt8) (xs : List AV) (σ : Store) (ys : List AV) (τ : Store) : Bool :=
  allSame P.ks ys (mapK (slotE P u) P.ks xs) &&
  (match rowVal P Q.at_ ys τ with
   | .bsl r c ts => Nat.ble σ.next r && (match τ.get r with
      | some (.bytes e' l') => Nat.beq e' Q.e && segSame l' C && uvSame (.lin c ts) (.lin (segLen C).1 (segLen C).2)
      | _ => false)
   | _ => false) &&
  (match P.sb with
   | none => true
   | some id => match τ.get id, σ.get id with
     | some b, some b0 => blkSame P b (blkE P u b0)
     | _, _ => false) &&
  ptSub (stLess P Q σ).t τ.t
/-- A row of known bytes, its room forgotten. -/
noncomputable def weakT (e : TypeId) (s : AV) (σ : Store) : Option R :=
  match s with
  | .slice id 0 n cap 1 => match rowHeld σ e (.slice id 0 n cap 1) with
    | some l => match ((σ.kill id).new (.bytes e l)).get σ.next with
      | some _ => some (bslOf σ.next l, (σ.kill id).new (.bytes e l))
      | none => none
    | none => none
  | _ => none
/-- The like for a row in a cell of a block. -/
noncomputable def weakB (b p : Nat) (e : TypeId) (σ : Store) : Option Store :=
  match σ.get b with
  | some (.cells t cs) => match weakT e (cs.getD p .any) σ with
    | some r => cond (Nat.beq b (rowId (cs.getD p .any))) none (some (r.2.upd b (.cells t (cs.set p r.1))))
    | none => none
  | _ => none
/-- What a cell's row of known bytes is told as, ahead of the look. -/
noncomputable def weakQ (P : Pl) (Q : Rw) (τ : Store) : Store :=
  match P.sb with
  | some id => cond (Nat.blt Q.at_ 100) τ (match weakB id (Q.at_ - 100) Q.e τ with | some τ' => τ' | none => τ)
  | none => τ
noncomputable def mtW (P : Pl) (Q : Rw) (C : List Seg) (u : List UInt8) (xs : List AV) (σ : Store) (ys : List AV) (τ : Store) : Bool := mtR P Q C u xs σ ys (weakQ P Q τ)
noncomputable def unitsR (body : (List AV → Store → Tr R) → List AV → Store → Tr R) (P : Pl) (Q : Rw) (x0 : AV) (xs : List AV) (σ : Store) : List UInt8 → Bool
  | [] => true
  | c :: l =>
    isOk (stepsK body (mtW P Q (contS Q [c]) [c] xs σ) 8 (setRow Q.at_ x0 (mapK (slotG P [c]) P.ks xs)) (stM P (fun b => setBlk Q.at_ x0 (blkG P [c] b)) σ)) &&
    isOk (stepsK body (mtW P Q (contE P Q [c]) [c] xs σ) 8 (setRow Q.at_ (bslOf σ.next (contG P Q)) (mapK (slotG P [c]) P.ks xs)) (stRow P Q (blkG P [c]) (contG P Q) σ)) && unitsR body P Q x0 xs σ l
/-- What the row held. -/
noncomputable def rowOld (σ : Store) (e : TypeId) : AV → Option (List Seg)
  | .nils => some []
  | x => rowHeld σ e x
noncomputable def isAnyK : Option Kd → Bool
  | some .any => true
  | _ => false
/-- The row's place is let go in the plan; its block is none of those that are told. -/
noncomputable def rowFit (P : Pl) (Q : Rw) (x0 : AV) (xs : List AV) (σ : Store) : Bool :=
  (match rowOld σ Q.e x0 with | some l => segsBeq l Q.old | none => false) && ltSegs (16 * P.B1) Q.old && Nat.blt Q.m 16 && (Nat.ble 1 P.lo || (match x0 with | .nils => false | _ => true)) && Nat.ble σ.next 1000000000 && Go.AM.ltW (16 * P.B1) x0 &&
  (match x0 with
   | .nils => (match Q.id0 with | none => true | some _ => false)
   | x => (match Q.id0 with | some i => Nat.beq i (rowId x) && (match P.sb with | some a => !(Nat.beq a i) | none => true) | none => false)) &&
  cond (Nat.blt Q.at_ 100) (isAnyK P.ks[Q.at_]? && Nat.blt Q.at_ xs.length)
    (match P.sb with
     | some id => match σ.get id with
       | some (.cells _ cs) => isAnyK P.cks[Q.at_ - 100]? && Nat.blt (Q.at_ - 100) cs.length
       | _ => false
     | none => false)
noncomputable def sweepOkR (bodyx : (List AV → Store → Tr R) → List AV → Store → Tr R) (P : Pl) (Q : Rw) (xs : List AV) (σ : Store) : Bool :=
  Nat.blt P.m 16 && Nat.blt P.B P.B1 && Nat.beq (P.B1 % 16) (P.B % 16) && hasWord P (xs ++ sbVals P σ) && kdsOk P P.ks xs && sbOk P σ && ptLt (16 * P.B1) σ.t &&
  rowFit P Q (rowVal P Q.at_ xs σ) xs σ && unitsR bodyx P Q (rowVal P Q.at_ xs σ) xs σ (clsT (P.B % 16))
/-- A plan with a row. -/
noncomputable def planR (p m : Nat) (e : TypeId) (P : Pl) (xs : List AV) (σ : Store) : Rw :=
  ⟨p, m, e, (match rowOld σ e (rowVal P p xs σ) with | some l => l | none => []), (match rowVal P p xs σ with | .nils => none | x => some (rowId x))⟩
/-- One round of a sweep: the word at once, at the row told anew; else the body. -/
noncomputable def stepR (self : List AV → Store → Tr R) (body bodyx : (List AV → Store → Tr R) → List AV → Store → Tr R) (P : Pl) (Q : Rw) (τ : Store) (xs : List AV) (σ : Store) : Tr R :=
  cond (sweepOkR bodyx P Q xs τ)
    (self (setRow Q.at_ (bslOf τ.next (contZ P Q)) (mapK (slotZ P) P.ks xs)) (stRow P Q (blkZ P) (contZ P Q) τ))
    (body self xs σ)
noncomputable def sweepR (pl : List AV → Store → Option Pl) (q : Pl → List AV → Store → Rw) (body bodyx : (List AV → Store → Tr R) → List AV → Store → Tr R) : Nat → List AV → Store → Tr R
  | 0, _, _ => .fail
  | m + 1, xs, σ => match pl xs σ with
    | none => body (sweepR pl q body bodyx m) xs σ
    | some P => stepR (sweepR pl q body bodyx m) body bodyx P (q P xs (weakQ P (q P xs σ) σ)) (weakQ P (q P xs σ) σ) xs σ
end Go.AM
/- Sweeps of loops that write: what lasts. -/
namespace Go.AM
/-- What is told alike: blocks below n, words below m. -/
structure Alike2 (n m : Nat) (g g' : Ghost) : Prop where
  sv : ∀ k, k < m → g'.sv k = g.sv k
  next : n ≤ g'.next
  π : ∀ i x, i < n → g'.π i = some x → g.π i = some x
  I : ∀ b cs, g.I b = some cs → belowL n cs = true → g'.I b = some cs
  rv : ∀ k m, g.rv k = some m → g'.rv k = some m
mutual
theorem VR.move {n m : Nat} {g g' : Ghost} (h : Alike2 n m g g') : ∀ {a : AV} {v : Value}, VR g a v → belowA n a = true → ltW m a = true → VR g' a v
  | _, _, .sstr l hl, _, hw => by
    simp only [ltW] at hw
    rw [← den_agree h.sv hw]; exact .sstr l (SegsOK_agree h.sv hw hl)
  | _, _, .lin c ts ht, _, hw => by
    simp only [ltW] at hw
    rw [← tval_agree h.sv hw]; exact .lin c ts (TsOK_agree h.sv hw ht)
  | _, _, .cls l b hb, _, _ => .cls l b hb
  | _, _, .rn k l b hb, _, _ => .rn k l b hb
  | _, _, .num k m, _, _ => .num k m
  | _, _, .bsl id cc ts a len c hT h0 h1 h2 h3, hb, hw => by
    simp only [ltW] at hw
    have hid : id < n := by simpa [belowA, Nat.blt_eq] using hb
    exact .bsl id cc ts a len c (TsOK_agree h.sv hw hT) (by rw [tval_agree h.sv hw]; exact h0) (Nat.lt_of_lt_of_le hid h.next) (fun b m hp => h2 b m (h.π id _ hid hp)) h3
  | _, _, .ub b, _, _ => .ub b
  | _, _, .npN id off h1, hb, _ => by
    have hid : id < n := by simpa [belowA, Nat.blt_eq] using hb
    exact .npN id off (Nat.lt_of_lt_of_le hid h.next)
  | _, _, .npP id off a h1 h2, hb, _ => by
    have hid : id < n := by simpa [belowA, Nat.blt_eq] using hb
    exact .npP id off a (Nat.lt_of_lt_of_le hid h.next) fun b m hp => h2 b m (h.π id _ hid hp)
  | _, _, .rsl id o os cc ts a off len c hO hT ho h0 hlc h1 h2 h3, hb, hw => by
    simp only [ltW, Bool.and_eq_true] at hw
    have hid : id < n := by simpa [belowA, Nat.blt_eq] using hb
    exact .rsl id o os cc ts a off len c (TsOK_agree h.sv hw.1 hO) (TsOK_agree h.sv hw.2 hT) (by rw [tval_agree h.sv hw.1]; exact ho) (by rw [tval_agree h.sv hw.2]; exact h0) hlc (Nat.lt_of_lt_of_le hid h.next) (fun b m hp => h2 b m (h.π id _ hid hp)) h3
  | _, _, .rptr id cc ts a off hT h0 h1 h2, hb, hw => by
    simp only [ltW] at hw
    have hid : id < n := by simpa [belowA, Nat.blt_eq] using hb
    exact .rptr id cc ts a off (TsOK_agree h.sv hw hT) (by rw [tval_agree h.sv hw]; exact h0) (Nat.lt_of_lt_of_le hid h.next) (fun b m hp => h2 b m (h.π id _ hid hp))
  | _, _, .any v, _, _ => .any v
  | _, _, .bool b, _, _ => .bool b
  | _, _, .int k m, _, _ => .int k m
  | _, _, .str s, _, _ => .str s
  | _, _, .nilp, _, _ => .nilp
  | _, _, .ptr id off a h1 h2, hb, _ => by
    have hid : id < n := by simpa [belowA, Nat.blt_eq] using hb
    exact .ptr id off a (Nat.lt_of_lt_of_le hid h.next) fun b m hp => h2 b m (h.π id _ hid hp)
  | _, _, .ref cs off b hI, hb, _ => .ref cs off b (h.I b cs hI (by simpa [belowA] using hb))
  | _, _, .nils, _, _ => .nils
  | _, _, .slice id off len cap z a c h1 h2 h3, hb, _ => by
    have hid : id < n := by simpa [belowA, Nat.blt_eq] using hb
    exact .slice id off len cap z a c (Nat.lt_of_lt_of_le hid h.next) (fun b m hp => h2 b m (h.π id _ hid hp)) h3
  | _, _, .eslice a c, _, _ => .eslice a c
  | _, _, .rslice cs off len b c hI hc, hb, _ => .rslice cs off len b c (h.I b cs hI (by simpa [belowA] using hb)) hc
  | _, _, .nilm, _, _ => .nilm
  | _, _, .amap id r h1 h2, hb, _ => by
    have hid : id < n := by simpa [belowA, Nat.blt_eq] using hb
    exact .amap id r (Nat.lt_of_lt_of_le hid h.next) fun b m hp => h2 b m (h.π id _ hid hp)
  | _, _, .nilf, _, _ => .nilf
  | _, _, .fn f ha hb', hb, hw => by
    simp only [belowA, ltW, Bool.and_eq_true] at hb hw
    exact .fn f (VRs.move h ha hb.1 hw.1) (VRs.move h hb' hb.2 hw.2)
  | _, _, .nili, _, _ => .nili
  | _, _, .iface t hv, hb, hw => .iface t (VR.move h hv (by simpa [belowA] using hb) (by simpa [ltW] using hw))
  | _, _, .agg hs, hb, hw => .agg (VRs.move h hs (by simpa [belowA] using hb) (by simpa [ltW] using hw))
  | _, _, .tup hs, hb, hw => .tup (VRs.move h hs (by simpa [belowA] using hb) (by simpa [ltW] using hw))
theorem VRs.move {n m : Nat} {g g' : Ghost} (h : Alike2 n m g g') : ∀ {a : List AV} {v : List Value}, VRs g a v → belowL n a = true → ltWs m a = true → VRs g' a v
  | _, _, .nil, _, _ => .nil
  | _, _, .cons hv hs, hb, hw => by
    simp only [belowL, ltWs, Bool.and_eq_true] at hb hw
    exact .cons (VR.move h hv hb.1 hw.1) (VRs.move h hs hb.2 hw.2)
end
theorem RR.move {n m : Nat} {g g' : Ghost} (h : Alike2 n m g g') : ∀ {l : List RSeg} {vs : List Value}, RR g l vs → belowRow n l = true → ltRow m l = true → RR g' l vs
  | [], _, hr, _, _ => hr
  | .c v :: l, _, ⟨x, r, h1, h2, h3⟩, hb, hl => by
    simp only [belowRow, ltRow, Bool.and_eq_true] at hb hl
    exact ⟨x, r, h1, h2.move h hb.1 hl.1, h3.move h hb.2 hl.2⟩
  | .r B i T lo hi :: l, _, ⟨u, r, h1, ⟨h2, h4, h5⟩, h7⟩, hb, hl => by
    simp only [ltRow, Bool.and_eq_true, Nat.blt_eq] at hl
    exact ⟨u, r, h1, ⟨by rw [h.sv _ hl.1]; exact h2.mono fun b a hb => h.I b _ hb (by simp [belowL, belowA]), h4, h5⟩, h7.move h hb hl.2⟩
noncomputable def belowBlk (n : Nat) : Blk → Bool
  | .cells _ cs => belowL n cs
  | .row _ l => belowRow n l
  | .mp ks vs => belowL n ks && belowL n vs
  | _ => true
theorem BR.move {k n m : Nat} {g g' : Ghost} (h : Alike2 n m g g') {bl : Blk} {o : Obj} (hb : BR g k bl o) (hn : belowBlk n bl = true) (hl : Blk.ltW m bl = true) : BR g' k bl o := by
  cases bl with
  | cells e cs =>
    obtain ⟨l, r, h1, h2, h3, h4⟩ := hb
    exact ⟨l, r, h1, h2, h3.move h hn hl, h4⟩
  | iter s pos => exact hb
  | siter l c ts =>
    obtain ⟨p, h1, h2, h3, h4⟩ := hb
    simp only [Blk.ltW, Bool.and_eq_true] at hl
    exact ⟨p, by rw [den_agree h.sv hl.1]; exact h1, SegsOK_agree h.sv hl.1 h2, TsOK_agree h.sv hl.2 h3, by rw [tval_agree h.sv hl.2]; exact h4⟩
  | bytes e l =>
    obtain ⟨rest, h1, h2, h3⟩ := hb
    simp only [Blk.ltW] at hl
    exact ⟨rest, by rw [den_agree h.sv hl]; exact h1, by rw [den_agree h.sv hl]; exact h2, SegsOK_agree h.sv hl h3⟩
  | row e l =>
    obtain ⟨vs, rest, h1, h2, h3⟩ := hb
    exact ⟨vs, rest, h1, h2, h3.move h hn hl⟩
  | mp ks vs =>
    obtain ⟨es, cl, h1, h2, h3⟩ := hb
    simp only [belowBlk, Bool.and_eq_true] at hn
    simp only [Blk.ltW, Bool.and_eq_true] at hl
    exact ⟨es, cl, h1, h2.move h hn.1 hl.1, h3.move h hn.2 hl.2⟩
  | sb s => exact hb
theorem blk_below {g : Ghost} {σ : Store} {w : World} (hs : Sim g σ w) {i : Nat} {bl : Blk} (h : σ.get i = some bl) : belowBlk g.next bl = true := by
  obtain ⟨b, k, o, _, _, hbr⟩ := hs.blk i bl h
  cases bl with
  | cells e cs =>
    obtain ⟨l, r, _, _, h3, _⟩ := hbr
    exact belowL_of hs h3
  | row e l =>
    obtain ⟨vs, r, _, _, h3⟩ := hbr
    exact belowRow_of hs h3
  | mp ks vs =>
    obtain ⟨es, cl, _, h2, h3⟩ := hbr
    show (belowL _ ks && belowL _ vs) = true
    rw [belowL_of hs h2, belowL_of hs h3]; rfl
  | _ => rfl
/-- The blocks from n on are forgotten but for one, which is n now; the words are those of another ghost. -/
noncomputable def Ghost.num (g4 g : Ghost) (n r : Nat) : Ghost where
  π := fun i => if i < n then g4.π i else if i = n then g4.π r else none
  I := fun b => match g4.I b with
    | some cs => if belowL n cs = true then some cs else none
    | none => none
  next := n + 1
  bv := g.bv
  bok := g.bok
  iok := fun b _ h => iokAux h (g4.iok b)
  rv := g4.rv
theorem num_I {g4 g : Ghost} {n r b : Nat} {cs : List AV} (h : (g4.num g n r).I b = some cs) : g4.I b = some cs ∧ belowL n cs = true := by
  simp only [Ghost.num] at h
  split at h
  · split at h
    · cases h; exact ⟨‹_›, ‹_›⟩
    · cases h
  · cases h
theorem num_π {g4 g : Ghost} {n r i : Nat} {x : Nat × Nat} (h : (g4.num g n r).π i = some x) : (i < n ∧ g4.π i = some x) ∨ (i = n ∧ g4.π r = some x) := by
  simp only [Ghost.num] at h
  split at h
  · exact .inl ⟨‹_›, h⟩
  · split at h
    · exact .inr ⟨‹_›, h⟩
    · cases h
theorem num_alike {g4 g : Ghost} {n m r : Nat} (hsv : ∀ k, k < m → g4.sv k = g.sv k) : Alike2 n m g4 (g4.num g n r) :=
  ⟨fun k hk => (hsv k hk).symm, Nat.le_succ _, fun i x hi hx => by simpa only [Ghost.num, hi, if_true] using hx, (fun b cs h hb => by simp only [Ghost.num, h, hb, if_true]), fun _ _ h => h⟩
/-- From a world on, whatever the words are. -/
structure Ext0 (g g' : Ghost) (w w' : World) : Prop where
  next : g.next ≤ g'.next
  π : ∀ id x, id < g.next → g'.π id = some x → g.π id = some x
  I : ∀ b cs, g.I b = some cs → g'.I b = some cs
  rv : ∀ k m, g.rv k = some m → g'.rv k = some m
  os : w'.os = w.os
  tape : w'.tape = w.tape
  output : w'.output = w.output
  size : w.heap.size ≤ w'.heap.size
  keep : ∀ b, b < w.heap.size → (∀ id n, g.π id ≠ some (b, n)) → w'.heap[b]? = w.heap[b]?
  old : ∀ id b n, g'.π id = some (b, n) → b < w.heap.size → ∃ id0 n0, g.π id0 = some (b, n0)
theorem Ext.forget {g g' : Ghost} {w w' : World} (h : Ext g g' w w') : Ext0 g g' w w' := ⟨h.le.next, h.le.π, h.le.I, h.le.rv, h.os, h.tape, h.output, h.size, h.keep, h.old⟩
theorem Ext0.full {g g' : Ghost} {w w' : World} (h : Ext0 g g' w w') (hb : g'.bv = g.bv) : Ext g g' w w' := ⟨⟨h.next, hb, h.π, h.I, h.rv⟩, h.os, h.tape, h.output, h.size, h.keep, h.old⟩
theorem Ext0.trans {g g' g'' : Ghost} {w w' w'' : World} (h : Ext0 g g' w w') (k : Ext0 g' g'' w' w'') : Ext0 g g'' w w'' where
  next := Nat.le_trans h.next k.next
  π := fun id x hi hx => h.π id x hi (k.π id x (Nat.lt_of_lt_of_le hi h.next) hx)
  I := fun b cs hb => k.I b cs (h.I b cs hb)
  rv := fun i m hm => k.rv i m (h.rv i m hm)
  os := k.os.trans h.os
  tape := k.tape.trans h.tape
  output := k.output.trans h.output
  size := Nat.le_trans h.size k.size
  keep := fun b hb hn => by
    rw [k.keep b (Nat.lt_of_lt_of_le hb h.size) (fun id n hid => by obtain ⟨id0, n0, h0⟩ := h.old id b n hid hb; exact hn id0 n0 h0)]
    exact h.keep b hb hn
  old := fun id b n hid hb => by
    obtain ⟨id0, n0, h0⟩ := k.old id b n hid (Nat.lt_of_lt_of_le hb h.size)
    exact h.old id0 b n0 h0 hb
/-- The store told anew, blocks forgotten. -/
theorem move_sim {g g4 : Ghost} {σ τ : Store} {w w4 : World} (hs : Sim g σ w) (h4 : Sim g4 τ w4) (hE : Ext0 g g4 w w4) {r : Nat} (hr : σ.next ≤ r) {T : Store} (hT : T.next = σ.next + 1)
    (hget : ∀ i bl, T.get i = some bl → (i < σ.next ∧ ∃ b', τ.get i = some b' ∧ ∀ n o, BR g4 n b' o → BR (g4.num g σ.next r) n bl o) ∨ (i = σ.next ∧ ∃ b', τ.get r = some b' ∧ ∀ n o, BR g4 n b' o → BR (g4.num g σ.next r) n bl o)) :
    Sim (g4.num g σ.next r) T w4 ∧ Ext g (g4.num g σ.next r) w w4 := by
  have hnx : g.next = σ.next := hs.next
  have hal : Alike2 σ.next 0 g4 (g4.num g σ.next r) := num_alike fun k h => absurd h (Nat.not_lt_zero k)
  refine ⟨⟨by rw [hT]; rfl, ?_, ?_, ?_, ?_, ?_⟩, Ext0.full ⟨?_, ?_, ?_, hE.rv, hE.os, hE.tape, hE.output, hE.size, hE.keep, ?_⟩ rfl⟩
  · intro i bl hb
    rcases hget i bl hb with ⟨hi, b', h1, h2⟩ | ⟨rfl, b', h1, h2⟩
    · obtain ⟨b, n, o, hp, ho, hbr⟩ := h4.blk _ _ h1
      exact ⟨b, n, o, by simp only [Ghost.num, hi, if_true]; exact hp, ho, h2 _ _ hbr⟩
    · obtain ⟨b, n, o, hp, ho, hbr⟩ := h4.blk _ _ h1
      exact ⟨b, n, o, by simp only [Ghost.num, Nat.lt_irrefl, if_false, if_true]; exact hp, ho, h2 _ _ hbr⟩
  · intro i j b n n' h h'
    rcases num_π h with ⟨h1, h2⟩ | ⟨h1, h2⟩ <;> rcases num_π h' with ⟨h3, h5⟩ | ⟨h3, h5⟩
    · exact h4.inj _ _ _ _ _ h2 h5
    · have := h4.inj _ _ _ _ _ h2 h5; omega
    · have := h4.inj _ _ _ _ _ h2 h5; omega
    · omega
  · intro b cs h
    obtain ⟨h1, h2⟩ := num_I h
    obtain ⟨e, n, o, ho, l, rest, h3, h5, h6, h7⟩ := h4.imm b cs h1
    exact ⟨e, n, o, ho, l, rest, h3, h5, h6.move hal h2 (g4.iok b cs h1), h7⟩
  · intro b cs i n h hp
    obtain ⟨h1, h2⟩ := num_I h
    rcases num_π hp with ⟨_, h5⟩ | ⟨_, h5⟩
    · exact h4.apart _ _ _ _ h1 h5
    · exact h4.apart _ _ _ _ h1 h5
  · intro i b n hp
    rcases num_π hp with ⟨h3, h5⟩ | ⟨h3, h5⟩
    · exact ⟨Nat.lt_succ_of_lt h3, (h4.lt _ _ _ h5).2⟩
    · exact ⟨by rw [h3]; exact Nat.lt_succ_self _, (h4.lt _ _ _ h5).2⟩
  · rw [hnx]; exact Nat.le_succ _
  · intro i x hi hx
    rw [hnx] at hi
    refine hE.π i x (by rw [hnx]; exact hi) ?_
    simpa only [Ghost.num, hi, if_true] using hx
  · intro b cs h
    obtain ⟨l, hl⟩ := imm_vals hs h
    have hb := belowL_of hs hl
    rw [hnx] at hb
    simp only [Ghost.num, hE.I b cs h, hb, if_true]
  · intro i b n hp hb
    rcases num_π hp with ⟨_, h5⟩ | ⟨_, h5⟩
    · exact hE.old _ _ _ h5 hb
    · exact hE.old _ _ _ h5 hb
theorem ptSub_get : ∀ {a b : PT Blk} {i : Nat} {bl : Blk}, ptSub a b = true → a.get i = some bl → b.get i = some bl
  | .leaf, _, _, _, _, h => by rw [PT.get_leaf] at h; cases h
  | .node l v r, t, i, bl, hp, h => by
    cases t with
    | leaf =>
      cases v with
      | some v => simp [ptSub] at hp
      | none =>
        simp only [ptSub, Bool.and_eq_true] at hp
        simp only [PT.get_leaf, PT.get_node] at h
        cases h0 : Nat.beq i 0 with
        | true => rw [h0, cond_true] at h; cases h
        | false =>
          rw [h0, cond_false] at h
          cases h1 : Nat.beq (i % 2) 1 with
          | true => rw [h1, cond_true] at h; exact PT.get_leaf.trans (PT.get_leaf.symm.trans (ptSub_get (b := .leaf) (i := i / 2) hp.1 h))
          | false => rw [h1, cond_false] at h; exact PT.get_leaf.trans (PT.get_leaf.symm.trans (ptSub_get (b := .leaf) (i := i / 2 - 1) hp.2 h))
    | node l' v' r' =>
      have hh : ptSub l l' = true ∧ ptSub r r' = true ∧ ∀ x, v = some x → v' = some x := by
        cases v with
        | none => simp only [ptSub, Bool.and_eq_true] at hp; exact ⟨hp.1, hp.2, fun _ h => by cases h⟩
        | some x =>
          cases v' with
          | none => simp [ptSub] at hp
          | some y =>
            simp only [ptSub, Bool.and_eq_true] at hp
            exact ⟨hp.1.2, hp.2, fun _ h => by cases h; rw [Blk.beq_eq hp.1.1]⟩
      simp only [PT.get_leaf, PT.get_node] at h ⊢
      cases h0 : Nat.beq i 0 with
      | true => rw [h0, cond_true] at h; rw [cond_true]; exact hh.2.2 _ h
      | false =>
        rw [h0, cond_false] at h
        rw [cond_false]
        cases h1 : Nat.beq (i % 2) 1 with
        | true => rw [h1, cond_true] at h; rw [cond_true]; exact ptSub_get hh.1 h
        | false => rw [h1, cond_false] at h; rw [cond_false]; exact ptSub_get hh.2.1 h
end Go.AM
/- Calls whose answers were shown before. -/
namespace Go.AM
/-- A call, and its answer. -/
structure Memo where
  f : Nat
  a : List AV
  σ : Store
  v : AV
  τ : Store
noncomputable def Memo.hit (m : Memo) (f : Nat) (args : List AV) (σ : Store) : Bool :=
  Nat.beq f m.f && AV.beqs args m.a && Nat.beq σ.next m.σ.next && ptSub m.σ.t σ.t
/-- What a memo says is so. -/
noncomputable def Memo.OK (X : Env) (m : Memo) : Prop := CallOK X m.f m.a m.σ (.ret (m.v, m.τ))
noncomputable def lookM : List Memo → Nat → List AV → Store → Option Memo
  | [], _, _, _ => none
  | m :: l, f, args, σ => cond (m.hit f args σ) (some m) (lookM l f args σ)
theorem Sim.less {g : Ghost} {σ τ : Store} {w : World} (h : Sim g σ w) (hn : τ.next = σ.next) (hs : ptSub τ.t σ.t = true) : Sim g τ w :=
  ⟨by rw [hn]; exact h.next, fun id bl hg => h.blk id bl (ptSub_get hs hg), h.inj, h.imm, h.apart, h.lt⟩
theorem lookM_ok {X : Env} : ∀ {ms : List Memo} {f : Nat} {args : List AV} {σ : Store} {m : Memo}, (∀ m ∈ ms, m.OK X) → lookM ms f args σ = some m → CallOK X f args σ (.ret (m.v, m.τ))
  | [], _, _, _, _, _, h => by cases h
  | m :: l, f, args, σ, m', hms, h => by
    unfold lookM at h
    rcases cond_yes h with ⟨h1, h2⟩ | ⟨_, h2⟩
    · cases h2
      simp only [Memo.hit, Bool.and_eq_true] at h1
      obtain ⟨⟨⟨h1, h2⟩, h3⟩, h4⟩ := h1
      have h1 := Nat.eq_of_beq_eq_true h1
      have h2 := beqs_eq h2
      have h3 := Nat.eq_of_beq_eq_true h3
      subst h1 h2
      intro K g w args' ht ha hs hG
      exact hms m (List.mem_cons_self ..) K g w args' ht ha (hs.less h3.symm h4) hG
    · exact lookM_ok (fun m hm => hms m (List.mem_cons_of_mem _ hm)) h2
/-- Calls, n deep at most, some of them known. -/
noncomputable def runM (ms : List Memo) (tab : (FuncId → List AV → Store → Tr R) → Tab) : Nat → FuncId → List AV → Store → Tr R
  | 0 => fun _ _ _ => .fail
  | n + 1 => fun f args σ => match lookM ms f args σ with
    | some m => .ret (m.v, m.τ)
    | none => (tab (runM ms tab n)).at f args σ
theorem runM_ok {X : Env} {ms : List Memo} (hms : ∀ m ∈ ms, m.OK X) {tab : (FuncId → List AV → Store → Tr R) → Tab} (h : ∀ run, RunOK X run → (tab run).OK X) : ∀ n, RunOK X (runM ms tab n)
  | 0 => fun _ _ _ _ _ _ _ h => h.elim
  | n + 1 => fun f args σ K g w args' hs ha hsim hG => by
    have hs : (match lookM ms f args σ with | some m => (.ret (m.v, m.τ) : Tr R) | none => (tab (runM ms tab n)).at f args σ).sat K := hs
    split at hs
    · rename_i m hm
      exact lookM_ok hms hm K g w args' hs ha hsim hG
    · exact Tab.at_ok (h _ (runM_ok hms h n)) f args σ K g w args' hs ha hsim hG
/-- A run comes to this answer. -/
noncomputable def okM (t : Tr R) (v : AV) (τ : Store) : Bool := match t.val with
  | some (v', σ') => AV.beq v' v && Nat.beq τ.next σ'.next && ptSub τ.t σ'.t
  | none => false
theorem memo_ok {X : Env} {run : FuncId → List AV → Store → Tr R} (hrun : RunOK X run) {m : Memo} (h : okM (run m.f m.a m.σ) m.v m.τ = true) : m.OK X := by
  unfold okM at h
  split at h
  case h_2 => cases h
  rename_i v' σ' hv
  simp only [Bool.and_eq_true] at h
  obtain ⟨⟨h1, h2⟩, h3⟩ := h
  have h1 := beq_eq h1
  have h2 := Nat.eq_of_beq_eq_true h2
  subst h1
  intro K g w args' ht ha hs hG
  have := hrun m.f m.a m.σ (fun r => r = (m.v, σ')) g w args' (Tr.sat_of_val hv rfl) ha hs hG
  refine Calls.mono this fun e w' => ?_
  rintro ⟨v0, a, τ', g', rfl, hk, hsim, hE, hvr⟩
  cases hk
  exact ⟨v0, m.v, m.τ, g', rfl, ht, hsim.less h2 h3, hE, hvr⟩
noncomputable def blkIn : List (Nat × Blk) → Nat → Option Blk
  | [], _ => none
  | p :: l, i => cond (Nat.beq p.1 i) (some p.2) (blkIn l i)
noncomputable def mkSt' (l : List (Nat × Blk)) : Nat → Nat → Store → Store
  | 0, _, σ => σ
  | m + 1, i, σ => mkSt' l m (i + 1) (match blkIn l i with | some b => σ.new b | none => { σ with next := σ.next + 1 })
/-- A store of these blocks. -/
noncomputable def mkSt (n : Nat) (l : List (Nat × Blk)) : Store := mkSt' l n 0 { t := .leaf, next := 0 }
end Go.AM
/- From a run at words to a run at the text itself. -/
namespace Go.AM
/-- A run comes to this text, up to bounds, and to so many blocks. -/
noncomputable def okL (t : Tr R) (U : List Seg) (n : Nat) : Bool := match t.val with
  | some (.sstr l, σ) => segSame l U && Nat.beq σ.next n
  | _ => false
/-- The like, of whatever many blocks. -/
noncomputable def okE (t : Tr R) (U : List Seg) : Bool := match t.val with
  | some (.sstr l, _) => segSame l U
  | _ => false
noncomputable def nxT (t : Tr R) : Nat := match t.val with
  | some (_, σ) => σ.next
  | none => 0
theorem okE_L {t : Tr R} {U : List Seg} (h : okE t U = true) : okL t U (nxT t) = true := by
  unfold okE at h
  unfold okL nxT
  split at h
  · rename_i l σ hv
    rw [hv]
    simp only [Bool.and_eq_true]
    exact ⟨h, by simp⟩
  · cases h
/-- The words' ghost. -/
noncomputable def svOf (bv : Nat → List UInt8) (k : Nat) : List UInt8 := (bv (k / 16)).flatMap (mapB (k % 16))
theorem lift_ok {X : Env} {run : FuncId → List AV → Store → Tr R} (hrun : RunOK X run) {f : Nat} {pre : List AV} {n0 n : Nat} {W U : List Seg} (h : okL (run f (pre ++ [.sstr W]) { t := .leaf, next := n0 }) U n = true)
    {bv : Nat → List UInt8} (bok : ∀ B c, c ∈ bv B → c ∈ clsT (B % 16)) (hW : SegsOK (svOf bv) W) (hpre : ltWs 0 pre = true) :
    CallOK X f (pre ++ [.str (den (svOf bv) W)]) { t := .leaf, next := n0 } (.ret (.str (den (svOf bv) U), { t := .leaf, next := n })) := by
  unfold okL at h
  split at h
  case h_2 => cases h
  rename_i l σ1 hv
  simp only [Bool.and_eq_true] at h
  have hseg := segSame_ok (sv := svOf bv) h.1
  have hn := Nat.eq_of_beq_eq_true h.2
  intro K g w args' hk ha hs hG
  have hag : Agree 0 g { g with bv := bv, bok := bok } := ⟨fun k h => absurd h (Nat.not_lt_zero k), rfl, rfl, rfl, rfl⟩
  have hnone : ∀ m i, (Store.mk (PT.leaf : PT Blk) m).get i = none := fun m i => by simp [Store.get, PT.get_leaf, PT.get_node]
  have hs' : Sim { g with bv := bv, bok := bok } { t := .leaf, next := n0 } w :=
    ⟨hs.next, fun i bl hg => (by rw [hnone] at hg; cases hg), hs.inj, (fun b cs hb => let ⟨e, n, o, h1, h2⟩ := hs.imm b cs hb; ⟨e, n, o, h1, h2.agree hag (g.iok b cs hb)⟩), hs.apart, hs.lt⟩
  have ha' : VRs { g with bv := bv, bok := bok } (pre ++ [.sstr W]) args' := by
    have key : ∀ {p : List AV} {vs : List Value}, ltWs 0 p = true → VRs g (p ++ [.str (den (svOf bv) W)]) vs → VRs { g with bv := bv, bok := bok } (p ++ [.sstr W]) vs := by
      intro p
      induction p with
      | nil =>
        intro vs _ h
        cases h with
        | cons h1 h2 =>
        cases h2
        cases h1
        exact .cons (VR.sstr (g := { g with bv := bv, bok := bok }) W hW) .nil
      | cons x p ih =>
        intro vs hl h
        simp only [ltWs, Bool.and_eq_true] at hl
        cases h with
        | cons h1 h2 => exact .cons (h1.agree hag hl.1) (ih hl.2 h2)
    exact key hpre ha
  have := hrun f (pre ++ [.sstr W]) { t := .leaf, next := n0 } (fun r => r = (.sstr l, σ1)) _ w args' (Tr.sat_of_val hv rfl) ha' hs' hG
  refine Calls.mono this fun e w' => ?_
  rintro ⟨v, a, τ', g2, rfl, hk', hsim, hE, hvr⟩
  cases hk'
  have hbv : g2.bv = bv := hE.le.bv
  have hsv : g2.sv = svOf bv := by funext k; unfold Ghost.sv svOf; rw [hbv]
  have hag2 : Agree 0 g2 (g2.back g) := ⟨fun k h => absurd h (Nat.not_lt_zero k), rfl, rfl, rfl, rfl⟩
  cases hvr with
  | sstr _ hU =>
  refine ⟨_, .str (den (svOf bv) U), { t := .leaf, next := n }, g2.back g, rfl, hk, ⟨hsim.next.trans hn, fun i bl hg => (by rw [hnone] at hg; cases hg), hsim.inj, fun b cs hb => ?_, hsim.apart, hsim.lt⟩, ⟨⟨hE.le.next, rfl, hE.le.π, hE.le.I, hE.le.rv⟩, hE.os, hE.tape, hE.output, hE.size, hE.keep, hE.old⟩, ?_⟩
  · obtain ⟨e, n, o, h1, h2⟩ := hsim.imm b cs hb
    exact ⟨e, n, o, h1, h2.agree hag2 (g2.iok b cs hb)⟩
  · rw [hsv, hseg]; exact .str _
end Go.AM
