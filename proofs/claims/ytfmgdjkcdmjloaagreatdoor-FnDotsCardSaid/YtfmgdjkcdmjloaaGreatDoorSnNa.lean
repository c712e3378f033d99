/- Sweeps that forget what their rounds leave behind; a row of cells may grow, one cell for each byte gone over. -/
import Derived.Test.YtfmgdjkcdmjloaaGreatDoorSnRe
set_option linter.unusedVariables false
set_option linter.unusedSimpArgs false
namespace Go.AM
/-- A row of cells that grows: where it stands, the image, what its cells are, its type, what it held, its block; or none. -/
structure Nd where
  no : Bool
  at_ : Nat
  m : Nat
  T : Nat
  e : TypeId
  old : List RSeg
  id0 : Option Nat
  rb : Option Nat
  gc : Bool
noncomputable def Nd.rw (Q : Nd) : Rw := ⟨Q.at_, Q.m, Q.e, [], Q.id0⟩
noncomputable def rslOf (n : Nat) (l : List RSeg) : AV := .rsl n 0 [] (rowLen l).1 (rowLen l).2
noncomputable def nodG (P : Pl) (Q : Nd) : List RSeg := Q.old ++ [.r P.B1 Q.m Q.T 0 P.hi]
noncomputable def nodZ (P : Pl) (Q : Nd) : List RSeg := Q.old ++ [.r P.B Q.m Q.T (cond (Nat.beq P.m 0) P.lo (cond (Nat.beq P.lo 0) 0 1)) (P.hi / minIm P.m)]
noncomputable def nodW (Q : Nd) (p : List UInt8) : List RSeg := Q.old ++ cellsR (p.map fun c => spC Q.T (mapB Q.m c))
noncomputable def setRowN (Q : Nd) (x : AV) (xs : List AV) : List AV := cond Q.no xs (setRow Q.at_ x xs)
noncomputable def setBlkN (Q : Nd) (x : AV) (b : Blk) : Blk := cond Q.no b (setBlk Q.at_ x b)
noncomputable def stBaseN (P : Pl) (Q : Nd) (f : Blk → Blk) (x : AV) (σ : Store) : Store :=
  match Q.id0 with
  | none => stM P (fun b => setBlkN Q x (f b)) σ
  | some i => (stM P (fun b => setBlkN Q x (f b)) σ).kill i
noncomputable def stNod (P : Pl) (Q : Nd) (f : Blk → Blk) (l : List RSeg) (σ : Store) : Store :=
  cond Q.no { (stBaseN P Q f (rslOf σ.next l) σ) with next := σ.next + 1 } ((stBaseN P Q f (rslOf σ.next l) σ).new (.row Q.e l))
/-- What a row has behind another one: one cell. -/
noncomputable def lastAt : List RSeg → List RSeg → Option AV
  | [], [.c x] => some x
  | c :: C, a :: l => cond (rowBeq [c] [a]) (lastAt C l) none
  | _, _ => none
noncomputable def strIs (a : List UInt8) : Option Blk → Bool
  | some (.cells _ [.str b]) => bytesBeq a b
  | _ => false
/-- A cell that tells of a text, by a new block. -/
noncomputable def nodeIs (τ : Store) (n0 r T : Nat) (a : List UInt8) (x : AV) : Bool :=
  match T, x with
  | 0, .str b => bytesBeq a b
  | T + 1, .iface t (.ptr nid 0) => Nat.beq t (T + 1) && Nat.ble n0 nid && !(Nat.beq nid r) && strIs a (τ.get nid)
  | _, _ => false
noncomputable def stLessN (P : Pl) (Q : Nd) (σ : Store) : Store := stLess P Q.rw σ
noncomputable def rowIs (Q : Nd) (C : List RSeg) (c : UInt8) (n0 : Nat) (y : AV) (τ : Store) : Bool :=
  match y with
  | .rsl r 0 [] cc ts => Nat.ble n0 r && (match τ.get r with
     | some (.row e' l') => Nat.beq e' Q.e && uvSame (.lin cc ts) (.lin (rowLen l').1 (rowLen l').2) && (match lastAt C l' with
       | some x => nodeIs τ n0 r Q.T (mapB Q.m c) x
       | none => false)
     | _ => false)
  | _ => false
noncomputable def mtN (P : Pl) (Q : Nd) (C : List RSeg) (c : UInt8) (xs : List AV) (σ : Store) (ys : List AV) (τ : Store) : Bool :=
  allSame P.ks ys (mapK (slotE P [c]) P.ks xs) &&
  (Q.no || rowIs Q C c σ.next (rowVal P Q.at_ ys τ) τ) &&
  (match P.sb with
   | none => true
   | some id => match τ.get id, σ.get id with
     | some b, some b0 => blkSame P b (blkE P [c] b0)
     | _, _ => false) &&
  ptSub (stLessN P Q σ).t τ.t
/-- A row of known cells, its room forgotten. -/
noncomputable def weakTN (e : TypeId) (s : AV) (σ : Store) : Option R :=
  match s with
  | .slice id 0 n _ 1 => match σ.get id with
    | some (.cells e' cs) => cond (Nat.beq (e' / 2) e && Nat.ble n cs.length) (match ((σ.kill id).new (.row e (cellsR (cs.take n)))).get σ.next with
      | some _ => some (rslOf σ.next (cellsR (cs.take n)), (σ.kill id).new (.row e (cellsR (cs.take n))))
      | none => none) none
    | _ => none
  | _ => none
/-- The like for a row in a cell of a block. -/
noncomputable def weakBN (b p : Nat) (e : TypeId) (σ : Store) : Option Store :=
  match σ.get b with
  | some (.cells t cs) => match weakTN e (cs.getD p .any) σ with
    | some r => cond (Nat.beq b (rowId (cs.getD p .any))) none (some (r.2.upd b (.cells t (cs.set p r.1))))
    | none => none
  | _ => none
/-- What a row of known cells is told as, ahead of the look. -/
noncomputable def weakQN (P : Pl) (Q : Nd) (ys : List AV) (τ : Store) : List AV × Store :=
  cond Q.no (ys, τ) (cond (Nat.blt Q.at_ 100)
    (match weakTN Q.e (ys.getD Q.at_ .any) τ with | some r => (ys.set Q.at_ r.1, r.2) | none => (ys, τ))
    (match P.sb with
     | some id => (match weakBN id (Q.at_ - 100) Q.e τ with | some τ' => (ys, τ') | none => (ys, τ))
     | none => (ys, τ)))
noncomputable def mtWN (P : Pl) (Q : Nd) (C : List RSeg) (c : UInt8) (xs : List AV) (σ : Store) (ys : List AV) (τ : Store) : Bool :=
  mtN P Q C c xs σ (weakQN P Q ys τ).1 (weakQN P Q ys τ).2
/-- The row that is gone over, its run parted. -/
noncomputable def partB (P : Pl) (Q : Nd) (c : UInt8) (σ : Store) : Store := match Q.rb with
  | none => σ
  | some id => match σ.get id with
    | some (.row e l) => σ.upd id (.row e (spRow P.B P.B1 [c] l))
    | _ => σ
/-- The parts put together. -/
noncomputable def joinB (P : Pl) (Q : Nd) (c : UInt8) (σ τ : Store) : Store := match Q.rb with
  | none => τ
  | some id => match σ.get id, τ.get id with
    | some (.row e l), some (.row e' l') => cond (Nat.beq e e' && rowBeq l' (spRow P.B P.B1 [c] l)) (τ.upd id (.row e l)) τ
    | _, _ => τ
noncomputable def rbVals (Q : Nd) (σ : Store) : List AV := match Q.rb with
  | none => []
  | some id => match σ.get id with
    | some (.row _ l) => rowWs l
    | _ => []
noncomputable def mtJN (P : Pl) (Q : Nd) (C : List RSeg) (c : UInt8) (xs : List AV) (σ : Store) (ys : List AV) (τ : Store) : Bool := mtWN P Q C c xs σ ys (joinB P Q c σ τ)
noncomputable def isNilsA : AV → Bool
  | .nils => true
  | _ => false
noncomputable def unitsN (body : (List AV → Store → Tr R) → List AV → Store → Tr R) (P : Pl) (Q : Nd) (fst one : Bool) (xs : List AV) (σ : Store) : List UInt8 → Bool
  | [] => true
  | c :: l =>
    (!fst || isOk (stepsK body (mtJN P Q [] c xs σ) 8 (setRowN Q .nils (mapK (slotG P [c]) P.ks xs)) (partB P Q c (stM P (fun b => setBlkN Q .nils (blkG P [c] b)) σ)))) &&
    (one || isOk (stepsK body (mtJN P Q (nodG P Q) c xs σ) 8 (setRowN Q (rslOf σ.next (nodG P Q)) (mapK (slotG P [c]) P.ks xs)) (partB P Q c (stNod P Q (blkG P [c]) (nodG P Q) σ)))) && unitsN body P Q fst one xs σ l
/-- The word has one byte at most. -/
noncomputable def oneB (P : Pl) : Bool := Nat.blt P.hi (2 * minIm P.m)
noncomputable def isNone {α : Type} : Option α → Bool
  | none => true
  | some _ => false
/-- What stands at the row's place: nothing, or the row. -/
noncomputable def rowFitN (P : Pl) (Q : Nd) (x0 : AV) (xs : List AV) (σ : Store) : Bool :=
  Nat.ble σ.next 1000000000 && cond Q.no (isNone Q.id0)
   (ltRow (16 * P.B1) Q.old && Nat.blt Q.m 16 &&
    (match x0 with
     | .nils => isNone Q.id0 && rowBeq Q.old [] && Nat.ble 1 P.lo
     | .rsl id 0 [] c ts => (match Q.id0 with | some i => Nat.beq i id && (match P.sb with | some a => !(Nat.beq a i) | none => true) | none => false) &&
       (match σ.get id with | some (.row e l) => Nat.beq e Q.e && rowBeq Q.old l && uvSame (.lin c ts) (.lin (rowLen l).1 (rowLen l).2) | _ => false)
     | _ => false) &&
    cond (Nat.blt Q.at_ 100) (isAnyK P.ks[Q.at_]? && Nat.blt Q.at_ xs.length)
     (match P.sb with
      | some id => match σ.get id with
        | some (.cells _ cs) => isAnyK P.cks[Q.at_ - 100]? && Nat.blt (Q.at_ - 100) cs.length
        | _ => false
      | none => false))
noncomputable def sweepOkN (bodyx : (List AV → Store → Tr R) → List AV → Store → Tr R) (P : Pl) (Q : Nd) (xs : List AV) (σ : Store) : Bool :=
  Nat.blt P.m 16 && Nat.blt P.B P.B1 && Nat.beq (P.B1 % 16) (P.B % 16) && hasWord P (xs ++ sbVals P σ ++ rbVals Q σ) && kdsOk P P.ks xs && sbOk P σ && ptLt (16 * P.B1) σ.t &&
  rowFitN P Q (rowVal P Q.at_ xs σ) xs σ && unitsN bodyx P Q (!Q.no && isNilsA (rowVal P Q.at_ xs σ)) (!Q.no && isNilsA (rowVal P Q.at_ xs σ) && oneB P) xs σ (clsT (P.B % 16))
mutual
/-- The blocks of which a value tells. -/
noncomputable def refsA : AV → List Nat
  | .ptr i _ => [i]
  | .np i _ => [i]
  | .slice i _ _ _ _ => [i]
  | .rsl i _ _ _ _ => [i]
  | .bsl i _ _ => [i]
  | .rptr i _ _ => [i]
  | .amap i => [i]
  | .iface _ v => refsA v
  | .agg l => refsL l
  | .tup l => refsL l
  | .fn _ a b => refsL a ++ refsL b
  | .ref l _ => refsL l
  | .rslice l _ _ => refsL l
  | _ => []
noncomputable def refsL : List AV → List Nat
  | [] => []
  | x :: l => refsA x ++ refsL l
end
noncomputable def refsR : List RSeg → List Nat
  | [] => []
  | .c v :: l => refsA v ++ refsR l
  | _ :: l => refsR l
noncomputable def refsB : Blk → List Nat
  | .cells _ cs => refsL cs
  | .row _ l => refsR l
  | _ => []
noncomputable def reachW (σ : Store) : Nat → List Nat → PT Blk → PT Blk
  | 0, _, t => t
  | _ + 1, [], t => t
  | f + 1, i :: l, t => match t.get i with
    | some _ => reachW σ f l t
    | none => match σ.get i with
      | some b => reachW σ f (refsB b ++ l) (PT.ins 64 t i b)
      | none => reachW σ f l t
/-- The store of what can be reached from values. -/
noncomputable def gcS (xs : List AV) (σ : Store) : Store := { t := reachW σ 100000 (refsL xs) .leaf, next := σ.next }
noncomputable def gcQ (Q : Nd) (r : List AV × Store) : List AV × Store :=
  cond (Q.gc && ptSub (gcS r.1 r.2).t r.2.t) (r.1, gcS r.1 r.2) r
noncomputable def weakQG (P : Pl) (Q : Nd) (xs : List AV) (σ : Store) : List AV × Store := gcQ Q (weakQN P Q xs σ)
/-- A plan that lets go what cannot be reached from the loop's values. -/
noncomputable def planGc (q : Pl → List AV → Store → Nd) (P : Pl) (xs : List AV) (σ : Store) : Nd := { q P xs σ with gc := true }
/-- One round of a sweep: the word at once, at the row told anew; else the body. -/
noncomputable def stepN (self : List AV → Store → Tr R) (body bodyx : (List AV → Store → Tr R) → List AV → Store → Tr R) (P : Pl) (Q : Nd) (r : List AV × Store) (xs : List AV) (σ : Store) : Tr R :=
  cond (sweepOkN bodyx P Q r.1 r.2)
    (self (setRowN Q (rslOf r.2.next (nodZ P Q)) (mapK (slotZ P) P.ks r.1)) (stNod P Q (blkZ P) (nodZ P Q) r.2))
    (body self xs σ)
noncomputable def sweepNd (pl : List AV → Store → Option Pl) (q : Pl → List AV → Store → Nd) (body bodyx : (List AV → Store → Tr R) → List AV → Store → Tr R) : Nat → List AV → Store → Tr R
  | 0, _, _ => .fail
  | m + 1, xs, σ => match pl xs σ with
    | none => body (sweepNd pl q body bodyx m) xs σ
    | some P => stepN (sweepNd pl q body bodyx m) body bodyx P (q P (weakQG P (q P xs σ) xs σ).1 (weakQG P (q P xs σ) xs σ).2) (weakQG P (q P xs σ) xs σ) xs σ
/-- A plan with a row of cells, or with none. -/
noncomputable def planN (p m T : Nat) (e : TypeId) (P : Pl) (xs : List AV) (σ : Store) : Nd :=
  match rowVal P p xs σ with
  | .rsl id _ _ _ _ => ⟨false, p, m, T, e, (match σ.get id with | some (.row _ l) => l | _ => []), some id, none, false⟩
  | _ => ⟨false, p, m, T, e, [], none, none, false⟩
/-- A plan with a row of bytes whose image a slot decides. -/
noncomputable def planRB (p sl a b : Nat) (e : TypeId) (P : Pl) (xs : List AV) (σ : Store) : Rw :=
  planR p (match xs.getD sl .any with | .bool true => a | _ => b) e P xs σ
noncomputable def planO (P : Pl) (_ : List AV) (_ : Store) : Nd := ⟨true, 0, 0, 0, 0, [], none, none, false⟩
/-- The row at whose slice a slot points is gone over. -/
noncomputable def planWith (sp : Nat) (q : Pl → List AV → Store → Nd) (P : Pl) (xs : List AV) (σ : Store) : Nd :=
  { q P xs σ with rb := match xs.getD sp .any with | .rsl id _ _ _ _ => some id | _ => none }
/-- The run at a place. -/
noncomputable def runAt : List RSeg → Int → List Tm → Option (Nat × Nat × Nat)
  | [], _, _ => none
  | .c _ :: l, n, ts => cond (eqI n 0 && isNilT ts) none (runAt l (n - 1) ts)
  | .r B _ _ lo hi :: l, n, ts => match delTm (16 * B) ts with
    | some ts' => runAt l n ts'
    | none => cond (eqI n 0 && isNilT ts) (some (B, lo, hi)) none
where isNilT : List Tm → Bool
  | [] => true
  | _ => false
/-- Kinds of slots where a run of a row is gone over: places, slices that grow with them, numbers, what is let go. -/
noncomputable def kindsR (B : Nat) (js rs nu an : List Nat) : Nat → List AV → List Kd
  | _, [] => []
  | i, x :: xs => consK (cond (memN i js) .idx (cond (memN i rs) .rlen (cond (memN i nu) .num (cond (memN i an) .any (match x with
    | .rsl _ _ _ _ ts => cond (hasT B ts) .rtext .same
    | .lin _ ts => cond (hasT B ts) .text .same
    | .sstr l => cond (hasB B l) .text .same
    | _ => .same))))) (kindsR B js rs nu an (i + 1) xs)
noncomputable def maxRow : List RSeg → Nat → Nat
  | [], n => n
  | .c _ :: l, n => maxRow l n
  | .r B _ _ _ _ :: l, n => maxRow l (cond (Nat.blt (16 * B) n) n (16 * B + 1))
/-- The plan for a loop over a row: the slot of the slice, a pointer to a block that moves (if there is one), the places (the first one at the run). -/
noncomputable def planRun (sp : Nat) (bp : Option Nat) (j0 : Nat) (js rs nu an : List Nat) (xs : List AV) (σ : Store) : Option Pl :=
  match (match bp with | none => some (0, []) | some _ => blkAt σ xs bp) with
  | none => none
  | some (bid, cs) => match xs.getD sp .any with
    | .rsl id 0 [] _ _ => match σ.get id with
      | some (.row _ l) => match toLin (valAt xs cs j0) with
        | some n => match runAt l n.1 n.2 with
          | some (B, lo, hi) => some ⟨0, B, lo, hi, 16 * (maxRow l (maxXs (xs ++ cs) 0) / 256 + 65) + B % 16, kindsR B (j0 :: js) rs nu an 0 xs, (match bp with | none => none | some _ => some bid), kindsR B (j0 :: js) rs nu an 100 cs⟩
          | none => none
        | none => none
      | _ => none
    | _ => none
end Go.AM
/- Sweeps that forget: what lasts; rows told anew. -/
namespace Go.AM
/-- The blocks from n on are forgotten but for one, which is n now; another one never changes from now on. -/
noncomputable def Ghost.num2 (g4 g : Ghost) (n r : Nat) (nd : Option (Nat × List UInt8)) : Ghost where
  π := (g4.num g n r).π
  I := fun b => match nd with
    | some x => if b = x.1 then some [.str x.2] else (g4.num g n r).I b
    | none => (g4.num g n r).I b
  next := n + 1
  bv := g.bv
  bok := g.bok
  iok := by
    intro b cs h
    split at h
    · split at h
      · cases h; simp [ltWs, ltW]
      · exact (g4.num g n r).iok b cs h
    · exact (g4.num g n r).iok b cs h
  rv := g4.rv
/-- The block that never changes is one of the new ones, and not the row's. -/
noncomputable def NdOk (g4 : Ghost) (τ : Store) (n r : Nat) (nd : Option (Nat × List UInt8)) : Prop :=
  ∀ x, nd = some x → ∃ nid k e, n ≤ nid ∧ nid ≠ r ∧ g4.π nid = some (x.1, k) ∧ τ.get nid = some (.cells e [.str x.2])
section
variable {g4 g : Ghost} {n r : Nat} {nd : Option (Nat × List UInt8)} {τ : Store} {w4 : World}
theorem num2_I {b : Nat} {cs : List AV} (h : (g4.num2 g n r nd).I b = some cs) : (∃ x, nd = some x ∧ b = x.1 ∧ cs = [.str x.2]) ∨ (g4.I b = some cs ∧ belowL n cs = true) := by
  simp only [Ghost.num2] at h
  split at h
  · rename_i x
    split at h
    · cases h; exact .inl ⟨x, rfl, ‹_›, rfl⟩
    · exact .inr (num_I h)
  · exact .inr (num_I h)
theorem num2_keep (h4 : Sim g4 τ w4) (hnd : NdOk g4 τ n r nd) {b : Nat} {cs : List AV} (h : g4.I b = some cs) (hb : belowL n cs = true) : (g4.num2 g n r nd).I b = some cs := by
  have e : (g4.num g n r).I b = some cs := by simp only [Ghost.num, h, hb, if_true]
  simp only [Ghost.num2]
  split
  · rename_i x
    obtain ⟨nid, k, e', _, _, h3, _⟩ := hnd x rfl
    rw [if_neg (fun eb => h4.apart b cs nid k h (by rw [eb]; exact h3))]
    exact e
  · exact e
theorem num2_nd {x : Nat × List UInt8} (h : nd = some x) : (g4.num2 g n r nd).I x.1 = some [.str x.2] := by
  subst h
  simp only [Ghost.num2, if_true]
theorem num2_alike {m : Nat} (h4 : Sim g4 τ w4) (hnd : NdOk g4 τ n r nd) (hsv : ∀ k, k < m → g4.sv k = g.sv k) : Alike2 n m g4 (g4.num2 g n r nd) :=
  ⟨fun k hk => (hsv k hk).symm, Nat.le_succ _, fun i x hi hx => by simpa only [Ghost.num2, Ghost.num, hi, if_true] using hx, (fun b cs h hb => num2_keep h4 hnd h hb), fun _ _ h => h⟩
/-- The store told anew, blocks forgotten, one that never changes from now on. -/
theorem move_sim2 {σ : Store} {w : World} (hs : Sim g σ w) (h4 : Sim g4 τ w4) (hE : Ext0 g g4 w w4) (hr : σ.next ≤ r) (hnd : NdOk g4 τ σ.next r nd) {T : Store} (hT : T.next = σ.next + 1)
    (hget : ∀ i bl, T.get i = some bl → (i < σ.next ∧ ∃ b', τ.get i = some b' ∧ ∀ n o, BR g4 n b' o → BR (g4.num2 g σ.next r nd) n bl o) ∨ (i = σ.next ∧ ∃ b', τ.get r = some b' ∧ ∀ n o, BR g4 n b' o → BR (g4.num2 g σ.next r nd) n bl o)) :
    Sim (g4.num2 g σ.next r nd) T w4 ∧ Ext g (g4.num2 g σ.next r nd) w w4 := by
  have hnx : g.next = σ.next := hs.next
  have hal : Alike2 σ.next 0 g4 (g4.num2 g σ.next r nd) := num2_alike h4 hnd fun k h => absurd h (Nat.not_lt_zero k)
  have hπ : ∀ {i : Nat} {x : Nat × Nat}, (g4.num2 g σ.next r nd).π i = some x → (i < σ.next ∧ g4.π i = some x) ∨ (i = σ.next ∧ g4.π r = some x) := fun h => num_π (g := g) h
  refine ⟨⟨by rw [hT]; rfl, ?_, ?_, ?_, ?_, ?_⟩, Ext0.full ⟨?_, ?_, ?_, hE.rv, hE.os, hE.tape, hE.output, hE.size, hE.keep, ?_⟩ rfl⟩
  · intro i bl hb
    rcases hget i bl hb with ⟨hi, b', h1, h2⟩ | ⟨rfl, b', h1, h2⟩
    · obtain ⟨b, n, o, hp, ho, hbr⟩ := h4.blk _ _ h1
      exact ⟨b, n, o, by simp only [Ghost.num2, Ghost.num, hi, if_true]; exact hp, ho, h2 _ _ hbr⟩
    · obtain ⟨b, n, o, hp, ho, hbr⟩ := h4.blk _ _ h1
      exact ⟨b, n, o, by simp only [Ghost.num2, Ghost.num, Nat.lt_irrefl, if_false, if_true]; exact hp, ho, h2 _ _ hbr⟩
  · intro i j b n n' h h'
    rcases hπ h with ⟨h1, h2⟩ | ⟨h1, h2⟩ <;> rcases hπ h' with ⟨h3, h5⟩ | ⟨h3, h5⟩
    · exact h4.inj _ _ _ _ _ h2 h5
    · have := h4.inj _ _ _ _ _ h2 h5; omega
    · have := h4.inj _ _ _ _ _ h2 h5; omega
    · omega
  · intro b cs h
    rcases num2_I h with ⟨x, hx, rfl, rfl⟩ | ⟨h1, h2⟩
    · obtain ⟨nid, k, e, _, _, q3, q4⟩ := hnd x hx
      obtain ⟨b', n', o', hp, ho, hbr⟩ := h4.blk _ _ q4
      rw [q3] at hp
      cases hp
      obtain ⟨l, rest, q5, q6, q7, q8⟩ := hbr
      refine ⟨e, _, _, ho, l, rest, ⟨_, q5⟩, q6, ?_, q8⟩
      exact q7.move hal (by simp [belowL, belowA]) (by simp [ltWs, ltW])
    · obtain ⟨e, n, o, ho, l, rest, h3, h5, h6, h7⟩ := h4.imm b cs h1
      exact ⟨e, n, o, ho, l, rest, h3, h5, h6.move hal h2 (g4.iok b cs h1), h7⟩
  · intro b cs i n h hp
    rcases num2_I h with ⟨x, hx, rfl, rfl⟩ | ⟨h1, h2⟩
    · obtain ⟨nid, k, e, q1, q2, q3, q4⟩ := hnd x hx
      rcases hπ hp with ⟨h3, h5⟩ | ⟨_, h5⟩
      · have := h4.inj _ _ _ _ _ q3 h5; omega
      · exact q2 (h4.inj _ _ _ _ _ q3 h5)
    · rcases hπ hp with ⟨_, h5⟩ | ⟨_, h5⟩
      · exact h4.apart _ _ _ _ h1 h5
      · exact h4.apart _ _ _ _ h1 h5
  · intro i b n hp
    rcases hπ hp with ⟨h3, h5⟩ | ⟨h3, h5⟩
    · exact ⟨Nat.lt_succ_of_lt h3, (h4.lt _ _ _ h5).2⟩
    · exact ⟨by rw [h3]; exact Nat.lt_succ_self _, (h4.lt _ _ _ h5).2⟩
  · rw [hnx]; exact Nat.le_succ _
  · intro i x hi hx
    rw [hnx] at hi
    refine hE.π i x (by rw [hnx]; exact hi) ?_
    simpa only [Ghost.num2, Ghost.num, hi, if_true] using hx
  · intro b cs h
    obtain ⟨l, hl⟩ := imm_vals hs h
    have hb := belowL_of hs hl
    rw [hnx] at hb
    exact num2_keep h4 hnd (hE.I b cs h) hb
  · intro i b n hp hb
    rcases hπ hp with ⟨_, h5⟩ | ⟨_, h5⟩
    · exact hE.old _ _ _ h5 hb
    · exact hE.old _ _ _ h5 hb
end
section
variable {P : Pl} {Q : Nd} {f : Blk → Blk} {l : List RSeg} {σ : Store}
theorem stBaseN_next {x : AV} : (stBaseN P Q f x σ).next = σ.next := by
  unfold stBaseN
  split
  · exact stM_next
  · exact stM_next
theorem stBaseN_get {x : AV} {i : Nat} {bl : Blk} (h : (stBaseN P Q f x σ).get i = some bl) : Q.id0 ≠ some i ∧ ((P.sb ≠ some i ∧ σ.get i = some bl) ∨ (P.sb = some i ∧ ∃ b, σ.get i = some b ∧ bl = setBlkN Q x (f b))) := by
  unfold stBaseN at h
  split at h
  · rename_i hn
    exact ⟨fun e => (by rw [hn] at e; cases e), stM_get h⟩
  · rename_i j hj
    by_cases e : i = j
    · subst e
      have : ((stM P (fun b => setBlkN Q x (f b)) σ).kill i).get i = none := PT.get_upd_none _ _
      rw [this] at h; cases h
    · have : ((stM P (fun b => setBlkN Q x (f b)) σ).kill j).get i = (stM P (fun b => setBlkN Q x (f b)) σ).get i := PT.get_upd_ne _ _ _ _ e
      rw [this] at h
      exact ⟨fun e2 => (by rw [hj] at e2; cases e2; exact e rfl), stM_get h⟩
theorem stBaseN_put {x : AV} {i : Nat} {b : Blk} (hb : σ.get i = some b) (hi : Q.id0 ≠ some i) : (stBaseN P Q f x σ).get i = some (match P.sb with | some id => if i = id then setBlkN Q x (f b) else b | none => b) := by
  unfold stBaseN
  split
  · exact stM_put hb
  · rename_i j hj
    have hne : i ≠ j := fun e => hi (by rw [hj, e])
    have : ((stM P (fun b => setBlkN Q x (f b)) σ).kill j).get i = (stM P (fun b => setBlkN Q x (f b)) σ).get i := PT.get_upd_ne _ _ _ _ hne
    rw [this]
    exact stM_put hb
theorem stNod_next : (stNod P Q f l σ).next = σ.next + 1 := by
  unfold stNod
  cases Q.no with
  | true => rfl
  | false =>
    show (stBaseN P Q f (rslOf σ.next l) σ).next + 1 = _
    rw [stBaseN_next]
theorem stBaseN_fresh {x : AV} (hf : σ.get σ.next = none) : (stBaseN P Q f x σ).get σ.next = none := by
  cases hg : (stBaseN P Q f x σ).get σ.next with
  | none => rfl
  | some y =>
    rcases (stBaseN_get hg).2 with ⟨_, h2⟩ | ⟨_, b, h2, _⟩
    · rw [hf] at h2; cases h2
    · rw [hf] at h2; cases h2
theorem stNod_old {i : Nat} (hi : i ≠ σ.next) : (stNod P Q f l σ).get i = (stBaseN P Q f (rslOf σ.next l) σ).get i := by
  unfold stNod
  cases Q.no with
  | true => rfl
  | false =>
    show (PT.ins 64 (stBaseN P Q f (rslOf σ.next l) σ).t (stBaseN P Q f (rslOf σ.next l) σ).next (Blk.row Q.e l)).get i = _
    rw [stBaseN_next]
    exact PT.get_ins_ne 64 _ _ _ _ hi
theorem stNod_new (hno : Q.no = false) (hn : σ.next ≤ 1000000000) : (stNod P Q f l σ).get σ.next = some (.row Q.e l) := by
  unfold stNod
  rw [hno]
  show (PT.ins 64 (stBaseN P Q f (rslOf σ.next l) σ).t (stBaseN P Q f (rslOf σ.next l) σ).next (Blk.row Q.e l)).get σ.next = _
  rw [stBaseN_next]
  exact ins_getN 64 _ _ _ (by omega)
theorem stNod_get {i : Nat} {bl : Blk} (hf : σ.get σ.next = none) (h : (stNod P Q f l σ).get i = some bl) : (Q.no = false ∧ i = σ.next ∧ bl = .row Q.e l) ∨ (i ≠ σ.next ∧ (stBaseN P Q f (rslOf σ.next l) σ).get i = some bl) := by
  by_cases e : i = σ.next
  · subst e
    unfold stNod at h
    cases hno : Q.no with
    | true =>
      rw [hno] at h
      have h : (stBaseN P Q f (rslOf σ.next l) σ).get σ.next = some bl := h
      rw [stBaseN_fresh hf] at h; cases h
    | false =>
      rw [hno] at h
      refine .inl ⟨rfl, rfl, ?_⟩
      have h3 : (PT.ins 64 (stBaseN P Q f (rslOf σ.next l) σ).t (stBaseN P Q f (rslOf σ.next l) σ).next (Blk.row Q.e l)).get σ.next = some bl := h
      rw [stBaseN_next] at h3
      exact PT.get_ins 64 _ _ _ _ (stBaseN_fresh hf) h3
  · exact .inr ⟨e, by rw [← stNod_old (l := l) e]; exact h⟩
theorem stLessN_get {i : Nat} {bl : Blk} (h : σ.get i = some bl) (h1 : P.sb ≠ some i) (h2 : Q.id0 ≠ some i) : (stLessN P Q σ).t.get i = some bl := stLess_get (Q := Q.rw) h h1 h2
end
/-- Rows. -/
theorem RR.split {g : Ghost} : ∀ {l m : List RSeg} {vs : List Value}, RR g (l ++ m) vs → ∃ a b, vs = a ++ b ∧ RR g l a ∧ RR g m b
  | [], _, vs, h => ⟨[], vs, rfl, rfl, h⟩
  | .c v :: l, m, _, ⟨x, r, h1, h2, h3⟩ => by
    obtain ⟨a, b, e, h4, h5⟩ := RR.split h3
    exact ⟨x :: a, b, by rw [h1, e]; rfl, ⟨x, a, rfl, h2, h4⟩, h5⟩
  | .r B i T lo hi :: l, m, _, ⟨us, r, h1, h2, h3⟩ => by
    obtain ⟨a, b, e, h4, h5⟩ := RR.split h3
    exact ⟨us ++ a, b, by rw [h1, e, List.append_assoc], ⟨us, a, rfl, h2, h4⟩, h5⟩
theorem lastAt_eq : ∀ {C l : List RSeg} {x : AV}, lastAt C l = some x → l = C ++ [.c x]
  | [], l, x, h => by
    unfold lastAt at h
    split at h
    · cases h; rfl
    · rename_i h1; cases h1
    · cases h
  | c :: C, l, x, h => by
    cases l with
    | nil => simp [lastAt] at h
    | cons a l =>
      unfold lastAt at h
      rcases cond_yes h with ⟨h0, h1⟩ | ⟨_, h1⟩
      · have := rowBeq_eq h0
        injection this with this
        rw [this, lastAt_eq h1]; rfl
      · cases h1
/-- A slice of a row, of another block. -/
theorem rsl_renum {g g' : Ghost} {i i' : Nat} {c c' : Int} {ts ts' : List Tm} {v : Value} (h : VR g (.rsl i 0 [] c ts) v) (hT : TsOK g'.sv ts') (he : c + tval g.sv ts = c' + tval g'.sv ts') (hi : i' < g'.next) (hπ : ∀ b n, g'.π i' = some (b, n) → g.π i = some (b, n)) : VR g' (.rsl i' 0 [] c' ts') v := by
  cases h with
  | rsl _ _ _ _ _ a off len cp q1 q2 q3 q4 q5 q6 q7 q8 =>
  exact .rsl _ _ _ _ _ a off len cp trivial hT q3 (by rw [q4, he]) q5 hi (fun b n hp => q7 b n (hπ _ _ hp)) q8
/-- A slice of a whole row, told anew: the row has as many cells as ever. -/
theorem rslOf_move {g g' : Ghost} {i i' : Nat} {c : Int} {ts : List Tm} {l l' : List RSeg} {vs : List Value} {v : Value} (h : VR g (.rsl i 0 [] c ts) v) (hl : RR g l vs) (hl' : RR g' l' vs) (he : c + tval g.sv ts = (rowLen l).1 + tval g.sv (rowLen l).2) (hi : i' < g'.next) (hπ : ∀ b n, g'.π i' = some (b, n) → g.π i = some (b, n)) : VR g' (rslOf i' l') v := by
  obtain ⟨a1, a2⟩ := rowLen_ok hl
  obtain ⟨b1, b2⟩ := rowLen_ok hl'
  exact rsl_renum h b1 (by rw [he]; omega) hi hπ
end Go.AM
