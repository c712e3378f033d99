/- Sweeps of loops that write: a row of bytes grows by the word's image; blocks that nobody names any more are forgotten. -/
import Derived.Test.YtfmgdjkcdmjloaaGreatDoorSnWc
import Derived.Test.YtfmgdjkcdmjloaaGreatDoorSnZ
set_option linter.unusedVariables false
set_option linter.unusedSimpArgs false
namespace Go.AM
/-- A row that grows: where it stands (a slot; from 100 on a cell of the text's block), the image, the type, what it held, its block. -/
structure Rw where
  at_ : Nat
  m : Nat
  e : TypeId
  old : List Seg
  id0 : Option Nat
def setRow (p : Nat) (x : AV) (xs : List AV) : List AV := cond (Nat.blt p 100) (xs.set p x) xs
def setCell (p : Nat) (x : AV) (cs : List AV) : List AV := cond (Nat.blt p 100) cs (cs.set (p - 100) x)
def setBlk (p : Nat) (x : AV) : Blk → Blk
  | .cells e cs => .cells e (setCell p x cs)
  | b => b
def contG (P : Pl) (Q : Rw) : List Seg := Q.old ++ [.w (16 * P.B1 + Q.m) (imgCls Q.m (clsT (P.B % 16))) 0 (mulHi Q.m (P.hi - 1))]
def contE (P : Pl) (Q : Rw) (u : List UInt8) : List Seg := Q.old ++ (.w (16 * P.B1 + Q.m) (imgCls Q.m (clsT (P.B % 16))) 0 (mulHi Q.m (P.hi - 1)) :: putB (imgL Q.m u) [])
def contS (Q : Rw) (u : List UInt8) : List Seg := Q.old ++ putB (imgL Q.m u) []
def contZ (P : Pl) (Q : Rw) : List Seg := Q.old ++ [.w (16 * P.B + Q.m) (imgCls Q.m (clsT (P.B % 16))) (cond (Nat.beq P.m 0) P.lo 1) (mulHi Q.m P.hi)]
def bslOf (n : Nat) (l : List Seg) : AV := .bsl n (segLen l).1 (segLen l).2
/-- The store with the row's block at the end. -/
def stBase (P : Pl) (Q : Rw) (f : Blk → Blk) (x : AV) (σ : Store) : Store :=
  match Q.id0 with
  | none => stM P (fun b => setBlk Q.at_ x (f b)) σ
  | some i => (stM P (fun b => setBlk Q.at_ x (f b)) σ).kill i
def stRow (P : Pl) (Q : Rw) (f : Blk → Blk) (l : List Seg) (σ : Store) : Store := (stBase P Q f (bslOf σ.next l) σ).new (.bytes Q.e l)
/-- The value at the row's place. -/
def rowVal (P : Pl) (p : Nat) (xs : List AV) (σ : Store) : AV := cond (Nat.blt p 100) (xs.getD p .any) (match P.sb with
  | some id => match σ.get id with
    | some (.cells _ cs) => cs.getD (p - 100) .any
    | _ => .any
  | none => .any)
/-- What stands in the first tree stands in the second. -/
def ptSub : PT Blk → PT Blk → Bool
  | .leaf, _ => true
  | .node l none r, .node l' _ r' => ptSub l l' && ptSub r r'
  | .node l (some v) r, .node l' (some v') r' => Blk.beq v v' && ptSub l l' && ptSub r r'
  | .node l none r, .leaf => ptSub l .leaf && ptSub r .leaf
  | .node _ (some _) _, _ => false
/-- The store without the text's block and the row's. -/
def stLess (P : Pl) (Q : Rw) (σ : Store) : Store :=
  match P.sb, Q.id0 with
  | some a, some b => (σ.kill a).kill b
  | some a, none => σ.kill a
  | none, some b => σ.kill b
  | none, none => σ
def mtR (P : Pl) (Q : Rw) (C : List Seg) (u : List UInt8) (xs : List AV) (σ : Store) (ys : List AV) (τ : Store) : Bool :=
  allSame P.ks ys (mapK (slotE P u) P.ks xs) &&
  (match rowVal P Q.at_ ys τ with
   | .bsl r c ts => Nat.ble σ.next r && (match τ.get r with
      | some (.bytes e' l') => Nat.beq e' Q.e && segSame l' C && uvSame (.lin c ts) (.lin (segLen C).1 (segLen C).2)
      | _ => false)
   | _ => false) &&
  (match P.sb with
   | none => true
   | some id => match τ.get id, σ.get id with
     | some b, some b0 => blkSame P b (blkE P u b0)
     | _, _ => false) &&
  ptSub (stLess P Q σ).t τ.t
/-- A row of known bytes, its room forgotten. -/
def weakT (e : TypeId) (s : AV) (σ : Store) : Option R :=
  match s with
  | .slice id 0 n cap 1 => match rowHeld σ e (.slice id 0 n cap 1) with
    | some l => match ((σ.kill id).new (.bytes e l)).get σ.next with
      | some _ => some (bslOf σ.next l, (σ.kill id).new (.bytes e l))
      | none => none
    | none => none
  | _ => none
/-- The like for a row in a cell of a block. -/
def weakB (b p : Nat) (e : TypeId) (σ : Store) : Option Store :=
  match σ.get b with
  | some (.cells t cs) => match weakT e (cs.getD p .any) σ with
    | some r => cond (Nat.beq b (rowId (cs.getD p .any))) none (some (r.2.upd b (.cells t (cs.set p r.1))))
    | none => none
  | _ => none
/-- What a cell's row of known bytes is told as, ahead of the look. -/
def weakQ (P : Pl) (Q : Rw) (τ : Store) : Store :=
  match P.sb with
  | some id => cond (Nat.blt Q.at_ 100) τ (match weakB id (Q.at_ - 100) Q.e τ with | some τ' => τ' | none => τ)
  | none => τ
def mtW (P : Pl) (Q : Rw) (C : List Seg) (u : List UInt8) (xs : List AV) (σ : Store) (ys : List AV) (τ : Store) : Bool := mtR P Q C u xs σ ys (weakQ P Q τ)
def unitsR (body : (List AV → Store → Tr R) → List AV → Store → Tr R) (P : Pl) (Q : Rw) (x0 : AV) (xs : List AV) (σ : Store) : List UInt8 → Bool
  | [] => true
  | c :: l =>
    isOk (stepsK body (mtW P Q (contS Q [c]) [c] xs σ) 8 (setRow Q.at_ x0 (mapK (slotG P [c]) P.ks xs)) (stM P (fun b => setBlk Q.at_ x0 (blkG P [c] b)) σ)) &&
    isOk (stepsK body (mtW P Q (contE P Q [c]) [c] xs σ) 8 (setRow Q.at_ (bslOf σ.next (contG P Q)) (mapK (slotG P [c]) P.ks xs)) (stRow P Q (blkG P [c]) (contG P Q) σ)) && unitsR body P Q x0 xs σ l
/-- What the row held. -/
def rowOld (σ : Store) (e : TypeId) : AV → Option (List Seg)
  | .nils => some []
  | x => rowHeld σ e x
def isAnyK : Option Kd → Bool
  | some .any => true
  | _ => false
/-- The row's place is let go in the plan; its block is none of those that are told. -/
def rowFit (P : Pl) (Q : Rw) (x0 : AV) (xs : List AV) (σ : Store) : Bool :=
  (match rowOld σ Q.e x0 with | some l => segsBeq l Q.old | none => false) && ltSegs (16 * P.B1) Q.old && Nat.blt Q.m 16 && Nat.ble 1 P.lo && Nat.ble σ.next 1000000000 && Go.AM.ltW (16 * P.B1) x0 &&
  (match x0 with
   | .nils => (match Q.id0 with | none => true | some _ => false)
   | x => (match Q.id0 with | some i => Nat.beq i (rowId x) && (match P.sb with | some a => !(Nat.beq a i) | none => true) | none => false)) &&
  cond (Nat.blt Q.at_ 100) (isAnyK P.ks[Q.at_]? && Nat.blt Q.at_ xs.length)
    (match P.sb with
     | some id => match σ.get id with
       | some (.cells _ cs) => isAnyK P.cks[Q.at_ - 100]? && Nat.blt (Q.at_ - 100) cs.length
       | _ => false
     | none => false)
def sweepOkR (bodyx : (List AV → Store → Tr R) → List AV → Store → Tr R) (P : Pl) (Q : Rw) (xs : List AV) (σ : Store) : Bool :=
  Nat.blt P.m 16 && Nat.blt P.B P.B1 && Nat.beq (P.B1 % 16) (P.B % 16) && hasWord P (xs ++ sbVals P σ) && kdsOk P P.ks xs && sbOk P σ && ptLt (16 * P.B1) σ.t &&
  rowFit P Q (rowVal P Q.at_ xs σ) xs σ && unitsR bodyx P Q (rowVal P Q.at_ xs σ) xs σ (clsT (P.B % 16))
/-- A plan with a row. -/
def planR (p m : Nat) (e : TypeId) (P : Pl) (xs : List AV) (σ : Store) : Rw :=
  ⟨p, m, e, (match rowOld σ e (rowVal P p xs σ) with | some l => l | none => []), (match rowVal P p xs σ with | .nils => none | x => some (rowId x))⟩
def sweepR (pl : List AV → Store → Option Pl) (q : Pl → List AV → Store → Rw) (body bodyx : (List AV → Store → Tr R) → List AV → Store → Tr R) : Nat → List AV → Store → Tr R
  | 0, _, _ => .fail
  | m + 1, xs, σ => match pl xs σ with
    | none => body (sweepR pl q body bodyx m) xs σ
    | some P => cond (sweepOkR bodyx P (q P xs σ) xs σ)
      (sweepR pl q body bodyx m (setRow (q P xs σ).at_ (bslOf σ.next (contZ P (q P xs σ))) (mapK (slotZ P) P.ks xs)) (stRow P (q P xs σ) (blkZ P) (contZ P (q P xs σ)) σ))
      (body (sweepR pl q body bodyx m) xs σ)
end Go.AM
