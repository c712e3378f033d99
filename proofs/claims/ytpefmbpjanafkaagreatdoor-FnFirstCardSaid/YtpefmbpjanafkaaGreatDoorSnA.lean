/- The abstract machine: values, stores, results of an evaluation; the evaluator of the model's code over them. -/
import Derived.WalkKit
import Derived.StillTail
import Derived.ScopeJumps
set_option linter.unusedVariables false
set_option linter.unusedSimpArgs false
namespace Go.AM

/-- A piece of a text: a byte, or a word that is not known: its number, the bytes that it may hold, its least and greatest length. -/
inductive Seg where
  | b (c : UInt8)
  | w (k : Nat) (cls : List UInt8) (lo hi : Nat)
  deriving Inhabited, DecidableEq

/-- A number of times the length of a word. -/
structure Tm where
  k : Nat
  co : Int
  lo : Nat
  hi : Nat
  deriving Inhabited, DecidableEq

/-- What stands for a byte, by pairs. -/
noncomputable def pickB (c : UInt8) : List (Nat × List UInt8) → List UInt8
  | [] => [c]
  | p :: r => cond (Nat.beq c.toNat p.1) p.2 (pickB c r)
noncomputable def hexB (n : Nat) : UInt8 := cond (Nat.blt n 10) (48 + n).toUInt8 (87 + n).toUInt8
/-- The images of a byte: 0 itself; 1 in a destination in angle brackets; 2 in a title in quotation marks; 3 in HTML; 4 in an address; 5 with a backslash; 6 a capital; 7, 8 numeric references; 9, 10 with full stops, and what is made of them. -/
noncomputable def mapB (m : Nat) (c : UInt8) : List UInt8 :=
  match m with
  | 1 => pickB c [(60, [92, 60]), (62, [92, 62]), (92, [92, 92]), (38, [38, 97, 109, 112, 59])]
  | 2 => pickB c [(60, [92, 60]), (62, [92, 62]), (92, [92, 92]), (34, [92, 34]), (38, [38, 97, 109, 112, 59])]
  | 3 => pickB c [(34, [38, 113, 117, 111, 116, 59]), (38, [38, 97, 109, 112, 59]), (60, [38, 108, 116, 59]), (62, [38, 103, 116, 59])]
  | 4 => pickB c [(34, [37, 50, 50]), (38, [38, 97, 109, 112, 59]), (60, [37, 51, 67]), (62, [37, 51, 69]), (92, [37, 53, 67]), (32, [37, 50, 48]), (96, [37, 54, 48]), (91, [37, 53, 66]), (93, [37, 53, 68]), (94, [37, 53, 69]), (123, [37, 55, 66]), (125, [37, 55, 68])]
  | 5 => cond ((Nat.ble 33 c.toNat && Nat.ble c.toNat 47) || (Nat.ble 58 c.toNat && Nat.ble c.toNat 64) || (Nat.ble 91 c.toNat && Nat.ble c.toNat 96) || (Nat.ble 123 c.toNat && Nat.ble c.toNat 126)) [92, c] [c]
  | 6 => cond (Nat.ble 97 c.toNat && Nat.ble c.toNat 122) [(c.toNat - 32).toUInt8] [c]
  | 7 => 38 :: 35 :: (cond (Nat.blt c.toNat 10) [(48 + c.toNat).toUInt8, 59] (cond (Nat.blt c.toNat 100) [(48 + c.toNat / 10).toUInt8, (48 + c.toNat % 10).toUInt8, 59] [(48 + c.toNat / 100).toUInt8, (48 + c.toNat / 10 % 10).toUInt8, (48 + c.toNat % 10).toUInt8, 59]))
  | 8 => 38 :: 35 :: 120 :: (cond (Nat.blt c.toNat 16) [hexB c.toNat, 59] [hexB (c.toNat / 16), hexB (c.toNat % 16), 59])
  | 9 => pickB c [(1, [46, 97]), (2, [46, 98]), (3, [46, 32]), (4, [46, 46, 97]), (5, [46, 46, 98]), (6, [46, 46, 32]), (69, [46, 46, 46])]
  | 10 => pickB c [(1, [46, 97]), (2, [46, 98]), (3, [46, 32]), (4, [46, 46, 97]), (5, [46, 46, 98]), (6, [46, 46, 32]), (69, [226, 128, 166])]
  | _ => [c]
/-- The classes of words, by their bases. -/
noncomputable def clsT : Nat → List UInt8
  | 0 => [97, 98, 122, 48, 49, 57]
  | 1 => [97, 98, 47]
  | 2 => [97, 98, 122, 48, 49, 57, 46, 43, 45, 95]
  | 3 => [97, 98, 122]
  | 4 => [32, 33, 34, 35, 36, 37, 38, 39, 40, 41, 42, 43, 44, 45, 46, 47, 48, 49, 50, 51, 52, 53, 54, 55, 56, 57, 58, 59, 60, 61, 62, 63, 64, 65, 66, 67, 68, 69, 70, 71, 72, 73, 74, 75, 76, 77, 78, 79, 80, 81, 82, 83, 84, 85, 86, 87, 88, 89, 90, 91, 92, 93, 94, 95, 96, 97, 98, 99, 100, 101, 102, 103, 104, 105, 106, 107, 108, 109, 110, 111, 112, 113, 114, 115, 116, 117, 118, 119, 120, 121, 122, 123, 124, 125, 126]
  | 5 => [97, 98, 32, 46]
  | 6 => [97, 98, 99, 100, 101, 102, 103, 104, 105, 106, 107, 108, 109, 110, 111, 112, 113, 114, 115, 116, 117, 118, 119, 120, 121, 122]
  | 7 => [48, 49, 57]
  | 8 => [48, 49, 50, 51, 52, 53, 54, 55, 56, 57]
  | 9 => [97, 98, 99, 100, 101, 102, 103, 104, 105, 106, 107, 108, 109, 110, 111, 112, 113, 114, 115, 116, 117, 118, 119, 120, 121, 122, 65, 66, 67, 68, 69, 70, 71, 72, 73, 74, 75, 76, 77, 78, 79, 80, 81, 82, 83, 84, 85, 86, 87, 88, 89, 90]
  | 10 => [46, 43, 45, 95]
  | 11 => [97, 98]
  | 12 => [32, 33, 34, 35, 36, 37, 38, 39, 40, 41, 42, 43, 44, 46, 47, 48, 49, 50, 51, 52, 53, 54, 55, 56, 57, 58, 59, 61, 64, 65, 66, 67, 68, 69, 70, 71, 72, 73, 74, 75, 76, 77, 78, 79, 80, 81, 82, 83, 84, 85, 86, 87, 88, 89, 90, 91, 92, 94, 95, 96, 97, 98, 99, 100, 101, 102, 103, 104, 105, 106, 107, 108, 109, 110, 111, 112, 113, 114, 115, 116, 117, 118, 119, 120, 121, 122, 123, 124, 125, 126]
  | 13 => [97, 98, 32, 1, 2, 3, 4, 5, 6]
  | 14 => [69]
  | 15 => [97, 98, 32, 1, 2, 3, 4, 5, 6, 69]
  | _ => []

/-- Abstract values. 'any' stands for whatever value. -/
inductive AV where
  | sstr (l : List Seg)
  | lin (c : Int) (ts : List Tm)
  | cls (l : List UInt8)
  | rn (k : IntKind) (l : List UInt8)
  | num (k : IntKind)
  | bsl (id : Nat) (c : Int) (ts : List Tm)
  | ub
  | np (id off : Nat)
  | rsl (id : Nat) (o : Int) (os : List Tm) (c : Int) (ts : List Tm)
  | rptr (id : Nat) (c : Int) (ts : List Tm)
  | any
  | bool (b : Bool)
  | int (k : IntKind) (n : Int)
  | str (s : List UInt8)
  | nilp
  | ptr (id off : Nat)
  | ref (cs : List AV) (off : Nat)
  | nils
  | slice (id off len cap z : Nat)
  | eslice
  | rslice (cs : List AV) (off len : Nat)
  | nilm
  | amap (id : Nat)
  | nilf
  | fn (f : Fn) (first captured : List AV)
  | nili
  | iface (t : TypeId) (v : AV)
  | agg (cs : List AV)
  | tup (cs : List AV)
  deriving Inhabited

/-- A piece of a row: a cell; a run of cells, one for each byte of base B: each one tells of the m-th image of its byte (T = 0: the string itself; else a pointer of this type, behind an interface, to a string that never changes); their least and greatest number. -/
inductive RSeg where
  | c (v : AV)
  | r (B m T lo hi : Nat)
  deriving Inhabited

/-- Abstract blocks. The number of cells: twice their type, and one more where the real block has no cells but these. 'sb': the bytes that a text was turned into. -/
inductive Blk where
  | cells (e : TypeId) (cs : List AV)
  | iter (s : List UInt8) (pos : Nat)
  | bytes (e : TypeId) (l : List Seg)
  | siter (l : List Seg) (c : Int) (ts : List Tm)
  | row (e : TypeId) (l : List RSeg)
  | mp (ks vs : List AV)
  | sb (s : List UInt8)
  deriving Inhabited

/-- A tree whose places are numbers. -/
inductive PT (α : Type) where
  | leaf
  | node (l : PT α) (v : Option α) (r : PT α)
  deriving Inhabited

namespace PT
variable {α : Type}
noncomputable def get0 : PT α → Nat → Option α
  | .leaf, _ => none
  | .node l v r, n => cond (Nat.beq n 0) v (cond (Nat.beq (n % 2) 1) (l.get0 (n / 2)) (r.get0 (n / 2 - 1)))
noncomputable def get (t : PT α) : Nat → Option α :=
  PT.rec (motive := fun _ => Nat → Option α) (fun _ => none) (fun _ v _ p q n => cond (Nat.beq n 0) v (cond (Nat.beq (n % 2) 1) (p (n / 2)) (q (n / 2 - 1)))) t
theorem get_leaf {n : Nat} : (leaf : PT α).get n = none := rfl
theorem get_node {l r : PT α} {v : Option α} {n : Nat} : (node l v r).get n = cond (Nat.beq n 0) v (cond (Nat.beq (n % 2) 1) (l.get (n / 2)) (r.get (n / 2 - 1))) := rfl
/-- What stands at a place that is there is turned. -/
noncomputable def upd0 : PT α → Nat → Option α → PT α
  | .leaf, _, _ => .leaf
  | .node l v r, n, x => cond (Nat.beq n 0) (.node l x r) (cond (Nat.beq (n % 2) 1) (.node (l.upd0 (n / 2) x) v r) (.node l v (r.upd0 (n / 2 - 1) x)))
noncomputable def upd (t : PT α) : Nat → Option α → PT α :=
  PT.rec (motive := fun _ => Nat → Option α → PT α) (fun _ _ => .leaf) (fun l v r p q n x => cond (Nat.beq n 0) (.node l x r) (cond (Nat.beq (n % 2) 1) (.node (p (n / 2) x) v r) (.node l v (q (n / 2 - 1) x)))) t
theorem upd_leaf {n : Nat} {x : Option α} : (leaf : PT α).upd n x = .leaf := rfl
theorem upd_node {l r : PT α} {v : Option α} {n : Nat} {x : Option α} : (node l v r).upd n x = cond (Nat.beq n 0) (.node l x r) (cond (Nat.beq (n % 2) 1) (.node (l.upd (n / 2) x) v r) (.node l v (r.upd (n / 2 - 1) x))) := rfl
/-- A place is made. -/
noncomputable def ins0 : Nat → PT α → Nat → α → PT α
  | 0, t, _, _ => t
  | f + 1, .leaf, n, x => cond (Nat.beq n 0) (.node .leaf (some x) .leaf) (cond (Nat.beq (n % 2) 1) (.node (ins0 f .leaf (n / 2) x) none .leaf) (.node .leaf none (ins0 f .leaf (n / 2 - 1) x)))
  | f + 1, .node l v r, n, x => cond (Nat.beq n 0) (.node l (some x) r) (cond (Nat.beq (n % 2) 1) (.node (ins0 f l (n / 2) x) v r) (.node l v (ins0 f r (n / 2 - 1) x)))
noncomputable def ins (f : Nat) : PT α → Nat → α → PT α :=
  Nat.rec (motive := fun _ => PT α → Nat → α → PT α) (fun t _ _ => t) (fun _ q t n x => PT.rec (motive := fun _ => PT α)
    (cond (Nat.beq n 0) (.node .leaf (some x) .leaf) (cond (Nat.beq (n % 2) 1) (.node (q .leaf (n / 2) x) none .leaf) (.node .leaf none (q .leaf (n / 2 - 1) x))))
    (fun l v r _ _ => cond (Nat.beq n 0) (.node l (some x) r) (cond (Nat.beq (n % 2) 1) (.node (q l (n / 2) x) v r) (.node l v (q r (n / 2 - 1) x)))) t) f
theorem ins_zero {t : PT α} {n : Nat} {x : α} : ins 0 t n x = t := rfl
theorem ins_leaf {f n : Nat} {x : α} : ins (f + 1) .leaf n x = cond (Nat.beq n 0) (.node .leaf (some x) .leaf) (cond (Nat.beq (n % 2) 1) (.node (ins f .leaf (n / 2) x) none .leaf) (.node .leaf none (ins f .leaf (n / 2 - 1) x))) := rfl
theorem ins_node {f n : Nat} {l r : PT α} {v : Option α} {x : α} : ins (f + 1) (.node l v r) n x = cond (Nat.beq n 0) (.node l (some x) r) (cond (Nat.beq (n % 2) 1) (.node (ins f l (n / 2) x) v r) (.node l v (ins f r (n / 2 - 1) x))) := rfl
attribute [irreducible] get upd ins
end PT

structure Store where
  t : PT Blk
  next : Nat
  deriving Inhabited

namespace Store
noncomputable def get (σ : Store) (id : Nat) : Option Blk := σ.t.get id
noncomputable def upd (σ : Store) (id : Nat) (b : Blk) : Store := { σ with t := σ.t.upd id (some b) }
noncomputable def kill (σ : Store) (id : Nat) : Store := { σ with t := σ.t.upd id none }
noncomputable def new (σ : Store) (b : Blk) : Store := { t := PT.ins 64 σ.t σ.next b, next := σ.next + 1 }
end Store

/-- What a computation comes to that touches no world. -/
noncomputable def _root_.Go.Sem.calm {α : Type} (P : Program) : Sem α → Option α
  | .pure a => some a
  | .program k => (k P).calm P
  | .mark _ k => k.calm P
  | _ => none

inductive Tr (α : Type) where
  | ret (a : α)
  | ask (b : Bool) (k : Bool → Tr α)
  | fail
  deriving Inhabited

namespace Tr
variable {α β : Type}
noncomputable def bind0 : Tr α → (α → Tr β) → Tr β
  | .ret a, f => f a
  | .ask b k, f => .ask b fun c => (k c).bind0 f
  | .fail, _ => .fail
noncomputable def bind (t : Tr α) (f : α → Tr β) : Tr β :=
  Tr.rec (motive := fun _ => Tr β) (fun a => f a) (fun b _ q => .ask b q) .fail t
/-- What is so of what it comes to. -/
noncomputable def sat : Tr α → (α → Prop) → Prop
  | .ret a, Q => Q a
  | .ask b k, Q => (k b).sat Q
  | .fail, _ => False
/-- What it comes to. -/
noncomputable def val : Tr α → Option α
  | .ret a => some a
  | .ask b k => (k b).val
  | .fail => none
/-- What it comes to on one way: 'none' decides a test by looking, 'some d' takes it to be d and lists it. -/
noncomputable def path : Tr α → List (Option Bool) → Option (List (Bool × Bool) × α)
  | .ret a, _ => some ([], a)
  | .ask b k, none :: ds => (k b).path ds
  | .ask b k, some d :: ds => ((k d).path ds).map fun r => ((b, d) :: r.1, r.2)
  | .ask _ _, [] => none
  | .fail, _ => none
end Tr

/-- A test that must come out as told. -/
noncomputable def must {α : Type} (b : Bool) (t : Tr α) : Tr α := .ask b fun c => match c with | true => t | false => .fail
noncomputable def opt {α β : Type} (o : Option α) (f : α → Tr β) : Tr β := match o with | some a => f a | none => .fail

noncomputable def u8Beq (a b : UInt8) : Bool := Nat.beq a.toNat b.toNat
noncomputable def bytesBeq : List UInt8 → List UInt8 → Bool
  | [], [] => true
  | a :: l, b :: m => u8Beq a b && bytesBeq l m
  | _, _ => false
noncomputable def segsBeq : List Seg → List Seg → Bool
  | [], [] => true
  | .b c :: l, .b d :: m => u8Beq c d && segsBeq l m
  | .w k c lo hi :: l, .w k' c' lo' hi' :: m => Nat.beq k k' && Nat.beq lo lo' && Nat.beq hi hi' && bytesBeq c c' && segsBeq l m
  | _, _ => false
noncomputable def intBeq : Int → Int → Bool
  | .ofNat m, .ofNat n => Nat.beq m n
  | .negSucc m, .negSucc n => Nat.beq n m
  | _, _ => false
noncomputable def tmsBeq : List Tm → List Tm → Bool
  | [], [] => true
  | a :: l, b :: m => Nat.beq a.k b.k && intBeq a.co b.co && Nat.beq a.lo b.lo && Nat.beq a.hi b.hi && tmsBeq l m
  | _, _ => false
mutual
noncomputable def AV.beq : AV → AV → Bool
  | .sstr a, .sstr b => segsBeq a b
  | .lin c a, .lin d b => intBeq c d && tmsBeq a b
  | .cls a, .cls b => bytesBeq a b
  | .rn k a, .rn k' b => decide (k = k') && bytesBeq a b
  | .num k, .num k' => decide (k = k')
  | .bsl i c a, .bsl j d b => Nat.beq i j && intBeq c d && tmsBeq a b
  | .ub, .ub => true
  | .np a b, .np c d => Nat.beq a c && Nat.beq b d
  | .rsl i o p c a, .rsl j o' p' d b => Nat.beq i j && intBeq o o' && tmsBeq p p' && intBeq c d && tmsBeq a b
  | .rptr i c a, .rptr j d b => Nat.beq i j && intBeq c d && tmsBeq a b
  | .any, .any => true
  | .bool a, .bool b => a == b
  | .int k a, .int k' b => decide (k = k') && intBeq a b
  | .str a, .str b => bytesBeq a b
  | .nilp, .nilp => true
  | .ptr a b, .ptr c d => Nat.beq a c && Nat.beq b d
  | .ref a b, .ref c d => AV.beqs a c && Nat.beq b d
  | .nils, .nils => true
  | .slice a b c d e, .slice a' b' c' d' e' => Nat.beq a a' && Nat.beq b b' && Nat.beq c c' && Nat.beq d d' && Nat.beq e e'
  | .eslice, .eslice => true
  | .rslice a b c, .rslice a' b' c' => AV.beqs a a' && Nat.beq b b' && Nat.beq c c'
  | .nilm, .nilm => true
  | .amap a, .amap b => Nat.beq a b
  | .nilf, .nilf => true
  | .fn f a b, .fn g c d => decide (f = g) && AV.beqs a c && AV.beqs b d
  | .nili, .nili => true
  | .iface t v, .iface u w => Nat.beq t u && AV.beq v w
  | .agg a, .agg b => AV.beqs a b
  | .tup a, .tup b => AV.beqs a b
  | _, _ => false
noncomputable def AV.beqs : List AV → List AV → Bool
  | [], [] => true
  | a :: l, b :: m => AV.beq a b && AV.beqs l m
  | _, _ => false
end

mutual
/-- A constant of the text. -/
noncomputable def ofV : Value → AV
  | .bool b => .bool b
  | .int k n => .int k n
  | .string s => .str s.data.toList
  | .pointer none => .nilp
  | .slice none 0 0 => .nils
  | .map none => .nilm
  | .func f ⟨a⟩ ⟨b⟩ => .fn f (ofVs a) (ofVs b)
  | .nilFunc => .nilf
  | .nilIface => .nili
  | .iface t v => .iface t (ofV v)
  | .agg ⟨cs⟩ => .agg (ofVs cs)
  | .tuple ⟨cs⟩ => .tup (ofVs cs)
  | _ => .any
noncomputable def ofVs : List Value → List AV
  | [] => []
  | v :: l => ofV v :: ofVs l
end

noncomputable def ltI : Int → Int → Bool
  | .ofNat m, .ofNat n => Nat.blt m n
  | .negSucc _, .ofNat _ => true
  | .ofNat _, .negSucc _ => false
  | .negSucc m, .negSucc n => Nat.blt n m
noncomputable def leI : Int → Int → Bool
  | .ofNat m, .ofNat n => Nat.ble m n
  | .negSucc _, .ofNat _ => true
  | .ofNat _, .negSucc _ => false
  | .negSucc m, .negSucc n => Nat.ble n m
noncomputable def eqI : Int → Int → Bool
  | .ofNat m, .ofNat n => Nat.beq m n
  | .negSucc m, .negSucc n => Nat.beq n m
  | _, _ => false
noncomputable def neI (a b : Int) : Bool := !(eqI a b)
noncomputable def gtI (a b : Int) : Bool := ltI b a
noncomputable def geI (a b : Int) : Bool := leI b a

/-- A term more. -/
noncomputable def addTm0 (k : Nat) (co : Int) (lo hi : Nat) : List Tm → List Tm
  | [] => [⟨k, co, lo, hi⟩]
  | t :: r => cond (Nat.beq t.k k) (cond (eqI (Int.add t.co co) 0) r (⟨t.k, Int.add t.co co, t.lo, t.hi⟩ :: r)) (cond (Nat.ble k t.k) (⟨k, co, lo, hi⟩ :: t :: r) (t :: addTm0 k co lo hi r))
noncomputable def addTm (k : Nat) (co : Int) (lo hi : Nat) (l : List Tm) : List Tm :=
  List.rec (motive := fun _ => List Tm) [⟨k, co, lo, hi⟩] (fun t r q => cond (Nat.beq t.k k) (cond (eqI (Int.add t.co co) 0) r (⟨t.k, Int.add t.co co, t.lo, t.hi⟩ :: r)) (cond (Nat.ble k t.k) (⟨k, co, lo, hi⟩ :: t :: r) (t :: q))) l
/-- A term and what stands behind it, among terms: in the order of their numbers. -/
noncomputable def mergeT0 (t : Tm) (f : List Tm → List Tm) : List Tm → List Tm
  | [] => t :: f []
  | u :: us => cond (Nat.beq u.k t.k) (cond (eqI (Int.add u.co t.co) 0) (f us) (⟨u.k, Int.add u.co t.co, u.lo, u.hi⟩ :: f us)) (cond (Nat.ble t.k u.k) (t :: f (u :: us)) (u :: mergeT0 t f us))
noncomputable def mergeT (t : Tm) (f : List Tm → List Tm) (l : List Tm) : List Tm :=
  List.rec (motive := fun _ => List Tm) (t :: f []) (fun u us q => cond (Nat.beq u.k t.k) (cond (eqI (Int.add u.co t.co) 0) (f us) (⟨u.k, Int.add u.co t.co, u.lo, u.hi⟩ :: f us)) (cond (Nat.ble t.k u.k) (t :: f (u :: us)) (u :: q))) l
noncomputable def addTs0 : List Tm → List Tm → List Tm
  | [], ts => ts
  | t :: r, ts => mergeT t (fun us => addTs0 r us) ts
noncomputable def addTs (l ts : List Tm) : List Tm :=
  List.rec (motive := fun _ => List Tm → List Tm) (fun ts => ts) (fun t _ q ts => mergeT t q ts) l ts
noncomputable def negTs0 : List Tm → List Tm
  | [] => []
  | t :: r => ⟨t.k, -t.co, t.lo, t.hi⟩ :: negTs0 r
noncomputable def negTs (l : List Tm) : List Tm :=
  List.rec (motive := fun _ => List Tm) [] (fun t _ q => ⟨t.k, -t.co, t.lo, t.hi⟩ :: q) l
/-- What terms come to at least (true), at most: the gains, and the losses. -/
noncomputable def posT0 (b : Bool) : List Tm → Nat
  | [] => 0
  | t :: r => match t.co with
    | .ofNat n => Nat.add (Nat.mul n (cond b t.lo t.hi)) (posT0 b r)
    | .negSucc _ => posT0 b r
noncomputable def posT (b : Bool) (l : List Tm) : Nat :=
  List.rec (motive := fun _ => Nat) 0 (fun t _ q => Int.rec (motive := fun _ => Nat) (fun n => Nat.add (Nat.mul n (cond b t.lo t.hi)) q) (fun _ => q) t.co) l
noncomputable def lossT0 (b : Bool) : List Tm → Nat
  | [] => 0
  | t :: r => match t.co with
    | .ofNat _ => lossT0 b r
    | .negSucc n => Nat.add (Nat.mul (Nat.succ n) (cond b t.hi t.lo)) (lossT0 b r)
noncomputable def lossT (b : Bool) (l : List Tm) : Nat :=
  List.rec (motive := fun _ => Nat) 0 (fun t _ q => Int.rec (motive := fun _ => Nat) (fun _ => q) (fun n => Nat.add (Nat.mul (Nat.succ n) (cond b t.hi t.lo)) q) t.co) l
noncomputable def minTs (l : List Tm) : Int := Int.subNatNat (posT true l) (lossT true l)
noncomputable def maxTs (l : List Tm) : Int := Int.subNatNat (posT false l) (lossT false l)
/-- The length of a text. -/
noncomputable def segLen0 : List Seg → Int × List Tm
  | [] => (0, [])
  | .b _ :: l => ((segLen0 l).1 + 1, (segLen0 l).2)
  | .w k _ lo hi :: l => ((segLen0 l).1, addTm k 1 lo hi (segLen0 l).2)
noncomputable def segLen (l : List Seg) : Int × List Tm :=
  List.rec (motive := fun _ => Int × List Tm) (0, []) (fun s _ q => Seg.rec (motive := fun _ => Int × List Tm) (fun _ => (q.1 + 1, q.2)) (fun k _ lo hi => (q.1, addTm k 1 lo hi q.2)) s) l
noncomputable def mkLin (c : Int) (ts : List Tm) : AV := match ts with | [] => .int .i64 c | _ => .lin c ts
noncomputable def segBytes : List Seg → Option (List UInt8)
  | [] => some []
  | .b c :: l => match segBytes l with | some m => some (c :: m) | none => none
  | .w _ _ _ _ :: _ => none
noncomputable def mkStr (l : List Seg) : AV := match segBytes l with | some s => .str s | none => .sstr l
noncomputable def toLin : AV → Option (Int × List Tm)
  | .int .i64 n => some (n, [])
  | .lin c ts => some (c, ts)
  | _ => none
noncomputable def toSegs : AV → Option (List Seg)
  | .str s => some (s.map .b)
  | .sstr l => some l
  | _ => none
noncomputable def isSym : AV → Bool
  | .sstr _ | .lin _ _ | .cls _ | .rn _ _ | .num _ => true
  | _ => false

noncomputable def memB (c : UInt8) : List UInt8 → Bool
  | [] => false
  | d :: l => cond (Nat.beq c.toNat d.toNat) true (memB c l)
/-- Are two texts the same? -/
noncomputable def symEq : List Seg → List Seg → Option Bool
  | [], [] => some true
  | .b c :: l, .b d :: m => cond (Nat.beq c.toNat d.toNat) (symEq l m) (some false)
  | .w k _ _ _ :: l, .w k' _ _ _ :: m => cond (Nat.beq k k') (symEq l m) none
  | .w _ cls lo _ :: _, .b d :: _ => cond (Nat.blt 0 lo && !(memB d cls)) (some false) none
  | .b d :: _, .w _ cls lo _ :: _ => cond (Nat.blt 0 lo && !(memB d cls)) (some false) none
  | [], .b _ :: _ => some false
  | .b _ :: _, [] => some false
  | [], .w _ _ lo _ :: _ => cond (Nat.blt 0 lo) (some false) none
  | .w _ _ lo _ :: _, [] => cond (Nat.blt 0 lo) (some false) none
/-- A word's length is taken away. -/
noncomputable def delTm0 (k : Nat) : List Tm → Option (List Tm)
  | [] => none
  | t :: r => cond (Nat.beq t.k k) (cond (eqI t.co 1) (some r) (cond (ltI 1 t.co) (some (⟨t.k, t.co - 1, t.lo, t.hi⟩ :: r)) none)) (cond (Nat.ble k t.k) none (match delTm0 k r with | some m => some (t :: m) | none => none))
noncomputable def delTm (k : Nat) (l : List Tm) : Option (List Tm) :=
  List.rec (motive := fun _ => Option (List Tm)) none (fun t r q => cond (Nat.beq t.k k) (cond (eqI t.co 1) (some r) (cond (ltI 1 t.co) (some (⟨t.k, t.co - 1, t.lo, t.hi⟩ :: r)) none)) (cond (Nat.ble k t.k) none (match q with | some m => some (t :: m) | none => none))) l
/-- The byte at a place. -/
noncomputable def symAt0 : List Seg → Int → List Tm → Option AV
  | [], _, _ => none
  | .b c :: l, n, [] => cond (eqI n 0) (some (.int .u8 c.toNat)) (cond (ltI 0 n) (symAt0 l (n - 1) []) none)
  | .b _ :: l, n, t :: ts => symAt0 l (n - 1) (t :: ts)
  | .w k cls lo _ :: l, n, ts => match delTm k ts with
    | some [] => cond (leI 0 n) (symAt0 l n []) (cond (ltI n 0 && leI 0 (n + lo)) (some (.cls cls)) none)
    | some ts' => symAt0 l n ts'
    | none => match ts with | [] => cond (leI 0 n && ltI n lo) (some (.cls cls)) none | _ => none
noncomputable def atW (cls : List UInt8) (lo : Nat) (n : Int) (ts : List Tm) (q : Int → List Tm → Option AV) (d : Option (List Tm)) : Option AV :=
  match d with
  | some [] => cond (leI 0 n) (q n []) (cond (ltI n 0 && leI 0 (n + lo)) (some (.cls cls)) none)
  | some ts' => q n ts'
  | none => match ts with | [] => cond (leI 0 n && ltI n lo) (some (.cls cls)) none | _ => none
noncomputable def symAt (l : List Seg) : Int → List Tm → Option AV :=
  List.rec (motive := fun _ => Int → List Tm → Option AV) (fun _ _ => none) (fun s _ q n ts => Seg.rec (motive := fun _ => Option AV)
    (fun c => List.rec (motive := fun _ => Option AV) (cond (eqI n 0) (some (.int .u8 c.toNat)) (cond (ltI 0 n) (q (n - 1) []) none)) (fun t ts _ => q (n - 1) (t :: ts)) ts)
    (fun k cls lo _ => atW cls lo n ts q (delTm k ts)) s) l
theorem symAt_b0 {c : UInt8} {l : List Seg} {n : Int} : symAt (.b c :: l) n [] = cond (eqI n 0) (some (.int .u8 c.toNat)) (cond (ltI 0 n) (symAt l (n - 1) []) none) := rfl
theorem symAt_b1 {c : UInt8} {l : List Seg} {n : Int} {t : Tm} {ts : List Tm} : symAt (.b c :: l) n (t :: ts) = symAt l (n - 1) (t :: ts) := rfl
theorem symAt_w {k : Nat} {cls : List UInt8} {lo hi : Nat} {l : List Seg} {n : Int} {ts : List Tm} : symAt (.w k cls lo hi :: l) n ts = atW cls lo n ts (symAt l) (delTm k ts) := rfl
/-- A text is parted at a place. -/
noncomputable def symSplit0 : List Seg → Int → List Tm → Option (List Seg × List Seg)
  | l, n, [] => cond (eqI n 0) (some ([], l)) (match l with
    | .b c :: l => cond (ltI 0 n) (match symSplit0 l (n - 1) [] with | some p => some (.b c :: p.1, p.2) | none => none) none
    | _ => none)
  | .b c :: l, n, t :: ts => match symSplit0 l (n - 1) (t :: ts) with | some p => some (.b c :: p.1, p.2) | none => none
  | .w k cls lo hi :: l, n, t :: ts => match delTm k (t :: ts) with
    | some ts' => match symSplit0 l n ts' with | some p => some (.w k cls lo hi :: p.1, p.2) | none => none
    | none => none
  | [], _, _ :: _ => none
noncomputable def consP (s : Seg) (o : Option (List Seg × List Seg)) : Option (List Seg × List Seg) := match o with
  | some p => some (s :: p.1, p.2)
  | none => none
noncomputable def splitD (s : Seg) (n : Int) (q : Int → List Tm → Option (List Seg × List Seg)) (d : Option (List Tm)) : Option (List Seg × List Seg) := match d with
  | some ts' => consP s (q n ts')
  | none => none
noncomputable def symSplit (l : List Seg) : Int → List Tm → Option (List Seg × List Seg) :=
  List.rec (motive := fun _ => Int → List Tm → Option (List Seg × List Seg))
    (fun n ts => List.rec (motive := fun _ => Option (List Seg × List Seg)) (cond (eqI n 0) (some ([], [])) none) (fun _ _ _ => none) ts)
    (fun s l q n ts => List.rec (motive := fun _ => Option (List Seg × List Seg))
      (cond (eqI n 0) (some ([], s :: l)) (Seg.rec (motive := fun _ => Option (List Seg × List Seg)) (fun c => cond (ltI 0 n) (consP (.b c) (q (n - 1) [])) none) (fun _ _ _ _ => none) s))
      (fun t ts _ => Seg.rec (motive := fun _ => Option (List Seg × List Seg)) (fun c => consP (.b c) (q (n - 1) (t :: ts))) (fun k cls lo hi => splitD (.w k cls lo hi) n q (delTm k (t :: ts))) s) ts) l
theorem consP_some {s : Seg} {o : Option (List Seg × List Seg)} {p : List Seg × List Seg} (h : consP s o = some p) : ∃ q, o = some q ∧ p = (s :: q.1, q.2) := by
  cases o with
  | none => cases h
  | some q => cases h; exact ⟨q, rfl, rfl⟩
theorem splitD_some {s : Seg} {n : Int} {q : Int → List Tm → Option (List Seg × List Seg)} {d : Option (List Tm)} {p : List Seg × List Seg} (h : splitD s n q d = some p) : ∃ ts' r, d = some ts' ∧ q n ts' = some r ∧ p = (s :: r.1, r.2) := by
  cases d with
  | none => cases h
  | some ts' =>
    obtain ⟨r, h1, h2⟩ := consP_some h
    exact ⟨ts', r, rfl, h1, h2⟩
/-- How a difference stands to 0. -/
noncomputable def linCmp (op : BinOp) (lo hi : Int) : Option Bool :=
  match op with
  | .lss => cond (ltI hi 0) (some true) (cond (leI 0 lo) (some false) none)
  | .leq => cond (leI hi 0) (some true) (cond (ltI 0 lo) (some false) none)
  | .gtr => cond (ltI 0 lo) (some true) (cond (leI hi 0) (some false) none)
  | .geq => cond (leI 0 lo) (some true) (cond (ltI hi 0) (some false) none)
  | .eql => cond (eqI lo 0 && eqI hi 0) (some true) (cond (ltI 0 lo || ltI hi 0) (some false) none)
  | .neq => cond (eqI lo 0 && eqI hi 0) (some false) (cond (ltI 0 lo || ltI hi 0) (some true) none)
  | _ => none
noncomputable def cmpN (op : BinOp) (a b : Nat) : Option Bool :=
  match op with
  | .lss => some (Nat.blt a b)
  | .leq => some (Nat.ble a b)
  | .gtr => some (Nat.blt b a)
  | .geq => some (Nat.ble b a)
  | .eql => some (Nat.beq a b)
  | .neq => some (!(Nat.beq a b))
  | _ => none
/-- All of a class stand alike to a number. -/
noncomputable def clsCmp (op : BinOp) (fl : Bool) (n : Nat) : List UInt8 → Option Bool
  | [] => none
  | [c] => cond fl (cmpN op n c.toNat) (cmpN op c.toNat n)
  | c :: l => match cond fl (cmpN op n c.toNat) (cmpN op c.toNat n), clsCmp op fl n l with
    | some a, some b => cond (a == b) (some a) none
    | _, _ => none
noncomputable def fitsI (lo hi : Int) : Bool := leI (-9223372036854775808) lo && leI hi 9223372036854775807
noncomputable def numKind : AV → Option IntKind
  | .num k | .int k _ | .rn k _ => some k
  | .lin _ _ => some .i64
  | .cls _ => some .u8
  | _ => none
/-- Numbers that are not known. -/
noncomputable def numOp (op : BinOp) (k : IntKind) (x : AV) : Option AV := match op, numKind x with
  | .add, some k' | .sub, some k' | .mul, some k' => cond (decide (k = k')) (some (.num k)) none
  | _, _ => none
/-- Bytes of a class as numbers of a kind. -/
noncomputable def cvCls (k : IntKind) (l : List UInt8) : Option AV := cond (l.all fun c => Nat.blt c.toNat 128) (some (match k with | .u8 => .cls l | k => .rn k l)) none
/-- Operators at values that are not known. -/
noncomputable def symBin1 (op : BinOp) (x y : AV) : Option AV :=
  match x, y with
  | .cls l, .int .u8 (.ofNat n) => match clsCmp op false n l with | some b => some (.bool b) | none => none
  | .int .u8 (.ofNat n), .cls l => match clsCmp op true n l with | some b => some (.bool b) | none => none
  | .rn k l, .int k' (.ofNat n) => cond (decide (k = k')) (match clsCmp op false n l with | some b => some (.bool b) | none => none) none
  | .int k' (.ofNat n), .rn k l => cond (decide (k = k')) (match clsCmp op true n l with | some b => some (.bool b) | none => none) none
  | .num k, y => numOp op k y
  | x, .num k => numOp op k x
  | x, y => match toSegs x, toSegs y with
    | some l, some m => match op with
      | .add => cond (leI ((segLen (l ++ m)).1 + maxTs (segLen (l ++ m)).2) 4611686018427387904) (some (mkStr (l ++ m))) none
      | .eql => match symEq l m with | some b => some (.bool b) | none => none
      | .neq => match symEq l m with | some b => some (.bool (!b)) | none => none
      | _ => none
    | _, _ => match toLin x, toLin y with
      | some a, some b => match op with
        | .add => cond (fitsI (a.1 + b.1 + minTs (addTs a.2 b.2)) (a.1 + b.1 + maxTs (addTs a.2 b.2))) (some (mkLin (a.1 + b.1) (addTs a.2 b.2))) none
        | .sub => cond (fitsI (a.1 - b.1 + minTs (addTs (negTs b.2) a.2)) (a.1 - b.1 + maxTs (addTs (negTs b.2) a.2))) (some (mkLin (a.1 - b.1) (addTs (negTs b.2) a.2))) none
        | op => match linCmp op (a.1 - b.1 + minTs (addTs (negTs b.2) a.2)) (a.1 - b.1 + maxTs (addTs (negTs b.2) a.2)) with | some b => some (.bool b) | none => none
      | _, _ => none
noncomputable def symBin (op : BinOp) (x y : AV) : Option AV := cond (isSym x || isSym y) (symBin1 op x y) none
noncomputable def symLen : AV → Option AV
  | .sstr l => some (mkLin (segLen l).1 (segLen l).2)
  | _ => none
/-- A word of numeric references begins with &. -/
noncomputable def headQ (l : List Seg) (n : Int) (ts : List Tm) : Bool := match symSplit l n ts with
  | some (_, .w k _ lo _ :: _) => Nat.blt 0 lo && (Nat.beq (k % 16) 7 || Nat.beq (k % 16) 8)
  | _ => false
noncomputable def symAtQ (l : List Seg) (n : Int) (ts : List Tm) : Option AV := match symAt l n ts with
  | some (.cls cl) => cond (headQ l n ts) (some (.int .u8 38)) (some (.cls cl))
  | r => r
noncomputable def symIdx (x i : AV) : Option AV :=
  cond (isSym x || isSym i) (match toSegs x, toLin i with | some l, some n => symAtQ l n.1 n.2 | _, _ => none) none
noncomputable def symHi (l : List Seg) : Option AV → Option (List Seg)
  | none => some l
  | some h => match toLin h with | some n => (match symSplit l n.1 n.2 with | some p => some p.1 | none => none) | none => none
noncomputable def symLo (l : List Seg) : Option AV → Option (List Seg)
  | none => some l
  | some h => match toLin h with | some n => (match symSplit l n.1 n.2 with | some p => some p.2 | none => none) | none => none
noncomputable def symO : Option AV → Bool
  | some x => isSym x
  | none => false
noncomputable def symSlice (x : AV) (lo hi : Option AV) : Option AV :=
  cond (isSym x || symO lo || symO hi) (match toSegs x with
    | some l => match symHi l hi with
      | some m => match symLo m lo with
        | some r => some (mkStr r)
        | none => none
      | none => none
    | none => none) none

/-- A number in the range of its kind. -/
noncomputable def inR : IntKind → Int → Bool
  | .i8, n => decide (-128 ≤ n) && decide (n ≤ 127)
  | .i16, n => decide (-32768 ≤ n) && decide (n ≤ 32767)
  | .i32, n => decide (-2147483648 ≤ n) && decide (n ≤ 2147483647)
  | .i64, n => decide (-9223372036854775808 ≤ n) && decide (n ≤ 9223372036854775807)
  | .u8, n => decide (0 ≤ n) && decide (n ≤ 255)
  | .u16, n => decide (0 ≤ n) && decide (n ≤ 65535)
  | .u32, n => decide (0 ≤ n) && decide (n ≤ 4294967295)
  | .u64, n => decide (0 ≤ n) && decide (n ≤ 18446744073709551615)
/-- A result of arithmetic: as it is, where it fits. -/
noncomputable def fit (k : IntKind) (n : Int) : Tr AV := .ask (inR k n) fun c => match c with | true => .ret (.int k n) | false => .ret (.int k (k.wrap n))

noncomputable def AV.cells : AV → List AV
  | .agg cs => cs
  | v => [v]
/-- The value of one cell. -/
noncomputable def AV.one : AV → Bool
  | .any | .agg _ | .tup _ => false
  | _ => true
noncomputable def allOne : List AV → Bool
  | [] => true
  | v :: l => v.one && allOne l

abbrev R := AV × Store

structure Env where
  P : Program
  spec : FuncId → List AV → Store → Option (Tr R)
  glob : Nat → Option (List AV)
  loop : Code → List AV → Store → Option (Tr (Exit × List AV × Store))
  callable : FuncId → Bool

noncomputable def aggT (P : Program) (t : TypeId) : Option Bool := match P.underlying t with | some (.struct _) | some (.array _ _) => some true | some _ => some false | none => none
noncomputable def sizeT (P : Program) (t : TypeId) : Option Nat := (P.info? t).map (·.size)
noncomputable def zeroT (P : Program) (t : TypeId) : Option (List AV) := ((P.info? t).bind (·.zero)).map fun z => (ofV z).cells

noncomputable def zeroV (P : Program) (t : TypeId) : Option AV := ((P.info? t).bind (·.zero)).map ofV

noncomputable def evalO (X : Env) (fr : List AV) : Operand → AV
  | .tmp t => fr.getD t .any
  | .const v => ofV v
  | .global g => match X.glob g with | some cs => .ref cs 0 | none => .any
  | .func f => .fn (.func f) [] []

/-- How many cells a row has. -/
noncomputable def rowLen : List RSeg → Int × List Tm
  | [] => (0, [])
  | .c _ :: l => ((rowLen l).1 + 1, (rowLen l).2)
  | .r B _ _ lo hi :: l => ((rowLen l).1, addTm (16 * B) 1 lo hi (rowLen l).2)
/-- The cell at a place. -/
noncomputable def rowAt : List RSeg → Int → List Tm → Option AV
  | [], _, _ => none
  | .c v :: l, n, [] => cond (eqI n 0) (some v) (cond (ltI 0 n) (rowAt l (n - 1) []) none)
  | .c _ :: l, n, t :: ts => rowAt l (n - 1) (t :: ts)
  | .r B _ _ _ _ :: l, n, ts => match delTm (16 * B) ts with
    | some ts' => rowAt l n ts'
    | none => none
/-- A cell is put at a place. In a run: what stands behind it is forgotten. -/
noncomputable def rowPut : List RSeg → Int → List Tm → AV → Option (List RSeg)
  | [], _, _, _ => none
  | .c w :: l, n, [], v => cond (eqI n 0) (some (.c v :: l)) (cond (ltI 0 n) ((rowPut l (n - 1) [] v).map (.c w :: ·)) none)
  | .c w :: l, n, t :: ts, v => (rowPut l (n - 1) (t :: ts) v).map (.c w :: ·)
  | .r B m T lo hi :: l, n, ts, v => match delTm (16 * B) ts with
    | some ts' => (rowPut l n ts' v).map (.r B m T lo hi :: ·)
    | none => match ts with
      | [] => cond (eqI n 0 && Nat.blt 0 lo) (some [.c v]) none
      | _ => none
noncomputable def isRsl : AV → Bool
  | .rsl _ _ _ _ _ => true
  | _ => false
/-- Cells behind an address. -/
noncomputable def cellsAt (σ : Store) : AV → Option (List AV × Nat)
  | .ptr id off => match σ.get id with | some (.cells _ cs) => some (cs, off) | some (.sb s) => some (s.map fun b => .int .u8 b.toNat, off) | _ => none
  | .ref cs off => some (cs, off)
  | _ => none
noncomputable def loadR (P : Program) (σ : Store) (t : TypeId) (id : Nat) (c : Int) (ts : List Tm) : Option AV :=
  match aggT P t, sizeT P t, σ.get id with
  | some false, some _, some (.row _ l) => rowAt l c ts
  | some false, some _, some (.bytes _ l) => symAt l c ts
  | _, _, _ => none
noncomputable def loadA (P : Program) (σ : Store) (t : TypeId) (a : AV) : Option AV :=
  match a with
  | .rptr id c ts => loadR P σ t id c ts
  | a =>
  match cellsAt σ a with
  | some (cs, off) =>
    match aggT P t, sizeT P t with
    | some true, some n => cond (Nat.ble (off + n) cs.length) (some (.agg ((cs.drop off).take n))) none
    | some false, some _ => cs[off]?
    | _, _ => none
  | none => none
/-- Values are laid over cells from a place on. -/
noncomputable def over : List AV → Nat → List AV → List AV
  | cs, _, [] => cs
  | cs, off, v :: l => over (cs.set off v) (off + 1) l
/-- A byte is put into bytes. -/
noncomputable def putSb (s : List UInt8) (off : Nat) (v : AV) : Option Blk := match v with
  | .int .u8 (.ofNat k) => cond (Nat.blt k 256 && Nat.ble (off + 1) s.length) (some (.sb (s.set off k.toUInt8))) none
  | _ => none
noncomputable def storeA (P : Program) (σ : Store) (t : TypeId) (a v : AV) : Option Store :=
  match a with
  | .ptr id off =>
    match σ.get id, sizeT P t with
    | some (.cells e cs), some n =>
      cond (Nat.beq v.cells.length n && allOne v.cells && Nat.ble (off + n) cs.length) (some (σ.upd id (.cells e (over cs off v.cells)))) none
    | some (.sb s), some 1 => (putSb s off v).map (σ.upd id)
    | _, _ => none
  | _ => none
noncomputable def newA (σ : Store) (e : TypeId) (cs : List AV) : Option R :=
  let σ' := σ.new (.cells e cs)
  match σ'.get σ.next with
  | some _ => some (.ptr σ.next 0, σ')
  | none => none

noncomputable def fillA (place : Nat → Option (Nat × Nat)) : List AV → List (Nat × AV) → Option (List AV)
  | cells, [] => some cells
  | cells, (i, v) :: rest =>
    match place i with
    | none => none
    | some (off, size) =>
      cond (Nat.beq v.cells.length size && Nat.ble (off + v.cells.length) cells.length && (match v with | .any => false | _ => true)) (fillA place (over cells off v.cells) rest) none
noncomputable def fieldPlaces (P : Program) (fs : Array Field) (i : Nat) : Option (Nat × Nat) := match fs[i]? with | some f => (sizeT P f.type).map fun n => (f.offset, n) | none => none
noncomputable def repeatA (zero : List AV) : Nat → List AV
  | 0 => []
  | n + 1 => zero ++ repeatA zero n

noncomputable def boundA (x : Option AV) (d : Int) : Option Int :=
  match x with
  | none => some d
  | some (.int _ n) => some n
  | _ => none
noncomputable def sliceA0 (P : Program) (σ : Store) (t : TypeId) (x : AV) (lo hi : Option AV) : Tr AV :=
  match P.underlying t, x with
  | some .string, .str s =>
    match boundA lo 0, boundA hi s.length with
    | some l, some h => must (decide (0 ≤ l) && decide (l ≤ h) && decide (h ≤ s.length)) (.ret (.str ((s.take h.toNat).drop l.toNat)))
    | _, _ => .fail
  | some (.slice e), .slice id off len cap z' =>
    match boundA lo 0, boundA hi len, (match σ.get id with | some _ => sizeT P e | none => none) with
    | some l, some h, some z => must (decide (0 ≤ l) && decide (l ≤ h) && decide (h ≤ cap) && Nat.beq z z')
        (.ask (decide (l < cap)) fun c => match c with | true => .ret (.slice id (off + l.toNat * z) (h - l).toNat (cap - l.toNat) z) | false => .ret .eslice)
    | _, _, _ => .fail
  | some (.slice e), .rslice cs off len =>
    match boundA lo 0, boundA hi len, sizeT P e with
    | some l, some h, some z => must (decide (0 ≤ l) && decide (l ≤ h) && decide (h ≤ len))
        (.ask (decide (l < len)) fun c => match c with | true => .ret (.rslice cs (off + l.toNat * z) (h - l).toNat) | false => .ret .eslice)
    | _, _, _ => .fail
  | some (.slice e), .nils =>
    match boundA lo 0, boundA hi 0, sizeT P e with
    | some l, some h, some _ => must (decide (l = 0) && decide (h = 0)) (.ret .nils)
    | _, _, _ => .fail
  | some (.slice e), .eslice =>
    match boundA lo 0, boundA hi 0, sizeT P e with
    | some l, some h, some _ => must (decide (l = 0) && decide (h = 0)) (.ret .eslice)
    | _, _, _ => .fail
  | _, _ => .fail

noncomputable def linO (d : Int × List Tm) : Option AV → Option (Int × List Tm)
  | none => some d
  | some x => toLin x
/-- A part of a row: from lo to hi, something of the row being behind lo. -/
noncomputable def sliceR (P : Program) (e : TypeId) (id : Nat) (o : Int) (os : List Tm) (c : Int) (ts : List Tm) (lo hi : Option AV) : Tr AV :=
  match linO (0, []) lo, linO (c, ts) hi, sizeT P e with
  | some l, some h, some 1 => must (leI 0 (l.1 + minTs l.2) && leI 0 (h.1 - l.1 + minTs (addTs (negTs l.2) h.2)) && leI 0 (c - h.1 + minTs (addTs (negTs h.2) ts)) && leI 1 (c - l.1 + minTs (addTs (negTs l.2) ts)))
      (.ret (.rsl id (o + l.1) (addTs l.2 os) (h.1 - l.1) (addTs (negTs l.2) h.2)))
  | _, _, _ => .fail
/-- The whole of a row of bytes. -/
noncomputable def sliceB (P : Program) (e : TypeId) (id : Nat) (c : Int) (ts : List Tm) (lo hi : Option AV) : Tr AV :=
  match linO (0, []) lo, hi, sizeT P e with
  | some (0, []), none, some _ => .ret (.bsl id c ts)
  | _, _, _ => .fail
noncomputable def sliceA (P : Program) (σ : Store) (t : TypeId) (x : AV) (lo hi : Option AV) : Tr AV :=
  match P.underlying t, symSlice x lo hi with
  | some .string, some r => .ret r
  | some (.slice e), _ => (match x with
    | .rsl id o os c ts => sliceR P e id o os c ts lo hi
    | .bsl id c ts => sliceB P e id c ts lo hi
    | x => sliceA0 P σ t x lo hi)
  | _, _ => sliceA0 P σ t x lo hi

noncomputable def idxR (P : Program) (e : TypeId) (id : Nat) (o : Int) (os : List Tm) (c : Int) (ts : List Tm) (i : AV) : Tr AV :=
  match toLin i, sizeT P e with
  | some n, some 1 => must (leI 0 (n.1 + minTs n.2) && leI 1 (c - n.1 + minTs (addTs (negTs n.2) ts))) (.ret (.rptr id (o + n.1) (addTs n.2 os)))
  | _, _ => .fail
noncomputable def indexAddrA0 (P : Program) (t : TypeId) (x i : AV) : Tr AV :=
  match i with
  | .int _ n =>
    match P.underlying t, x with
    | some (.array len e), .ptr id off => opt (sizeT P e) fun z => must (decide (0 ≤ n) && decide (n < len)) (.ret (.ptr id (off + n.toNat * z)))
    | some (.array len e), .ref cs off => opt (sizeT P e) fun z => must (decide (0 ≤ n) && decide (n < len)) (.ret (.ref cs (off + n.toNat * z)))
    | some (.slice e), .slice id off len _ _ => opt (sizeT P e) fun z => must (decide (0 ≤ n) && decide (n < len)) (.ret (.ptr id (off + n.toNat * z)))
    | some (.slice e), .rslice cs off len => opt (sizeT P e) fun z => must (decide (0 ≤ n) && decide (n < len)) (.ret (.ref cs (off + n.toNat * z)))
    | _, _ => .fail
  | _ => .fail
noncomputable def indexAddrA (P : Program) (t : TypeId) (x i : AV) : Tr AV :=
  match x with
  | .rsl id o os c ts => (match P.underlying t with
    | some (.slice e) => idxR P e id o os c ts i
    | _ => .fail)
  | .bsl id c ts => (match P.underlying t with
    | some (.slice e) => idxR P e id 0 [] c ts i
    | _ => .fail)
  | x => indexAddrA0 P t x i
noncomputable def partA (P : Program) (t : TypeId) (cs : List AV) (off : Nat) : Option AV :=
  match aggT P t, sizeT P t with
  | some true, some n => some (.agg ((cs.drop off).take n))
  | some false, some _ => cs[off]?
  | _, _ => none
noncomputable def indexA0 (P : Program) (t : TypeId) (x i : AV) : Tr AV :=
  match i with
  | .int _ n =>
    match P.underlying t, x with
    | some .string, .str s => must (decide (0 ≤ n) && decide (n < s.length)) (.ret (.int .u8 (s.getD n.toNat 0).toNat))
    | some (.array len e), .agg cs => opt (sizeT P e) fun z => must (decide (0 ≤ n) && decide (n < len)) (opt (partA P e cs (n.toNat * z)) .ret)
    | _, _ => .fail
  | _ => .fail
noncomputable def indexA (P : Program) (t : TypeId) (x i : AV) : Tr AV :=
  match P.underlying t, symIdx x i with
  | some .string, some r => .ret r
  | _, _ => indexA0 P t x i
noncomputable def fieldAddrA (P : Program) (t : TypeId) (x : AV) (f : Nat) : Option AV :=
  match P.underlying t with
  | some (.struct fs) =>
    match fs[f]? with
    | some f => match sizeT P f.type with
      | some (_ + 1) => match x with
        | .ptr id off => some (.ptr id (off + f.offset))
        | .ref cs off => some (.ref cs (off + f.offset))
        | _ => none
      | _ => none
    | none => none
  | _ => none
noncomputable def fieldA (P : Program) (t : TypeId) (x : AV) (f : Nat) : Option AV :=
  match P.underlying t, x with
  | some (.struct fs), .agg cs => match fs[f]? with | some f => partA P f.type cs f.offset | none => none
  | _, _ => none

noncomputable def lessL : List UInt8 → List UInt8 → Bool
  | _, [] => false
  | [], _ :: _ => true
  | a :: x, b :: y => decide (a < b) || (decide (a = b) && lessL x y)

/-- Nil or not. -/
noncomputable def isNilA : AV → Option Bool
  | .nilp | .nils | .nilm | .nilf | .nili => some true
  | .ptr _ _ | .ref _ _ | .amap _ | .fn _ _ _ | .iface _ _ | .slice _ _ _ _ _ | .rslice _ _ _ => some false
  | _ => none

/-- Equality of two values of types a and b behind interfaces. -/
noncomputable def eqIf (P : Program) (a : TypeId) (u : AV) (b : TypeId) (v : AV) : Option Bool :=
  cond (Nat.beq a b)
    (match P.info? a, P.underlying a with
     | some i, some (.pointer _) => cond i.comparable
        (match u, v with
         | .nilp, .nilp => some true
         | .nilp, .ptr _ _ | .nilp, .ref _ _ | .ptr _ _, .nilp | .ref _ _, .nilp => some false
         | _, _ => none) none
     | _, _ => none)
    (some false)

/-- Two fields that are the same for sure: numbers, texts. -/
noncomputable def fldEq (P : Program) (t : TypeId) (x y : AV) : Bool := match P.underlying t with
  | some (.int _) => (match x, y with | .int a m, .int b n => decide (a = b) && intBeq m n | _, _ => false)
  | some .string => (match toSegs x, toSegs y with | some a, some b => (match symEq a b with | some b => b | none => false) | _, _ => false)
  | _ => false
noncomputable def eqFs (P : Program) : List Field → List AV → List AV → Bool
  | [], _, _ => true
  | f :: fs, xs, ys => (match partA P f.type xs f.offset, partA P f.type ys f.offset with | some x, some y => fldEq P f.type x y | _, _ => false) && eqFs P fs xs ys
/-- Equality, as far as it is asked, but for structures. -/
noncomputable def eqA0 (P : Program) (t : TypeId) (x y : AV) : Option Bool :=
  match x, y with
  | .bool a, .bool b => match P.underlying t with | some .bool => some (a == b) | _ => none
  | .nilp, .nilp => match P.underlying t with | some (.pointer _) => some true | _ => none
  | .nilp, .ptr _ _ | .nilp, .ref _ _ | .ptr _ _, .nilp | .ref _ _, .nilp => match P.underlying t with | some (.pointer _) => some false | _ => none
  | .nils, .nils => match P.underlying t with | some (.slice _) => some true | _ => none
  | .nils, .slice _ _ _ _ _ | .nils, .rslice _ _ _ | .slice _ _ _ _ _, .nils | .rslice _ _ _, .nils => match P.underlying t with | some (.slice _) => some false | _ => none
  | .nilf, .nilf => match P.underlying t with | some (.func _ _ _) => some true | _ => none
  | .nilf, .fn _ _ _ | .fn _ _ _, .nilf => match P.underlying t with | some (.func _ _ _) => some false | _ => none
  | .nilm, .nilm => match P.underlying t with | some (.map _ _) => some true | _ => none
  | .nilm, .amap _ | .amap _, .nilm => match P.underlying t with | some (.map _ _) => some false | _ => none
  | .nili, .iface _ _ | .iface _ _, .nili => match P.underlying t with | some (.interface _) => some false | _ => none
  | .iface a u, .iface b v => match P.underlying t with | some (.interface _) => eqIf P a u b v | _ => none
  | _, _ => none

/-- Equality, as far as it is asked. -/
noncomputable def eqA (P : Program) (t : TypeId) (x y : AV) : Option Bool :=
  match x, y with
  | .agg xs, .agg ys => (match P.underlying t with | some (.struct fs) => cond (!(P.stoodInHeld t) && !(P.eqGuardType P.depth t) && eqFs P fs.toList xs ys) (some true) none | _ => none)
  | x, y => eqA0 P t x y

noncomputable def binA0 (P : Program) (op : BinOp) (t : TypeId) (x y : AV) (cy : Bool) : Tr AV :=
  match op, x, y with
  | .shl, .int k a, .int k' b | .shr, .int k a, .int k' b => opt ((Op.shift op k a k' b).calm P) fun v => .ret (ofV v)
  | _, .int k a, .int k' b =>
    cond (decide (k = k'))
      (match op with
       | .add => fit k (a + b)
       | .sub => fit k (a - b)
       | .mul => fit k (a * b)
       | .quo => must (decide (0 ≤ a) && decide (0 < b)) (fit k (a / b))
       | .rem => must (decide (0 ≤ a) && decide (0 < b)) (.ret (.int k (a % b)))
       | .and | .or | .xor | .andNot => opt ((Op.intBits op k a b).calm P) fun v => .ret (ofV v)
       | .eql => .ret (.bool (decide (a = b)))
       | .neq => .ret (.bool (!decide (a = b)))
       | .lss => .ret (.bool (decide (a < b)))
       | .leq => .ret (.bool (decide (a ≤ b)))
       | .gtr => .ret (.bool (decide (b < a)))
       | .geq => .ret (.bool (decide (b ≤ a)))
       | _ => .fail)
      .fail
  | _, .str a, .str b =>
    match op with
    | .add => must (decide (a.length + b.length ≤ 4611686018427387904)) (.ret (.str (a ++ b)))
    | .eql => .ret (.bool (decide (a = b)))
    | .neq => .ret (.bool (!decide (a = b)))
    | .lss => .ret (.bool (lessL a b))
    | _ => .fail
  | .eql, x, y => match x, y with
    | .nili, .nili => cond cy (match P.underlying t with | some (.interface _) => .ret (.bool true) | _ => .fail) .fail
    | _, _ => opt (eqA P t x y) fun b => .ret (.bool b)
  | .neq, x, y => match x, y with
    | .nili, .nili => cond cy (match P.underlying t with | some (.interface _) => .ret (.bool false) | _ => .fail) .fail
    | _, _ => opt (eqA P t x y) fun b => .ret (.bool (!b))
  | _, _, _ => .fail

noncomputable def binA (P : Program) (op : BinOp) (t : TypeId) (x y : AV) (cy : Bool) : Tr AV :=
  match symBin op x y with
  | some r => .ret r
  | none => binA0 P op t x y cy

noncomputable def lenA (P : Program) (t : TypeId) (x : AV) : Option Int :=
  match P.underlying t, x with
  | some .string, .str s => some s.length
  | some (.slice _), .slice _ _ n _ _ => some n
  | some (.slice _), .rslice _ _ n => some n
  | some (.slice _), .nils | some (.slice _), .eslice => some 0
  | some (.array n _), _ => some n
  | some (.map _ _), .nilm => some 0
  | _, _ => none

noncomputable def lenAV (P : Program) (t : TypeId) (x : AV) : Option AV :=
  match P.underlying t, symLen x with
  | some .string, some r => some r
  | some (.slice _), _ => match x with
    | .bsl _ c ts => some (mkLin c ts)
    | .rsl _ _ _ c ts => some (mkLin c ts)
    | x => (lenA P t x).map (.int .i64)
  | _, _ => (lenA P t x).map (.int .i64)

/-- The cells that are appended: n values of z cells each. -/
noncomputable def sourceA (σ : Store) (z : Nat) : AV → Option (List AV × Nat)
  | .nils | .eslice => some ([], 0)
  | .str s => cond (Nat.beq z 1) (some (s.map fun b => .int .u8 b.toNat, s.length)) none
  | .slice id off n _ _ => match σ.get id with
    | some (.cells _ cs) => cond (Nat.ble (off + n * z) cs.length) (some ((cs.drop off).take (n * z), n)) none
    | some (.sb s) => cond (Nat.beq z 1 && Nat.ble (off + n * z) s.length) (some (((s.map fun b => AV.int .u8 b.toNat).drop off).take (n * z), n)) none
    | _ => none
  | .rslice cs off n => cond (Nat.ble (off + n * z) cs.length) (some ((cs.drop off).take (n * z), n)) none
  | _ => none
/-- What an append may hold at most, in bytes. -/
noncomputable def roomA : Nat := 70368744177664
noncomputable def zeroOk (P : Program) (e : TypeId) (n : Nat) : Bool := match zeroT P e with | some zl => Nat.beq zl.length n | none => false
noncomputable def bytesT (P : Program) (t : TypeId) : Option Nat := (P.info? t).map (·.bytes)
/-- n elements of z cells each, of which the cells xs, behind a slice. -/
noncomputable def appendTo (σ : Store) (e : TypeId) (z by_ : Nat) (xs : List AV) (n : Nat) : AV → Tr R
  | .nils => cond (Nat.beq n 0) (.ret (.nils, σ))
      (must (Nat.ble (n * by_) roomA) (opt (newA σ (2 * e) xs) fun r => .ret (.slice σ.next 0 n n z, r.2)))
  | .slice id off len cap z' => must (Nat.beq z' z) (.ask (Nat.ble (len + n) cap) fun c => match c with
    | true => match σ.get id with
      | some (.cells e0 cs) => must (Nat.ble (off + (len + n) * z) cs.length) (.ret (.slice id off (len + n) cap z, σ.upd id (.cells e0 (over cs (off + len * z) xs))))
      | _ => .fail
    | false => match off, σ.get id with
      | 0, some (.cells e0 cs) => must (Nat.beq (e0 / 2) e && Nat.ble ((len + n) * by_) roomA && Nat.ble (len * z) cs.length)
          (match ((σ.kill id).new (.cells (2 * e) (cs.take (len * z) ++ xs))).get σ.next with
           | some _ => .ret (.slice σ.next 0 (len + n) (len + n) z, (σ.kill id).new (.cells (2 * e) (cs.take (len * z) ++ xs)))
           | none => .fail)
      | _, _ => .fail)
  | _ => .fail
/-- What may be appended: a slice, a string. -/
noncomputable def srcOk : Option TypeDesc → Bool
  | some (.slice _) | some .string => true
  | _ => false
/-- Bytes that are known. -/
noncomputable def unB : List AV → Option (List Seg)
  | [] => some []
  | .int .u8 (.ofNat k) :: l => cond (Nat.ble k 255) (match unB l with | some m => some (.b k.toUInt8 :: m) | none => none) none
  | _ :: _ => none
noncomputable def sameTsA : List Tm → List Tm → Bool
  | [], [] => true
  | a :: l, b :: m => Nat.beq a.k b.k && eqI a.co b.co && Nat.beq a.lo b.lo && Nat.beq a.hi b.hi && sameTsA l m
  | _, _ => false
/-- The text that a row of bytes holds. -/
noncomputable def rowHeld (σ : Store) (e : TypeId) : AV → Option (List Seg)
  | .bsl id c ts => match σ.get id with
    | some (.bytes e' l) => cond (Nat.beq e' e && eqI (segLen l).1 c && sameTsA (segLen l).2 ts) (some l) none
    | _ => none
  | .slice id 0 len _ 1 => match σ.get id with
    | some (.cells e' cs) => cond (Nat.beq (e' / 2) e && Nat.ble len cs.length) (unB (cs.take len)) none
    | _ => none
  | _ => none
/-- The text of a row. -/
noncomputable def rowText (σ : Store) : AV → Option (List Seg)
  | .bsl id c ts => match σ.get id with
    | some (.bytes _ l) => cond (eqI (segLen l).1 c && sameTsA (segLen l).2 ts) (some l) none
    | _ => none
  | _ => none
noncomputable def rowSrc (σ : Store) : AV → Option (List Seg)
  | .str s => some (s.map .b)
  | .sstr l => some l
  | .slice id off n _ 1 => match σ.get id with
    | some (.cells _ cs) => cond (Nat.ble (off + n) cs.length) (unB ((cs.drop off).take n)) none
    | _ => none
  | _ => none
noncomputable def rowId : AV → Nat
  | .bsl id _ _ | .slice id _ _ _ _ => id
  | _ => 0
noncomputable def isNils : AV → Bool
  | .nils => true
  | _ => false
noncomputable def isBsl : AV → Bool
  | .bsl _ _ _ => true
  | _ => false
/-- Bytes behind a row, some of which are not known. -/
noncomputable def appRow (σ : Store) (e by_ : Nat) (s x : AV) : Tr R :=
  opt (rowSrc σ x) fun add =>
    match isNils s with
    | true => must (leI 1 ((segLen add).1 + minTs (segLen add).2) && leI (((segLen add).1 + maxTs (segLen add).2) * by_) roomA)
        (match (σ.new (.bytes e add)).get σ.next with
         | some _ => .ret (.bsl σ.next (segLen add).1 (segLen add).2, σ.new (.bytes e add))
         | none => .fail)
    | false => opt (rowHeld σ e s) fun old =>
        must (leI (((segLen (old ++ add)).1 + maxTs (segLen (old ++ add)).2) * by_) roomA)
        (match ((σ.kill (rowId s)).new (.bytes e (old ++ add))).get σ.next with
         | some _ => .ret (.bsl σ.next (segLen (old ++ add)).1 (segLen (old ++ add)).2, (σ.kill (rowId s)).new (.bytes e (old ++ add)))
         | none => .fail)
noncomputable def isSstr : AV → Bool
  | .sstr _ => true
  | _ => false
/-- Is a row wanted, whose bytes are not all known? -/
noncomputable def rowWant (s x : AV) : Bool := isBsl s || isSstr x
noncomputable def cellsR : List AV → List RSeg
  | [] => []
  | v :: l => .c v :: cellsR l
/-- Cells behind a slice of a row: at the row's end, or one cell over what stands there. -/
noncomputable def appCells (σ : Store) (e by_ : Nat) (s : AV) (xs : List AV) (n : Nat) : Tr R :=
  match s with
  | .rsl id o os c ts => (match os, σ.get id with
    | [], some (.row e' l) => must (Nat.beq e' e && eqI o 0)
        (match eqI (rowLen l).1 c && sameTsA (rowLen l).2 ts with
         | true => must (leI ((c + n + maxTs ts) * by_) roomA)
            (match ((σ.kill id).new (.row e (l ++ cellsR xs))).get σ.next with
             | some _ => .ret (.rsl σ.next 0 [] (c + n) ts, (σ.kill id).new (.row e (l ++ cellsR xs)))
             | none => .fail)
         | false => match xs with
            | [v] => opt (rowPut l c ts v) fun l' => .ret (.rsl id 0 [] (c + 1) ts, σ.upd id (.row e l'))
            | _ => .fail)
    | _, _ => .fail)
  | _ => .fail
noncomputable def appendA (P : Program) (σ : Store) (t : TypeId) (tx : TypeId) (s x : AV) : Tr R :=
  match P.underlying t, srcOk (P.underlying tx) with
  | some (.slice e), true =>
    match sizeT P e, bytesT P e with
    | some z, some by_ => cond (rowWant s x) (cond (Nat.beq z 1 && zeroOk P e z && Nat.blt 0 z && Nat.blt 0 by_) (appRow σ e by_ s x) .fail)
      (match sourceA σ z x with
      | some (xs, n) => cond (allOne xs && zeroOk P e z && Nat.blt 0 z && Nat.blt 0 by_) (cond (isRsl s) (cond (Nat.beq z 1) (appCells σ e by_ s xs n) .fail) (appendTo σ e z by_ xs n s)) .fail
      | none => .fail)
    | _, _ => .fail
  | _, _ => .fail

noncomputable def makeSliceA (P : Program) (σ : Store) (t : TypeId) (l c : AV) : Tr R :=
  match P.underlying t, l, c with
  | some (.slice e), .int _ l, .int _ c =>
    match zeroT P e, (P.info? e).map (·.bytes) with
    | some z, some by_ =>
      must (decide (0 ≤ l) && decide (l ≤ c) && decide (0 < c) && decide (c ≤ 1048576) && Nat.ble by_ 65536 && (match sizeT P e with | some n => Nat.beq n z.length | none => false) && !(Nat.beq z.length 0))
        (opt (newA σ (2 * e + 1) (repeatA z c.toNat)) fun r => match r with
          | (.ptr id _, σ') => .ret (.slice id 0 l.toNat c.toNat z.length, σ')
          | _ => .fail)
    | _, _ => .fail
  | _, _, _ => .fail

noncomputable def convertA.bytesOf : List AV → Option (List UInt8)
  | [] => some []
  | .int .u8 n :: l => match convertA.bytesOf l with | some m => some (n.toNat.toUInt8 :: m) | none => none
  | _ :: _ => none
noncomputable def convertA (P : Program) (src dst : TypeId) (x : AV) (σ : Store) : Tr AV :=
  match P.underlying src, P.underlying dst, x with
  | some (.int _), some (.int k), .int _ n => fit k n
  | some (.int _), some (.int k), .cls l => opt (cvCls k l) .ret
  | some (.int _), some (.int k), .rn _ l => opt (cvCls k l) .ret
  | some (.int _), some (.int k), .num _ => .ret (.num k)
  | some .string, some .string, .str s => .ret (.str s)
  | some .string, some .string, .sstr s => .ret (.sstr s)
  | some (.int _), some .string, .int k n => match k with
    | .i32 => opt ((Conv.intToString n).calm P) fun v => .ret (ofV v)
    | _ => .fail
  | some (.slice e), some .string, x => match P.underlying e with
    | some (.int .u8) => match x with
      | .str _ => .fail
      | .bsl id c ts => opt (rowText σ (.bsl id c ts)) fun l => .ret (mkStr l)
      | x => match sourceA σ 1 x with
        | some (xs, _) => opt (convertA.bytesOf xs) fun l => .ret (.str l)
        | none => .fail
    | _ => .fail
  | _, _, _ => .fail

/-- The type of a slice of bytes. -/
noncomputable def bytesT34 : Nat := 42
/-- The type of the blocks' builders. -/
noncomputable def ifcT112 : Nat := 237
/-- Two pointers behind interfaces to the same place of a block that is there. -/
noncomputable def samePtr (P : Program) (σ : Store) (t : TypeId) (x y : AV) : Bool := match x, y with
  | .iface a (.ptr i o), .iface b (.ptr j q) => Nat.beq a b && Nat.beq i j && Nat.beq o q && (match σ.get i with | some _ => true | none => false) && (match P.underlying t with | some (.interface _) => true | _ => false) &&
    (match P.info? a, P.underlying a with | some i, some (.pointer e) => i.comparable && (match sizeT P e with | some _ => true | none => false) | _, _ => false)
  | _, _ => false
noncomputable def isEql : BinOp → Bool
  | .eql => true
  | _ => false
/-- Equality of values behind interfaces, with a look at the store. -/
noncomputable def ifcA (P : Program) (σ : Store) (op : BinOp) (t : TypeId) (x y : AV) (cy : Bool) : Tr AV := cond (isEql op && samePtr P σ t x y) (.ret (.bool true)) (binA P op t x y cy)
/-- A text turned into bytes: a new row. -/
noncomputable def allocC (P : Program) (src dst : TypeId) (x : AV) (σ : Store) : Tr R :=
  match P.underlying src, P.underlying dst, x with
  | some .string, some (.slice e), .str s => (match P.underlying e with
    | some (.int .u8) => cond (Nat.ble s.length 1000000000) (match (σ.new (.sb s)).get σ.next with
      | some _ => .ret (.slice σ.next 0 s.length s.length 1, σ.new (.sb s))
      | none => .fail) .fail
    | _ => .fail)
  | _, _, _ => .fail

noncomputable def methodA.recv (P : Program) (σ : Store) (t : TypeId) (f : FuncId) (p : Bool) (a : AV) (z : Option Nat) : Option (FuncId × AV) :=
  match z, P.underlying t with
  | some (_ + 1), some (.struct _) => match p with
    | true => some (f, a)
    | false => (loadA P σ t a).map fun v => (f, v)
  | _, _ => none
/-- The method of a value behind an interface: the function, and the receiver. -/
noncomputable def methodA (P : Program) (σ : Store) (t : TypeId) (v : AV) (name : String) : Option (FuncId × AV) :=
  match P.info? t with
  | none => none
  | some i =>
    match i.methods.find? (·.name == name) with
    | none => none
    | some m =>
      match m.path.toList, m.func with
      | [], some (f, true) => match P.underlying t, v with
        | some (.pointer _), v => some (f, v)
        | _, _ => none
      | [s], some (f, p) => match s.deref, P.underlying s.struct, v with
        | true, some (.struct fs), v =>
          match fs[s.index]?, v with
          | some fd, .ptr id off => methodA.recv P σ fd.type f p (.ptr id (off + fd.offset)) (sizeT P fd.type)
          | some fd, .ref cs off => methodA.recv P σ fd.type f p (.ref cs (off + fd.offset)) (sizeT P fd.type)
          | _, _ => none
        | _, _, _ => none
      | _, _ => none

/-- A call is run by 'run'. -/
noncomputable def callA (X : Env) (run : FuncId → List AV → Store → Tr R) (σ : Store) (ρ : Operand → AV) (c : Call) : Tr R :=
  match c.callee with
  | .builtin .len => match (c.argTypes[0]? : Option TypeId), c.args[0]? with
    | some t, some x => opt (lenAV X.P t (ρ x)) fun v => .ret (v, σ)
    | _, _ => .fail
  | .builtin .append => match (c.argTypes[0]? : Option TypeId), (c.argTypes[1]? : Option TypeId), c.args.toList with
    | some t, some u, [s, x] => appendA X.P σ t u (ρ s) (ρ x)
    | _, _, _ => .fail
  | .builtin _ => .fail
  | .invoke r name => match ρ r with
    | .iface t v => opt (methodA X.P σ t v name) fun fr => cond (X.callable fr.1) (run fr.1 (fr.2 :: c.args.toList.map ρ) σ) .fail
    | _ => .fail
  | .value f => match ρ f with
    | .fn (.func g) first cap => cond (X.callable g) (run g (first ++ c.args.toList.map ρ ++ cap) σ) .fail
    | _ => .fail

noncomputable def typeAssertA (P : Program) (x : AV) (a : TypeId) (ok : Bool) : Option AV :=
  match P.underlying a, x with
  | some (.interface _), .nili => cond ok ((zeroV P a).map fun z => .tup [z, .bool false]) none
  | some (.interface _), _ => none
  | some _, .nili => cond ok ((zeroV P a).map fun z => .tup [z, .bool false]) none
  | some _, .iface t v => cond (Nat.beq t a) (some (cond ok (.tup [v, .bool true]) v)) (cond ok ((zeroV P a).map fun z => .tup [z, .bool false]) none)
  | _, _ => none

/-- The next character of a text with words, if it is a byte that is known. -/
noncomputable def siterA (σ : Store) (id : Nat) (l : List Seg) (n : Int) (ts : List Tm) : Tr R :=
  match symAt l n ts with
  | some (.int .u8 (.ofNat c)) => must (Nat.blt c 128) (.ret (.tup [.bool true, mkLin n ts, .int .i32 c], σ.upd id (.siter l (n + 1) ts)))
  | some _ => .fail
  | none => must (match addTs (negTs (segLen l).2) ts with | [] => eqI ((segLen l).1) n | _ => false) (.ret (.tup [.bool false], σ))

noncomputable def constO : Operand → Bool
  | .const _ => true
  | _ => false

noncomputable def nonAny : AV → Bool
  | .any => false
  | _ => true

/-- Is a key the one that is looked for? -/
noncomputable def keyEq (x k : AV) : Option Bool := match toSegs x, toSegs k with
  | some a, some b => symEq a b
  | _, _ => none
/-- What stands behind a key. -/
noncomputable def findM (x : AV) : List AV → List AV → Option (Option AV)
  | [], _ => some none
  | k :: ks, v :: vs => match keyEq x k with
    | some true => some (some v)
    | some false => findM x ks vs
    | none => none
  | _ :: _, [] => none
noncomputable def strT (P : Program) (t : TypeId) : Bool := match P.underlying t with
  | some .string => true
  | _ => false
noncomputable def lookA (P : Program) (σ : Store) (t : TypeId) (x : AV) (ok : Bool) : Tr R := match P.underlying t, x with
  | some (.map k e), .nilm => opt (zeroV P e) fun z => cond (match P.underlying k with | some .string => false | _ => true) .fail <| cond ok (.ret (.tup [z, .bool false], σ)) (.ret (z, σ))
  | _, _ => .fail
noncomputable def lookMp (P : Program) (σ : Store) (t : TypeId) (id : Nat) (i : AV) (ok : Bool) : Tr R := match P.underlying t, σ.get id with
  | some (.map k e), some (.mp ks vs) => opt (zeroV P e) fun z => cond (strT P k) (match findM i ks vs with
    | some (some v) => .ret (cond ok (.tup [v, .bool true]) v, σ)
    | some none => .ret (cond ok (.tup [z, .bool false]) z, σ)
    | none => .fail) .fail
  | _, _ => .fail
noncomputable def lookK (P : Program) (σ : Store) (t : TypeId) (x i : AV) (ok : Bool) : Tr R := match x with
  | .amap id => lookMp P σ t id i ok
  | y => lookA P σ t y ok
noncomputable def newM (σ : Store) : Tr R := match (σ.new (.mp [] [])).get σ.next with
  | some _ => .ret (.amap σ.next, σ.new (.mp [] []))
  | none => .fail
/-- A key that is not there yet. -/
noncomputable def updM (P : Program) (σ : Store) (t : TypeId) (m k v : AV) : Tr R := match m with
  | .amap id => (match P.underlying t, σ.get id with
    | some (.map kt _), some (.mp ks vs) => cond (strT P kt) (match toSegs k, findM k ks vs with
      | some _, some none => .ret (.any, σ.upd id (.mp (ks ++ [k]) (vs ++ [v])))
      | _, _ => .fail) .fail
    | _, _ => .fail)
  | _ => .fail

/-- An operation. -/
noncomputable def opA (X : Env) (run : FuncId → List AV → Store → Tr R) (σ : Store) (ρ : Operand → AV) (o : Op) : Tr R :=
  let v (t : Tr AV) : Tr R := t.bind fun a => .ret (a, σ)
  let p (t : Option AV) : Tr R := opt t fun a => .ret (a, σ)
  match o with
  | .move x | .assign x => .ret (ρ x, σ)
  | .pick c a b => match ρ c with
    | .bool c => .ask c fun c => match c with | true => .ret (ρ a, σ) | false => .ret (ρ b, σ)
    | _ => .fail
  | .alloc e => opt (zeroT X.P e) fun z => opt (newA σ (2 * e + 1) z) .ret
  | .box e x => cond (nonAny (ρ x)) (opt (newA σ (2 * e + 1) (ρ x).cells) .ret) .fail
  | .build t parts => opt (zeroT X.P t) fun z => match X.P.underlying t with
    | some (.struct fs) => cond (fs.toList.all fun f => (sizeT X.P f.type).isSome) (p ((fillA (fieldPlaces X.P fs) z (parts.toList.map fun q => (q.1, ρ q.2))).map .agg)) .fail
    | some (.array _ e) => opt (sizeT X.P e) fun n => p ((fillA (fun i => some (i * n, n)) z (parts.toList.map fun q => (q.1, ρ q.2))).map .agg)
    | _ => .fail
  | .buildSlice t len parts => match X.P.underlying t with
    | some (.slice e) => opt (zeroT X.P e) fun z => opt (sizeT X.P e) fun n =>
      cond (Nat.beq z.length n && !(Nat.beq n 0) && !(Nat.beq len 0) && Nat.ble (len * n) 65536)
        (opt (fillA (fun i => some (i * n, n)) (repeatA z len) (parts.toList.map fun q => (q.1, ρ q.2))) fun cs =>
          opt (newA σ (2 * e + 1) cs) fun r => match r with
            | (.ptr id _, σ') => .ret (.slice id 0 len len n, σ')
            | _ => .fail)
        .fail
    | _ => .fail
  | .load t a => p (loadA X.P σ t (ρ a))
  | .store t a x => opt (storeA X.P σ t (ρ a) (ρ x)) fun σ' => .ret (.any, σ')
  | .nilCheck x => match isNilA (ρ x), ρ x with
    | some false, .fn (.func _) _ _ => .ret (ρ x, σ)
    | some false, .fn _ _ _ => .fail
    | some false, a => .ret (a, σ)
    | _, _ => .fail
  | .binOp op t x y _ => cond (Nat.beq t ifcT112) (v (ifcA X.P σ op t (ρ x) (ρ y) (constO x || constO y))) (v (binA X.P op t (ρ x) (ρ y) (constO x || constO y)))
  | .unOp op _ x => match op, ρ x with
    | .not, .bool b => .ret (.bool (!b), σ)
    | .neg, .int k n => v (fit k (-n))
    | _, _ => .fail
  | .convert s d x => cond (Nat.beq d bytesT34) (allocC X.P s d (ρ x) σ) (v (convertA X.P s d (ρ x) σ))
  | .makeInterface t x => match X.P.underlying t with
    | some (.interface _) => .fail
    | some _ => .ret (.iface t (ρ x), σ)
    | none => .fail
  | .makeFunc f a b => .ret (.fn f (a.toList.map ρ) (b.toList.map ρ), σ)
  | .makeSlice t l c => makeSliceA X.P σ t (ρ l) (ρ c)
  | .slice t x lo hi mx => match mx with
    | none => v (sliceA X.P σ t (ρ x) (lo.map ρ) (hi.map ρ))
    | some _ => .fail
  | .fieldAddr t x f => p (fieldAddrA X.P t (ρ x) f)
  | .field t x f => p (fieldA X.P t (ρ x) f)
  | .indexAddr t x i => v (indexAddrA X.P t (ρ x) (ρ i))
  | .index t x i => v (indexA X.P t (ρ x) (ρ i))
  | .lookup t x i ok => lookK X.P σ t (ρ x) (ρ i) ok
  | .makeMap _ none => newM σ
  | .mapUpdate t m k x => updM X.P σ t (ρ m) (ρ k) (ρ x)
  | .range t x => match X.P.underlying t, ρ x with
    | some .string, .str s =>
      let σ' := σ.new (.iter s 0)
      match σ'.get σ.next with
      | some _ => .ret (.ptr σ.next 0, σ')
      | none => .fail
    | some .string, .sstr l =>
      let σ' := σ.new (.siter l 0 [])
      match σ'.get σ.next with
      | some _ => .ret (.ptr σ.next 0, σ')
      | none => .fail
    | _, _ => .fail
  | .next it true => match ρ it with
    | .ptr id 0 => match σ.get id with
      | some (.iter s pos) => .ask (Nat.blt pos s.length) fun c => match c with
        | true => let d := Utf8.decode ⟨s.toArray⟩ pos
          .ret (.tup [.bool true, .int .i64 pos, .int .i32 d.1], σ.upd id (.iter s (pos + d.2)))
        | false => .ret (.tup [.bool false], σ)
      | some (.siter l n ts) => siterA σ id l n ts
      | _ => .fail
    | _ => .fail
  | .typeAssert x _ a ok => p (typeAssertA X.P (ρ x) a ok)
  | .extract x i => match ρ x with
    | .tup l => p l[i]?
    | _ => .fail
  | .call c => callA X run σ ρ c
  | _ => .fail

noncomputable def putA (fr : List AV) : Option Tmp → AV → List AV
  | some d, v => fr.set d v
  | none, _ => fr

/-- Is an operation to be run? -/
noncomputable def wantA (ops : Array Oper) (fr : List AV) : Option (Nat × Bool) → Tr Bool
  | none => .ret true
  | some (j, want) => match (ops[j]?).bind (·.dst) with
    | some d => match fr.getD d .any with
      | .bool b => .ask b fun c => .ret (c == want)
      | .any => .fail
      | .ub => .fail
      | _ => .ret false
    | none => .fail

/-- One operation of a region. -/
noncomputable def operA (X : Env) (run : FuncId → List AV → Store → Tr R) (ops : Array Oper) (o : Oper) (fr : List AV) (σ : Store) : Tr (List AV × Store) :=
  (wantA ops fr o.guard).bind fun c => match c with
    | true => (opA X run σ (evalO X fr) o.op).bind fun r => .ret (putA fr o.dst r.1, r.2)
    | false => .ret (putA fr o.dst (.tup []), σ)

/-- Operations one behind the other. -/
noncomputable def seqA (X : Env) (run : FuncId → List AV → Store → Tr R) (ops : Array Oper) : List Oper → List AV → Store → Tr (List AV × Store)
  | [], fr, σ => .ret (fr, σ)
  | o :: rest, fr, σ => (operA X run ops o fr σ).bind fun r => seqA X run ops rest r.1 r.2

/-- Operations that leave the world alone. -/
noncomputable def stillOp : Op → Bool
  | .move _ | .assign _ | .pick _ _ _ | .build _ _ | .load _ _ | .nilCheck _ | .unOp _ _ _ | .makeInterface _ _ | .makeFunc _ _ _ | .slice _ _ _ _ _ | .fieldAddr _ _ _ | .field _ _ _
  | .indexAddr _ _ _ | .index _ _ _ | .typeAssert _ _ _ _ | .extract _ _ => true
  | .convert _ d _ => !(Nat.beq d bytesT34)
  | .binOp _ t _ _ _ => !(Nat.beq t ifcT112)
  | .call { callee := .builtin .len, .. } => true
  | _ => false
noncomputable def headLen : List Oper → Nat
  | [] => 0
  | o :: l => cond (stillOp o.op) (headLen l + 1) 0

/-- Operations that read the store; what is left of the still ones asks for their operands alone. -/
noncomputable def readsOp : Op → Bool
  | .load _ _ | .slice _ _ _ _ _ | .convert _ _ _ => true
  | _ => false

/-- Is i reached from j by the edges that bind? -/
noncomputable def reachB (ops : Array Oper) : Nat → Nat → Nat → Bool
  | 0, _, _ => false
  | n + 1, j, i => match ops[j]? with
    | some o => o.after.toList.any fun e => Region.binds .any e && (Nat.beq e.on i || reachB ops n e.on i)
    | none => false

/-- The slots that an operation looks at. -/
noncomputable def looksA (ops : Array Oper) (o : Oper) : List Tmp := Oper.looksAt ops o

/-- Each slot is written once; who reads a slot that is written here waits for the writer. -/
noncomputable def slotsOk (ops : Array Oper) : Bool :=
  (List.range ops.size).all fun i => match ops[i]? with
    | none => true
    | some o =>
      (match o.dst with | none => true | some d => (List.range ops.size).all fun j => Nat.beq i j || (match ops[j]? with | some p => !(p.dst == some d) | none => true)) &&
      (List.range ops.size).all fun j => match ops[j]? with
        | some p => match p.dst with
          | some d => !((looksA ops o).contains d) || o.after.toList.any fun e => Region.binds .any e && Nat.beq e.on j
          | none => true
        | none => true

/-- The operations that are not still, in the text's order: each one behind the one ahead of it. -/
noncomputable def restIdx (ops : Array Oper) : List Nat := (List.range ops.size).filter fun i => match ops[i]? with | some o => !(stillOp o.op) | none => false
noncomputable def chainOk (ops : Array Oper) : List Nat → Bool
  | i :: j :: l => reachB ops ops.size j i && chainOk ops (j :: l)
  | _ => true
/-- Edges lead back. -/
noncomputable def backOk (ops : Array Oper) : Bool := (List.range ops.size).all fun i => match ops[i]? with | some o => o.after.toList.all fun e => !(Region.binds .any e) || Nat.blt e.on i | none => true

/-- How many of the operations that are not still are done for sure ahead of operation i; how many may be at most. -/
noncomputable def lowS (ops : Array Oper) (rest : List Nat) (i : Nat) : Nat := (rest.filter fun c => reachB ops ops.size i c).length
noncomputable def highS (ops : Array Oper) (rest : List Nat) (i : Nat) : Nat := (rest.filter fun c => !(reachB ops ops.size c i)).length

/-- The run in the text's order, with the stores behind each operation that is not still (the last one first). -/
noncomputable def stageA (X : Env) (run : FuncId → List AV → Store → Tr R) (ops : Array Oper) : List Oper → List AV → Store → List Store → Tr (List AV × List Store)
  | [], fr, σ, acc => .ret (fr, (σ :: acc).reverse)
  | o :: l, fr, σ, acc => (operA X run ops o fr σ).bind fun r => match stillOp o.op with
    | true => stageA X run ops l r.1 σ acc
    | false => stageA X run ops l r.1 r.2 (σ :: acc)

/-- The stages at which an operation may run, but for the one at which it runs in the text's order. -/
noncomputable def othersS (ops : Array Oper) (rest : List Nat) (i : Nat) : List Nat :=
  ((List.range (highS ops rest i + 1)).drop (lowS ops rest i)).filter fun s => !(Nat.beq s (rest.filter fun c => Nat.blt c i).length)
/-- A reading operation at other stages. -/
noncomputable def readAt (X : Env) (run : FuncId → List AV → Store → Tr R) (ops : Array Oper) (o : Oper) (fr : List AV) (stores : List Store) : List Nat → Tr Unit
  | [] => .ret ()
  | s :: l => match stores[s]? with
    | none => .fail
    | some σ => (wantA ops fr o.guard).bind fun c => match c with
      | true => (opA X run σ (evalO X fr) o.op).bind fun r => match o.dst with
        | some d => must (AV.beq r.1 (fr.getD d .any)) (readAt X run ops o fr stores l)
        | none => readAt X run ops o fr stores l
      | false => readAt X run ops o fr stores l
noncomputable def readsA (X : Env) (run : FuncId → List AV → Store → Tr R) (ops : Array Oper) (rest : List Nat) (stores : List Store) (fr : List AV) : List Nat → Tr Unit
  | [] => .ret ()
  | i :: l => match ops[i]? with
    | some o => cond (readsOp o.op)
        ((readAt X run ops o fr stores (othersS ops rest i)).bind fun _ => readsA X run ops rest stores fr l)
        (readsA X run ops rest stores fr l)
    | none => readsA X run ops rest stores fr l

/-- A region that draws its order. -/
noncomputable def drawA (X : Env) (run : FuncId → List AV → Store → Tr R) (l : List Oper) (fr : List AV) (σ : Store) : Tr (List AV × Store) :=
  let n := Nat.min (headLen l) (l.length - 1)
  cond (Region.lexTailB .any l.toArray n) (seqA X run l.toArray l fr σ)
    (cond (slotsOk l.toArray && backOk l.toArray && chainOk l.toArray (restIdx l.toArray) && Region.noSelect l.toArray)
      ((stageA X run l.toArray l fr σ []).bind fun r => (readsA X run l.toArray (restIdx l.toArray) r.2 r.1 (List.range l.length)).bind fun _ =>
        match r.2.getLast? with
        | some σ' => .ret (r.1, σ')
        | none => .fail)
      .fail)

/-- The results of a function. -/
noncomputable def resultA (P : Program) (fr : List AV) (σ : Store) : ResultVar → Option AV
  | .tmp t => some (fr.getD t .any)
  | .cell a t => loadA P σ t (fr.getD a .any)
noncomputable def resultsA.go (P : Program) (fr : List AV) (σ : Store) : List ResultVar → Option (List AV)
  | [] => some []
  | r :: l => match resultA P fr σ r, resultsA.go P fr σ l with | some v, some m => some (v :: m) | _, _ => none
noncomputable def resultsA (P : Program) (fr : List AV) (σ : Store) (l : List ResultVar) : Option AV :=
  match l with
  | [r] => resultA P fr σ r
  | l => (resultsA.go P fr σ l).map .tup

noncomputable def padA : Nat → List AV
  | 0 => []
  | n + 1 => .tup [] :: padA n

/-- A function's body is run by 'code'. -/
noncomputable def bodyA (X : Env) (code : Code → List AV → Store → Tr (Exit × List AV × Store)) (f : FuncId) (args : List AV) (σ : Store) : Tr R :=
  match X.P.funcs[f]? with
  | none => .fail
  | some fn => match fn.body with
    | none => .fail
    | some c => (code c (args ++ padA (fn.ntmps - args.length)) σ).bind fun r => match r.1 with
      | .normal | .ret => opt (resultsA X.P r.2.1 r.2.2 fn.results.toList) fun v => .ret (v, r.2.2)
      | _ => .fail
noncomputable def runA (X : Env) (code : Code → List AV → Store → Tr (Exit × List AV × Store)) (f : FuncId) (args : List AV) (σ : Store) : Tr R :=
  match X.spec f args σ with
  | some t => t
  | none => bodyA X code f args σ

/-- A loop, round by round. -/
noncomputable def iterA (step : Code → List AV → Store → Tr (Exit × List AV × Store)) (b : Code) : Nat → List AV → Store → Tr (Exit × List AV × Store)
  | 0, _, _ => .fail
  | m + 1, fr, σ => (step b fr σ).bind fun r => match r.1 with
    | .normal => iterA step b m r.2.1 r.2.2
    | _ => .ret r

/-- A scope: jumps to its labels. -/
noncomputable def scopeA (step : Code → List AV → Store → Tr (Exit × List AV × Store)) (b : Code) : Nat → Code → List AV → Store → Tr (Exit × List AV × Store)
  | 0, _, _, _ => .fail
  | m + 1, c, fr, σ => (step c fr σ).bind fun r => match r.1 with
    | .goto l => match findLabel b l with
      | some rest => scopeA step b m rest r.2.1 r.2.2
      | none => .ret r
    | _ => .ret r

/-- The evaluator. -/
noncomputable def codeA (X : Env) : Nat → Code → List AV → Store → Tr (Exit × List AV × Store)
  | 0, _, _, _ => .fail
  | n + 1, c, fr, σ =>
    match c with
    | .skip | .label _ => .ret (.normal, fr, σ)
    | .region _ ops false => (seqA X (runA X (codeA X n)) ops ops.toList fr σ).bind fun r => .ret (.normal, r.1, r.2)
    | .region _ ops true => (drawA X (runA X (codeA X n)) ops.toList fr σ).bind fun r => .ret (.normal, r.1, r.2)
    | .seq a b => (codeA X n a fr σ).bind fun r => match r.1 with
      | .normal => codeA X n b r.2.1 r.2.2
      | _ => .ret r
    | .cond c a b => match evalO X fr c with
      | .bool b' => .ask b' fun d => match d with | true => codeA X n a fr σ | false => codeA X n b fr σ
      | _ => .fail
    | .block id b => (codeA X n b fr σ).bind fun r => match r.1 with
      | .exit id' => cond (Nat.beq id' id) (.ret (.normal, r.2.1, r.2.2)) (.ret r)
      | _ => .ret r
    | .loop b => match X.loop b fr σ with
      | some t => t
      | none => iterA (codeA X n) b n fr σ
    | .exit id => .ret (.exit id, fr, σ)
    | .goto l => .ret (.goto l, fr, σ)
    | .ret => .ret (.ret, fr, σ)
    | .scope b => scopeA (codeA X n) b n b fr σ
    | _ => .fail
end Go.AM
