/- Loops that go over an unknown word at once. -/
import Derived.Test.YtpefmbpjanafkaaGreatDoorSnT
import Derived.Test.YtpefmbpjanafkaaGreatDoorSnL
set_option linter.unusedVariables false
set_option linter.unusedSimpArgs false
namespace Go.AM
section
variable {β : Type} {X : Env}
theorem Tr.sat_iff {t : Tr β} {Q : β → Prop} : t.sat Q ↔ ∃ a, t.val = some a ∧ Q a := by
  induction t with
  | ret a => exact ⟨fun h => ⟨a, rfl, h⟩, fun ⟨b, h, hq⟩ => by cases h; exact hq⟩
  | ask b k ih => exact ih b
  | fail => exact ⟨fun h => h.elim, fun ⟨_, h, _⟩ => by cases h⟩
/-- What a loop owes. -/
noncomputable def LO (X : Env) (N : Nat) (b : Code) (k : Kont β) (K : β → Prop) (g : Ghost) (a : Act) (w : World) : Prop :=
  Loops X.P b (Meets g w fun r => r.2.1.length = N ∧ (k r.1 r.2.1 r.2.2).sat K) a w
theorem LO.step {N : Nat} {b : Code} {k : Kont β} {K : β → Prop} {v : List AV → Store → Tr β} {fr : List AV} {σ : Store} {t : Tr β} (hb : KOK X N b fr σ t (thenK v k)) {g : Ghost} {a : Act} {w : World} (hN : fr.length = N) (ht : t.sat K) (hf : FR g fr a) (hs : Sim g σ w) (hG : GR X g)
    (ih : ∀ fr' σ' g' a' w', fr'.length = N → (v fr' σ').sat K → FR g' fr' a' → Sim g' σ' w' → GR X g' → g'.sv = g.sv → LO X N b k K g' a' w') : LO X N b k K g a w := by
  refine Loops.round (wp_mono (hb K g a w hN ht hf hs hG) ?_)
  rintro e a' w' ⟨fr', σ', g', ⟨h1, h1'⟩, h2, h3, h4⟩
  cases e with
  | normal => exact fun B k' cs => let ⟨e, a'', w'', q, ar⟩ := ih fr' σ' g' a' w' h1 h1' h2 h3 (Ghost.GR_mono hG h4.le) h4.le.sv B k' cs; ⟨e, a'', w'', q.trans h4, ar⟩
  | _ => exact ⟨fr', σ', g', ⟨h1, h1'⟩, h2, h3, h4⟩
theorem KOK.loopA {N : Nat} {b : Code} {k : Kont β} {u : Nat → List AV → Store → Tr β} (h0 : ∀ fr σ, u 0 fr σ = .fail)
    (hs : ∀ m fr σ K g a w, fr.length = N → (u (m + 1) fr σ).sat K → FR g fr a → Sim g σ w → GR X g → (∀ fr' σ' g' a' w', fr'.length = N → (u m fr' σ').sat K → FR g' fr' a' → Sim g' σ' w' → GR X g' → LO X N b k K g' a' w') → LO X N b k K g a w) :
    ∀ m fr σ, KOK X N (.loop b) fr σ (u m fr σ) k := by
  have main : ∀ m fr σ (K : β → Prop) (g : Ghost) (a : Act) (w : World), fr.length = N → (u m fr σ).sat K → FR g fr a → Sim g σ w → GR X g → LO X N b k K g a w := by
    intro m
    induction m with
    | zero => intro fr σ K g a w _ ht; rw [h0] at ht; exact ht.elim
    | succ m ih => intro fr σ K g a w hN ht hf hs' hG; exact hs m fr σ K g a w hN ht hf hs' hG fun fr' σ' g' a' w' h1 h2 h3 h4 h5 => ih fr' σ' K g' a' w' h1 h2 h3 h4 h5
  exact fun m fr σ K g a w hN ht hf hs' hG => (main m fr σ K g a w hN ht hf hs' hG).loop

end
end Go.AM
/- Loops that go over an unknown word: its bytes are gone over one by one, each byte that the word may have being tried once. -/
namespace Go.AM

/-- What a slot does while a word is gone over: it stays; it tells of the text; it is the place; it grows by the word's image. -/
inductive Kd where
  | same
  | text
  | idx
  | acc (m : Nat)
  | num
  | rlen
  | rtext
  | any
/-- How a word is gone over. -/
structure Pl where
  m : Nat
  B : Nat
  lo : Nat
  hi : Nat
  B1 : Nat
  ks : List Kd
  sb : Option Nat
  cks : List Kd

noncomputable def imgL (m : Nat) (u : List UInt8) : List UInt8 := u.flatMap (mapB m)
/-- How long an image may be. -/
noncomputable def mulHi (m hi : Nat) : Nat := match m with
  | 0 => hi
  | _ => 6 * hi
noncomputable def putB : List UInt8 → List Seg → List Seg
  | [], l => l
  | c :: r, l => .b c :: putB r l
/-- A base's words are parted. -/
noncomputable def spSeg0 (B B1 : Nat) (u : List UInt8) : List Seg → List Seg
  | [] => []
  | .b c :: l => .b c :: spSeg0 B B1 u l
  | .w k cls lo hi :: l => cond (Nat.beq (k / 16) B)
      (.w (16 * B1 + k % 16) cls 0 (hi - (imgL (k % 16) u).length) :: putB (imgL (k % 16) u) (.w (16 * (B1 + 16) + k % 16) cls 0 (hi - (imgL (k % 16) u).length) :: spSeg0 B B1 u l))
      (.w k cls lo hi :: spSeg0 B B1 u l)
noncomputable def spSeg (B B1 : Nat) (u : List UInt8) (l : List Seg) : List Seg :=
  List.rec (motive := fun _ => List Seg) [] (fun s _ q => Seg.rec (motive := fun _ => List Seg) (fun c => .b c :: q)
    (fun k cls lo hi => cond (Nat.beq (k / 16) B)
      (.w (16 * B1 + k % 16) cls 0 (hi - (imgL (k % 16) u).length) :: putB (imgL (k % 16) u) (.w (16 * (B1 + 16) + k % 16) cls 0 (hi - (imgL (k % 16) u).length) :: q))
      (.w k cls lo hi :: q)) s) l
theorem spSeg_w {B B1 : Nat} {u : List UInt8} {k : Nat} {cls : List UInt8} {lo hi : Nat} {l : List Seg} : spSeg B B1 u (.w k cls lo hi :: l) = cond (Nat.beq (k / 16) B)
      (.w (16 * B1 + k % 16) cls 0 (hi - (imgL (k % 16) u).length) :: putB (imgL (k % 16) u) (.w (16 * (B1 + 16) + k % 16) cls 0 (hi - (imgL (k % 16) u).length) :: spSeg B B1 u l))
      (.w k cls lo hi :: spSeg B B1 u l) := rfl
noncomputable def spTs (B B1 : Nat) (u : List UInt8) : List Tm → Int × List Tm
  | [] => (0, [])
  | t :: r => match spTs B B1 u r with
    | (d, us) => cond (Nat.beq (t.k / 16) B)
      (d + t.co * (imgL (t.k % 16) u).length, addTm (16 * B1 + t.k % 16) t.co 0 (t.hi - (imgL (t.k % 16) u).length) (addTm (16 * (B1 + 16) + t.k % 16) t.co 0 (t.hi - (imgL (t.k % 16) u).length) us))
      (d, addTm t.k t.co t.lo t.hi us)
noncomputable def spA (B B1 : Nat) (u : List UInt8) : AV → AV
  | .sstr l => .sstr (spSeg B B1 u l)
  | .lin c ts => match spTs B B1 u ts with | (d, us) => mkLin (c + d) us
  | x => x
/-- A slice of a row whose length tells of the word. -/
noncomputable def spR (B B1 : Nat) (u : List UInt8) : AV → AV
  | .rsl id o os c ts => match spTs B B1 u ts with | (d, us) => .rsl id o os (c + d) us
  | _ => .any
/-- A place, so much further. -/
noncomputable def adv (x : AV) (d : Int) (t : Tm) : AV := match toLin x with
  | some (c, ts) => mkLin (c + d) (addTs ts [t])
  | none => .any
noncomputable def grow (x : AV) (l : List Seg) : AV := match toSegs x with
  | some m => .sstr (m ++ l)
  | none => .any
/-- A slice of a row, so much longer. -/
noncomputable def growR (x : AV) (d : Int) (t : Tm) : AV := match x with
  | .rsl id o os c ts => .rsl id o os (c + d) (addTs ts [t])
  | _ => .any
noncomputable def imgCls (m : Nat) (cl : List UInt8) : List UInt8 := match m with
  | 0 => cl
  | _ => imgL m cl
/-- A slot ahead of the bytes u (none or one); the word in front of them is told by B1. -/
noncomputable def slotG (P : Pl) (u : List UInt8) : Kd → AV → AV
  | .same, x => x
  | .text, x => spA P.B P.B1 u x
  | .idx, x => adv x 0 ⟨16 * P.B1 + P.m, 1, 0, P.hi - (imgL P.m u).length⟩
  | .acc m', x => grow x [.w (16 * P.B1 + m') (imgCls m' (clsT (P.B % 16))) 0 (mulHi m' P.hi)]
  | .num, _ => .num .i64
  | .rlen, x => growR x 0 ⟨16 * P.B1 + P.m, 1, 0, P.hi - (imgL P.m u).length⟩
  | .rtext, x => spR P.B P.B1 u x
  | .any, _ => .any
/-- A slot behind them. -/
noncomputable def slotE (P : Pl) (u : List UInt8) : Kd → AV → AV
  | .same, x => x
  | .text, x => spA P.B P.B1 u x
  | .idx, x => adv x (imgL P.m u).length ⟨16 * P.B1 + P.m, 1, 0, P.hi - (imgL P.m u).length⟩
  | .acc m', x => grow x (.w (16 * P.B1 + m') (imgCls m' (clsT (P.B % 16))) 0 (mulHi m' P.hi) :: putB (imgL m' u) [])
  | .num, _ => .num .i64
  | .rlen, x => growR x (imgL P.m u).length ⟨16 * P.B1 + P.m, 1, 0, P.hi - (imgL P.m u).length⟩
  | .rtext, x => spR P.B P.B1 u x
  | .any, _ => .any
/-- A slot behind the word. -/
noncomputable def slotZ (P : Pl) : Kd → AV → AV
  | .same, x => x
  | .text, x => x
  | .idx, x => adv x 0 ⟨16 * P.B + P.m, 1, P.lo, P.hi⟩
  | .acc m', x => grow x [.w (16 * P.B + m') (imgCls m' (clsT (P.B % 16))) (cond (Nat.beq P.lo 0) 0 1) (mulHi m' P.hi)]
  | .num, _ => .num .i64
  | .rlen, x => growR x 0 ⟨16 * P.B + P.m, 1, P.lo, P.hi⟩
  | .rtext, x => x
  | .any, _ => .any
/-- Slots by their kinds; those behind the last kind stay. -/
noncomputable def mapK (f : Kd → AV → AV) : List Kd → List AV → List AV
  | [], xs => xs
  | k :: ks, x :: xs => f k x :: mapK f ks xs
  | _ :: _, [] => []
/-- Two texts of the same bytes and words. -/
noncomputable def segSame0 : List Seg → List Seg → Bool
  | [], [] => true
  | .b c :: l, .b d :: m => u8Beq c d && segSame0 l m
  | .w k _ _ _ :: l, .w k' _ _ _ :: m => Nat.beq k k' && segSame0 l m
  | _, _ => false
noncomputable def seg1 (s t : Seg) : Bool :=
  Seg.rec (motive := fun _ => Bool) (fun c => Seg.rec (motive := fun _ => Bool) (fun d => u8Beq c d) (fun _ _ _ _ => false) t) (fun k _ _ _ => Seg.rec (motive := fun _ => Bool) (fun _ => false) (fun k' _ _ _ => Nat.beq k k') t) s
noncomputable def segSame (l m : List Seg) : Bool :=
  List.rec (motive := fun _ => List Seg → Bool) (fun m => List.rec (motive := fun _ => Bool) true (fun _ _ _ => false) m)
    (fun s _ q m => List.rec (motive := fun _ => Bool) false (fun t m _ => seg1 s t && q m) m) l m
/-- Two values that are alike for sure. -/
noncomputable def uvSame (x y : AV) : Bool := match toLin x, toLin y with
  | some a, some b => match addTs (negTs b.2) a.2 with | [] => eqI a.1 b.1 | _ => false
  | _, _ => match toSegs x, toSegs y with
    | some a, some b => segSame a b
    | _, _ => false
noncomputable def isI64 (x : AV) : Bool := match numKind x with
  | some k => decide (k = .i64)
  | none => false
noncomputable def rslSame (x y : AV) : Bool := match x, y with
  | .rsl i o os c ts, .rsl i' o' os' c' ts' => Nat.beq i i' && eqI o o' && tmsBeq os os' && uvSame (.lin c ts) (.lin c' ts')
  | _, _ => false
noncomputable def kdSame : Kd → AV → AV → Bool
  | .same, x, y => AV.beq x y
  | .num, x, _ => isI64 x
  | .rlen, x, y => rslSame x y
  | .rtext, x, y => rslSame x y
  | .any, _, _ => true
  | _, x, y => uvSame x y
noncomputable def allSame : List Kd → List AV → List AV → Bool
  | [], xs, ys => AV.beqs xs ys
  | k :: ks, x :: xs, y :: ys => kdSame k x y && allSame ks xs ys
  | _, _, _ => false
noncomputable def rowBeq : List RSeg → List RSeg → Bool
  | [], [] => true
  | .c a :: l, .c b :: m => AV.beq a b && rowBeq l m
  | .r B m T lo hi :: l, .r B' m' T' lo' hi' :: l' => Nat.beq B B' && Nat.beq m m' && Nat.beq T T' && Nat.beq lo lo' && Nat.beq hi hi' && rowBeq l l'
  | _, _ => false
noncomputable def Blk.beq : Blk → Blk → Bool
  | .cells e cs, .cells e' cs' => Nat.beq e e' && AV.beqs cs cs'
  | .iter s p, .iter s' p' => bytesBeq s s' && Nat.beq p p'
  | .bytes e l, .bytes e' l' => Nat.beq e e' && segsBeq l l'
  | .siter l c ts, .siter l' c' ts' => segsBeq l l' && intBeq c c' && tmsBeq ts ts'
  | .row e l, .row e' l' => Nat.beq e e' && rowBeq l l'
  | .mp ks vs, .mp ks' vs' => AV.beqs ks ks' && AV.beqs vs vs'
  | .sb s, .sb s' => bytesBeq s s'
  | _, _ => false
noncomputable def ptBeq : PT Blk → PT Blk → Bool
  | .leaf, .leaf => true
  | .node l none r, .node l' none r' => ptBeq l l' && ptBeq r r'
  | .node l (some v) r, .node l' (some v') r' => Blk.beq v v' && ptBeq l l' && ptBeq r r'
  | _, _ => false
noncomputable def Store.beq (a b : Store) : Bool := Nat.beq a.next b.next && ptBeq a.t b.t
noncomputable def ltRow (n : Nat) : List RSeg → Bool
  | [] => true
  | .c v :: l => Go.AM.ltW n v && ltRow n l
  | .r B _ _ _ _ :: l => Nat.blt (16 * B) n && ltRow n l
noncomputable def Blk.ltW (n : Nat) : Blk → Bool
  | .cells _ cs => ltWs n cs
  | .iter _ _ => true
  | .bytes _ l => ltSegs n l
  | .siter l _ ts => ltSegs n l && ltTs n ts
  | .row _ l => ltRow n l
  | .mp ks vs => ltWs n ks && ltWs n vs
  | .sb _ => true
noncomputable def ptLt (n : Nat) : PT Blk → Bool
  | .leaf => true
  | .node l none r => ptLt n l && ptLt n r
  | .node l (some v) r => Blk.ltW n v && ptLt n l && ptLt n r
/-- A cell that tells of a text. -/
noncomputable def spC (T : Nat) (a : List UInt8) : AV := match T with
  | 0 => .str a
  | T + 1 => .iface (T + 1) (.ref [.str a] 0)
/-- A base's runs are parted. -/
noncomputable def spRow (B B1 : Nat) (u : List UInt8) : List RSeg → List RSeg
  | [] => []
  | .c v :: l => .c v :: spRow B B1 u l
  | .r B' m T lo hi :: l => cond (Nat.beq B' B)
      (.r B1 m T 0 (hi - u.length) :: (cellsR (u.map fun c => spC T (mapB m c)) ++ .r (B1 + 16) m T 0 (hi - u.length) :: spRow B B1 u l))
      (.r B' m T lo hi :: spRow B B1 u l)
/-- A block of the text, of the place. -/
noncomputable def blkG (P : Pl) (u : List UInt8) : Blk → Blk
  | .cells e cs => .cells e (mapK (slotG P u) P.cks cs)
  | .siter l n ts => .siter (spSeg P.B P.B1 u l) n (addTs ts [⟨16 * P.B1 + P.m, 1, 0, P.hi - (imgL P.m u).length⟩])
  | .row e l => .row e (spRow P.B P.B1 u l)
  | b => b
noncomputable def blkE (P : Pl) (u : List UInt8) : Blk → Blk
  | .cells e cs => .cells e (mapK (slotE P u) P.cks cs)
  | .siter l n ts => .siter (spSeg P.B P.B1 u l) (n + (imgL P.m u).length) (addTs ts [⟨16 * P.B1 + P.m, 1, 0, P.hi - (imgL P.m u).length⟩])
  | .row e l => .row e (spRow P.B P.B1 u l)
  | b => b
noncomputable def blkZ (P : Pl) : Blk → Blk
  | .cells e cs => .cells e (mapK (slotZ P) P.cks cs)
  | .siter l n ts => .siter l n (addTs ts [⟨16 * P.B + P.m, 1, P.lo, P.hi⟩])
  | b => b
noncomputable def stM (P : Pl) (f : Blk → Blk) (σ : Store) : Store := match P.sb with
  | none => σ
  | some id => match σ.get id with
    | some b => σ.upd id (f b)
    | none => σ
/-- The blocks are as told; the text's block is compared value by value. -/
noncomputable def blkSame (P : Pl) (b e : Blk) : Bool := match b, e with
  | .cells n cs, .cells n' ds => Nat.beq n n' && allSame P.cks cs ds
  | .siter l c ts, .siter l' c' ts' => segSame l l' && uvSame (.lin c ts) (.lin c' ts')
  | .row e l, .row e' l' => Nat.beq e e' && rowBeq l l'
  | _, _ => false
noncomputable def stSame (P : Pl) (τ : Store) (u : List UInt8) (σ : Store) : Bool := match P.sb with
  | none => Store.beq τ σ
  | some id => match τ.get id, σ.get id with
    | some b, some b0 => blkSame P b (blkE P u b0) && Store.beq (τ.upd id b0) σ
    | _, _ => false
/-- Round by round, until all stands as it is to. -/
noncomputable def stepsK (body : (List AV → Store → Tr R) → List AV → Store → Tr R) (mt : List AV → Store → Bool) : Nat → List AV → Store → Tr R
  | 0, _, _ => .fail
  | f + 1, ys, τ => cond (mt ys τ) (.ret (.any, τ)) (body (stepsK body mt f) ys τ)
noncomputable def mtE (P : Pl) (u : List UInt8) (xs : List AV) (σ : Store) (ys : List AV) (τ : Store) : Bool :=
  allSame P.ks ys (mapK (slotE P u) P.ks xs) && stSame P τ u σ
noncomputable def isOk (t : Tr R) : Bool := match t.val with | some _ => true | none => false
noncomputable def unitsOk (body : (List AV → Store → Tr R) → List AV → Store → Tr R) (P : Pl) (xs : List AV) (σ : Store) : List UInt8 → Bool
  | [] => true
  | c :: l => isOk (stepsK body (mtE P [c] xs σ) 8 (mapK (slotG P [c]) P.ks xs) (stM P (blkG P [c]) σ)) && unitsOk body P xs σ l
/-- What a slot must be like. -/
noncomputable def kdOk (P : Pl) : Kd → AV → Bool
  | .same, x => Go.AM.ltW (16 * P.B1) x
  | .text, x => Go.AM.ltW (16 * P.B1) x && (match x with | .sstr _ => true | .lin _ _ => true | _ => false)
  | .idx, x => match toLin x with | some (_, ts) => ltTs (16 * P.B1) ts | none => false
  | .acc m', x => match toSegs x with | some l => ltSegs (16 * P.B1) l && Nat.blt m' 16 | none => false
  | .num, x => isI64 x
  | .rlen, x => match x with | .rsl _ _ os _ ts => ltTs (16 * P.B1) os && ltTs (16 * P.B1) ts | _ => false
  | .rtext, x => match x with | .rsl _ _ os _ ts => ltTs (16 * P.B1) os && ltTs (16 * P.B1) ts | _ => false
  | .any, _ => true
noncomputable def kdsOk (P : Pl) : List Kd → List AV → Bool
  | [], xs => Go.AM.ltWs (16 * P.B1) xs
  | k :: ks, x :: xs => kdOk P k x && kdsOk P ks xs
  | _ :: _, [] => false
/-- Kinds at the end that say nothing are left out. -/
noncomputable def consK (k : Kd) : List Kd → List Kd
  | [] => (match k with | .same => [] | k => [k])
  | l => k :: l
/-- The text tells of the word what the plan says. -/
noncomputable def hasWord (P : Pl) : List AV → Bool
  | [] => false
  | .sstr l :: r => (l.any fun s => match s with | .w k _ lo hi => Nat.beq k (16 * P.B + P.m) && Nat.beq lo P.lo && Nat.beq hi P.hi | _ => false) || hasWord P r
  | _ :: r => hasWord P r
noncomputable def blkOk (P : Pl) : Blk → Bool
  | .cells _ cs => kdsOk P P.cks cs
  | .siter l _ ts => ltSegs (16 * P.B1) l && ltTs (16 * P.B1) ts
  | .row _ l => ltRow (16 * P.B1) l
  | _ => false
noncomputable def sbOk (P : Pl) (σ : Store) : Bool := match P.sb with
  | none => true
  | some id => match σ.get id with
    | some b => blkOk P b
    | none => false
/-- A row's runs, told as words. -/
noncomputable def rowWs : List RSeg → List AV
  | [] => []
  | .c _ :: l => rowWs l
  | .r B _ _ lo hi :: l => .sstr [.w (16 * B) (clsT (B % 16)) lo hi] :: rowWs l
/-- The values of the text's block. -/
noncomputable def sbVals (P : Pl) (σ : Store) : List AV := match P.sb with
  | none => []
  | some id => match σ.get id with
    | some (.cells _ cs) => cs
    | some (.siter l _ _) => [.sstr l]
    | some (.row _ l) => rowWs l
    | _ => []
noncomputable def sweepOk (bodyx : (List AV → Store → Tr R) → List AV → Store → Tr R) (P : Pl) (xs : List AV) (σ : Store) : Bool :=
  Nat.blt P.m 16 && Nat.blt P.B P.B1 && Nat.beq (P.B1 % 16) (P.B % 16) && hasWord P (xs ++ sbVals P σ) && kdsOk P P.ks xs && sbOk P σ && ptLt (16 * P.B1) σ.t && unitsOk bodyx P xs σ (clsT (P.B % 16))
noncomputable def sweepU (pl : List AV → Store → Option Pl) (body bodyx : (List AV → Store → Tr R) → List AV → Store → Tr R) : Nat → List AV → Store → Tr R
  | 0, _, _ => .fail
  | m + 1, xs, σ => match pl xs σ with
    | none => body (sweepU pl body bodyx m) xs σ
    | some P => cond (sweepOk bodyx P xs σ) (sweepU pl body bodyx m (mapK (slotZ P) P.ks xs) (stM P (blkZ P) σ)) (body (sweepU pl body bodyx m) xs σ)

/-- The greatest number of a word, and one more. -/
noncomputable def maxSegs0 : List Seg → Nat → Nat
  | [], n => n
  | .b _ :: l, n => maxSegs0 l n
  | .w k _ _ _ :: l, n => maxSegs0 l (cond (Nat.blt k n) n (k + 1))
noncomputable def maxSegs (l : List Seg) : Nat → Nat :=
  List.rec (motive := fun _ => Nat → Nat) (fun n => n) (fun s _ q n => Seg.rec (motive := fun _ => Nat) (fun _ => q n) (fun k _ _ _ => q (cond (Nat.blt k n) n (k + 1))) s) l
noncomputable def maxXs : List AV → Nat → Nat
  | [], n => n
  | .sstr l :: r, n => maxXs r (maxSegs l n)
  | _ :: r, n => maxXs r n
noncomputable def hasB0 (B : Nat) : List Seg → Bool
  | [] => false
  | .b _ :: l => hasB0 B l
  | .w k _ _ _ :: l => Nat.beq (k / 16) B || hasB0 B l
noncomputable def hasB (B : Nat) (l : List Seg) : Bool :=
  List.rec (motive := fun _ => Bool) false (fun s _ q => Seg.rec (motive := fun _ => Bool) (fun _ => q) (fun k _ _ _ => Nat.beq (k / 16) B || q) s) l
noncomputable def hasT0 (B : Nat) : List Tm → Bool
  | [] => false
  | t :: l => Nat.beq (t.k / 16) B || hasT0 B l
noncomputable def hasT (B : Nat) (l : List Tm) : Bool :=
  List.rec (motive := fun _ => Bool) false (fun t _ q => Nat.beq (t.k / 16) B || q) l
noncomputable def memN (n : Nat) : List Nat → Bool
  | [] => false
  | m :: l => Nat.beq n m || memN n l
noncomputable def lookN (n : Nat) : List (Nat × Nat) → Option Nat
  | [] => none
  | p :: l => cond (Nat.beq n p.1) (some p.2) (lookN n l)
noncomputable def kindsOf (B : Nat) (js : List Nat) (ac : List (Nat × Nat)) (nu an : List Nat) : Nat → List AV → List Kd
  | _, [] => []
  | i, x :: xs => consK (cond (memN i js) .idx (cond (memN i nu) .num (cond (memN i an) .any (match lookN i ac with
    | some m => .acc m
    | none => match x with
      | .sstr l => cond (hasB B l) .text .same
      | .lin _ ts => cond (hasT B ts) .text .same
      | _ => .same)))) (kindsOf B js ac nu an (i + 1) xs)
/-- The values of a loop: those of the live slots; from place 100 on those of the block at which a slot points. -/
noncomputable def valAt (xs cs : List AV) (i : Nat) : AV := cond (Nat.blt i 100) (xs.getD i .any) (cs.getD (i - 100) .any)
noncomputable def blkAt (σ : Store) (xs : List AV) : Option Nat → Option (Nat × List AV)
  | none => none
  | some p => match xs.getD p .any with
    | .ptr id 0 => match σ.get id with
      | some (.cells _ cs) => some (id, cs)
      | some (.siter l c ts) => some (id, [.sstr l, mkLin c ts])
      | _ => none
    | _ => none
/-- The plan for a loop: the pointer to a block (if there is one), the text, the places (the first one at the word), the growing ones with their images, the numbers. -/
noncomputable def planOf (sp : Option Nat) (it : Nat) (j0 : Nat) (js : List Nat) (ac : List (Nat × Nat)) (nu an : List Nat) (xs : List AV) (σ : Store) : Option Pl :=
  match (match sp with | none => some (0, []) | some _ => blkAt σ xs sp) with
  | none => none
  | some (id, cs) => match valAt xs cs it with
    | .sstr l => match toLin (valAt xs cs j0) with
      | some n => match symSplit l n.1 n.2 with
        | some (_, .w k _ lo hi :: _) => some ⟨k % 16, k / 16, lo, hi, 16 * (maxXs (xs ++ cs) 0 / 256 + 65) + k / 16 % 16, kindsOf (k / 16) (j0 :: js) ac nu an 0 xs, (match sp with | none => none | some _ => some id), kindsOf (k / 16) (j0 :: js) ac nu an 100 cs⟩
        | _ => none
      | none => none
    | _ => none
end Go.AM
/- The abstract machine: what functions that walk over texts do, at texts with unknown words. -/
namespace Go.AM

noncomputable def allIn (cls set : List UInt8) : Bool := match cls with | [] => true | c :: l => memB c set && allIn l set
noncomputable def noneIn (cls set : List UInt8) : Bool := match cls with | [] => true | c :: l => !(memB c set) && noneIn l set
/-- Are all bytes of a text in a set? -/
noncomputable def sAll (set : List UInt8) : List Seg → Bool
  | [] => true
  | .b c :: l => memB c set && sAll set l
  | .w _ cls _ _ :: l => allIn cls set && sAll set l
/-- Is no byte of a text in a set? -/
noncomputable def sNone (set : List UInt8) : List Seg → Bool
  | [] => true
  | .b c :: l => !(memB c set) && sNone set l
  | .w _ cls _ _ :: l => noneIn cls set && sNone set l
/-- A text without the bytes of a set at its front. -/
noncomputable def sTrimL (set : List UInt8) : List Seg → Option (List Seg)
  | [] => some []
  | .b c :: l => cond (memB c set) (sTrimL set l) (some (.b c :: l))
  | .w k cls lo hi :: l => cond (Nat.ble 1 lo && noneIn cls set) (some (.w k cls lo hi :: l)) none
noncomputable def sRev : List Seg → List Seg → List Seg
  | [], a => a
  | x :: l, a => sRev l (x :: a)
noncomputable def sTrimR (set : List UInt8) (l : List Seg) : Option (List Seg) := match sTrimL set (sRev l []) with | some m => some (sRev m []) | none => none
/-- The place of the first byte of a set. -/
noncomputable def sFind (set : List UInt8) : List Seg → Int → List Tm → Option (Option (Int × List Tm))
  | [], _, _ => some none
  | .b c :: l, n, ts => cond (memB c set) (some (some (n, ts))) (sFind set l (n + 1) ts)
  | .w k cls lo hi :: l, n, ts => cond (noneIn cls set) (sFind set l n (addTs ts [⟨k, 1, lo, hi⟩])) none
noncomputable def sIndex (set : List UInt8) (l : List Seg) : Option AV := match sFind set l 0 [] with
  | some none => some (.int .i64 (-1))
  | some (some (n, ts)) => some (mkLin n ts)
  | none => none
/-- The place of the last byte of a set. -/
noncomputable def sLastGo (set : List UInt8) : List Seg → Int → List Tm → AV → Option AV
  | [], _, _, best => some best
  | .b c :: l, n, ts, best => cond (memB c set) (sLastGo set l (n + 1) ts (mkLin n ts)) (sLastGo set l (n + 1) ts best)
  | .w k cls lo hi :: l, n, ts, best => cond (noneIn cls set) (sLastGo set l n (addTs ts [⟨k, 1, lo, hi⟩]) best) none
noncomputable def sLast (set : List UInt8) (l : List Seg) : Option AV := sLastGo set l 0 [] (.int .i64 (-1))
/-- What stands for single bytes. -/
noncomputable def pairsOf : List AV → Option (List (UInt8 × List UInt8))
  | [] => some []
  | .str [c] :: .str (d :: v) :: l => match pairsOf l with | some m => some ((c, d :: v) :: m) | none => none
  | _ => none
noncomputable def lookB (c : UInt8) : List (UInt8 × List UInt8) → Option (List UInt8)
  | [] => none
  | p :: l => cond (Nat.beq c.toNat p.1.toNat) (some p.2) (lookB c l)
noncomputable def escB (ps : List (UInt8 × List UInt8)) (c : UInt8) : List UInt8 := match lookB c ps with | some v => v | none => [c]
noncomputable def noKey (ps : List (UInt8 × List UInt8)) : List UInt8 → Bool
  | [] => true
  | c :: l => (match lookB c ps with | some _ => false | none => true) && noKey ps l
/-- Does an image tell what becomes of all bytes of a class? -/
noncomputable def escImg (ps : List (UInt8 × List UInt8)) (mm : Nat) : List UInt8 → Bool
  | [] => true
  | c :: l => bytesBeq (escB ps c) (mapB mm c) && escImg ps mm l
noncomputable def imgOf (ps : List (UInt8 × List UInt8)) (cls : List UInt8) : List Nat → Option Nat
  | [] => none
  | m :: l => cond (escImg ps m cls) (some m) (imgOf ps cls l)
noncomputable def escL (ps : List (UInt8 × List UInt8)) : List Seg → Option (List Seg)
  | [] => some []
  | .b c :: l => match escL ps l with | some m => some ((escB ps c).map .b ++ m) | none => none
  | .w k cls lo hi :: l => match escL ps l with
    | some m => cond (noKey ps cls) (some (.w k cls lo hi :: m)) (cond (Nat.beq (k % 16) 0) (match imgOf ps (clsT (k / 16 % 16)) [3, 4] with
      | some mm => some (.w (k + mm) (imgCls mm (clsT (k / 16 % 16))) lo (mulHi mm hi) :: m)
      | none => none) none)
    | none => none
/-- Another block than a buffer's row. -/
noncomputable def notRow : AV → Nat → Bool
  | .bsl r _ _, pid => !(Nat.beq r pid)
  | _, _ => true
noncomputable def smallL (l : List Seg) : Bool := leI ((segLen l).1 + maxTs (segLen l).2) 1000000000
/-- Texts of single bytes are put in their places, and what comes is written. -/
noncomputable def escWrite (σ : Store) (pid n id : Nat) (x : AV) : Tr R :=
  match σ.get pid, σ.get id with
  | some (.cells _ cs), some (.cells e [buf, .int .i64 0, .int .i8 _]) => must (Nat.beq e 313 && Nat.beq n cs.length && Nat.ble n 1000000 && Nat.ble σ.next 1000000000 && !(Nat.beq pid id)) (opt (pairsOf cs) fun ps => opt (bufHeld 5 σ buf) fun old => opt (toSegs x) fun l => opt (escL ps l) fun m =>
      must (smallL old && smallL l && smallL m && notRow buf pid) (match l with
        | [] => .ret (.tup [], σ)
        | _ :: _ => bufWrite 156 5 σ id m (.tup [])))
  | _, _ => .fail
end Go.AM
