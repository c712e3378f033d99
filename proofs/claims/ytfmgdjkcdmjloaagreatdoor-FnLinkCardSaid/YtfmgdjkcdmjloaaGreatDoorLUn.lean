/- Escapes of image 1; a store told anew behind a call. -/
import Derived.Test.YtfmgdjkcdmjloaaGreatDoorSzRb
import Derived.Test.YtfmgdjkcdmjloaaGreatDoorLK
set_option linter.unusedVariables false
set_option linter.unusedSimpArgs false
namespace Go.AM
def spc1 (c : UInt8) : Bool := Nat.beq c.toNat 60 || Nat.beq c.toNat 62 || Nat.beq c.toNat 92
def spcA (c : UInt8) : Bool := spc1 c || Nat.beq c.toNat 38
theorem mapB1_id {c : UInt8} (h : spcA c = false) : mapB 1 c = [c] := by
  simp only [spcA, spc1, Bool.or_eq_false_iff] at h
  obtain ⟨⟨⟨h1, h2⟩, h3⟩, h4⟩ := h
  show pickB c [(60, [92, 60]), (62, [92, 62]), (92, [92, 92]), (38, [38, 97, 109, 112, 59])] = [c]
  simp only [pickB, h1, h2, h3, h4, cond_false]
theorem imgL1_id : ∀ {b : List UInt8}, (∀ c ∈ b, spcA c = false) → imgL 1 b = b
  | [], _ => rfl
  | c :: b, h => by
    show mapB 1 c ++ imgL 1 b = _
    rw [mapB1_id (h c (List.mem_cons_self ..)), imgL1_id fun d hd => h d (List.mem_cons_of_mem _ hd)]; rfl
theorem un_fin {g g4 : Ghost} {σ τ : Store} {w w4 : World} {B1 : Nat} (hs : Sim g σ w) (hp : ptLt (16 * B1) σ.t = true) (a0 : ∀ k, k < 16 * B1 → g4.sv k = g.sv k) (h4 : Sim g4 τ w4) (hE : Ext0 g g4 w w4) (hsub : ptSub σ.t τ.t = true) :
    ∃ gN, Sim gN { t := σ.t, next := σ.next + 1 } w4 ∧ Ext g gN w w4 := by
  obtain ⟨h1, h2⟩ := move_sim hs h4 hE (r := max σ.next τ.next) (Nat.le_max_left _ _) (T := { t := σ.t, next := σ.next + 1 }) rfl (by
    intro i bl hg
    have hg' : σ.get i = some bl := hg
    obtain ⟨b, n, o, hpi, _⟩ := hs.blk _ _ hg'
    have hlt := (hs.lt _ _ _ hpi).1
    rw [hs.next] at hlt
    refine .inl ⟨hlt, bl, ptSub_get hsub hg, fun n o h => h.move (num_alike a0) ?_ (ptLt_get hp hg)⟩
    rw [← hs.next]; exact blk_below hs hg')
  exact ⟨_, h1, h2⟩
end Go.AM
/- mdUnescape at a word with escapes: it comes to the word itself. -/
namespace Go.Proofs.YtfmgdjkcdmjloaaGreatDoor
open Go.AM
theorem v47n (c : UInt8) (s : List UInt8) (σ : Store) (hlen : s.length ≤ 1000000000) (hc : c ∉ s) : (c47 run50 1 (.str s) (.str [c]) σ).val = some (.bool false, σ) := by
  have hn := loop50 c s σ (s.length + 1) hc hlen s.length 0 (by omega)
  have h5 : (run50 50 [.str s, .str [c]] σ).val = some (.int .i64 (-1), σ) := by
    show (c50 runB (s.length + 1) (.str s) (.str [c]) σ).val = _
    unfold c50
    exact hn
  unfold c47
  rw [val_cal h5, val_ge, decide_eq_false (by omega)]
  rfl
/-- The text is parted from what the store tells. -/
def bumpS (σ : Store) : Store := { t := σ.t, next := σ.next + 1 }
def ch162 (run : FuncId → List AV → Store → Tr R) (σ : Store) (B1 hi : Nat) : Bool :=
  match (run 162 [.agg [], .sstr [.w (16 * B1 + 1) (imgCls 1 (clsT (B1 % 16))) 1 hi]] σ).val with
  | some (v, τ) => (match toSegs v with | some l => segSame l [.w (16 * B1) [] 0 0] | none => false) && ptSub σ.t τ.t
  | none => false
open Classical in
noncomputable def runC (b t : List UInt8) (σ0 : Store) (f : FuncId) (args : List AV) (σ : Store) : Tr R :=
  if f = 47 then (match args with
    | [.str s, .str [c]] => must (decide (s.length ≤ 1000000000)) (.ret (.bool (decide (c ∈ s)), σ))
    | _ => .fail)
  else if f = 162 then (match args with
    | [.agg [], .str s] => if s = t ∧ σ = σ0 then .ret (.str b, bumpS σ0) else .fail
    | _ => .fail)
  else .fail
theorem runC_ok {run : FuncId → List AV → Store → Tr R} (hrun : RunOK X0 run) {b : List UInt8} {σ0 : Store} {B1 hi : Nat} (hch : ch162 run σ0 B1 hi = true) (hp : ptLt (16 * B1) σ0.t = true) (hb : ∀ c ∈ b, c ∈ clsT (B1 % 16)) (h1 : 1 ≤ b.length) (h2 : (imgL 1 b).length ≤ hi) : RunOK X0 (runC b (imgL 1 b) σ0) := by
  intro f args σ
  unfold runC
  split
  · subst f
    split
    · rename_i s c
      intro K g w args' ht ha hs hG
      obtain ⟨hm, hk⟩ := Tr.sat_must ht
      have hm := of_decide_eq_true hm
      by_cases hc : c ∈ s
      · rw [decide_eq_true hc] at hk
        exact ok47 run50_ok 1 (.str s) (.str [c]) σ K g w _ (Tr.sat_of_val (v47 c s σ hm hc) hk) ha hs hG
      · rw [decide_eq_false hc] at hk
        exact ok47 run50_ok 1 (.str s) (.str [c]) σ K g w _ (Tr.sat_of_val (v47n c s σ hm hc) hk) ha hs hG
    · intro K g w args' h; exact h.elim
  · split
    · subst f
      split
      case h_2 => intro K g w args' h; exact h.elim
      rename_i s
      by_cases hss : s = imgL 1 b ∧ σ = σ0
      case neg => rw [if_neg hss]; intro K g w args' h; exact h.elim
      rw [if_pos hss]
      obtain ⟨rfl, rfl⟩ := hss
      intro K g w args' hK ha hs hG
      unfold ch162 at hch
      split at hch
      case h_2 => cases hch
      rename_i v τ hv
      simp only [Bool.and_eq_true] at hch
      obtain ⟨o1, o2⟩ := hch
      split at o1
      case h_2 => cases o1
      rename_i l hl
      have hag : Agree (16 * B1) g (g.re B1 b [] hb (fun _ h => by cases h)) := re_agree
      have e1 : (g.re B1 b [] hb (fun _ h => by cases h)).sv (16 * B1 + 1) = imgL 1 b := re_sv1 (by decide)
      have e0 : (g.re B1 b [] hb (fun _ h => by cases h)).sv (16 * B1) = b := by
        have := re_sv1 (g := g) (B1 := B1) (u := b) (v := []) (hu := hb) (hv := fun _ h => by cases h) (m := 0) (by decide)
        rw [imgL_zero] at this; exact this
      generalize g.re B1 b [] hb (fun _ h => by cases h) = g2 at hag e1 e0
      cases ha with
      | cons ha1 ha =>
      cases ha with
      | cons ha2 ha =>
      cases ha
      cases ha2
      cases ha1 with
      | agg hagg =>
      cases hagg
      have hil := (imgL_len 1 b).1
      have hvr : VR g2 (.sstr [.w (16 * B1 + 1) (imgCls 1 (clsT (B1 % 16))) 1 hi]) (.string ⟨(imgL 1 b).toArray⟩) := by
        have := VR.sstr (g := g2) [.w (16 * B1 + 1) (imgCls 1 (clsT (B1 % 16))) 1 hi] ⟨⟨by rw [e1]; omega, by rw [e1]; exact h2, by rw [e1]; exact imgL_mem hb⟩, trivial⟩
        simpa only [den, List.append_nil, e1] using this
      have hs2 : Sim g2 σ w := hs.agree hag hp
      have hG2 : GR X0 g2 := fun i cs hi => by rw [hag.I]; exact hG i cs hi
      refine (hrun 162 _ σ (fun r => r = (v, τ)) g2 w _ (Tr.sat_of_val hv rfl) (.cons (.agg .nil) (.cons hvr .nil)) hs2 hG2).mono ?_
      rintro e w' ⟨v', a, σ1, g', rfl, hK', hS, hE, hvr'⟩
      cases hK'
      have hsv' : g'.sv = g2.sv := hE.le.sv
      obtain ⟨gN, n1, n2⟩ := un_fin (g4 := g') hs hp (fun k hk => by rw [hsv', hag.sv k hk]) hS (show Ext0 g g' w w' from ⟨by have := hE.le.next; rw [hag.next] at this; exact this, (fun id x h1 h2 => by have := hE.le.π id x (by rw [hag.next]; exact h1) h2; rw [hag.π] at this; exact this), (fun b cs hb => hE.le.I b cs (by rw [hag.I]; exact hb)), (fun k m hm => hE.le.rv k m (by rw [hag.rv]; exact hm)), hE.os, hE.tape, hE.output, hE.size, (fun b h1 h2 => hE.keep b h1 fun id n => by rw [hag.π]; exact h2 id n), (fun id b n h1 h2 => by obtain ⟨i0, n0, h3⟩ := hE.old id b n h1 h2; rw [hag.π] at h3; exact ⟨i0, n0, h3⟩)⟩) o2
      obtain ⟨_, hval⟩ := sym_segs hvr' hl
      refine ⟨v', _, _, gN, rfl, hK, n1, n2, ?_⟩
      rw [hval, segSame_ok o1, hsv']
      have : den g2.sv [.w (16 * B1) [] 0 0] = b := by show g2.sv _ ++ [] = _; rw [e0, List.append_nil]
      rw [this]
      exact .str b
    · intro K g w args' h; exact h.elim
theorem spc_img {b : List UInt8} (h1 : (92 : UInt8) ∉ imgL 1 b) (h2 : (38 : UInt8) ∉ imgL 1 b) : imgL 1 b = b := by
  refine imgL1_id fun c hc => ?_
  have hm : ∀ d ∈ mapB 1 c, d ∈ imgL 1 b := fun d hd => List.mem_flatMap.2 ⟨c, hc, hd⟩
  cases hs : spcA c with
  | false => rfl
  | true =>
    exfalso
    simp only [spcA, spc1, Bool.or_eq_true] at hs
    rcases hs with ((h | h) | h) | h
    · have : c = 60 := UInt8.toNat_inj.1 (Nat.eq_of_beq_eq_true h)
      subst this; exact h1 (hm 92 (by decide))
    · have : c = 62 := UInt8.toNat_inj.1 (Nat.eq_of_beq_eq_true h)
      subst this; exact h1 (hm 92 (by decide))
    · have : c = 92 := UInt8.toNat_inj.1 (Nat.eq_of_beq_eq_true h)
      subst this; exact h1 (hm 92 (by decide))
    · have : c = 38 := UInt8.toNat_inj.1 (Nat.eq_of_beq_eq_true h)
      subst this; exact h2 (hm 38 (by decide))
theorem v161 (b : List UInt8) (σ : Store) (hlen : (imgL 1 b).length ≤ 1000000000) : (c161 (runC b (imgL 1 b) σ) 1 (.str (imgL 1 b)) σ).val = some (.str b, if (92 : UInt8) ∈ imgL 1 b ∨ (38 : UInt8) ∈ imgL 1 b then bumpS σ else σ) := by
  have r47 : ∀ c : UInt8, (runC b (imgL 1 b) σ 47 [.str (imgL 1 b), .str [c]] σ).val = some (.bool (decide (c ∈ imgL 1 b)), σ) := fun c => by
    unfold runC
    rw [if_pos rfl]
    show (must _ _).val = _
    rw [val_mustT _ (decide_eq_true hlen)]; rfl
  have r162 : (runC b (imgL 1 b) σ 162 [.agg [], .str (imgL 1 b)] σ).val = some (.str b, bumpS σ) := by
    unfold runC
    rw [if_neg (by decide), if_pos rfl]
    exact congrArg Tr.val (if_pos ⟨rfl, rfl⟩)
  unfold c161
  rw [val_cal (r47 92), lnot]
  by_cases h1 : (92 : UInt8) ∈ imgL 1 b
  · rw [decide_eq_true h1, Bool.not_true, lgFT, lgFT, lgFT, lpF, liF]
    rw [if_pos (.inl h1)]
    first | (rw [val_cal r162]; rfl) | (show (bldK _ _ _).val = _; simp only [bldK, fillK, opt]; rw [val_cal r162]; rfl)
  · rw [decide_eq_false h1, Bool.not_false, lgTT, lgTT, val_cal (r47 38), lgTT, lnot, lpT]
    by_cases h2 : (38 : UInt8) ∈ imgL 1 b
    · rw [decide_eq_true h2, Bool.not_true, liF]
      rw [if_pos (.inr h2)]
      first | (rw [val_cal r162]; rfl) | (show (bldK _ _ _).val = _; simp only [bldK, fillK, opt]; rw [val_cal r162]; rfl)
    · rw [decide_eq_false h2, Bool.not_false, liT, if_neg (fun h => h.elim h1 h2), spc_img h1 h2]
      rfl
def ck161 (run : FuncId → List AV → Store → Tr R) (σ : Store) (k lo hi B1 : Nat) : Bool :=
  Nat.ble 1 lo && Nat.ble hi 1000000 && Nat.blt (k / 16) B1 && Nat.beq (B1 % 16) (k / 16 % 16) && ptLt (16 * B1) σ.t && ptSub σ.t σ.t && ch162 run σ B1 hi
/-- mdUnescape: the run is the table's. -/
def sw161 (run : FuncId → List AV → Store → Tr R) (d : List AV → Store → Tr R) : List AV → Store → Tr R
  | [.sstr [.w k cls lo hi]], σ => cond (Nat.beq (k % 16) 1)
      (cond (ck161 run σ k lo hi (16 * (k / 256 + 1000) + k / 16 % 16)) (.ret (.sstr [.w (k - 1) (clsT (k / 16 % 16)) 1 hi], bumpS σ)) .fail)
      (d [.sstr [.w k cls lo hi]] σ)
  | args, σ => d args σ
theorem sw161_ok {run : FuncId → List AV → Store → Tr R} (hrun : RunOK X0 run) {d : List AV → Store → Tr R} (h : ∀ args σ, CallOK X0 161 args σ (d args σ)) (args : List AV) (σ : Store) : CallOK X0 161 args σ (sw161 run d args σ) := by
  unfold sw161
  split
  case h_2 => exact h _ _
  rename_i k cls lo hi
  cases hk1 : Nat.beq (k % 16) 1 with
  | false => exact h _ _
  | true =>
  have hk1 := Nat.eq_of_beq_eq_true hk1
  rw [cond_true]
  intro K g w args' ht ha hs hG
  generalize hB1 : 16 * (k / 256 + 1000) + k / 16 % 16 = B1 at ht
  cases hc : ck161 run σ k lo hi B1 with
  | false => rw [hc] at ht; exact ht.elim
  | true =>
  rw [hc, cond_true] at ht
  simp only [ck161, Bool.and_eq_true, Nat.ble_eq] at hc
  obtain ⟨⟨⟨⟨⟨⟨hlo, hhi⟩, _⟩, c2⟩, c3⟩, c4⟩, c5⟩ := hc
  have c2 := Nat.eq_of_beq_eq_true c2
  cases ha with
  | cons hx ha =>
  cases ha
  cases hx with
  | sstr _ hok =>
  obtain ⟨⟨l1, l2, l3⟩, _⟩ := hok
  obtain ⟨b, hb⟩ : ∃ b, g.bv (k / 16) = b := ⟨_, rfl⟩
  have hsvk : g.sv k = imgL 1 b := by unfold Ghost.sv; rw [hk1, hb]; rfl
  have hsv0 : g.sv (k - 1) = b := by
    unfold Ghost.sv
    rw [show (k - 1) / 16 = k / 16 by omega, show (k - 1) % 16 = 0 by omega, hb]; exact imgL_zero _
  have hbc : ∀ c ∈ b, c ∈ clsT (k / 16 % 16) := by rw [← hb]; exact g.bok _
  rw [hsvk] at l1 l2 l3
  have il := imgL_len 1 b
  have hbl : 1 ≤ b.length := by
    cases b with
    | nil => simp [imgL] at l1; omega
    | cons => simp
  have hden : den g.sv [.w k cls lo hi] = imgL 1 b := by show g.sv k ++ [] = _; rw [hsvk, List.append_nil]
  rw [hden]
  have hR := runC_ok hrun (b := b) c5 c3 (by rw [c2]; exact hbc) hbl l2
  have hv := v161 b σ (by omega)
  have main := ok161 hR 1 (.str (imgL 1 b)) σ (fun r => r = (.str b, if (92 : UInt8) ∈ imgL 1 b ∨ (38 : UInt8) ∈ imgL 1 b then bumpS σ else σ)) g w _ (Tr.sat_of_val hv rfl) (.cons (.str _) .nil) hs hG
  refine main.mono ?_
  rintro e w' ⟨v', a, σ1, g', rfl, hK', hS, hE, hvr'⟩
  have e1 : a = .str b := congrArg Prod.fst hK'
  have e2 : σ1 = _ := congrArg Prod.snd hK'
  subst e1
  cases hvr'
  have fin : ∃ gN, Sim gN (bumpS σ) w' ∧ Ext g gN w w' := by
    by_cases hsp : (92 : UInt8) ∈ imgL 1 b ∨ (38 : UInt8) ∈ imgL 1 b
    · simp only [if_pos hsp] at e2
      rw [e2] at hS
      exact ⟨g', hS, hE⟩
    · simp only [if_neg hsp] at e2
      rw [e2] at hS
      exact un_fin (g4 := g') hs c3 (fun k _ => by rw [hE.le.sv]) hS hE.forget c4
  obtain ⟨gN, n1, n2⟩ := fin
  refine ⟨_, _, _, gN, rfl, ht, n1, n2, ?_⟩
  have hkk : (k - 1) / 16 % 16 = k / 16 % 16 := by omega
  have : VR gN (.sstr [.w (k - 1) (clsT (k / 16 % 16)) 1 hi]) (.string ⟨(den gN.sv [.w (k - 1) (clsT (k / 16 % 16)) 1 hi]).toArray⟩) := .sstr _ (by
    rw [n2.le.sv]
    exact ⟨⟨by rw [hsv0]; exact hbl, by rw [hsv0]; omega, by rw [hsv0]; exact hbc⟩, trivial⟩)
  rw [n2.le.sv] at this
  simpa only [den, List.append_nil, hsv0] using this
end Go.Proofs.YtfmgdjkcdmjloaaGreatDoor
