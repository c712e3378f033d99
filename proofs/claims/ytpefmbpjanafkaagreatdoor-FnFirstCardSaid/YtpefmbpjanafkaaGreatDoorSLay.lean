/-
  DERIVED: THE SHELF's CONTRACTS AT THIS DUMP, IN PLAIN WORDS (tools/lay-plain.mjs out of 'YtpefmbpjanafkaaGreatDoorLay0.lean', which tools/lay-shelf.mjs wrote): THE SAME DECLARATIONS UNDER THE SAME NAMES: 'import', 'namespace', 'open', 'def', 'theorem' AND NOTHING ELSE: no command of the shelf's: FOR A HAND-IN. Each laying: the table of numbers ('.._ren') and one theorem, a field a fact of the dump's own or the kernel's comparison; each contract: ONE APPLICATION.
-/
import Derived.Shelf.LaysM
import Derived.Shelf.Strings.Builder1
import Derived.Shelf.Strings.Repeat
import Derived.Shelf.Small.Strs
import Derived.Test.YtpefmbpjanafkaaGreatDoorProg
import Derived.Shelf.RegionOpenPlain
import Derived.Lib.Walk
import Derived.Lib.Builder
import Derived.Lib.Buffer
import Derived.Lib.UnsafeStr
import Derived.WalkKit
set_option linter.unusedVariables false
set_option linter.unusedSimpArgs false
namespace Go.Proofs
open Go.Shelf
noncomputable def Tryz.lays169_ren : Go.Shelf.Ren := ⟨fun | 169 => 39 | n => n, fun | 70 => 62 | 9 => 9 | 0 => 0 | 72 => 64 | 37 => 42 | 127 => 89 | 3 => 3 | 5 => 5 | n => n, fun | n => n⟩
theorem Tryz.lays169 : Go.Proofs.Lays.n169 Tryz.prog Tryz.lays169_ren := {
  mixed := by kernel_rfl
  f169 := Tryz.func39.trans (congrArg some (by kernel_rfl))
  t0 := Tryz.underlying0
  a0 := Tryz.isAgg0
  z0 := Tryz.sizeOf0
  v0 := Tryz.zeroValue0
  t3 := Tryz.underlying3
  a3 := Tryz.isAgg3
  z3 := Tryz.sizeOf3
  v3 := Tryz.zeroValue3
  t9 := Tryz.underlying9
  a9 := Tryz.isAgg9
  z9 := Tryz.sizeOf9
  v9 := Tryz.zeroValue9
  t37 := Tryz.underlying42
  a37 := Tryz.isAgg42
  z37 := Tryz.sizeOf42
  v37 := Tryz.zeroValue42
  t70 := Tryz.underlying62
  a70 := Tryz.isAgg62
  z70 := Tryz.sizeOf62
  v70 := Tryz.zeroValue62
  t72 := Tryz.underlying64
  a72 := Tryz.isAgg64
  z72 := Tryz.sizeOf64
  v72 := Tryz.zeroValue64
  t127 := Tryz.underlying89
  a127 := Tryz.isAgg89
  z127 := Tryz.sizeOf89
  v127 := Tryz.zeroValue89 }
theorem Tryz.Builder_Extra_169 : Builder.Extra Tryz.prog Tryz.lays169_ren := {
  sizeBuilder := by kernel_rfl
  liesBuilder := by kernel_rfl
  t5 := Tryz.underlying5
  a5 := Tryz.isAgg5
  z5 := Tryz.sizeOf5
  v5 := Tryz.zeroValue5
  infoByte := by kernel_rfl
  cellsByte := by kernel_rfl
  sizeByte := by kernel_rfl
  neB5 := by decide }
noncomputable def Tryz.lays137_ren : Go.Shelf.Ren := ⟨fun | 137 => 51 | 217 => 75 | 266 => 94 | n => n, fun | 9 => 9 | 5 => 5 | 3 => 3 | n => n, fun | n => n⟩
theorem Tryz.lays137 : Go.Proofs.Lays.n137 Tryz.prog Tryz.lays137_ren := {
  mixed := by kernel_rfl
  f137 := Tryz.func51.trans (congrArg some (by kernel_rfl))
  f217 := Tryz.func75.trans (congrArg some (by kernel_rfl))
  f266 := Tryz.func94.trans (congrArg some (by kernel_rfl))
  t3 := Tryz.underlying3
  a3 := Tryz.isAgg3
  z3 := Tryz.sizeOf3
  v3 := Tryz.zeroValue3
  t5 := Tryz.underlying5
  a5 := Tryz.isAgg5
  z5 := Tryz.sizeOf5
  v5 := Tryz.zeroValue5
  t9 := Tryz.underlying9
  a9 := Tryz.isAgg9
  z9 := Tryz.sizeOf9
  v9 := Tryz.zeroValue9 }
noncomputable def Tryz.lays105_ren : Go.Shelf.Ren := ⟨fun | 105 => 167 | 212 => 224 | 99 => 179 | 165 => 225 | 166 => 37 | 170 => 226 | 169 => 39 | 263 => 254 | 264 => 255 | 206 => 233 | 240 => 53 | 241 => 256 | 276 => 76 | 277 => 268 | n => n, fun | 9 => 9 | 3 => 3 | 4 => 4 | 20 => 20 | 0 => 0 | 46 => 165 | 109 => 343 | 5 => 5 | 72 => 64 | 76 => 67 | 51 => 201 | 146 => 371 | 53 => 203 | 148 => 373 | 70 => 62 | 37 => 42 | 75 => 66 | 127 => 89 | 164 => 159 | 80 => 70 | n => n, fun | n => n⟩
theorem Tryz.lays105 : Go.Proofs.Lays.n105 Tryz.prog Tryz.lays105_ren := {
  mixed := by kernel_rfl
  f99 := Tryz.func179.trans (congrArg some (by kernel_rfl))
  f105 := Tryz.func167.trans (congrArg some (by kernel_rfl))
  f165 := Tryz.func225.trans (congrArg some (by kernel_rfl))
  f166 := Tryz.func37.trans (congrArg some (by kernel_rfl))
  f169 := Tryz.func39.trans (congrArg some (by kernel_rfl))
  f170 := Tryz.func226.trans (congrArg some (by kernel_rfl))
  f206 := Tryz.func233.trans (congrArg some (by kernel_rfl))
  f212 := Tryz.func224.trans (congrArg some (by kernel_rfl))
  f240 := Tryz.func53.trans (congrArg some (by kernel_rfl))
  f241 := Tryz.func256.trans (congrArg some (by kernel_rfl))
  f263 := Tryz.func254.trans (congrArg some (by kernel_rfl))
  f264 := Tryz.func255.trans (congrArg some (by kernel_rfl))
  f276 := Tryz.func76.trans (congrArg some (by kernel_rfl))
  f277 := Tryz.func268.trans (congrArg some (by kernel_rfl))
  t0 := Tryz.underlying0
  a0 := Tryz.isAgg0
  z0 := Tryz.sizeOf0
  v0 := Tryz.zeroValue0
  t3 := Tryz.underlying3
  a3 := Tryz.isAgg3
  z3 := Tryz.sizeOf3
  v3 := Tryz.zeroValue3
  t4 := Tryz.underlying4
  a4 := Tryz.isAgg4
  z4 := Tryz.sizeOf4
  v4 := Tryz.zeroValue4
  t5 := Tryz.underlying5
  a5 := Tryz.isAgg5
  z5 := Tryz.sizeOf5
  v5 := Tryz.zeroValue5
  t9 := Tryz.underlying9
  a9 := Tryz.isAgg9
  z9 := Tryz.sizeOf9
  v9 := Tryz.zeroValue9
  t20 := Tryz.underlying20
  a20 := Tryz.isAgg20
  z20 := Tryz.sizeOf20
  v20 := Tryz.zeroValue20
  t37 := Tryz.underlying42
  a37 := Tryz.isAgg42
  z37 := Tryz.sizeOf42
  v37 := Tryz.zeroValue42
  t46 := Tryz.underlying165
  a46 := Tryz.isAgg165
  z46 := Tryz.sizeOf165
  v46 := Tryz.zeroValue165
  t51 := Tryz.underlying201
  a51 := Tryz.isAgg201
  z51 := Tryz.sizeOf201
  v51 := Tryz.zeroValue201
  t53 := Tryz.underlying203
  a53 := Tryz.isAgg203
  z53 := Tryz.sizeOf203
  v53 := Tryz.zeroValue203
  t70 := Tryz.underlying62
  a70 := Tryz.isAgg62
  z70 := Tryz.sizeOf62
  v70 := Tryz.zeroValue62
  t72 := Tryz.underlying64
  a72 := Tryz.isAgg64
  z72 := Tryz.sizeOf64
  v72 := Tryz.zeroValue64
  t75 := Tryz.underlying66
  a75 := Tryz.isAgg66
  z75 := Tryz.sizeOf66
  v75 := Tryz.zeroValue66
  t76 := Tryz.underlying67
  a76 := Tryz.isAgg67
  z76 := Tryz.sizeOf67
  v76 := Tryz.zeroValue67
  t109 := Tryz.underlying343
  a109 := Tryz.isAgg343
  z109 := Tryz.sizeOf343
  v109 := Tryz.zeroValue343
  t127 := Tryz.underlying89
  a127 := Tryz.isAgg89
  z127 := Tryz.sizeOf89
  v127 := Tryz.zeroValue89
  t146 := Tryz.underlying371
  a146 := Tryz.isAgg371
  z146 := Tryz.sizeOf371
  v146 := Tryz.zeroValue371
  t148 := Tryz.underlying373
  a148 := Tryz.isAgg373
  z148 := Tryz.sizeOf373
  v148 := Tryz.zeroValue373
  t164 := Tryz.underlying159
  a164 := Tryz.isAgg159
  z164 := Tryz.sizeOf159
  v164 := Tryz.zeroValue159 }
theorem Tryz.Builder_Extra_105 : Builder.Extra Tryz.prog Tryz.lays105_ren := {
  sizeBuilder := by kernel_rfl
  liesBuilder := by kernel_rfl
  t5 := Tryz.underlying5
  a5 := Tryz.isAgg5
  z5 := Tryz.sizeOf5
  v5 := Tryz.zeroValue5
  infoByte := by kernel_rfl
  cellsByte := by kernel_rfl
  sizeByte := by kernel_rfl
  neB5 := by decide }
noncomputable def Tryz.laysM178_ren : Go.Shelf.Ren := ⟨fun | 178 => 308 | 251 => 312 | 252 => 313 | 181 => 315 | 184 => 316 | 290 => 317 | 324 => 319 | n => n, fun | 130 => 158 | 9 => 9 | 3 => 3 | 75 => 66 | 0 => 0 | 93 => 156 | 91 => 154 | 131 => 198 | 4 => 4 | 37 => 42 | 20 => 20 | 80 => 70 | 5 => 5 | n => n, fun | 14 => 9 | n => n⟩
theorem Tryz.laysM178 : Go.Proofs.LaysM.n178 Tryz.prog Tryz.laysM178_ren := {
  mixed := by kernel_rfl
  f178 := Tryz.func308.trans (congrArg some (by kernel_rfl))
  f181 := Tryz.func315.trans (congrArg some (by kernel_rfl))
  f184 := Tryz.func316.trans (congrArg some (by kernel_rfl))
  f251 := Tryz.func312.trans (congrArg some (by kernel_rfl))
  f252 := Tryz.func313.trans (congrArg some (by kernel_rfl))
  f290 := Tryz.func317.trans (congrArg some (by kernel_rfl))
  f324 := Tryz.func319.trans (congrArg some (by kernel_rfl))
  t0 := Tryz.underlying0
  a0 := Tryz.isAgg0
  z0 := Tryz.sizeOf0
  v0 := Tryz.zeroValue0
  t3 := Tryz.underlying3
  a3 := Tryz.isAgg3
  z3 := Tryz.sizeOf3
  v3 := Tryz.zeroValue3
  t4 := Tryz.underlying4
  a4 := Tryz.isAgg4
  z4 := Tryz.sizeOf4
  v4 := Tryz.zeroValue4
  t9 := Tryz.underlying9
  a9 := Tryz.isAgg9
  z9 := Tryz.sizeOf9
  v9 := Tryz.zeroValue9
  t20 := Tryz.underlying20
  a20 := Tryz.isAgg20
  z20 := Tryz.sizeOf20
  v20 := Tryz.zeroValue20
  t37 := Tryz.underlying42
  a37 := Tryz.isAgg42
  z37 := Tryz.sizeOf42
  v37 := Tryz.zeroValue42
  t75 := Tryz.underlying66
  a75 := Tryz.isAgg66
  z75 := Tryz.sizeOf66
  v75 := Tryz.zeroValue66
  t91 := Tryz.underlying154
  a91 := Tryz.isAgg154
  z91 := Tryz.sizeOf154
  v91 := Tryz.zeroValue154
  t93 := Tryz.underlying156
  a93 := Tryz.isAgg156
  z93 := Tryz.sizeOf156
  v93 := Tryz.zeroValue156
  t130 := Tryz.underlying158
  a130 := Tryz.isAgg158
  z130 := Tryz.sizeOf158
  v130 := Tryz.zeroValue158
  t131 := Tryz.underlying198
  a131 := Tryz.isAgg198
  z131 := Tryz.sizeOf198
  v131 := Tryz.zeroValue198
  g14 := by kernel_rfl
  t5 := Tryz.underlying5
  a5 := Tryz.isAgg5
  z5 := Tryz.sizeOf5
  v5 := Tryz.zeroValue5
  t80 := Tryz.underlying70
  a80 := Tryz.isAgg70
  z80 := Tryz.sizeOf70
  v80 := Tryz.zeroValue70
  i0 := by kernel_rfl
  i3 := by kernel_rfl
  i4 := by kernel_rfl
  i5 := by kernel_rfl
  i9 := by kernel_rfl
  i20 := by kernel_rfl
  i37 := by kernel_rfl
  i75 := by kernel_rfl
  i80 := by kernel_rfl
  i91 := by kernel_rfl
  i93 := by kernel_rfl
  i130 := by kernel_rfl
  i131 := by kernel_rfl
  m14 := by kernel_rfl }
noncomputable def Tryz.laysM179_ren : Go.Shelf.Ren := ⟨fun | 179 => 318 | 251 => 312 | 252 => 313 | 181 => 315 | 184 => 316 | 290 => 317 | 324 => 319 | n => n, fun | 130 => 158 | 5 => 5 | 75 => 66 | 0 => 0 | 93 => 156 | 91 => 154 | 3 => 3 | 131 => 198 | 4 => 4 | 37 => 42 | 20 => 20 | 80 => 70 | 9 => 9 | n => n, fun | 14 => 9 | n => n⟩
theorem Tryz.laysM179 : Go.Proofs.LaysM.n179 Tryz.prog Tryz.laysM179_ren := {
  mixed := by kernel_rfl
  f179 := Tryz.func318.trans (congrArg some (by kernel_rfl))
  f181 := Tryz.func315.trans (congrArg some (by kernel_rfl))
  f184 := Tryz.func316.trans (congrArg some (by kernel_rfl))
  f251 := Tryz.func312.trans (congrArg some (by kernel_rfl))
  f252 := Tryz.func313.trans (congrArg some (by kernel_rfl))
  f290 := Tryz.func317.trans (congrArg some (by kernel_rfl))
  f324 := Tryz.func319.trans (congrArg some (by kernel_rfl))
  t0 := Tryz.underlying0
  a0 := Tryz.isAgg0
  z0 := Tryz.sizeOf0
  v0 := Tryz.zeroValue0
  t3 := Tryz.underlying3
  a3 := Tryz.isAgg3
  z3 := Tryz.sizeOf3
  v3 := Tryz.zeroValue3
  t4 := Tryz.underlying4
  a4 := Tryz.isAgg4
  z4 := Tryz.sizeOf4
  v4 := Tryz.zeroValue4
  t5 := Tryz.underlying5
  a5 := Tryz.isAgg5
  z5 := Tryz.sizeOf5
  v5 := Tryz.zeroValue5
  t20 := Tryz.underlying20
  a20 := Tryz.isAgg20
  z20 := Tryz.sizeOf20
  v20 := Tryz.zeroValue20
  t37 := Tryz.underlying42
  a37 := Tryz.isAgg42
  z37 := Tryz.sizeOf42
  v37 := Tryz.zeroValue42
  t75 := Tryz.underlying66
  a75 := Tryz.isAgg66
  z75 := Tryz.sizeOf66
  v75 := Tryz.zeroValue66
  t91 := Tryz.underlying154
  a91 := Tryz.isAgg154
  z91 := Tryz.sizeOf154
  v91 := Tryz.zeroValue154
  t93 := Tryz.underlying156
  a93 := Tryz.isAgg156
  z93 := Tryz.sizeOf156
  v93 := Tryz.zeroValue156
  t130 := Tryz.underlying158
  a130 := Tryz.isAgg158
  z130 := Tryz.sizeOf158
  v130 := Tryz.zeroValue158
  t131 := Tryz.underlying198
  a131 := Tryz.isAgg198
  z131 := Tryz.sizeOf198
  v131 := Tryz.zeroValue198
  g14 := by kernel_rfl
  t9 := Tryz.underlying9
  a9 := Tryz.isAgg9
  z9 := Tryz.sizeOf9
  v9 := Tryz.zeroValue9
  t80 := Tryz.underlying70
  a80 := Tryz.isAgg70
  z80 := Tryz.sizeOf70
  v80 := Tryz.zeroValue70
  i0 := by kernel_rfl
  i3 := by kernel_rfl
  i4 := by kernel_rfl
  i5 := by kernel_rfl
  i9 := by kernel_rfl
  i20 := by kernel_rfl
  i37 := by kernel_rfl
  i75 := by kernel_rfl
  i80 := by kernel_rfl
  i91 := by kernel_rfl
  i93 := by kernel_rfl
  i130 := by kernel_rfl
  i131 := by kernel_rfl
  m14 := by kernel_rfl }
end Go.Proofs
/- strings.Builder's copyCheck and String at this program, with the whole world behind them told. -/
namespace Go.Proofs
open Go.Shelf Go.RowKit

theorem Tryz.lays240' : Lays.n240 Tryz.prog Tryz.lays105_ren := { Tryz.lays105 with }

theorem Tryz.copyCheck_used (b : Nat) (w : World) (h0 : w.cell? ⟨b, 0, none⟩ = some (.pointer (some ⟨b, 0, none⟩))) :
    Calls Tryz.prog 53 #[.pointer (some ⟨b, 0, none⟩)] w fun e w' => e = .returned (.tuple #[]) ∧ w' = w :=
  Any.Builder_copyCheck_used Tryz.lays240' Tryz.Builder_Extra_105.toX72 b w h0
theorem Tryz.copyCheck_fresh (b : Nat) (w : World) (h0 : w.cell? ⟨b, 0, none⟩ = some (.pointer none)) (hsh : w.shape? b = some (64, 2)) (hfz : w.frozen? ⟨b, 0, none⟩ = false) :
    Calls Tryz.prog 53 #[.pointer (some ⟨b, 0, none⟩)] w fun e w' => e = .returned (.tuple #[]) ∧ w' = w.setCell ⟨b, 0, none⟩ (.pointer (some ⟨b, 0, none⟩)) :=
  Any.Builder_copyCheck_fresh Tryz.lays240' Tryz.Builder_Extra_105.toX72 b w h0 hsh hfz

variable {P : Program} {ρ : Ren}
set_option maxHeartbeats 1000000 in
set_option maxRecDepth 100000 in
/-- String of a builder that holds bytes: they are frozen. -/
theorem str_String_row (L : Lays.n169 P ρ) (X : Builder.Extra P ρ) (b g cap : Nat) (p : Value) (cur : Array Value) (l : List UInt8) (w : World) (hbk : w.heap[b]? = some (.cells #[p, .slice (some ⟨g, 0, none⟩) l.length cap] (ρ.t 72) (0, 0)))
    (hg : w.heap[g]? = some (.cells cur (ρ.t 5) (0, 0))) (h0 : l ≠ []) (hnc : l.length ≤ cur.size) (hcap : cap ≠ 0) (hcm : l.length ≤ maxLen) (htake : cur.toList.take l.length = Lib.byteCells l) :
    Calls P (ρ.f 169) #[.pointer (some ⟨b, 0, none⟩)] w fun e w' => e = .returned (.string ⟨l.toArray⟩) ∧ w' = w.drew.freeze ⟨g, 0, none⟩ l.length := by
  have c1 : w.drew.cell? ⟨b, 1, none⟩ = some (.slice (some ⟨g, 0, none⟩) l.length cap) := by
    have : w.drew.heap[b]? = some (.cells #[p, .slice (some ⟨g, 0, none⟩) l.length cap] (ρ.t 72) (0, 0)) := hbk
    rw [Lib.cell_of_heap this]; rfl
  have hg' : w.drew.heap[g]? = some (.cells cur (ρ.t 5) (0, 0)) := hg
  have hSD : (Builtin.unsafeSliceData_ #[(ρ.t 37)] (ρ.t 127) #[.slice (some ⟨g, 0, none⟩) l.length cap]).run P w.drew = .ok (.pointer (some ⟨g, 0, none⟩)) w.drew :=
    Lib.run_unsafeSliceData_row _ _ _ _ _ _ hcap
  have hUS : (Builtin.unsafeString_ #[(ρ.t 127), (ρ.t 3)] (ρ.t 9) #[.pointer (some ⟨g, 0, none⟩), .int .i64 l.length]).run P w.drew = .ok (.string ⟨l.toArray⟩) (w.drew.freeze ⟨g, 0, none⟩ l.length) := by
    refine Lib.run_unsafeString_row w.drew (ρ.t 127) (ρ.t 3) (ρ.t 9) (ρ.t 5) L.t127 X.cellsByte g cur.size (by simp [World.shape?, hg']) l h0 hnc (by unfold maxLen at hcm; omega) ?_
    intro j x hx
    rw [Lib.addr_add, Nat.zero_add, Lib.cell_of_heap hg']
    have hj : (Lib.byteCells l)[j]? = some (.int .u8 x.toNat) := by simp [Lib.byteCells, hx]
    rw [← htake, List.getElem?_take] at hj
    split at hj
    · simpa using hj
    · cases hj
  have mixed := L.mixed
  have t72 := L.t72; have a72 := L.a72; have z72 := L.z72; have v72 := L.v72; have u72 := run_underlying L.t72
  have t70 := L.t70; have a70 := L.a70; have z70 := L.z70; have v70 := L.v70; have u70 := run_underlying L.t70
  have t37 := L.t37; have a37 := L.a37; have z37 := L.z37; have v37 := L.v37; have u37 := run_underlying L.t37
  have t127 := L.t127; have a127 := L.a127; have z127 := L.z127; have v127 := L.v127; have u127 := run_underlying L.t127
  have t3 := L.t3; have a3 := L.a3; have z3 := L.z3; have v3 := L.v3; have u3 := run_underlying L.t3
  have t9 := L.t9; have a9 := L.a9; have z9 := L.z9; have v9 := L.v9; have u9 := run_underlying L.t9
  have t5 := X.t5; have a5 := X.a5; have z5 := X.z5; have v5 := X.v5; have u5 := run_underlying X.t5
  go_enter L.f169, Body.n169_ntmps ρ
  go_wp2
  go_region_o
  all_goals (go_wp2; go_ret; exact ⟨rfl, rfl⟩)
set_option maxHeartbeats 2000000 in
set_option maxRecDepth 100000 in
/-- String of a builder that was never written. -/
theorem str_String_nil (L : Lays.n169 P ρ) (X : Builder.Extra P ρ) (b : Nat) (p : Value) (w : World) (hbk : w.heap[b]? = some (.cells #[p, .slice none 0 0] (ρ.t 72) (0, 0))) :
    Calls P (ρ.f 169) #[.pointer (some ⟨b, 0, none⟩)] w fun e w' => e = .returned (.string ⟨#[]⟩) ∧ w' = w.drew := by
  have hUS : ∀ (W : World) (q : Option Addr), (Builtin.unsafeString_ #[(ρ.t 127), (ρ.t 3)] (ρ.t 9) #[.pointer q, .int .i64 0]).run P W = .ok (.string .empty) W := fun W q => Lib.run_unsafeString_none W _ _ _ q
  have c1 : w.drew.cell? ⟨b, 1, none⟩ = some (.slice none 0 0) := by
    have : w.drew.heap[b]? = some (.cells #[p, .slice none 0 0] (ρ.t 72) (0, 0)) := hbk
    rw [Lib.cell_of_heap this]; rfl
  have hSD : (Builtin.unsafeSliceData_ #[(ρ.t 37)] (ρ.t 127) #[.slice none 0 0]).run P w.drew = .ok (.pointer none) w.drew := rfl
  have mixed := L.mixed
  have t72 := L.t72; have a72 := L.a72; have z72 := L.z72; have v72 := L.v72; have u72 := run_underlying L.t72
  have t70 := L.t70; have a70 := L.a70; have z70 := L.z70; have v70 := L.v70; have u70 := run_underlying L.t70
  have t37 := L.t37; have a37 := L.a37; have z37 := L.z37; have v37 := L.v37; have u37 := run_underlying L.t37
  have t127 := L.t127; have a127 := L.a127; have z127 := L.z127; have v127 := L.v127; have u127 := run_underlying L.t127
  have t3 := L.t3; have a3 := L.a3; have z3 := L.z3; have v3 := L.v3; have u3 := run_underlying L.t3
  have t9 := L.t9; have a9 := L.a9; have z9 := L.z9; have v9 := L.v9; have u9 := run_underlying L.t9
  have t5 := X.t5; have a5 := X.a5; have z5 := X.z5; have v5 := X.v5; have u5 := run_underlying X.t5
  go_enter L.f169, Body.n169_ntmps ρ
  go_wp2
  go_region_o
  all_goals (go_wp2; go_ret; exact ⟨rfl, rfl⟩)
end Go.Proofs
