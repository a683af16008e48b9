/- Walks: the small functions of numbers. -/
import Derived.Shelf.Strconv.Itoa0
import Derived.Shelf.Strconv.Itoa1
import Derived.Shelf.Strconv.Itoa2
import Derived.Shelf.Strconv.Itoa3
import Derived.Shelf.LaysM
import Derived.Shelf.Bytes.String
import Derived.Shelf.Bytes.BufferK
import Derived.Shelf.Bytes.WriteAny
import Derived.Shelf.Strings.Fold
import Derived.Shelf.Bits.Mul64
import Derived.Shelf.Bytes.SlSmallAll
import Derived.Test.YtghajgdiaopioaaGreatDoorProg
import Derived.Test.YtghajgdiaopioaaGreatDoorW04
set_option linter.unusedVariables false
set_option linter.unusedSimpArgs false

namespace Go.Proofs.YtghajgdiaopioaaGreatDoor
open Go.RowKit

def zCeil (u : Int) : Int := IntKind.u64.wrap (u + 3) / 4
def zFloor (u : Int) : Int := IntKind.u64.wrap u / 4
def zRound (u : Int) : Int := IntKind.u64.wrap (IntKind.u64.wrap (u + 1) + bits BinOp.and IntKind.u64 (u / 4) 1) / 4
def zNudge (u d : Int) : Int := IntKind.u64.wrap (u + IntKind.u64.wrap d)
def zLog2P10 (d : Int) : Int := wrap64 (d * 108853) / 32768
def zLog10P2 (d : Int) : Int := wrap64 (d * 78913) / 262144
def zSkew (d : Int) : Int := wrap64 (wrap64 (d * 631305) - 261663) / 2097152
def zB (b : Bool) : Int := if b then 1 else 0

theorem ceil_calls (u : Int) (w : World) : Calls Tryz.prog 182 #[.int .u64 u] w fun e w' => e = .returned (.int .u64 (zCeil u)) ∧ w = w' := by
  unfold zCeil
  go_enter Tryz.func182, Tryz.ntmps182
  go_wp2
  go_ret
  exact ⟨rfl, rfl⟩
theorem floor_calls (u : Int) (w : World) : Calls Tryz.prog 183 #[.int .u64 u] w fun e w' => e = .returned (.int .u64 (zFloor u)) ∧ w = w' := by
  unfold zFloor
  go_enter Tryz.func183, Tryz.ntmps183
  go_wp2
  go_ret
  exact ⟨rfl, rfl⟩
theorem round_calls (u : Int) (w : World) : Calls Tryz.prog 184 #[.int .u64 u] w fun e w' => e = .returned (.int .u64 (zRound u)) ∧ w = w' := by
  unfold zRound
  go_enter Tryz.func184, Tryz.ntmps184
  go_wp2
  go_ret
  exact ⟨rfl, rfl⟩
theorem nudge_calls (u d : Int) (w : World) : Calls Tryz.prog 181 #[.int .u64 u, .int .i64 d] w fun e w' => e = .returned (.int .u64 (zNudge u d)) ∧ w = w' := by
  unfold zNudge
  go_enter Tryz.func181, Tryz.ntmps181
  go_wp2
  go_ret
  exact ⟨rfl, rfl⟩
theorem log2p10_calls (d : Int) (w : World) : Calls Tryz.prog 179 #[.int .i64 d] w fun e w' => e = .returned (.int .i64 (zLog2P10 d)) ∧ w = w' := by
  unfold zLog2P10
  go_enter Tryz.func179, Tryz.ntmps179
  go_wp2
  go_ret
  exact ⟨rfl, rfl⟩
theorem log10p2_calls (d : Int) (w : World) : Calls Tryz.prog 137 #[.int .i64 d] w fun e w' => e = .returned (.int .i64 (zLog10P2 d)) ∧ w = w' := by
  unfold zLog10P2
  go_enter Tryz.func137, Tryz.ntmps137
  go_wp2
  go_ret
  exact ⟨rfl, rfl⟩
theorem skew_calls (d : Int) (w : World) : Calls Tryz.prog 177 #[.int .i64 d] w fun e w' => e = .returned (.int .i64 (zSkew d)) ∧ w = w' := by
  unfold zSkew
  go_enter Tryz.func177, Tryz.ntmps177
  go_wp2
  go_ret
  exact ⟨rfl, rfl⟩
theorem bool2_calls (b : Bool) (w : World) : Calls Tryz.prog 170 #[.bool b] w fun e w' => e = .returned (.int .u64 (zB b)) ∧ w = w' := by
  cases b
  all_goals
    go_enter Tryz.func170, Tryz.ntmps170
    go_wp2
    go_ret
    exact ⟨rfl, rfl⟩

theorem heap_setAtR {w : World} {b j : Nat} {C : Array Value} {e : TypeId} {v : Value} (h : w.heap[b]? = some (Obj.cells C e (0, 0))) : (w.setCell ⟨b, j, none⟩ v).heap[b]? = some (Obj.cells (C.setIfInBounds j v) e (0, 0)) := by
  simp only [World.setCell, Array.getElem?_modify, h]
  simp
theorem below_set3R (g : Nat) (w : World) (v0 v1 v2 : Value) : Below g w (((w.setCell ⟨g, 0, none⟩ v0).setCell ⟨g, 1, none⟩ v1).setCell ⟨g, 2, none⟩ v2) := by
  have h1 : Below g w (w.setCell ⟨g, 0, none⟩ v0) := (Below.refl g w).setCell (p := ⟨g, 0, none⟩) (Nat.le_refl g) v0
  have h2 : Below g w ((w.setCell ⟨g, 0, none⟩ v0).setCell ⟨g, 1, none⟩ v1) := h1.setCell (p := ⟨g, 1, none⟩) (Nat.le_refl g) v1
  exact h2.setCell (p := ⟨g, 2, none⟩) (Nat.le_refl g) v2
theorem prescale_calls (g i : Nat) (e p lp H L : Int) (hp : p + 348 = i) (h0 : i < 696) (w : World) (c0 c1 c2 : Value) (hg : w.heap[g]? = some (.cells #[c0, c1, c2] 246 (0, 0))) (hgt : 22 < g)
    (hH : w.cell? ⟨22, i * 2, none⟩ = some (.int .u64 H)) (hL : w.cell? ⟨22, i * 2 + 1, none⟩ = some (.int .u64 L)) :
    Calls Tryz.prog 178 #[.pointer (some ⟨g, 0, none⟩), .int .i64 e, .int .i64 p, .int .i64 lp] w fun e' w' => e' = .returned (.tuple #[]) ∧ Below g w w' ∧ w'.heap[g]? = some (.cells #[.int .u64 H, .int .u64 L, .int .i64 (wrap64 (-(wrap64 (wrap64 (e + lp) + 3))))] 246 (0, 0)) := by
  have q0 : w.cell? ⟨g, 0, none⟩ = some c0 := by simp [World.cell?, hg]
  have q1 : w.cell? ⟨g, 1, none⟩ = some c1 := by simp [World.cell?, hg]
  have q2 : w.cell? ⟨g, 2, none⟩ = some c2 := by simp [World.cell?, hg]
  have f0 : w.frozen? ⟨g, 0, none⟩ = false := by simp [World.frozen?, hg]
  have f1 : w.frozen? ⟨g, 1, none⟩ = false := by simp [World.frozen?, hg]
  have f2 : w.frozen? ⟨g, 2, none⟩ = false := by simp [World.frozen?, hg]
  have n1 : (22 = g) = False := by simp; omega
  have n2 : (g = 22) = False := by simp; omega
  go_enter Tryz.func178, Tryz.ntmps178
  go_wp2
  (try simp only [Exit.inBlock, Exit.then])
  have hb := below_set3R g w (.int .u64 H) (.int .u64 L) (.int .i64 (wrap64 (-(wrap64 (wrap64 (e + lp) + 3)))))
  have hh := heap_setAtR (j := 2) (v := Value.int .i64 (wrap64 (-(wrap64 (wrap64 (e + lp) + 3))))) (heap_setAtR (j := 1) (v := Value.int .u64 L) (heap_setAtR (j := 0) (v := Value.int .u64 H) hg))
  first | go_end0 | (refine bodyPost_ret (results_none rfl _ _ _) rfl ?_)
  all_goals exact ⟨rfl, hb, hh⟩
end Go.Proofs.YtghajgdiaopioaaGreatDoor

/- Contracts of Go's library at this program, laid by the shelf's own command (lay-shelf.mjs, lay-plain.mjs), those that are used. -/
namespace Go.Proofs
open Go.Shelf
def Tryz.lays129_ren : Go.Shelf.Ren := ⟨fun | 129 => 138 | n => n, fun | 53 => 106 | 3 => 3 | 4 => 4 | 46 => 134 | 5 => 5 | 9 => 9 | n => n, fun | n => n⟩
theorem Tryz.lays129 : Go.Proofs.Lays.n129 Tryz.prog Tryz.lays129_ren := {
  mixed := by kernel_rfl
  f129 := Tryz.func138.trans (congrArg some (by kernel_rfl))
  t3 := Tryz.underlying3
  a3 := Tryz.isAgg3
  z3 := Tryz.sizeOf3
  v3 := Tryz.zeroValue3
  t4 := Tryz.underlying4
  a4 := Tryz.isAgg4
  z4 := Tryz.sizeOf4
  v4 := Tryz.zeroValue4
  t5 := Tryz.underlying5
  a5 := Tryz.isAgg5
  z5 := Tryz.sizeOf5
  v5 := Tryz.zeroValue5
  t9 := Tryz.underlying9
  a9 := Tryz.isAgg9
  z9 := Tryz.sizeOf9
  v9 := Tryz.zeroValue9
  t46 := Tryz.underlying134
  a46 := Tryz.isAgg134
  z46 := Tryz.sizeOf134
  v46 := Tryz.zeroValue134
  t53 := Tryz.underlying106
  a53 := Tryz.isAgg106
  z53 := Tryz.sizeOf106
  v53 := Tryz.zeroValue106 }
theorem Tryz.bits_Len64 (x : Int) (w : World) (h0 : 0 ≤ x) (h1 : x ≤ 18446744073709551615) :
    Calls Tryz.prog 138 #[.int .u64 x] w fun e w' => e = .returned (.int .i64 (Lib.bitLen x.toNat)) ∧ w' = w := Any.bits_Len64 Tryz.lays129 x w h0 h1
def Tryz.laysM284_ren : Go.Shelf.Ren := ⟨fun | 284 => 125 | 129 => 138 | 317 => 137 | 318 => 139 | n => n, fun | 53 => 106 | 3 => 3 | 212 => 191 | 0 => 0 | 4 => 4 | 46 => 134 | 5 => 5 | 9 => 9 | n => n, fun | 17 => 11 | n => n⟩
theorem Tryz.laysM284 : Go.Proofs.LaysM.n284 Tryz.prog Tryz.laysM284_ren := {
  mixed := by kernel_rfl
  f129 := Tryz.func138.trans (congrArg some (by kernel_rfl))
  f284 := Tryz.func125.trans (congrArg some (by kernel_rfl))
  f317 := Tryz.func137.trans (congrArg some (by kernel_rfl))
  f318 := Tryz.func139.trans (congrArg some (by kernel_rfl))
  t0 := Tryz.underlying0
  a0 := Tryz.isAgg0
  z0 := Tryz.sizeOf0
  v0 := Tryz.zeroValue0
  t3 := Tryz.underlying3
  a3 := Tryz.isAgg3
  z3 := Tryz.sizeOf3
  v3 := Tryz.zeroValue3
  t4 := Tryz.underlying4
  a4 := Tryz.isAgg4
  z4 := Tryz.sizeOf4
  v4 := Tryz.zeroValue4
  t5 := Tryz.underlying5
  a5 := Tryz.isAgg5
  z5 := Tryz.sizeOf5
  v5 := Tryz.zeroValue5
  t9 := Tryz.underlying9
  a9 := Tryz.isAgg9
  z9 := Tryz.sizeOf9
  v9 := Tryz.zeroValue9
  t46 := Tryz.underlying134
  a46 := Tryz.isAgg134
  z46 := Tryz.sizeOf134
  v46 := Tryz.zeroValue134
  t53 := Tryz.underlying106
  a53 := Tryz.isAgg106
  z53 := Tryz.sizeOf106
  v53 := Tryz.zeroValue106
  t212 := Tryz.underlying191
  a212 := Tryz.isAgg191
  z212 := Tryz.sizeOf191
  v212 := Tryz.zeroValue191
  g17 := by kernel_rfl
  i0 := by kernel_rfl
  i3 := by kernel_rfl
  i4 := by kernel_rfl
  i5 := by kernel_rfl
  i9 := by kernel_rfl
  i46 := by kernel_rfl
  i53 := by kernel_rfl
  i212 := by kernel_rfl
  m17 := by kernel_rfl }
open Go.Lib in
theorem Tryz.internal_strconv_numDigits (u : Nat) (h1 : 1 ≤ u) (h2 : u < 18446744073709551616) (w : World) (htab : Lib.TabIs Tryz.prog w "internal/strconv.uint64pow10" .u64 Lib.pow10Tab) :
    Calls Tryz.prog 125 #[.int .u64 u] w fun e w' => e = .returned (.int .i64 (Lib.nDigits u)) ∧ w' = w := Any.internal_strconv_numDigits Tryz.laysM284 u h1 h2 w htab
def Tryz.lays285_ren : Go.Shelf.Ren := ⟨fun | 285 => 126 | n => n, fun | 37 => 92 | 53 => 106 | 3 => 3 | 4 => 4 | 51 => 181 | 9 => 9 | 5 => 5 | 0 => 0 | n => n, fun | n => n⟩
theorem Tryz.lays285 : Go.Proofs.Lays.n285 Tryz.prog Tryz.lays285_ren := {
  mixed := by kernel_rfl
  f285 := Tryz.func126.trans (congrArg some (by kernel_rfl))
  t0 := Tryz.underlying0
  a0 := Tryz.isAgg0
  z0 := Tryz.sizeOf0
  v0 := Tryz.zeroValue0
  t3 := Tryz.underlying3
  a3 := Tryz.isAgg3
  z3 := Tryz.sizeOf3
  v3 := Tryz.zeroValue3
  t4 := Tryz.underlying4
  a4 := Tryz.isAgg4
  z4 := Tryz.sizeOf4
  v4 := Tryz.zeroValue4
  t5 := Tryz.underlying5
  a5 := Tryz.isAgg5
  z5 := Tryz.sizeOf5
  v5 := Tryz.zeroValue5
  t9 := Tryz.underlying9
  a9 := Tryz.isAgg9
  z9 := Tryz.sizeOf9
  v9 := Tryz.zeroValue9
  t37 := Tryz.underlying92
  a37 := Tryz.isAgg92
  z37 := Tryz.sizeOf92
  v37 := Tryz.zeroValue92
  t51 := Tryz.underlying181
  a51 := Tryz.isAgg181
  z51 := Tryz.sizeOf181
  v51 := Tryz.zeroValue181
  t53 := Tryz.underlying106
  a53 := Tryz.isAgg106
  z53 := Tryz.sizeOf106
  v53 := Tryz.zeroValue106 }
open Go.RowKit Go.Sort Go.Lib in
theorem Tryz.internal_strconv_formatBase10 (blk off cap : Nat) (u : Nat) (d : Array UInt8) (w : World) (hH : Holds (fun (b : UInt8) => Value.int .u8 (b.toNat : Int)) w blk off d) (hu : u < 10 ^ d.size) (hu64 : u < 18446744073709551616) (hsz : d.size < 4611686018427387904) :
    Calls Tryz.prog 126 #[.slice (some ⟨blk, off, none⟩) d.size cap, .int .u64 u] w fun e w' =>
      e = .returned (.tuple #[]) ∧ ∃ (n v' : Nat) (dk : Array UInt8), w' = (putRow (fun (b : UInt8) => Value.int .u8 (b.toNat : Int)) w blk off dk).drewN n ∧ FmtInv d.size u 0 v' dk := Any.internal_strconv_formatBase10 Tryz.lays285 blk off cap u d w hH hu hu64 hsz
def Tryz.laysM171_ren : Go.Shelf.Ren := ⟨fun | 171 => 73 | 243 => 102 | 246 => 112 | 283 => 124 | 284 => 125 | 285 => 126 | 286 => 127 | 129 => 138 | 317 => 137 | 318 => 139 | 319 => 140 | 320 => 141 | 337 => 159 | 338 => 160 | n => n, fun | 3 => 3 | 9 => 9 | 2 => 2 | 4 => 4 | 171 => 166 | 0 => 0 | 53 => 106 | 37 => 92 | 5 => 5 | 173 => 169 | 212 => 191 | 51 => 181 | 20 => 20 | 213 => 192 | 46 => 134 | 232 => 205 | 233 => 257 | n => n, fun | 17 => 11 | 18 => 17 | 19 => 18 | n => n⟩
theorem Tryz.laysM171 : Go.Proofs.LaysM.n171 Tryz.prog Tryz.laysM171_ren := {
  mixed := by kernel_rfl
  f129 := Tryz.func138.trans (congrArg some (by kernel_rfl))
  f171 := Tryz.func73.trans (congrArg some (by kernel_rfl))
  f243 := Tryz.func102.trans (congrArg some (by kernel_rfl))
  f246 := Tryz.func112.trans (congrArg some (by kernel_rfl))
  f283 := Tryz.func124.trans (congrArg some (by kernel_rfl))
  f284 := Tryz.func125.trans (congrArg some (by kernel_rfl))
  f285 := Tryz.func126.trans (congrArg some (by kernel_rfl))
  f286 := Tryz.func127.trans (congrArg some (by kernel_rfl))
  f317 := Tryz.func137.trans (congrArg some (by kernel_rfl))
  f318 := Tryz.func139.trans (congrArg some (by kernel_rfl))
  f319 := Tryz.func140.trans (congrArg some (by kernel_rfl))
  f320 := Tryz.func141.trans (congrArg some (by kernel_rfl))
  f337 := Tryz.func159.trans (congrArg some (by kernel_rfl))
  f338 := Tryz.func160.trans (congrArg some (by kernel_rfl))
  t0 := Tryz.underlying0
  a0 := Tryz.isAgg0
  z0 := Tryz.sizeOf0
  v0 := Tryz.zeroValue0
  t2 := Tryz.underlying2
  a2 := Tryz.isAgg2
  z2 := Tryz.sizeOf2
  v2 := Tryz.zeroValue2
  t3 := Tryz.underlying3
  a3 := Tryz.isAgg3
  z3 := Tryz.sizeOf3
  v3 := Tryz.zeroValue3
  t4 := Tryz.underlying4
  a4 := Tryz.isAgg4
  z4 := Tryz.sizeOf4
  v4 := Tryz.zeroValue4
  t5 := Tryz.underlying5
  a5 := Tryz.isAgg5
  z5 := Tryz.sizeOf5
  v5 := Tryz.zeroValue5
  t9 := Tryz.underlying9
  a9 := Tryz.isAgg9
  z9 := Tryz.sizeOf9
  v9 := Tryz.zeroValue9
  t20 := Tryz.underlying20
  a20 := Tryz.isAgg20
  z20 := Tryz.sizeOf20
  v20 := Tryz.zeroValue20
  t37 := Tryz.underlying92
  a37 := Tryz.isAgg92
  z37 := Tryz.sizeOf92
  v37 := Tryz.zeroValue92
  t46 := Tryz.underlying134
  a46 := Tryz.isAgg134
  z46 := Tryz.sizeOf134
  v46 := Tryz.zeroValue134
  t51 := Tryz.underlying181
  a51 := Tryz.isAgg181
  z51 := Tryz.sizeOf181
  v51 := Tryz.zeroValue181
  t53 := Tryz.underlying106
  a53 := Tryz.isAgg106
  z53 := Tryz.sizeOf106
  v53 := Tryz.zeroValue106
  t171 := Tryz.underlying166
  a171 := Tryz.isAgg166
  z171 := Tryz.sizeOf166
  v171 := Tryz.zeroValue166
  t173 := Tryz.underlying169
  a173 := Tryz.isAgg169
  z173 := Tryz.sizeOf169
  v173 := Tryz.zeroValue169
  t212 := Tryz.underlying191
  a212 := Tryz.isAgg191
  z212 := Tryz.sizeOf191
  v212 := Tryz.zeroValue191
  t213 := Tryz.underlying192
  a213 := Tryz.isAgg192
  z213 := Tryz.sizeOf192
  t232 := Tryz.underlying205
  a232 := Tryz.isAgg205
  z232 := Tryz.sizeOf205
  v232 := Tryz.zeroValue205
  t233 := Tryz.underlying257
  a233 := Tryz.isAgg257
  z233 := Tryz.sizeOf257
  v233 := Tryz.zeroValue257
  g17 := by kernel_rfl
  g18 := by kernel_rfl
  g19 := by kernel_rfl
  i0 := by kernel_rfl
  i2 := by kernel_rfl
  i3 := by kernel_rfl
  i4 := by kernel_rfl
  i5 := by kernel_rfl
  i9 := by kernel_rfl
  i20 := by kernel_rfl
  i37 := by kernel_rfl
  i46 := by kernel_rfl
  i51 := by kernel_rfl
  i53 := by kernel_rfl
  i171 := by kernel_rfl
  i173 := by kernel_rfl
  i212 := by kernel_rfl
  i232 := by kernel_rfl
  i233 := by kernel_rfl
  m17 := by kernel_rfl
  m18 := by kernel_rfl
  m19 := by kernel_rfl }
open Go.RowKit Go.Sort Go.Lib in
theorem Tryz.strconv_Itoa (n : Int) (h0 : -9223372036854775808 ≤ n) (h1 : n ≤ 9223372036854775807) (w : World) (htab : Lib.TabIs Tryz.prog w "internal/strconv.uint64pow10" .u64 Lib.pow10Tab) :
    Calls Tryz.prog 73 #[.int .i64 n] w fun e w' => e = .returned (.string ⟨(Lib.itoa n).toArray⟩) ∧ ∃ k os, w' = grow (w.drewN k) os := Any.strconv_Itoa Tryz.laysM171 n h0 h1 w htab
def Tryz.lays171_ren : Go.Shelf.Ren := ⟨fun | 171 => 73 | 243 => 102 | 246 => 112 | 283 => 124 | 284 => 125 | 285 => 126 | 286 => 127 | 129 => 138 | 317 => 137 | 318 => 139 | 319 => 140 | 320 => 141 | 337 => 159 | 338 => 160 | n => n, fun | 3 => 3 | 9 => 9 | 2 => 2 | 4 => 4 | 171 => 166 | 0 => 0 | 53 => 106 | 37 => 92 | 5 => 5 | 173 => 169 | 212 => 191 | 51 => 181 | 20 => 20 | 213 => 192 | 46 => 134 | 232 => 205 | 233 => 257 | n => n, fun | 17 => 11 | 18 => 17 | 19 => 18 | n => n⟩
theorem Tryz.lays171 : Go.Proofs.Lays.n171 Tryz.prog Tryz.lays171_ren := {
  mixed := by kernel_rfl
  f129 := Tryz.func138.trans (congrArg some (by kernel_rfl))
  f171 := Tryz.func73.trans (congrArg some (by kernel_rfl))
  f243 := Tryz.func102.trans (congrArg some (by kernel_rfl))
  f246 := Tryz.func112.trans (congrArg some (by kernel_rfl))
  f283 := Tryz.func124.trans (congrArg some (by kernel_rfl))
  f284 := Tryz.func125.trans (congrArg some (by kernel_rfl))
  f285 := Tryz.func126.trans (congrArg some (by kernel_rfl))
  f286 := Tryz.func127.trans (congrArg some (by kernel_rfl))
  f317 := Tryz.func137.trans (congrArg some (by kernel_rfl))
  f318 := Tryz.func139.trans (congrArg some (by kernel_rfl))
  f319 := Tryz.func140.trans (congrArg some (by kernel_rfl))
  f320 := Tryz.func141.trans (congrArg some (by kernel_rfl))
  f337 := Tryz.func159.trans (congrArg some (by kernel_rfl))
  f338 := Tryz.func160.trans (congrArg some (by kernel_rfl))
  t0 := Tryz.underlying0
  a0 := Tryz.isAgg0
  z0 := Tryz.sizeOf0
  v0 := Tryz.zeroValue0
  t2 := Tryz.underlying2
  a2 := Tryz.isAgg2
  z2 := Tryz.sizeOf2
  v2 := Tryz.zeroValue2
  t3 := Tryz.underlying3
  a3 := Tryz.isAgg3
  z3 := Tryz.sizeOf3
  v3 := Tryz.zeroValue3
  t4 := Tryz.underlying4
  a4 := Tryz.isAgg4
  z4 := Tryz.sizeOf4
  v4 := Tryz.zeroValue4
  t5 := Tryz.underlying5
  a5 := Tryz.isAgg5
  z5 := Tryz.sizeOf5
  v5 := Tryz.zeroValue5
  t9 := Tryz.underlying9
  a9 := Tryz.isAgg9
  z9 := Tryz.sizeOf9
  v9 := Tryz.zeroValue9
  t20 := Tryz.underlying20
  a20 := Tryz.isAgg20
  z20 := Tryz.sizeOf20
  v20 := Tryz.zeroValue20
  t37 := Tryz.underlying92
  a37 := Tryz.isAgg92
  z37 := Tryz.sizeOf92
  v37 := Tryz.zeroValue92
  t46 := Tryz.underlying134
  a46 := Tryz.isAgg134
  z46 := Tryz.sizeOf134
  v46 := Tryz.zeroValue134
  t51 := Tryz.underlying181
  a51 := Tryz.isAgg181
  z51 := Tryz.sizeOf181
  v51 := Tryz.zeroValue181
  t53 := Tryz.underlying106
  a53 := Tryz.isAgg106
  z53 := Tryz.sizeOf106
  v53 := Tryz.zeroValue106
  t171 := Tryz.underlying166
  a171 := Tryz.isAgg166
  z171 := Tryz.sizeOf166
  v171 := Tryz.zeroValue166
  t173 := Tryz.underlying169
  a173 := Tryz.isAgg169
  z173 := Tryz.sizeOf169
  v173 := Tryz.zeroValue169
  t212 := Tryz.underlying191
  a212 := Tryz.isAgg191
  z212 := Tryz.sizeOf191
  v212 := Tryz.zeroValue191
  t213 := Tryz.underlying192
  a213 := Tryz.isAgg192
  z213 := Tryz.sizeOf192
  t232 := Tryz.underlying205
  a232 := Tryz.isAgg205
  z232 := Tryz.sizeOf205
  v232 := Tryz.zeroValue205
  t233 := Tryz.underlying257
  a233 := Tryz.isAgg257
  z233 := Tryz.sizeOf257
  v233 := Tryz.zeroValue257
  g17 := by kernel_rfl
  g18 := by kernel_rfl
  g19 := by kernel_rfl }
open Go.RowKit Go.Sort Go.Lib in
theorem Tryz.strconv_Itoa_small (i : Nat) (hi : i < 100) (w : World) :
    Calls Tryz.prog 73 #[.int .i64 i] w fun e w' => e = .returned (.string ⟨(Lib.decDigits i).toArray⟩) ∧ w' = w := Any.strconv_Itoa_small Tryz.lays171 i hi w
def Tryz.laysM182_ren : Go.Shelf.Ren := ⟨fun | 182 => 67 | n => n, fun | 130 => 101 | 9 => 9 | 4 => 4 | 0 => 0 | 93 => 123 | 37 => 92 | 3 => 3 | 91 => 121 | 5 => 5 | n => n, fun | n => n⟩
theorem Tryz.laysM182 : Go.Proofs.LaysM.n182 Tryz.prog Tryz.laysM182_ren := {
  mixed := by kernel_rfl
  f182 := Tryz.func67.trans (congrArg some (by kernel_rfl))
  t0 := Tryz.underlying0
  a0 := Tryz.isAgg0
  z0 := Tryz.sizeOf0
  v0 := Tryz.zeroValue0
  t3 := Tryz.underlying3
  a3 := Tryz.isAgg3
  z3 := Tryz.sizeOf3
  v3 := Tryz.zeroValue3
  t4 := Tryz.underlying4
  a4 := Tryz.isAgg4
  z4 := Tryz.sizeOf4
  v4 := Tryz.zeroValue4
  t9 := Tryz.underlying9
  a9 := Tryz.isAgg9
  z9 := Tryz.sizeOf9
  v9 := Tryz.zeroValue9
  t37 := Tryz.underlying92
  a37 := Tryz.isAgg92
  z37 := Tryz.sizeOf92
  v37 := Tryz.zeroValue92
  t93 := Tryz.underlying123
  a93 := Tryz.isAgg123
  z93 := Tryz.sizeOf123
  v93 := Tryz.zeroValue123
  t130 := Tryz.underlying101
  a130 := Tryz.isAgg101
  z130 := Tryz.sizeOf101
  v130 := Tryz.zeroValue101
  t5 := Tryz.underlying5
  a5 := Tryz.isAgg5
  z5 := Tryz.sizeOf5
  v5 := Tryz.zeroValue5
  t91 := Tryz.underlying121
  a91 := Tryz.isAgg121
  z91 := Tryz.sizeOf121
  v91 := Tryz.zeroValue121
  i0 := by kernel_rfl
  i3 := by kernel_rfl
  i4 := by kernel_rfl
  i5 := by kernel_rfl
  i9 := by kernel_rfl
  i37 := by kernel_rfl
  i91 := by kernel_rfl
  i93 := by kernel_rfl
  i130 := by kernel_rfl }
open Go.RowKit in
theorem Tryz.Buffer_String (B b : Nat) (l : List UInt8) (w : World) (h : Lib.IsBuffer 123 5 B b (Lib.byteCells l) w) :
    Calls Tryz.prog 67 #[.pointer (some ⟨b, 0, none⟩)] w fun e w' => e = .returned (.string ⟨l.toArray⟩) ∧ ∃ n, w' = w.drewN n := Any.Buffer_String Tryz.laysM182 B b l w h
def Tryz.laysM179_ren : Go.Shelf.Ren := ⟨fun | 179 => 98 | 251 => 108 | 252 => 109 | 181 => 120 | 184 => 121 | 290 => 122 | 324 => 134 | n => n, fun | 130 => 101 | 5 => 5 | 75 => 54 | 0 => 0 | 93 => 123 | 91 => 121 | 3 => 3 | 131 => 145 | 4 => 4 | 37 => 92 | 20 => 20 | 80 => 104 | 9 => 9 | n => n, fun | 14 => 8 | n => n⟩
theorem Tryz.laysM179 : Go.Proofs.LaysM.n179 Tryz.prog Tryz.laysM179_ren := {
  mixed := by kernel_rfl
  f179 := Tryz.func98.trans (congrArg some (by kernel_rfl))
  f181 := Tryz.func120.trans (congrArg some (by kernel_rfl))
  f184 := Tryz.func121.trans (congrArg some (by kernel_rfl))
  f251 := Tryz.func108.trans (congrArg some (by kernel_rfl))
  f252 := Tryz.func109.trans (congrArg some (by kernel_rfl))
  f290 := Tryz.func122.trans (congrArg some (by kernel_rfl))
  f324 := Tryz.func134.trans (congrArg some (by kernel_rfl))
  t0 := Tryz.underlying0
  a0 := Tryz.isAgg0
  z0 := Tryz.sizeOf0
  v0 := Tryz.zeroValue0
  t3 := Tryz.underlying3
  a3 := Tryz.isAgg3
  z3 := Tryz.sizeOf3
  v3 := Tryz.zeroValue3
  t4 := Tryz.underlying4
  a4 := Tryz.isAgg4
  z4 := Tryz.sizeOf4
  v4 := Tryz.zeroValue4
  t5 := Tryz.underlying5
  a5 := Tryz.isAgg5
  z5 := Tryz.sizeOf5
  v5 := Tryz.zeroValue5
  t20 := Tryz.underlying20
  a20 := Tryz.isAgg20
  z20 := Tryz.sizeOf20
  v20 := Tryz.zeroValue20
  t37 := Tryz.underlying92
  a37 := Tryz.isAgg92
  z37 := Tryz.sizeOf92
  v37 := Tryz.zeroValue92
  t75 := Tryz.underlying54
  a75 := Tryz.isAgg54
  z75 := Tryz.sizeOf54
  v75 := Tryz.zeroValue54
  t91 := Tryz.underlying121
  a91 := Tryz.isAgg121
  z91 := Tryz.sizeOf121
  v91 := Tryz.zeroValue121
  t93 := Tryz.underlying123
  a93 := Tryz.isAgg123
  z93 := Tryz.sizeOf123
  v93 := Tryz.zeroValue123
  t130 := Tryz.underlying101
  a130 := Tryz.isAgg101
  z130 := Tryz.sizeOf101
  v130 := Tryz.zeroValue101
  t131 := Tryz.underlying145
  a131 := Tryz.isAgg145
  z131 := Tryz.sizeOf145
  v131 := Tryz.zeroValue145
  g14 := by kernel_rfl
  t9 := Tryz.underlying9
  a9 := Tryz.isAgg9
  z9 := Tryz.sizeOf9
  v9 := Tryz.zeroValue9
  t80 := Tryz.underlying104
  a80 := Tryz.isAgg104
  z80 := Tryz.sizeOf104
  v80 := Tryz.zeroValue104
  i0 := by kernel_rfl
  i3 := by kernel_rfl
  i4 := by kernel_rfl
  i5 := by kernel_rfl
  i9 := by kernel_rfl
  i20 := by kernel_rfl
  i37 := by kernel_rfl
  i75 := by kernel_rfl
  i80 := by kernel_rfl
  i91 := by kernel_rfl
  i93 := by kernel_rfl
  i130 := by kernel_rfl
  i131 := by kernel_rfl
  m14 := by kernel_rfl }
def Tryz.laysM178_ren : Go.Shelf.Ren := ⟨fun | 178 => 95 | 251 => 108 | 252 => 109 | 181 => 120 | 184 => 121 | 290 => 122 | 324 => 134 | n => n, fun | 130 => 101 | 9 => 9 | 3 => 3 | 75 => 54 | 0 => 0 | 93 => 123 | 91 => 121 | 131 => 145 | 4 => 4 | 37 => 92 | 20 => 20 | 80 => 104 | 5 => 5 | n => n, fun | 14 => 8 | n => n⟩
theorem Tryz.laysM178 : Go.Proofs.LaysM.n178 Tryz.prog Tryz.laysM178_ren := {
  mixed := by kernel_rfl
  f178 := Tryz.func95.trans (congrArg some (by kernel_rfl))
  f181 := Tryz.func120.trans (congrArg some (by kernel_rfl))
  f184 := Tryz.func121.trans (congrArg some (by kernel_rfl))
  f251 := Tryz.func108.trans (congrArg some (by kernel_rfl))
  f252 := Tryz.func109.trans (congrArg some (by kernel_rfl))
  f290 := Tryz.func122.trans (congrArg some (by kernel_rfl))
  f324 := Tryz.func134.trans (congrArg some (by kernel_rfl))
  t0 := Tryz.underlying0
  a0 := Tryz.isAgg0
  z0 := Tryz.sizeOf0
  v0 := Tryz.zeroValue0
  t3 := Tryz.underlying3
  a3 := Tryz.isAgg3
  z3 := Tryz.sizeOf3
  v3 := Tryz.zeroValue3
  t4 := Tryz.underlying4
  a4 := Tryz.isAgg4
  z4 := Tryz.sizeOf4
  v4 := Tryz.zeroValue4
  t9 := Tryz.underlying9
  a9 := Tryz.isAgg9
  z9 := Tryz.sizeOf9
  v9 := Tryz.zeroValue9
  t20 := Tryz.underlying20
  a20 := Tryz.isAgg20
  z20 := Tryz.sizeOf20
  v20 := Tryz.zeroValue20
  t37 := Tryz.underlying92
  a37 := Tryz.isAgg92
  z37 := Tryz.sizeOf92
  v37 := Tryz.zeroValue92
  t75 := Tryz.underlying54
  a75 := Tryz.isAgg54
  z75 := Tryz.sizeOf54
  v75 := Tryz.zeroValue54
  t91 := Tryz.underlying121
  a91 := Tryz.isAgg121
  z91 := Tryz.sizeOf121
  v91 := Tryz.zeroValue121
  t93 := Tryz.underlying123
  a93 := Tryz.isAgg123
  z93 := Tryz.sizeOf123
  v93 := Tryz.zeroValue123
  t130 := Tryz.underlying101
  a130 := Tryz.isAgg101
  z130 := Tryz.sizeOf101
  v130 := Tryz.zeroValue101
  t131 := Tryz.underlying145
  a131 := Tryz.isAgg145
  z131 := Tryz.sizeOf145
  v131 := Tryz.zeroValue145
  g14 := by kernel_rfl
  t5 := Tryz.underlying5
  a5 := Tryz.isAgg5
  z5 := Tryz.sizeOf5
  v5 := Tryz.zeroValue5
  t80 := Tryz.underlying104
  a80 := Tryz.isAgg104
  z80 := Tryz.sizeOf104
  v80 := Tryz.zeroValue104
  i0 := by kernel_rfl
  i3 := by kernel_rfl
  i4 := by kernel_rfl
  i5 := by kernel_rfl
  i9 := by kernel_rfl
  i20 := by kernel_rfl
  i37 := by kernel_rfl
  i75 := by kernel_rfl
  i80 := by kernel_rfl
  i91 := by kernel_rfl
  i93 := by kernel_rfl
  i130 := by kernel_rfl
  i131 := by kernel_rfl
  m14 := by kernel_rfl }
def Tryz.laysM180_ren : Go.Shelf.Ren := ⟨fun | 180 => 97 | 251 => 108 | 252 => 109 | 181 => 120 | 184 => 121 | 290 => 122 | 324 => 134 | n => n, fun | 130 => 101 | 37 => 92 | 3 => 3 | 75 => 54 | 0 => 0 | 93 => 123 | 91 => 121 | 131 => 145 | 4 => 4 | 20 => 20 | 5 => 5 | 80 => 104 | 9 => 9 | n => n, fun | 14 => 8 | n => n⟩
theorem Tryz.laysM180 : Go.Proofs.LaysM.n180 Tryz.prog Tryz.laysM180_ren := {
  mixed := by kernel_rfl
  f180 := Tryz.func97.trans (congrArg some (by kernel_rfl))
  f181 := Tryz.func120.trans (congrArg some (by kernel_rfl))
  f184 := Tryz.func121.trans (congrArg some (by kernel_rfl))
  f251 := Tryz.func108.trans (congrArg some (by kernel_rfl))
  f252 := Tryz.func109.trans (congrArg some (by kernel_rfl))
  f290 := Tryz.func122.trans (congrArg some (by kernel_rfl))
  f324 := Tryz.func134.trans (congrArg some (by kernel_rfl))
  t0 := Tryz.underlying0
  a0 := Tryz.isAgg0
  z0 := Tryz.sizeOf0
  v0 := Tryz.zeroValue0
  t3 := Tryz.underlying3
  a3 := Tryz.isAgg3
  z3 := Tryz.sizeOf3
  v3 := Tryz.zeroValue3
  t4 := Tryz.underlying4
  a4 := Tryz.isAgg4
  z4 := Tryz.sizeOf4
  v4 := Tryz.zeroValue4
  t20 := Tryz.underlying20
  a20 := Tryz.isAgg20
  z20 := Tryz.sizeOf20
  v20 := Tryz.zeroValue20
  t37 := Tryz.underlying92
  a37 := Tryz.isAgg92
  z37 := Tryz.sizeOf92
  v37 := Tryz.zeroValue92
  t75 := Tryz.underlying54
  a75 := Tryz.isAgg54
  z75 := Tryz.sizeOf54
  v75 := Tryz.zeroValue54
  t91 := Tryz.underlying121
  a91 := Tryz.isAgg121
  z91 := Tryz.sizeOf121
  v91 := Tryz.zeroValue121
  t93 := Tryz.underlying123
  a93 := Tryz.isAgg123
  z93 := Tryz.sizeOf123
  v93 := Tryz.zeroValue123
  t130 := Tryz.underlying101
  a130 := Tryz.isAgg101
  z130 := Tryz.sizeOf101
  v130 := Tryz.zeroValue101
  t131 := Tryz.underlying145
  a131 := Tryz.isAgg145
  z131 := Tryz.sizeOf145
  v131 := Tryz.zeroValue145
  g14 := by kernel_rfl
  t5 := Tryz.underlying5
  a5 := Tryz.isAgg5
  z5 := Tryz.sizeOf5
  v5 := Tryz.zeroValue5
  t9 := Tryz.underlying9
  a9 := Tryz.isAgg9
  z9 := Tryz.sizeOf9
  v9 := Tryz.zeroValue9
  t80 := Tryz.underlying104
  a80 := Tryz.isAgg104
  z80 := Tryz.sizeOf104
  v80 := Tryz.zeroValue104
  i0 := by kernel_rfl
  i3 := by kernel_rfl
  i4 := by kernel_rfl
  i5 := by kernel_rfl
  i9 := by kernel_rfl
  i20 := by kernel_rfl
  i37 := by kernel_rfl
  i75 := by kernel_rfl
  i80 := by kernel_rfl
  i91 := by kernel_rfl
  i93 := by kernel_rfl
  i130 := by kernel_rfl
  i131 := by kernel_rfl
  m14 := by kernel_rfl }
open Go.RowKit in
theorem Tryz.Buffer_WriteByte_k (B b : Nat) (bs : List Value) (c : Int) (w : World) (h : Lib.IsBuffer 123 5 B b bs w) (hBw : B ≤ w.heap.size) (h1 : ∀ v ∈ bs, v.oneCell' = true) (hlim : bs.length + 1 ≤ 140737488355328) :
    Calls Tryz.prog 98 #[.pointer (some ⟨b, 0, none⟩), .int .u8 c] w fun e w' => e = .returned .nilIface ∧ Lib.IsBuffer 123 5 B b (bs ++ [.int .u8 c]) w' ∧ Below B w w' ∧ Lib.OthersKept 5 (some b) w w' := Any.Buffer_WriteByte_k Tryz.laysM179 B b bs c w h hBw h1 hlim
open Go.RowKit in
theorem Tryz.Buffer_WriteString_k (B b : Nat) (bs : List Value) (s : ByteArray) (w : World) (h : Lib.IsBuffer 123 5 B b bs w) (hBw : B ≤ w.heap.size) (h1 : ∀ v ∈ bs, v.oneCell' = true) (hlim : bs.length + s.size ≤ 140737488355328) :
    Calls Tryz.prog 95 #[.pointer (some ⟨b, 0, none⟩), .string s] w fun e w' => e = .returned (.tuple #[.int .i64 s.size, .nilIface]) ∧ Lib.IsBuffer 123 5 B b (bs ++ Lib.byteCells s.data.toList) w' ∧ Below B w w' ∧ Lib.OthersKept 5 (some b) w w' := Any.Buffer_WriteString_k Tryz.laysM178 B b bs s w h hBw h1 hlim
open Go.RowKit in
theorem Tryz.Buffer_Write_any (B b : Nat) (bs cs : List Value) (a : Addr) (n c : Nat) (w : World) (h : Lib.IsBuffer 123 5 B b bs w) (hBw : B ≤ w.heap.size) (h1 : ∀ v ∈ bs, v.oneCell' = true) (hn : cs.length = n) (hab : a.block ≠ b) (hsrc : ∀ j v, cs[j]? = some v → w.cell? (a.add j) = some v) (h1c : ∀ v ∈ cs, v.oneCell' = true) (hlim : bs.length + n ≤ 140737488355328) :
    Calls Tryz.prog 97 #[.pointer (some ⟨b, 0, none⟩), .slice (some a) n c] w fun e w' => e = .returned (.tuple #[.int .i64 n, .nilIface]) ∧ Lib.IsBuffer 123 5 B b (bs ++ cs) w' ∧ Below B w w' ∧ Lib.OthersKept 5 (some b) w w' := Any.Buffer_Write_any Tryz.laysM180 B b bs cs a n c w h hBw h1 hn hab hsrc h1c hlim
def Tryz.lays164_ren : Go.Shelf.Ren := ⟨fun | 164 => 77 | 197 => 105 | 239 => 106 | 260 => 116 | 274 => 117 | 275 => 118 | n => n, fun | 9 => 9 | 4 => 4 | 3 => 3 | 5 => 5 | 0 => 0 | 21 => 21 | 105 => 139 | 156 => 154 | 49 => 153 | 157 => 155 | 46 => 134 | 159 => 157 | 162 => 160 | 160 => 158 | 119 => 177 | 139 => 180 | 138 => 179 | 208 => 185 | 51 => 181 | 206 => 183 | n => n, fun | 11 => 5 | 12 => 6 | 13 => 7 | 3 => 9 | 4 => 10 | n => n⟩
theorem Tryz.lays164 : Go.Proofs.Lays.n164 Tryz.prog Tryz.lays164_ren := {
  mixed := by kernel_rfl
  f164 := Tryz.func77.trans (congrArg some (by kernel_rfl))
  f197 := Tryz.func105.trans (congrArg some (by kernel_rfl))
  f239 := Tryz.func106.trans (congrArg some (by kernel_rfl))
  f260 := Tryz.func116.trans (congrArg some (by kernel_rfl))
  f274 := Tryz.func117.trans (congrArg some (by kernel_rfl))
  f275 := Tryz.func118.trans (congrArg some (by kernel_rfl))
  t0 := Tryz.underlying0
  a0 := Tryz.isAgg0
  z0 := Tryz.sizeOf0
  v0 := Tryz.zeroValue0
  t3 := Tryz.underlying3
  a3 := Tryz.isAgg3
  z3 := Tryz.sizeOf3
  v3 := Tryz.zeroValue3
  t4 := Tryz.underlying4
  a4 := Tryz.isAgg4
  z4 := Tryz.sizeOf4
  v4 := Tryz.zeroValue4
  t5 := Tryz.underlying5
  a5 := Tryz.isAgg5
  z5 := Tryz.sizeOf5
  v5 := Tryz.zeroValue5
  t9 := Tryz.underlying9
  a9 := Tryz.isAgg9
  z9 := Tryz.sizeOf9
  v9 := Tryz.zeroValue9
  t21 := Tryz.underlying21
  a21 := Tryz.isAgg21
  z21 := Tryz.sizeOf21
  v21 := Tryz.zeroValue21
  t46 := Tryz.underlying134
  a46 := Tryz.isAgg134
  z46 := Tryz.sizeOf134
  v46 := Tryz.zeroValue134
  t49 := Tryz.underlying153
  a49 := Tryz.isAgg153
  z49 := Tryz.sizeOf153
  v49 := Tryz.zeroValue153
  t51 := Tryz.underlying181
  a51 := Tryz.isAgg181
  z51 := Tryz.sizeOf181
  v51 := Tryz.zeroValue181
  t105 := Tryz.underlying139
  a105 := Tryz.isAgg139
  z105 := Tryz.sizeOf139
  v105 := Tryz.zeroValue139
  t119 := Tryz.underlying177
  a119 := Tryz.isAgg177
  z119 := Tryz.sizeOf177
  t138 := Tryz.underlying179
  a138 := Tryz.isAgg179
  z138 := Tryz.sizeOf179
  v138 := Tryz.zeroValue179
  t139 := Tryz.underlying180
  a139 := Tryz.isAgg180
  z139 := Tryz.sizeOf180
  v139 := Tryz.zeroValue180
  t156 := Tryz.underlying154
  a156 := Tryz.isAgg154
  z156 := Tryz.sizeOf154
  t157 := Tryz.underlying155
  a157 := Tryz.isAgg155
  z157 := Tryz.sizeOf155
  v157 := Tryz.zeroValue155
  t159 := Tryz.underlying157
  a159 := Tryz.isAgg157
  z159 := Tryz.sizeOf157
  v159 := Tryz.zeroValue157
  t160 := Tryz.underlying158
  a160 := Tryz.isAgg158
  z160 := Tryz.sizeOf158
  v160 := Tryz.zeroValue158
  t162 := Tryz.underlying160
  a162 := Tryz.isAgg160
  z162 := Tryz.sizeOf160
  v162 := Tryz.zeroValue160
  t206 := Tryz.underlying183
  a206 := Tryz.isAgg183
  z206 := Tryz.sizeOf183
  v206 := Tryz.zeroValue183
  t208 := Tryz.underlying185
  a208 := Tryz.isAgg185
  z208 := Tryz.sizeOf185
  v208 := Tryz.zeroValue185
  g3 := by kernel_rfl
  g4 := by kernel_rfl
  g11 := by kernel_rfl
  g12 := by kernel_rfl
  g13 := by kernel_rfl }
open Go.RowKit Go.Lib in
theorem Tryz.strings_EqualFold (s t : ByteArray) (w : World) (hs : s.size < 4294967281) (has : ∀ (j : Nat) b, s.data.toList[j]? = some b → b.toNat < 128) (hat : ∀ (j : Nat) b, t.data.toList[j]? = some b → b.toNat < 128) :
    Calls Tryz.prog 77 #[.string s, .string t] w fun e w' => e = .returned (.bool (Lib.equalFold s.data.toList t.data.toList)) ∧ w' = w := Any.strings_EqualFold Tryz.lays164 s t w hs has hat
def Tryz.lays264_ren : Go.Shelf.Ren := ⟨fun | 264 => 200 | n => n, fun | 53 => 106 | 46 => 134 | n => n, fun | n => n⟩
theorem Tryz.lays264 : Go.Proofs.Lays.n264 Tryz.prog Tryz.lays264_ren := {
  mixed := by kernel_rfl
  f264 := Tryz.func200.trans (congrArg some (by kernel_rfl))
  t46 := Tryz.underlying134
  a46 := Tryz.isAgg134
  z46 := Tryz.sizeOf134
  v46 := Tryz.zeroValue134
  t53 := Tryz.underlying106
  a53 := Tryz.isAgg106
  z53 := Tryz.sizeOf106
  v53 := Tryz.zeroValue106 }
open Go.RowKit Go.Lib in
theorem Tryz.bits_Mul64 (x y : Nat) (hx : x < 18446744073709551616) (hy : y < 18446744073709551616) (w : World) :
    Calls Tryz.prog 200 #[.int .u64 x, .int .u64 y] w fun e w' => e = .returned (.tuple #[.int .u64 ((x * y / 18446744073709551616 : Nat) : Int), .int .u64 ((x * y % 18446744073709551616 : Nat) : Int)]) ∧ w' = w := Any.bits_Mul64 Tryz.lays264 x y hx hy w
def Tryz.laysnb116_ren : Go.Shelf.Ren := ⟨fun | 116 => 52 | 115 => 74 | n => n, fun | 37 => 92 | 4 => 4 | 3 => 3 | 9 => 9 | 5 => 5 | n => n, fun | n => n⟩
theorem Tryz.laysnb116 : Go.Proofs.Lays.nb116 Tryz.prog Tryz.laysnb116_ren := {
  mixed := by kernel_rfl
  f115 := Tryz.func74.trans (congrArg some (by kernel_rfl))
  f116 := Tryz.func52.trans (congrArg some (by kernel_rfl))
  t3 := Tryz.underlying3
  a3 := Tryz.isAgg3
  z3 := Tryz.sizeOf3
  v3 := Tryz.zeroValue3
  t4 := Tryz.underlying4
  a4 := Tryz.isAgg4
  z4 := Tryz.sizeOf4
  v4 := Tryz.zeroValue4
  t9 := Tryz.underlying9
  a9 := Tryz.isAgg9
  z9 := Tryz.sizeOf9
  v9 := Tryz.zeroValue9
  t37 := Tryz.underlying92
  a37 := Tryz.isAgg92
  z37 := Tryz.sizeOf92
  v37 := Tryz.zeroValue92
  t5 := Tryz.underlying5
  a5 := Tryz.isAgg5
  z5 := Tryz.sizeOf5
  v5 := Tryz.zeroValue5 }
theorem Tryz.bytes_HasPrefix_all (p1 p2 : Option Addr) (n c m d : Nat) (xs ys : List Int) (w : World) (hx : xs.length = n) (hy : ys.length = m) (hnc : n ≤ c) (h1 : Lib.BytesIn w p1 n xs) (h2 : Lib.BytesIn w p2 m ys) :
    Calls Tryz.prog 52 #[.slice p1 n c, .slice p2 m d] w fun e w' => e = .returned (.bool (Lib.hasPrefix (Lib.bytesOf xs) (Lib.bytesOf ys))) ∧ w' = w := Any.bytes_HasPrefix_all Tryz.laysnb116 p1 p2 n c m d xs ys w hx hy hnc h1 h2
end Go.Proofs
