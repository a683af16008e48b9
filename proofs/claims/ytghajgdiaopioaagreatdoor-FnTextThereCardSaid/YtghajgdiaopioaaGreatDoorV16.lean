/- Walks: a number's text with an exponent (151), way by way (printed by genFC.py E). -/
import Derived.Test.YtghajgdiaopioaaGreatDoorV10
set_option linter.unusedVariables false
set_option linter.unusedSimpArgs false

namespace Go.Proofs.YtghajgdiaopioaaGreatDoor
open Go.RowKit


set_option maxRecDepth 10000 in
set_option maxHeartbeats 2000000 in
theorem efgE_p1p1 (B0 b z e0 : Nat) (dp : Int) (c0 : UInt8) (dst : Value) (C : Array Value) (e : TypeId) (L T : List UInt8) (w : World) (hw : OutB B0 b C e w dst [] w) (hB : Bytes0 C L) (hz : z = 1) (hz30 : z ≤ 30) (hzL : z ≤ L.length) (hc0 : L[0]? = some c0) (hdp : dp - 1 = (e0 : Int)) (he : 6 ≤ e0 ∧ e0 < 10) (hT : T = [] ++ [c0] ++ [101] ++ [43] ++ xx e0) :
    Calls Tryz.prog 151 #[dst, .bool false, .slice (some ⟨b, 0, none⟩) 32 32, .int .i64 dp, .int .i64 z, .int .i64 z, .int .u8 103, .bool true] w fun e' w' => ∃ v, e' = .returned v ∧ OutB B0 b C e w v T w' := by
  obtain ⟨i0, hi, hz0, hz1, hz2⟩ := info_parts info5
  have HW0 : Hid (OutB B0 b C e w dst [] w) := Lib.hid hw
  have HBY := Lib.hid hB
  clear hw hB
  obtain ⟨l0, hl0⟩ : ∃ l : List UInt8, l = [] := ⟨_, rfl⟩
  rw [← hl0] at HW0
  have hn0 : l0.length ≤ 5 := by rw [hl0]; decide
  have HL0 := Lib.hid hl0
  clear hl0
  have q1 : decide (z < z) = false := decide_eq_false (by omega)
  have q2 : ((z : Int) != 0) = true := by rw [bne_iff_ne]; omega
  have q2' : ((z : Int) == 0) = false := by rw [beq_eq_false_iff_ne]; omega
  have HC0 := Lib.hid hc0
  have HT := Lib.hid hT
  clear hc0 hT
  obtain ⟨he1, he2⟩ := he
  have q3 : decide (dp - 1 < -4) = false := decide_eq_false (by omega)
  have q4 : decide (6 ≤ dp - 1) = true := decide_eq_true (by omega)
  have q5 : decide (dp - 1 < 0) = false := decide_eq_false (by omega)
  subst hz
  have HCELL := Lib.hid (fun (wr : World) (h : wr.heap[b]? = some (.cells C e (0, 0))) => (by
    have := HBY.out 0 c0 HC0.out
    simp [World.cell?, h, this] : wr.cell? ⟨b, 0, none⟩ = some (.int .u8 c0.toNat)))
  go_enter Tryz.func151, Tryz.ntmps151
  have hcl := HCELL.out _ HW0.out.dig
  go_wp2_with (at_builtin; refine out1 HW0 c0 (by omega) hi hz0 hz1 hz2 87 89 rfl rfl rfl rfl rfl ?_)
  intro v2 w2 l2 HL2 hn2 HW2
  go_wp2_with (at_builtin; refine out1 HW2 101 (by omega) hi hz0 hz1 hz2 120 122 rfl rfl rfl rfl rfl ?_)
  intro v5 w5 l5 HL5 hn5 HW5
  go_wp2_with (at_builtin; refine out1 HW5 43 (by omega) hi hz0 hz1 hz2 132 134 rfl rfl rfl rfl rfl ?_)
  intro v6 w6 l6 HL6 hn6 HW6
  have x1 : decide ((e0 : Int) < 10) = true := decide_eq_true (by omega)
  go_wp2_with (at_builtin; refine outN HW6 (xx e0) 2 (xx_len1 e0 (by omega)) (by omega) hi hz0 hz1 hz2 155 159 rfl rfl rfl rfl (news := [_, _]) (xx_cells1 e0 (by omega)) ?_; refine Hid.out ?_)
  refine Lib.hid ?_
  intro v7 w7 HW7
  go_wp2
  go_ret
  refine ⟨_, rfl, ?_⟩
  have h := HW7.out
  rw [HL6.out, HL5.out, HL2.out, HL0.out] at h
  rw [HT.out]
  simpa using h

set_option maxRecDepth 10000 in
set_option maxHeartbeats 2000000 in
theorem efgE_p1p2 (B0 b z e0 : Nat) (dp : Int) (c0 : UInt8) (dst : Value) (C : Array Value) (e : TypeId) (L T : List UInt8) (w : World) (hw : OutB B0 b C e w dst [] w) (hB : Bytes0 C L) (hz : z = 1) (hz30 : z ≤ 30) (hzL : z ≤ L.length) (hc0 : L[0]? = some c0) (hdp : dp - 1 = (e0 : Int)) (he : 10 ≤ e0 ∧ e0 < 100) (hT : T = [] ++ [c0] ++ [101] ++ [43] ++ xx e0) :
    Calls Tryz.prog 151 #[dst, .bool false, .slice (some ⟨b, 0, none⟩) 32 32, .int .i64 dp, .int .i64 z, .int .i64 z, .int .u8 103, .bool true] w fun e' w' => ∃ v, e' = .returned v ∧ OutB B0 b C e w v T w' := by
  obtain ⟨i0, hi, hz0, hz1, hz2⟩ := info_parts info5
  have HW0 : Hid (OutB B0 b C e w dst [] w) := Lib.hid hw
  have HBY := Lib.hid hB
  clear hw hB
  obtain ⟨l0, hl0⟩ : ∃ l : List UInt8, l = [] := ⟨_, rfl⟩
  rw [← hl0] at HW0
  have hn0 : l0.length ≤ 5 := by rw [hl0]; decide
  have HL0 := Lib.hid hl0
  clear hl0
  have q1 : decide (z < z) = false := decide_eq_false (by omega)
  have q2 : ((z : Int) != 0) = true := by rw [bne_iff_ne]; omega
  have q2' : ((z : Int) == 0) = false := by rw [beq_eq_false_iff_ne]; omega
  have HC0 := Lib.hid hc0
  have HT := Lib.hid hT
  clear hc0 hT
  obtain ⟨he1, he2⟩ := he
  have q3 : decide (dp - 1 < -4) = false := decide_eq_false (by omega)
  have q4 : decide (6 ≤ dp - 1) = true := decide_eq_true (by omega)
  have q5 : decide (dp - 1 < 0) = false := decide_eq_false (by omega)
  subst hz
  have HCELL := Lib.hid (fun (wr : World) (h : wr.heap[b]? = some (.cells C e (0, 0))) => (by
    have := HBY.out 0 c0 HC0.out
    simp [World.cell?, h, this] : wr.cell? ⟨b, 0, none⟩ = some (.int .u8 c0.toNat)))
  go_enter Tryz.func151, Tryz.ntmps151
  have hcl := HCELL.out _ HW0.out.dig
  go_wp2_with (at_builtin; refine out1 HW0 c0 (by omega) hi hz0 hz1 hz2 87 89 rfl rfl rfl rfl rfl ?_)
  intro v2 w2 l2 HL2 hn2 HW2
  go_wp2_with (at_builtin; refine out1 HW2 101 (by omega) hi hz0 hz1 hz2 120 122 rfl rfl rfl rfl rfl ?_)
  intro v5 w5 l5 HL5 hn5 HW5
  go_wp2_with (at_builtin; refine out1 HW5 43 (by omega) hi hz0 hz1 hz2 132 134 rfl rfl rfl rfl rfl ?_)
  intro v6 w6 l6 HL6 hn6 HW6
  have x1 : decide ((e0 : Int) < 10) = false := decide_eq_false (by omega)
  have x2 : decide ((e0 : Int) < 100) = true := decide_eq_true (by omega)
  go_wp2_with (at_builtin; refine outN HW6 (xx e0) 2 (xx_len2 e0 (by omega) (by omega)) (by omega) hi hz0 hz1 hz2 164 173 rfl rfl rfl rfl (news := [_, _]) (xx_cells2 e0 (by omega) (by omega)) ?_; refine Hid.out ?_)
  refine Lib.hid ?_
  intro v7 w7 HW7
  go_wp2
  go_ret
  refine ⟨_, rfl, ?_⟩
  have h := HW7.out
  rw [HL6.out, HL5.out, HL2.out, HL0.out] at h
  rw [HT.out]
  simpa using h

set_option maxRecDepth 10000 in
set_option maxHeartbeats 2000000 in
theorem efgE_p1p3 (B0 b z e0 : Nat) (dp : Int) (c0 : UInt8) (dst : Value) (C : Array Value) (e : TypeId) (L T : List UInt8) (w : World) (hw : OutB B0 b C e w dst [] w) (hB : Bytes0 C L) (hz : z = 1) (hz30 : z ≤ 30) (hzL : z ≤ L.length) (hc0 : L[0]? = some c0) (hdp : dp - 1 = (e0 : Int)) (he : 100 ≤ e0 ∧ e0 < 1000) (hT : T = [] ++ [c0] ++ [101] ++ [43] ++ xx e0) :
    Calls Tryz.prog 151 #[dst, .bool false, .slice (some ⟨b, 0, none⟩) 32 32, .int .i64 dp, .int .i64 z, .int .i64 z, .int .u8 103, .bool true] w fun e' w' => ∃ v, e' = .returned v ∧ OutB B0 b C e w v T w' := by
  obtain ⟨i0, hi, hz0, hz1, hz2⟩ := info_parts info5
  have HW0 : Hid (OutB B0 b C e w dst [] w) := Lib.hid hw
  have HBY := Lib.hid hB
  clear hw hB
  obtain ⟨l0, hl0⟩ : ∃ l : List UInt8, l = [] := ⟨_, rfl⟩
  rw [← hl0] at HW0
  have hn0 : l0.length ≤ 5 := by rw [hl0]; decide
  have HL0 := Lib.hid hl0
  clear hl0
  have q1 : decide (z < z) = false := decide_eq_false (by omega)
  have q2 : ((z : Int) != 0) = true := by rw [bne_iff_ne]; omega
  have q2' : ((z : Int) == 0) = false := by rw [beq_eq_false_iff_ne]; omega
  have HC0 := Lib.hid hc0
  have HT := Lib.hid hT
  clear hc0 hT
  obtain ⟨he1, he2⟩ := he
  have q3 : decide (dp - 1 < -4) = false := decide_eq_false (by omega)
  have q4 : decide (6 ≤ dp - 1) = true := decide_eq_true (by omega)
  have q5 : decide (dp - 1 < 0) = false := decide_eq_false (by omega)
  subst hz
  have HCELL := Lib.hid (fun (wr : World) (h : wr.heap[b]? = some (.cells C e (0, 0))) => (by
    have := HBY.out 0 c0 HC0.out
    simp [World.cell?, h, this] : wr.cell? ⟨b, 0, none⟩ = some (.int .u8 c0.toNat)))
  go_enter Tryz.func151, Tryz.ntmps151
  have hcl := HCELL.out _ HW0.out.dig
  go_wp2_with (at_builtin; refine out1 HW0 c0 (by omega) hi hz0 hz1 hz2 87 89 rfl rfl rfl rfl rfl ?_)
  intro v2 w2 l2 HL2 hn2 HW2
  go_wp2_with (at_builtin; refine out1 HW2 101 (by omega) hi hz0 hz1 hz2 120 122 rfl rfl rfl rfl rfl ?_)
  intro v5 w5 l5 HL5 hn5 HW5
  go_wp2_with (at_builtin; refine out1 HW5 43 (by omega) hi hz0 hz1 hz2 132 134 rfl rfl rfl rfl rfl ?_)
  intro v6 w6 l6 HL6 hn6 HW6
  have x1 : decide ((e0 : Int) < 10) = false := decide_eq_false (by omega)
  have x2 : decide ((e0 : Int) < 100) = false := decide_eq_false (by omega)
  go_wp2_with (at_builtin; refine outN HW6 (xx e0) 3 (xx_len3 e0 (by omega) (by omega)) (by omega) hi hz0 hz1 hz2 136 150 rfl rfl rfl rfl (news := [_, _, _]) (xx_cells3 e0 (by omega) (by omega)) ?_; refine Hid.out ?_)
  refine Lib.hid ?_
  intro v7 w7 HW7
  go_wp2
  go_ret
  refine ⟨_, rfl, ?_⟩
  have h := HW7.out
  rw [HL6.out, HL5.out, HL2.out, HL0.out] at h
  rw [HT.out]
  simpa using h

set_option maxRecDepth 10000 in
set_option maxHeartbeats 2000000 in
theorem efgE_p1n1 (B0 b z e0 : Nat) (dp : Int) (c0 : UInt8) (dst : Value) (C : Array Value) (e : TypeId) (L T : List UInt8) (w : World) (hw : OutB B0 b C e w dst [] w) (hB : Bytes0 C L) (hz : z = 1) (hz30 : z ≤ 30) (hzL : z ≤ L.length) (hc0 : L[0]? = some c0) (hdp : dp - 1 = -(e0 : Int)) (he : 5 ≤ e0 ∧ e0 < 10) (hT : T = [] ++ [c0] ++ [101] ++ [45] ++ xx e0) :
    Calls Tryz.prog 151 #[dst, .bool false, .slice (some ⟨b, 0, none⟩) 32 32, .int .i64 dp, .int .i64 z, .int .i64 z, .int .u8 103, .bool true] w fun e' w' => ∃ v, e' = .returned v ∧ OutB B0 b C e w v T w' := by
  obtain ⟨i0, hi, hz0, hz1, hz2⟩ := info_parts info5
  have HW0 : Hid (OutB B0 b C e w dst [] w) := Lib.hid hw
  have HBY := Lib.hid hB
  clear hw hB
  obtain ⟨l0, hl0⟩ : ∃ l : List UInt8, l = [] := ⟨_, rfl⟩
  rw [← hl0] at HW0
  have hn0 : l0.length ≤ 5 := by rw [hl0]; decide
  have HL0 := Lib.hid hl0
  clear hl0
  have q1 : decide (z < z) = false := decide_eq_false (by omega)
  have q2 : ((z : Int) != 0) = true := by rw [bne_iff_ne]; omega
  have q2' : ((z : Int) == 0) = false := by rw [beq_eq_false_iff_ne]; omega
  have HC0 := Lib.hid hc0
  have HT := Lib.hid hT
  clear hc0 hT
  obtain ⟨he1, he2⟩ := he
  have q3 : decide (dp - 1 < -4) = true := decide_eq_true (by omega)
  have q5 : decide (dp - 1 < 0) = true := decide_eq_true (by omega)
  subst hz
  have HCELL := Lib.hid (fun (wr : World) (h : wr.heap[b]? = some (.cells C e (0, 0))) => (by
    have := HBY.out 0 c0 HC0.out
    simp [World.cell?, h, this] : wr.cell? ⟨b, 0, none⟩ = some (.int .u8 c0.toNat)))
  go_enter Tryz.func151, Tryz.ntmps151
  have hcl := HCELL.out _ HW0.out.dig
  go_wp2_with (at_builtin; refine out1 HW0 c0 (by omega) hi hz0 hz1 hz2 87 89 rfl rfl rfl rfl rfl ?_)
  intro v2 w2 l2 HL2 hn2 HW2
  go_wp2_with (at_builtin; refine out1 HW2 101 (by omega) hi hz0 hz1 hz2 120 122 rfl rfl rfl rfl rfl ?_)
  intro v5 w5 l5 HL5 hn5 HW5
  go_wp2_with (at_builtin; refine out1 HW5 45 (by omega) hi hz0 hz1 hz2 132 134 rfl rfl rfl rfl rfl ?_)
  intro v6 w6 l6 HL6 hn6 HW6
  have x1 : decide ((e0 : Int) < 10) = true := decide_eq_true (by omega)
  go_wp2_with (at_builtin; refine outN HW6 (xx e0) 2 (xx_len1 e0 (by omega)) (by omega) hi hz0 hz1 hz2 155 159 rfl rfl rfl rfl (news := [_, _]) (xx_cells1 e0 (by omega)) ?_; refine Hid.out ?_)
  refine Lib.hid ?_
  intro v7 w7 HW7
  go_wp2
  go_ret
  refine ⟨_, rfl, ?_⟩
  have h := HW7.out
  rw [HL6.out, HL5.out, HL2.out, HL0.out] at h
  rw [HT.out]
  simpa using h

set_option maxRecDepth 10000 in
set_option maxHeartbeats 2000000 in
theorem efgE_p1n2 (B0 b z e0 : Nat) (dp : Int) (c0 : UInt8) (dst : Value) (C : Array Value) (e : TypeId) (L T : List UInt8) (w : World) (hw : OutB B0 b C e w dst [] w) (hB : Bytes0 C L) (hz : z = 1) (hz30 : z ≤ 30) (hzL : z ≤ L.length) (hc0 : L[0]? = some c0) (hdp : dp - 1 = -(e0 : Int)) (he : 10 ≤ e0 ∧ e0 < 100) (hT : T = [] ++ [c0] ++ [101] ++ [45] ++ xx e0) :
    Calls Tryz.prog 151 #[dst, .bool false, .slice (some ⟨b, 0, none⟩) 32 32, .int .i64 dp, .int .i64 z, .int .i64 z, .int .u8 103, .bool true] w fun e' w' => ∃ v, e' = .returned v ∧ OutB B0 b C e w v T w' := by
  obtain ⟨i0, hi, hz0, hz1, hz2⟩ := info_parts info5
  have HW0 : Hid (OutB B0 b C e w dst [] w) := Lib.hid hw
  have HBY := Lib.hid hB
  clear hw hB
  obtain ⟨l0, hl0⟩ : ∃ l : List UInt8, l = [] := ⟨_, rfl⟩
  rw [← hl0] at HW0
  have hn0 : l0.length ≤ 5 := by rw [hl0]; decide
  have HL0 := Lib.hid hl0
  clear hl0
  have q1 : decide (z < z) = false := decide_eq_false (by omega)
  have q2 : ((z : Int) != 0) = true := by rw [bne_iff_ne]; omega
  have q2' : ((z : Int) == 0) = false := by rw [beq_eq_false_iff_ne]; omega
  have HC0 := Lib.hid hc0
  have HT := Lib.hid hT
  clear hc0 hT
  obtain ⟨he1, he2⟩ := he
  have q3 : decide (dp - 1 < -4) = true := decide_eq_true (by omega)
  have q5 : decide (dp - 1 < 0) = true := decide_eq_true (by omega)
  subst hz
  have HCELL := Lib.hid (fun (wr : World) (h : wr.heap[b]? = some (.cells C e (0, 0))) => (by
    have := HBY.out 0 c0 HC0.out
    simp [World.cell?, h, this] : wr.cell? ⟨b, 0, none⟩ = some (.int .u8 c0.toNat)))
  go_enter Tryz.func151, Tryz.ntmps151
  have hcl := HCELL.out _ HW0.out.dig
  go_wp2_with (at_builtin; refine out1 HW0 c0 (by omega) hi hz0 hz1 hz2 87 89 rfl rfl rfl rfl rfl ?_)
  intro v2 w2 l2 HL2 hn2 HW2
  go_wp2_with (at_builtin; refine out1 HW2 101 (by omega) hi hz0 hz1 hz2 120 122 rfl rfl rfl rfl rfl ?_)
  intro v5 w5 l5 HL5 hn5 HW5
  go_wp2_with (at_builtin; refine out1 HW5 45 (by omega) hi hz0 hz1 hz2 132 134 rfl rfl rfl rfl rfl ?_)
  intro v6 w6 l6 HL6 hn6 HW6
  have x1 : decide ((e0 : Int) < 10) = false := decide_eq_false (by omega)
  have x2 : decide ((e0 : Int) < 100) = true := decide_eq_true (by omega)
  go_wp2_with (at_builtin; refine outN HW6 (xx e0) 2 (xx_len2 e0 (by omega) (by omega)) (by omega) hi hz0 hz1 hz2 164 173 rfl rfl rfl rfl (news := [_, _]) (xx_cells2 e0 (by omega) (by omega)) ?_; refine Hid.out ?_)
  refine Lib.hid ?_
  intro v7 w7 HW7
  go_wp2
  go_ret
  refine ⟨_, rfl, ?_⟩
  have h := HW7.out
  rw [HL6.out, HL5.out, HL2.out, HL0.out] at h
  rw [HT.out]
  simpa using h

set_option maxRecDepth 10000 in
set_option maxHeartbeats 2000000 in
theorem efgE_p1n3 (B0 b z e0 : Nat) (dp : Int) (c0 : UInt8) (dst : Value) (C : Array Value) (e : TypeId) (L T : List UInt8) (w : World) (hw : OutB B0 b C e w dst [] w) (hB : Bytes0 C L) (hz : z = 1) (hz30 : z ≤ 30) (hzL : z ≤ L.length) (hc0 : L[0]? = some c0) (hdp : dp - 1 = -(e0 : Int)) (he : 100 ≤ e0 ∧ e0 < 1000) (hT : T = [] ++ [c0] ++ [101] ++ [45] ++ xx e0) :
    Calls Tryz.prog 151 #[dst, .bool false, .slice (some ⟨b, 0, none⟩) 32 32, .int .i64 dp, .int .i64 z, .int .i64 z, .int .u8 103, .bool true] w fun e' w' => ∃ v, e' = .returned v ∧ OutB B0 b C e w v T w' := by
  obtain ⟨i0, hi, hz0, hz1, hz2⟩ := info_parts info5
  have HW0 : Hid (OutB B0 b C e w dst [] w) := Lib.hid hw
  have HBY := Lib.hid hB
  clear hw hB
  obtain ⟨l0, hl0⟩ : ∃ l : List UInt8, l = [] := ⟨_, rfl⟩
  rw [← hl0] at HW0
  have hn0 : l0.length ≤ 5 := by rw [hl0]; decide
  have HL0 := Lib.hid hl0
  clear hl0
  have q1 : decide (z < z) = false := decide_eq_false (by omega)
  have q2 : ((z : Int) != 0) = true := by rw [bne_iff_ne]; omega
  have q2' : ((z : Int) == 0) = false := by rw [beq_eq_false_iff_ne]; omega
  have HC0 := Lib.hid hc0
  have HT := Lib.hid hT
  clear hc0 hT
  obtain ⟨he1, he2⟩ := he
  have q3 : decide (dp - 1 < -4) = true := decide_eq_true (by omega)
  have q5 : decide (dp - 1 < 0) = true := decide_eq_true (by omega)
  subst hz
  have HCELL := Lib.hid (fun (wr : World) (h : wr.heap[b]? = some (.cells C e (0, 0))) => (by
    have := HBY.out 0 c0 HC0.out
    simp [World.cell?, h, this] : wr.cell? ⟨b, 0, none⟩ = some (.int .u8 c0.toNat)))
  go_enter Tryz.func151, Tryz.ntmps151
  have hcl := HCELL.out _ HW0.out.dig
  go_wp2_with (at_builtin; refine out1 HW0 c0 (by omega) hi hz0 hz1 hz2 87 89 rfl rfl rfl rfl rfl ?_)
  intro v2 w2 l2 HL2 hn2 HW2
  go_wp2_with (at_builtin; refine out1 HW2 101 (by omega) hi hz0 hz1 hz2 120 122 rfl rfl rfl rfl rfl ?_)
  intro v5 w5 l5 HL5 hn5 HW5
  go_wp2_with (at_builtin; refine out1 HW5 45 (by omega) hi hz0 hz1 hz2 132 134 rfl rfl rfl rfl rfl ?_)
  intro v6 w6 l6 HL6 hn6 HW6
  have x1 : decide ((e0 : Int) < 10) = false := decide_eq_false (by omega)
  have x2 : decide ((e0 : Int) < 100) = false := decide_eq_false (by omega)
  go_wp2_with (at_builtin; refine outN HW6 (xx e0) 3 (xx_len3 e0 (by omega) (by omega)) (by omega) hi hz0 hz1 hz2 136 150 rfl rfl rfl rfl (news := [_, _, _]) (xx_cells3 e0 (by omega) (by omega)) ?_; refine Hid.out ?_)
  refine Lib.hid ?_
  intro v7 w7 HW7
  go_wp2
  go_ret
  refine ⟨_, rfl, ?_⟩
  have h := HW7.out
  rw [HL6.out, HL5.out, HL2.out, HL0.out] at h
  rw [HT.out]
  simpa using h

set_option maxRecDepth 10000 in
set_option maxHeartbeats 2000000 in
theorem efgE_pmp1 (B0 b z e0 : Nat) (dp : Int) (c0 : UInt8) (dst : Value) (C : Array Value) (e : TypeId) (L T : List UInt8) (w : World) (hw : OutB B0 b C e w dst [] w) (hB : Bytes0 C L) (hz : 1 < z) (hz30 : z ≤ 30) (hzL : z ≤ L.length) (hc0 : L[0]? = some c0) (hdp : dp - 1 = (e0 : Int)) (he : 6 ≤ e0 ∧ e0 < 10) (hT : T = [] ++ [c0] ++ [46] ++ (L.take z).drop 1 ++ [101] ++ [43] ++ xx e0) :
    Calls Tryz.prog 151 #[dst, .bool false, .slice (some ⟨b, 0, none⟩) 32 32, .int .i64 dp, .int .i64 z, .int .i64 z, .int .u8 103, .bool true] w fun e' w' => ∃ v, e' = .returned v ∧ OutB B0 b C e w v T w' := by
  obtain ⟨i0, hi, hz0, hz1, hz2⟩ := info_parts info5
  have HW0 : Hid (OutB B0 b C e w dst [] w) := Lib.hid hw
  have HBY := Lib.hid hB
  clear hw hB
  obtain ⟨l0, hl0⟩ : ∃ l : List UInt8, l = [] := ⟨_, rfl⟩
  rw [← hl0] at HW0
  have hn0 : l0.length ≤ 5 := by rw [hl0]; decide
  have HL0 := Lib.hid hl0
  clear hl0
  have q1 : decide (z < z) = false := decide_eq_false (by omega)
  have q2 : ((z : Int) != 0) = true := by rw [bne_iff_ne]; omega
  have q2' : ((z : Int) == 0) = false := by rw [beq_eq_false_iff_ne]; omega
  have HC0 := Lib.hid hc0
  have HT := Lib.hid hT
  clear hc0 hT
  obtain ⟨he1, he2⟩ := he
  have q3 : decide (dp - 1 < -4) = false := decide_eq_false (by omega)
  have q4 : decide (6 ≤ dp - 1) = true := decide_eq_true (by omega)
  have q5 : decide (dp - 1 < 0) = false := decide_eq_false (by omega)
  have q6 : decide (0 < (z : Int) - 1) = true := decide_eq_true (by omega)
  have q7 : decide (1 < z) = true := decide_eq_true (by omega)
  have t2 : min (z : Int) ((z : Int) - 1 + 1) = z := by omega
  have t3 : min (z : Int) z = z := by omega
  have HCELL := Lib.hid (fun (wr : World) (h : wr.heap[b]? = some (.cells C e (0, 0))) => (by
    have := HBY.out 0 c0 HC0.out
    simp [World.cell?, h, this] : wr.cell? ⟨b, 0, none⟩ = some (.int .u8 c0.toNat)))
  go_enter Tryz.func151, Tryz.ntmps151
  have hcl := HCELL.out _ HW0.out.dig
  go_wp2_with (at_builtin; refine out1 HW0 c0 (by omega) hi hz0 hz1 hz2 87 89 rfl rfl rfl rfl rfl ?_)
  intro v2 w2 l2 HL2 hn2 HW2
  go_wp2_with (at_builtin; refine out1 HW2 46 (by omega) hi hz0 hz1 hz2 93 94 rfl rfl rfl rfl rfl ?_)
  intro v3 w3 l3 HL3 hn3 HW3
  go_wp2_with (refine wpList_sl _ rfl (.tmp 104) (.tmp 105) (.tmp 106) rfl b z rfl rfl rfl (by omega) (by omega) ?_; refine Hid.out ?_)
  refine Lib.hid ?_
  refine wpList_append_own_at _ rfl (.tmp 103) (.tmp 107) 92 rfl B0 5 i0 (.int .u8 0) 1 1 Tryz.underlying92 hi hz0 hz1 hz2 rfl (by decide) v3 l3.length (Lib.byteCells l3) rfl HW3.out.own ⟨b, 1, none⟩ (z - 1) 31 (Lib.byteCells ((L.take z).drop 1)) rfl ?_ ?_ ?_ ?_ ?_ ?_ ?_
  · unfold Lib.byteCells
    rw [List.length_map, List.length_drop, List.length_take]
    omega
  · exact cells_at HBY.out HW3.out.dig hzL
  · exact cells_one _
  · unfold maxLen; omega
  · omega
  · exact HW3.out.size
  intro v4 w4 h2 h3 _ h4
  have hd1 : ((L.take z).drop 1).length = z - 1 := by rw [List.length_drop, List.length_take]; omega
  have HW4 := Lib.hid (HW3.out.stepN ((L.take z).drop 1) (by rw [hd1]; omega) (by rw [hd1]; exact h2) h3 (by rcases h4 with h4 | h4; exact .inl h4; exact .inr ⟨_, h4, Nat.le_refl _⟩))
  obtain ⟨l4, hl4⟩ : ∃ l, l = l3 ++ (L.take z).drop 1 := ⟨_, rfl⟩
  rw [← hl4] at HW4
  have hn4 : l4.length ≤ l3.length + z := by rw [hl4, List.length_append, hd1]; omega
  have HL4 := Lib.hid hl4
  clear h2 h3 h4 hl4 hd1
  go_wp2_with fail
  go_loopg [0, 114] 0 (fun g s0 s114 wx => s0 = v4 ∧ s114 = .int .i64 0 ∧ w4 = wx)
  case atStart => exact ⟨rfl, rfl, rfl⟩
  case round =>
    obtain ⟨rfl, rfl, rfl⟩ := hrel
    have q8 : ¬ ((0 : Int) < 0) := by omega
    go_wp2_with (at_builtin; refine out1 HW4 101 (by omega) hi hz0 hz1 hz2 120 122 rfl rfl rfl rfl rfl ?_)
    intro v5 w5 l5 HL5 hn5 HW5
    go_wp2_with (at_builtin; refine out1 HW5 43 (by omega) hi hz0 hz1 hz2 132 134 rfl rfl rfl rfl rfl ?_)
    intro v6 w6 l6 HL6 hn6 HW6
    have x1 : decide ((e0 : Int) < 10) = true := decide_eq_true (by omega)
    go_wp2_with (at_builtin; refine outN HW6 (xx e0) 2 (xx_len1 e0 (by omega)) (by omega) hi hz0 hz1 hz2 155 159 rfl rfl rfl rfl (news := [_, _]) (xx_cells1 e0 (by omega)) ?_; refine Hid.out ?_)
    refine Lib.hid ?_
    intro v7 w7 HW7
    go_wp2
    go_ret
    refine ⟨_, rfl, ?_⟩
    have h := HW7.out
    rw [HL6.out, HL5.out, HL4.out, HL3.out, HL2.out, HL0.out] at h
    rw [HT.out]
    simpa using h

set_option maxRecDepth 10000 in
set_option maxHeartbeats 2000000 in
theorem efgE_pmp2 (B0 b z e0 : Nat) (dp : Int) (c0 : UInt8) (dst : Value) (C : Array Value) (e : TypeId) (L T : List UInt8) (w : World) (hw : OutB B0 b C e w dst [] w) (hB : Bytes0 C L) (hz : 1 < z) (hz30 : z ≤ 30) (hzL : z ≤ L.length) (hc0 : L[0]? = some c0) (hdp : dp - 1 = (e0 : Int)) (he : 10 ≤ e0 ∧ e0 < 100) (hT : T = [] ++ [c0] ++ [46] ++ (L.take z).drop 1 ++ [101] ++ [43] ++ xx e0) :
    Calls Tryz.prog 151 #[dst, .bool false, .slice (some ⟨b, 0, none⟩) 32 32, .int .i64 dp, .int .i64 z, .int .i64 z, .int .u8 103, .bool true] w fun e' w' => ∃ v, e' = .returned v ∧ OutB B0 b C e w v T w' := by
  obtain ⟨i0, hi, hz0, hz1, hz2⟩ := info_parts info5
  have HW0 : Hid (OutB B0 b C e w dst [] w) := Lib.hid hw
  have HBY := Lib.hid hB
  clear hw hB
  obtain ⟨l0, hl0⟩ : ∃ l : List UInt8, l = [] := ⟨_, rfl⟩
  rw [← hl0] at HW0
  have hn0 : l0.length ≤ 5 := by rw [hl0]; decide
  have HL0 := Lib.hid hl0
  clear hl0
  have q1 : decide (z < z) = false := decide_eq_false (by omega)
  have q2 : ((z : Int) != 0) = true := by rw [bne_iff_ne]; omega
  have q2' : ((z : Int) == 0) = false := by rw [beq_eq_false_iff_ne]; omega
  have HC0 := Lib.hid hc0
  have HT := Lib.hid hT
  clear hc0 hT
  obtain ⟨he1, he2⟩ := he
  have q3 : decide (dp - 1 < -4) = false := decide_eq_false (by omega)
  have q4 : decide (6 ≤ dp - 1) = true := decide_eq_true (by omega)
  have q5 : decide (dp - 1 < 0) = false := decide_eq_false (by omega)
  have q6 : decide (0 < (z : Int) - 1) = true := decide_eq_true (by omega)
  have q7 : decide (1 < z) = true := decide_eq_true (by omega)
  have t2 : min (z : Int) ((z : Int) - 1 + 1) = z := by omega
  have t3 : min (z : Int) z = z := by omega
  have HCELL := Lib.hid (fun (wr : World) (h : wr.heap[b]? = some (.cells C e (0, 0))) => (by
    have := HBY.out 0 c0 HC0.out
    simp [World.cell?, h, this] : wr.cell? ⟨b, 0, none⟩ = some (.int .u8 c0.toNat)))
  go_enter Tryz.func151, Tryz.ntmps151
  have hcl := HCELL.out _ HW0.out.dig
  go_wp2_with (at_builtin; refine out1 HW0 c0 (by omega) hi hz0 hz1 hz2 87 89 rfl rfl rfl rfl rfl ?_)
  intro v2 w2 l2 HL2 hn2 HW2
  go_wp2_with (at_builtin; refine out1 HW2 46 (by omega) hi hz0 hz1 hz2 93 94 rfl rfl rfl rfl rfl ?_)
  intro v3 w3 l3 HL3 hn3 HW3
  go_wp2_with (refine wpList_sl _ rfl (.tmp 104) (.tmp 105) (.tmp 106) rfl b z rfl rfl rfl (by omega) (by omega) ?_; refine Hid.out ?_)
  refine Lib.hid ?_
  refine wpList_append_own_at _ rfl (.tmp 103) (.tmp 107) 92 rfl B0 5 i0 (.int .u8 0) 1 1 Tryz.underlying92 hi hz0 hz1 hz2 rfl (by decide) v3 l3.length (Lib.byteCells l3) rfl HW3.out.own ⟨b, 1, none⟩ (z - 1) 31 (Lib.byteCells ((L.take z).drop 1)) rfl ?_ ?_ ?_ ?_ ?_ ?_ ?_
  · unfold Lib.byteCells
    rw [List.length_map, List.length_drop, List.length_take]
    omega
  · exact cells_at HBY.out HW3.out.dig hzL
  · exact cells_one _
  · unfold maxLen; omega
  · omega
  · exact HW3.out.size
  intro v4 w4 h2 h3 _ h4
  have hd1 : ((L.take z).drop 1).length = z - 1 := by rw [List.length_drop, List.length_take]; omega
  have HW4 := Lib.hid (HW3.out.stepN ((L.take z).drop 1) (by rw [hd1]; omega) (by rw [hd1]; exact h2) h3 (by rcases h4 with h4 | h4; exact .inl h4; exact .inr ⟨_, h4, Nat.le_refl _⟩))
  obtain ⟨l4, hl4⟩ : ∃ l, l = l3 ++ (L.take z).drop 1 := ⟨_, rfl⟩
  rw [← hl4] at HW4
  have hn4 : l4.length ≤ l3.length + z := by rw [hl4, List.length_append, hd1]; omega
  have HL4 := Lib.hid hl4
  clear h2 h3 h4 hl4 hd1
  go_wp2_with fail
  go_loopg [0, 114] 0 (fun g s0 s114 wx => s0 = v4 ∧ s114 = .int .i64 0 ∧ w4 = wx)
  case atStart => exact ⟨rfl, rfl, rfl⟩
  case round =>
    obtain ⟨rfl, rfl, rfl⟩ := hrel
    have q8 : ¬ ((0 : Int) < 0) := by omega
    go_wp2_with (at_builtin; refine out1 HW4 101 (by omega) hi hz0 hz1 hz2 120 122 rfl rfl rfl rfl rfl ?_)
    intro v5 w5 l5 HL5 hn5 HW5
    go_wp2_with (at_builtin; refine out1 HW5 43 (by omega) hi hz0 hz1 hz2 132 134 rfl rfl rfl rfl rfl ?_)
    intro v6 w6 l6 HL6 hn6 HW6
    have x1 : decide ((e0 : Int) < 10) = false := decide_eq_false (by omega)
    have x2 : decide ((e0 : Int) < 100) = true := decide_eq_true (by omega)
    go_wp2_with (at_builtin; refine outN HW6 (xx e0) 2 (xx_len2 e0 (by omega) (by omega)) (by omega) hi hz0 hz1 hz2 164 173 rfl rfl rfl rfl (news := [_, _]) (xx_cells2 e0 (by omega) (by omega)) ?_; refine Hid.out ?_)
    refine Lib.hid ?_
    intro v7 w7 HW7
    go_wp2
    go_ret
    refine ⟨_, rfl, ?_⟩
    have h := HW7.out
    rw [HL6.out, HL5.out, HL4.out, HL3.out, HL2.out, HL0.out] at h
    rw [HT.out]
    simpa using h

set_option maxRecDepth 10000 in
set_option maxHeartbeats 2000000 in
theorem efgE_pmp3 (B0 b z e0 : Nat) (dp : Int) (c0 : UInt8) (dst : Value) (C : Array Value) (e : TypeId) (L T : List UInt8) (w : World) (hw : OutB B0 b C e w dst [] w) (hB : Bytes0 C L) (hz : 1 < z) (hz30 : z ≤ 30) (hzL : z ≤ L.length) (hc0 : L[0]? = some c0) (hdp : dp - 1 = (e0 : Int)) (he : 100 ≤ e0 ∧ e0 < 1000) (hT : T = [] ++ [c0] ++ [46] ++ (L.take z).drop 1 ++ [101] ++ [43] ++ xx e0) :
    Calls Tryz.prog 151 #[dst, .bool false, .slice (some ⟨b, 0, none⟩) 32 32, .int .i64 dp, .int .i64 z, .int .i64 z, .int .u8 103, .bool true] w fun e' w' => ∃ v, e' = .returned v ∧ OutB B0 b C e w v T w' := by
  obtain ⟨i0, hi, hz0, hz1, hz2⟩ := info_parts info5
  have HW0 : Hid (OutB B0 b C e w dst [] w) := Lib.hid hw
  have HBY := Lib.hid hB
  clear hw hB
  obtain ⟨l0, hl0⟩ : ∃ l : List UInt8, l = [] := ⟨_, rfl⟩
  rw [← hl0] at HW0
  have hn0 : l0.length ≤ 5 := by rw [hl0]; decide
  have HL0 := Lib.hid hl0
  clear hl0
  have q1 : decide (z < z) = false := decide_eq_false (by omega)
  have q2 : ((z : Int) != 0) = true := by rw [bne_iff_ne]; omega
  have q2' : ((z : Int) == 0) = false := by rw [beq_eq_false_iff_ne]; omega
  have HC0 := Lib.hid hc0
  have HT := Lib.hid hT
  clear hc0 hT
  obtain ⟨he1, he2⟩ := he
  have q3 : decide (dp - 1 < -4) = false := decide_eq_false (by omega)
  have q4 : decide (6 ≤ dp - 1) = true := decide_eq_true (by omega)
  have q5 : decide (dp - 1 < 0) = false := decide_eq_false (by omega)
  have q6 : decide (0 < (z : Int) - 1) = true := decide_eq_true (by omega)
  have q7 : decide (1 < z) = true := decide_eq_true (by omega)
  have t2 : min (z : Int) ((z : Int) - 1 + 1) = z := by omega
  have t3 : min (z : Int) z = z := by omega
  have HCELL := Lib.hid (fun (wr : World) (h : wr.heap[b]? = some (.cells C e (0, 0))) => (by
    have := HBY.out 0 c0 HC0.out
    simp [World.cell?, h, this] : wr.cell? ⟨b, 0, none⟩ = some (.int .u8 c0.toNat)))
  go_enter Tryz.func151, Tryz.ntmps151
  have hcl := HCELL.out _ HW0.out.dig
  go_wp2_with (at_builtin; refine out1 HW0 c0 (by omega) hi hz0 hz1 hz2 87 89 rfl rfl rfl rfl rfl ?_)
  intro v2 w2 l2 HL2 hn2 HW2
  go_wp2_with (at_builtin; refine out1 HW2 46 (by omega) hi hz0 hz1 hz2 93 94 rfl rfl rfl rfl rfl ?_)
  intro v3 w3 l3 HL3 hn3 HW3
  go_wp2_with (refine wpList_sl _ rfl (.tmp 104) (.tmp 105) (.tmp 106) rfl b z rfl rfl rfl (by omega) (by omega) ?_; refine Hid.out ?_)
  refine Lib.hid ?_
  refine wpList_append_own_at _ rfl (.tmp 103) (.tmp 107) 92 rfl B0 5 i0 (.int .u8 0) 1 1 Tryz.underlying92 hi hz0 hz1 hz2 rfl (by decide) v3 l3.length (Lib.byteCells l3) rfl HW3.out.own ⟨b, 1, none⟩ (z - 1) 31 (Lib.byteCells ((L.take z).drop 1)) rfl ?_ ?_ ?_ ?_ ?_ ?_ ?_
  · unfold Lib.byteCells
    rw [List.length_map, List.length_drop, List.length_take]
    omega
  · exact cells_at HBY.out HW3.out.dig hzL
  · exact cells_one _
  · unfold maxLen; omega
  · omega
  · exact HW3.out.size
  intro v4 w4 h2 h3 _ h4
  have hd1 : ((L.take z).drop 1).length = z - 1 := by rw [List.length_drop, List.length_take]; omega
  have HW4 := Lib.hid (HW3.out.stepN ((L.take z).drop 1) (by rw [hd1]; omega) (by rw [hd1]; exact h2) h3 (by rcases h4 with h4 | h4; exact .inl h4; exact .inr ⟨_, h4, Nat.le_refl _⟩))
  obtain ⟨l4, hl4⟩ : ∃ l, l = l3 ++ (L.take z).drop 1 := ⟨_, rfl⟩
  rw [← hl4] at HW4
  have hn4 : l4.length ≤ l3.length + z := by rw [hl4, List.length_append, hd1]; omega
  have HL4 := Lib.hid hl4
  clear h2 h3 h4 hl4 hd1
  go_wp2_with fail
  go_loopg [0, 114] 0 (fun g s0 s114 wx => s0 = v4 ∧ s114 = .int .i64 0 ∧ w4 = wx)
  case atStart => exact ⟨rfl, rfl, rfl⟩
  case round =>
    obtain ⟨rfl, rfl, rfl⟩ := hrel
    have q8 : ¬ ((0 : Int) < 0) := by omega
    go_wp2_with (at_builtin; refine out1 HW4 101 (by omega) hi hz0 hz1 hz2 120 122 rfl rfl rfl rfl rfl ?_)
    intro v5 w5 l5 HL5 hn5 HW5
    go_wp2_with (at_builtin; refine out1 HW5 43 (by omega) hi hz0 hz1 hz2 132 134 rfl rfl rfl rfl rfl ?_)
    intro v6 w6 l6 HL6 hn6 HW6
    have x1 : decide ((e0 : Int) < 10) = false := decide_eq_false (by omega)
    have x2 : decide ((e0 : Int) < 100) = false := decide_eq_false (by omega)
    go_wp2_with (at_builtin; refine outN HW6 (xx e0) 3 (xx_len3 e0 (by omega) (by omega)) (by omega) hi hz0 hz1 hz2 136 150 rfl rfl rfl rfl (news := [_, _, _]) (xx_cells3 e0 (by omega) (by omega)) ?_; refine Hid.out ?_)
    refine Lib.hid ?_
    intro v7 w7 HW7
    go_wp2
    go_ret
    refine ⟨_, rfl, ?_⟩
    have h := HW7.out
    rw [HL6.out, HL5.out, HL4.out, HL3.out, HL2.out, HL0.out] at h
    rw [HT.out]
    simpa using h

set_option maxRecDepth 10000 in
set_option maxHeartbeats 2000000 in
theorem efgE_pmn1 (B0 b z e0 : Nat) (dp : Int) (c0 : UInt8) (dst : Value) (C : Array Value) (e : TypeId) (L T : List UInt8) (w : World) (hw : OutB B0 b C e w dst [] w) (hB : Bytes0 C L) (hz : 1 < z) (hz30 : z ≤ 30) (hzL : z ≤ L.length) (hc0 : L[0]? = some c0) (hdp : dp - 1 = -(e0 : Int)) (he : 5 ≤ e0 ∧ e0 < 10) (hT : T = [] ++ [c0] ++ [46] ++ (L.take z).drop 1 ++ [101] ++ [45] ++ xx e0) :
    Calls Tryz.prog 151 #[dst, .bool false, .slice (some ⟨b, 0, none⟩) 32 32, .int .i64 dp, .int .i64 z, .int .i64 z, .int .u8 103, .bool true] w fun e' w' => ∃ v, e' = .returned v ∧ OutB B0 b C e w v T w' := by
  obtain ⟨i0, hi, hz0, hz1, hz2⟩ := info_parts info5
  have HW0 : Hid (OutB B0 b C e w dst [] w) := Lib.hid hw
  have HBY := Lib.hid hB
  clear hw hB
  obtain ⟨l0, hl0⟩ : ∃ l : List UInt8, l = [] := ⟨_, rfl⟩
  rw [← hl0] at HW0
  have hn0 : l0.length ≤ 5 := by rw [hl0]; decide
  have HL0 := Lib.hid hl0
  clear hl0
  have q1 : decide (z < z) = false := decide_eq_false (by omega)
  have q2 : ((z : Int) != 0) = true := by rw [bne_iff_ne]; omega
  have q2' : ((z : Int) == 0) = false := by rw [beq_eq_false_iff_ne]; omega
  have HC0 := Lib.hid hc0
  have HT := Lib.hid hT
  clear hc0 hT
  obtain ⟨he1, he2⟩ := he
  have q3 : decide (dp - 1 < -4) = true := decide_eq_true (by omega)
  have q5 : decide (dp - 1 < 0) = true := decide_eq_true (by omega)
  have q6 : decide (0 < (z : Int) - 1) = true := decide_eq_true (by omega)
  have q7 : decide (1 < z) = true := decide_eq_true (by omega)
  have t2 : min (z : Int) ((z : Int) - 1 + 1) = z := by omega
  have t3 : min (z : Int) z = z := by omega
  have HCELL := Lib.hid (fun (wr : World) (h : wr.heap[b]? = some (.cells C e (0, 0))) => (by
    have := HBY.out 0 c0 HC0.out
    simp [World.cell?, h, this] : wr.cell? ⟨b, 0, none⟩ = some (.int .u8 c0.toNat)))
  go_enter Tryz.func151, Tryz.ntmps151
  have hcl := HCELL.out _ HW0.out.dig
  go_wp2_with (at_builtin; refine out1 HW0 c0 (by omega) hi hz0 hz1 hz2 87 89 rfl rfl rfl rfl rfl ?_)
  intro v2 w2 l2 HL2 hn2 HW2
  go_wp2_with (at_builtin; refine out1 HW2 46 (by omega) hi hz0 hz1 hz2 93 94 rfl rfl rfl rfl rfl ?_)
  intro v3 w3 l3 HL3 hn3 HW3
  go_wp2_with (refine wpList_sl _ rfl (.tmp 104) (.tmp 105) (.tmp 106) rfl b z rfl rfl rfl (by omega) (by omega) ?_; refine Hid.out ?_)
  refine Lib.hid ?_
  refine wpList_append_own_at _ rfl (.tmp 103) (.tmp 107) 92 rfl B0 5 i0 (.int .u8 0) 1 1 Tryz.underlying92 hi hz0 hz1 hz2 rfl (by decide) v3 l3.length (Lib.byteCells l3) rfl HW3.out.own ⟨b, 1, none⟩ (z - 1) 31 (Lib.byteCells ((L.take z).drop 1)) rfl ?_ ?_ ?_ ?_ ?_ ?_ ?_
  · unfold Lib.byteCells
    rw [List.length_map, List.length_drop, List.length_take]
    omega
  · exact cells_at HBY.out HW3.out.dig hzL
  · exact cells_one _
  · unfold maxLen; omega
  · omega
  · exact HW3.out.size
  intro v4 w4 h2 h3 _ h4
  have hd1 : ((L.take z).drop 1).length = z - 1 := by rw [List.length_drop, List.length_take]; omega
  have HW4 := Lib.hid (HW3.out.stepN ((L.take z).drop 1) (by rw [hd1]; omega) (by rw [hd1]; exact h2) h3 (by rcases h4 with h4 | h4; exact .inl h4; exact .inr ⟨_, h4, Nat.le_refl _⟩))
  obtain ⟨l4, hl4⟩ : ∃ l, l = l3 ++ (L.take z).drop 1 := ⟨_, rfl⟩
  rw [← hl4] at HW4
  have hn4 : l4.length ≤ l3.length + z := by rw [hl4, List.length_append, hd1]; omega
  have HL4 := Lib.hid hl4
  clear h2 h3 h4 hl4 hd1
  go_wp2_with fail
  go_loopg [0, 114] 0 (fun g s0 s114 wx => s0 = v4 ∧ s114 = .int .i64 0 ∧ w4 = wx)
  case atStart => exact ⟨rfl, rfl, rfl⟩
  case round =>
    obtain ⟨rfl, rfl, rfl⟩ := hrel
    have q8 : ¬ ((0 : Int) < 0) := by omega
    go_wp2_with (at_builtin; refine out1 HW4 101 (by omega) hi hz0 hz1 hz2 120 122 rfl rfl rfl rfl rfl ?_)
    intro v5 w5 l5 HL5 hn5 HW5
    go_wp2_with (at_builtin; refine out1 HW5 45 (by omega) hi hz0 hz1 hz2 132 134 rfl rfl rfl rfl rfl ?_)
    intro v6 w6 l6 HL6 hn6 HW6
    have x1 : decide ((e0 : Int) < 10) = true := decide_eq_true (by omega)
    go_wp2_with (at_builtin; refine outN HW6 (xx e0) 2 (xx_len1 e0 (by omega)) (by omega) hi hz0 hz1 hz2 155 159 rfl rfl rfl rfl (news := [_, _]) (xx_cells1 e0 (by omega)) ?_; refine Hid.out ?_)
    refine Lib.hid ?_
    intro v7 w7 HW7
    go_wp2
    go_ret
    refine ⟨_, rfl, ?_⟩
    have h := HW7.out
    rw [HL6.out, HL5.out, HL4.out, HL3.out, HL2.out, HL0.out] at h
    rw [HT.out]
    simpa using h

set_option maxRecDepth 10000 in
set_option maxHeartbeats 2000000 in
theorem efgE_pmn2 (B0 b z e0 : Nat) (dp : Int) (c0 : UInt8) (dst : Value) (C : Array Value) (e : TypeId) (L T : List UInt8) (w : World) (hw : OutB B0 b C e w dst [] w) (hB : Bytes0 C L) (hz : 1 < z) (hz30 : z ≤ 30) (hzL : z ≤ L.length) (hc0 : L[0]? = some c0) (hdp : dp - 1 = -(e0 : Int)) (he : 10 ≤ e0 ∧ e0 < 100) (hT : T = [] ++ [c0] ++ [46] ++ (L.take z).drop 1 ++ [101] ++ [45] ++ xx e0) :
    Calls Tryz.prog 151 #[dst, .bool false, .slice (some ⟨b, 0, none⟩) 32 32, .int .i64 dp, .int .i64 z, .int .i64 z, .int .u8 103, .bool true] w fun e' w' => ∃ v, e' = .returned v ∧ OutB B0 b C e w v T w' := by
  obtain ⟨i0, hi, hz0, hz1, hz2⟩ := info_parts info5
  have HW0 : Hid (OutB B0 b C e w dst [] w) := Lib.hid hw
  have HBY := Lib.hid hB
  clear hw hB
  obtain ⟨l0, hl0⟩ : ∃ l : List UInt8, l = [] := ⟨_, rfl⟩
  rw [← hl0] at HW0
  have hn0 : l0.length ≤ 5 := by rw [hl0]; decide
  have HL0 := Lib.hid hl0
  clear hl0
  have q1 : decide (z < z) = false := decide_eq_false (by omega)
  have q2 : ((z : Int) != 0) = true := by rw [bne_iff_ne]; omega
  have q2' : ((z : Int) == 0) = false := by rw [beq_eq_false_iff_ne]; omega
  have HC0 := Lib.hid hc0
  have HT := Lib.hid hT
  clear hc0 hT
  obtain ⟨he1, he2⟩ := he
  have q3 : decide (dp - 1 < -4) = true := decide_eq_true (by omega)
  have q5 : decide (dp - 1 < 0) = true := decide_eq_true (by omega)
  have q6 : decide (0 < (z : Int) - 1) = true := decide_eq_true (by omega)
  have q7 : decide (1 < z) = true := decide_eq_true (by omega)
  have t2 : min (z : Int) ((z : Int) - 1 + 1) = z := by omega
  have t3 : min (z : Int) z = z := by omega
  have HCELL := Lib.hid (fun (wr : World) (h : wr.heap[b]? = some (.cells C e (0, 0))) => (by
    have := HBY.out 0 c0 HC0.out
    simp [World.cell?, h, this] : wr.cell? ⟨b, 0, none⟩ = some (.int .u8 c0.toNat)))
  go_enter Tryz.func151, Tryz.ntmps151
  have hcl := HCELL.out _ HW0.out.dig
  go_wp2_with (at_builtin; refine out1 HW0 c0 (by omega) hi hz0 hz1 hz2 87 89 rfl rfl rfl rfl rfl ?_)
  intro v2 w2 l2 HL2 hn2 HW2
  go_wp2_with (at_builtin; refine out1 HW2 46 (by omega) hi hz0 hz1 hz2 93 94 rfl rfl rfl rfl rfl ?_)
  intro v3 w3 l3 HL3 hn3 HW3
  go_wp2_with (refine wpList_sl _ rfl (.tmp 104) (.tmp 105) (.tmp 106) rfl b z rfl rfl rfl (by omega) (by omega) ?_; refine Hid.out ?_)
  refine Lib.hid ?_
  refine wpList_append_own_at _ rfl (.tmp 103) (.tmp 107) 92 rfl B0 5 i0 (.int .u8 0) 1 1 Tryz.underlying92 hi hz0 hz1 hz2 rfl (by decide) v3 l3.length (Lib.byteCells l3) rfl HW3.out.own ⟨b, 1, none⟩ (z - 1) 31 (Lib.byteCells ((L.take z).drop 1)) rfl ?_ ?_ ?_ ?_ ?_ ?_ ?_
  · unfold Lib.byteCells
    rw [List.length_map, List.length_drop, List.length_take]
    omega
  · exact cells_at HBY.out HW3.out.dig hzL
  · exact cells_one _
  · unfold maxLen; omega
  · omega
  · exact HW3.out.size
  intro v4 w4 h2 h3 _ h4
  have hd1 : ((L.take z).drop 1).length = z - 1 := by rw [List.length_drop, List.length_take]; omega
  have HW4 := Lib.hid (HW3.out.stepN ((L.take z).drop 1) (by rw [hd1]; omega) (by rw [hd1]; exact h2) h3 (by rcases h4 with h4 | h4; exact .inl h4; exact .inr ⟨_, h4, Nat.le_refl _⟩))
  obtain ⟨l4, hl4⟩ : ∃ l, l = l3 ++ (L.take z).drop 1 := ⟨_, rfl⟩
  rw [← hl4] at HW4
  have hn4 : l4.length ≤ l3.length + z := by rw [hl4, List.length_append, hd1]; omega
  have HL4 := Lib.hid hl4
  clear h2 h3 h4 hl4 hd1
  go_wp2_with fail
  go_loopg [0, 114] 0 (fun g s0 s114 wx => s0 = v4 ∧ s114 = .int .i64 0 ∧ w4 = wx)
  case atStart => exact ⟨rfl, rfl, rfl⟩
  case round =>
    obtain ⟨rfl, rfl, rfl⟩ := hrel
    have q8 : ¬ ((0 : Int) < 0) := by omega
    go_wp2_with (at_builtin; refine out1 HW4 101 (by omega) hi hz0 hz1 hz2 120 122 rfl rfl rfl rfl rfl ?_)
    intro v5 w5 l5 HL5 hn5 HW5
    go_wp2_with (at_builtin; refine out1 HW5 45 (by omega) hi hz0 hz1 hz2 132 134 rfl rfl rfl rfl rfl ?_)
    intro v6 w6 l6 HL6 hn6 HW6
    have x1 : decide ((e0 : Int) < 10) = false := decide_eq_false (by omega)
    have x2 : decide ((e0 : Int) < 100) = true := decide_eq_true (by omega)
    go_wp2_with (at_builtin; refine outN HW6 (xx e0) 2 (xx_len2 e0 (by omega) (by omega)) (by omega) hi hz0 hz1 hz2 164 173 rfl rfl rfl rfl (news := [_, _]) (xx_cells2 e0 (by omega) (by omega)) ?_; refine Hid.out ?_)
    refine Lib.hid ?_
    intro v7 w7 HW7
    go_wp2
    go_ret
    refine ⟨_, rfl, ?_⟩
    have h := HW7.out
    rw [HL6.out, HL5.out, HL4.out, HL3.out, HL2.out, HL0.out] at h
    rw [HT.out]
    simpa using h

set_option maxRecDepth 10000 in
set_option maxHeartbeats 2000000 in
theorem efgE_pmn3 (B0 b z e0 : Nat) (dp : Int) (c0 : UInt8) (dst : Value) (C : Array Value) (e : TypeId) (L T : List UInt8) (w : World) (hw : OutB B0 b C e w dst [] w) (hB : Bytes0 C L) (hz : 1 < z) (hz30 : z ≤ 30) (hzL : z ≤ L.length) (hc0 : L[0]? = some c0) (hdp : dp - 1 = -(e0 : Int)) (he : 100 ≤ e0 ∧ e0 < 1000) (hT : T = [] ++ [c0] ++ [46] ++ (L.take z).drop 1 ++ [101] ++ [45] ++ xx e0) :
    Calls Tryz.prog 151 #[dst, .bool false, .slice (some ⟨b, 0, none⟩) 32 32, .int .i64 dp, .int .i64 z, .int .i64 z, .int .u8 103, .bool true] w fun e' w' => ∃ v, e' = .returned v ∧ OutB B0 b C e w v T w' := by
  obtain ⟨i0, hi, hz0, hz1, hz2⟩ := info_parts info5
  have HW0 : Hid (OutB B0 b C e w dst [] w) := Lib.hid hw
  have HBY := Lib.hid hB
  clear hw hB
  obtain ⟨l0, hl0⟩ : ∃ l : List UInt8, l = [] := ⟨_, rfl⟩
  rw [← hl0] at HW0
  have hn0 : l0.length ≤ 5 := by rw [hl0]; decide
  have HL0 := Lib.hid hl0
  clear hl0
  have q1 : decide (z < z) = false := decide_eq_false (by omega)
  have q2 : ((z : Int) != 0) = true := by rw [bne_iff_ne]; omega
  have q2' : ((z : Int) == 0) = false := by rw [beq_eq_false_iff_ne]; omega
  have HC0 := Lib.hid hc0
  have HT := Lib.hid hT
  clear hc0 hT
  obtain ⟨he1, he2⟩ := he
  have q3 : decide (dp - 1 < -4) = true := decide_eq_true (by omega)
  have q5 : decide (dp - 1 < 0) = true := decide_eq_true (by omega)
  have q6 : decide (0 < (z : Int) - 1) = true := decide_eq_true (by omega)
  have q7 : decide (1 < z) = true := decide_eq_true (by omega)
  have t2 : min (z : Int) ((z : Int) - 1 + 1) = z := by omega
  have t3 : min (z : Int) z = z := by omega
  have HCELL := Lib.hid (fun (wr : World) (h : wr.heap[b]? = some (.cells C e (0, 0))) => (by
    have := HBY.out 0 c0 HC0.out
    simp [World.cell?, h, this] : wr.cell? ⟨b, 0, none⟩ = some (.int .u8 c0.toNat)))
  go_enter Tryz.func151, Tryz.ntmps151
  have hcl := HCELL.out _ HW0.out.dig
  go_wp2_with (at_builtin; refine out1 HW0 c0 (by omega) hi hz0 hz1 hz2 87 89 rfl rfl rfl rfl rfl ?_)
  intro v2 w2 l2 HL2 hn2 HW2
  go_wp2_with (at_builtin; refine out1 HW2 46 (by omega) hi hz0 hz1 hz2 93 94 rfl rfl rfl rfl rfl ?_)
  intro v3 w3 l3 HL3 hn3 HW3
  go_wp2_with (refine wpList_sl _ rfl (.tmp 104) (.tmp 105) (.tmp 106) rfl b z rfl rfl rfl (by omega) (by omega) ?_; refine Hid.out ?_)
  refine Lib.hid ?_
  refine wpList_append_own_at _ rfl (.tmp 103) (.tmp 107) 92 rfl B0 5 i0 (.int .u8 0) 1 1 Tryz.underlying92 hi hz0 hz1 hz2 rfl (by decide) v3 l3.length (Lib.byteCells l3) rfl HW3.out.own ⟨b, 1, none⟩ (z - 1) 31 (Lib.byteCells ((L.take z).drop 1)) rfl ?_ ?_ ?_ ?_ ?_ ?_ ?_
  · unfold Lib.byteCells
    rw [List.length_map, List.length_drop, List.length_take]
    omega
  · exact cells_at HBY.out HW3.out.dig hzL
  · exact cells_one _
  · unfold maxLen; omega
  · omega
  · exact HW3.out.size
  intro v4 w4 h2 h3 _ h4
  have hd1 : ((L.take z).drop 1).length = z - 1 := by rw [List.length_drop, List.length_take]; omega
  have HW4 := Lib.hid (HW3.out.stepN ((L.take z).drop 1) (by rw [hd1]; omega) (by rw [hd1]; exact h2) h3 (by rcases h4 with h4 | h4; exact .inl h4; exact .inr ⟨_, h4, Nat.le_refl _⟩))
  obtain ⟨l4, hl4⟩ : ∃ l, l = l3 ++ (L.take z).drop 1 := ⟨_, rfl⟩
  rw [← hl4] at HW4
  have hn4 : l4.length ≤ l3.length + z := by rw [hl4, List.length_append, hd1]; omega
  have HL4 := Lib.hid hl4
  clear h2 h3 h4 hl4 hd1
  go_wp2_with fail
  go_loopg [0, 114] 0 (fun g s0 s114 wx => s0 = v4 ∧ s114 = .int .i64 0 ∧ w4 = wx)
  case atStart => exact ⟨rfl, rfl, rfl⟩
  case round =>
    obtain ⟨rfl, rfl, rfl⟩ := hrel
    have q8 : ¬ ((0 : Int) < 0) := by omega
    go_wp2_with (at_builtin; refine out1 HW4 101 (by omega) hi hz0 hz1 hz2 120 122 rfl rfl rfl rfl rfl ?_)
    intro v5 w5 l5 HL5 hn5 HW5
    go_wp2_with (at_builtin; refine out1 HW5 45 (by omega) hi hz0 hz1 hz2 132 134 rfl rfl rfl rfl rfl ?_)
    intro v6 w6 l6 HL6 hn6 HW6
    have x1 : decide ((e0 : Int) < 10) = false := decide_eq_false (by omega)
    have x2 : decide ((e0 : Int) < 100) = false := decide_eq_false (by omega)
    go_wp2_with (at_builtin; refine outN HW6 (xx e0) 3 (xx_len3 e0 (by omega) (by omega)) (by omega) hi hz0 hz1 hz2 136 150 rfl rfl rfl rfl (news := [_, _, _]) (xx_cells3 e0 (by omega) (by omega)) ?_; refine Hid.out ?_)
    refine Lib.hid ?_
    intro v7 w7 HW7
    go_wp2
    go_ret
    refine ⟨_, rfl, ?_⟩
    have h := HW7.out
    rw [HL6.out, HL5.out, HL4.out, HL3.out, HL2.out, HL0.out] at h
    rw [HT.out]
    simpa using h

set_option maxRecDepth 10000 in
set_option maxHeartbeats 2000000 in
theorem efgE_n1p1 (B0 b z e0 : Nat) (dp : Int) (c0 : UInt8) (dst : Value) (C : Array Value) (e : TypeId) (L T : List UInt8) (w : World) (hw : OutB B0 b C e w dst [] w) (hB : Bytes0 C L) (hz : z = 1) (hz30 : z ≤ 30) (hzL : z ≤ L.length) (hc0 : L[0]? = some c0) (hdp : dp - 1 = (e0 : Int)) (he : 6 ≤ e0 ∧ e0 < 10) (hT : T = [45] ++ [c0] ++ [101] ++ [43] ++ xx e0) :
    Calls Tryz.prog 151 #[dst, .bool true, .slice (some ⟨b, 0, none⟩) 32 32, .int .i64 dp, .int .i64 z, .int .i64 z, .int .u8 103, .bool true] w fun e' w' => ∃ v, e' = .returned v ∧ OutB B0 b C e w v T w' := by
  obtain ⟨i0, hi, hz0, hz1, hz2⟩ := info_parts info5
  have HW0 : Hid (OutB B0 b C e w dst [] w) := Lib.hid hw
  have HBY := Lib.hid hB
  clear hw hB
  obtain ⟨l0, hl0⟩ : ∃ l : List UInt8, l = [] := ⟨_, rfl⟩
  rw [← hl0] at HW0
  have hn0 : l0.length ≤ 5 := by rw [hl0]; decide
  have HL0 := Lib.hid hl0
  clear hl0
  have q1 : decide (z < z) = false := decide_eq_false (by omega)
  have q2 : ((z : Int) != 0) = true := by rw [bne_iff_ne]; omega
  have q2' : ((z : Int) == 0) = false := by rw [beq_eq_false_iff_ne]; omega
  have HC0 := Lib.hid hc0
  have HT := Lib.hid hT
  clear hc0 hT
  obtain ⟨he1, he2⟩ := he
  have q3 : decide (dp - 1 < -4) = false := decide_eq_false (by omega)
  have q4 : decide (6 ≤ dp - 1) = true := decide_eq_true (by omega)
  have q5 : decide (dp - 1 < 0) = false := decide_eq_false (by omega)
  subst hz
  have HCELL := Lib.hid (fun (wr : World) (h : wr.heap[b]? = some (.cells C e (0, 0))) => (by
    have := HBY.out 0 c0 HC0.out
    simp [World.cell?, h, this] : wr.cell? ⟨b, 0, none⟩ = some (.int .u8 c0.toNat)))
  go_enter Tryz.func151, Tryz.ntmps151
  have hcl := HCELL.out _ HW0.out.dig
  go_wp2_with (at_builtin; refine out1 HW0 45 (by omega) hi hz0 hz1 hz2 79 80 rfl rfl rfl rfl rfl ?_)
  intro v1 w1 l1 HL1 hn1 HW1
  have hcl := HCELL.out _ HW1.out.dig
  go_wp2_with (at_builtin; refine out1 HW1 c0 (by omega) hi hz0 hz1 hz2 87 89 rfl rfl rfl rfl rfl ?_)
  intro v2 w2 l2 HL2 hn2 HW2
  go_wp2_with (at_builtin; refine out1 HW2 101 (by omega) hi hz0 hz1 hz2 120 122 rfl rfl rfl rfl rfl ?_)
  intro v5 w5 l5 HL5 hn5 HW5
  go_wp2_with (at_builtin; refine out1 HW5 43 (by omega) hi hz0 hz1 hz2 132 134 rfl rfl rfl rfl rfl ?_)
  intro v6 w6 l6 HL6 hn6 HW6
  have x1 : decide ((e0 : Int) < 10) = true := decide_eq_true (by omega)
  go_wp2_with (at_builtin; refine outN HW6 (xx e0) 2 (xx_len1 e0 (by omega)) (by omega) hi hz0 hz1 hz2 155 159 rfl rfl rfl rfl (news := [_, _]) (xx_cells1 e0 (by omega)) ?_; refine Hid.out ?_)
  refine Lib.hid ?_
  intro v7 w7 HW7
  go_wp2
  go_ret
  refine ⟨_, rfl, ?_⟩
  have h := HW7.out
  rw [HL6.out, HL5.out, HL2.out, HL1.out, HL0.out] at h
  rw [HT.out]
  simpa using h

set_option maxRecDepth 10000 in
set_option maxHeartbeats 2000000 in
theorem efgE_n1p2 (B0 b z e0 : Nat) (dp : Int) (c0 : UInt8) (dst : Value) (C : Array Value) (e : TypeId) (L T : List UInt8) (w : World) (hw : OutB B0 b C e w dst [] w) (hB : Bytes0 C L) (hz : z = 1) (hz30 : z ≤ 30) (hzL : z ≤ L.length) (hc0 : L[0]? = some c0) (hdp : dp - 1 = (e0 : Int)) (he : 10 ≤ e0 ∧ e0 < 100) (hT : T = [45] ++ [c0] ++ [101] ++ [43] ++ xx e0) :
    Calls Tryz.prog 151 #[dst, .bool true, .slice (some ⟨b, 0, none⟩) 32 32, .int .i64 dp, .int .i64 z, .int .i64 z, .int .u8 103, .bool true] w fun e' w' => ∃ v, e' = .returned v ∧ OutB B0 b C e w v T w' := by
  obtain ⟨i0, hi, hz0, hz1, hz2⟩ := info_parts info5
  have HW0 : Hid (OutB B0 b C e w dst [] w) := Lib.hid hw
  have HBY := Lib.hid hB
  clear hw hB
  obtain ⟨l0, hl0⟩ : ∃ l : List UInt8, l = [] := ⟨_, rfl⟩
  rw [← hl0] at HW0
  have hn0 : l0.length ≤ 5 := by rw [hl0]; decide
  have HL0 := Lib.hid hl0
  clear hl0
  have q1 : decide (z < z) = false := decide_eq_false (by omega)
  have q2 : ((z : Int) != 0) = true := by rw [bne_iff_ne]; omega
  have q2' : ((z : Int) == 0) = false := by rw [beq_eq_false_iff_ne]; omega
  have HC0 := Lib.hid hc0
  have HT := Lib.hid hT
  clear hc0 hT
  obtain ⟨he1, he2⟩ := he
  have q3 : decide (dp - 1 < -4) = false := decide_eq_false (by omega)
  have q4 : decide (6 ≤ dp - 1) = true := decide_eq_true (by omega)
  have q5 : decide (dp - 1 < 0) = false := decide_eq_false (by omega)
  subst hz
  have HCELL := Lib.hid (fun (wr : World) (h : wr.heap[b]? = some (.cells C e (0, 0))) => (by
    have := HBY.out 0 c0 HC0.out
    simp [World.cell?, h, this] : wr.cell? ⟨b, 0, none⟩ = some (.int .u8 c0.toNat)))
  go_enter Tryz.func151, Tryz.ntmps151
  have hcl := HCELL.out _ HW0.out.dig
  go_wp2_with (at_builtin; refine out1 HW0 45 (by omega) hi hz0 hz1 hz2 79 80 rfl rfl rfl rfl rfl ?_)
  intro v1 w1 l1 HL1 hn1 HW1
  have hcl := HCELL.out _ HW1.out.dig
  go_wp2_with (at_builtin; refine out1 HW1 c0 (by omega) hi hz0 hz1 hz2 87 89 rfl rfl rfl rfl rfl ?_)
  intro v2 w2 l2 HL2 hn2 HW2
  go_wp2_with (at_builtin; refine out1 HW2 101 (by omega) hi hz0 hz1 hz2 120 122 rfl rfl rfl rfl rfl ?_)
  intro v5 w5 l5 HL5 hn5 HW5
  go_wp2_with (at_builtin; refine out1 HW5 43 (by omega) hi hz0 hz1 hz2 132 134 rfl rfl rfl rfl rfl ?_)
  intro v6 w6 l6 HL6 hn6 HW6
  have x1 : decide ((e0 : Int) < 10) = false := decide_eq_false (by omega)
  have x2 : decide ((e0 : Int) < 100) = true := decide_eq_true (by omega)
  go_wp2_with (at_builtin; refine outN HW6 (xx e0) 2 (xx_len2 e0 (by omega) (by omega)) (by omega) hi hz0 hz1 hz2 164 173 rfl rfl rfl rfl (news := [_, _]) (xx_cells2 e0 (by omega) (by omega)) ?_; refine Hid.out ?_)
  refine Lib.hid ?_
  intro v7 w7 HW7
  go_wp2
  go_ret
  refine ⟨_, rfl, ?_⟩
  have h := HW7.out
  rw [HL6.out, HL5.out, HL2.out, HL1.out, HL0.out] at h
  rw [HT.out]
  simpa using h

set_option maxRecDepth 10000 in
set_option maxHeartbeats 2000000 in
theorem efgE_n1p3 (B0 b z e0 : Nat) (dp : Int) (c0 : UInt8) (dst : Value) (C : Array Value) (e : TypeId) (L T : List UInt8) (w : World) (hw : OutB B0 b C e w dst [] w) (hB : Bytes0 C L) (hz : z = 1) (hz30 : z ≤ 30) (hzL : z ≤ L.length) (hc0 : L[0]? = some c0) (hdp : dp - 1 = (e0 : Int)) (he : 100 ≤ e0 ∧ e0 < 1000) (hT : T = [45] ++ [c0] ++ [101] ++ [43] ++ xx e0) :
    Calls Tryz.prog 151 #[dst, .bool true, .slice (some ⟨b, 0, none⟩) 32 32, .int .i64 dp, .int .i64 z, .int .i64 z, .int .u8 103, .bool true] w fun e' w' => ∃ v, e' = .returned v ∧ OutB B0 b C e w v T w' := by
  obtain ⟨i0, hi, hz0, hz1, hz2⟩ := info_parts info5
  have HW0 : Hid (OutB B0 b C e w dst [] w) := Lib.hid hw
  have HBY := Lib.hid hB
  clear hw hB
  obtain ⟨l0, hl0⟩ : ∃ l : List UInt8, l = [] := ⟨_, rfl⟩
  rw [← hl0] at HW0
  have hn0 : l0.length ≤ 5 := by rw [hl0]; decide
  have HL0 := Lib.hid hl0
  clear hl0
  have q1 : decide (z < z) = false := decide_eq_false (by omega)
  have q2 : ((z : Int) != 0) = true := by rw [bne_iff_ne]; omega
  have q2' : ((z : Int) == 0) = false := by rw [beq_eq_false_iff_ne]; omega
  have HC0 := Lib.hid hc0
  have HT := Lib.hid hT
  clear hc0 hT
  obtain ⟨he1, he2⟩ := he
  have q3 : decide (dp - 1 < -4) = false := decide_eq_false (by omega)
  have q4 : decide (6 ≤ dp - 1) = true := decide_eq_true (by omega)
  have q5 : decide (dp - 1 < 0) = false := decide_eq_false (by omega)
  subst hz
  have HCELL := Lib.hid (fun (wr : World) (h : wr.heap[b]? = some (.cells C e (0, 0))) => (by
    have := HBY.out 0 c0 HC0.out
    simp [World.cell?, h, this] : wr.cell? ⟨b, 0, none⟩ = some (.int .u8 c0.toNat)))
  go_enter Tryz.func151, Tryz.ntmps151
  have hcl := HCELL.out _ HW0.out.dig
  go_wp2_with (at_builtin; refine out1 HW0 45 (by omega) hi hz0 hz1 hz2 79 80 rfl rfl rfl rfl rfl ?_)
  intro v1 w1 l1 HL1 hn1 HW1
  have hcl := HCELL.out _ HW1.out.dig
  go_wp2_with (at_builtin; refine out1 HW1 c0 (by omega) hi hz0 hz1 hz2 87 89 rfl rfl rfl rfl rfl ?_)
  intro v2 w2 l2 HL2 hn2 HW2
  go_wp2_with (at_builtin; refine out1 HW2 101 (by omega) hi hz0 hz1 hz2 120 122 rfl rfl rfl rfl rfl ?_)
  intro v5 w5 l5 HL5 hn5 HW5
  go_wp2_with (at_builtin; refine out1 HW5 43 (by omega) hi hz0 hz1 hz2 132 134 rfl rfl rfl rfl rfl ?_)
  intro v6 w6 l6 HL6 hn6 HW6
  have x1 : decide ((e0 : Int) < 10) = false := decide_eq_false (by omega)
  have x2 : decide ((e0 : Int) < 100) = false := decide_eq_false (by omega)
  go_wp2_with (at_builtin; refine outN HW6 (xx e0) 3 (xx_len3 e0 (by omega) (by omega)) (by omega) hi hz0 hz1 hz2 136 150 rfl rfl rfl rfl (news := [_, _, _]) (xx_cells3 e0 (by omega) (by omega)) ?_; refine Hid.out ?_)
  refine Lib.hid ?_
  intro v7 w7 HW7
  go_wp2
  go_ret
  refine ⟨_, rfl, ?_⟩
  have h := HW7.out
  rw [HL6.out, HL5.out, HL2.out, HL1.out, HL0.out] at h
  rw [HT.out]
  simpa using h

set_option maxRecDepth 10000 in
set_option maxHeartbeats 2000000 in
theorem efgE_n1n1 (B0 b z e0 : Nat) (dp : Int) (c0 : UInt8) (dst : Value) (C : Array Value) (e : TypeId) (L T : List UInt8) (w : World) (hw : OutB B0 b C e w dst [] w) (hB : Bytes0 C L) (hz : z = 1) (hz30 : z ≤ 30) (hzL : z ≤ L.length) (hc0 : L[0]? = some c0) (hdp : dp - 1 = -(e0 : Int)) (he : 5 ≤ e0 ∧ e0 < 10) (hT : T = [45] ++ [c0] ++ [101] ++ [45] ++ xx e0) :
    Calls Tryz.prog 151 #[dst, .bool true, .slice (some ⟨b, 0, none⟩) 32 32, .int .i64 dp, .int .i64 z, .int .i64 z, .int .u8 103, .bool true] w fun e' w' => ∃ v, e' = .returned v ∧ OutB B0 b C e w v T w' := by
  obtain ⟨i0, hi, hz0, hz1, hz2⟩ := info_parts info5
  have HW0 : Hid (OutB B0 b C e w dst [] w) := Lib.hid hw
  have HBY := Lib.hid hB
  clear hw hB
  obtain ⟨l0, hl0⟩ : ∃ l : List UInt8, l = [] := ⟨_, rfl⟩
  rw [← hl0] at HW0
  have hn0 : l0.length ≤ 5 := by rw [hl0]; decide
  have HL0 := Lib.hid hl0
  clear hl0
  have q1 : decide (z < z) = false := decide_eq_false (by omega)
  have q2 : ((z : Int) != 0) = true := by rw [bne_iff_ne]; omega
  have q2' : ((z : Int) == 0) = false := by rw [beq_eq_false_iff_ne]; omega
  have HC0 := Lib.hid hc0
  have HT := Lib.hid hT
  clear hc0 hT
  obtain ⟨he1, he2⟩ := he
  have q3 : decide (dp - 1 < -4) = true := decide_eq_true (by omega)
  have q5 : decide (dp - 1 < 0) = true := decide_eq_true (by omega)
  subst hz
  have HCELL := Lib.hid (fun (wr : World) (h : wr.heap[b]? = some (.cells C e (0, 0))) => (by
    have := HBY.out 0 c0 HC0.out
    simp [World.cell?, h, this] : wr.cell? ⟨b, 0, none⟩ = some (.int .u8 c0.toNat)))
  go_enter Tryz.func151, Tryz.ntmps151
  have hcl := HCELL.out _ HW0.out.dig
  go_wp2_with (at_builtin; refine out1 HW0 45 (by omega) hi hz0 hz1 hz2 79 80 rfl rfl rfl rfl rfl ?_)
  intro v1 w1 l1 HL1 hn1 HW1
  have hcl := HCELL.out _ HW1.out.dig
  go_wp2_with (at_builtin; refine out1 HW1 c0 (by omega) hi hz0 hz1 hz2 87 89 rfl rfl rfl rfl rfl ?_)
  intro v2 w2 l2 HL2 hn2 HW2
  go_wp2_with (at_builtin; refine out1 HW2 101 (by omega) hi hz0 hz1 hz2 120 122 rfl rfl rfl rfl rfl ?_)
  intro v5 w5 l5 HL5 hn5 HW5
  go_wp2_with (at_builtin; refine out1 HW5 45 (by omega) hi hz0 hz1 hz2 132 134 rfl rfl rfl rfl rfl ?_)
  intro v6 w6 l6 HL6 hn6 HW6
  have x1 : decide ((e0 : Int) < 10) = true := decide_eq_true (by omega)
  go_wp2_with (at_builtin; refine outN HW6 (xx e0) 2 (xx_len1 e0 (by omega)) (by omega) hi hz0 hz1 hz2 155 159 rfl rfl rfl rfl (news := [_, _]) (xx_cells1 e0 (by omega)) ?_; refine Hid.out ?_)
  refine Lib.hid ?_
  intro v7 w7 HW7
  go_wp2
  go_ret
  refine ⟨_, rfl, ?_⟩
  have h := HW7.out
  rw [HL6.out, HL5.out, HL2.out, HL1.out, HL0.out] at h
  rw [HT.out]
  simpa using h

set_option maxRecDepth 10000 in
set_option maxHeartbeats 2000000 in
theorem efgE_n1n2 (B0 b z e0 : Nat) (dp : Int) (c0 : UInt8) (dst : Value) (C : Array Value) (e : TypeId) (L T : List UInt8) (w : World) (hw : OutB B0 b C e w dst [] w) (hB : Bytes0 C L) (hz : z = 1) (hz30 : z ≤ 30) (hzL : z ≤ L.length) (hc0 : L[0]? = some c0) (hdp : dp - 1 = -(e0 : Int)) (he : 10 ≤ e0 ∧ e0 < 100) (hT : T = [45] ++ [c0] ++ [101] ++ [45] ++ xx e0) :
    Calls Tryz.prog 151 #[dst, .bool true, .slice (some ⟨b, 0, none⟩) 32 32, .int .i64 dp, .int .i64 z, .int .i64 z, .int .u8 103, .bool true] w fun e' w' => ∃ v, e' = .returned v ∧ OutB B0 b C e w v T w' := by
  obtain ⟨i0, hi, hz0, hz1, hz2⟩ := info_parts info5
  have HW0 : Hid (OutB B0 b C e w dst [] w) := Lib.hid hw
  have HBY := Lib.hid hB
  clear hw hB
  obtain ⟨l0, hl0⟩ : ∃ l : List UInt8, l = [] := ⟨_, rfl⟩
  rw [← hl0] at HW0
  have hn0 : l0.length ≤ 5 := by rw [hl0]; decide
  have HL0 := Lib.hid hl0
  clear hl0
  have q1 : decide (z < z) = false := decide_eq_false (by omega)
  have q2 : ((z : Int) != 0) = true := by rw [bne_iff_ne]; omega
  have q2' : ((z : Int) == 0) = false := by rw [beq_eq_false_iff_ne]; omega
  have HC0 := Lib.hid hc0
  have HT := Lib.hid hT
  clear hc0 hT
  obtain ⟨he1, he2⟩ := he
  have q3 : decide (dp - 1 < -4) = true := decide_eq_true (by omega)
  have q5 : decide (dp - 1 < 0) = true := decide_eq_true (by omega)
  subst hz
  have HCELL := Lib.hid (fun (wr : World) (h : wr.heap[b]? = some (.cells C e (0, 0))) => (by
    have := HBY.out 0 c0 HC0.out
    simp [World.cell?, h, this] : wr.cell? ⟨b, 0, none⟩ = some (.int .u8 c0.toNat)))
  go_enter Tryz.func151, Tryz.ntmps151
  have hcl := HCELL.out _ HW0.out.dig
  go_wp2_with (at_builtin; refine out1 HW0 45 (by omega) hi hz0 hz1 hz2 79 80 rfl rfl rfl rfl rfl ?_)
  intro v1 w1 l1 HL1 hn1 HW1
  have hcl := HCELL.out _ HW1.out.dig
  go_wp2_with (at_builtin; refine out1 HW1 c0 (by omega) hi hz0 hz1 hz2 87 89 rfl rfl rfl rfl rfl ?_)
  intro v2 w2 l2 HL2 hn2 HW2
  go_wp2_with (at_builtin; refine out1 HW2 101 (by omega) hi hz0 hz1 hz2 120 122 rfl rfl rfl rfl rfl ?_)
  intro v5 w5 l5 HL5 hn5 HW5
  go_wp2_with (at_builtin; refine out1 HW5 45 (by omega) hi hz0 hz1 hz2 132 134 rfl rfl rfl rfl rfl ?_)
  intro v6 w6 l6 HL6 hn6 HW6
  have x1 : decide ((e0 : Int) < 10) = false := decide_eq_false (by omega)
  have x2 : decide ((e0 : Int) < 100) = true := decide_eq_true (by omega)
  go_wp2_with (at_builtin; refine outN HW6 (xx e0) 2 (xx_len2 e0 (by omega) (by omega)) (by omega) hi hz0 hz1 hz2 164 173 rfl rfl rfl rfl (news := [_, _]) (xx_cells2 e0 (by omega) (by omega)) ?_; refine Hid.out ?_)
  refine Lib.hid ?_
  intro v7 w7 HW7
  go_wp2
  go_ret
  refine ⟨_, rfl, ?_⟩
  have h := HW7.out
  rw [HL6.out, HL5.out, HL2.out, HL1.out, HL0.out] at h
  rw [HT.out]
  simpa using h

set_option maxRecDepth 10000 in
set_option maxHeartbeats 2000000 in
theorem efgE_n1n3 (B0 b z e0 : Nat) (dp : Int) (c0 : UInt8) (dst : Value) (C : Array Value) (e : TypeId) (L T : List UInt8) (w : World) (hw : OutB B0 b C e w dst [] w) (hB : Bytes0 C L) (hz : z = 1) (hz30 : z ≤ 30) (hzL : z ≤ L.length) (hc0 : L[0]? = some c0) (hdp : dp - 1 = -(e0 : Int)) (he : 100 ≤ e0 ∧ e0 < 1000) (hT : T = [45] ++ [c0] ++ [101] ++ [45] ++ xx e0) :
    Calls Tryz.prog 151 #[dst, .bool true, .slice (some ⟨b, 0, none⟩) 32 32, .int .i64 dp, .int .i64 z, .int .i64 z, .int .u8 103, .bool true] w fun e' w' => ∃ v, e' = .returned v ∧ OutB B0 b C e w v T w' := by
  obtain ⟨i0, hi, hz0, hz1, hz2⟩ := info_parts info5
  have HW0 : Hid (OutB B0 b C e w dst [] w) := Lib.hid hw
  have HBY := Lib.hid hB
  clear hw hB
  obtain ⟨l0, hl0⟩ : ∃ l : List UInt8, l = [] := ⟨_, rfl⟩
  rw [← hl0] at HW0
  have hn0 : l0.length ≤ 5 := by rw [hl0]; decide
  have HL0 := Lib.hid hl0
  clear hl0
  have q1 : decide (z < z) = false := decide_eq_false (by omega)
  have q2 : ((z : Int) != 0) = true := by rw [bne_iff_ne]; omega
  have q2' : ((z : Int) == 0) = false := by rw [beq_eq_false_iff_ne]; omega
  have HC0 := Lib.hid hc0
  have HT := Lib.hid hT
  clear hc0 hT
  obtain ⟨he1, he2⟩ := he
  have q3 : decide (dp - 1 < -4) = true := decide_eq_true (by omega)
  have q5 : decide (dp - 1 < 0) = true := decide_eq_true (by omega)
  subst hz
  have HCELL := Lib.hid (fun (wr : World) (h : wr.heap[b]? = some (.cells C e (0, 0))) => (by
    have := HBY.out 0 c0 HC0.out
    simp [World.cell?, h, this] : wr.cell? ⟨b, 0, none⟩ = some (.int .u8 c0.toNat)))
  go_enter Tryz.func151, Tryz.ntmps151
  have hcl := HCELL.out _ HW0.out.dig
  go_wp2_with (at_builtin; refine out1 HW0 45 (by omega) hi hz0 hz1 hz2 79 80 rfl rfl rfl rfl rfl ?_)
  intro v1 w1 l1 HL1 hn1 HW1
  have hcl := HCELL.out _ HW1.out.dig
  go_wp2_with (at_builtin; refine out1 HW1 c0 (by omega) hi hz0 hz1 hz2 87 89 rfl rfl rfl rfl rfl ?_)
  intro v2 w2 l2 HL2 hn2 HW2
  go_wp2_with (at_builtin; refine out1 HW2 101 (by omega) hi hz0 hz1 hz2 120 122 rfl rfl rfl rfl rfl ?_)
  intro v5 w5 l5 HL5 hn5 HW5
  go_wp2_with (at_builtin; refine out1 HW5 45 (by omega) hi hz0 hz1 hz2 132 134 rfl rfl rfl rfl rfl ?_)
  intro v6 w6 l6 HL6 hn6 HW6
  have x1 : decide ((e0 : Int) < 10) = false := decide_eq_false (by omega)
  have x2 : decide ((e0 : Int) < 100) = false := decide_eq_false (by omega)
  go_wp2_with (at_builtin; refine outN HW6 (xx e0) 3 (xx_len3 e0 (by omega) (by omega)) (by omega) hi hz0 hz1 hz2 136 150 rfl rfl rfl rfl (news := [_, _, _]) (xx_cells3 e0 (by omega) (by omega)) ?_; refine Hid.out ?_)
  refine Lib.hid ?_
  intro v7 w7 HW7
  go_wp2
  go_ret
  refine ⟨_, rfl, ?_⟩
  have h := HW7.out
  rw [HL6.out, HL5.out, HL2.out, HL1.out, HL0.out] at h
  rw [HT.out]
  simpa using h

set_option maxRecDepth 10000 in
set_option maxHeartbeats 2000000 in
theorem efgE_nmp1 (B0 b z e0 : Nat) (dp : Int) (c0 : UInt8) (dst : Value) (C : Array Value) (e : TypeId) (L T : List UInt8) (w : World) (hw : OutB B0 b C e w dst [] w) (hB : Bytes0 C L) (hz : 1 < z) (hz30 : z ≤ 30) (hzL : z ≤ L.length) (hc0 : L[0]? = some c0) (hdp : dp - 1 = (e0 : Int)) (he : 6 ≤ e0 ∧ e0 < 10) (hT : T = [45] ++ [c0] ++ [46] ++ (L.take z).drop 1 ++ [101] ++ [43] ++ xx e0) :
    Calls Tryz.prog 151 #[dst, .bool true, .slice (some ⟨b, 0, none⟩) 32 32, .int .i64 dp, .int .i64 z, .int .i64 z, .int .u8 103, .bool true] w fun e' w' => ∃ v, e' = .returned v ∧ OutB B0 b C e w v T w' := by
  obtain ⟨i0, hi, hz0, hz1, hz2⟩ := info_parts info5
  have HW0 : Hid (OutB B0 b C e w dst [] w) := Lib.hid hw
  have HBY := Lib.hid hB
  clear hw hB
  obtain ⟨l0, hl0⟩ : ∃ l : List UInt8, l = [] := ⟨_, rfl⟩
  rw [← hl0] at HW0
  have hn0 : l0.length ≤ 5 := by rw [hl0]; decide
  have HL0 := Lib.hid hl0
  clear hl0
  have q1 : decide (z < z) = false := decide_eq_false (by omega)
  have q2 : ((z : Int) != 0) = true := by rw [bne_iff_ne]; omega
  have q2' : ((z : Int) == 0) = false := by rw [beq_eq_false_iff_ne]; omega
  have HC0 := Lib.hid hc0
  have HT := Lib.hid hT
  clear hc0 hT
  obtain ⟨he1, he2⟩ := he
  have q3 : decide (dp - 1 < -4) = false := decide_eq_false (by omega)
  have q4 : decide (6 ≤ dp - 1) = true := decide_eq_true (by omega)
  have q5 : decide (dp - 1 < 0) = false := decide_eq_false (by omega)
  have q6 : decide (0 < (z : Int) - 1) = true := decide_eq_true (by omega)
  have q7 : decide (1 < z) = true := decide_eq_true (by omega)
  have t2 : min (z : Int) ((z : Int) - 1 + 1) = z := by omega
  have t3 : min (z : Int) z = z := by omega
  have HCELL := Lib.hid (fun (wr : World) (h : wr.heap[b]? = some (.cells C e (0, 0))) => (by
    have := HBY.out 0 c0 HC0.out
    simp [World.cell?, h, this] : wr.cell? ⟨b, 0, none⟩ = some (.int .u8 c0.toNat)))
  go_enter Tryz.func151, Tryz.ntmps151
  have hcl := HCELL.out _ HW0.out.dig
  go_wp2_with (at_builtin; refine out1 HW0 45 (by omega) hi hz0 hz1 hz2 79 80 rfl rfl rfl rfl rfl ?_)
  intro v1 w1 l1 HL1 hn1 HW1
  have hcl := HCELL.out _ HW1.out.dig
  go_wp2_with (at_builtin; refine out1 HW1 c0 (by omega) hi hz0 hz1 hz2 87 89 rfl rfl rfl rfl rfl ?_)
  intro v2 w2 l2 HL2 hn2 HW2
  go_wp2_with (at_builtin; refine out1 HW2 46 (by omega) hi hz0 hz1 hz2 93 94 rfl rfl rfl rfl rfl ?_)
  intro v3 w3 l3 HL3 hn3 HW3
  go_wp2_with (refine wpList_sl _ rfl (.tmp 104) (.tmp 105) (.tmp 106) rfl b z rfl rfl rfl (by omega) (by omega) ?_; refine Hid.out ?_)
  refine Lib.hid ?_
  refine wpList_append_own_at _ rfl (.tmp 103) (.tmp 107) 92 rfl B0 5 i0 (.int .u8 0) 1 1 Tryz.underlying92 hi hz0 hz1 hz2 rfl (by decide) v3 l3.length (Lib.byteCells l3) rfl HW3.out.own ⟨b, 1, none⟩ (z - 1) 31 (Lib.byteCells ((L.take z).drop 1)) rfl ?_ ?_ ?_ ?_ ?_ ?_ ?_
  · unfold Lib.byteCells
    rw [List.length_map, List.length_drop, List.length_take]
    omega
  · exact cells_at HBY.out HW3.out.dig hzL
  · exact cells_one _
  · unfold maxLen; omega
  · omega
  · exact HW3.out.size
  intro v4 w4 h2 h3 _ h4
  have hd1 : ((L.take z).drop 1).length = z - 1 := by rw [List.length_drop, List.length_take]; omega
  have HW4 := Lib.hid (HW3.out.stepN ((L.take z).drop 1) (by rw [hd1]; omega) (by rw [hd1]; exact h2) h3 (by rcases h4 with h4 | h4; exact .inl h4; exact .inr ⟨_, h4, Nat.le_refl _⟩))
  obtain ⟨l4, hl4⟩ : ∃ l, l = l3 ++ (L.take z).drop 1 := ⟨_, rfl⟩
  rw [← hl4] at HW4
  have hn4 : l4.length ≤ l3.length + z := by rw [hl4, List.length_append, hd1]; omega
  have HL4 := Lib.hid hl4
  clear h2 h3 h4 hl4 hd1
  go_wp2_with fail
  go_loopg [0, 114] 0 (fun g s0 s114 wx => s0 = v4 ∧ s114 = .int .i64 0 ∧ w4 = wx)
  case atStart => exact ⟨rfl, rfl, rfl⟩
  case round =>
    obtain ⟨rfl, rfl, rfl⟩ := hrel
    have q8 : ¬ ((0 : Int) < 0) := by omega
    go_wp2_with (at_builtin; refine out1 HW4 101 (by omega) hi hz0 hz1 hz2 120 122 rfl rfl rfl rfl rfl ?_)
    intro v5 w5 l5 HL5 hn5 HW5
    go_wp2_with (at_builtin; refine out1 HW5 43 (by omega) hi hz0 hz1 hz2 132 134 rfl rfl rfl rfl rfl ?_)
    intro v6 w6 l6 HL6 hn6 HW6
    have x1 : decide ((e0 : Int) < 10) = true := decide_eq_true (by omega)
    go_wp2_with (at_builtin; refine outN HW6 (xx e0) 2 (xx_len1 e0 (by omega)) (by omega) hi hz0 hz1 hz2 155 159 rfl rfl rfl rfl (news := [_, _]) (xx_cells1 e0 (by omega)) ?_; refine Hid.out ?_)
    refine Lib.hid ?_
    intro v7 w7 HW7
    go_wp2
    go_ret
    refine ⟨_, rfl, ?_⟩
    have h := HW7.out
    rw [HL6.out, HL5.out, HL4.out, HL3.out, HL2.out, HL1.out, HL0.out] at h
    rw [HT.out]
    simpa using h

set_option maxRecDepth 10000 in
set_option maxHeartbeats 2000000 in
theorem efgE_nmp2 (B0 b z e0 : Nat) (dp : Int) (c0 : UInt8) (dst : Value) (C : Array Value) (e : TypeId) (L T : List UInt8) (w : World) (hw : OutB B0 b C e w dst [] w) (hB : Bytes0 C L) (hz : 1 < z) (hz30 : z ≤ 30) (hzL : z ≤ L.length) (hc0 : L[0]? = some c0) (hdp : dp - 1 = (e0 : Int)) (he : 10 ≤ e0 ∧ e0 < 100) (hT : T = [45] ++ [c0] ++ [46] ++ (L.take z).drop 1 ++ [101] ++ [43] ++ xx e0) :
    Calls Tryz.prog 151 #[dst, .bool true, .slice (some ⟨b, 0, none⟩) 32 32, .int .i64 dp, .int .i64 z, .int .i64 z, .int .u8 103, .bool true] w fun e' w' => ∃ v, e' = .returned v ∧ OutB B0 b C e w v T w' := by
  obtain ⟨i0, hi, hz0, hz1, hz2⟩ := info_parts info5
  have HW0 : Hid (OutB B0 b C e w dst [] w) := Lib.hid hw
  have HBY := Lib.hid hB
  clear hw hB
  obtain ⟨l0, hl0⟩ : ∃ l : List UInt8, l = [] := ⟨_, rfl⟩
  rw [← hl0] at HW0
  have hn0 : l0.length ≤ 5 := by rw [hl0]; decide
  have HL0 := Lib.hid hl0
  clear hl0
  have q1 : decide (z < z) = false := decide_eq_false (by omega)
  have q2 : ((z : Int) != 0) = true := by rw [bne_iff_ne]; omega
  have q2' : ((z : Int) == 0) = false := by rw [beq_eq_false_iff_ne]; omega
  have HC0 := Lib.hid hc0
  have HT := Lib.hid hT
  clear hc0 hT
  obtain ⟨he1, he2⟩ := he
  have q3 : decide (dp - 1 < -4) = false := decide_eq_false (by omega)
  have q4 : decide (6 ≤ dp - 1) = true := decide_eq_true (by omega)
  have q5 : decide (dp - 1 < 0) = false := decide_eq_false (by omega)
  have q6 : decide (0 < (z : Int) - 1) = true := decide_eq_true (by omega)
  have q7 : decide (1 < z) = true := decide_eq_true (by omega)
  have t2 : min (z : Int) ((z : Int) - 1 + 1) = z := by omega
  have t3 : min (z : Int) z = z := by omega
  have HCELL := Lib.hid (fun (wr : World) (h : wr.heap[b]? = some (.cells C e (0, 0))) => (by
    have := HBY.out 0 c0 HC0.out
    simp [World.cell?, h, this] : wr.cell? ⟨b, 0, none⟩ = some (.int .u8 c0.toNat)))
  go_enter Tryz.func151, Tryz.ntmps151
  have hcl := HCELL.out _ HW0.out.dig
  go_wp2_with (at_builtin; refine out1 HW0 45 (by omega) hi hz0 hz1 hz2 79 80 rfl rfl rfl rfl rfl ?_)
  intro v1 w1 l1 HL1 hn1 HW1
  have hcl := HCELL.out _ HW1.out.dig
  go_wp2_with (at_builtin; refine out1 HW1 c0 (by omega) hi hz0 hz1 hz2 87 89 rfl rfl rfl rfl rfl ?_)
  intro v2 w2 l2 HL2 hn2 HW2
  go_wp2_with (at_builtin; refine out1 HW2 46 (by omega) hi hz0 hz1 hz2 93 94 rfl rfl rfl rfl rfl ?_)
  intro v3 w3 l3 HL3 hn3 HW3
  go_wp2_with (refine wpList_sl _ rfl (.tmp 104) (.tmp 105) (.tmp 106) rfl b z rfl rfl rfl (by omega) (by omega) ?_; refine Hid.out ?_)
  refine Lib.hid ?_
  refine wpList_append_own_at _ rfl (.tmp 103) (.tmp 107) 92 rfl B0 5 i0 (.int .u8 0) 1 1 Tryz.underlying92 hi hz0 hz1 hz2 rfl (by decide) v3 l3.length (Lib.byteCells l3) rfl HW3.out.own ⟨b, 1, none⟩ (z - 1) 31 (Lib.byteCells ((L.take z).drop 1)) rfl ?_ ?_ ?_ ?_ ?_ ?_ ?_
  · unfold Lib.byteCells
    rw [List.length_map, List.length_drop, List.length_take]
    omega
  · exact cells_at HBY.out HW3.out.dig hzL
  · exact cells_one _
  · unfold maxLen; omega
  · omega
  · exact HW3.out.size
  intro v4 w4 h2 h3 _ h4
  have hd1 : ((L.take z).drop 1).length = z - 1 := by rw [List.length_drop, List.length_take]; omega
  have HW4 := Lib.hid (HW3.out.stepN ((L.take z).drop 1) (by rw [hd1]; omega) (by rw [hd1]; exact h2) h3 (by rcases h4 with h4 | h4; exact .inl h4; exact .inr ⟨_, h4, Nat.le_refl _⟩))
  obtain ⟨l4, hl4⟩ : ∃ l, l = l3 ++ (L.take z).drop 1 := ⟨_, rfl⟩
  rw [← hl4] at HW4
  have hn4 : l4.length ≤ l3.length + z := by rw [hl4, List.length_append, hd1]; omega
  have HL4 := Lib.hid hl4
  clear h2 h3 h4 hl4 hd1
  go_wp2_with fail
  go_loopg [0, 114] 0 (fun g s0 s114 wx => s0 = v4 ∧ s114 = .int .i64 0 ∧ w4 = wx)
  case atStart => exact ⟨rfl, rfl, rfl⟩
  case round =>
    obtain ⟨rfl, rfl, rfl⟩ := hrel
    have q8 : ¬ ((0 : Int) < 0) := by omega
    go_wp2_with (at_builtin; refine out1 HW4 101 (by omega) hi hz0 hz1 hz2 120 122 rfl rfl rfl rfl rfl ?_)
    intro v5 w5 l5 HL5 hn5 HW5
    go_wp2_with (at_builtin; refine out1 HW5 43 (by omega) hi hz0 hz1 hz2 132 134 rfl rfl rfl rfl rfl ?_)
    intro v6 w6 l6 HL6 hn6 HW6
    have x1 : decide ((e0 : Int) < 10) = false := decide_eq_false (by omega)
    have x2 : decide ((e0 : Int) < 100) = true := decide_eq_true (by omega)
    go_wp2_with (at_builtin; refine outN HW6 (xx e0) 2 (xx_len2 e0 (by omega) (by omega)) (by omega) hi hz0 hz1 hz2 164 173 rfl rfl rfl rfl (news := [_, _]) (xx_cells2 e0 (by omega) (by omega)) ?_; refine Hid.out ?_)
    refine Lib.hid ?_
    intro v7 w7 HW7
    go_wp2
    go_ret
    refine ⟨_, rfl, ?_⟩
    have h := HW7.out
    rw [HL6.out, HL5.out, HL4.out, HL3.out, HL2.out, HL1.out, HL0.out] at h
    rw [HT.out]
    simpa using h

set_option maxRecDepth 10000 in
set_option maxHeartbeats 2000000 in
theorem efgE_nmp3 (B0 b z e0 : Nat) (dp : Int) (c0 : UInt8) (dst : Value) (C : Array Value) (e : TypeId) (L T : List UInt8) (w : World) (hw : OutB B0 b C e w dst [] w) (hB : Bytes0 C L) (hz : 1 < z) (hz30 : z ≤ 30) (hzL : z ≤ L.length) (hc0 : L[0]? = some c0) (hdp : dp - 1 = (e0 : Int)) (he : 100 ≤ e0 ∧ e0 < 1000) (hT : T = [45] ++ [c0] ++ [46] ++ (L.take z).drop 1 ++ [101] ++ [43] ++ xx e0) :
    Calls Tryz.prog 151 #[dst, .bool true, .slice (some ⟨b, 0, none⟩) 32 32, .int .i64 dp, .int .i64 z, .int .i64 z, .int .u8 103, .bool true] w fun e' w' => ∃ v, e' = .returned v ∧ OutB B0 b C e w v T w' := by
  obtain ⟨i0, hi, hz0, hz1, hz2⟩ := info_parts info5
  have HW0 : Hid (OutB B0 b C e w dst [] w) := Lib.hid hw
  have HBY := Lib.hid hB
  clear hw hB
  obtain ⟨l0, hl0⟩ : ∃ l : List UInt8, l = [] := ⟨_, rfl⟩
  rw [← hl0] at HW0
  have hn0 : l0.length ≤ 5 := by rw [hl0]; decide
  have HL0 := Lib.hid hl0
  clear hl0
  have q1 : decide (z < z) = false := decide_eq_false (by omega)
  have q2 : ((z : Int) != 0) = true := by rw [bne_iff_ne]; omega
  have q2' : ((z : Int) == 0) = false := by rw [beq_eq_false_iff_ne]; omega
  have HC0 := Lib.hid hc0
  have HT := Lib.hid hT
  clear hc0 hT
  obtain ⟨he1, he2⟩ := he
  have q3 : decide (dp - 1 < -4) = false := decide_eq_false (by omega)
  have q4 : decide (6 ≤ dp - 1) = true := decide_eq_true (by omega)
  have q5 : decide (dp - 1 < 0) = false := decide_eq_false (by omega)
  have q6 : decide (0 < (z : Int) - 1) = true := decide_eq_true (by omega)
  have q7 : decide (1 < z) = true := decide_eq_true (by omega)
  have t2 : min (z : Int) ((z : Int) - 1 + 1) = z := by omega
  have t3 : min (z : Int) z = z := by omega
  have HCELL := Lib.hid (fun (wr : World) (h : wr.heap[b]? = some (.cells C e (0, 0))) => (by
    have := HBY.out 0 c0 HC0.out
    simp [World.cell?, h, this] : wr.cell? ⟨b, 0, none⟩ = some (.int .u8 c0.toNat)))
  go_enter Tryz.func151, Tryz.ntmps151
  have hcl := HCELL.out _ HW0.out.dig
  go_wp2_with (at_builtin; refine out1 HW0 45 (by omega) hi hz0 hz1 hz2 79 80 rfl rfl rfl rfl rfl ?_)
  intro v1 w1 l1 HL1 hn1 HW1
  have hcl := HCELL.out _ HW1.out.dig
  go_wp2_with (at_builtin; refine out1 HW1 c0 (by omega) hi hz0 hz1 hz2 87 89 rfl rfl rfl rfl rfl ?_)
  intro v2 w2 l2 HL2 hn2 HW2
  go_wp2_with (at_builtin; refine out1 HW2 46 (by omega) hi hz0 hz1 hz2 93 94 rfl rfl rfl rfl rfl ?_)
  intro v3 w3 l3 HL3 hn3 HW3
  go_wp2_with (refine wpList_sl _ rfl (.tmp 104) (.tmp 105) (.tmp 106) rfl b z rfl rfl rfl (by omega) (by omega) ?_; refine Hid.out ?_)
  refine Lib.hid ?_
  refine wpList_append_own_at _ rfl (.tmp 103) (.tmp 107) 92 rfl B0 5 i0 (.int .u8 0) 1 1 Tryz.underlying92 hi hz0 hz1 hz2 rfl (by decide) v3 l3.length (Lib.byteCells l3) rfl HW3.out.own ⟨b, 1, none⟩ (z - 1) 31 (Lib.byteCells ((L.take z).drop 1)) rfl ?_ ?_ ?_ ?_ ?_ ?_ ?_
  · unfold Lib.byteCells
    rw [List.length_map, List.length_drop, List.length_take]
    omega
  · exact cells_at HBY.out HW3.out.dig hzL
  · exact cells_one _
  · unfold maxLen; omega
  · omega
  · exact HW3.out.size
  intro v4 w4 h2 h3 _ h4
  have hd1 : ((L.take z).drop 1).length = z - 1 := by rw [List.length_drop, List.length_take]; omega
  have HW4 := Lib.hid (HW3.out.stepN ((L.take z).drop 1) (by rw [hd1]; omega) (by rw [hd1]; exact h2) h3 (by rcases h4 with h4 | h4; exact .inl h4; exact .inr ⟨_, h4, Nat.le_refl _⟩))
  obtain ⟨l4, hl4⟩ : ∃ l, l = l3 ++ (L.take z).drop 1 := ⟨_, rfl⟩
  rw [← hl4] at HW4
  have hn4 : l4.length ≤ l3.length + z := by rw [hl4, List.length_append, hd1]; omega
  have HL4 := Lib.hid hl4
  clear h2 h3 h4 hl4 hd1
  go_wp2_with fail
  go_loopg [0, 114] 0 (fun g s0 s114 wx => s0 = v4 ∧ s114 = .int .i64 0 ∧ w4 = wx)
  case atStart => exact ⟨rfl, rfl, rfl⟩
  case round =>
    obtain ⟨rfl, rfl, rfl⟩ := hrel
    have q8 : ¬ ((0 : Int) < 0) := by omega
    go_wp2_with (at_builtin; refine out1 HW4 101 (by omega) hi hz0 hz1 hz2 120 122 rfl rfl rfl rfl rfl ?_)
    intro v5 w5 l5 HL5 hn5 HW5
    go_wp2_with (at_builtin; refine out1 HW5 43 (by omega) hi hz0 hz1 hz2 132 134 rfl rfl rfl rfl rfl ?_)
    intro v6 w6 l6 HL6 hn6 HW6
    have x1 : decide ((e0 : Int) < 10) = false := decide_eq_false (by omega)
    have x2 : decide ((e0 : Int) < 100) = false := decide_eq_false (by omega)
    go_wp2_with (at_builtin; refine outN HW6 (xx e0) 3 (xx_len3 e0 (by omega) (by omega)) (by omega) hi hz0 hz1 hz2 136 150 rfl rfl rfl rfl (news := [_, _, _]) (xx_cells3 e0 (by omega) (by omega)) ?_; refine Hid.out ?_)
    refine Lib.hid ?_
    intro v7 w7 HW7
    go_wp2
    go_ret
    refine ⟨_, rfl, ?_⟩
    have h := HW7.out
    rw [HL6.out, HL5.out, HL4.out, HL3.out, HL2.out, HL1.out, HL0.out] at h
    rw [HT.out]
    simpa using h

set_option maxRecDepth 10000 in
set_option maxHeartbeats 2000000 in
theorem efgE_nmn1 (B0 b z e0 : Nat) (dp : Int) (c0 : UInt8) (dst : Value) (C : Array Value) (e : TypeId) (L T : List UInt8) (w : World) (hw : OutB B0 b C e w dst [] w) (hB : Bytes0 C L) (hz : 1 < z) (hz30 : z ≤ 30) (hzL : z ≤ L.length) (hc0 : L[0]? = some c0) (hdp : dp - 1 = -(e0 : Int)) (he : 5 ≤ e0 ∧ e0 < 10) (hT : T = [45] ++ [c0] ++ [46] ++ (L.take z).drop 1 ++ [101] ++ [45] ++ xx e0) :
    Calls Tryz.prog 151 #[dst, .bool true, .slice (some ⟨b, 0, none⟩) 32 32, .int .i64 dp, .int .i64 z, .int .i64 z, .int .u8 103, .bool true] w fun e' w' => ∃ v, e' = .returned v ∧ OutB B0 b C e w v T w' := by
  obtain ⟨i0, hi, hz0, hz1, hz2⟩ := info_parts info5
  have HW0 : Hid (OutB B0 b C e w dst [] w) := Lib.hid hw
  have HBY := Lib.hid hB
  clear hw hB
  obtain ⟨l0, hl0⟩ : ∃ l : List UInt8, l = [] := ⟨_, rfl⟩
  rw [← hl0] at HW0
  have hn0 : l0.length ≤ 5 := by rw [hl0]; decide
  have HL0 := Lib.hid hl0
  clear hl0
  have q1 : decide (z < z) = false := decide_eq_false (by omega)
  have q2 : ((z : Int) != 0) = true := by rw [bne_iff_ne]; omega
  have q2' : ((z : Int) == 0) = false := by rw [beq_eq_false_iff_ne]; omega
  have HC0 := Lib.hid hc0
  have HT := Lib.hid hT
  clear hc0 hT
  obtain ⟨he1, he2⟩ := he
  have q3 : decide (dp - 1 < -4) = true := decide_eq_true (by omega)
  have q5 : decide (dp - 1 < 0) = true := decide_eq_true (by omega)
  have q6 : decide (0 < (z : Int) - 1) = true := decide_eq_true (by omega)
  have q7 : decide (1 < z) = true := decide_eq_true (by omega)
  have t2 : min (z : Int) ((z : Int) - 1 + 1) = z := by omega
  have t3 : min (z : Int) z = z := by omega
  have HCELL := Lib.hid (fun (wr : World) (h : wr.heap[b]? = some (.cells C e (0, 0))) => (by
    have := HBY.out 0 c0 HC0.out
    simp [World.cell?, h, this] : wr.cell? ⟨b, 0, none⟩ = some (.int .u8 c0.toNat)))
  go_enter Tryz.func151, Tryz.ntmps151
  have hcl := HCELL.out _ HW0.out.dig
  go_wp2_with (at_builtin; refine out1 HW0 45 (by omega) hi hz0 hz1 hz2 79 80 rfl rfl rfl rfl rfl ?_)
  intro v1 w1 l1 HL1 hn1 HW1
  have hcl := HCELL.out _ HW1.out.dig
  go_wp2_with (at_builtin; refine out1 HW1 c0 (by omega) hi hz0 hz1 hz2 87 89 rfl rfl rfl rfl rfl ?_)
  intro v2 w2 l2 HL2 hn2 HW2
  go_wp2_with (at_builtin; refine out1 HW2 46 (by omega) hi hz0 hz1 hz2 93 94 rfl rfl rfl rfl rfl ?_)
  intro v3 w3 l3 HL3 hn3 HW3
  go_wp2_with (refine wpList_sl _ rfl (.tmp 104) (.tmp 105) (.tmp 106) rfl b z rfl rfl rfl (by omega) (by omega) ?_; refine Hid.out ?_)
  refine Lib.hid ?_
  refine wpList_append_own_at _ rfl (.tmp 103) (.tmp 107) 92 rfl B0 5 i0 (.int .u8 0) 1 1 Tryz.underlying92 hi hz0 hz1 hz2 rfl (by decide) v3 l3.length (Lib.byteCells l3) rfl HW3.out.own ⟨b, 1, none⟩ (z - 1) 31 (Lib.byteCells ((L.take z).drop 1)) rfl ?_ ?_ ?_ ?_ ?_ ?_ ?_
  · unfold Lib.byteCells
    rw [List.length_map, List.length_drop, List.length_take]
    omega
  · exact cells_at HBY.out HW3.out.dig hzL
  · exact cells_one _
  · unfold maxLen; omega
  · omega
  · exact HW3.out.size
  intro v4 w4 h2 h3 _ h4
  have hd1 : ((L.take z).drop 1).length = z - 1 := by rw [List.length_drop, List.length_take]; omega
  have HW4 := Lib.hid (HW3.out.stepN ((L.take z).drop 1) (by rw [hd1]; omega) (by rw [hd1]; exact h2) h3 (by rcases h4 with h4 | h4; exact .inl h4; exact .inr ⟨_, h4, Nat.le_refl _⟩))
  obtain ⟨l4, hl4⟩ : ∃ l, l = l3 ++ (L.take z).drop 1 := ⟨_, rfl⟩
  rw [← hl4] at HW4
  have hn4 : l4.length ≤ l3.length + z := by rw [hl4, List.length_append, hd1]; omega
  have HL4 := Lib.hid hl4
  clear h2 h3 h4 hl4 hd1
  go_wp2_with fail
  go_loopg [0, 114] 0 (fun g s0 s114 wx => s0 = v4 ∧ s114 = .int .i64 0 ∧ w4 = wx)
  case atStart => exact ⟨rfl, rfl, rfl⟩
  case round =>
    obtain ⟨rfl, rfl, rfl⟩ := hrel
    have q8 : ¬ ((0 : Int) < 0) := by omega
    go_wp2_with (at_builtin; refine out1 HW4 101 (by omega) hi hz0 hz1 hz2 120 122 rfl rfl rfl rfl rfl ?_)
    intro v5 w5 l5 HL5 hn5 HW5
    go_wp2_with (at_builtin; refine out1 HW5 45 (by omega) hi hz0 hz1 hz2 132 134 rfl rfl rfl rfl rfl ?_)
    intro v6 w6 l6 HL6 hn6 HW6
    have x1 : decide ((e0 : Int) < 10) = true := decide_eq_true (by omega)
    go_wp2_with (at_builtin; refine outN HW6 (xx e0) 2 (xx_len1 e0 (by omega)) (by omega) hi hz0 hz1 hz2 155 159 rfl rfl rfl rfl (news := [_, _]) (xx_cells1 e0 (by omega)) ?_; refine Hid.out ?_)
    refine Lib.hid ?_
    intro v7 w7 HW7
    go_wp2
    go_ret
    refine ⟨_, rfl, ?_⟩
    have h := HW7.out
    rw [HL6.out, HL5.out, HL4.out, HL3.out, HL2.out, HL1.out, HL0.out] at h
    rw [HT.out]
    simpa using h

set_option maxRecDepth 10000 in
set_option maxHeartbeats 2000000 in
theorem efgE_nmn2 (B0 b z e0 : Nat) (dp : Int) (c0 : UInt8) (dst : Value) (C : Array Value) (e : TypeId) (L T : List UInt8) (w : World) (hw : OutB B0 b C e w dst [] w) (hB : Bytes0 C L) (hz : 1 < z) (hz30 : z ≤ 30) (hzL : z ≤ L.length) (hc0 : L[0]? = some c0) (hdp : dp - 1 = -(e0 : Int)) (he : 10 ≤ e0 ∧ e0 < 100) (hT : T = [45] ++ [c0] ++ [46] ++ (L.take z).drop 1 ++ [101] ++ [45] ++ xx e0) :
    Calls Tryz.prog 151 #[dst, .bool true, .slice (some ⟨b, 0, none⟩) 32 32, .int .i64 dp, .int .i64 z, .int .i64 z, .int .u8 103, .bool true] w fun e' w' => ∃ v, e' = .returned v ∧ OutB B0 b C e w v T w' := by
  obtain ⟨i0, hi, hz0, hz1, hz2⟩ := info_parts info5
  have HW0 : Hid (OutB B0 b C e w dst [] w) := Lib.hid hw
  have HBY := Lib.hid hB
  clear hw hB
  obtain ⟨l0, hl0⟩ : ∃ l : List UInt8, l = [] := ⟨_, rfl⟩
  rw [← hl0] at HW0
  have hn0 : l0.length ≤ 5 := by rw [hl0]; decide
  have HL0 := Lib.hid hl0
  clear hl0
  have q1 : decide (z < z) = false := decide_eq_false (by omega)
  have q2 : ((z : Int) != 0) = true := by rw [bne_iff_ne]; omega
  have q2' : ((z : Int) == 0) = false := by rw [beq_eq_false_iff_ne]; omega
  have HC0 := Lib.hid hc0
  have HT := Lib.hid hT
  clear hc0 hT
  obtain ⟨he1, he2⟩ := he
  have q3 : decide (dp - 1 < -4) = true := decide_eq_true (by omega)
  have q5 : decide (dp - 1 < 0) = true := decide_eq_true (by omega)
  have q6 : decide (0 < (z : Int) - 1) = true := decide_eq_true (by omega)
  have q7 : decide (1 < z) = true := decide_eq_true (by omega)
  have t2 : min (z : Int) ((z : Int) - 1 + 1) = z := by omega
  have t3 : min (z : Int) z = z := by omega
  have HCELL := Lib.hid (fun (wr : World) (h : wr.heap[b]? = some (.cells C e (0, 0))) => (by
    have := HBY.out 0 c0 HC0.out
    simp [World.cell?, h, this] : wr.cell? ⟨b, 0, none⟩ = some (.int .u8 c0.toNat)))
  go_enter Tryz.func151, Tryz.ntmps151
  have hcl := HCELL.out _ HW0.out.dig
  go_wp2_with (at_builtin; refine out1 HW0 45 (by omega) hi hz0 hz1 hz2 79 80 rfl rfl rfl rfl rfl ?_)
  intro v1 w1 l1 HL1 hn1 HW1
  have hcl := HCELL.out _ HW1.out.dig
  go_wp2_with (at_builtin; refine out1 HW1 c0 (by omega) hi hz0 hz1 hz2 87 89 rfl rfl rfl rfl rfl ?_)
  intro v2 w2 l2 HL2 hn2 HW2
  go_wp2_with (at_builtin; refine out1 HW2 46 (by omega) hi hz0 hz1 hz2 93 94 rfl rfl rfl rfl rfl ?_)
  intro v3 w3 l3 HL3 hn3 HW3
  go_wp2_with (refine wpList_sl _ rfl (.tmp 104) (.tmp 105) (.tmp 106) rfl b z rfl rfl rfl (by omega) (by omega) ?_; refine Hid.out ?_)
  refine Lib.hid ?_
  refine wpList_append_own_at _ rfl (.tmp 103) (.tmp 107) 92 rfl B0 5 i0 (.int .u8 0) 1 1 Tryz.underlying92 hi hz0 hz1 hz2 rfl (by decide) v3 l3.length (Lib.byteCells l3) rfl HW3.out.own ⟨b, 1, none⟩ (z - 1) 31 (Lib.byteCells ((L.take z).drop 1)) rfl ?_ ?_ ?_ ?_ ?_ ?_ ?_
  · unfold Lib.byteCells
    rw [List.length_map, List.length_drop, List.length_take]
    omega
  · exact cells_at HBY.out HW3.out.dig hzL
  · exact cells_one _
  · unfold maxLen; omega
  · omega
  · exact HW3.out.size
  intro v4 w4 h2 h3 _ h4
  have hd1 : ((L.take z).drop 1).length = z - 1 := by rw [List.length_drop, List.length_take]; omega
  have HW4 := Lib.hid (HW3.out.stepN ((L.take z).drop 1) (by rw [hd1]; omega) (by rw [hd1]; exact h2) h3 (by rcases h4 with h4 | h4; exact .inl h4; exact .inr ⟨_, h4, Nat.le_refl _⟩))
  obtain ⟨l4, hl4⟩ : ∃ l, l = l3 ++ (L.take z).drop 1 := ⟨_, rfl⟩
  rw [← hl4] at HW4
  have hn4 : l4.length ≤ l3.length + z := by rw [hl4, List.length_append, hd1]; omega
  have HL4 := Lib.hid hl4
  clear h2 h3 h4 hl4 hd1
  go_wp2_with fail
  go_loopg [0, 114] 0 (fun g s0 s114 wx => s0 = v4 ∧ s114 = .int .i64 0 ∧ w4 = wx)
  case atStart => exact ⟨rfl, rfl, rfl⟩
  case round =>
    obtain ⟨rfl, rfl, rfl⟩ := hrel
    have q8 : ¬ ((0 : Int) < 0) := by omega
    go_wp2_with (at_builtin; refine out1 HW4 101 (by omega) hi hz0 hz1 hz2 120 122 rfl rfl rfl rfl rfl ?_)
    intro v5 w5 l5 HL5 hn5 HW5
    go_wp2_with (at_builtin; refine out1 HW5 45 (by omega) hi hz0 hz1 hz2 132 134 rfl rfl rfl rfl rfl ?_)
    intro v6 w6 l6 HL6 hn6 HW6
    have x1 : decide ((e0 : Int) < 10) = false := decide_eq_false (by omega)
    have x2 : decide ((e0 : Int) < 100) = true := decide_eq_true (by omega)
    go_wp2_with (at_builtin; refine outN HW6 (xx e0) 2 (xx_len2 e0 (by omega) (by omega)) (by omega) hi hz0 hz1 hz2 164 173 rfl rfl rfl rfl (news := [_, _]) (xx_cells2 e0 (by omega) (by omega)) ?_; refine Hid.out ?_)
    refine Lib.hid ?_
    intro v7 w7 HW7
    go_wp2
    go_ret
    refine ⟨_, rfl, ?_⟩
    have h := HW7.out
    rw [HL6.out, HL5.out, HL4.out, HL3.out, HL2.out, HL1.out, HL0.out] at h
    rw [HT.out]
    simpa using h

set_option maxRecDepth 10000 in
set_option maxHeartbeats 2000000 in
theorem efgE_nmn3 (B0 b z e0 : Nat) (dp : Int) (c0 : UInt8) (dst : Value) (C : Array Value) (e : TypeId) (L T : List UInt8) (w : World) (hw : OutB B0 b C e w dst [] w) (hB : Bytes0 C L) (hz : 1 < z) (hz30 : z ≤ 30) (hzL : z ≤ L.length) (hc0 : L[0]? = some c0) (hdp : dp - 1 = -(e0 : Int)) (he : 100 ≤ e0 ∧ e0 < 1000) (hT : T = [45] ++ [c0] ++ [46] ++ (L.take z).drop 1 ++ [101] ++ [45] ++ xx e0) :
    Calls Tryz.prog 151 #[dst, .bool true, .slice (some ⟨b, 0, none⟩) 32 32, .int .i64 dp, .int .i64 z, .int .i64 z, .int .u8 103, .bool true] w fun e' w' => ∃ v, e' = .returned v ∧ OutB B0 b C e w v T w' := by
  obtain ⟨i0, hi, hz0, hz1, hz2⟩ := info_parts info5
  have HW0 : Hid (OutB B0 b C e w dst [] w) := Lib.hid hw
  have HBY := Lib.hid hB
  clear hw hB
  obtain ⟨l0, hl0⟩ : ∃ l : List UInt8, l = [] := ⟨_, rfl⟩
  rw [← hl0] at HW0
  have hn0 : l0.length ≤ 5 := by rw [hl0]; decide
  have HL0 := Lib.hid hl0
  clear hl0
  have q1 : decide (z < z) = false := decide_eq_false (by omega)
  have q2 : ((z : Int) != 0) = true := by rw [bne_iff_ne]; omega
  have q2' : ((z : Int) == 0) = false := by rw [beq_eq_false_iff_ne]; omega
  have HC0 := Lib.hid hc0
  have HT := Lib.hid hT
  clear hc0 hT
  obtain ⟨he1, he2⟩ := he
  have q3 : decide (dp - 1 < -4) = true := decide_eq_true (by omega)
  have q5 : decide (dp - 1 < 0) = true := decide_eq_true (by omega)
  have q6 : decide (0 < (z : Int) - 1) = true := decide_eq_true (by omega)
  have q7 : decide (1 < z) = true := decide_eq_true (by omega)
  have t2 : min (z : Int) ((z : Int) - 1 + 1) = z := by omega
  have t3 : min (z : Int) z = z := by omega
  have HCELL := Lib.hid (fun (wr : World) (h : wr.heap[b]? = some (.cells C e (0, 0))) => (by
    have := HBY.out 0 c0 HC0.out
    simp [World.cell?, h, this] : wr.cell? ⟨b, 0, none⟩ = some (.int .u8 c0.toNat)))
  go_enter Tryz.func151, Tryz.ntmps151
  have hcl := HCELL.out _ HW0.out.dig
  go_wp2_with (at_builtin; refine out1 HW0 45 (by omega) hi hz0 hz1 hz2 79 80 rfl rfl rfl rfl rfl ?_)
  intro v1 w1 l1 HL1 hn1 HW1
  have hcl := HCELL.out _ HW1.out.dig
  go_wp2_with (at_builtin; refine out1 HW1 c0 (by omega) hi hz0 hz1 hz2 87 89 rfl rfl rfl rfl rfl ?_)
  intro v2 w2 l2 HL2 hn2 HW2
  go_wp2_with (at_builtin; refine out1 HW2 46 (by omega) hi hz0 hz1 hz2 93 94 rfl rfl rfl rfl rfl ?_)
  intro v3 w3 l3 HL3 hn3 HW3
  go_wp2_with (refine wpList_sl _ rfl (.tmp 104) (.tmp 105) (.tmp 106) rfl b z rfl rfl rfl (by omega) (by omega) ?_; refine Hid.out ?_)
  refine Lib.hid ?_
  refine wpList_append_own_at _ rfl (.tmp 103) (.tmp 107) 92 rfl B0 5 i0 (.int .u8 0) 1 1 Tryz.underlying92 hi hz0 hz1 hz2 rfl (by decide) v3 l3.length (Lib.byteCells l3) rfl HW3.out.own ⟨b, 1, none⟩ (z - 1) 31 (Lib.byteCells ((L.take z).drop 1)) rfl ?_ ?_ ?_ ?_ ?_ ?_ ?_
  · unfold Lib.byteCells
    rw [List.length_map, List.length_drop, List.length_take]
    omega
  · exact cells_at HBY.out HW3.out.dig hzL
  · exact cells_one _
  · unfold maxLen; omega
  · omega
  · exact HW3.out.size
  intro v4 w4 h2 h3 _ h4
  have hd1 : ((L.take z).drop 1).length = z - 1 := by rw [List.length_drop, List.length_take]; omega
  have HW4 := Lib.hid (HW3.out.stepN ((L.take z).drop 1) (by rw [hd1]; omega) (by rw [hd1]; exact h2) h3 (by rcases h4 with h4 | h4; exact .inl h4; exact .inr ⟨_, h4, Nat.le_refl _⟩))
  obtain ⟨l4, hl4⟩ : ∃ l, l = l3 ++ (L.take z).drop 1 := ⟨_, rfl⟩
  rw [← hl4] at HW4
  have hn4 : l4.length ≤ l3.length + z := by rw [hl4, List.length_append, hd1]; omega
  have HL4 := Lib.hid hl4
  clear h2 h3 h4 hl4 hd1
  go_wp2_with fail
  go_loopg [0, 114] 0 (fun g s0 s114 wx => s0 = v4 ∧ s114 = .int .i64 0 ∧ w4 = wx)
  case atStart => exact ⟨rfl, rfl, rfl⟩
  case round =>
    obtain ⟨rfl, rfl, rfl⟩ := hrel
    have q8 : ¬ ((0 : Int) < 0) := by omega
    go_wp2_with (at_builtin; refine out1 HW4 101 (by omega) hi hz0 hz1 hz2 120 122 rfl rfl rfl rfl rfl ?_)
    intro v5 w5 l5 HL5 hn5 HW5
    go_wp2_with (at_builtin; refine out1 HW5 45 (by omega) hi hz0 hz1 hz2 132 134 rfl rfl rfl rfl rfl ?_)
    intro v6 w6 l6 HL6 hn6 HW6
    have x1 : decide ((e0 : Int) < 10) = false := decide_eq_false (by omega)
    have x2 : decide ((e0 : Int) < 100) = false := decide_eq_false (by omega)
    go_wp2_with (at_builtin; refine outN HW6 (xx e0) 3 (xx_len3 e0 (by omega) (by omega)) (by omega) hi hz0 hz1 hz2 136 150 rfl rfl rfl rfl (news := [_, _, _]) (xx_cells3 e0 (by omega) (by omega)) ?_; refine Hid.out ?_)
    refine Lib.hid ?_
    intro v7 w7 HW7
    go_wp2
    go_ret
    refine ⟨_, rfl, ?_⟩
    have h := HW7.out
    rw [HL6.out, HL5.out, HL4.out, HL3.out, HL2.out, HL1.out, HL0.out] at h
    rw [HT.out]
    simpa using h
end Go.Proofs.YtghajgdiaopioaaGreatDoor
