/- Walks: a number's text with a fraction (151), way by way (printed by genFC.py F). -/
import Derived.Test.YtghajgdiaopioaaGreatDoorV10
set_option linter.unusedVariables false
set_option linter.unusedSimpArgs false

namespace Go.Proofs.YtghajgdiaopioaaGreatDoor
open Go.RowKit


set_option maxRecDepth 10000 in
set_option maxHeartbeats 2000000 in
theorem efgF1_p (B0 b z dp : Nat) (dst : Value) (C : Array Value) (e : TypeId) (L T : List UInt8) (w : World) (hw : OutB B0 b C e w dst [] w) (hB : Bytes0 C L) (h1 : 1 ≤ dp) (h6 : dp ≤ 6) (hz : dp < z) (hz20 : z ≤ 20) (hzL : z ≤ L.length) (hT : T = [] ++ L.take dp ++ [46] ++ (L.drop dp).take (z - dp)) :
    Calls Tryz.prog 151 #[dst, .bool false, .slice (some ⟨b, 0, none⟩) 32 32, .int .i64 dp, .int .i64 z, .int .i64 z, .int .u8 103, .bool true] w fun e' w' => ∃ v, e' = .returned v ∧ OutB B0 b C e w v T w' := by
  obtain ⟨i0, hi, hz0, hz1, hz2⟩ := info_parts info5
  have HW0 : Hid (OutB B0 b C e w dst [] w) := Lib.hid hw
  have HBY := Lib.hid hB
  clear hw hB
  obtain ⟨l0, hl0⟩ : ∃ l : List UInt8, l = [] := ⟨_, rfl⟩
  rw [← hl0] at HW0
  have hn0 : l0.length ≤ 5 := by rw [hl0]; decide
  have HL0 := Lib.hid hl0
  clear hl0
  have q1 : decide (z < z) = false := decide_eq_false (by omega)
  have q2 : ((z : Int) != 0) = true := by rw [bne_iff_ne]; omega
  have q2' : ((z : Int) == 0) = false := by rw [beq_eq_false_iff_ne]; omega
  have HT := Lib.hid hT
  clear hT
  have q3 : decide ((dp : Int) - 1 < -4) = false := decide_eq_false (by omega)
  have q4 : decide (6 ≤ (dp : Int) - 1) = false := decide_eq_false (by omega)
  have q5 : decide (dp < z) = true := decide_eq_true (by omega)
  have q6 : decide (0 < dp) = true := decide_eq_true (by omega)
  have q7 : decide ((0 : Int) < (z : Int) - dp) = true := decide_eq_true (by omega)
  have t2 : min (z : Int) dp = dp := by omega
  have t3 : max ((z : Int) - dp) 0 = (z : Int) - dp := by omega
  have t4 : max (0 : Int) (-(dp : Int)) = 0 := by omega
  have t5 : min ((z : Int) - dp) 0 = 0 := by omega
  have t6 : max (0 : Int) ((z : Int) - dp) = (z : Int) - dp := by omega
  have t7 : min ((z : Int) - dp) ((z : Int) - dp) = (z : Int) - dp := by omega
  go_enter Tryz.func151, Tryz.ntmps151
  go_wp2_with fail
  go_loopg [0, 25, 191] (dp) (fun g s0 t0 t1 wr => ∃ i : Nat, i ≤ dp ∧ i + g = dp ∧ t1 = .int .i64 i ∧ Hid (OutB B0 b C e w s0 (l0 ++ (L.drop (0)).take i) wr))
  case atStart => exact ⟨0, Nat.zero_le _, by omega, rfl, Lib.hid (by simpa using HW0.out)⟩
  case round =>
    obtain ⟨i, hi1, hg, rfl, ho⟩ := hrel
    by_cases hlt : i < dp
    · obtain ⟨x, hx⟩ : ∃ x : UInt8, L[(0) + i]? = some x := ⟨L[(0) + i]'(by omega), List.getElem?_eq_getElem (by omega)⟩
      have hcell : wr.cell? ⟨b, (0) + i, none⟩ = some (.int .u8 x.toNat) := by
        have := HBY.out ((0) + i) x hx
        simpa [World.cell?, ho.out.dig] using this
      have htk : (L.drop (0)).take (i + 1) = (L.drop (0)).take i ++ [x] := by rw [List.take_add_one, List.getElem?_drop, hx]; rfl
      have HTK := Lib.hid htk
      clear hx htk
      have hll : (l0 ++ (L.drop (0)).take i).length ≤ 100 := by rw [List.length_append, List.length_take]; omega
      obtain ⟨l, hl⟩ : ∃ l, l0 ++ (L.drop (0)).take i = l := ⟨_, rfl⟩
      have HLL := Lib.hid hl
      rw [hl] at hll ho
      clear hl
      (try simp only [Nat.zero_add] at hcell)
      go_wp2_with (at_builtin; refine wpList_append1_at _ [_] 5 rfl (.tmp 195) (.tmp 197) 92 rfl B0 i0 (.int .u8 0) 1 1 Tryz.underlying92 hi hz0 hz1 hz2 rfl (by decide) _ _ _ rfl ho.out.own _ _ rfl rfl rfl (fun u hu => by simp at hu; subst hu; rfl) (by omega) (by unfold maxLen; omega) ho.out.size ?_)
      intro v' w' h2 h3 h4
      have HN := Lib.hid (ho.out.step x (by omega) h2 h3 h4)
      clear h2 h3 h4
      go_wp2
      go_roundg (dp - (i + 1))
      case measure => omega
      case rel => exact ⟨i + 1, by omega, by omega, by go_num, by rw [HTK.out, ← List.append_assoc, HLL.out]; exact HN⟩
    · have hie : dp = i := by omega
      subst hie
      have hkz : ¬ ((dp : Int) < (dp : Int)) := by omega
      obtain ⟨l2, hl2⟩ : ∃ l, l = l0 ++ (L.drop 0).take dp := ⟨_, rfl⟩
      rw [← hl2] at ho
      have HW2 := ho
      have hn2 : l2.length ≤ l0.length + 20 := by rw [hl2, List.length_append]; simp; omega
      have HL2 := Lib.hid hl2
      clear hl2 ho
      go_wp2_with fail
      clear hkz
      go_loopg [0, 203] 0 (fun g s0 s1 wr => s1 = .int .i64 0 ∧ Hid (OutB B0 b C e w s0 l2 wr))
      case atStart => exact ⟨rfl, HW2⟩
      case round =>
        obtain ⟨rfl, HW2'⟩ := hrel
        have q8 : ¬ ((0 : Int) < 0) := by omega
        clear HW2
        have HW2 := HW2'
        clear HW2'
        go_wp2_with (at_builtin; refine out1 HW2 46 (by omega) hi hz0 hz1 hz2 214 215 rfl rfl rfl rfl rfl ?_)
        intro v3 w3 l3 HL3 hn3 HW3
        go_wp2_with fail
        go_loopg [0, 240] 0 (fun g s0 s1 wr => s1 = .int .i64 0 ∧ Hid (OutB B0 b C e w s0 l3 wr))
        case atStart => exact ⟨rfl, HW3⟩
        case round =>
          obtain ⟨rfl, HW3'⟩ := hrel
          clear HW3
          have HW3 := HW3'
          clear HW3'
          go_wp2_with fail
          go_loopg [0, 30, 247] (z - dp) (fun g s0 t0 t1 wr => ∃ i : Nat, i ≤ z - dp ∧ i + g = z - dp ∧ t1 = .int .i64 i ∧ Hid (OutB B0 b C e w s0 (l3 ++ (L.drop (dp)).take i) wr))
          case atStart => exact ⟨0, Nat.zero_le _, by omega, rfl, Lib.hid (by simpa using HW3.out)⟩
          case round =>
            obtain ⟨i, hi1, hg, rfl, ho⟩ := hrel
            by_cases hlt : i < z - dp
            · obtain ⟨x, hx⟩ : ∃ x : UInt8, L[(dp) + i]? = some x := ⟨L[(dp) + i]'(by omega), List.getElem?_eq_getElem (by omega)⟩
              have hcell : wr.cell? ⟨b, (dp) + i, none⟩ = some (.int .u8 x.toNat) := by
                have := HBY.out ((dp) + i) x hx
                simpa [World.cell?, ho.out.dig] using this
              have htk : (L.drop (dp)).take (i + 1) = (L.drop (dp)).take i ++ [x] := by rw [List.take_add_one, List.getElem?_drop, hx]; rfl
              have HTK := Lib.hid htk
              clear hx htk
              have hll : (l3 ++ (L.drop (dp)).take i).length ≤ 100 := by rw [List.length_append, List.length_take]; omega
              obtain ⟨l, hl⟩ : ∃ l, l3 ++ (L.drop (dp)).take i = l := ⟨_, rfl⟩
              have HLL := Lib.hid hl
              rw [hl] at hll ho
              clear hl
              (try simp only [Nat.zero_add] at hcell)
              go_wp2_with (at_builtin; refine wpList_append1_at _ [_] 5 rfl (.tmp 250) (.tmp 257) 92 rfl B0 i0 (.int .u8 0) 1 1 Tryz.underlying92 hi hz0 hz1 hz2 rfl (by decide) _ _ _ rfl ho.out.own _ _ rfl rfl rfl (fun u hu => by simp at hu; subst hu; rfl) (by omega) (by unfold maxLen; omega) ho.out.size ?_)
              intro v' w' h2 h3 h4
              have HN := Lib.hid (ho.out.step x (by omega) h2 h3 h4)
              clear h2 h3 h4
              go_wp2
              go_roundg (z - dp - (i + 1))
              case measure => omega
              case rel => exact ⟨i + 1, by omega, by omega, by go_num, by rw [HTK.out, ← List.append_assoc, HLL.out]; exact HN⟩
            · have hie : z - dp = i := by omega
              subst hie
              have hkz2 : ¬ (((z - dp : Nat) : Int) < (z : Int) - dp) := by omega
              obtain ⟨l4, hl4⟩ : ∃ l, l = l3 ++ (L.drop dp).take (z - dp) := ⟨_, rfl⟩
              rw [← hl4] at ho
              have HW4 := ho
              have hn4 : l4.length ≤ l3.length + 20 := by rw [hl4, List.length_append]; simp; omega
              have HL4 := Lib.hid hl4
              clear hl4 ho
              go_wp2_with fail
              clear hkz2
              go_loopg [0, 261] 0 (fun g s0 s1 wr => s1 = .int .i64 0 ∧ Hid (OutB B0 b C e w s0 l4 wr))
              case atStart => exact ⟨rfl, HW4⟩
              case round =>
                obtain ⟨rfl, HW4'⟩ := hrel
                clear HW4
                go_wp2
                go_ret
                refine ⟨_, rfl, ?_⟩
                have h := HW4'.out
                rw [HL4.out, HL3.out, HL2.out, HL0.out] at h
                rw [HT.out]
                simpa using h

set_option maxRecDepth 10000 in
set_option maxHeartbeats 2000000 in
theorem efgF0_p (B0 b z q : Nat) (dst : Value) (C : Array Value) (e : TypeId) (L T : List UInt8) (w : World) (hw : OutB B0 b C e w dst [] w) (hB : Bytes0 C L) (h3 : q ≤ 3) (hz : 1 ≤ z) (hz20 : z ≤ 20) (hzL : z ≤ L.length) (hT : T = [] ++ [48] ++ [46] ++ List.replicate q 48 ++ L.take z) :
    Calls Tryz.prog 151 #[dst, .bool false, .slice (some ⟨b, 0, none⟩) 32 32, .int .i64 (-(q : Int)), .int .i64 z, .int .i64 z, .int .u8 103, .bool true] w fun e' w' => ∃ v, e' = .returned v ∧ OutB B0 b C e w v T w' := by
  obtain ⟨i0, hi, hz0, hz1, hz2⟩ := info_parts info5
  have HW0 : Hid (OutB B0 b C e w dst [] w) := Lib.hid hw
  have HBY := Lib.hid hB
  clear hw hB
  obtain ⟨l0, hl0⟩ : ∃ l : List UInt8, l = [] := ⟨_, rfl⟩
  rw [← hl0] at HW0
  have hn0 : l0.length ≤ 5 := by rw [hl0]; decide
  have HL0 := Lib.hid hl0
  clear hl0
  have q1 : decide (z < z) = false := decide_eq_false (by omega)
  have q2 : ((z : Int) != 0) = true := by rw [bne_iff_ne]; omega
  have q2' : ((z : Int) == 0) = false := by rw [beq_eq_false_iff_ne]; omega
  have HT := Lib.hid hT
  clear hT
  have q3 : decide (-(q : Int) - 1 < -4) = false := decide_eq_false (by omega)
  have q4 : decide (6 ≤ -(q : Int) - 1) = false := decide_eq_false (by omega)
  have q5 : decide (-(q : Int) < (z : Int)) = true := decide_eq_true (by omega)
  have q6 : decide (0 < -(q : Int)) = false := decide_eq_false (by omega)
  have q7 : decide ((0 : Int) < (z : Int) + q) = true := decide_eq_true (by omega)
  have t3 : max ((z : Int) - -(q : Int)) 0 = (z : Int) + q := by omega
  have t3' : max ((z : Int) + (q : Int)) 0 = (z : Int) + q := by omega
  have t4 : max (0 : Int) (q : Int) = q := by omega
  have t5 : min ((z : Int) + q) q = q := by omega
  have t6 : max (0 : Int) (z : Int) = z := by omega
  have t7 : (z : Int) + q - q = z := by omega
  have t8 : -(q : Int) + q = 0 := by omega
  go_enter Tryz.func151, Tryz.ntmps151
  go_wp2_with (at_builtin; refine out1 HW0 48 (by omega) hi hz0 hz1 hz2 209 210 rfl rfl rfl rfl rfl ?_)
  intro v2 w2 l2 HL2 hn2 HW2
  go_wp2_with (at_builtin; refine out1 HW2 46 (by omega) hi hz0 hz1 hz2 214 215 rfl rfl rfl rfl rfl ?_)
  intro v3 w3 l3 HL3 hn3 HW3
  go_wp2_with fail
  go_loopg [0, 240] (q) (fun g s0 s1 wr => ∃ j : Nat, j ≤ q ∧ j + g = q ∧ s1 = .int .i64 j ∧ Hid (OutB B0 b C e w s0 (l3 ++ List.replicate j 48) wr))
  case atStart => exact ⟨0, Nat.zero_le _, by omega, rfl, Lib.hid (by simpa using HW3.out)⟩
  case round =>
    obtain ⟨j, hj1, hg, rfl, ho⟩ := hrel
    by_cases hlt : j < q
    · have hll : (l3 ++ List.replicate j (48 : UInt8)).length ≤ 100 := by rw [List.length_append, List.length_replicate]; omega
      obtain ⟨l, hl⟩ : ∃ l, l3 ++ List.replicate j (48 : UInt8) = l := ⟨_, rfl⟩
      have HLL := Lib.hid hl
      rw [hl] at hll ho
      clear hl
      have hjt : ((j : Int) < ((q : Nat) : Int)) := by omega
      go_wp2_with (at_builtin; refine wpList_append1_at _ [_] 5 rfl (.tmp 242) (.tmp 243) 92 rfl B0 i0 (.int .u8 0) 1 1 Tryz.underlying92 hi hz0 hz1 hz2 rfl (by decide) _ _ _ rfl ho.out.own _ _ rfl rfl rfl (fun u hu => by simp at hu; subst hu; rfl) (by omega) (by unfold maxLen; omega) ho.out.size ?_)
      intro v' w' h2 h3 h4
      have HN := Lib.hid (ho.out.step 48 (by omega) h2 h3 h4)
      clear h2 h3 h4
      go_wp2
      go_roundg (q - (j + 1))
      case measure => omega
      case rel => exact ⟨j + 1, by omega, by omega, by go_num, by rw [List.replicate_succ', ← List.append_assoc, HLL.out]; exact HN⟩
    · have hie : q = j := by omega
      subst hie
      have hkz : ¬ ((q : Int) < (q : Int)) := by omega
      obtain ⟨l4, hl4⟩ : ∃ l, l = l3 ++ List.replicate q 48 := ⟨_, rfl⟩
      rw [← hl4] at ho
      have HW4 := ho
      have hn4 : l4.length ≤ l3.length + 20 := by rw [hl4, List.length_append]; simp; omega
      have HL4 := Lib.hid hl4
      clear hl4 ho
      go_wp2_with fail
      clear hkz
      go_loopg [0, 30, 247] (z) (fun g s0 t0 t1 wr => ∃ i : Nat, i ≤ z ∧ i + g = z ∧ t1 = .int .i64 i ∧ Hid (OutB B0 b C e w s0 (l4 ++ (L.drop (0)).take i) wr))
      case atStart => exact ⟨0, Nat.zero_le _, by omega, rfl, Lib.hid (by simpa using HW4.out)⟩
      case round =>
        obtain ⟨i, hi1, hg, rfl, ho⟩ := hrel
        by_cases hlt : i < z
        · obtain ⟨x, hx⟩ : ∃ x : UInt8, L[(0) + i]? = some x := ⟨L[(0) + i]'(by omega), List.getElem?_eq_getElem (by omega)⟩
          have hcell : wr.cell? ⟨b, (0) + i, none⟩ = some (.int .u8 x.toNat) := by
            have := HBY.out ((0) + i) x hx
            simpa [World.cell?, ho.out.dig] using this
          have htk : (L.drop (0)).take (i + 1) = (L.drop (0)).take i ++ [x] := by rw [List.take_add_one, List.getElem?_drop, hx]; rfl
          have HTK := Lib.hid htk
          clear hx htk
          have hll : (l4 ++ (L.drop (0)).take i).length ≤ 100 := by rw [List.length_append, List.length_take]; omega
          obtain ⟨l, hl⟩ : ∃ l, l4 ++ (L.drop (0)).take i = l := ⟨_, rfl⟩
          have HLL := Lib.hid hl
          rw [hl] at hll ho
          clear hl
          (try simp only [Nat.zero_add] at hcell)
          go_wp2_with (at_builtin; refine wpList_append1_at _ [_] 5 rfl (.tmp 250) (.tmp 257) 92 rfl B0 i0 (.int .u8 0) 1 1 Tryz.underlying92 hi hz0 hz1 hz2 rfl (by decide) _ _ _ rfl ho.out.own _ _ rfl rfl rfl (fun u hu => by simp at hu; subst hu; rfl) (by omega) (by unfold maxLen; omega) ho.out.size ?_)
          intro v' w' h2 h3 h4
          have HN := Lib.hid (ho.out.step x (by omega) h2 h3 h4)
          clear h2 h3 h4
          go_wp2
          go_roundg (z - (i + 1))
          case measure => omega
          case rel => exact ⟨i + 1, by omega, by omega, by go_num, by rw [HTK.out, ← List.append_assoc, HLL.out]; exact HN⟩
        · have hie : z = i := by omega
          subst hie
          have hkz2 : ¬ ((z : Int) < (z : Int)) := by omega
          obtain ⟨l5, hl5⟩ : ∃ l, l = l4 ++ (L.drop 0).take z := ⟨_, rfl⟩
          rw [← hl5] at ho
          have HW5 := ho
          have hn5 : l5.length ≤ l4.length + 20 := by rw [hl5, List.length_append]; simp; omega
          have HL5 := Lib.hid hl5
          clear hl5 ho
          go_wp2_with fail
          clear hkz2
          go_loopg [0, 261] 0 (fun g s0 s1 wr => s1 = .int .i64 0 ∧ Hid (OutB B0 b C e w s0 l5 wr))
          case atStart => exact ⟨rfl, HW5⟩
          case round =>
            obtain ⟨rfl, HW5'⟩ := hrel
            clear HW5
            go_wp2
            go_ret
            refine ⟨_, rfl, ?_⟩
            have h := HW5'.out
            rw [HL5.out, HL4.out, HL3.out, HL2.out, HL0.out] at h
            rw [HT.out]
            simpa using h

set_option maxRecDepth 10000 in
set_option maxHeartbeats 2000000 in
theorem efgF1_n (B0 b z dp : Nat) (dst : Value) (C : Array Value) (e : TypeId) (L T : List UInt8) (w : World) (hw : OutB B0 b C e w dst [] w) (hB : Bytes0 C L) (h1 : 1 ≤ dp) (h6 : dp ≤ 6) (hz : dp < z) (hz20 : z ≤ 20) (hzL : z ≤ L.length) (hT : T = [45] ++ L.take dp ++ [46] ++ (L.drop dp).take (z - dp)) :
    Calls Tryz.prog 151 #[dst, .bool true, .slice (some ⟨b, 0, none⟩) 32 32, .int .i64 dp, .int .i64 z, .int .i64 z, .int .u8 103, .bool true] w fun e' w' => ∃ v, e' = .returned v ∧ OutB B0 b C e w v T w' := by
  obtain ⟨i0, hi, hz0, hz1, hz2⟩ := info_parts info5
  have HW0 : Hid (OutB B0 b C e w dst [] w) := Lib.hid hw
  have HBY := Lib.hid hB
  clear hw hB
  obtain ⟨l0, hl0⟩ : ∃ l : List UInt8, l = [] := ⟨_, rfl⟩
  rw [← hl0] at HW0
  have hn0 : l0.length ≤ 5 := by rw [hl0]; decide
  have HL0 := Lib.hid hl0
  clear hl0
  have q1 : decide (z < z) = false := decide_eq_false (by omega)
  have q2 : ((z : Int) != 0) = true := by rw [bne_iff_ne]; omega
  have q2' : ((z : Int) == 0) = false := by rw [beq_eq_false_iff_ne]; omega
  have HT := Lib.hid hT
  clear hT
  have q3 : decide ((dp : Int) - 1 < -4) = false := decide_eq_false (by omega)
  have q4 : decide (6 ≤ (dp : Int) - 1) = false := decide_eq_false (by omega)
  have q5 : decide (dp < z) = true := decide_eq_true (by omega)
  have q6 : decide (0 < dp) = true := decide_eq_true (by omega)
  have q7 : decide ((0 : Int) < (z : Int) - dp) = true := decide_eq_true (by omega)
  have t2 : min (z : Int) dp = dp := by omega
  have t3 : max ((z : Int) - dp) 0 = (z : Int) - dp := by omega
  have t4 : max (0 : Int) (-(dp : Int)) = 0 := by omega
  have t5 : min ((z : Int) - dp) 0 = 0 := by omega
  have t6 : max (0 : Int) ((z : Int) - dp) = (z : Int) - dp := by omega
  have t7 : min ((z : Int) - dp) ((z : Int) - dp) = (z : Int) - dp := by omega
  go_enter Tryz.func151, Tryz.ntmps151
  go_wp2_with (at_builtin; refine out1 HW0 45 (by omega) hi hz0 hz1 hz2 179 180 rfl rfl rfl rfl rfl ?_)
  intro v1 w1 l1 HL1 hn1 HW1
  go_wp2_with fail
  go_loopg [0, 25, 191] (dp) (fun g s0 t0 t1 wr => ∃ i : Nat, i ≤ dp ∧ i + g = dp ∧ t1 = .int .i64 i ∧ Hid (OutB B0 b C e w s0 (l1 ++ (L.drop (0)).take i) wr))
  case atStart => exact ⟨0, Nat.zero_le _, by omega, rfl, Lib.hid (by simpa using HW1.out)⟩
  case round =>
    obtain ⟨i, hi1, hg, rfl, ho⟩ := hrel
    by_cases hlt : i < dp
    · obtain ⟨x, hx⟩ : ∃ x : UInt8, L[(0) + i]? = some x := ⟨L[(0) + i]'(by omega), List.getElem?_eq_getElem (by omega)⟩
      have hcell : wr.cell? ⟨b, (0) + i, none⟩ = some (.int .u8 x.toNat) := by
        have := HBY.out ((0) + i) x hx
        simpa [World.cell?, ho.out.dig] using this
      have htk : (L.drop (0)).take (i + 1) = (L.drop (0)).take i ++ [x] := by rw [List.take_add_one, List.getElem?_drop, hx]; rfl
      have HTK := Lib.hid htk
      clear hx htk
      have hll : (l1 ++ (L.drop (0)).take i).length ≤ 100 := by rw [List.length_append, List.length_take]; omega
      obtain ⟨l, hl⟩ : ∃ l, l1 ++ (L.drop (0)).take i = l := ⟨_, rfl⟩
      have HLL := Lib.hid hl
      rw [hl] at hll ho
      clear hl
      (try simp only [Nat.zero_add] at hcell)
      go_wp2_with (at_builtin; refine wpList_append1_at _ [_] 5 rfl (.tmp 195) (.tmp 197) 92 rfl B0 i0 (.int .u8 0) 1 1 Tryz.underlying92 hi hz0 hz1 hz2 rfl (by decide) _ _ _ rfl ho.out.own _ _ rfl rfl rfl (fun u hu => by simp at hu; subst hu; rfl) (by omega) (by unfold maxLen; omega) ho.out.size ?_)
      intro v' w' h2 h3 h4
      have HN := Lib.hid (ho.out.step x (by omega) h2 h3 h4)
      clear h2 h3 h4
      go_wp2
      go_roundg (dp - (i + 1))
      case measure => omega
      case rel => exact ⟨i + 1, by omega, by omega, by go_num, by rw [HTK.out, ← List.append_assoc, HLL.out]; exact HN⟩
    · have hie : dp = i := by omega
      subst hie
      have hkz : ¬ ((dp : Int) < (dp : Int)) := by omega
      obtain ⟨l2, hl2⟩ : ∃ l, l = l1 ++ (L.drop 0).take dp := ⟨_, rfl⟩
      rw [← hl2] at ho
      have HW2 := ho
      have hn2 : l2.length ≤ l1.length + 20 := by rw [hl2, List.length_append]; simp; omega
      have HL2 := Lib.hid hl2
      clear hl2 ho
      go_wp2_with fail
      clear hkz
      go_loopg [0, 203] 0 (fun g s0 s1 wr => s1 = .int .i64 0 ∧ Hid (OutB B0 b C e w s0 l2 wr))
      case atStart => exact ⟨rfl, HW2⟩
      case round =>
        obtain ⟨rfl, HW2'⟩ := hrel
        have q8 : ¬ ((0 : Int) < 0) := by omega
        clear HW2
        have HW2 := HW2'
        clear HW2'
        go_wp2_with (at_builtin; refine out1 HW2 46 (by omega) hi hz0 hz1 hz2 214 215 rfl rfl rfl rfl rfl ?_)
        intro v3 w3 l3 HL3 hn3 HW3
        go_wp2_with fail
        go_loopg [0, 240] 0 (fun g s0 s1 wr => s1 = .int .i64 0 ∧ Hid (OutB B0 b C e w s0 l3 wr))
        case atStart => exact ⟨rfl, HW3⟩
        case round =>
          obtain ⟨rfl, HW3'⟩ := hrel
          clear HW3
          have HW3 := HW3'
          clear HW3'
          go_wp2_with fail
          go_loopg [0, 30, 247] (z - dp) (fun g s0 t0 t1 wr => ∃ i : Nat, i ≤ z - dp ∧ i + g = z - dp ∧ t1 = .int .i64 i ∧ Hid (OutB B0 b C e w s0 (l3 ++ (L.drop (dp)).take i) wr))
          case atStart => exact ⟨0, Nat.zero_le _, by omega, rfl, Lib.hid (by simpa using HW3.out)⟩
          case round =>
            obtain ⟨i, hi1, hg, rfl, ho⟩ := hrel
            by_cases hlt : i < z - dp
            · obtain ⟨x, hx⟩ : ∃ x : UInt8, L[(dp) + i]? = some x := ⟨L[(dp) + i]'(by omega), List.getElem?_eq_getElem (by omega)⟩
              have hcell : wr.cell? ⟨b, (dp) + i, none⟩ = some (.int .u8 x.toNat) := by
                have := HBY.out ((dp) + i) x hx
                simpa [World.cell?, ho.out.dig] using this
              have htk : (L.drop (dp)).take (i + 1) = (L.drop (dp)).take i ++ [x] := by rw [List.take_add_one, List.getElem?_drop, hx]; rfl
              have HTK := Lib.hid htk
              clear hx htk
              have hll : (l3 ++ (L.drop (dp)).take i).length ≤ 100 := by rw [List.length_append, List.length_take]; omega
              obtain ⟨l, hl⟩ : ∃ l, l3 ++ (L.drop (dp)).take i = l := ⟨_, rfl⟩
              have HLL := Lib.hid hl
              rw [hl] at hll ho
              clear hl
              (try simp only [Nat.zero_add] at hcell)
              go_wp2_with (at_builtin; refine wpList_append1_at _ [_] 5 rfl (.tmp 250) (.tmp 257) 92 rfl B0 i0 (.int .u8 0) 1 1 Tryz.underlying92 hi hz0 hz1 hz2 rfl (by decide) _ _ _ rfl ho.out.own _ _ rfl rfl rfl (fun u hu => by simp at hu; subst hu; rfl) (by omega) (by unfold maxLen; omega) ho.out.size ?_)
              intro v' w' h2 h3 h4
              have HN := Lib.hid (ho.out.step x (by omega) h2 h3 h4)
              clear h2 h3 h4
              go_wp2
              go_roundg (z - dp - (i + 1))
              case measure => omega
              case rel => exact ⟨i + 1, by omega, by omega, by go_num, by rw [HTK.out, ← List.append_assoc, HLL.out]; exact HN⟩
            · have hie : z - dp = i := by omega
              subst hie
              have hkz2 : ¬ (((z - dp : Nat) : Int) < (z : Int) - dp) := by omega
              obtain ⟨l4, hl4⟩ : ∃ l, l = l3 ++ (L.drop dp).take (z - dp) := ⟨_, rfl⟩
              rw [← hl4] at ho
              have HW4 := ho
              have hn4 : l4.length ≤ l3.length + 20 := by rw [hl4, List.length_append]; simp; omega
              have HL4 := Lib.hid hl4
              clear hl4 ho
              go_wp2_with fail
              clear hkz2
              go_loopg [0, 261] 0 (fun g s0 s1 wr => s1 = .int .i64 0 ∧ Hid (OutB B0 b C e w s0 l4 wr))
              case atStart => exact ⟨rfl, HW4⟩
              case round =>
                obtain ⟨rfl, HW4'⟩ := hrel
                clear HW4
                go_wp2
                go_ret
                refine ⟨_, rfl, ?_⟩
                have h := HW4'.out
                rw [HL4.out, HL3.out, HL2.out, HL1.out, HL0.out] at h
                rw [HT.out]
                simpa using h

set_option maxRecDepth 10000 in
set_option maxHeartbeats 2000000 in
theorem efgF0_n (B0 b z q : Nat) (dst : Value) (C : Array Value) (e : TypeId) (L T : List UInt8) (w : World) (hw : OutB B0 b C e w dst [] w) (hB : Bytes0 C L) (h3 : q ≤ 3) (hz : 1 ≤ z) (hz20 : z ≤ 20) (hzL : z ≤ L.length) (hT : T = [45] ++ [48] ++ [46] ++ List.replicate q 48 ++ L.take z) :
    Calls Tryz.prog 151 #[dst, .bool true, .slice (some ⟨b, 0, none⟩) 32 32, .int .i64 (-(q : Int)), .int .i64 z, .int .i64 z, .int .u8 103, .bool true] w fun e' w' => ∃ v, e' = .returned v ∧ OutB B0 b C e w v T w' := by
  obtain ⟨i0, hi, hz0, hz1, hz2⟩ := info_parts info5
  have HW0 : Hid (OutB B0 b C e w dst [] w) := Lib.hid hw
  have HBY := Lib.hid hB
  clear hw hB
  obtain ⟨l0, hl0⟩ : ∃ l : List UInt8, l = [] := ⟨_, rfl⟩
  rw [← hl0] at HW0
  have hn0 : l0.length ≤ 5 := by rw [hl0]; decide
  have HL0 := Lib.hid hl0
  clear hl0
  have q1 : decide (z < z) = false := decide_eq_false (by omega)
  have q2 : ((z : Int) != 0) = true := by rw [bne_iff_ne]; omega
  have q2' : ((z : Int) == 0) = false := by rw [beq_eq_false_iff_ne]; omega
  have HT := Lib.hid hT
  clear hT
  have q3 : decide (-(q : Int) - 1 < -4) = false := decide_eq_false (by omega)
  have q4 : decide (6 ≤ -(q : Int) - 1) = false := decide_eq_false (by omega)
  have q5 : decide (-(q : Int) < (z : Int)) = true := decide_eq_true (by omega)
  have q6 : decide (0 < -(q : Int)) = false := decide_eq_false (by omega)
  have q7 : decide ((0 : Int) < (z : Int) + q) = true := decide_eq_true (by omega)
  have t3 : max ((z : Int) - -(q : Int)) 0 = (z : Int) + q := by omega
  have t3' : max ((z : Int) + (q : Int)) 0 = (z : Int) + q := by omega
  have t4 : max (0 : Int) (q : Int) = q := by omega
  have t5 : min ((z : Int) + q) q = q := by omega
  have t6 : max (0 : Int) (z : Int) = z := by omega
  have t7 : (z : Int) + q - q = z := by omega
  have t8 : -(q : Int) + q = 0 := by omega
  go_enter Tryz.func151, Tryz.ntmps151
  go_wp2_with (at_builtin; refine out1 HW0 45 (by omega) hi hz0 hz1 hz2 179 180 rfl rfl rfl rfl rfl ?_)
  intro v1 w1 l1 HL1 hn1 HW1
  go_wp2_with (at_builtin; refine out1 HW1 48 (by omega) hi hz0 hz1 hz2 209 210 rfl rfl rfl rfl rfl ?_)
  intro v2 w2 l2 HL2 hn2 HW2
  go_wp2_with (at_builtin; refine out1 HW2 46 (by omega) hi hz0 hz1 hz2 214 215 rfl rfl rfl rfl rfl ?_)
  intro v3 w3 l3 HL3 hn3 HW3
  go_wp2_with fail
  go_loopg [0, 240] (q) (fun g s0 s1 wr => ∃ j : Nat, j ≤ q ∧ j + g = q ∧ s1 = .int .i64 j ∧ Hid (OutB B0 b C e w s0 (l3 ++ List.replicate j 48) wr))
  case atStart => exact ⟨0, Nat.zero_le _, by omega, rfl, Lib.hid (by simpa using HW3.out)⟩
  case round =>
    obtain ⟨j, hj1, hg, rfl, ho⟩ := hrel
    by_cases hlt : j < q
    · have hll : (l3 ++ List.replicate j (48 : UInt8)).length ≤ 100 := by rw [List.length_append, List.length_replicate]; omega
      obtain ⟨l, hl⟩ : ∃ l, l3 ++ List.replicate j (48 : UInt8) = l := ⟨_, rfl⟩
      have HLL := Lib.hid hl
      rw [hl] at hll ho
      clear hl
      have hjt : ((j : Int) < ((q : Nat) : Int)) := by omega
      go_wp2_with (at_builtin; refine wpList_append1_at _ [_] 5 rfl (.tmp 242) (.tmp 243) 92 rfl B0 i0 (.int .u8 0) 1 1 Tryz.underlying92 hi hz0 hz1 hz2 rfl (by decide) _ _ _ rfl ho.out.own _ _ rfl rfl rfl (fun u hu => by simp at hu; subst hu; rfl) (by omega) (by unfold maxLen; omega) ho.out.size ?_)
      intro v' w' h2 h3 h4
      have HN := Lib.hid (ho.out.step 48 (by omega) h2 h3 h4)
      clear h2 h3 h4
      go_wp2
      go_roundg (q - (j + 1))
      case measure => omega
      case rel => exact ⟨j + 1, by omega, by omega, by go_num, by rw [List.replicate_succ', ← List.append_assoc, HLL.out]; exact HN⟩
    · have hie : q = j := by omega
      subst hie
      have hkz : ¬ ((q : Int) < (q : Int)) := by omega
      obtain ⟨l4, hl4⟩ : ∃ l, l = l3 ++ List.replicate q 48 := ⟨_, rfl⟩
      rw [← hl4] at ho
      have HW4 := ho
      have hn4 : l4.length ≤ l3.length + 20 := by rw [hl4, List.length_append]; simp; omega
      have HL4 := Lib.hid hl4
      clear hl4 ho
      go_wp2_with fail
      clear hkz
      go_loopg [0, 30, 247] (z) (fun g s0 t0 t1 wr => ∃ i : Nat, i ≤ z ∧ i + g = z ∧ t1 = .int .i64 i ∧ Hid (OutB B0 b C e w s0 (l4 ++ (L.drop (0)).take i) wr))
      case atStart => exact ⟨0, Nat.zero_le _, by omega, rfl, Lib.hid (by simpa using HW4.out)⟩
      case round =>
        obtain ⟨i, hi1, hg, rfl, ho⟩ := hrel
        by_cases hlt : i < z
        · obtain ⟨x, hx⟩ : ∃ x : UInt8, L[(0) + i]? = some x := ⟨L[(0) + i]'(by omega), List.getElem?_eq_getElem (by omega)⟩
          have hcell : wr.cell? ⟨b, (0) + i, none⟩ = some (.int .u8 x.toNat) := by
            have := HBY.out ((0) + i) x hx
            simpa [World.cell?, ho.out.dig] using this
          have htk : (L.drop (0)).take (i + 1) = (L.drop (0)).take i ++ [x] := by rw [List.take_add_one, List.getElem?_drop, hx]; rfl
          have HTK := Lib.hid htk
          clear hx htk
          have hll : (l4 ++ (L.drop (0)).take i).length ≤ 100 := by rw [List.length_append, List.length_take]; omega
          obtain ⟨l, hl⟩ : ∃ l, l4 ++ (L.drop (0)).take i = l := ⟨_, rfl⟩
          have HLL := Lib.hid hl
          rw [hl] at hll ho
          clear hl
          (try simp only [Nat.zero_add] at hcell)
          go_wp2_with (at_builtin; refine wpList_append1_at _ [_] 5 rfl (.tmp 250) (.tmp 257) 92 rfl B0 i0 (.int .u8 0) 1 1 Tryz.underlying92 hi hz0 hz1 hz2 rfl (by decide) _ _ _ rfl ho.out.own _ _ rfl rfl rfl (fun u hu => by simp at hu; subst hu; rfl) (by omega) (by unfold maxLen; omega) ho.out.size ?_)
          intro v' w' h2 h3 h4
          have HN := Lib.hid (ho.out.step x (by omega) h2 h3 h4)
          clear h2 h3 h4
          go_wp2
          go_roundg (z - (i + 1))
          case measure => omega
          case rel => exact ⟨i + 1, by omega, by omega, by go_num, by rw [HTK.out, ← List.append_assoc, HLL.out]; exact HN⟩
        · have hie : z = i := by omega
          subst hie
          have hkz2 : ¬ ((z : Int) < (z : Int)) := by omega
          obtain ⟨l5, hl5⟩ : ∃ l, l = l4 ++ (L.drop 0).take z := ⟨_, rfl⟩
          rw [← hl5] at ho
          have HW5 := ho
          have hn5 : l5.length ≤ l4.length + 20 := by rw [hl5, List.length_append]; simp; omega
          have HL5 := Lib.hid hl5
          clear hl5 ho
          go_wp2_with fail
          clear hkz2
          go_loopg [0, 261] 0 (fun g s0 s1 wr => s1 = .int .i64 0 ∧ Hid (OutB B0 b C e w s0 l5 wr))
          case atStart => exact ⟨rfl, HW5⟩
          case round =>
            obtain ⟨rfl, HW5'⟩ := hrel
            clear HW5
            go_wp2
            go_ret
            refine ⟨_, rfl, ?_⟩
            have h := HW5'.out
            rw [HL5.out, HL4.out, HL3.out, HL2.out, HL1.out, HL0.out] at h
            rw [HT.out]
            simpa using h
end Go.Proofs.YtghajgdiaopioaaGreatDoor
