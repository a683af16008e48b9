/- Walks: a whole number's text with a sign is read (162). -/
import Derived.Test.YtghajgdiaopioaaGreatDoorW06
set_option linter.unusedVariables false
set_option linter.unusedSimpArgs false

namespace Go.Proofs.YtghajgdiaopioaaGreatDoor
open Go.RowKit

set_option maxRecDepth 10000 in
set_option maxHeartbeats 1000000 in
theorem readFloat_neg (s : ByteArray) (D : List UInt8) (w : World) (hs : toL s = 45 :: D) (hD : ∀ c ∈ D, isDg c) (h1 : 1 ≤ D.length) (h18 : D.length ≤ 18) (hz : D.length ≤ 2 ∨ D[0]? ≠ some 48) :
    Calls Tryz.prog 162 #[.string s] w fun e w' => e = .returned (.tuple #[.int .u64 (vald D), .int .i64 0, .bool true, .bool false, .bool false, .int .i64 s.size, .bool true]) ∧ w = w' := by
  have hsz : s.size = D.length + 1 := by rw [← toL_length, hs]; rfl
  have hgeq : ∀ (k : Nat) (h : k + 1 < s.size) (hk : k < D.length), s[k + 1] = D[k] := fun k h hk => by
    have := toL_get s (k + 1) h
    rw [← this]
    simp [hs]
  have hget : ∀ (k : Nat) (h : k + 1 < s.size), isDg (s[k + 1]) := fun k h => by
    rw [hgeq k h (by omega)]
    exact hD _ (List.getElem_mem _)
  obtain ⟨hp0, hp1⟩ : 0 < s.size ∧ 1 < s.size := by omega
  have tD : decide (s = ByteArray.empty) = false := decide_eq_false fun h => by
    have h2 : s.size = 0 := by rw [h]; rfl
    omega
  have hc0 : s[0]'hp0 = 45 := by
    rw [← toL_get s 0 (by omega)]
    simp [hs]
  obtain ⟨c1, hc1⟩ : ∃ c : UInt8, s[1]'hp1 = c := ⟨_, rfl⟩
  have hs0 : 2 ≤ s.size := by omega
  have HSZ := Lib.hid hsz
  have HHS := Lib.hid hs
  clear hs
  by_cases h2 : D.length ≤ 2
  · have t12 : decide ((3 : Int) < (s.size : Int)) = false := decide_eq_false (by omega)
    have t0 : decide ((s.size : Int) ≤ 0) = false := decide_eq_false (by omega)
    have HG := Lib.hid hgeq
    have HGET := Lib.hid hget
    clear hsz hgeq hget
    go_enter Tryz.func162, Tryz.ntmps162
    go_wp2_with fail
    go_step3
    go_wp2_with fail
    apply wp_label
    go_wp2_with fail
    go_loopg [2, 5, 7, 9, 13, 14, 15, 16, 17] D.length (fun g s2 s5 s7 s9 s13 s14 s15 s16 s17 wx => w = wx ∧ s5 = .bool false ∧ s9 = .bool false ∧ s13 = .bool false ∧ ∃ (k j nd mant : Nat) (dp : Int), k ≤ D.length ∧ k + g = D.length ∧ j = k + 1 ∧ s2 = .int .u64 mant ∧ s7 = .int .i64 j ∧ s14 = .bool (decide (0 < k)) ∧ s15 = .int .i64 nd ∧ s16 = .int .i64 nd ∧ s17 = .int .i64 dp ∧ nd ≤ k ∧ 0 ≤ dp + k ∧ dp ≤ 0 ∧ mant < 10 ^ nd ∧ Hid (mant = vald (D.take k)))
    case atStart => exact ⟨rfl, rfl, rfl, rfl, 0, 1, 0, 0, 0, Nat.zero_le _, by omega, rfl, rfl, rfl, rfl, rfl, rfl, rfl, by omega, by omega, by omega, by simp, Lib.hid rfl⟩
    case round =>
      obtain ⟨rfl, rfl, rfl, rfl, k, j, nd, mant, dp, hk, hg, hj, rfl, rfl, rfl, rfl, rfl, rfl, hnd, hdp0, hdp1, hm, hv⟩ := hrel
      have hmb : mant < 1000000000000000000 := Nat.lt_of_lt_of_le hm (Nat.le_trans (Nat.pow_le_pow_right (by decide) (show nd ≤ 18 by omega)) (by decide))
      have HM := Lib.hid hm
      clear hm
      by_cases hlt : k < D.length
      · subst hj
        obtain ⟨c, hc⟩ : ∃ c : UInt8, s[k + 1]'(by have := HSZ.out; omega) = c := ⟨_, rfl⟩
        have hdc := HGET.out k (by have := HSZ.out; omega)
        rw [hc] at hdc
        have htk : D.take (k + 1) = D.take k ++ [c] := by rw [List.take_succ_eq_append_getElem hlt, ← HG.out k (by have := HSZ.out; omega) hlt, hc]
        have hlt2 : k + 1 < s.size := by have := HSZ.out; omega
        have HTK := Lib.hid htk
        have l1 : (48 : Int) ≤ (c.toNat : Int) := by have := hdc.1; omega
        have l2 : (c.toNat : Int) ≤ 57 := by have := hdc.2; omega
        have n1 : ((c.toNat : Int) == 95) = false := by rw [beq_eq_false_iff_ne]; intro h; omega
        have n2 : ((c.toNat : Int) == 46) = false := by rw [beq_eq_false_iff_ne]; intro h; omega
        have n19 : decide ((nd : Int) < 19) = true := decide_eq_true (by omega)
        clear hdc htk
        by_cases hz : nd = 0
        · subst hz
          have hm0 : mant = 0 := by have := HM.out; omega
          subst hm0
          by_cases h48 : c = 48
          · subst h48
            go_wp2
            go_roundg (D.length - (k + 1))
            case measure => omega
            case rel =>
              refine ⟨rfl, rfl, rfl, rfl, k + 1, k + 1 + 1, 0, 0, dp - 1, by omega, by omega, rfl, rfl, by go_num, ?_, rfl, rfl, by go_num, by omega, by omega, by omega, by decide, Lib.hid ?_⟩
              · simp
              · rw [HTK.out, vald_snoc, ← hv.out]; rfl
          · have n3 : ((c.toNat : Int) == 48) = false := eq_i 48 h48
            go_wp2
            go_roundg (D.length - (k + 1))
            case measure => omega
            case rel =>
              refine ⟨rfl, rfl, rfl, rfl, k + 1, k + 1 + 1, 1, c.toNat - 48, dp, by omega, by omega, rfl, ?_, by go_num, ?_, by go_num, by go_num, rfl, by omega, by omega, by omega, by omega, Lib.hid ?_⟩
              · congr 1; omega
              · simp
              · rw [HTK.out, vald_snoc, ← hv.out]; omega
        · have n4 : ((nd : Int) == 0) = false := by rw [beq_eq_false_iff_ne]; intro h; omega
          go_wp2
          all_goals
            go_roundg (D.length - (k + 1))
            case measure => omega
            case rel =>
              refine ⟨rfl, rfl, rfl, rfl, k + 1, k + 1 + 1, nd + 1, mant * 10 + (c.toNat - 48), dp, by omega, by omega, rfl, ?_, by go_num, ?_, by go_num, by go_num, rfl, by omega, by omega, by omega, ?_, Lib.hid ?_⟩
              · congr 1; omega
              · simp
              · have := HM.out; rw [Nat.pow_succ]; omega
              · rw [HTK.out, vald_snoc, ← hv.out]
      · obtain rfl : k = D.length := by omega
        obtain rfl : j = s.size := by have := HSZ.out; omega
        have hkz : ¬ ((s.size : Int) < (s.size : Int)) := by omega
        clear hj
        have h0 : decide (0 < D.length) = true := decide_eq_true (by omega)
        have hvv := hv.out
        rw [List.take_length] at hvv
        have HVV := Lib.hid hvv
        clear hvv hv
        go_wp2
        all_goals
          refine bodyPost_ret (v := .tuple #[.int .u64 mant, .int .i64 0, .bool true, .bool false, .bool false, .int .i64 s.size, .bool true]) (by simp [results, Tryz.results162, go_sem]) rfl ⟨?_, rfl⟩
          rw [HVV.out]
  · have e48 : ((c1.toNat : Int) == 48) = false := by
      refine eq_i 48 ?_
      rintro rfl
      rcases hz with hz | hz
      · exact h2 hz
      · have := hgeq 0 (by omega) (by omega)
        rw [hc1] at this
        apply hz
        rw [List.getElem?_eq_getElem (by omega), ← this]
    have t12 : decide ((3 : Int) < (s.size : Int)) = true := decide_eq_true (by omega)
    have t0 : decide ((s.size : Int) ≤ 0) = false := decide_eq_false (by omega)
    have HG := Lib.hid hgeq
    have HGET := Lib.hid hget
    clear hsz hgeq hget
    go_enter Tryz.func162, Tryz.ntmps162
    go_wp2_with fail
    go_step3
    go_wp2_with fail
    apply wp_label
    go_wp2_with fail
    go_loopg [2, 5, 7, 9, 13, 14, 15, 16, 17] D.length (fun g s2 s5 s7 s9 s13 s14 s15 s16 s17 wx => w = wx ∧ s5 = .bool false ∧ s9 = .bool false ∧ s13 = .bool false ∧ ∃ (k j nd mant : Nat) (dp : Int), k ≤ D.length ∧ k + g = D.length ∧ j = k + 1 ∧ s2 = .int .u64 mant ∧ s7 = .int .i64 j ∧ s14 = .bool (decide (0 < k)) ∧ s15 = .int .i64 nd ∧ s16 = .int .i64 nd ∧ s17 = .int .i64 dp ∧ nd ≤ k ∧ 0 ≤ dp + k ∧ dp ≤ 0 ∧ mant < 10 ^ nd ∧ Hid (mant = vald (D.take k)))
    case atStart => exact ⟨rfl, rfl, rfl, rfl, 0, 1, 0, 0, 0, Nat.zero_le _, by omega, rfl, rfl, rfl, rfl, rfl, rfl, rfl, by omega, by omega, by omega, by simp, Lib.hid rfl⟩
    case round =>
      obtain ⟨rfl, rfl, rfl, rfl, k, j, nd, mant, dp, hk, hg, hj, rfl, rfl, rfl, rfl, rfl, rfl, hnd, hdp0, hdp1, hm, hv⟩ := hrel
      have hmb : mant < 1000000000000000000 := Nat.lt_of_lt_of_le hm (Nat.le_trans (Nat.pow_le_pow_right (by decide) (show nd ≤ 18 by omega)) (by decide))
      have HM := Lib.hid hm
      clear hm
      by_cases hlt : k < D.length
      · subst hj
        obtain ⟨c, hc⟩ : ∃ c : UInt8, s[k + 1]'(by have := HSZ.out; omega) = c := ⟨_, rfl⟩
        have hdc := HGET.out k (by have := HSZ.out; omega)
        rw [hc] at hdc
        have htk : D.take (k + 1) = D.take k ++ [c] := by rw [List.take_succ_eq_append_getElem hlt, ← HG.out k (by have := HSZ.out; omega) hlt, hc]
        have hlt2 : k + 1 < s.size := by have := HSZ.out; omega
        have HTK := Lib.hid htk
        have l1 : (48 : Int) ≤ (c.toNat : Int) := by have := hdc.1; omega
        have l2 : (c.toNat : Int) ≤ 57 := by have := hdc.2; omega
        have n1 : ((c.toNat : Int) == 95) = false := by rw [beq_eq_false_iff_ne]; intro h; omega
        have n2 : ((c.toNat : Int) == 46) = false := by rw [beq_eq_false_iff_ne]; intro h; omega
        have n19 : decide ((nd : Int) < 19) = true := decide_eq_true (by omega)
        clear hdc htk
        by_cases hz : nd = 0
        · subst hz
          have hm0 : mant = 0 := by have := HM.out; omega
          subst hm0
          by_cases h48 : c = 48
          · subst h48
            go_wp2
            go_roundg (D.length - (k + 1))
            case measure => omega
            case rel =>
              refine ⟨rfl, rfl, rfl, rfl, k + 1, k + 1 + 1, 0, 0, dp - 1, by omega, by omega, rfl, rfl, by go_num, ?_, rfl, rfl, by go_num, by omega, by omega, by omega, by decide, Lib.hid ?_⟩
              · simp
              · rw [HTK.out, vald_snoc, ← hv.out]; rfl
          · have n3 : ((c.toNat : Int) == 48) = false := eq_i 48 h48
            go_wp2
            go_roundg (D.length - (k + 1))
            case measure => omega
            case rel =>
              refine ⟨rfl, rfl, rfl, rfl, k + 1, k + 1 + 1, 1, c.toNat - 48, dp, by omega, by omega, rfl, ?_, by go_num, ?_, by go_num, by go_num, rfl, by omega, by omega, by omega, by omega, Lib.hid ?_⟩
              · congr 1; omega
              · simp
              · rw [HTK.out, vald_snoc, ← hv.out]; omega
        · have n4 : ((nd : Int) == 0) = false := by rw [beq_eq_false_iff_ne]; intro h; omega
          go_wp2
          all_goals
            go_roundg (D.length - (k + 1))
            case measure => omega
            case rel =>
              refine ⟨rfl, rfl, rfl, rfl, k + 1, k + 1 + 1, nd + 1, mant * 10 + (c.toNat - 48), dp, by omega, by omega, rfl, ?_, by go_num, ?_, by go_num, by go_num, rfl, by omega, by omega, by omega, ?_, Lib.hid ?_⟩
              · congr 1; omega
              · simp
              · have := HM.out; rw [Nat.pow_succ]; omega
              · rw [HTK.out, vald_snoc, ← hv.out]
      · obtain rfl : k = D.length := by omega
        obtain rfl : j = s.size := by have := HSZ.out; omega
        have hkz : ¬ ((s.size : Int) < (s.size : Int)) := by omega
        clear hj
        have h0 : decide (0 < D.length) = true := decide_eq_true (by omega)
        have hvv := hv.out
        rw [List.take_length] at hvv
        have HVV := Lib.hid hvv
        clear hvv hv
        go_wp2
        all_goals
          refine bodyPost_ret (v := .tuple #[.int .u64 mant, .int .i64 0, .bool true, .bool false, .bool false, .int .i64 s.size, .bool true]) (by simp [results, Tryz.results162, go_sem]) rfl ⟨?_, rfl⟩
          rw [HVV.out]
end Go.Proofs.YtghajgdiaopioaaGreatDoor

/- Walks: the shortest digits (158). -/
namespace Go.Proofs.YtghajgdiaopioaaGreatDoor
open Go.RowKit

/-- The shortest digits, and their place. -/
def zShort (p dmin dmax um : Int) : Int × Int :=
  if IntKind.u64.wrap (IntKind.u64.wrap (dmax.tdiv 10) * 10) < dmin then (if dmin < dmax then (um, -p) else (dmin, -p))
  else (IntKind.u64.wrap (dmax.tdiv 10), -(p - 1))
abbrev zU (x H L s : Nat) : Int := zUsc (mulHi x H) (mulLo x H) (mulHi x L) s
set_option maxRecDepth 10000 in
set_option maxHeartbeats 1000000 in
theorem short2_calls (m i s H L mn mx : Nat) (e p odd : Int) (w : World) (hm : m < 18446744073709551616) (hH : H < 18446744073709551616) (hL : L < 18446744073709551616) (hmnl : mn < 18446744073709551616) (hmxl : mx < 18446744073709551616) (hs : s < 64) (hi : i < 696)
    (hm0 : ((m : Int) == 9223372036854775808) = false) (he : decide (-1085 ≤ e) = true)
    (hp : wrap64 (-zLog10P2 (wrap64 (e + 11))) = p) (hpi : p + 348 = i) (hmn : IntKind.u64.wrap ((m : Int) - 1024) = mn) (hmx : IntKind.u64.wrap ((m : Int) + 1024) = mx)
    (hodd : bits BinOp.and IntKind.i64 ((m : Int) / 2048) 1 = odd)
    (hse : wrap64 (-(wrap64 (wrap64 (e + zLog2P10 p) + 3))) = (s : Int))
    (tH : w.cell? ⟨22, i * 2, none⟩ = some (.int .u64 H)) (tL : w.cell? ⟨22, i * 2 + 1, none⟩ = some (.int .u64 L)) :
    Calls Tryz.prog 158 #[.int .u64 m, .int .i64 e] w fun e' w' => (∃ r, r = zShort p (zCeil (zNudge (zU mn H L s) odd)) (zFloor (zNudge (zU mx H L s) (wrap64 (-odd)))) (zRound (zU m H L s)) ∧ e' = .returned (.tuple #[.int .u64 r.1, .int .i64 r.2])) ∧ Bel w w' := by
  have h22 : 22 < w.heap.size := World.block_lt_of_cell? w _ tH
  obtain ⟨w1, hw1⟩ : ∃ w1, w.alloc (.cells #[.int .u64 0, .int .u64 0, .int .i64 0] 246) = w1 := ⟨_, rfl⟩
  have hb1 : w1.heap[w.heap.size]? = some (.cells #[.int .u64 0, .int .u64 0, .int .i64 0] 246 (0, 0)) := by rw [← hw1]; exact heap_alloc_new w _
  have hbel : Bel w w1 := by rw [← hw1]; exact Bel.al _ _
  have tH1 := hbel.cellOf tH
  have tL1 := hbel.cellOf tL
  have HP := Lib.hid (prescale_calls w.heap.size i e p (zLog2P10 p) H L hpi hi w1 _ _ _ hb1 h22 tH1 tL1)
  rw [hse] at HP
  have HW1 := Lib.hid hw1
  have HBEL := Lib.hid hbel
  clear hw1 hbel tH1 tL1 hb1
  go_enter Tryz.func158, Tryz.ntmps158
  go_wp2_with (first | (go_at_call 137; refine (log10p2_calls _ _).mono ?_; rintro e' w' ⟨rfl, rfl⟩) | (go_at_call 179; refine (log2p10_calls _ _).mono ?_; rintro e' w' ⟨rfl, rfl⟩; rw [HW1.out]) | (go_at_call 178; refine HP.out.mono ?_; rintro e' w2 ⟨rfl, hbw, hh⟩; replace hbw := fun B (hB : B = w.heap.size) => (show Below B w1 w2 by subst hB; exact hbw); obtain ⟨hw, hhw⟩ : ∃ h, w2.heap = h := ⟨_, rfl⟩; rw [hhw] at hh) | (go_at_call 180; (first | (with_reducible refine (uscale_calls mn H L s _ _ hmnl hH hL hs (by rw [hhw]; exact hh)).mono ?_) | (with_reducible refine (uscale_calls mx H L s _ _ hmxl hH hL hs (by rw [hhw]; exact hh)).mono ?_) | (with_reducible refine (uscale_calls m H L s _ _ hm hH hL hs (by rw [hhw]; exact hh)).mono ?_)); rintro e' w3 ⟨rfl, hh3, hb3⟩; rw [hhw] at hh3; replace hbw := fun B (hB : B = w.heap.size) => (hbw B hB).trans (hb3 B); replace hhw := hh3) | (go_at_call 181; refine (nudge_calls _ _ _).mono ?_; rintro e' w' ⟨rfl, rfl⟩) | (go_at_call 182; refine (ceil_calls _ _).mono ?_; rintro e' w' ⟨rfl, rfl⟩) | (go_at_call 183; refine (floor_calls _ _).mono ?_; rintro e' w' ⟨rfl, rfl⟩) | (go_at_call 184; refine (round_calls _ _).mono ?_; rintro e' w' ⟨rfl, rfl⟩))
  all_goals
    go_ret2
    refine ⟨⟨(_, _), ?_, rfl⟩, ?_⟩
    · unfold zShort zU
      (repeat' split) <;> first | rfl | omega
    · exact Below.trans HBEL.out (hbw _ rfl)
set_option maxRecDepth 10000 in
set_option maxHeartbeats 1000000 in
theorem short1_calls (m i s H L mn mx : Nat) (e p odd : Int) (w : World) (hm : m < 18446744073709551616) (hH : H < 18446744073709551616) (hL : L < 18446744073709551616) (hmnl : mn < 18446744073709551616) (hmxl : mx < 18446744073709551616) (hs : s < 64) (hi : i < 696)
    (hm0 : ((m : Int) == 9223372036854775808) = true) (he : decide (-1085 < e) = true)
    (hp : wrap64 (-zSkew (wrap64 (e + 11))) = p) (hpi : p + 348 = i) (hmn : IntKind.u64.wrap ((m : Int) - 512) = mn) (hmx : IntKind.u64.wrap ((m : Int) + 1024) = mx)
    (hodd : bits BinOp.and IntKind.i64 ((m : Int) / 2048) 1 = odd)
    (hse : wrap64 (-(wrap64 (wrap64 (e + zLog2P10 p) + 3))) = (s : Int))
    (tH : w.cell? ⟨22, i * 2, none⟩ = some (.int .u64 H)) (tL : w.cell? ⟨22, i * 2 + 1, none⟩ = some (.int .u64 L)) :
    Calls Tryz.prog 158 #[.int .u64 m, .int .i64 e] w fun e' w' => (∃ r, r = zShort p (zCeil (zNudge (zU mn H L s) odd)) (zFloor (zNudge (zU mx H L s) (wrap64 (-odd)))) (zRound (zU m H L s)) ∧ e' = .returned (.tuple #[.int .u64 r.1, .int .i64 r.2])) ∧ Bel w w' := by
  have h22 : 22 < w.heap.size := World.block_lt_of_cell? w _ tH
  obtain ⟨w1, hw1⟩ : ∃ w1, w.alloc (.cells #[.int .u64 0, .int .u64 0, .int .i64 0] 246) = w1 := ⟨_, rfl⟩
  have hb1 : w1.heap[w.heap.size]? = some (.cells #[.int .u64 0, .int .u64 0, .int .i64 0] 246 (0, 0)) := by rw [← hw1]; exact heap_alloc_new w _
  have hbel : Bel w w1 := by rw [← hw1]; exact Bel.al _ _
  have tH1 := hbel.cellOf tH
  have tL1 := hbel.cellOf tL
  have HP := Lib.hid (prescale_calls w.heap.size i e p (zLog2P10 p) H L hpi hi w1 _ _ _ hb1 h22 tH1 tL1)
  rw [hse] at HP
  have HW1 := Lib.hid hw1
  have HBEL := Lib.hid hbel
  clear hw1 hbel tH1 tL1 hb1
  go_enter Tryz.func158, Tryz.ntmps158
  go_wp2_with (first | (go_at_call 177; refine (skew_calls _ _).mono ?_; rintro e' w' ⟨rfl, rfl⟩) | (go_at_call 179; refine (log2p10_calls _ _).mono ?_; rintro e' w' ⟨rfl, rfl⟩; rw [HW1.out]) | (go_at_call 178; refine HP.out.mono ?_; rintro e' w2 ⟨rfl, hbw, hh⟩; replace hbw := fun B (hB : B = w.heap.size) => (show Below B w1 w2 by subst hB; exact hbw); obtain ⟨hw, hhw⟩ : ∃ h, w2.heap = h := ⟨_, rfl⟩; rw [hhw] at hh) | (go_at_call 180; (first | (with_reducible refine (uscale_calls mn H L s _ _ hmnl hH hL hs (by rw [hhw]; exact hh)).mono ?_) | (with_reducible refine (uscale_calls mx H L s _ _ hmxl hH hL hs (by rw [hhw]; exact hh)).mono ?_) | (with_reducible refine (uscale_calls m H L s _ _ hm hH hL hs (by rw [hhw]; exact hh)).mono ?_)); rintro e' w3 ⟨rfl, hh3, hb3⟩; rw [hhw] at hh3; replace hbw := fun B (hB : B = w.heap.size) => (hbw B hB).trans (hb3 B); replace hhw := hh3) | (go_at_call 181; refine (nudge_calls _ _ _).mono ?_; rintro e' w' ⟨rfl, rfl⟩) | (go_at_call 182; refine (ceil_calls _ _).mono ?_; rintro e' w' ⟨rfl, rfl⟩) | (go_at_call 183; refine (floor_calls _ _).mono ?_; rintro e' w' ⟨rfl, rfl⟩) | (go_at_call 184; refine (round_calls _ _).mono ?_; rintro e' w' ⟨rfl, rfl⟩))
  all_goals
    go_ret2
    refine ⟨⟨(_, _), ?_, rfl⟩, ?_⟩
    · unfold zShort zU
      (repeat' split) <;> first | rfl | omega
    · exact Below.trans HBEL.out (hbw _ rfl)
end Go.Proofs.YtghajgdiaopioaaGreatDoor
