/- Walks: scaling (180). -/
import Derived.Lib.Hide
import Derived.Deep.QuietTactic
import Derived.BigQuiet
import Derived.WalkMore
import Derived.Test.YtghajgdiaopioaaGreatDoorW05
set_option linter.unusedVariables false
set_option linter.unusedSimpArgs false

namespace Go.Proofs.YtghajgdiaopioaaGreatDoor
open Go.RowKit

def mulHi (x y : Nat) : Nat := x * y / 18446744073709551616
def mulLo (x y : Nat) : Nat := x * y % 18446744073709551616
theorem mul64_calls (x y : Nat) (hx : x < 18446744073709551616) (hy : y < 18446744073709551616) (w : World) :
    Calls Tryz.prog 200 #[.int .u64 x, .int .u64 y] w fun e w' => e = .returned (.tuple #[.int .u64 (mulHi x y), .int .u64 (mulLo x y)]) ∧ w = w' :=
  (Tryz.bits_Mul64 x y hx hy w).mono fun _ _ h => ⟨h.1, h.2.symm⟩
def zUsc (hi mid mid2 s : Nat) : Int :=
  if (IntKind.u64.wrap ((hi : Int) / 2 ^ s * 2 ^ s) != (hi : Int)) = true then bits BinOp.or IntKind.u64 ((hi : Int) / 2 ^ s) 1
  else bits BinOp.or IntKind.u64 (IntKind.u64.wrap ((hi : Int) - zB (decide (mid < mid2))) / 2 ^ s) (zB (decide (1 < IntKind.u64.wrap ((mid : Int) - mid2))))
theorem and63 (s : Nat) (hs : s < 64) : bits BinOp.and IntKind.i64 (s : Int) 63 = (s : Int) := by
  have : ∀ k : Fin 64, bits BinOp.and IntKind.i64 (k.val : Int) 63 = (k.val : Int) := by decide +kernel
  exact this ⟨s, hs⟩
set_option maxRecDepth 10000 in
set_option maxHeartbeats 400000 in
theorem uscale_calls (x H L s g : Nat) (w : World) (hx : x < 18446744073709551616) (hH : H < 18446744073709551616) (hL : L < 18446744073709551616) (hs : s < 64)
    (hg : w.heap[g]? = some (.cells #[.int .u64 H, .int .u64 L, .int .i64 s] 246 (0, 0))) :
    Calls Tryz.prog 180 #[.int .u64 x, .pointer (some ⟨g, 0, none⟩)] w fun e w' => e = .returned (.int .u64 (zUsc (mulHi x H) (mulLo x H) (mulHi x L) s)) ∧ w'.heap = w.heap ∧ ∀ B, Below B w w' := by
  have q0 : w.cell? ⟨g, 0, none⟩ = some (.int .u64 H) := by simp [World.cell?, hg]
  have q1 : w.cell? ⟨g, 1, none⟩ = some (.int .u64 L) := by simp [World.cell?, hg]
  have q2 : w.cell? ⟨g, 2, none⟩ = some (.int .i64 s) := by simp [World.cell?, hg]
  have hsa := and63 s hs
  cases hb : (IntKind.u64.wrap ((mulHi x H : Int) / 2 ^ s * 2 ^ s) != (mulHi x H : Int))
  · have he : zUsc (mulHi x H) (mulLo x H) (mulHi x L) s = bits BinOp.or IntKind.u64 (IntKind.u64.wrap ((mulHi x H : Int) - zB (decide (mulLo x H < mulHi x L))) / 2 ^ s) (zB (decide (1 < IntKind.u64.wrap ((mulLo x H : Int) - mulHi x L)))) := by
      unfold zUsc; rw [hb]; rfl
    rw [he]
    clear he
    go_enter Tryz.func180, Tryz.ntmps180
    go_wp2_with (first | (go_at_call 200; refine (mul64_calls x _ hx (by assumption) _).mono ?_; rintro e w' ⟨rfl, rfl⟩) | (go_at_call 170; refine (bool2_calls _ _).mono ?_; rintro e w' ⟨rfl, rfl⟩))
    go_quiet (first | (go_at_call 170; exact Calls.quiet_of_same ((bool2_calls _ _).mono fun _ _ h => ⟨h.1, h.2.symm⟩)))
    (try go_wp2)
    go_ret
    exact ⟨rfl, rfl, fun B => ⟨rfl, rfl, rfl, Nat.le_refl _, fun _ _ => rfl⟩⟩
  · have he : zUsc (mulHi x H) (mulLo x H) (mulHi x L) s = bits BinOp.or IntKind.u64 ((mulHi x H : Int) / 2 ^ s) 1 := by
      unfold zUsc; rw [hb]; rfl
    rw [he]
    clear he
    go_enter Tryz.func180, Tryz.ntmps180
    go_wp2_with (first | (go_at_call 200; refine (mul64_calls x _ hx (by assumption) _).mono ?_; rintro e w' ⟨rfl, rfl⟩) | (go_at_call 170; refine (bool2_calls _ _).mono ?_; rintro e w' ⟨rfl, rfl⟩))
    go_ret
    exact ⟨rfl, rfl, fun B => Below.refl B _⟩
end Go.Proofs.YtghajgdiaopioaaGreatDoor

/- Walks: a whole number's text is read (162). -/
namespace Go.Proofs.YtghajgdiaopioaaGreatDoor
open Go.RowKit

def isDg (c : UInt8) : Prop := 48 ≤ c.toNat ∧ c.toNat ≤ 57
def vald (l : List UInt8) : Nat := l.foldl (fun a c => a * 10 + (c.toNat - 48)) 0
theorem vald_snoc (l : List UInt8) (c : UInt8) : vald (l ++ [c]) = vald l * 10 + (c.toNat - 48) := by simp [vald]

set_option maxRecDepth 10000 in
set_option maxHeartbeats 1000000 in
theorem readFloat_pos (s : ByteArray) (D : List UInt8) (w : World) (hs : toL s = D) (hD : ∀ c ∈ D, isDg c) (h1 : 1 ≤ D.length) (h18 : D.length ≤ 18) (hz : D.length ≤ 2 ∨ D[0]? ≠ some 48) :
    Calls Tryz.prog 162 #[.string s] w fun e w' => e = .returned (.tuple #[.int .u64 (vald D), .int .i64 0, .bool false, .bool false, .bool false, .int .i64 D.length, .bool true]) ∧ w = w' := by
  have hsz : s.size = D.length := by rw [← hs, toL_length]
  have hget : ∀ (k : Nat) (h : k < s.size), isDg (s[k]) := fun k h => by
    have := toL_get s k h
    rw [← this]
    exact hD _ (by rw [← hs]; exact List.getElem_mem _)
  obtain ⟨c0, hc0⟩ : ∃ c : UInt8, s[0] = c := ⟨_, rfl⟩
  have hd0 := hget 0 (by omega)
  rw [hc0] at hd0
  have e1 : ((c0.toNat : Int) == 43) = false := by rw [beq_eq_false_iff_ne]; have h48 := hd0.1; intro h; omega
  have e2 : ((c0.toNat : Int) == 45) = false := by rw [beq_eq_false_iff_ne]; have h48 := hd0.1; intro h; omega
  by_cases h2 : D.length ≤ 2
  · have tD : decide (D = []) = false := decide_eq_false (by rintro rfl; simp at h1)
    have t12 : decide ((2 : Int) < (D.length : Int)) = false := decide_eq_false (by omega)
    have t0 : decide ((D.length : Int) ≤ 0) = false := decide_eq_false (by omega)
    go_enter Tryz.func162, Tryz.ntmps162
    go_wp2_with fail
    go_step3
    go_wp2_with fail
    apply wp_label
    go_wp2_with fail
    go_loopg [2, 5, 7, 9, 13, 14, 15, 16, 17] D.length (fun g s2 s5 s7 s9 s13 s14 s15 s16 s17 wx => w = wx ∧ s5 = .bool false ∧ s9 = .bool false ∧ s13 = .bool false ∧ ∃ (k nd mant : Nat) (dp : Int), k ≤ D.length ∧ k + g = D.length ∧ s2 = .int .u64 mant ∧ s7 = .int .i64 k ∧ s14 = .bool (decide (0 < k)) ∧ s15 = .int .i64 nd ∧ s16 = .int .i64 nd ∧ s17 = .int .i64 dp ∧ nd ≤ k ∧ 0 ≤ dp + k ∧ dp ≤ 0 ∧ mant < 10 ^ nd ∧ Hid (mant = vald (D.take k)))
    case atStart => exact ⟨rfl, rfl, rfl, rfl, 0, 0, 0, 0, Nat.zero_le _, by omega, rfl, rfl, rfl, rfl, rfl, rfl, by omega, by omega, by omega, by simp, Lib.hid rfl⟩
    case round =>
      obtain ⟨rfl, rfl, rfl, rfl, k, nd, mant, dp, hk, hg, rfl, rfl, rfl, rfl, rfl, rfl, hnd, hdp0, hdp1, hm, hv⟩ := hrel
      have hmb : mant < 1000000000000000000 := Nat.lt_of_lt_of_le hm (Nat.le_trans (Nat.pow_le_pow_right (by decide) (show nd ≤ 18 by omega)) (by decide))
      have HM := Lib.hid hm
      clear hm
      by_cases hlt : k < D.length
      · obtain ⟨c, hc⟩ : ∃ c : UInt8, s[k] = c := ⟨_, rfl⟩
        have hdc := hget k (by omega)
        rw [hc] at hdc
        have htk : D.take (k + 1) = D.take k ++ [c] := by rw [← hs]; exact take_at s k (by omega) hc
        have HTK := Lib.hid htk
        have l1 : (48 : Int) ≤ (c.toNat : Int) := by have := hdc.1; omega
        have l2 : (c.toNat : Int) ≤ 57 := by have := hdc.2; omega
        have n1 : ((c.toNat : Int) == 95) = false := by rw [beq_eq_false_iff_ne]; intro h; omega
        have n2 : ((c.toNat : Int) == 46) = false := by rw [beq_eq_false_iff_ne]; intro h; omega
        have n19 : decide ((nd : Int) < 19) = true := decide_eq_true (by omega)
        clear hdc htk
        by_cases hz : nd = 0
        · subst hz
          have hm0 : mant = 0 := by have := HM.out; omega
          subst hm0
          by_cases h48 : c = 48
          · subst h48
            go_wp2
            go_roundg (D.length - (k + 1))
            case measure => omega
            case rel =>
              refine ⟨rfl, rfl, rfl, rfl, k + 1, 0, 0, dp - 1, by omega, by omega, rfl, by go_num, ?_, rfl, rfl, by go_num, by omega, by omega, by omega, by decide, Lib.hid ?_⟩
              · simp
              · rw [HTK.out, vald_snoc, ← hv.out]; rfl
          · have n3 : ((c.toNat : Int) == 48) = false := eq_i 48 h48
            go_wp2
            go_roundg (D.length - (k + 1))
            case measure => omega
            case rel =>
              refine ⟨rfl, rfl, rfl, rfl, k + 1, 1, c.toNat - 48, dp, by omega, by omega, ?_, by go_num, ?_, by go_num, by go_num, rfl, by omega, by omega, by omega, by omega, Lib.hid ?_⟩
              · congr 1; omega
              · simp
              · rw [HTK.out, vald_snoc, ← hv.out]; omega
        · have n4 : ((nd : Int) == 0) = false := by rw [beq_eq_false_iff_ne]; intro h; omega
          go_wp2
          all_goals
            go_roundg (D.length - (k + 1))
            case measure => omega
            case rel =>
              refine ⟨rfl, rfl, rfl, rfl, k + 1, nd + 1, mant * 10 + (c.toNat - 48), dp, by omega, by omega, ?_, by go_num, ?_, by go_num, by go_num, rfl, by omega, by omega, by omega, ?_, Lib.hid ?_⟩
              · congr 1; omega
              · simp
              · have := HM.out; rw [Nat.pow_succ]; omega
              · rw [HTK.out, vald_snoc, ← hv.out]
      · obtain rfl : k = D.length := by omega
        have hkz : ¬ ((D.length : Int) < (D.length : Int)) := by omega
        have h0 : decide (0 < D.length) = true := decide_eq_true (by omega)
        have hvv := hv.out
        rw [List.take_length] at hvv
        have HVV := Lib.hid hvv
        clear hvv hv
        go_wp2
        all_goals
          refine bodyPost_ret (v := .tuple #[.int .u64 mant, .int .i64 0, .bool false, .bool false, .bool false, .int .i64 D.length, .bool true]) (by simp [results, Tryz.results162, go_sem]) rfl ⟨?_, rfl⟩
          rw [HVV.out]
  · have tD : decide (D = []) = false := decide_eq_false (by rintro rfl; simp at h1)
    have e48 : ((c0.toNat : Int) == 48) = false := by
      refine eq_i 48 ?_
      rintro rfl
      rcases hz with hz | hz
      · exact h2 hz
      · have := toL_get s 0 (by omega)
        rw [hc0] at this
        apply hz
        rw [← hs, List.getElem?_eq_getElem (by rw [toL_length]; omega), this]
    have t12 : decide ((2 : Int) < (D.length : Int)) = true := decide_eq_true (by omega)
    have t0 : decide ((D.length : Int) ≤ 0) = false := decide_eq_false (by omega)
    go_enter Tryz.func162, Tryz.ntmps162
    go_wp2_with fail
    go_step3
    go_wp2_with fail
    apply wp_label
    go_wp2_with fail
    go_loopg [2, 5, 7, 9, 13, 14, 15, 16, 17] D.length (fun g s2 s5 s7 s9 s13 s14 s15 s16 s17 wx => w = wx ∧ s5 = .bool false ∧ s9 = .bool false ∧ s13 = .bool false ∧ ∃ (k nd mant : Nat) (dp : Int), k ≤ D.length ∧ k + g = D.length ∧ s2 = .int .u64 mant ∧ s7 = .int .i64 k ∧ s14 = .bool (decide (0 < k)) ∧ s15 = .int .i64 nd ∧ s16 = .int .i64 nd ∧ s17 = .int .i64 dp ∧ nd ≤ k ∧ 0 ≤ dp + k ∧ dp ≤ 0 ∧ mant < 10 ^ nd ∧ Hid (mant = vald (D.take k)))
    case atStart => exact ⟨rfl, rfl, rfl, rfl, 0, 0, 0, 0, Nat.zero_le _, by omega, rfl, rfl, rfl, rfl, rfl, rfl, by omega, by omega, by omega, by simp, Lib.hid rfl⟩
    case round =>
      obtain ⟨rfl, rfl, rfl, rfl, k, nd, mant, dp, hk, hg, rfl, rfl, rfl, rfl, rfl, rfl, hnd, hdp0, hdp1, hm, hv⟩ := hrel
      have hmb : mant < 1000000000000000000 := Nat.lt_of_lt_of_le hm (Nat.le_trans (Nat.pow_le_pow_right (by decide) (show nd ≤ 18 by omega)) (by decide))
      have HM := Lib.hid hm
      clear hm
      by_cases hlt : k < D.length
      · obtain ⟨c, hc⟩ : ∃ c : UInt8, s[k] = c := ⟨_, rfl⟩
        have hdc := hget k (by omega)
        rw [hc] at hdc
        have htk : D.take (k + 1) = D.take k ++ [c] := by rw [← hs]; exact take_at s k (by omega) hc
        have HTK := Lib.hid htk
        have l1 : (48 : Int) ≤ (c.toNat : Int) := by have := hdc.1; omega
        have l2 : (c.toNat : Int) ≤ 57 := by have := hdc.2; omega
        have n1 : ((c.toNat : Int) == 95) = false := by rw [beq_eq_false_iff_ne]; intro h; omega
        have n2 : ((c.toNat : Int) == 46) = false := by rw [beq_eq_false_iff_ne]; intro h; omega
        have n19 : decide ((nd : Int) < 19) = true := decide_eq_true (by omega)
        clear hdc htk
        by_cases hz : nd = 0
        · subst hz
          have hm0 : mant = 0 := by have := HM.out; omega
          subst hm0
          by_cases h48 : c = 48
          · subst h48
            go_wp2
            go_roundg (D.length - (k + 1))
            case measure => omega
            case rel =>
              refine ⟨rfl, rfl, rfl, rfl, k + 1, 0, 0, dp - 1, by omega, by omega, rfl, by go_num, ?_, rfl, rfl, by go_num, by omega, by omega, by omega, by decide, Lib.hid ?_⟩
              · simp
              · rw [HTK.out, vald_snoc, ← hv.out]; rfl
          · have n3 : ((c.toNat : Int) == 48) = false := eq_i 48 h48
            go_wp2
            go_roundg (D.length - (k + 1))
            case measure => omega
            case rel =>
              refine ⟨rfl, rfl, rfl, rfl, k + 1, 1, c.toNat - 48, dp, by omega, by omega, ?_, by go_num, ?_, by go_num, by go_num, rfl, by omega, by omega, by omega, by omega, Lib.hid ?_⟩
              · congr 1; omega
              · simp
              · rw [HTK.out, vald_snoc, ← hv.out]; omega
        · have n4 : ((nd : Int) == 0) = false := by rw [beq_eq_false_iff_ne]; intro h; omega
          go_wp2
          all_goals
            go_roundg (D.length - (k + 1))
            case measure => omega
            case rel =>
              refine ⟨rfl, rfl, rfl, rfl, k + 1, nd + 1, mant * 10 + (c.toNat - 48), dp, by omega, by omega, ?_, by go_num, ?_, by go_num, by go_num, rfl, by omega, by omega, by omega, ?_, Lib.hid ?_⟩
              · congr 1; omega
              · simp
              · have := HM.out; rw [Nat.pow_succ]; omega
              · rw [HTK.out, vald_snoc, ← hv.out]
      · obtain rfl : k = D.length := by omega
        have hkz : ¬ ((D.length : Int) < (D.length : Int)) := by omega
        have h0 : decide (0 < D.length) = true := decide_eq_true (by omega)
        have hvv := hv.out
        rw [List.take_length] at hvv
        have HVV := Lib.hid hvv
        clear hvv hv
        go_wp2
        all_goals
          refine bodyPost_ret (v := .tuple #[.int .u64 mant, .int .i64 0, .bool false, .bool false, .bool false, .int .i64 D.length, .bool true]) (by simp [results, Tryz.results162, go_sem]) rfl ⟨?_, rfl⟩
          rw [HVV.out]
end Go.Proofs.YtghajgdiaopioaaGreatDoor
