/- Walks: IsWhole (23). -/
import Derived.Test.YtghajgdiaopioaaGreatDoorW28
set_option linter.unusedVariables false
set_option linter.unusedSimpArgs false

namespace Go.Proofs.YtghajgdiaopioaaGreatDoor
open Go.RowKit

/-- A float cut to a whole number. -/
def tr (x : Nat) : Nat := FloatKind.f64.encode ((FloatKind.f64.decode x).integral .zero)
def trSem (d : Ieee.Datum) (x : Nat) : Sem Value :=
  match d with
  | .nan s t =>
    if FloatKind.f64.format.quiet t = t then pure (.float .f64 x) else do
    let kept ← choose (.extern "math.Floor,Ceil,Trunc,RoundToEven.signallingNaN kept" 2)
    pure (.float .f64 (if kept == 1 then x else FloatKind.f64.encode (.nan s (FloatKind.f64.format.quiet t))))
  | d => pure (.float .f64 (FloatKind.f64.encode (d.integral .zero)))
theorem trSem_eq (x : Nat) : Extern.MathFloor.toIntegral "math.archTrunc" .zero #[.float .f64 x] = trSem (FloatKind.f64.decode x) x := rfl
theorem run68 (x : Nat) (w : World) : ∃ y w', (callFunc 68 #[.float .f64 x]).run Tryz.prog w = .ok (.value (.float .f64 y)) w' ∧ (∃ n, w' = w.drewN n) ∧ ((FloatKind.f64.decode x).isNaN = false → y = tr x) := by
  rw [run_callFunc_extern (e := Extern.MathFloor.toIntegral "math.archTrunc" .zero) Tryz.func68 (by kernel_rfl) (by kernel_rfl) (by kernel_rfl) (by kernel_rfl), trSem_eq]
  unfold tr
  cases hd : FloatKind.f64.decode x with
  | number s m p => exact ⟨_, _, rfl, ⟨0, rfl⟩, fun _ => rfl⟩
  | infinity s => exact ⟨_, _, rfl, ⟨0, rfl⟩, fun _ => rfl⟩
  | nan s t =>
    unfold trSem
    by_cases hq : FloatKind.f64.format.quiet t = t
    · simp only [if_pos hq]
      exact ⟨_, _, rfl, ⟨0, rfl⟩, fun h => by cases h⟩
    · simp only [if_neg hq]
      exact ⟨_, _, rfl, ⟨1, rfl⟩, fun h => by cases h⟩
theorem ff70 (x : Nat) (w : World) : (callFunc 70 #[.int .u64 x]).run Tryz.prog w = .ok (.value (.float .f64 x)) w := by
  rw [run_callFunc_extern (e := Extern.MathFloatBits.float64frombits) Tryz.func70 (by kernel_rfl) (by kernel_rfl) (by kernel_rfl) (by kernel_rfl)]
  rfl
theorem andNot63 (x : Nat) (h : x < 18446744073709551616) : bits BinOp.andNot IntKind.u64 (x : Int) 9223372036854775808 = ((x % 9223372036854775808 : Nat) : Int) := by
  have ha : (BitVec.ofInt 64 (x : Int)).toNat = x := by
    rw [BitVec.ofInt_natCast, BitVec.toNat_ofNat]
    exact Nat.mod_eq_of_lt (by simpa using h)
  have hb : (~~~(BitVec.ofInt 64 9223372036854775808)).toNat = 2 ^ 63 - 1 := by decide
  have hc : (BitVec.ofInt 64 (x : Int) &&& ~~~(BitVec.ofInt 64 9223372036854775808)).toNat = x % 9223372036854775808 := by
    rw [BitVec.toNat_and, ha, hb, Nat.and_two_pow_sub_one_eq_mod]
  show IntKind.u64.wrap ((BitVec.ofInt 64 (x : Int) &&& ~~~(BitVec.ofInt 64 9223372036854775808)).toNat : Int) = _
  rw [hc]
  have hl : x % 9223372036854775808 < 9223372036854775808 := Nat.mod_lt _ (by decide)
  generalize x % 9223372036854775808 = y at *
  have he : IntKind.u64.wrap (y : Int) = (y : Int) % 18446744073709551616 := rfl
  rw [he]
  omega
set_option maxRecDepth 10000 in
set_option maxHeartbeats 1000000 in
theorem abs_calls (x : Nat) (h : x < 18446744073709551616) (w : World) : Calls Tryz.prog 46 #[.float .f64 x] w fun e w' => e = .returned (.float .f64 (x % 9223372036854775808)) ∧ w = w' := by
  have hf := fb71 x
  have ha := andNot63 x h
  have hg := ff70 (x % 9223372036854775808)
  generalize x % 9223372036854775808 = y at *
  go_enter Tryz.func46, Tryz.ntmps46
  go_wp2_with fail
  go_ret
  exact ⟨rfl, rfl⟩
set_option maxRecDepth 10000 in
set_option maxHeartbeats 1000000 in
theorem trunc_calls (x : Nat) (w : World) : Calls Tryz.prog 45 #[.float .f64 x] w fun e w' => ∃ y, e = .returned (.float .f64 y) ∧ (∃ n, w' = w.drewN n) ∧ ((FloatKind.f64.decode x).isNaN = false → y = tr x) := by
  obtain ⟨y, w1, hr, hw, hy⟩ := run68 x w
  have HY := Lib.hid hy
  have HW := Lib.hid hw
  clear hy hw
  go_enter Tryz.func45, Tryz.ntmps45
  go_wp2_with fail
  go_ret
  exact ⟨_, rfl, HW.out, HY.out⟩
theorem signbit_calls (x : Nat) (h : x < 18446744073709551616) (w : World) : Calls Tryz.prog 47 #[.float .f64 x] w fun e w' => e = .returned (.bool (decide (9223372036854775808 ≤ x))) ∧ w = w' := by
  have hf := fb71 x
  have hb : decide (wrap64 (x : Int) < 0) = decide (9223372036854775808 ≤ x) := by
    apply decide_eq_decide.2
    unfold wrap64
    omega
  go_enter Tryz.func47, Tryz.ntmps47
  go_wp2_with fail
  go_ret
  exact ⟨rfl, rfl⟩
theorem order_num {x y : Nat} (h : FloatKind.f64.format.order x y = some Ordering.eq) : (FloatKind.f64.decode x).isNaN = false := by
  unfold Ieee.Format.order at h
  unfold FloatKind.decode
  cases hd : FloatKind.f64.format.read x with
  | number s m p => rfl
  | infinity s => rfl
  | nan s t => rw [hd] at h; cases h
def bTr (x : Nat) : Bool := FloatKind.f64.format.order x (tr x) == some .eq
def bAbs (x : Nat) : Bool := FloatKind.f64.format.order (x % 9223372036854775808) 4652007308841189376 == some .lt || FloatKind.f64.format.order (x % 9223372036854775808) 4652007308841189376 == some .eq
def bNz (x : Nat) : Bool := FloatKind.f64.format.order x 0 != some .eq
/-- What IsWhole says of a float that is a number. -/
def wholeB (x : Nat) : Bool := bTr x && bAbs x && (bNz x || !decide (9223372036854775808 ≤ x))
set_option maxRecDepth 10000 in
set_option maxHeartbeats 2000000 in
theorem isWhole_calls (x : Nat) (h : x < 18446744073709551616) (w : World) : Calls Tryz.prog 23 #[.float .f64 x] w fun e w' => ∃ b, e = .returned (.bool b) ∧ (∃ n, w' = w.drewN n) ∧ (b = true → wholeB x = true) := by
  have HT := Lib.hid (trunc_calls x w)
  have HA := Lib.hid (fun w => abs_calls x h w)
  have HS := Lib.hid (fun w => signbit_calls x h w)
  go_enter Tryz.func23, Tryz.ntmps23
  go_wp2_with (first | (go_at_call 45; refine HT.out.mono ?_; rintro e' w' ⟨y, rfl, ⟨n, rfl⟩, hy⟩) | (go_at_call 46; refine (HA.out _).mono ?_; rintro e' w' ⟨rfl, rfl⟩) | (go_at_call 47; refine (HS.out _).mono ?_; rintro e' w' ⟨rfl, rfl⟩))
  all_goals
    go_ret
    refine ⟨_, rfl, ⟨n, rfl⟩, fun hb => ?_⟩
    first
    | exact absurd hb (by decide)
    | skip
  all_goals
    have hyx := hy (order_num (by assumption))
    subst hyx
    simp_all [wholeB, bTr, bAbs, bNz]
end Go.Proofs.YtghajgdiaopioaaGreatDoor

/- What IsWhole lets in are the floats of whole numbers up to 1000. -/
namespace Go.Proofs.YtghajgdiaopioaaGreatDoor
open Go.RowKit

theorem dbl_sw : Ieee.double.signWeight = 9223372036854775808 := by decide
theorem dbl_bin : Ieee.double.binade = 4503599627370496 := by decide
theorem dbl_inf : Ieee.double.infRung = 9218868437227405312 := by decide
theorem dbl_lp : Ieee.double.leastPlace = -1074 := by decide
theorem read_low (x : Nat) (h : x % 9223372036854775808 < 4503599627370496) : Ieee.double.read x = .number (x / 9223372036854775808 % 2 == 1) (x % 9223372036854775808) (-1074) := by
  unfold Ieee.Format.read
  rw [dbl_sw, dbl_bin, dbl_inf, dbl_lp, if_pos h]
theorem read_mid (x : Nat) (h : 4503599627370496 ≤ x % 9223372036854775808) (h2 : x % 9223372036854775808 < 9218868437227405312) :
    Ieee.double.read x = .number (x / 9223372036854775808 % 2 == 1) (4503599627370496 + x % 9223372036854775808 % 4503599627370496) (-1074 + (x % 9223372036854775808 / 4503599627370496 - 1 : Nat)) := by
  unfold Ieee.Format.read
  rw [dbl_sw, dbl_bin, dbl_inf, dbl_lp, if_neg (by omega), if_pos h2]
theorem read_1000 : Ieee.double.read 4652007308841189376 = .number false 8796093022208000 (-43) := by decide +kernel
theorem order_1000 (r : Nat) (h : r < 9223372036854775808) (h1 : 4652218415073722368 ≤ r) : ¬ (FloatKind.f64.format.order r 4652007308841189376 == some .lt || FloatKind.f64.format.order r 4652007308841189376 == some .eq) = true := by
  show ¬ ((Ieee.double.read r).order (Ieee.double.read 4652007308841189376) == some .lt || (Ieee.double.read r).order (Ieee.double.read 4652007308841189376) == some .eq) = true
  rw [read_1000]
  have hm : r % 9223372036854775808 = r := Nat.mod_eq_of_lt h
  by_cases h2 : r < 9218868437227405312
  · rw [read_mid r (by omega) (by omega), hm]
    have hs : (r / 9223372036854775808 % 2 == 1) = false := by rw [beq_eq_false_iff_ne]; omega
    rw [hs]
    obtain ⟨E, hE⟩ : ∃ E, r / 4503599627370496 = E := ⟨_, rfl⟩
    have hE1 : 1033 ≤ E := by omega
    rw [hE]
    generalize r % 4503599627370496 = M
    have hmin : min (-1074 + ((E - 1 : Nat) : Int)) (-43) = -43 := by omega
    have ht : ((-1074 + ((E - 1 : Nat) : Int)) - (-43)).toNat = E - 1032 := by omega
    simp only [Ieee.Datum.order, hmin, ht, Ieee.signed, Bool.false_eq_true, if_false]
    have h0 : ((-43 : Int) - (-43)).toNat = 0 := by decide
    rw [h0, Nat.shiftLeft_zero]
    have hg : compare (((4503599627370496 + M) <<< (E - 1032) : Nat) : Int) ((8796093022208000 : Nat) : Int) = .gt := by
      rw [Int.compare_eq_gt]
      have h3 : 4503599627370496 * 2 ≤ (4503599627370496 + M) <<< (E - 1032) := by
        rw [Nat.shiftLeft_eq]
        exact Nat.mul_le_mul (by omega) (by
          calc 2 = 2 ^ 1 := rfl
            _ ≤ 2 ^ (E - 1032) := Nat.pow_le_pow_right (by decide) (by omega))
      omega
    rw [hg]
    decide
  · have hr : (Ieee.double.read r) = .infinity (r / 9223372036854775808 % 2 == 1) ∨ ∃ t, (Ieee.double.read r) = .nan (r / 9223372036854775808 % 2 == 1) t := by
      unfold Ieee.Format.read
      rw [dbl_sw, dbl_bin, dbl_inf, dbl_lp, hm, if_neg (by omega), if_neg h2]
      by_cases h3 : r = 9218868437227405312
      · rw [if_pos h3]; exact .inl rfl
      · rw [if_neg h3]; exact .inr ⟨_, rfl⟩
    have hs : (r / 9223372036854775808 % 2 == 1) = false := by rw [beq_eq_false_iff_ne]; omega
    rw [hs] at hr
    rcases hr with hr | ⟨t, hr⟩
    · rw [hr]; simp [Ieee.Datum.order]
    · rw [hr]; simp [Ieee.Datum.order]

def sg (s : Bool) : Nat := if s then 9223372036854775808 else 0
/-- What the kernel computes of the whole numbers below 1024. -/
def chkT (n : Nat) : Bool :=
  [false, true].all fun s => decide (Ieee.double.read (Ieee.double.nearest s n 0) = .number s (n * 2 ^ (52 - n.log2)) ((n.log2 : Int) - 52))
theorem chkT_all : ((List.range 1024).all fun n => n == 0 || chkT n) = true := by decide +kernel
def chkO (n : Nat) : Bool := !(FloatKind.f64.format.order (wBits false n) 4652007308841189376 == some .lt || FloatKind.f64.format.order (wBits false n) 4652007308841189376 == some .eq)
theorem chkO_all : ((List.range 23).all fun k => chkO (1001 + k)) = true := by decide +kernel
theorem near_read (s : Bool) (n : Nat) (h0 : n ≠ 0) (h : n < 1024) : Ieee.double.read (Ieee.double.nearest s n 0) = .number s (n * 2 ^ (52 - n.log2)) ((n.log2 : Int) - 52) := by
  have := List.all_eq_true.1 chkT_all n (List.mem_range.2 h)
  have hb : (n == 0) = false := by simpa using h0
  rw [hb, Bool.false_or] at this
  unfold chkT at this
  simp only [List.all_cons, List.all_nil, Bool.and_true, Bool.and_eq_true, decide_eq_true_eq] at this
  cases s
  · exact this.1
  · exact this.2
theorem cut_zero (s : Bool) (m drop : Nat) (h : m < 2 ^ drop) : Ieee.Toward.zero.cut s m drop = 0 := by
  unfold Ieee.Toward.cut
  have hg : m < 1 <<< min drop (m.log2 + 2) := by
    rw [Nat.one_shiftLeft]
    rcases Nat.le_total drop (m.log2 + 2) with h1 | h1
    · rw [Nat.min_eq_left h1]; exact h
    · rw [Nat.min_eq_right h1]
      exact Nat.lt_trans Nat.lt_log2_self (Nat.pow_lt_pow_right (by decide) (by omega))
  simp [Nat.div_eq_of_lt hg]
theorem cut_mid (s : Bool) (m drop : Nat) (h : drop ≤ m.log2 + 2) : Ieee.Toward.zero.cut s m drop = m / 2 ^ drop := by
  unfold Ieee.Toward.cut
  rw [Nat.min_eq_left h, Nat.one_shiftLeft]
  simp
theorem signed_inj {s : Bool} {a b : Nat} (h : Ieee.signed s a 0 = Ieee.signed s b 0) : a = b := by
  unfold Ieee.signed at h
  rw [Nat.shiftLeft_zero, Nat.shiftLeft_zero] at h
  cases s
  · simp only [Bool.false_eq_true, if_false] at h; omega
  · simp only [if_true] at h; omega
theorem signed_zero {s : Bool} {a k l : Nat} (h : Ieee.signed s a k = Ieee.signed s 0 l) : a = 0 := by
  unfold Ieee.signed at h
  rw [Nat.zero_shiftLeft, Nat.shiftLeft_eq] at h
  have hp : 0 < 2 ^ k := Nat.pow_pos (by decide)
  rcases Nat.eq_zero_or_pos a with h0 | h0
  · exact h0
  · have := Nat.mul_pos h0 hp
    cases s
    · simp only [Bool.false_eq_true, if_false] at h; omega
    · simp only [if_true] at h; omega
theorem tr_num (x : Nat) (s : Bool) (m : Nat) (p : Int) (h : Ieee.double.read x = .number s m p) : tr x = Ieee.double.nearest s (Ieee.Toward.zero.cut s (m <<< p.toNat) (-p).toNat) 0 := by
  show Ieee.double.write ((Ieee.double.read x).integral .zero) = _
  rw [h]
  rfl
theorem small_zero (x : Nat) (s : Bool) (m : Nat) (p : Int) (h : Ieee.double.read x = .number s m p) (hm : m < 2 ^ 53) (hp : p ≤ -53) (hp0 : -1074 ≤ p) (hb : bTr x = true) : m = 0 := by
  have hy := tr_num x s m p h
  have h1 : p.toNat = 0 := by omega
  rw [h1, Nat.shiftLeft_zero, cut_zero s m _ (Nat.lt_of_lt_of_le hm (Nat.pow_le_pow_right (by decide) (by omega)))] at hy
  have hr : Ieee.double.read (tr x) = .number s 0 (-1074) := by
    rw [hy]
    cases s <;> decide +kernel
  unfold bTr at hb
  have ho : FloatKind.f64.format.order x (tr x) = (Ieee.double.read x).order (Ieee.double.read (tr x)) := rfl
  rw [ho, h, hr] at hb
  simp only [Ieee.Datum.order, beq_iff_eq, Option.some.injEq] at hb
  have he := Int.compare_eq_eq.1 hb
  exact signed_zero he
theorem whole_of (x : Nat) (hx : x < 18446744073709551616) (h : wholeB x = true) : ∃ neg n, Wh neg n ∧ x = wBits neg n := by
  unfold wholeB at h
  simp only [Bool.and_eq_true] at h
  obtain ⟨⟨hT, hA⟩, hN⟩ := h
  have hA' := hA
  unfold bAbs at hA
  obtain ⟨r, hr⟩ : ∃ r, x % 9223372036854775808 = r := ⟨_, rfl⟩
  have hr63 : r < 9223372036854775808 := by rw [← hr]; exact Nat.mod_lt _ (by decide)
  rw [hr] at hA
  have hE : r < 4652218415073722368 := by
    rcases Nat.lt_or_ge r 4652218415073722368 with h1 | h1
    · exact h1
    · exact absurd hA (order_1000 r hr63 h1)
  obtain ⟨s, hs⟩ : ∃ s, (x / 9223372036854775808 % 2 == 1) = s := ⟨_, rfl⟩
  by_cases h1 : r < 4607182418800017408
  · have hr0 : r = 0 := by
      by_cases h2 : r < 4503599627370496
      · have := read_low x (by rw [hr]; exact h2)
        rw [hs, hr] at this
        exact small_zero x s r _ this (Nat.lt_trans h2 (by decide)) (by decide) (by decide) hT
      · have := read_mid x (by rw [hr]; omega) (by rw [hr]; omega)
        rw [hs, hr] at this
        have hM : r % 4503599627370496 < 4503599627370496 := Nat.mod_lt _ (by decide)
        have := small_zero x s _ _ this (by have : (2 : Nat) ^ 53 = 9007199254740992 := rfl; omega) (by omega) (by omega) hT
        omega
    have hx0 : x < 9223372036854775808 := by
      rcases Nat.lt_or_ge x 9223372036854775808 with h3 | h3
      · exact h3
      · have hxe : x = 9223372036854775808 := by omega
        rw [hxe] at hN
        have h4 : (bNz 9223372036854775808 || !decide (9223372036854775808 ≤ 9223372036854775808)) = false := by decide +kernel
        rw [h4] at hN; cases hN
    refine ⟨false, 0, ⟨by omega, fun _ => rfl⟩, ?_⟩
    have : x = 0 := by omega
    rw [this]; rfl
  · obtain ⟨k, hk, hk9⟩ : ∃ k, r / 4503599627370496 = 1023 + k ∧ k ≤ 9 := ⟨r / 4503599627370496 - 1023, by omega, by omega⟩
    have hrd := read_mid x (by rw [hr]; omega) (by rw [hr]; omega)
    rw [hs, hr, hk] at hrd
    obtain ⟨M, hM⟩ : ∃ M, r % 4503599627370496 = M := ⟨_, rfl⟩
    have hMl : M < 4503599627370496 := by rw [← hM]; exact Nat.mod_lt _ (by decide)
    rw [hM] at hrd
    have hp : (-1074 : Int) + ((1023 + k - 1 : Nat) : Int) = (k : Int) - 52 := by omega
    rw [hp] at hrd
    obtain ⟨m, hm⟩ : ∃ m, 4503599627370496 + M = m := ⟨_, rfl⟩
    rw [hm] at hrd
    have hy := tr_num x s m _ hrd
    have e1 : ((k : Int) - 52).toNat = 0 := by omega
    have e2 : (-((k : Int) - 52)).toNat = 52 - k := by omega
    have h52 : (2 : Nat) ^ 52 = 4503599627370496 := rfl
    have h53 : (2 : Nat) ^ 53 = 9007199254740992 := rfl
    have hlog : 52 ≤ m.log2 := (Nat.le_log2 (by omega)).2 (by omega)
    rw [e1, e2, Nat.shiftLeft_zero, cut_mid s m (52 - k) (by omega)] at hy
    obtain ⟨D, hD⟩ : ∃ D, 2 ^ (52 - k) = D := ⟨_, rfl⟩
    have hDp : 0 < D := by rw [← hD]; exact Nat.pow_pos (by decide)
    have hkD : 2 ^ k * D = 4503599627370496 := by rw [← hD, ← Nat.pow_add, show k + (52 - k) = 52 from by omega]
    rw [hD] at hy
    obtain ⟨q, hq⟩ : ∃ q, m / D = q := ⟨_, rfl⟩
    rw [hq] at hy
    have hq1 : 2 ^ k ≤ q := by rw [← hq, Nat.le_div_iff_mul_le hDp, hkD]; omega
    have hq2 : q < 2 ^ (k + 1) := by
      rw [← hq, Nat.div_lt_iff_lt_mul hDp, Nat.pow_succ, Nat.mul_comm (2 ^ k) 2, Nat.mul_assoc, hkD]; omega
    have hq0 : q ≠ 0 := by have := Nat.pow_pos (n := k) (show 0 < 2 by decide); omega
    have hql : q.log2 = k := (Nat.log2_eq_iff hq0).2 ⟨hq1, hq2⟩
    have hq3 : q < 1024 := Nat.lt_of_lt_of_le hq2 (Nat.le_trans (Nat.pow_le_pow_right (by decide) (show k + 1 ≤ 10 by omega)) (by decide))
    have hn := near_read s q hq0 hq3
    rw [hql, hD, ← hy] at hn
    unfold bTr at hT
    have ho : FloatKind.f64.format.order x (tr x) = (Ieee.double.read x).order (Ieee.double.read (tr x)) := rfl
    rw [ho, hrd, hn] at hT
    have e3 : ((k : Int) - 52 - ((k : Int) - 52)).toNat = 0 := by omega
    simp only [Ieee.Datum.order, Int.min_self, e3, beq_iff_eq, Option.some.injEq] at hT
    have hmq : m = q * D := signed_inj (Int.compare_eq_eq.1 hT)
    have hxr : x = (if s then 9223372036854775808 else 0) + r := by
      cases s
      · have : x / 9223372036854775808 % 2 ≠ 1 := by simpa using hs
        simp only [Bool.false_eq_true, if_false]; omega
      · have : x / 9223372036854775808 % 2 = 1 := by simpa using hs
        simp only [if_true]; omega
    have hrw : r = wBits false q := by
      unfold wBits
      rw [if_neg hq0, hql, hD, ← hmq]
      simp only [Bool.false_eq_true, if_false]
      omega
    have hxw : x = wBits s q := by
      rw [hxr, hrw]
      unfold wBits
      rw [if_neg hq0, if_neg hq0]
      simp only [Bool.false_eq_true, if_false]
      omega
    have hq4 : q ≤ 1000 := by
      rcases Nat.lt_or_ge 1000 q with h5 | h5
      · have := List.all_eq_true.1 chkO_all (q - 1001) (List.mem_range.2 (by omega))
        unfold chkO at this
        rw [show 1001 + (q - 1001) = q from by omega, ← hrw, hA] at this
        cases this
      · exact h5
    exact ⟨s, q, ⟨hq4, fun h => absurd h hq0⟩, hxw⟩
end Go.Proofs.YtghajgdiaopioaaGreatDoor
