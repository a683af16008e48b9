/- Walks: commas, the class of blanks, the first blank of a text. -/
import Derived.Test.YtghajgdiaopioaaGreatDoorW01
set_option linter.unusedVariables false
set_option linter.unusedSimpArgs false

namespace Go.Proofs.YtghajgdiaopioaaGreatDoor
open Go.RowKit

theorem eq_i {c : UInt8} (n : UInt8) (h : c ≠ n) : ((c.toNat : Int) == (n.toNat : Int)) = false := by
  rw [beq_eq_false_iff_ne]; intro e; exact h (UInt8.toNat_inj.1 (by omega))

def isCl (c : UInt8) : Bool := c == 32 || c == 9 || c == 10 || c == 12 || c == 13 || c == 124
theorem isCl_yes {c : UInt8} (h : isCl c = true) : c = 32 ∨ c = 9 ∨ c = 10 ∨ c = 12 ∨ c = 13 ∨ c = 124 := by simpa [isCl, or_assoc] using h
theorem isCl_no {c : UInt8} (h : isCl c = false) : ((c.toNat : Int) == 32) = false ∧ ((c.toNat : Int) == 9) = false ∧ ((c.toNat : Int) == 10) = false ∧ ((c.toNat : Int) == 12) = false ∧ ((c.toNat : Int) == 13) = false ∧ ((c.toNat : Int) == 124) = false := by
  simp only [isCl, Bool.or_eq_false_iff, beq_eq_false_iff_ne] at h
  obtain ⟨⟨⟨⟨⟨h1, h2⟩, h3⟩, h4⟩, h5⟩, h6⟩ := h
  exact ⟨eq_i 32 h1, eq_i 9 h2, eq_i 10 h3, eq_i 12 h4, eq_i 13 h5, eq_i 124 h6⟩

set_option maxHeartbeats 1000000 in
theorem inClass_calls (c : UInt8) (w : World) : Calls Tryz.prog 146 #[.int .u8 c.toNat] w fun e w' => e = .returned (.bool (isCl c)) ∧ w = w' := by
  cases h : isCl c
  · obtain ⟨h1, h2, h3, h4, h5, h6⟩ := isCl_no h
    clear h
    go_enter Tryz.func146, Tryz.ntmps146
    go_wp2
    go_ret
    exact ⟨rfl, rfl⟩
  · rcases isCl_yes h with rfl | rfl | rfl | rfl | rfl | rfl
    all_goals
      clear h
      go_enter Tryz.func146, Tryz.ntmps146
      go_wp2
      go_ret
      exact ⟨rfl, rfl⟩

/-- From place i on over the class. -/
def over (l : List UInt8) (i : Nat) : Nat := i + ((l.drop i).takeWhile isCl).length
theorem over_le (l : List UInt8) (i : Nat) (h : i ≤ l.length) : over l i ≤ l.length := by
  unfold over
  have := (List.takeWhile_sublist (l := l.drop i) isCl).length_le
  rw [List.length_drop] at this
  omega
theorem over_ge (l : List UInt8) (i : Nat) : i ≤ over l i := Nat.le_add_right _ _

set_option maxHeartbeats 1000000 in
theorem overClass_calls (s : ByteArray) (i : Nat) (w : World) (hs : s.size ≤ 1000000000) (hi : i ≤ s.size) : Calls Tryz.prog 133 #[.string s, .int .i64 i] w fun e w' => e = .returned (.int .i64 (over (toL s) i : Nat)) ∧ w = w' := by
  go_enter Tryz.func133, Tryz.ntmps133
  go_wp2_with fail
  go_loopg [1] (s.size - i) (fun g j wx => w = wx ∧ ∃ k : Nat, k ≤ s.size ∧ g = s.size - k ∧ j = .int .i64 k ∧ over (toL s) i = over (toL s) k)
  case atStart => exact ⟨rfl, i, hi, rfl, rfl, rfl⟩
  case round =>
    obtain ⟨rfl, k, hk, rfl, rfl, hl⟩ := hrel
    have HL : Aside _ := hl; clear hl
    by_cases hlt : k < s.size
    · obtain ⟨x, hx⟩ : ∃ x : UInt8, s[k] = x := ⟨_, rfl⟩
      have HX : Aside _ := drop_at s k hlt hx
      cases hsx : isCl x
      · have hc := inClass_calls x w
        rw [hsx] at hc
        have HS : Aside _ := hsx; clear hsx
        go_wp2_with (go_at_call 146; refine hc.mono ?_; rintro e w' ⟨rfl, rfl⟩)
        go_ret
        refine ⟨?_, rfl⟩
        rw [HL.out]
        unfold over
        rw [HX.out, List.takeWhile_cons_of_neg (by rw [HS.out]; decide)]
        rfl
      · have hc := inClass_calls x w
        rw [hsx] at hc
        have HS : Aside _ := hsx; clear hsx
        go_wp2_with (go_at_call 146; refine hc.mono ?_; rintro e w' ⟨rfl, rfl⟩)
        go_roundg (s.size - (k + 1))
        case measure => omega
        case rel => 
          refine ⟨rfl, k + 1, by omega, rfl, by go_num, ?_⟩
          rw [HL.out]
          unfold over
          rw [HX.out, List.takeWhile_cons_of_pos HS.out, List.length_cons]
          omega
    · obtain rfl : k = s.size := by omega
      have hkz : decide ((s.size : Int) < (s.size : Int)) = false := by simp
      go_wp2
      go_ret
      refine ⟨?_, rfl⟩
      rw [HL.out]
      unfold over
      rw [List.drop_of_length_le (by rw [toL_length]; exact Nat.le_refl _)]
      rfl

def cntC (l : List UInt8) : Nat := (l.filter (· == 44)).length
theorem cntC_yes (l : List UInt8) : cntC (l ++ [44]) = cntC l + 1 := by simp [cntC]
theorem cntC_no (l : List UInt8) {c : UInt8} (h : c ≠ 44) : cntC (l ++ [c]) = cntC l := by simp [cntC, h]
theorem cntC_le (l : List UInt8) : cntC l ≤ l.length := List.length_filter_le _ _

set_option maxHeartbeats 1000000 in
theorem commas_calls (s : ByteArray) (w : World) (hs : s.size ≤ 1000000000) : Calls Tryz.prog 78 #[.string s] w fun e w' => e = .returned (.int .i64 (cntC (toL s) : Nat)) ∧ w = w' := by
  go_enter Tryz.func78, Tryz.ntmps78
  go_wp2_with fail
  go_loopg [3, 4] s.size (fun g n j wx => w = wx ∧ ∃ k : Nat, k ≤ s.size ∧ g = s.size - k ∧ j = .int .i64 k ∧ n = .int .i64 (cntC ((toL s).take k) : Nat))
  case atStart => exact ⟨rfl, 0, by omega, rfl, rfl, rfl⟩
  case round =>
    obtain ⟨rfl, k, hk, rfl, rfl, rfl⟩ := hrel
    by_cases hlt : k < s.size
    · obtain ⟨x, hx⟩ : ∃ x : UInt8, s[k] = x := ⟨_, rfl⟩
      have HX : Aside _ := take_at s k hlt hx
      have hle : cntC ((toL s).take k) ≤ k := Nat.le_trans (cntC_le _) (by rw [List.length_take]; omega)
      generalize hn : cntC ((toL s).take k) = n at *
      have HN : Aside _ := hn; clear hn
      by_cases hsx : x = 44
      · subst hsx
        go_wp2
        go_roundg (s.size - (k + 1))
        case measure => omega
        case rel => exact ⟨rfl, k + 1, by omega, rfl, by go_num, by rw [HX.out, cntC_yes, HN.out]; go_num⟩
      · have h1 : ((x.toNat : Int) == 44) = false := eq_i 44 hsx
        have HS : Aside _ := hsx; clear hsx
        go_wp2
        go_roundg (s.size - (k + 1))
        case measure => omega
        case rel => exact ⟨rfl, k + 1, by omega, rfl, by go_num, by rw [HX.out, cntC_no _ HS.out, HN.out]⟩
    · obtain rfl : k = s.size := by omega
      have hkz : ¬ ((s.size : Int) < (s.size : Int)) := by omega
      rw [← toL_length, List.take_length]
      rw [toL_length]
      go_wp2
      go_ret
      exact ⟨rfl, rfl⟩
end Go.Proofs.YtghajgdiaopioaaGreatDoor

/- Walks: a text cut at its first blank; a text out of its brackets. -/
namespace Go.Proofs.YtghajgdiaopioaaGreatDoor
open Go.RowKit

/-- What stands ahead of the first blank. -/
def ahead (l : List UInt8) : List UInt8 := l.takeWhile (· != 32)
/-- The place of the first blank; -1 where there is none. -/
def blankAt (l : List UInt8) : Int := if (ahead l).length < l.length then (ahead l).length else -1

theorem ahead_cons_yes (l : List UInt8) : ahead (32 :: l) = [] := by simp [ahead]
theorem ahead_cons_no (l : List UInt8) {c : UInt8} (h : c ≠ 32) : ahead (c :: l) = c :: ahead l := by simp [ahead, h]
theorem ahead_le (l : List UInt8) : (ahead l).length ≤ l.length := (List.takeWhile_sublist _).length_le

theorem one_eq (s : ByteArray) (k : Nat) (h : k < s.size) {x : UInt8} (hx : s[k] = x) : (s.extract k (k + 1)).toList = [x] := by
  rw [Lib.extract_toList]
  have := drop_at s k h hx
  rw [show s.data.toList.drop k = x :: s.data.toList.drop (k + 1) from this]
  simp

set_option maxHeartbeats 1000000 in
theorem zzIndex_calls (s : ByteArray) (w : World) (hs : s.size ≤ 1000000000) : Calls Tryz.prog 113 #[.string s, .string ⟨#[32]⟩] w fun e w' => e = .returned (.int .i64 (blankAt (toL s))) ∧ w = w' := by
  have hsz : (⟨#[32]⟩ : ByteArray).size = 1 := rfl
  go_enter Tryz.func113, Tryz.ntmps113
  go_wp2_with fail
  go_loopg [5] s.size (fun g j wx => w = wx ∧ ∃ k : Nat, k ≤ s.size ∧ g = s.size - k ∧ j = .int .i64 k ∧ (ahead (toL s)).length = k + (ahead ((toL s).drop k)).length)
  case atStart => exact ⟨rfl, 0, by omega, rfl, rfl, by simp⟩
  case round =>
    obtain ⟨rfl, k, hk, rfl, rfl, hl⟩ := hrel
    have HL : Aside _ := hl; clear hl
    by_cases hlt : k < s.size
    · obtain ⟨x, hx⟩ : ∃ x : UInt8, s[k] = x := ⟨_, rfl⟩
      have HX : Aside _ := drop_at s k hlt hx
      have h1 := one_eq s k hlt hx
      by_cases hsx : x = 32
      · subst hsx
        have hh : ((s.extract k (k + 1)).toList == [32]) = true := by rw [h1]; rfl
        clear h1
        go_wp2
        go_ret
        refine ⟨?_, rfl⟩
        unfold blankAt
        rw [HL.out, HX.out, ahead_cons_yes, if_pos (by rw [toL_length]; simpa using hlt)]
        rfl
      · have hh : ((s.extract k (k + 1)).toList == [32]) = false := by rw [h1]; simp [hsx]
        clear h1
        have HS : Aside _ := hsx; clear hsx
        go_wp2
        go_roundg (s.size - (k + 1))
        case measure => omega
        case rel => exact ⟨rfl, k + 1, by omega, rfl, by go_num, by rw [HL.out, HX.out, ahead_cons_no _ HS.out, List.length_cons]; omega⟩
    · obtain rfl : k = s.size := by omega
      have hkz : ¬ ((s.size : Int) + 1 ≤ (s.size : Int)) := by omega
      go_wp2
      go_ret
      refine ⟨?_, rfl⟩
      unfold blankAt
      rw [HL.out, List.drop_of_length_le (by rw [toL_length]; exact Nat.le_refl _), if_neg (by rw [toL_length]; simp [ahead])]
      rfl


theorem ahead_take (l : List UInt8) : l.take (ahead l).length = ahead l := by
  induction l with
  | nil => rfl
  | cons c l ih =>
    by_cases h : c = 32
    · subst h; rw [ahead_cons_yes]; rfl
    · rw [ahead_cons_no _ h, List.length_cons, List.take_succ_cons, ih]

set_option maxHeartbeats 1000000 in
/-- Cut at the first blank: there is one. -/
theorem cut_yes (s : ByteArray) (w : World) (hs : s.size ≤ 1000000000) (h : (ahead (toL s)).length < (toL s).length) :
    Calls Tryz.prog 103 #[.string s, .string ⟨#[32]⟩] w fun e w' => e = .returned (.tuple #[.string (ofL (ahead (toL s))), .string (ofL ((toL s).drop ((ahead (toL s)).length + 1))), .bool true]) ∧ ∃ n, w' = w.drewN n := by
  have hi : blankAt (toL s) = ((ahead (toL s)).length : Nat) := by unfold blankAt; rw [if_pos h]
  rw [toL_length] at h
  have h1 : s.extract 0 (ahead (toL s)).length = ofL (ahead (toL s)) := by rw [Lib.extract_eq, ofL, List.drop_zero, Nat.sub_zero]; rw [show s.data.toList = toL s from rfl, ahead_take]
  have h2 : s.extract ((ahead (toL s)).length + 1) s.size = ofL ((toL s).drop ((ahead (toL s)).length + 1)) := by
    rw [Lib.extract_eq, ofL, List.take_of_length_le]
    rw [List.length_drop, ← toL_length]; exact Nat.le_refl _
  generalize (ahead (toL s)).length = n at *
  generalize ofL (ahead (toL s)) = r1 at *
  generalize ofL ((toL s).drop (n + 1)) = r2 at *
  have hz := zzIndex_calls s w hs
  rw [hi] at hz
  clear hi
  have HZ := Lib.hid hz; clear hz
  subst h1 h2
  have hn0 : (0 : Int) ≤ (n : Int) := by omega
  have hn1 : (n : Int) ≤ (s.size : Int) := by omega
  have hn2 : (n : Int) + 1 ≤ (s.size : Int) := by omega
  go_enter Tryz.func103, Tryz.ntmps103
  go_wp2_with (go_at_call 113; refine HZ.out.mono ?_; rintro e w' ⟨rfl, rfl⟩)
  go_quiet (fail)
  go_wp2
  go_ret3
  exact ⟨rfl, _, rfl⟩

set_option maxHeartbeats 1000000 in
/-- Cut at the first blank: there is none. -/
theorem cut_no (s : ByteArray) (w : World) (hs : s.size ≤ 1000000000) (h : ¬ (ahead (toL s)).length < (toL s).length) :
    Calls Tryz.prog 103 #[.string s, .string ⟨#[32]⟩] w fun e w' => e = .returned (.tuple #[.string s, .string ⟨#[]⟩, .bool false]) ∧ w = w' := by
  have hi : blankAt (toL s) = -1 := by unfold blankAt; rw [if_neg h]
  have hz := zzIndex_calls s w hs
  rw [hi] at hz
  clear hi h
  go_enter Tryz.func103, Tryz.ntmps103
  go_wp2_with (go_at_call 113; refine hz.mono ?_; rintro e w' ⟨rfl, rfl⟩)
  go_ret3
  exact ⟨rfl, rfl⟩
end Go.Proofs.YtghajgdiaopioaaGreatDoor
