/- Walks: a whole number's text is read (161, 193, 172, 143, 128, 114, 104). -/
import Derived.Test.YtghajgdiaopioaaGreatDoorW07
import Derived.Test.YtghajgdiaopioaaGreatDoorW27
set_option linter.unusedVariables false
set_option linter.unusedSimpArgs false

namespace Go.Proofs.YtghajgdiaopioaaGreatDoor
open Go.RowKit

set_option maxRecDepth 10000 in
set_option maxHeartbeats 1000000 in
theorem prefix0_gen (s q : ByteArray) (h0 : 0 < s.size) (w : World) (hd : isDg s[0]) (hs : s.size ≤ 1000) (hq : q.size = 8) (hq0 : q[0]'(by omega) = 105) :
    Calls Tryz.prog 193 #[.string s, .string q] w fun e w' => e = .returned (.int .i64 0) ∧ w = w' := by
  obtain ⟨c0, hc0⟩ : ∃ c : UInt8, s[0] = c := ⟨_, rfl⟩
  rw [hc0] at hd
  have n1 : decide ((65 : Int) ≤ (c0.toNat : Int)) = false := decide_eq_false (by have := hd.2; omega)
  have n2 : ((c0.toNat : Int) != 105) = true := by rw [bne_iff_ne]; have := hd.2; intro h; omega
  have n3 : ¬ ((65 : Int) ≤ (c0.toNat : Int)) := by have := hd.2; omega
  have tD : decide (s = ByteArray.empty) = false := decide_eq_false fun h => by
    have h2 : s.size = 0 := by rw [h]; rfl
    omega
  have tm : decide ((0 : Int) < min 8 (s.size : Int)) = true := decide_eq_true (by omega)
  have tm2 : (0 : Int) < min 8 (s.size : Int) := by omega
  clear hd
  go_enter Tryz.func193, Tryz.ntmps193
  go_wp2_with fail
  go_loopg [6] 1 (fun g s6 wx => w = wx ∧ s6 = .int .i64 0)
  case atStart => exact ⟨rfl, rfl⟩
  case round =>
    obtain ⟨rfl, rfl⟩ := hrel
    go_wp2
    go_ret
    exact ⟨rfl, rfl⟩
theorem prefix0_calls (s : ByteArray) (h0 : 0 < s.size) (w : World) (hd : isDg s[0]) (hs : s.size ≤ 1000) :
    Calls Tryz.prog 193 #[.string s, .string ⟨#[105, 110, 102, 105, 110, 105, 116, 121]⟩] w fun e w' => e = .returned (.int .i64 0) ∧ w = w' := prefix0_gen s _ h0 w hd hs rfl rfl
set_option maxRecDepth 10000 in
set_option maxHeartbeats 1000000 in
theorem special_pos (s : ByteArray) (h0 : 0 < s.size) (w : World) (hd : isDg s[0]) :
    Calls Tryz.prog 161 #[.string s] w fun e w' => e = .returned (.tuple #[.float .f64 0, .int .i64 0, .bool false]) ∧ w = w' := by
  obtain ⟨c0, hc0⟩ : ∃ c : UInt8, s[0] = c := ⟨_, rfl⟩
  rw [hc0] at hd
  have n1 : ((c0.toNat : Int) == 43) = false := by rw [beq_eq_false_iff_ne]; have := hd.1; intro h; omega
  have n2 : ((c0.toNat : Int) == 45) = false := by rw [beq_eq_false_iff_ne]; have := hd.1; intro h; omega
  have n3 : ((c0.toNat : Int) == 105) = false := by rw [beq_eq_false_iff_ne]; have := hd.2; intro h; omega
  have n4 : ((c0.toNat : Int) == 73) = false := by rw [beq_eq_false_iff_ne]; have := hd.2; intro h; omega
  have n5 : ((c0.toNat : Int) == 110) = false := by rw [beq_eq_false_iff_ne]; have := hd.2; intro h; omega
  have n6 : ((c0.toNat : Int) == 78) = false := by rw [beq_eq_false_iff_ne]; have := hd.2; intro h; omega
  have tD : decide (s = ByteArray.empty) = false := decide_eq_false fun h => by
    have h2 : s.size = 0 := by rw [h]; rfl
    omega
  have tz : ((s.size : Int) == 0) = false := by rw [beq_eq_false_iff_ne]; omega
  clear hd
  go_enter Tryz.func161, Tryz.ntmps161
  go_wp2_with fail
  refine bodyPost_ret (v := .tuple #[.float .f64 0, .int .i64 0, .bool false]) (by simp [results, Tryz.results161, go_sem]) rfl ⟨rfl, rfl⟩
set_option maxRecDepth 10000 in
set_option maxHeartbeats 1000000 in
theorem special_neg (s : ByteArray) (h1 : 1 < s.size) (hs : s.size ≤ 1000) (w : World) (hc0 : s[0] = 45) (hd : isDg s[1]) :
    Calls Tryz.prog 161 #[.string s] w fun e w' => e = .returned (.tuple #[.float .f64 0, .int .i64 0, .bool false]) ∧ w = w' := by
  have tz : ((s.size : Int) == 0) = false := by rw [beq_eq_false_iff_ne]; omega
  have tD : decide (s = ByteArray.empty) = false := decide_eq_false fun h => by
    have h2 : s.size = 0 := by rw [h]; rfl
    omega
  obtain ⟨u, hu⟩ : ∃ u, s.extract 1 s.size = u := ⟨_, rfl⟩
  have hus : u.size = s.size - 1 := by rw [← hu, ByteArray.size_extract]; omega
  have hu0 : isDg (u[0]'(by omega)) := by
    have : u[0]'(by omega) = s[1] := by
      subst hu
      rw [ByteArray.getElem_extract]
    rw [this]; exact hd
  have HP := Lib.hid (prefix0_calls u (by omega) w hu0 (by omega))
  clear hd hu0
  go_enter Tryz.func161, Tryz.ntmps161
  go_wp2_with (first | (go_at_call 193; refine HP.out.mono ?_; rintro e' w' ⟨rfl, rfl⟩))
  refine bodyPost_ret (v := .tuple #[.float .f64 0, .int .i64 0, .bool false]) (by simp [results, Tryz.results161, go_sem]) rfl ⟨rfl, rfl⟩
end Go.Proofs.YtghajgdiaopioaaGreatDoor

/- Walks: a whole number's text is read (172, 143, 128, 114, 104). -/
namespace Go.Proofs.YtghajgdiaopioaaGreatDoor
open Go.RowKit

theorem run_neg_float (P : Program) (k : FloatKind) (b : Nat) (w : World) : (Op.unary .neg (.float k b)).run P w = .ok (.float k (Op.negFloat k b)) w := rfl
attribute [local go_sem] run_neg_float
def rdF (neg : Bool) (m : Nat) : Nat := if neg then Op.negFloat .f64 (floatOfInt .f64 m) else floatOfInt .f64 m
theorem rdF_pos (m : Nat) : rdF false m = floatOfInt .f64 m := if_neg (by decide)
theorem rdF_neg (m : Nat) : rdF true m = Op.negFloat .f64 (floatOfInt .f64 m) := if_pos rfl
set_option maxRecDepth 10000 in
set_option maxHeartbeats 1000000 in
theorem exact0_calls (m : Nat) (neg : Bool) (w : World) (hm : m < 1000000000000) (hI : w.cell? ⟨16, 0, none⟩ = some (.int .u64 52)) :
    Calls Tryz.prog 172 #[.int .u64 m, .int .i64 0, .bool neg] w fun e w' => e = .returned (.tuple #[.float .f64 (rdF neg m), .bool true]) ∧ w = w' := by
  have hz : ((m : Int) / 4503599627370496 != 0) = false := by
    have : (m : Int) / 4503599627370496 = 0 := by omega
    rw [this]; rfl
  cases neg
  · rw [rdF_pos]
    go_enter Tryz.func172, Tryz.ntmps172
    go_wp2_with fail
    refine bodyPost_ret (v := .tuple #[.float .f64 (floatOfInt .f64 m), .bool true]) (by simp [results, Tryz.results172, go_sem]) rfl ⟨rfl, rfl⟩
  · rw [rdF_neg]
    go_enter Tryz.func172, Tryz.ntmps172
    go_wp2_with fail
    refine bodyPost_ret (v := .tuple #[.float .f64 (Op.negFloat .f64 (floatOfInt .f64 m)), .bool true]) (by simp [results, Tryz.results172, go_sem]) rfl ⟨rfl, rfl⟩
theorem ff171 (x : Nat) (w : World) : (callFunc 171 #[.int .u64 x]).run Tryz.prog w = .ok (.value (.float .f64 x)) w := by
  rw [run_callFunc_extern (e := Extern.MathFloatBits.float64frombits) Tryz.func171 (by kernel_rfl) (by kernel_rfl) (by kernel_rfl) (by kernel_rfl)]
  rfl
set_option maxRecDepth 10000 in
set_option maxHeartbeats 1000000 in
theorem atof64_whole (s : ByteArray) (m : Nat) (neg : Bool) (w : World) (hm : m < 1000000000000) (hz : m = 0 → neg = false)
    (hI : w.cell? ⟨16, 0, none⟩ = some (.int .u64 52)) (hO : w.cell? ⟨14, 0, none⟩ = some (.bool true))
    (h161 : ∀ w, Calls Tryz.prog 161 #[.string s] w fun e w' => e = .returned (.tuple #[.float .f64 0, .int .i64 0, .bool false]) ∧ w = w')
    (h162 : ∀ w, Calls Tryz.prog 162 #[.string s] w fun e w' => e = .returned (.tuple #[.int .u64 m, .int .i64 0, .bool neg, .bool false, .bool false, .int .i64 s.size, .bool true]) ∧ w = w') :
    Calls Tryz.prog 143 #[.string s] w fun e w' => e = .returned (.tuple #[.float .f64 (rdF neg m), .int .i64 s.size, .nilIface]) ∧ w = w' := by
  have H1 := Lib.hid h161
  have H2 := Lib.hid h162
  clear h161 h162
  have hff : ∀ w, (callFunc 171 #[.int .u64 0]).run Tryz.prog w = .ok (.value (.float .f64 0)) w := fun w => ff171 0 w
  have hzb : zB false = 0 := rfl
  have hor : bits BinOp.or IntKind.u64 0 0 = 0 := by decide +kernel
  by_cases h0 : m = 0
  · obtain rfl := hz h0
    subst h0
    clear hz
    have hr : rdF false 0 = 0 := by decide +kernel
    rw [hr]
    go_enter Tryz.func143, Tryz.ntmps143
    go_wp2_with (first | (go_at_call 161; refine (H1.out _).mono ?_; rintro e' w' ⟨rfl, rfl⟩) | (go_at_call 162; refine (H2.out _).mono ?_; rintro e' w' ⟨rfl, rfl⟩) | (go_at_call 170; refine (bool2_calls _ _).mono ?_; rintro e' w' ⟨rfl, rfl⟩))
    refine bodyPost_ret (v := .tuple #[.float .f64 0, .int .i64 s.size, .nilIface]) (by simp [results, Tryz.results143, go_sem]) rfl ⟨rfl, rfl⟩
  · have hne := ne_nat m 0 h0
    clear hz
    go_enter Tryz.func143, Tryz.ntmps143
    go_wp2_with (first | (go_at_call 161; refine (H1.out _).mono ?_; rintro e' w' ⟨rfl, rfl⟩) | (go_at_call 162; refine (H2.out _).mono ?_; rintro e' w' ⟨rfl, rfl⟩) | (go_at_call 170; refine (bool2_calls _ _).mono ?_; rintro e' w' ⟨rfl, rfl⟩) | (go_at_call 172; refine (exact0_calls m neg _ hm hI).mono ?_; rintro e' w' ⟨rfl, rfl⟩))
    refine bodyPost_ret (v := .tuple #[.float .f64 (rdF neg m), .int .i64 s.size, .nilIface]) (by simp [results, Tryz.results143, go_sem]) rfl ⟨rfl, rfl⟩
theorem parse128 (s : ByteArray) (x : Nat) (w w1 : World) (h : Calls Tryz.prog 143 #[.string s] w fun e w' => e = .returned (.tuple #[.float .f64 x, .int .i64 s.size, .nilIface]) ∧ w1 = w') :
    Calls Tryz.prog 128 #[.string s, .int .i64 64] w fun e w' => e = .returned (.tuple #[.float .f64 x, .int .i64 s.size, .nilIface]) ∧ w1 = w' := by
  have H := Lib.hid h
  clear h
  go_enter Tryz.func128, Tryz.ntmps128
  go_wp2_with (first | (go_at_call 143; refine H.out.mono ?_; rintro e' w' ⟨rfl, rfl⟩))
  refine bodyPost_ret (v := .tuple #[.float .f64 x, .int .i64 s.size, .nilIface]) (by simp [results, Tryz.results128, go_sem]) rfl ⟨rfl, rfl⟩
theorem parse114 (s : ByteArray) (x : Nat) (w w1 : World) (h : Calls Tryz.prog 128 #[.string s, .int .i64 64] w fun e w' => e = .returned (.tuple #[.float .f64 x, .int .i64 s.size, .nilIface]) ∧ w1 = w') :
    Calls Tryz.prog 114 #[.string s, .int .i64 64] w fun e w' => e = .returned (.tuple #[.float .f64 x, .nilIface]) ∧ w1 = w' := by
  have H := Lib.hid h
  clear h
  have hn : ((s.size : Int) != (s.size : Int)) = false := by simp
  go_enter Tryz.func114, Tryz.ntmps114
  go_wp2_with (first | (go_at_call 128; refine H.out.mono ?_; rintro e' w' ⟨rfl, rfl⟩))
  refine bodyPost_ret (v := .tuple #[.float .f64 x, .nilIface]) (by simp [results, Tryz.results114, go_sem]) rfl ⟨rfl, rfl⟩
theorem parse104 (s : ByteArray) (x : Nat) (w w1 : World) (h : Calls Tryz.prog 114 #[.string s, .int .i64 64] w fun e w' => e = .returned (.tuple #[.float .f64 x, .nilIface]) ∧ w1 = w') :
    Calls Tryz.prog 104 #[.string s, .int .i64 64] w fun e w' => e = .returned (.tuple #[.float .f64 x, .nilIface]) ∧ w1 = w' := by
  have H := Lib.hid h
  clear h
  go_enter Tryz.func104, Tryz.ntmps104
  go_wp2_with (first | (go_at_call 114; refine H.out.mono ?_; rintro e' w' ⟨rfl, rfl⟩))
  refine bodyPost_ret (v := .tuple #[.float .f64 x, .nilIface]) (by simp [results, Tryz.results104, go_sem]) rfl ⟨rfl, rfl⟩

/-- What the kernel computes of the digits of whole numbers. -/
def chkR (n : Nat) : Bool := (digs (kDig n) n).all (fun c => decide (48 ≤ c.toNat) && decide (c.toNat ≤ 57)) && decide (vald (digs (kDig n) n) = n) && (decide (kDig n ≤ 2) || decide ((digs (kDig n) n)[0]? ≠ some 48)) && decide (rdF false n = wBits false n) && (decide (n = 0) || decide (rdF true n = wBits true n))
set_option maxRecDepth 100000 in
theorem chkR_all : ((List.range 1001).all chkR) = true := by decide +kernel
theorem digs_len (k d : Nat) : (digs k d).length = k := by simp [digs]
theorem kDig_le (n : Nat) : 1 ≤ kDig n ∧ kDig n ≤ 4 := by
  unfold kDig
  split
  · omega
  · split
    · omega
    · split <;> omega
/-- Whole numbers' texts are read as them. -/
theorem num_reads (G : Errs) (hG : ∀ w, Env G w → TabsW w ∧ w.cell? ⟨16, 0, none⟩ = some (.int .u64 52) ∧ w.cell? ⟨14, 0, none⟩ = some (.bool true)) {neg : Bool} {n : Nat} (h : Wh neg n) : NumReads G (wText neg n) (wBits neg n) := by
  intro w hE
  obtain ⟨_, hI, hO⟩ := hG w hE
  have hc := List.all_eq_true.1 chkR_all n (List.mem_range.2 (by have := h.1; omega))
  unfold chkR at hc
  simp only [Bool.and_eq_true, Bool.or_eq_true, decide_eq_true_eq, List.all_eq_true] at hc
  obtain ⟨⟨⟨⟨hd, hv⟩, hl⟩, hp⟩, hn⟩ := hc
  obtain ⟨k1, k2⟩ := kDig_le n
  have hlen := digs_len (kDig n) n
  have hD : ∀ c ∈ digs (kDig n) n, isDg c := fun c hc => hd c hc
  have hx : rdF neg n = wBits neg n := by
    cases neg
    · exact hp
    · rcases hn with h0 | h0
      · exact absurd (h.2 h0) (by decide)
      · exact h0
  have hfin : Calls Tryz.prog 143 #[.string (ofL (wText neg n))] w fun e w' => e = .returned (.tuple #[.float .f64 (wBits neg n), .int .i64 (ofL (wText neg n)).size, .nilIface]) ∧ w = w' := by
    rw [← hx]
    have hr := readFloat_pos
    cases neg
    · have ht : wText false n = digs (kDig n) n := rfl
      rw [ht]
      have hsz : (ofL (digs (kDig n) n)).size = kDig n := by rw [ofL_size, hlen]
      refine atof64_whole (ofL (digs (kDig n) n)) n false w (by have := h.1; omega) (fun _ => rfl) hI hO (fun w => special_pos _ (by omega) w ?_) (fun w => ?_)
      · rw [ofL_get _ 0 (by omega)]; exact hD _ (List.getElem_mem _)
      · have := readFloat_pos (ofL (digs (kDig n) n)) (digs (kDig n) n) w (toL_ofL _) hD (by omega) (by omega) (by rw [hlen]; exact hl)
        rw [hv] at this
        rw [ofL_size]
        exact this
    · have ht : wText true n = 45 :: digs (kDig n) n := rfl
      rw [ht]
      have hsz : (ofL (45 :: digs (kDig n) n)).size = kDig n + 1 := by rw [ofL_size, List.length_cons, hlen]
      refine atof64_whole (ofL (45 :: digs (kDig n) n)) n true w (by have := h.1; omega) (fun h0 => h.2 h0) hI hO (fun w => special_neg _ (by omega) (by omega) w ?_ ?_) (fun w => ?_)
      · rw [ofL_get _ 0 (by simp)]; rfl
      · rw [ofL_get _ 1 (by simp; omega)]; exact hD _ (by simp)
      · have := readFloat_neg (ofL (45 :: digs (kDig n) n)) (digs (kDig n) n) w (toL_ofL _) hD (by omega) (by omega) (by rw [hlen]; exact hl)
        rw [hv] at this
        exact this
  exact (parse104 _ _ w w (parse114 _ _ w w (parse128 _ _ w w hfin))).mono fun e w' h => ⟨h.1, by rw [← h.2]; exact Below.refl _ _⟩
end Go.Proofs.YtghajgdiaopioaaGreatDoor
