/- Walks: a decimal number read by scaling (185, 139, 199, 173). -/
import Derived.Lib.ItoaNum
import Derived.Test.YtghajgdiaopioaaGreatDoorW07
import Derived.Test.YtghajgdiaopioaaGreatDoorW08
import Derived.Test.YtghajgdiaopioaaGreatDoorW26
import Derived.Test.YtghajgdiaopioaaGreatDoorW27
import Derived.Test.YtghajgdiaopioaaGreatDoorW28
import Derived.Test.YtghajgdiaopioaaGreatDoorV08
set_option linter.unusedVariables false
set_option linter.unusedSimpArgs false

namespace Go.Proofs.YtghajgdiaopioaaGreatDoor
open Go.RowKit
set_option exponentiation.threshold 3000

theorem or_sign (neg : Bool) (M : Nat) (h : M < 9223372036854775808) : bits BinOp.or IntKind.u64 ((wrd neg 0 : Nat) : Int) (M : Int) = ((wrd neg M : Nat) : Int) := by
  have hw : wrd neg 0 < 18446744073709551616 := by unfold wrd; split <;> omega
  rw [bits_or_u64_nat _ _ hw (by omega)]
  congr 1
  cases neg
  · show 0 ||| M = M
    exact Nat.zero_or M
  · show 9223372036854775808 ||| M = 9223372036854775808 + M
    have := Nat.two_pow_add_eq_or_of_lt (i := 63) h 1
    rw [Nat.mul_one] at this
    exact this.symm
theorem and52 (neg : Bool) (M : Nat) (h : M < 9007199254740992) : bits BinOp.and IntKind.u64 ((wrd neg M : Nat) : Int) 4503599627370496 = if M < 4503599627370496 then 0 else 4503599627370496 := by
  have hw : wrd neg M < 18446744073709551616 := by unfold wrd; split <;> omega
  have := bits_and_u64_nat (wrd neg M) 4503599627370496 hw (by decide)
  rw [show ((4503599627370496 : Nat) : Int) = 4503599627370496 from rfl] at this
  rw [this]
  have hd : wrd neg M / 2 ^ 52 % 2 = M / 2 ^ 52 := by
    unfold wrd
    cases neg
    · simp; omega
    · simp; omega
  have ht : (wrd neg M).testBit 52 = !decide (M < 4503599627370496) := by
    rw [Nat.testBit_eq_decide_div_mod_eq, hd]
    by_cases hM : M < 4503599627370496
    · rw [Nat.div_eq_of_lt hM, decide_eq_true hM]; rfl
    · rw [show M / 2 ^ 52 = 1 by omega, decide_eq_false hM]; rfl
  have he : wrd neg M &&& 4503599627370496 = if M < 4503599627370496 then 0 else 4503599627370496 := by
    apply Nat.eq_of_testBit_eq
    intro i
    rw [Nat.testBit_and, show (4503599627370496 : Nat).testBit i = decide (52 = i) from Nat.testBit_two_pow (n := 52)]
    by_cases hi : 52 = i
    · subst hi
      rw [ht]
      by_cases hM : M < 4503599627370496
      · rw [if_pos hM, decide_eq_true hM]; rfl
      · rw [if_neg hM, decide_eq_false hM]; decide
    · rw [decide_eq_false hi, Bool.and_false]
      by_cases hM : M < 4503599627370496
      · rw [if_pos hM, Nat.zero_testBit]
      · rw [if_neg hM]
        have : (4503599627370496 : Nat).testBit i = decide (52 = i) := Nat.testBit_two_pow (n := 52)
        rw [this, decide_eq_false hi]
  rw [he]
  split <;> rfl
theorem wrd_or (neg : Bool) (E f : Nat) (hf : f < 4503599627370496) (hE : E < 2048) : wrd neg (E * 4503599627370496 + f) = wrd neg f ||| E * 4503599627370496 := by
  have h1 : 2 ^ 52 * E + f = 2 ^ 52 * E ||| f := Nat.two_pow_add_eq_or_of_lt (i := 52) hf E
  rw [show (2 : Nat) ^ 52 = 4503599627370496 by decide, Nat.mul_comm] at h1
  cases neg
  · show E * 4503599627370496 + f = f ||| E * 4503599627370496
    rw [h1, Nat.or_comm]
  · show 9223372036854775808 + (E * 4503599627370496 + f) = (9223372036854775808 + f) ||| E * 4503599627370496
    have h2 := Nat.two_pow_add_eq_or_of_lt (i := 63) (show E * 4503599627370496 + f < 2 ^ 63 by omega) 1
    have h3 := Nat.two_pow_add_eq_or_of_lt (i := 63) (show f < 2 ^ 63 by omega) 1
    rw [show (2 : Nat) ^ 63 * 1 = 9223372036854775808 by decide] at h2 h3
    rw [h2, h3, h1, Nat.or_assoc, Nat.or_comm f]
theorem or_exp (neg : Bool) (E f : Nat) (hf : f < 4503599627370496) (hE : E < 2048) : bits BinOp.or IntKind.u64 ((wrd neg f : Nat) : Int) ((E * 4503599627370496 : Nat) : Int) = ((wrd neg (E * 4503599627370496 + f) : Nat) : Int) := by
  have hw : wrd neg f < 18446744073709551616 := by unfold wrd; split <;> omega
  rw [bits_or_u64_nat _ _ hw (by omega), wrd_or neg E f hf hE]
theorem andNot52 (neg : Bool) (f : Nat) (hf : f < 4503599627370496) : bits BinOp.andNot IntKind.u64 ((wrd neg (4503599627370496 + f) : Nat) : Int) 4503599627370496 = ((wrd neg f : Nat) : Int) := by
  have hw : wrd neg (4503599627370496 + f) < 18446744073709551616 := by unfold wrd; split <;> omega
  have hw2 : wrd neg f < 18446744073709551616 := by unfold wrd; split <;> omega
  have he := wrd_or neg 1 f hf (by decide)
  rw [Nat.one_mul] at he
  have ha : (BitVec.ofInt 64 ((wrd neg (4503599627370496 + f) : Nat) : Int)).toNat = wrd neg (4503599627370496 + f) := by
    rw [BitVec.ofInt_natCast, BitVec.toNat_ofNat]
    exact Nat.mod_eq_of_lt (by simpa using hw)
  have hb : (~~~(BitVec.ofInt 64 4503599627370496)).toNat = 18442240474082181119 := by decide
  have hc : (BitVec.ofInt 64 ((wrd neg (4503599627370496 + f) : Nat) : Int) &&& ~~~(BitVec.ofInt 64 4503599627370496)).toNat = wrd neg f := by
    rw [BitVec.toNat_and, ha, hb]
    have h52 : (wrd neg f).testBit 52 = false := by
      rw [Nat.testBit_eq_decide_div_mod_eq]
      have : wrd neg f / 2 ^ 52 % 2 = 0 := by
        unfold wrd
        cases neg
        · simp; omega
        · simp; omega
      rw [this]; rfl
    apply Nat.eq_of_testBit_eq
    intro i
    rw [Nat.testBit_and, he, Nat.testBit_or]
    have hm : (18442240474082181119 : Nat).testBit i = (decide (i < 64) && !decide (i = 52)) := by
      rw [show (18442240474082181119 : Nat) = 2 ^ 64 - (4503599627370496 + 1) by decide, Nat.testBit_two_pow_sub_succ (by decide)]
      rw [show (4503599627370496 : Nat) = 2 ^ 52 by decide, Nat.testBit_two_pow]
      congr 2
      exact decide_eq_decide.2 ⟨fun h => h.symm, fun h => h.symm⟩
    rw [hm, show (4503599627370496 : Nat) = 2 ^ 52 by decide, Nat.testBit_two_pow]
    by_cases h1 : i = 52
    · subst h1; simp [h52]
    · by_cases h2 : i < 64
      · have h3 : ¬ 52 = i := fun h => h1 h.symm
        simp [h1, h2, h3]
      · have h3 : (wrd neg f).testBit i = false := Nat.testBit_lt_two_pow (Nat.lt_of_lt_of_le (show wrd neg f < 2 ^ 64 by simpa using hw2) (Nat.pow_le_pow_right (by decide) (by omega)))
        have h4 : ¬ 52 = i := fun h => h1 h.symm
        simp [h2, h3]
  show IntKind.u64.wrap ((BitVec.ofInt 64 ((wrd neg (4503599627370496 + f) : Nat) : Int) &&& ~~~(BitVec.ofInt 64 4503599627370496)).toNat : Int) = _
  rw [hc, IntKind.wrap_u64]
  omega

theorem unmin_calls (w : World) : Calls Tryz.prog 185 #[.int .u64 9007199254740992] w fun e w' => e = .returned (.int .u64 36028797018963966) ∧ w = w' := by
  have h : IntKind.u64.wrap (IntKind.u64.wrap ((9007199254740992 : Int) * 2 ^ 2) - 2) = 36028797018963966 := by decide
  go_enter Tryz.func185, Tryz.ntmps185
  go_wp2
  go_ret
  exact ⟨rfl, rfl⟩
theorem bool2i_calls (b : Bool) (w : World) : Calls Tryz.prog 139 #[.bool b] w fun e w' => e = .returned (.int .i64 (zB b)) ∧ w = w' := by
  cases b
  all_goals
    go_enter Tryz.func139, Tryz.ntmps139
    go_wp2
    go_ret
    exact ⟨rfl, rfl⟩
theorem ff171' (x : Nat) (w : World) : (callFunc 171 #[.int .u64 x]).run Tryz.prog w = .ok (.value (.float .f64 x)) w := by
  rw [run_callFunc_extern (e := Extern.MathFloatBits.float64frombits) Tryz.func171 (by kernel_rfl) (by kernel_rfl) (by kernel_rfl) (by kernel_rfl)]
  rfl
set_option maxRecDepth 10000 in
set_option maxHeartbeats 1000000 in
/-- The parts are packed. -/
theorem pack_calls {q M x : Nat} (neg : Bool) (h : Rung q M x) (hf : x < 9218868437227405312) (w : World) :
    Calls Tryz.prog 199 #[.int .u64 (wrd neg M : Nat), .int .i64 ((q : Int) - 1074)] w fun e w' => e = .returned (.tuple #[.float .f64 (wrd neg x), .nilIface]) ∧ w = w' := by
  have he := h.eq
  have hl := h.lt
  have hn := h.nm
  have ha := and52 neg M hl
  by_cases hM : M < 4503599627370496
  · rw [if_pos hM] at ha
    have hx : x = M := by omega
    rw [hx]
    have hff := ff171' (wrd neg M)
    generalize wrd neg M = W at *
    clear he hl hn h hM hx hf
    generalize (q : Int) - 1074 = e0
    go_enter Tryz.func199, Tryz.ntmps199
    go_wp2_with fail
    refine bodyPost_ret (v := .tuple #[.float .f64 W, .nilIface]) (by simp [results, Tryz.results199, go_sem]) rfl ⟨rfl, rfl⟩
  · rw [if_neg hM] at ha
    obtain ⟨f, rfl⟩ : ∃ f, M = 4503599627370496 + f := ⟨M - 4503599627370496, by omega⟩
    have hb := andNot52 neg f (by omega)
    have hc := or_exp neg (q + 1) f (by omega) (by omega)
    rw [show (q + 1) * 4503599627370496 + f = x by omega] at hc
    have hff := ff171' (wrd neg x)
    have hq : decide (972 ≤ (q : Int) - 1074) = false := decide_eq_false (by omega)
    have hs : (((q + 1) * 4503599627370496 : Nat) : Int) = (1075 + ((q : Int) - 1074)) * 4503599627370496 := by omega
    rw [hs] at hc
    have hq2 : -1074 ≤ (q : Int) - 1074 := by omega
    have hq3 : (q : Int) - 1074 ≤ 1000 := by omega
    clear he hl hn h hM hf hs
    generalize wrd neg x = X at *
    generalize wrd neg f = F at *
    generalize wrd neg (4503599627370496 + f) = W at *
    generalize (q : Int) - 1074 = e0 at *
    go_enter Tryz.func199, Tryz.ntmps199
    go_wp2_with fail
    refine bodyPost_ret (v := .tuple #[.float .f64 X, .nilIface]) (by simp [results, Tryz.results199, go_sem]) rfl ⟨rfl, rfl⟩
end Go.Proofs.YtghajgdiaopioaaGreatDoor

/- Walks: parseFloat64 (173). -/
namespace Go.Proofs.YtghajgdiaopioaaGreatDoor
open Go.RowKit
set_option exponentiation.threshold 3000

theorem and1_nat (U : Nat) (h : U < 18446744073709551616) : bits BinOp.and IntKind.u64 (U : Int) 1 = ((U % 2 : Nat) : Int) := by
  have := bits_and_u64_nat U 1 h (by decide)
  rw [Nat.and_one_is_mod] at this
  exact this
theorem or_par0 (U : Nat) (h : U < 18446744073709551616) : bits BinOp.or IntKind.u64 (U : Int) ((U % 2 : Nat) : Int) = (U : Int) := by
  rcases Nat.mod_two_eq_zero_or_one U with h0 | h0
  · rw [h0]; exact or0 U h
  · rw [h0]
    have := or1 U h
    rw [show U / 2 * 2 + 1 = U by omega] at this
    exact this
theorem or_par1 (U : Nat) (h : U < 18446744073709551616) : bits BinOp.or IntKind.u64 ((U / 2 : Nat) : Int) ((U % 2 : Nat) : Int) = ((halfU U : Nat) : Int) := by
  unfold halfU
  rcases Nat.mod_two_eq_zero_or_one U with h0 | h0
  · rw [h0, if_pos rfl]; exact or0 _ (by omega)
  · rw [h0, if_neg (by decide)]; exact or1 _ (by omega)
theorem zRound_nat (U : Nat) (h : U < 9223372036854775808) : zRound (U : Int) = ((rndU U : Nat) : Int) := by
  unfold zRound rndU
  have ha : bits BinOp.and IntKind.u64 ((U : Int) / 4) 1 = ((U / 4 % 2 : Nat) : Int) := by
    have : ((U : Int) / 4) = ((U / 4 : Nat) : Int) := by omega
    rw [this]
    exact and1_nat _ (by omega)
  rw [ha, IntKind.wrap_u64, IntKind.wrap_u64]
  omega
set_option maxRecDepth 10000 in
set_option maxHeartbeats 1000000 in
theorem parse_walk0 (d b s i H L x0 U : Nat) (p lp e : Int) (neg : Bool) (w : World) (r : Nat)
    (hd : d < 18446744073709551616) (hb : Lib.bitLen d = b) (hb1 : 1 ≤ b) (hb2 : b ≤ 57) (hlp : zLog2P10 p = lp) (hlp1 : -1200 ≤ lp) (hlp2 : lp ≤ 1100) (he : min 1074 (53 - (b : Int) - lp) = e) (he1 : -1200 ≤ e)
    (hpi : p + 348 = i) (hi : i < 696) (hs : wrap64 (-(wrap64 (wrap64 (e - (64 - (b : Int)) + lp) + 3))) = (s : Int)) (hs64 : s < 64)
    (hx0 : d * 2 ^ (64 - b) = x0) (hx1 : x0 < 18446744073709551616) (hH : H < 18446744073709551616) (hL : L < 18446744073709551616)
    (tH : w.cell? ⟨22, i * 2, none⟩ = some (.int .u64 H)) (tL : w.cell? ⟨22, i * 2 + 1, none⟩ = some (.int .u64 L))
    (hU : zU x0 H L s = (U : Int)) (hU1 : U ≤ 72057594037927936)
    (hc : U < 36028797018963966) (hM : rndU U < 9223372036854775808) (hpk : ∀ w, Calls Tryz.prog 199 #[.int .u64 (wrd neg (rndU U) : Nat), .int .i64 (-e)] w fun e' w' => e' = .returned (.tuple #[.float .f64 r, .nilIface]) ∧ w = w') :
    Calls Tryz.prog 173 #[.int .u64 d, .int .i64 p, .int .u64 (wrd neg 0 : Nat)] w fun e' w' => e' = .returned (.tuple #[.float .f64 r, .nilIface]) ∧ Bel w w' := by
  have h22 : 22 < w.heap.size := World.block_lt_of_cell? w _ tH
  have HL := fun w => (Tryz.bits_Len64 (d : Int) w (by omega) (by omega)).mono (fun _ _ h => (⟨h.1, h.2.symm⟩ : _ ∧ w = _))
  rw [show (d : Int).toNat = d from by simp, hb] at HL
  have HL := Lib.hid HL
  have HLP := Lib.hid (fun w => log2p10_calls p w)
  rw [hlp] at HLP
  obtain ⟨w1, hw1⟩ : ∃ w1, w.alloc (.cells #[.int .u64 0, .int .u64 0, .int .i64 0] 246) = w1 := ⟨_, rfl⟩
  have hb1' : w1.heap[w.heap.size]? = some (.cells #[.int .u64 0, .int .u64 0, .int .i64 0] 246 (0, 0)) := by rw [← hw1]; exact heap_alloc_new w _
  have hbel : Bel w w1 := by rw [← hw1]; exact Bel.al _ _
  have HP := Lib.hid (prescale_calls w.heap.size i (e - (64 - (b : Int))) p lp H L hpi hi w1 _ _ _ hb1' h22 (hbel.cellOf tH) (hbel.cellOf tL))
  rw [hs] at HP
  have HW1 := Lib.hid hw1
  have HBEL := Lib.hid hbel
  have hs' : decide (64 ≤ (s : Int)) = false := decide_eq_false (by omega)
  have HX0 := Lib.hid hx0
  have hsh : IntKind.u64.wrap ((d : Int) * 2 ^ (64 - b)) = (x0 : Int) := by
    have : ((d : Int) * 2 ^ (64 - b)) = ((d * 2 ^ (64 - b) : Nat) : Int) := by simp
    rw [this, hx0, IntKind.wrap_u64]
    omega
  have HUS := Lib.hid (fun (wx : World) (hg : wx.heap[w.heap.size]? = some (.cells #[.int .u64 H, .int .u64 L, .int .i64 s] 246 (0, 0))) => (show Calls Tryz.prog 180 #[.int .u64 x0, .pointer (some ⟨w.heap.size, 0, none⟩)] wx fun e w' => e = .returned (.int .u64 U) ∧ ∀ B, Below B wx w' from (uscale_calls x0 H L s w.heap.size wx hx1 hH hL hs64 hg).mono fun e w' h => ⟨by rw [h.1]; exact congrArg (fun z => Ending.returned (.int .u64 z)) hU, h.2.2⟩))
  clear hU
  clear hw1 hbel hb1' hs tH tL hlp hb hx0 HX0
  have HPK := Lib.hid hpk
  have hdc : decide (36028797018963966 ≤ (U : Int)) = false := decide_eq_false (by omega)
  have hzb : zB false = 0 := rfl
  have ha := and1_nat U (by omega)
  have ho : bits BinOp.or IntKind.u64 (U : Int) ((U : Int) % 2) = (U : Int) := by
    have := or_par0 U (by omega)
    rwa [show ((U % 2 : Nat) : Int) = (U : Int) % 2 by omega] at this
  have hrd : zRound (U : Int) = ((rndU U : Nat) : Int) := zRound_nat U (by omega)
  have hor := or_sign neg (rndU U) hM
  clear hpk hM hc
  generalize wrd neg (rndU U) = PK at *
  generalize rndU U = M at *
  generalize wrd neg 0 = SG at *
  go_enter Tryz.func173, Tryz.ntmps173
  go_wp2_with (first | (go_at_call 138; refine (HL.out _).mono ?_; rintro e' w' ⟨rfl, rfl⟩) | (go_at_call 179; refine (HLP.out _).mono ?_; rintro e' w' ⟨rfl, rfl⟩) | (go_at_call 178; rw [HW1.out]; refine HP.out.mono ?_; rintro e' w2 ⟨rfl, hbw, hh⟩; have hc2 : w2.cell? ⟨w.heap.size, 2, none⟩ = some (.int .i64 s) := by simp [World.cell?, hh]) | (go_at_call 180; with_reducible refine (HUS.out _ hh).mono ?_; rintro e' w3 ⟨rfl, hb3⟩; have HB3 := Lib.hid (Below.trans HBEL.out ((show Below w.heap.size w1 w2 from hbw).trans (hb3 w.heap.size))); clear hb3 hbw hh hc2) | (go_at_call 185; refine (unmin_calls _).mono ?_; rintro e' w' ⟨rfl, rfl⟩) | (go_at_call 139; refine (bool2i_calls _ _).mono ?_; rintro e' w' ⟨rfl, rfl⟩) | (go_at_call 184; refine (round_calls _ _).mono ?_; rintro e' w' ⟨rfl, rfl⟩) | (go_at_call 199; refine (HPK.out _).mono ?_; rintro e' w' ⟨rfl, rfl⟩))
  go_ret2
  exact ⟨rfl, HB3.out⟩
set_option maxRecDepth 10000 in
set_option maxHeartbeats 1000000 in
theorem parse_walk1 (d b s i H L x0 U : Nat) (p lp e : Int) (neg : Bool) (w : World) (r : Nat)
    (hd : d < 18446744073709551616) (hb : Lib.bitLen d = b) (hb1 : 1 ≤ b) (hb2 : b ≤ 57) (hlp : zLog2P10 p = lp) (hlp1 : -1200 ≤ lp) (hlp2 : lp ≤ 1100) (he : min 1074 (53 - (b : Int) - lp) = e) (he1 : -1200 ≤ e)
    (hpi : p + 348 = i) (hi : i < 696) (hs : wrap64 (-(wrap64 (wrap64 (e - (64 - (b : Int)) + lp) + 3))) = (s : Int)) (hs64 : s < 64)
    (hx0 : d * 2 ^ (64 - b) = x0) (hx1 : x0 < 18446744073709551616) (hH : H < 18446744073709551616) (hL : L < 18446744073709551616)
    (tH : w.cell? ⟨22, i * 2, none⟩ = some (.int .u64 H)) (tL : w.cell? ⟨22, i * 2 + 1, none⟩ = some (.int .u64 L))
    (hU : zU x0 H L s = (U : Int)) (hU1 : U ≤ 72057594037927936)
    (hc : 36028797018963966 ≤ U) (hM : rndU (halfU U) < 9223372036854775808) (hpk : ∀ w, Calls Tryz.prog 199 #[.int .u64 (wrd neg (rndU (halfU U)) : Nat), .int .i64 (-(e - 1))] w fun e' w' => e' = .returned (.tuple #[.float .f64 r, .nilIface]) ∧ w = w') :
    Calls Tryz.prog 173 #[.int .u64 d, .int .i64 p, .int .u64 (wrd neg 0 : Nat)] w fun e' w' => e' = .returned (.tuple #[.float .f64 r, .nilIface]) ∧ Bel w w' := by
  have h22 : 22 < w.heap.size := World.block_lt_of_cell? w _ tH
  have HL := fun w => (Tryz.bits_Len64 (d : Int) w (by omega) (by omega)).mono (fun _ _ h => (⟨h.1, h.2.symm⟩ : _ ∧ w = _))
  rw [show (d : Int).toNat = d from by simp, hb] at HL
  have HL := Lib.hid HL
  have HLP := Lib.hid (fun w => log2p10_calls p w)
  rw [hlp] at HLP
  obtain ⟨w1, hw1⟩ : ∃ w1, w.alloc (.cells #[.int .u64 0, .int .u64 0, .int .i64 0] 246) = w1 := ⟨_, rfl⟩
  have hb1' : w1.heap[w.heap.size]? = some (.cells #[.int .u64 0, .int .u64 0, .int .i64 0] 246 (0, 0)) := by rw [← hw1]; exact heap_alloc_new w _
  have hbel : Bel w w1 := by rw [← hw1]; exact Bel.al _ _
  have HP := Lib.hid (prescale_calls w.heap.size i (e - (64 - (b : Int))) p lp H L hpi hi w1 _ _ _ hb1' h22 (hbel.cellOf tH) (hbel.cellOf tL))
  rw [hs] at HP
  have HW1 := Lib.hid hw1
  have HBEL := Lib.hid hbel
  have hs' : decide (64 ≤ (s : Int)) = false := decide_eq_false (by omega)
  have HX0 := Lib.hid hx0
  have hsh : IntKind.u64.wrap ((d : Int) * 2 ^ (64 - b)) = (x0 : Int) := by
    have : ((d : Int) * 2 ^ (64 - b)) = ((d * 2 ^ (64 - b) : Nat) : Int) := by simp
    rw [this, hx0, IntKind.wrap_u64]
    omega
  have HUS := Lib.hid (fun (wx : World) (hg : wx.heap[w.heap.size]? = some (.cells #[.int .u64 H, .int .u64 L, .int .i64 s] 246 (0, 0))) => (show Calls Tryz.prog 180 #[.int .u64 x0, .pointer (some ⟨w.heap.size, 0, none⟩)] wx fun e w' => e = .returned (.int .u64 U) ∧ ∀ B, Below B wx w' from (uscale_calls x0 H L s w.heap.size wx hx1 hH hL hs64 hg).mono fun e w' h => ⟨by rw [h.1]; exact congrArg (fun z => Ending.returned (.int .u64 z)) hU, h.2.2⟩))
  clear hU
  clear hw1 hbel hb1' hs tH tL hlp hb hx0 HX0
  have HPK := Lib.hid hpk
  have hdc : decide (36028797018963966 ≤ (U : Int)) = true := decide_eq_true (by omega)
  have hzb : zB true = 1 := rfl
  have ha := and1_nat U (by omega)
  have ho : bits BinOp.or IntKind.u64 ((U : Int) / 2) ((U : Int) % 2) = ((halfU U : Nat) : Int) := by
    have := or_par1 U (by omega)
    rwa [show ((U % 2 : Nat) : Int) = (U : Int) % 2 by omega, show ((U / 2 : Nat) : Int) = (U : Int) / 2 by omega] at this
  have hhl : halfU U ≤ U := by unfold halfU; split <;> omega
  have hrd : zRound ((halfU U : Nat) : Int) = ((rndU (halfU U) : Nat) : Int) := zRound_nat (halfU U) (by omega)
  have hor := or_sign neg (rndU (halfU U)) hM
  clear hpk hM hc
  generalize wrd neg (rndU (halfU U)) = PK at *
  generalize rndU (halfU U) = M at *
  generalize halfU U = U2 at *
  generalize wrd neg 0 = SG at *
  go_enter Tryz.func173, Tryz.ntmps173
  go_wp2_with (first | (go_at_call 138; refine (HL.out _).mono ?_; rintro e' w' ⟨rfl, rfl⟩) | (go_at_call 179; refine (HLP.out _).mono ?_; rintro e' w' ⟨rfl, rfl⟩) | (go_at_call 178; rw [HW1.out]; refine HP.out.mono ?_; rintro e' w2 ⟨rfl, hbw, hh⟩; have hc2 : w2.cell? ⟨w.heap.size, 2, none⟩ = some (.int .i64 s) := by simp [World.cell?, hh]) | (go_at_call 180; with_reducible refine (HUS.out _ hh).mono ?_; rintro e' w3 ⟨rfl, hb3⟩; have HB3 := Lib.hid (Below.trans HBEL.out ((show Below w.heap.size w1 w2 from hbw).trans (hb3 w.heap.size))); clear hb3 hbw hh hc2) | (go_at_call 185; refine (unmin_calls _).mono ?_; rintro e' w' ⟨rfl, rfl⟩) | (go_at_call 139; refine (bool2i_calls _ _).mono ?_; rintro e' w' ⟨rfl, rfl⟩) | (go_at_call 184; refine (round_calls _ _).mono ?_; rintro e' w' ⟨rfl, rfl⟩) | (go_at_call 199; refine (HPK.out _).mono ?_; rintro e' w' ⟨rfl, rfl⟩))
  go_ret2
  exact ⟨rfl, HB3.out⟩
end Go.Proofs.YtghajgdiaopioaaGreatDoor

/- Walks: a decimal number read by one product or quotient (172), way by way (printed by genEL.py). -/
namespace Go.Proofs.YtghajgdiaopioaaGreatDoor
open Go.RowKit
set_option exponentiation.threshold 3000
attribute [local go_sem] run_neg_float

/-- The powers of ten that are floats. -/
def p10F : List Nat := [4607182418800017408, 4621819117588971520, 4636737291354636288, 4652007308841189376, 4666723172467343360, 4681608360884174848, 4696837146684686336, 4711630319722168320, 4726483295884279808, 4741671816366391296, 4756540486875873280, 4771362005757984768, 4786511204640096256, 4801453603149578240, 4816244402031689728, 4831355200913801216, 4846369599423283200, 4861130398305394688, 4876203697187506176, 4891288408196988160, 4906019910204099648, 4921056587992461136, 4936209963552724370]
theorem p10F_len : p10F.length = 23 := rfl
def chk10 (i : Nat) : Bool :=
  let x := p10F.getD i 0
  decide (4503599627370496 ≤ x) && (decide (x < 9218868437227405312) && decide ((4503599627370496 + x % 4503599627370496) * 2 ^ (((x / 4503599627370496 - 1 : Nat) : Int) - 1074).toNat = 10 ^ i * 2 ^ (-(((x / 4503599627370496 - 1 : Nat) : Int) - 1074)).toNat))
theorem chk10_all : ((List.range 23).all chk10) = true := by decide +kernel
theorem p10F_is (i : Nat) (hi : i < 23) : IsV (p10F.getD i 0) (10 ^ i) := by
  have h := List.all_eq_true.1 chk10_all i (List.mem_range.2 hi)
  unfold chk10 at h
  simp only [Bool.and_eq_true, decide_eq_true_eq] at h
  obtain ⟨h1, h2, h3⟩ := h
  exact ⟨_, _, ⟨by omega, by omega, .inr (by omega)⟩, h2, by omega, h3⟩
theorem neg_wrd (y : Nat) (h : y < 9223372036854775808) : Op.negFloat .f64 y = wrd true y := by
  show y ^^^ 2 ^ 63 = 9223372036854775808 + y
  have h1 : 2 ^ 63 * 1 + y = 2 ^ 63 * 1 ||| y := Nat.two_pow_add_eq_or_of_lt h 1
  have h2 : y ^^^ 2 ^ 63 = 2 ^ 63 * 1 ||| y := by
    apply Nat.eq_of_testBit_eq
    intro i
    rw [Nat.testBit_xor, Nat.testBit_or, Nat.mul_one, Nat.testBit_two_pow]
    by_cases hi : 63 = i
    · subst hi
      rw [Nat.testBit_lt_two_pow h]
      simp
    · simp [hi]
  rw [h2, ← h1]
/-- The table of the powers of ten that are floats. -/
def T10 (w : World) : Prop := ∃ a cap, w.cell? ⟨21, 0, none⟩ = some (.slice (some a) 23 cap) ∧ ∀ i, i < 23 → w.cell? (a.add i) = some (.float .f64 (p10F.getD i 0))
/-- What the exact way gives: if it says that it is right, it is. -/
def ExR (w : World) (z : Nat) (e : Ending) (w' : World) : Prop := (∃ f ok, e = .returned (.tuple #[.float .f64 f, .bool ok]) ∧ (ok = true → f = z)) ∧ w = w'


set_option maxRecDepth 10000 in
set_option maxHeartbeats 2000000 in
theorem ex0_p (m y : Nat) (w : World) (hm : m < 4503599627370496) (hy : floatOfInt .f64 m = y) (hy2 : y < 9223372036854775808) (hI : w.cell? ⟨16, 0, none⟩ = some (.int .u64 52)) : Calls Tryz.prog 172 #[.int .u64 m, .int .i64 0, .bool false] w (ExR w y) := by
  have hz : ((m : Int) / 4503599627370496 != 0) = false := by
    have : (m : Int) / 4503599627370496 = 0 := by omega
    rw [this]; rfl
  clear hy2
  go_enter Tryz.func172, Tryz.ntmps172
  go_wp2_with fail
  refine bodyPost_ret (v := .tuple #[.float .f64 y, .bool true]) (by simp [results, Tryz.results172, go_sem]) rfl ⟨⟨_, _, rfl, by simp⟩, rfl⟩

set_option maxRecDepth 10000 in
set_option maxHeartbeats 2000000 in
theorem exN_p (x : Int) (z : Nat) (h : x < -22 ∨ 37 < x) (m y : Nat) (w : World) (hm : m < 4503599627370496) (hy : floatOfInt .f64 m = y) (hy2 : y < 9223372036854775808) (hI : w.cell? ⟨16, 0, none⟩ = some (.int .u64 52)) : Calls Tryz.prog 172 #[.int .u64 m, .int .i64 x, .bool false] w (ExR w z) := by
  have hz : ((m : Int) / 4503599627370496 != 0) = false := by
    have : (m : Int) / 4503599627370496 = 0 := by omega
    rw [this]; rfl
  clear hy2
  have a1 : (x == 0) = false := by rw [beq_eq_false_iff_ne]; omega
  rcases h with h | h
  · have b1 : decide (0 < x) = false := decide_eq_false (by omega)
    have b2 : decide (x < 0) = true := decide_eq_true (by omega)
    have b3 : decide (-22 ≤ x) = false := decide_eq_false (by omega)
    go_enter Tryz.func172, Tryz.ntmps172
    go_wp2_with fail
    refine bodyPost_ret (v := .tuple #[.float .f64 y, .bool false]) (by simp [results, Tryz.results172, go_sem]) rfl ⟨⟨_, _, rfl, by simp⟩, rfl⟩
  · have b1 : decide (0 < x) = true := decide_eq_true (by omega)
    have b2 : decide (x ≤ 37) = false := decide_eq_false (by omega)
    have b3 : decide (x < 0) = false := decide_eq_false (by omega)
    go_enter Tryz.func172, Tryz.ntmps172
    go_wp2_with fail
    refine bodyPost_ret (v := .tuple #[.float .f64 y, .bool false]) (by simp [results, Tryz.results172, go_sem]) rfl ⟨⟨_, _, rfl, by simp⟩, rfl⟩

set_option maxRecDepth 10000 in
set_option maxHeartbeats 2000000 in
theorem exP_p (k z : Nat) (h0 : 1 ≤ k) (h22 : k ≤ 22) (m y : Nat) (w : World) (hm : m < 4503599627370496) (hy : floatOfInt .f64 m = y) (hy2 : y < 9223372036854775808) (hI : w.cell? ⟨16, 0, none⟩ = some (.int .u64 52)) (hT : T10 w) (hp : floatBits .mul .f64 y (p10F.getD k 0) = some z) : Calls Tryz.prog 172 #[.int .u64 m, .int .i64 k, .bool false] w (ExR w z) := by
  obtain ⟨a, cap, t0, t1⟩ := hT
  have tk := t1 k (by omega)
  clear t1
  have hz : ((m : Int) / 4503599627370496 != 0) = false := by
    have : (m : Int) / 4503599627370496 = 0 := by omega
    rw [this]; rfl
  clear hy2
  generalize p10F.getD k 0 = q at *
  have hop : ∀ t w, (binOp .mul t (.float .f64 y) (.float .f64 q)).run Tryz.prog w = .ok (.float .f64 z) w := fun t w => run_float_arith w .mul t .f64 y q z hp
  have a1 : ((k : Int) == 0) = false := by rw [beq_eq_false_iff_ne]; omega
  have b1 : decide (0 < (k : Int)) = true := decide_eq_true (by omega)
  have b2 : decide ((k : Int) ≤ 37) = true := decide_eq_true (by omega)
  have b3 : decide (22 < (k : Int)) = false := decide_eq_false (by omega)
  cases h1 : (FloatKind.f64.format.order y 4831355200913801216 == some Ordering.gt)
  · cases h2 : (FloatKind.f64.format.order y 14054727237768577024 == some Ordering.lt)
    · go_enter Tryz.func172, Tryz.ntmps172
      go_wp2_with fail
      refine bodyPost_ret (v := .tuple #[.float .f64 z, .bool true]) (by simp [results, Tryz.results172, go_sem]) rfl ⟨⟨_, _, rfl, by simp⟩, rfl⟩
    · go_enter Tryz.func172, Tryz.ntmps172
      go_wp2_with fail
      refine bodyPost_ret (v := .tuple #[.float .f64 y, .bool false]) (by simp [results, Tryz.results172, go_sem]) rfl ⟨⟨_, _, rfl, by simp⟩, rfl⟩
  · go_enter Tryz.func172, Tryz.ntmps172
    go_wp2_with fail
    refine bodyPost_ret (v := .tuple #[.float .f64 y, .bool false]) (by simp [results, Tryz.results172, go_sem]) rfl ⟨⟨_, _, rfl, by simp⟩, rfl⟩

set_option maxRecDepth 10000 in
set_option maxHeartbeats 2000000 in
theorem exQ_p (k z1 z : Nat) (h0 : 1 ≤ k) (h15 : k ≤ 15) (m y : Nat) (w : World) (hm : m < 4503599627370496) (hy : floatOfInt .f64 m = y) (hy2 : y < 9223372036854775808) (hI : w.cell? ⟨16, 0, none⟩ = some (.int .u64 52)) (hT : T10 w) (hp : floatBits .mul .f64 y (p10F.getD k 0) = some z1)
    (hq : (floatBits .mul .f64 z1 (p10F.getD 22 0) = some z) ∨ (FloatKind.f64.format.order z1 4831355200913801216 == some Ordering.gt) = true) : Calls Tryz.prog 172 #[.int .u64 m, .int .i64 ((k : Int) + 22), .bool false] w (ExR w z) := by
  obtain ⟨a, cap, t0, t1⟩ := hT
  have tk := t1 k (by omega)
  have t22 : w.cell? ⟨a.block, a.off + 22, none⟩ = some (.float .f64 (p10F.getD 22 0)) := t1 22 (by omega)
  clear t1
  have hz : ((m : Int) / 4503599627370496 != 0) = false := by
    have : (m : Int) / 4503599627370496 = 0 := by omega
    rw [this]; rfl
  clear hy2
  generalize p10F.getD k 0 = q at *
  generalize p10F.getD 22 0 = q2 at *
  have hop : ∀ t w, (binOp .mul t (.float .f64 y) (.float .f64 q)).run Tryz.prog w = .ok (.float .f64 z1) w := fun t w => run_float_arith w .mul t .f64 y q z1 hp
  have a1 : ((k : Int) + 22 == 0) = false := by rw [beq_eq_false_iff_ne]; omega
  have b1 : decide (0 < (k : Int) + 22) = true := decide_eq_true (by omega)
  have b2 : decide ((k : Int) + 22 ≤ 37) = true := decide_eq_true (by omega)
  have b3 : decide (22 < (k : Int) + 22) = true := decide_eq_true (by omega)
  cases h1 : (FloatKind.f64.format.order z1 4831355200913801216 == some Ordering.gt)
  · cases h2 : (FloatKind.f64.format.order z1 14054727237768577024 == some Ordering.lt)
    · have hop2 : ∀ t w, (binOp .mul t (.float .f64 z1) (.float .f64 q2)).run Tryz.prog w = .ok (.float .f64 z) w := by
        rcases hq with hq | hq
        · exact fun t w => run_float_arith w .mul t .f64 z1 q2 z hq
        · exfalso
          first
          | (rw [hq] at h1; cases h1)
          | (rw [hq] at h2; cases h2)
      clear hq
      go_enter Tryz.func172, Tryz.ntmps172
      go_wp2_with fail
      refine bodyPost_ret (v := .tuple #[.float .f64 z, .bool true]) (by simp [results, Tryz.results172, go_sem]) rfl ⟨⟨_, _, rfl, by simp⟩, rfl⟩
    · clear hq
      go_enter Tryz.func172, Tryz.ntmps172
      go_wp2_with fail
      refine bodyPost_ret (v := .tuple #[.float .f64 z1, .bool false]) (by simp [results, Tryz.results172, go_sem]) rfl ⟨⟨_, _, rfl, by simp⟩, rfl⟩
  · clear hq
    go_enter Tryz.func172, Tryz.ntmps172
    go_wp2_with fail
    refine bodyPost_ret (v := .tuple #[.float .f64 z1, .bool false]) (by simp [results, Tryz.results172, go_sem]) rfl ⟨⟨_, _, rfl, by simp⟩, rfl⟩

set_option maxRecDepth 10000 in
set_option maxHeartbeats 2000000 in
theorem exD_p (k z : Nat) (h0 : 1 ≤ k) (h22 : k ≤ 22) (m y : Nat) (w : World) (hm : m < 4503599627370496) (hy : floatOfInt .f64 m = y) (hy2 : y < 9223372036854775808) (hI : w.cell? ⟨16, 0, none⟩ = some (.int .u64 52)) (hT : T10 w) (hp : floatBits .quo .f64 y (p10F.getD k 0) = some z) : Calls Tryz.prog 172 #[.int .u64 m, .int .i64 (-(k : Int)), .bool false] w (ExR w z) := by
  obtain ⟨a, cap, t0, t1⟩ := hT
  have tk := t1 k (by omega)
  clear t1
  have hz : ((m : Int) / 4503599627370496 != 0) = false := by
    have : (m : Int) / 4503599627370496 = 0 := by omega
    rw [this]; rfl
  clear hy2
  generalize p10F.getD k 0 = q at *
  have hop : ∀ t w, (binOp .quo t (.float .f64 y) (.float .f64 q)).run Tryz.prog w = .ok (.float .f64 z) w := fun t w => run_float_arith w .quo t .f64 y q z hp
  have a1 : (-(k : Int) == 0) = false := by rw [beq_eq_false_iff_ne]; omega
  have b1 : decide (0 < -(k : Int)) = false := decide_eq_false (by omega)
  have b2 : decide (-(k : Int) < 0) = true := decide_eq_true (by omega)
  have b3 : decide (-22 ≤ -(k : Int)) = true := decide_eq_true (by omega)
  go_enter Tryz.func172, Tryz.ntmps172
  go_wp2_with fail
  refine bodyPost_ret (v := .tuple #[.float .f64 z, .bool true]) (by simp [results, Tryz.results172, go_sem]) rfl ⟨⟨_, _, rfl, by simp⟩, rfl⟩

set_option maxRecDepth 10000 in
set_option maxHeartbeats 2000000 in
theorem exB_p (m : Nat) (x : Int) (z : Nat) (w : World) (hm : 4503599627370496 ≤ m) (hI : w.cell? ⟨16, 0, none⟩ = some (.int .u64 52)) : Calls Tryz.prog 172 #[.int .u64 m, .int .i64 x, .bool false] w (ExR w z) := by
  have hz : ((m : Int) / 4503599627370496 != 0) = true := by rw [bne_iff_ne]; omega
  go_enter Tryz.func172, Tryz.ntmps172
  go_wp2_with fail
  refine bodyPost_ret (v := .tuple #[.float .f64 0, .bool false]) (by simp [results, Tryz.results172, go_sem]) rfl ⟨⟨_, _, rfl, by simp⟩, rfl⟩

set_option maxRecDepth 10000 in
set_option maxHeartbeats 2000000 in
theorem ex0_n (m y : Nat) (w : World) (hm : m < 4503599627370496) (hy : floatOfInt .f64 m = y) (hy2 : y < 9223372036854775808) (hI : w.cell? ⟨16, 0, none⟩ = some (.int .u64 52)) : Calls Tryz.prog 172 #[.int .u64 m, .int .i64 0, .bool true] w (ExR w (wrd true y)) := by
  have hz : ((m : Int) / 4503599627370496 != 0) = false := by
    have : (m : Int) / 4503599627370496 = 0 := by omega
    rw [this]; rfl
  have hng := neg_wrd y hy2
  clear hy2
  generalize wrd true y = Y at *
  go_enter Tryz.func172, Tryz.ntmps172
  go_wp2_with fail
  refine bodyPost_ret (v := .tuple #[.float .f64 Y, .bool true]) (by simp [results, Tryz.results172, go_sem]) rfl ⟨⟨_, _, rfl, by simp⟩, rfl⟩

set_option maxRecDepth 10000 in
set_option maxHeartbeats 2000000 in
theorem exN_n (x : Int) (z : Nat) (h : x < -22 ∨ 37 < x) (m y : Nat) (w : World) (hm : m < 4503599627370496) (hy : floatOfInt .f64 m = y) (hy2 : y < 9223372036854775808) (hI : w.cell? ⟨16, 0, none⟩ = some (.int .u64 52)) : Calls Tryz.prog 172 #[.int .u64 m, .int .i64 x, .bool true] w (ExR w z) := by
  have hz : ((m : Int) / 4503599627370496 != 0) = false := by
    have : (m : Int) / 4503599627370496 = 0 := by omega
    rw [this]; rfl
  have hng := neg_wrd y hy2
  clear hy2
  generalize wrd true y = Y at *
  have a1 : (x == 0) = false := by rw [beq_eq_false_iff_ne]; omega
  rcases h with h | h
  · have b1 : decide (0 < x) = false := decide_eq_false (by omega)
    have b2 : decide (x < 0) = true := decide_eq_true (by omega)
    have b3 : decide (-22 ≤ x) = false := decide_eq_false (by omega)
    go_enter Tryz.func172, Tryz.ntmps172
    go_wp2_with fail
    refine bodyPost_ret (v := .tuple #[.float .f64 Y, .bool false]) (by simp [results, Tryz.results172, go_sem]) rfl ⟨⟨_, _, rfl, by simp⟩, rfl⟩
  · have b1 : decide (0 < x) = true := decide_eq_true (by omega)
    have b2 : decide (x ≤ 37) = false := decide_eq_false (by omega)
    have b3 : decide (x < 0) = false := decide_eq_false (by omega)
    go_enter Tryz.func172, Tryz.ntmps172
    go_wp2_with fail
    refine bodyPost_ret (v := .tuple #[.float .f64 Y, .bool false]) (by simp [results, Tryz.results172, go_sem]) rfl ⟨⟨_, _, rfl, by simp⟩, rfl⟩

set_option maxRecDepth 10000 in
set_option maxHeartbeats 2000000 in
theorem exP_n (k z : Nat) (h0 : 1 ≤ k) (h22 : k ≤ 22) (m y : Nat) (w : World) (hm : m < 4503599627370496) (hy : floatOfInt .f64 m = y) (hy2 : y < 9223372036854775808) (hI : w.cell? ⟨16, 0, none⟩ = some (.int .u64 52)) (hT : T10 w) (hp : floatBits .mul .f64 (wrd true y) (p10F.getD k 0) = some z) : Calls Tryz.prog 172 #[.int .u64 m, .int .i64 k, .bool true] w (ExR w z) := by
  obtain ⟨a, cap, t0, t1⟩ := hT
  have tk := t1 k (by omega)
  clear t1
  have hz : ((m : Int) / 4503599627370496 != 0) = false := by
    have : (m : Int) / 4503599627370496 = 0 := by omega
    rw [this]; rfl
  have hng := neg_wrd y hy2
  clear hy2
  generalize wrd true y = Y at *
  generalize p10F.getD k 0 = q at *
  have hop : ∀ t w, (binOp .mul t (.float .f64 Y) (.float .f64 q)).run Tryz.prog w = .ok (.float .f64 z) w := fun t w => run_float_arith w .mul t .f64 Y q z hp
  have a1 : ((k : Int) == 0) = false := by rw [beq_eq_false_iff_ne]; omega
  have b1 : decide (0 < (k : Int)) = true := decide_eq_true (by omega)
  have b2 : decide ((k : Int) ≤ 37) = true := decide_eq_true (by omega)
  have b3 : decide (22 < (k : Int)) = false := decide_eq_false (by omega)
  cases h1 : (FloatKind.f64.format.order Y 4831355200913801216 == some Ordering.gt)
  · cases h2 : (FloatKind.f64.format.order Y 14054727237768577024 == some Ordering.lt)
    · go_enter Tryz.func172, Tryz.ntmps172
      go_wp2_with fail
      refine bodyPost_ret (v := .tuple #[.float .f64 z, .bool true]) (by simp [results, Tryz.results172, go_sem]) rfl ⟨⟨_, _, rfl, by simp⟩, rfl⟩
    · go_enter Tryz.func172, Tryz.ntmps172
      go_wp2_with fail
      refine bodyPost_ret (v := .tuple #[.float .f64 Y, .bool false]) (by simp [results, Tryz.results172, go_sem]) rfl ⟨⟨_, _, rfl, by simp⟩, rfl⟩
  · go_enter Tryz.func172, Tryz.ntmps172
    go_wp2_with fail
    refine bodyPost_ret (v := .tuple #[.float .f64 Y, .bool false]) (by simp [results, Tryz.results172, go_sem]) rfl ⟨⟨_, _, rfl, by simp⟩, rfl⟩

set_option maxRecDepth 10000 in
set_option maxHeartbeats 2000000 in
theorem exQ_n (k z1 z : Nat) (h0 : 1 ≤ k) (h15 : k ≤ 15) (m y : Nat) (w : World) (hm : m < 4503599627370496) (hy : floatOfInt .f64 m = y) (hy2 : y < 9223372036854775808) (hI : w.cell? ⟨16, 0, none⟩ = some (.int .u64 52)) (hT : T10 w) (hp : floatBits .mul .f64 (wrd true y) (p10F.getD k 0) = some z1)
    (hq : (floatBits .mul .f64 z1 (p10F.getD 22 0) = some z) ∨ (FloatKind.f64.format.order z1 14054727237768577024 == some Ordering.lt) = true) : Calls Tryz.prog 172 #[.int .u64 m, .int .i64 ((k : Int) + 22), .bool true] w (ExR w z) := by
  obtain ⟨a, cap, t0, t1⟩ := hT
  have tk := t1 k (by omega)
  have t22 : w.cell? ⟨a.block, a.off + 22, none⟩ = some (.float .f64 (p10F.getD 22 0)) := t1 22 (by omega)
  clear t1
  have hz : ((m : Int) / 4503599627370496 != 0) = false := by
    have : (m : Int) / 4503599627370496 = 0 := by omega
    rw [this]; rfl
  have hng := neg_wrd y hy2
  clear hy2
  generalize wrd true y = Y at *
  generalize p10F.getD k 0 = q at *
  generalize p10F.getD 22 0 = q2 at *
  have hop : ∀ t w, (binOp .mul t (.float .f64 Y) (.float .f64 q)).run Tryz.prog w = .ok (.float .f64 z1) w := fun t w => run_float_arith w .mul t .f64 Y q z1 hp
  have a1 : ((k : Int) + 22 == 0) = false := by rw [beq_eq_false_iff_ne]; omega
  have b1 : decide (0 < (k : Int) + 22) = true := decide_eq_true (by omega)
  have b2 : decide ((k : Int) + 22 ≤ 37) = true := decide_eq_true (by omega)
  have b3 : decide (22 < (k : Int) + 22) = true := decide_eq_true (by omega)
  cases h1 : (FloatKind.f64.format.order z1 4831355200913801216 == some Ordering.gt)
  · cases h2 : (FloatKind.f64.format.order z1 14054727237768577024 == some Ordering.lt)
    · have hop2 : ∀ t w, (binOp .mul t (.float .f64 z1) (.float .f64 q2)).run Tryz.prog w = .ok (.float .f64 z) w := by
        rcases hq with hq | hq
        · exact fun t w => run_float_arith w .mul t .f64 z1 q2 z hq
        · exfalso
          first
          | (rw [hq] at h1; cases h1)
          | (rw [hq] at h2; cases h2)
      clear hq
      go_enter Tryz.func172, Tryz.ntmps172
      go_wp2_with fail
      refine bodyPost_ret (v := .tuple #[.float .f64 z, .bool true]) (by simp [results, Tryz.results172, go_sem]) rfl ⟨⟨_, _, rfl, by simp⟩, rfl⟩
    · clear hq
      go_enter Tryz.func172, Tryz.ntmps172
      go_wp2_with fail
      refine bodyPost_ret (v := .tuple #[.float .f64 z1, .bool false]) (by simp [results, Tryz.results172, go_sem]) rfl ⟨⟨_, _, rfl, by simp⟩, rfl⟩
  · clear hq
    go_enter Tryz.func172, Tryz.ntmps172
    go_wp2_with fail
    refine bodyPost_ret (v := .tuple #[.float .f64 z1, .bool false]) (by simp [results, Tryz.results172, go_sem]) rfl ⟨⟨_, _, rfl, by simp⟩, rfl⟩

set_option maxRecDepth 10000 in
set_option maxHeartbeats 2000000 in
theorem exD_n (k z : Nat) (h0 : 1 ≤ k) (h22 : k ≤ 22) (m y : Nat) (w : World) (hm : m < 4503599627370496) (hy : floatOfInt .f64 m = y) (hy2 : y < 9223372036854775808) (hI : w.cell? ⟨16, 0, none⟩ = some (.int .u64 52)) (hT : T10 w) (hp : floatBits .quo .f64 (wrd true y) (p10F.getD k 0) = some z) : Calls Tryz.prog 172 #[.int .u64 m, .int .i64 (-(k : Int)), .bool true] w (ExR w z) := by
  obtain ⟨a, cap, t0, t1⟩ := hT
  have tk := t1 k (by omega)
  clear t1
  have hz : ((m : Int) / 4503599627370496 != 0) = false := by
    have : (m : Int) / 4503599627370496 = 0 := by omega
    rw [this]; rfl
  have hng := neg_wrd y hy2
  clear hy2
  generalize wrd true y = Y at *
  generalize p10F.getD k 0 = q at *
  have hop : ∀ t w, (binOp .quo t (.float .f64 Y) (.float .f64 q)).run Tryz.prog w = .ok (.float .f64 z) w := fun t w => run_float_arith w .quo t .f64 Y q z hp
  have a1 : (-(k : Int) == 0) = false := by rw [beq_eq_false_iff_ne]; omega
  have b1 : decide (0 < -(k : Int)) = false := decide_eq_false (by omega)
  have b2 : decide (-(k : Int) < 0) = true := decide_eq_true (by omega)
  have b3 : decide (-22 ≤ -(k : Int)) = true := decide_eq_true (by omega)
  go_enter Tryz.func172, Tryz.ntmps172
  go_wp2_with fail
  refine bodyPost_ret (v := .tuple #[.float .f64 z, .bool true]) (by simp [results, Tryz.results172, go_sem]) rfl ⟨⟨_, _, rfl, by simp⟩, rfl⟩

set_option maxRecDepth 10000 in
set_option maxHeartbeats 2000000 in
theorem exB_n (m : Nat) (x : Int) (z : Nat) (w : World) (hm : 4503599627370496 ≤ m) (hI : w.cell? ⟨16, 0, none⟩ = some (.int .u64 52)) : Calls Tryz.prog 172 #[.int .u64 m, .int .i64 x, .bool true] w (ExR w z) := by
  have hz : ((m : Int) / 4503599627370496 != 0) = true := by rw [bne_iff_ne]; omega
  go_enter Tryz.func172, Tryz.ntmps172
  go_wp2_with fail
  refine bodyPost_ret (v := .tuple #[.float .f64 0, .bool false]) (by simp [results, Tryz.results172, go_sem]) rfl ⟨⟨_, _, rfl, by simp⟩, rfl⟩

/-- The exact way: if it says that it is right, it is. -/
theorem exact_calls (m x : Nat) (p : Int) (neg : Bool) (w : World) (h0 : 1 ≤ m) (hr : DRnd m p x) (hf : x < 9218868437227405312) (hI : w.cell? ⟨16, 0, none⟩ = some (.int .u64 52)) (hT : T10 w) :
    Calls Tryz.prog 172 #[.int .u64 m, .int .i64 p, .bool neg] w (ExR w (wrd neg x)) := by
  rcases Nat.lt_or_ge m 4503599627370496 with hm | hm
  · obtain ⟨y, hy, hV⟩ := float_whole h0 (by omega : m < 9007199254740992)
    have hy2 : y < 9223372036854775808 := by
      obtain ⟨_, _, _, h, _⟩ := hV
      omega
    by_cases hn : p < -22 ∨ 37 < p
    · cases neg
      · exact exN_p p _ hn m y w hm hy hy2 hI
      · exact exN_n p _ hn m y w hm hy hy2 hI
    rcases Int.lt_trichotomy p 0 with hp | hp | hp
    · obtain ⟨k, rfl⟩ : ∃ k : Nat, p = -(k : Int) := ⟨p.natAbs, by omega⟩
      have ht : 10 ^ k = tden (-(k : Int)) := by unfold tden; rw [Int.neg_neg]; rfl
      have hd := div_words neg false hV (p10F_is k (by omega)) ht (by omega) hr hf
      rw [Bool.xor_false] at hd
      cases neg
      · exact exD_p k _ (by omega) (by omega) m y w hm hy hy2 hI hT hd
      · exact exD_n k _ (by omega) (by omega) m y w hm hy hy2 hI hT hd
    · subst hp
      have hx : floatOfInt .f64 m = x := by
        have hn := nearest_exact (neg := false) (mag := m) (place := 0) (by omega) (tden_pos 0) hr hf (by
          have t1 : tnum 0 = 1 := by decide
          have t2 : tden 0 = 1 := by decide
          rw [t1, t2]
          simp)
        show Ieee.double.nearest (decide ((m : Int) < 0)) (m : Int).natAbs 0 = _
        rw [decide_eq_false (by omega), Int.natAbs_natCast, hn]
        rfl
      have hyx : y = x := by rw [← hy, hx]
      subst hyx
      cases neg
      · exact ex0_p m y w hm hy hy2 hI
      · exact ex0_n m y w hm hy hy2 hI
    · rcases Int.lt_or_le 22 p with h22 | h22
      · obtain ⟨k, rfl⟩ : ∃ k : Nat, p = (k : Int) + 22 := ⟨(p - 22).toNat, by omega⟩
        have hV10 := p10F_is k (by omega)
        have hu0 : 0 < m * 10 ^ k := Nat.mul_pos (by omega) (Nat.pow_pos (by decide))
        rcases Nat.lt_or_ge 1000000000000000 (m * 10 ^ k) with hg | hg
        · obtain ⟨z, hz, g1, g2⟩ := mul_great neg hV hV10 hg
          cases neg
          · refine exQ_p k z _ (by omega) (by omega) m y w hm hy hy2 hI hT hz (.inr ?_)
            show (Ieee.double.order z 4831355200913801216 == some Ordering.gt) = true
            rw [g1 rfl]
            rfl
          · refine exQ_n k z _ (by omega) (by omega) m y w hm hy hy2 hI hT hz (.inr ?_)
            show (Ieee.double.order z 14054727237768577024 == some Ordering.lt) = true
            rw [g2 rfl]
            rfl
        · obtain ⟨z, hz, hVz⟩ := mul_small neg hV hV10 hu0 hg
          have ht : m * 10 ^ k * 10 ^ 22 = m * tnum ((k : Int) + 22) := by
            unfold tnum
            rw [Nat.mul_assoc, ← Nat.pow_add]
            congr 2
          have hq := mul_words neg false hVz (p10F_is 22 (by decide)) m ht (by omega) hr hf
          rw [Bool.xor_false] at hq
          cases neg
          · exact exQ_p k _ _ (by omega) (by omega) m y w hm hy hy2 hI hT hz (.inl hq)
          · exact exQ_n k _ _ (by omega) (by omega) m y w hm hy hy2 hI hT hz (.inl hq)
      · obtain ⟨k, rfl⟩ : ∃ k : Nat, p = (k : Int) := ⟨p.toNat, by omega⟩
        have ht : m * 10 ^ k = m * tnum (k : Int) := rfl
        have hq := mul_words neg false hV (p10F_is k (by omega)) m ht (by omega) hr hf
        rw [Bool.xor_false] at hq
        cases neg
        · exact exP_p k _ (by omega) (by omega) m y w hm hy hy2 hI hT hq
        · exact exP_n k _ (by omega) (by omega) m y w hm hy hy2 hI hT hq
  · cases neg
    · exact exB_p m p _ w hm hI
    · exact exB_n m p _ w hm hI
end Go.Proofs.YtghajgdiaopioaaGreatDoor

/- A decimal number's digits are read as the float that they are rounded to (173, 143). -/
namespace Go.Proofs.YtghajgdiaopioaaGreatDoor
open Go.RowKit
set_option exponentiation.threshold 3000

theorem bitLen_bounds (d : Nat) (h1 : 1 ≤ d) (h2 : d < 18446744073709551616) : 1 ≤ Lib.bitLen d ∧ d < 2 ^ Lib.bitLen d ∧ 2 ^ Lib.bitLen d ≤ 2 * d := by
  obtain ⟨k1, k2, k3⟩ := Lib.bitLenAux_bounds 64 d (by simpa using h2) (by omega)
  refine ⟨k1, k3, ?_⟩
  have : Lib.bitLenAux 64 d = Lib.bitLen d := rfl
  rw [this] at k1 k2
  rw [show Lib.bitLen d = (Lib.bitLen d - 1) + 1 by omega, Nat.pow_succ]
  omega
/-- The shift is less than a word's bits: the number is not too small. -/
theorem parse_s {d b H L x : Nat} {p : Int} (hb1 : d < 2 ^ b) (hrow : RowOk H L (anP p) (adP p)) (hx : DRnd d p x) (hx1 : 1 ≤ x) : -1076 < (b : Int) + lpI p := by
  have hdn := hx.dn (by omega)
  have hv : 1 ≤ val (x - 1) + val x := by
    have := val_le (show 1 ≤ x from hx1)
    have h1 : val 1 = 1 := by decide
    omega
  have k1 : tden p * 1 ≤ 2 * (d * tnum p * 2 ^ 1074) := Nat.le_trans (Nat.mul_le_mul_left _ hv) hdn
  rw [unit_l, Nat.mul_one] at k1
  have hH := hrow.hH
  have p1 := hrow.p1
  have anhi : anP p ≤ 340282366920938463463374607431768211456 * adP p := by
    have h1 : H * 18446744073709551616 * adP p ≤ 18446744073709551616 * 18446744073709551616 * adP p := Nat.mul_le_mul_right _ (Nat.mul_le_mul_right _ (Nat.le_of_lt hH))
    omega
  unfold anP adP at anhi
  have htn := tnum_pos p
  have htd := tden_pos p
  have hbal : ((lpI p - 127).toNat : Int) - ((127 - lpI p).toNat : Int) = lpI p - 127 := by omega
  generalize (127 - lpI p).toNat = b' at *
  generalize (lpI p - 127).toNat = a' at *
  clear p1 hrow hx hdn
  generalize tnum p = tn at *
  generalize tden p = td at *
  have k2 : td < 2 ^ b * tn * 2 ^ 1075 := Nat.lt_of_le_of_lt k1 (Nat.mul_lt_mul_of_pos_right (Nat.mul_lt_mul_of_pos_right hb1 htn) (Nat.two_pow_pos _))
  have k3 : td * 2 ^ b' < 2 ^ b * 2 ^ 1075 * (tn * 2 ^ b') := by
    have := Nat.mul_lt_mul_of_pos_right k2 (Nat.two_pow_pos b')
    refine Nat.lt_of_lt_of_eq this ?_
    generalize 2 ^ b = A
    obtain ⟨B, hB⟩ : ∃ B, 2 ^ 1075 = B := ⟨_, rfl⟩
    rw [hB]
    generalize 2 ^ b' = C
    grind
  have k4 : 2 ^ b * 2 ^ 1075 * (tn * 2 ^ b') ≤ 2 ^ b * 2 ^ 1075 * (340282366920938463463374607431768211456 * (td * 2 ^ a')) := Nat.mul_le_mul_left _ anhi
  have k5 : td * 2 ^ b' < td * 2 ^ (b + 1075 + 128 + a') := by
    refine Nat.lt_of_lt_of_le k3 (Nat.le_trans k4 (Nat.le_of_eq ?_))
    rw [Nat.pow_add, Nat.pow_add, Nat.pow_add]
    have h128 : 2 ^ 128 = 340282366920938463463374607431768211456 := by decide
    rw [h128]
    generalize 2 ^ b = A
    obtain ⟨B, hB⟩ : ∃ B, 2 ^ 1075 = B := ⟨_, rfl⟩
    rw [hB]
    generalize 2 ^ a' = C
    grind
  have k6 := Nat.lt_of_mul_lt_mul_left k5
  have k7 : b' < b + 1075 + 128 + a' := (Nat.pow_lt_pow_iff_right (by decide)).1 k6
  omega
theorem parse64_calls (d x : Nat) (p : Int) (neg : Bool) (w : World) (hd1 : 1 ≤ d) (hd2 : d < 100000000000000000) (hp1 : -345 ≤ p) (hp2 : p ≤ 310) (hr : DRnd d p x) (hx1 : 1 ≤ x) (hf : x < 9218868437227405312) (hT : TabsW w) :
    Calls Tryz.prog 173 #[.int .u64 d, .int .i64 p, .int .u64 (wrd neg 0 : Nat)] w fun e' w' => e' = .returned (.tuple #[.float .f64 (wrd neg x), .nilIface]) ∧ Bel w w' := by
  obtain ⟨i, hi⟩ : ∃ i : Nat, p + 348 = i := ⟨(p + 348).toNat, by omega⟩
  have hil : i < 696 := by omega
  have hrow := row_ok i hil
  rw [show (-348 : Int) + i = p by omega] at hrow
  obtain ⟨tH, tL⟩ := hT.t22 i hil
  have hH : (Go.Pinned.pow10Rows.getD i (0, 0)).1 = tabHi i := rfl
  have hL : (Go.Pinned.pow10Rows.getD i (0, 0)).2 = tabLo i := rfl
  rw [hH, hL] at hrow
  generalize tabHi i = H at *
  generalize tabLo i = L at *
  obtain ⟨k1, k2, k3⟩ := bitLen_bounds d hd1 (by omega)
  obtain ⟨b, hb⟩ : ∃ b, Lib.bitLen d = b := ⟨_, rfl⟩
  rw [hb] at k1 k2 k3
  have hb57 : b ≤ 57 := by
    rcases Nat.lt_or_ge 57 b with h | h
    · exfalso
      have := Nat.pow_le_pow_right (n := 2) (by decide) (show 58 ≤ b by omega)
      have h58 : 2 ^ 58 = 288230376151711744 := by decide
      omega
    · exact h
  have hlpz : zLog2P10 p = lpI p := by unfold zLog2P10 lpI wrap64; omega
  have hlp1 : -1200 ≤ lpI p := by unfold lpI; omega
  have hlp2 : lpI p ≤ 1100 := by unfold lpI; omega
  have hsm := parse_s k2 hrow hr hx1
  obtain ⟨e, he⟩ : ∃ e, min 1074 (53 - (b : Int) - lpI p) = e := ⟨_, rfl⟩
  obtain ⟨s, hs⟩ : ∃ s : Nat, (s : Int) = 61 - (b : Int) - e - lpI p := ⟨(61 - (b : Int) - e - lpI p).toNat, by omega⟩
  obtain ⟨g, hg⟩ : ∃ g : Nat, (g : Int) = 1074 - e := ⟨(1074 - e).toNat, by omega⟩
  have hcore := parse_core hd1 hd2 (by omega) k2 k3 hrow he.symm hg hs hr
  obtain ⟨c1, c2⟩ := hcore
  obtain ⟨U, hU⟩ : ∃ U, zUn (mulHi (d * 2 ^ (64 - b)) H) (mulLo (d * 2 ^ (64 - b)) H) (mulHi (d * 2 ^ (64 - b)) L) s = U := ⟨_, rfl⟩
  obtain ⟨hUl, hR⟩ := c2 U hU
  rw [hU] at c1
  have hx0 : d * 2 ^ (64 - b) < 18446744073709551616 := by
    have h64 : 2 ^ b * 2 ^ (64 - b) = 18446744073709551616 := by rw [← Nat.pow_add, show b + (64 - b) = 64 by omega]
    rw [← h64]; exact Nat.mul_lt_mul_of_pos_right k2 (Nat.two_pow_pos _)
  have hws : wrap64 (-(wrap64 (wrap64 (e - (64 - (b : Int)) + lpI p) + 3))) = (s : Int) := by unfold wrap64; omega
  have hMl := hR.lt
  by_cases hc : 36028797018963966 ≤ U
  · unfold parM parG at hR
    unfold parM at hMl
    rw [if_pos hc, if_pos hc] at hR
    rw [if_pos hc] at hMl
    refine parse_walk1 d b s i H L _ U p (lpI p) e neg w (wrd neg x) (by omega) hb k1 hb57 hlpz hlp1 hlp2 he (by omega) hi hil hws (by omega) rfl hx0 hrow.hH hrow.hL tH tL c1 hUl hc (by omega) fun w => ?_
    have := pack_calls neg hR hf w
    rwa [show ((g + 1 : Nat) : Int) - 1074 = -(e - 1) by omega] at this
  · unfold parM parG at hR
    unfold parM at hMl
    rw [if_neg hc, if_neg hc] at hR
    rw [if_neg hc] at hMl
    refine parse_walk0 d b s i H L _ U p (lpI p) e neg w (wrd neg x) (by omega) hb k1 hb57 hlpz hlp1 hlp2 he (by omega) hi hil hws (by omega) rfl hx0 hrow.hH hrow.hL tH tL c1 hUl (by omega) (by omega) fun w => ?_
    have := pack_calls neg hR hf w
    rwa [show (g : Int) - 1074 = -e by omega] at this
end Go.Proofs.YtghajgdiaopioaaGreatDoor

/- Walks: the shortest digits of the small floats (158), the third way. -/
namespace Go.Proofs.YtghajgdiaopioaaGreatDoor
open Go.RowKit

set_option maxRecDepth 10000 in
set_option maxHeartbeats 1000000 in
theorem short3_calls (m z i s H L mn mx T : Nat) (e p odd : Int) (w : World) (hm : m < 18446744073709551616) (hH : H < 18446744073709551616) (hL : L < 18446744073709551616) (hmnl : mn < 18446744073709551616) (hmxl : mx < 18446744073709551616) (hs : s < 64) (hi : i < 696)
    (he : decide (-1085 < e) = false) (he2 : decide (-1085 ≤ e) = false) (he3 : -1200 ≤ e) (hz : 11 + (-1085 - e) = (z : Int)) (hz1 : 1 ≤ z) (hz2 : z ≤ 63) (hT : IntKind.u64.wrap (2 ^ (z - 1)) = (T : Int))
    (hp : wrap64 (-zLog10P2 (e + z)) = p) (hpi : p + 348 = i) (hmn : IntKind.u64.wrap ((m : Int) - T) = mn) (hmx : IntKind.u64.wrap ((m : Int) + T) = mx)
    (hodd : bits BinOp.and IntKind.i64 (wrap64 ((m : Int) / 2 ^ z)) 1 = odd)
    (hse : wrap64 (-(wrap64 (wrap64 (e + zLog2P10 p) + 3))) = (s : Int))
    (tH : w.cell? ⟨22, i * 2, none⟩ = some (.int .u64 H)) (tL : w.cell? ⟨22, i * 2 + 1, none⟩ = some (.int .u64 L)) :
    Calls Tryz.prog 158 #[.int .u64 m, .int .i64 e] w fun e' w' => (∃ r, r = zShort p (zCeil (zNudge (zU mn H L s) odd)) (zFloor (zNudge (zU mx H L s) (wrap64 (-odd)))) (zRound (zU m H L s)) ∧ e' = .returned (.tuple #[.int .u64 r.1, .int .i64 r.2])) ∧ Bel w w' := by
  have h22 : 22 < w.heap.size := World.block_lt_of_cell? w _ tH
  obtain ⟨w1, hw1⟩ : ∃ w1, w.alloc (.cells #[.int .u64 0, .int .u64 0, .int .i64 0] 246) = w1 := ⟨_, rfl⟩
  have hb1 : w1.heap[w.heap.size]? = some (.cells #[.int .u64 0, .int .u64 0, .int .i64 0] 246 (0, 0)) := by rw [← hw1]; exact heap_alloc_new w _
  have hbel : Bel w w1 := by rw [← hw1]; exact Bel.al _ _
  have tH1 := hbel.cellOf tH
  have tL1 := hbel.cellOf tL
  have HP := Lib.hid (prescale_calls w.heap.size i e p (zLog2P10 p) H L hpi hi w1 _ _ _ hb1 h22 tH1 tL1)
  rw [hse] at HP
  have HW1 := Lib.hid hw1
  have HBEL := Lib.hid hbel
  clear hw1 hbel tH1 tL1 hb1
  go_enter Tryz.func158, Tryz.ntmps158
  cases hm0 : ((m : Int) == 9223372036854775808)
  all_goals
    go_wp2_with (first | (go_at_call 137; refine (log10p2_calls _ _).mono ?_; rintro e' w' ⟨rfl, rfl⟩) | (go_at_call 179; refine (log2p10_calls _ _).mono ?_; rintro e' w' ⟨rfl, rfl⟩; rw [HW1.out]) | (go_at_call 178; refine HP.out.mono ?_; rintro e' w2 ⟨rfl, hbw, hh⟩; replace hbw := fun B (hB : B = w.heap.size) => (show Below B w1 w2 by subst hB; exact hbw); obtain ⟨hw, hhw⟩ : ∃ h, w2.heap = h := ⟨_, rfl⟩; rw [hhw] at hh) | (go_at_call 180; (first | (with_reducible refine (uscale_calls mn H L s _ _ hmnl hH hL hs (by rw [hhw]; exact hh)).mono ?_) | (with_reducible refine (uscale_calls mx H L s _ _ hmxl hH hL hs (by rw [hhw]; exact hh)).mono ?_) | (with_reducible refine (uscale_calls m H L s _ _ hm hH hL hs (by rw [hhw]; exact hh)).mono ?_)); rintro e' w3 ⟨rfl, hh3, hb3⟩; rw [hhw] at hh3; replace hbw := fun B (hB : B = w.heap.size) => (hbw B hB).trans (hb3 B); replace hhw := hh3) | (go_at_call 181; refine (nudge_calls _ _ _).mono ?_; rintro e' w' ⟨rfl, rfl⟩) | (go_at_call 182; refine (ceil_calls _ _).mono ?_; rintro e' w' ⟨rfl, rfl⟩) | (go_at_call 183; refine (floor_calls _ _).mono ?_; rintro e' w' ⟨rfl, rfl⟩) | (go_at_call 184; refine (round_calls _ _).mono ?_; rintro e' w' ⟨rfl, rfl⟩))
  all_goals
    go_ret2
    refine ⟨⟨(_, _), ?_, rfl⟩, ?_⟩
    · unfold zShort zU
      (repeat' split) <;> first | rfl | omega
    · exact Below.trans HBEL.out (hbw _ rfl)
set_option maxRecDepth 10000 in
set_option maxHeartbeats 1000000 in
theorem short2b_calls (m i s H L mn mx : Nat) (e p odd : Int) (w : World) (hm : m < 18446744073709551616) (hH : H < 18446744073709551616) (hL : L < 18446744073709551616) (hmnl : mn < 18446744073709551616) (hmxl : mx < 18446744073709551616) (hs : s < 64) (hi : i < 696)
    (hm0 : ((m : Int) == 9223372036854775808) = true) (he0 : decide (-1085 < e) = false) (he : decide (-1085 ≤ e) = true)
    (hp : wrap64 (-zLog10P2 (wrap64 (e + 11))) = p) (hpi : p + 348 = i) (hmn : IntKind.u64.wrap ((m : Int) - 1024) = mn) (hmx : IntKind.u64.wrap ((m : Int) + 1024) = mx)
    (hodd : bits BinOp.and IntKind.i64 ((m : Int) / 2048) 1 = odd)
    (hse : wrap64 (-(wrap64 (wrap64 (e + zLog2P10 p) + 3))) = (s : Int))
    (tH : w.cell? ⟨22, i * 2, none⟩ = some (.int .u64 H)) (tL : w.cell? ⟨22, i * 2 + 1, none⟩ = some (.int .u64 L)) :
    Calls Tryz.prog 158 #[.int .u64 m, .int .i64 e] w fun e' w' => (∃ r, r = zShort p (zCeil (zNudge (zU mn H L s) odd)) (zFloor (zNudge (zU mx H L s) (wrap64 (-odd)))) (zRound (zU m H L s)) ∧ e' = .returned (.tuple #[.int .u64 r.1, .int .i64 r.2])) ∧ Bel w w' := by
  have h22 : 22 < w.heap.size := World.block_lt_of_cell? w _ tH
  obtain ⟨w1, hw1⟩ : ∃ w1, w.alloc (.cells #[.int .u64 0, .int .u64 0, .int .i64 0] 246) = w1 := ⟨_, rfl⟩
  have hb1 : w1.heap[w.heap.size]? = some (.cells #[.int .u64 0, .int .u64 0, .int .i64 0] 246 (0, 0)) := by rw [← hw1]; exact heap_alloc_new w _
  have hbel : Bel w w1 := by rw [← hw1]; exact Bel.al _ _
  have tH1 := hbel.cellOf tH
  have tL1 := hbel.cellOf tL
  have HP := Lib.hid (prescale_calls w.heap.size i e p (zLog2P10 p) H L hpi hi w1 _ _ _ hb1 h22 tH1 tL1)
  rw [hse] at HP
  have HW1 := Lib.hid hw1
  have HBEL := Lib.hid hbel
  clear hw1 hbel tH1 tL1 hb1
  go_enter Tryz.func158, Tryz.ntmps158
  go_wp2_with (first | (go_at_call 137; refine (log10p2_calls _ _).mono ?_; rintro e' w' ⟨rfl, rfl⟩) | (go_at_call 179; refine (log2p10_calls _ _).mono ?_; rintro e' w' ⟨rfl, rfl⟩; rw [HW1.out]) | (go_at_call 178; refine HP.out.mono ?_; rintro e' w2 ⟨rfl, hbw, hh⟩; replace hbw := fun B (hB : B = w.heap.size) => (show Below B w1 w2 by subst hB; exact hbw); obtain ⟨hw, hhw⟩ : ∃ h, w2.heap = h := ⟨_, rfl⟩; rw [hhw] at hh) | (go_at_call 180; (first | (with_reducible refine (uscale_calls mn H L s _ _ hmnl hH hL hs (by rw [hhw]; exact hh)).mono ?_) | (with_reducible refine (uscale_calls mx H L s _ _ hmxl hH hL hs (by rw [hhw]; exact hh)).mono ?_) | (with_reducible refine (uscale_calls m H L s _ _ hm hH hL hs (by rw [hhw]; exact hh)).mono ?_)); rintro e' w3 ⟨rfl, hh3, hb3⟩; rw [hhw] at hh3; replace hbw := fun B (hB : B = w.heap.size) => (hbw B hB).trans (hb3 B); replace hhw := hh3) | (go_at_call 181; refine (nudge_calls _ _ _).mono ?_; rintro e' w' ⟨rfl, rfl⟩) | (go_at_call 182; refine (ceil_calls _ _).mono ?_; rintro e' w' ⟨rfl, rfl⟩) | (go_at_call 183; refine (floor_calls _ _).mono ?_; rintro e' w' ⟨rfl, rfl⟩) | (go_at_call 184; refine (round_calls _ _).mono ?_; rintro e' w' ⟨rfl, rfl⟩))
  all_goals
    go_ret2
    refine ⟨⟨(_, _), ?_, rfl⟩, ?_⟩
    · unfold zShort zU
      (repeat' split) <;> first | rfl | omega
    · exact Below.trans HBEL.out (hbw _ rfl)
end Go.Proofs.YtghajgdiaopioaaGreatDoor

/- Walks: ftoa64 (136) of a subnormal float, and of a zero with a sign. -/
namespace Go.Proofs.YtghajgdiaopioaaGreatDoor
open Go.RowKit

set_option maxRecDepth 10000 in
set_option maxHeartbeats 1000000 in
theorem ftoa_sub (x M m d bl : Nat) (neg : Bool) (p : Int) (T : List UInt8) (B0 : Nat) (dst : Value) (w : World)
    (hn : ((x : Int) / 9223372036854775808 != 0) = neg)
    (hE : bits BinOp.and IntKind.i64 (wrap64 ((x : Int) / 4503599627370496)) 2047 = 0)
    (hM : bits BinOp.and IntKind.u64 (x : Int) 4503599627370495 = (M : Int)) (hM2 : ((M : Int) == 0) = false)
    (hM3 : M ≤ 18446744073709551615) (hlen : Lib.bitLen M = bl) (hbl1 : 1 ≤ bl) (hbl2 : bl ≤ 52) (hm : IntKind.u64.wrap ((M : Int) * 2 ^ (64 - bl)) = (m : Int))
    (htab : Lib.TabIs Tryz.prog w "internal/strconv.uint64pow10" .u64 Lib.pow10Tab)
    (hd1 : 1 ≤ d) (hd2 : d < 18446744073709551616) (hp0 : -100000 ≤ p) (hp1 : p ≤ 100000)
    (hown : w.ownsRow B0 5 1 dst 0 []) (hB0 : B0 ≤ w.heap.size)
    (hshort : ∀ wx, Bel w wx → Calls Tryz.prog 158 #[.int .u64 m, .int .i64 (-1022 - (64 - (bl : Int)) - 52)] wx fun e' w' => e' = .returned (.tuple #[.int .u64 d, .int .i64 p]) ∧ Bel wx w')
    (hefg : ∀ wx C, Bytes0 C (Lib.decDigits d) → OutB B0 w.heap.size C 205 wx dst [] wx → Calls Tryz.prog 151 #[dst, .bool neg, .slice (some ⟨w.heap.size, 0, none⟩) 32 32, .int .i64 (Lib.nDigits d + p), .int .i64 (zs (Lib.decDigits d) (Lib.nDigits d)), .int .i64 (zs (Lib.decDigits d) (Lib.nDigits d)), .int .u8 103, .bool true] wx fun e' w' => ∃ v, e' = .returned v ∧ OutB B0 w.heap.size C 205 wx v T w') :
    Calls Tryz.prog 136 #[dst, .float .f64 x, .int .u8 103, .int .i64 (-1)] w fun e' w' => ∃ v, e' = .returned v ∧ w'.ownsRow B0 5 1 v T.length (Lib.byteCells T) ∧ Below B0 w w' := by
  have hf := fb148 x
  have HL := fun w => (Tryz.bits_Len64 (M : Int) w (by omega) (by omega)).mono (fun _ _ h => (⟨h.1, h.2.symm⟩ : _ ∧ w = _))
  rw [show (M : Int).toNat = M from by simp, hlen] at HL
  have HL := Lib.hid HL
  have HSH := Lib.hid hshort
  have HEFG := Lib.hid hefg
  have HTAB := Lib.hid htab
  have HOWN := Lib.hid hown
  have hbz : Bel w (w.alloc (.cells buf32 205)).drew := (Bel.al _ _).tr (Bel.dr1 _)
  have hbufz : (w.alloc (.cells buf32 205)).drew.heap[w.heap.size]? = some (.cells buf32 205 (0, 0)) := heap_alloc_new w _
  have HBZ := Lib.hid hbz
  have HBUFZ := Lib.hid hbufz
  clear hshort hefg htab hown hbz hbufz hlen
  go_enter Tryz.func136, Tryz.ntmps136
  go_wp2_with fail
  go_region
  all_goals (try simp only [Exit.then])
  go_wp2_with (first | (go_at_call 138; refine (HL.out _).mono ?_; rintro e' w' ⟨rfl, rfl⟩) | (go_at_call 158; refine (HSH.out _ HBZ.out).mono ?_; rintro e' w2 ⟨rfl, hb2⟩; have HB2 := Lib.hid (HBZ.out.tr hb2); have HBUF2 := Lib.hid (hb2.heap HBUFZ.out); clear hb2))
  go_region_held3 (fun _ => True) (trivial) (first | (go_at_call 125; refine (numDigits_calls d hd1 hd2 _ (tab_bel HTAB.out (by first | exact HB2.out | exact HB2.out.tr (Bel.dr1 _)))).mono ?_; rintro e' w' ⟨rfl, rfl⟩) | (go_at_call 153; refine (setDigits_calls w.heap.size d p w2.drew buf32 205 HBUF2.out hd2 rfl buf32_at hp0 hp1).mono ?_; rintro e' w3 ⟨rfl, hb3, C, hC, hBy⟩))
  all_goals
    (try simp only [Exit.then])
    have hbelf : Bel w w3 := Below.trans (HB2.out.tr (Bel.dr1 _)) hb3
    have HO := Lib.hid (show OutB B0 w.heap.size C 205 w3 dst [] w3 from ⟨own_bel HOWN.out hbelf, own_lt HOWN.out, Below.refl _ _, hC, Nat.le_trans hB0 hbelf.size, by simp⟩)
    have HBY := Lib.hid hBy
    have HBF := Lib.hid hbelf
    clear hb3 hC hBy hbelf
    go_wp2_with (first | (go_at_call 151; refine (HEFG.out _ C HBY.out HO.out).mono ?_; rintro e' w4 ⟨v, rfl, ho⟩))
    go_ret
    exact ⟨v, rfl, ho.own, (Below.mono HBF.out hB0).trans ho.bel⟩
set_option maxRecDepth 10000 in
set_option maxHeartbeats 1000000 in
theorem efg_nzero (B0 : Nat) (dst : Value) (w : World) (hown : w.ownsRow B0 5 1 dst 0 []) (hB0 : B0 ≤ w.heap.size) :
    Calls Tryz.prog 151 #[dst, .bool true, .slice none 0 0, .int .i64 0, .int .i64 0, .int .i64 (-1), .int .u8 103, .bool true] w fun e' w' => ∃ v, e' = .returned v ∧ w'.ownsRow B0 5 1 v 2 (Lib.byteCells [45, 48]) ∧ Below B0 w w' := by
  obtain ⟨i0, hi, hz0, hz1, hz2⟩ := info_parts info5
  have HW := Lib.hid hown
  clear hown
  go_enter Tryz.func151, Tryz.ntmps151
  go_wp2_with (first | (at_builtin; refine wpList_append1 _ [_] 5 rfl (.tmp 179) (.tmp 180) 92 rfl B0 i0 (.int .u8 0) 1 1 Tryz.underlying92 hi hz0 hz1 hz2 rfl (by decide) _ 0 [] rfl HW.out _ _ rfl rfl rfl (fun u hu => by simp at hu; subst hu; rfl) (by omega) (by unfold maxLen; omega) hB0 ?_; refine Hid.out ?_))
  refine Lib.hid ?_
  intro v' w' h2 h3
  have H2 := Lib.hid h2
  have H3 := Lib.hid (Below.grown (Below.refl _ _) h3 hB0 fun k hk => (HW.out.lt k hk).1)
  have hsz := Nat.le_trans hB0 h3.size
  clear h2 h3
  go_wp2_with (at_builtin; refine wpList_append1 _ [_] 5 rfl (.tmp 209) (.tmp 210) 92 rfl B0 i0 (.int .u8 0) 1 1 Tryz.underlying92 hi hz0 hz1 hz2 rfl (by decide) _ _ _ rfl H2.out _ _ rfl rfl rfl (fun u hu => by simp at hu; subst hu; rfl) (by omega) (by unfold maxLen; omega) hsz ?_; refine Hid.out ?_)
  refine Lib.hid ?_
  intro v2 w2 h2 h3
  have H4 := Lib.hid h2
  have H5 := Lib.hid (H3.out.trans (Below.grown (Below.refl _ _) h3 hsz fun k hk => (H2.out.lt k hk).1))
  clear h2 h3
  go_wp2_with fail
  go_ret
  exact ⟨_, rfl, H4.out, H5.out⟩
set_option maxRecDepth 10000 in
set_option maxHeartbeats 1000000 in
theorem ftoa_nzero (B0 : Nat) (dst : Value) (w : World) (hown : w.ownsRow B0 5 1 dst 0 []) (hB0 : B0 ≤ w.heap.size) :
    Calls Tryz.prog 136 #[dst, .float .f64 9223372036854775808, .int .u8 103, .int .i64 (-1)] w fun e' w' => ∃ v, e' = .returned v ∧ w'.ownsRow B0 5 1 v 2 (Lib.byteCells [45, 48]) ∧ Below B0 w w' := by
  have hf := fb148 9223372036854775808
  have HOWN := Lib.hid hown
  clear hown
  have z1 : bits BinOp.and IntKind.i64 2048 2047 = 0 := by decide +kernel
  have z2 : bits BinOp.and IntKind.u64 9223372036854775808 4503599627370495 = 0 := by decide +kernel
  go_enter Tryz.func136, Tryz.ntmps136
  go_wp2_with fail
  go_region
  all_goals (try simp only [Exit.then])
  go_wp2_with (first | (go_at_call 151; refine (efg_nzero B0 dst w.drew HOWN.out hB0).mono ?_; rintro e' w4 ⟨v, rfl, h1, h2⟩))
  go_ret
  exact ⟨v, rfl, h1, (⟨rfl, rfl, rfl, Nat.le_refl _, fun _ _ => rfl⟩ : Below B0 w w.drew).trans h2⟩
end Go.Proofs.YtghajgdiaopioaaGreatDoor

/- Walks: atof64 (143) of whatever digits, and ParseFloat (128, 114, 104) behind it. -/
namespace Go.Proofs.YtghajgdiaopioaaGreatDoor
open Go.RowKit

/-- What reading a number asks of the world. -/
structure RdW (w : World) : Prop where
  tabs : TabsW w
  info : w.cell? ⟨16, 0, none⟩ = some (.int .u64 52)
  opt : w.cell? ⟨14, 0, none⟩ = some (.bool true)
  t10 : T10 w
set_option maxRecDepth 10000 in
set_option maxHeartbeats 1000000 in
theorem atof64_zero (s : ByteArray) (neg : Bool) (w : World) (p : Int)
    (hO : w.cell? ⟨14, 0, none⟩ = some (.bool true))
    (h161 : ∀ w, Calls Tryz.prog 161 #[.string s] w fun e w' => e = .returned (.tuple #[.float .f64 0, .int .i64 0, .bool false]) ∧ w = w')
    (h162 : ∀ w, Calls Tryz.prog 162 #[.string s] w fun e w' => e = .returned (.tuple #[.int .u64 0, .int .i64 p, .bool neg, .bool false, .bool false, .int .i64 s.size, .bool true]) ∧ w = w') :
    Calls Tryz.prog 143 #[.string s] w fun e w' => e = .returned (.tuple #[.float .f64 (wrd neg 0), .int .i64 s.size, .nilIface]) ∧ Bel w w' := by
  have H1 := Lib.hid h161
  have H2 := Lib.hid h162
  clear h161 h162
  have hff : ∀ w, (callFunc 171 #[.int .u64 (wrd neg 0 : Nat)]).run Tryz.prog w = .ok (.value (.float .f64 (wrd neg 0))) w := fun w => ff171 _ w
  have hor : bits BinOp.or IntKind.u64 (IntKind.u64.wrap (zB neg * 9223372036854775808)) 0 = ((wrd neg 0 : Nat) : Int) := by cases neg <;> decide +kernel
  generalize wrd neg 0 = W at *
  go_enter Tryz.func143, Tryz.ntmps143
  go_wp2_with (first | (go_at_call 161; refine (H1.out _).mono ?_; rintro e' w' ⟨rfl, rfl⟩) | (go_at_call 162; refine (H2.out _).mono ?_; rintro e' w' ⟨rfl, rfl⟩) | (go_at_call 170; refine (bool2_calls _ _).mono ?_; rintro e' w' ⟨rfl, rfl⟩))
  refine bodyPost_ret (v := .tuple #[.float .f64 W, .int .i64 s.size, .nilIface]) (by simp [results, Tryz.results143, go_sem]) rfl ⟨rfl, Below.refl _ _⟩
set_option maxRecDepth 10000 in
set_option maxHeartbeats 1000000 in
theorem atof64_num (s : ByteArray) (m x : Nat) (p : Int) (neg : Bool) (w : World) (h0 : 1 ≤ m) (hm : m < 100000000000000000) (hp1 : -345 ≤ p) (hp2 : p ≤ 310) (hr : DRnd m p x) (hx1 : 1 ≤ x) (hf : x < 9218868437227405312) (hW : RdW w)
    (h161 : ∀ w, Calls Tryz.prog 161 #[.string s] w fun e w' => e = .returned (.tuple #[.float .f64 0, .int .i64 0, .bool false]) ∧ w = w')
    (h162 : ∀ w, Calls Tryz.prog 162 #[.string s] w fun e w' => e = .returned (.tuple #[.int .u64 m, .int .i64 p, .bool neg, .bool false, .bool false, .int .i64 s.size, .bool true]) ∧ w = w') :
    Calls Tryz.prog 143 #[.string s] w fun e w' => e = .returned (.tuple #[.float .f64 (wrd neg x), .int .i64 s.size, .nilIface]) ∧ Bel w w' := by
  have H1 := Lib.hid h161
  have H2 := Lib.hid h162
  have HE := Lib.hid (exact_calls m x p neg w h0 hr hf hW.info hW.t10)
  have HPP := Lib.hid (parse64_calls m x p neg w h0 hm hp1 hp2 hr hx1 hf hW.tabs)
  have hO := hW.opt
  clear h161 h162 hr hx1 hf hW
  have hsg : IntKind.u64.wrap (zB neg * 9223372036854775808) = ((wrd neg 0 : Nat) : Int) := by cases neg <;> decide +kernel
  have hne := ne_nat m 0 (by omega)
  have b1 : decide (310 < p) = false := decide_eq_false (by omega)
  have b2 : decide (p < -345) = false := decide_eq_false (by omega)
  generalize wrd neg 0 = SG at *
  generalize wrd neg x = X at *
  go_enter Tryz.func143, Tryz.ntmps143
  go_wp2_with (first | (go_at_call 161; refine (H1.out _).mono ?_; rintro e' w' ⟨rfl, rfl⟩) | (go_at_call 162; refine (H2.out _).mono ?_; rintro e' w' ⟨rfl, rfl⟩) | (go_at_call 170; refine (bool2_calls _ _).mono ?_; rintro e' w' ⟨rfl, rfl⟩) | (go_at_call 172; refine HE.out.mono ?_; rintro e' w' ⟨⟨f, ok, rfl, hok⟩, rfl⟩; cases ok) | (go_at_call 173; refine HPP.out.mono ?_; rintro e' w5 ⟨rfl, hb5⟩))
  · refine bodyPost_ret (v := .tuple #[.float .f64 X, .int .i64 s.size, .nilIface]) (by simp [results, Tryz.results143, go_sem]) rfl ⟨rfl, hb5⟩
  · obtain rfl : f = X := by simpa using hok
    refine bodyPost_ret (v := .tuple #[.float .f64 f, .int .i64 s.size, .nilIface]) (by simp [results, Tryz.results143, go_sem]) rfl ⟨rfl, Below.refl _ _⟩
theorem parse128' (s : ByteArray) (x : Nat) (w : World) (h : Calls Tryz.prog 143 #[.string s] w fun e w' => e = .returned (.tuple #[.float .f64 x, .int .i64 s.size, .nilIface]) ∧ Bel w w') :
    Calls Tryz.prog 128 #[.string s, .int .i64 64] w fun e w' => e = .returned (.tuple #[.float .f64 x, .int .i64 s.size, .nilIface]) ∧ Bel w w' := by
  have H := Lib.hid h
  clear h
  go_enter Tryz.func128, Tryz.ntmps128
  go_wp2_with (first | (go_at_call 143; refine H.out.mono ?_; rintro e' w' ⟨rfl, hb⟩))
  refine bodyPost_ret (v := .tuple #[.float .f64 x, .int .i64 s.size, .nilIface]) (by simp [results, Tryz.results128, go_sem]) rfl ⟨rfl, hb⟩
theorem parse114' (s : ByteArray) (x : Nat) (w : World) (h : Calls Tryz.prog 128 #[.string s, .int .i64 64] w fun e w' => e = .returned (.tuple #[.float .f64 x, .int .i64 s.size, .nilIface]) ∧ Bel w w') :
    Calls Tryz.prog 114 #[.string s, .int .i64 64] w fun e w' => e = .returned (.tuple #[.float .f64 x, .nilIface]) ∧ Bel w w' := by
  have H := Lib.hid h
  clear h
  have hn : ((s.size : Int) != (s.size : Int)) = false := by simp
  go_enter Tryz.func114, Tryz.ntmps114
  go_wp2_with (first | (go_at_call 128; refine H.out.mono ?_; rintro e' w' ⟨rfl, hb⟩))
  refine bodyPost_ret (v := .tuple #[.float .f64 x, .nilIface]) (by simp [results, Tryz.results114, go_sem]) rfl ⟨rfl, hb⟩
theorem parse104' (s : ByteArray) (x : Nat) (w : World) (h : Calls Tryz.prog 114 #[.string s, .int .i64 64] w fun e w' => e = .returned (.tuple #[.float .f64 x, .nilIface]) ∧ Bel w w') :
    Calls Tryz.prog 104 #[.string s, .int .i64 64] w fun e w' => e = .returned (.tuple #[.float .f64 x, .nilIface]) ∧ Bel w w' := by
  have H := Lib.hid h
  clear h
  go_enter Tryz.func104, Tryz.ntmps104
  go_wp2_with (first | (go_at_call 114; refine H.out.mono ?_; rintro e' w' ⟨rfl, hb⟩))
  refine bodyPost_ret (v := .tuple #[.float .f64 x, .nilIface]) (by simp [results, Tryz.results104, go_sem]) rfl ⟨rfl, hb⟩
end Go.Proofs.YtghajgdiaopioaaGreatDoor
