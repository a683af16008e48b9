/- Walks: a number's text is read (162): with a sign or without, with an exponent or without (printed by genEQ.py). -/
import Derived.WalkMore
import Derived.Test.YtghajgdiaopioaaGreatDoorV10
set_option linter.unusedVariables false
set_option linter.unusedSimpArgs false

namespace Go.Proofs.YtghajgdiaopioaaGreatDoor
open Go.RowKit


set_option maxRecDepth 60000 in
set_option maxHeartbeats 4000000 in
theorem rf_n0 (s : ByteArray) (Mx : List UInt8) (w : World) (hs : toL s = 45 :: (Mx)) (hM : NumL Mx) (h1 : 1 ≤ Mx.length) (h30 : Mx.length ≤ 40) (hnd : (mrun Mx).nd ≤ 18) (hsd : sawD Mx = true) (hm : (mrun Mx).mant ≠ 0) (h3 : 3 < s.size) (xp : Int) (hxp : (if (mrun Mx).dot then (mrun Mx).dp else (mrun Mx).nd) - (mrun Mx).nd = xp) :
    Calls Tryz.prog 162 #[.string s] w fun e w' => e = .returned (.tuple #[.int .u64 (mrun Mx).mant, .int .i64 xp, .bool true, .bool false, .bool false, .int .i64 s.size, .bool true]) ∧ w = w' := by
  have hsz : Mx.length + 1 = s.size := by
    have h := toL_length s
    rw [hs] at h
    (try simp at h)
    omega
  have hat : ∀ (k : Nat) (h : k < s.size), (toL s)[k]? = some (s[k]'h) := fun k h => by
    rw [List.getElem?_eq_getElem (by rw [toL_length]; exact h), toL_get s k h]
  have hget : ∀ (k : Nat) (hk : k < Mx.length) (h : k + 1 < s.size), s[k + 1]'h = Mx[k] := fun k hk h => by
    have := hat (k + 1) h
    generalize s[k + 1]'h = y at *
    rw [hs, List.getElem?_cons_succ, List.getElem?_eq_getElem hk] at this
    exact (Option.some.inj this).symm
  have hdig : ∀ (k : Nat) (hk : k < Mx.length), isDg Mx[k] ∨ Mx[k] = 46 := fun k hk => hM.1 _ (List.getElem_mem _)
  have hbd : ∀ k, (mrun (Mx.take k)).mant < 10 ^ (mrun (Mx.take k)).nd ∧ (mrun (Mx.take k)).nd ≤ 18 ∧ -40 ≤ (mrun (Mx.take k)).dp ∧ (mrun (Mx.take k)).dp ≤ 40 := fun k => by
    have b1 := mrun_bounds (Mx.take k) (fun c hc => hM.1 c (List.mem_of_mem_take hc))
    have b2 := mrun_take_nd Mx k
    have b3 : (Mx.take k).length ≤ Mx.length := by rw [List.length_take]; omega
    exact ⟨b1.1, by omega, by omega, by omega⟩
  have hdt : ∀ (k : Nat) (hk : k < Mx.length), Mx[k] = 46 → (mrun (Mx.take k)).dot = false := fun k hk h => hM.2 k hk (by rw [List.getElem?_eq_getElem hk, h])
  have tD : decide (s = ByteArray.empty) = false := decide_eq_false fun h => by
    have h2 : s.size = 0 := by rw [h]; rfl
    omega
  have p0 : 0 < s.size := by omega
  have p1 : 1 < s.size := by omega
  have hc0 : s[0]'p0 = 45 := by
    have := hat 0 p0
    rw [hs] at this
    exact (Option.some.inj this).symm
  obtain ⟨c1, hc1⟩ : ∃ c : UInt8, s[1]'p1 = c := ⟨_, rfl⟩
  have hc1d : isDg c1 ∨ c1 = 46 := by rw [← hc1, hget 0 (by omega) (by omega)]; exact hdig 0 (by omega)
  have hs0 : decide ((s.size : Int) ≤ 0) = false := decide_eq_false (by omega)
  have hlow : ∀ (h : 2 < s.size), (bits BinOp.or IntKind.u8 ((s[2]'h).toNat : Int) 32 == 120) = false := fun h => by
    refine lower_small _ ?_
    by_cases hk : 1 < Mx.length
    · rw [hget 1 hk h]
      rcases hdig 1 hk with hd | hd
      · exact .inl hd.2
      · left; rw [hd]; decide
    · exfalso; omega
  have HGET := Lib.hid hget
  have HDIG := Lib.hid hdig
  have HBD := Lib.hid hbd
  have HDT := Lib.hid hdt
  have HLOW := Lib.hid hlow
  have HSD := Lib.hid hsd
  have HMZ := Lib.hid hm
  have HXP := Lib.hid hxp
  have HS := Lib.hid hs
  clear hget hdig hbd hdt hlow hsd hat hs hM hnd hm hxp hc1d

  have hlw := HLOW.out (by omega)
  have t12 : decide ((3 : Int) < (s.size : Int)) = true := decide_eq_true (by omega)
  obtain ⟨cn, hcn⟩ : ∃ c : UInt8, s[2]'(by omega) = c := ⟨_, rfl⟩
  have hnl : 2 < s.size := by omega
  rw [hcn] at hlw
  go_enter Tryz.func162, Tryz.ntmps162
  cases h48 : ((c1.toNat : Int) == 48)
  all_goals
    go_wp2_with (first | (go_at_call 176; refine (lower_calls _ _).mono ?_; rintro e' w' ⟨rfl, rfl⟩))
    go_step3
    go_wp2_with (first | (go_at_call 176; refine (lower_calls _ _).mono ?_; rintro e' w' ⟨rfl, rfl⟩))
    apply wp_label
    go_wp2_with fail
    go_loopg [2, 5, 7, 9, 13, 14, 15, 16, 17] (Mx.length + 1) (fun g s2 s5 s7 s9 s13 s14 s15 s16 s17 wx => w = wx ∧ s5 = .bool false ∧ s9 = .bool false ∧ ∃ k j : Nat, k ≤ Mx.length ∧ k + g = Mx.length + 1 ∧ k + 1 = j ∧ s2 = .int .u64 (mrun (Mx.take k)).mant ∧ s7 = .int .i64 j ∧ s13 = .bool (mrun (Mx.take k)).dot ∧ s14 = .bool (sawD (Mx.take k)) ∧ s15 = .int .i64 (mrun (Mx.take k)).nd ∧ s16 = .int .i64 (mrun (Mx.take k)).nd ∧ s17 = .int .i64 (mrun (Mx.take k)).dp)
    case atStart => exact ⟨rfl, rfl, rfl, 0, 1, Nat.zero_le _, by omega, rfl, rfl, rfl, rfl, rfl, rfl, rfl, rfl⟩
    case round =>
      obtain ⟨rfl, rfl, rfl, k, j, hk, hg, hj, rfl, rfl, rfl, rfl, rfl, rfl, rfl⟩ := hrel
      obtain ⟨b1, b2, b3, b4⟩ := HBD.out k
      obtain ⟨r, hr⟩ : ∃ r, mrun (Mx.take k) = r := ⟨_, rfl⟩
      obtain ⟨sd, hsd⟩ : ∃ b, sawD (Mx.take k) = b := ⟨_, rfl⟩
      rw [hr] at b1 b2 b3 b4 ⊢
      rw [hsd]
      have HR := Lib.hid hr
      have HSDK := Lib.hid hsd
      clear hr hsd
      obtain ⟨mant, nd, dp, dot⟩ := r
      simp only at b1 b2 b3 b4 ⊢
      have hmb : mant < 1000000000000000000 := Nat.lt_of_lt_of_le b1 (Nat.le_trans (Nat.pow_le_pow_right (by decide) b2) (by decide))
      have B1 := Lib.hid b1
      clear b1
      by_cases hlt : k < Mx.length
      · subst hj
        have hks : k + 1 < s.size := by omega
        obtain ⟨c, hc⟩ : ∃ c : UInt8, s[k + 1]'hks = c := ⟨_, rfl⟩
        have hcM : Mx[k] = c := by rw [← HGET.out k hlt hks, hc]
        have hcd := HDIG.out k hlt
        have hdt := HDT.out k hlt
        rw [hcM] at hcd hdt
        have htk : Mx.take (k + 1) = Mx.take k ++ [c] := by rw [List.take_succ_eq_append_getElem hlt, hcM]
        have hrn : mrun (Mx.take (k + 1)) = mstep ⟨mant, nd, dp, dot⟩ c := by rw [htk, mrun_snoc, HR.out]
        have hsn : sawD (Mx.take (k + 1)) = (sd || c != 46) := by rw [htk, sawD_snoc, HSDK.out]
        rw [HR.out] at hdt
        have HRN := Lib.hid hrn
        have HSN := Lib.hid hsn
        clear hrn hsn htk hcM
        by_cases h46 : c = 46
        · subst h46
          obtain rfl : dot = false := hdt rfl
          clear hcd hdt
          go_wp2
          go_roundg (Mx.length + 1 - (k + 1))
          case measure => omega
          case rel =>
            refine ⟨rfl, rfl, rfl, k + 1, k + 1 + 1, by omega, by omega, rfl, ?_, by go_num, ?_, ?_, ?_, ?_, ?_⟩ <;> first | (rw [HRN.out]; (try rfl)) | (rw [HSN.out]; simp)
        · have hdc : isDg c := by rcases hcd with h | h; exact h; exact absurd h h46
          have l1 : (48 : Int) ≤ (c.toNat : Int) := by have := hdc.1; omega
          have l2 : (c.toNat : Int) ≤ 57 := by have := hdc.2; omega
          have n1 : ((c.toNat : Int) == 95) = false := by rw [beq_eq_false_iff_ne]; intro h; omega
          have n2 : ((c.toNat : Int) == 46) = false := eq_i 46 h46
          have n19 : decide ((nd : Int) < 19) = true := decide_eq_true (by omega)
          have hne : (c != 46) = true := by simpa using h46
          clear hcd hdt hdc
          by_cases hz : nd = 0
          · subst hz
            have hm0 : mant = 0 := by have := B1.out; simp at this; exact this
            subst hm0
            by_cases h48 : c = 48
            · subst h48
              go_wp2
              go_roundg (Mx.length + 1 - (k + 1))
              case measure => omega
              case rel =>
                refine ⟨rfl, rfl, rfl, k + 1, k + 1 + 1, by omega, by omega, rfl, ?_, by go_num, ?_, ?_, ?_, ?_, ?_⟩ <;> first | (rw [HRN.out]; (try first | rfl | go_num)) | (rw [HSN.out]; simp)
            · have n3 : ((c.toNat : Int) == 48) = false := eq_i 48 h48
              have hst : mstep ⟨0, 0, dp, dot⟩ c = ⟨0 * 10 + (c.toNat - 48), 0 + 1, dp, dot⟩ := by unfold mstep; rw [if_neg h46, if_neg (by simp [h48])]
              have HST := Lib.hid hst
              clear hst
              go_wp2
              go_roundg (Mx.length + 1 - (k + 1))
              case measure => omega
              case rel =>
                refine ⟨rfl, rfl, rfl, k + 1, k + 1 + 1, by omega, by omega, rfl, ?_, by go_num, ?_, ?_, ?_, ?_, ?_⟩ <;> first | (rw [HRN.out]; (try rw [HST.out]); (try first | rfl | go_num | (congr 1; omega))) | (rw [HSN.out]; simp [hne])
          · have n4 : ((nd : Int) == 0) = false := by rw [beq_eq_false_iff_ne]; intro h; omega
            have hst : mstep ⟨mant, nd, dp, dot⟩ c = ⟨mant * 10 + (c.toNat - 48), nd + 1, dp, dot⟩ := by unfold mstep; rw [if_neg h46, if_neg (by simp [hz])]
            have HST := Lib.hid hst
            clear hst
            go_wp2
            all_goals
              go_roundg (Mx.length + 1 - (k + 1))
              case measure => omega
              case rel =>
                refine ⟨rfl, rfl, rfl, k + 1, k + 1 + 1, by omega, by omega, rfl, ?_, by go_num, ?_, ?_, ?_, ?_, ?_⟩ <;> first | (rw [HRN.out]; (try rw [HST.out]); (try first | rfl | go_num | (congr 1; omega))) | (rw [HSN.out]; simp [hne])
      · obtain rfl : k = Mx.length := by omega
        have hre := HR.out
        have hse := HSDK.out
        rw [List.take_length] at hre hse
        obtain rfl : sd = true := by rw [← hse]; exact HSD.out
        have HRE := Lib.hid hre
        clear hre hse hlt
        have hmz : ((mant : Int) != 0) = true := by
          have := HMZ.out
          rw [HRE.out] at this
          simpa using this
        obtain rfl : j = s.size := by omega
        clear hj
        have hkz : ¬ ((s.size : Int) < (s.size : Int)) := by omega
        clear HR HSDK
        cases dot
        · go_wp2
          refine bodyPost_ret (v := .tuple #[.int .u64 mant, .int .i64 (0), .bool true, .bool false, .bool false, .int .i64 s.size, .bool true]) (by simp [results, Tryz.results162, go_sem]) rfl ⟨by rw [← HXP.out, HRE.out]; simp, rfl⟩
        · go_wp2
          refine bodyPost_ret (v := .tuple #[.int .u64 mant, .int .i64 (dp - nd), .bool true, .bool false, .bool false, .int .i64 s.size, .bool true]) (by simp [results, Tryz.results162, go_sem]) rfl ⟨by rw [← HXP.out, HRE.out]; simp, rfl⟩

set_option maxRecDepth 60000 in
set_option maxHeartbeats 4000000 in
theorem rf_np (s : ByteArray) (Mx X : List UInt8) (w : World) (hs : toL s = 45 :: (Mx ++ 101 :: 43 :: X)) (hM : NumL Mx) (h1 : 1 ≤ Mx.length) (h30 : Mx.length ≤ 40) (hnd : (mrun Mx).nd ≤ 18) (hsd : sawD Mx = true) (hm : (mrun Mx).mant ≠ 0) (h3 : 3 < s.size) (hX : ∀ c ∈ X, isDg c) (hX1 : 1 ≤ X.length) (hX3 : X.length ≤ 3) (xp : Int) (hxp : (if (mrun Mx).dot then (mrun Mx).dp else (mrun Mx).nd) + vald X - (mrun Mx).nd = xp) :
    Calls Tryz.prog 162 #[.string s] w fun e w' => e = .returned (.tuple #[.int .u64 (mrun Mx).mant, .int .i64 xp, .bool true, .bool false, .bool false, .int .i64 s.size, .bool true]) ∧ w = w' := by
  have hsz : Mx.length + 2 + X.length + 1 = s.size := by
    have h := toL_length s
    rw [hs] at h
    (try simp at h)
    omega
  have hat : ∀ (k : Nat) (h : k < s.size), (toL s)[k]? = some (s[k]'h) := fun k h => by
    rw [List.getElem?_eq_getElem (by rw [toL_length]; exact h), toL_get s k h]
  have hget : ∀ (k : Nat) (hk : k < Mx.length) (h : k + 1 < s.size), s[k + 1]'h = Mx[k] := fun k hk h => by
    have := hat (k + 1) h
    generalize s[k + 1]'h = y at *
    rw [hs, List.getElem?_cons_succ, List.getElem?_append_left (by simpa using hk), List.getElem?_eq_getElem hk] at this
    exact (Option.some.inj this).symm
  have hdig : ∀ (k : Nat) (hk : k < Mx.length), isDg Mx[k] ∨ Mx[k] = 46 := fun k hk => hM.1 _ (List.getElem_mem _)
  have hbd : ∀ k, (mrun (Mx.take k)).mant < 10 ^ (mrun (Mx.take k)).nd ∧ (mrun (Mx.take k)).nd ≤ 18 ∧ -40 ≤ (mrun (Mx.take k)).dp ∧ (mrun (Mx.take k)).dp ≤ 40 := fun k => by
    have b1 := mrun_bounds (Mx.take k) (fun c hc => hM.1 c (List.mem_of_mem_take hc))
    have b2 := mrun_take_nd Mx k
    have b3 : (Mx.take k).length ≤ Mx.length := by rw [List.length_take]; omega
    exact ⟨b1.1, by omega, by omega, by omega⟩
  have hdt : ∀ (k : Nat) (hk : k < Mx.length), Mx[k] = 46 → (mrun (Mx.take k)).dot = false := fun k hk h => hM.2 k hk (by rw [List.getElem?_eq_getElem hk, h])
  have tD : decide (s = ByteArray.empty) = false := decide_eq_false fun h => by
    have h2 : s.size = 0 := by rw [h]; rfl
    omega
  have p0 : 0 < s.size := by omega
  have p1 : 1 < s.size := by omega
  have hc0 : s[0]'p0 = 45 := by
    have := hat 0 p0
    rw [hs] at this
    exact (Option.some.inj this).symm
  obtain ⟨c1, hc1⟩ : ∃ c : UInt8, s[1]'p1 = c := ⟨_, rfl⟩
  have hc1d : isDg c1 ∨ c1 = 46 := by rw [← hc1, hget 0 (by omega) (by omega)]; exact hdig 0 (by omega)
  have hs0 : decide ((s.size : Int) ≤ 0) = false := decide_eq_false (by omega)
  have hlow : ∀ (h : 2 < s.size), (bits BinOp.or IntKind.u8 ((s[2]'h).toNat : Int) 32 == 120) = false := fun h => by
    refine lower_small _ ?_
    by_cases hk : 1 < Mx.length
    · rw [hget 1 hk h]
      rcases hdig 1 hk with hd | hd
      · exact .inl hd.2
      · left; rw [hd]; decide
    · right
      have := hat 2 h
      generalize s[2]'h = y at *
      rw [hs, List.getElem?_cons_succ, List.getElem?_append_right (by omega), show 1 - Mx.length = 0 by omega] at this
      exact (Option.some.inj this).symm
  have hE0 : ∀ (h : Mx.length + 1 < s.size), s[Mx.length + 1]'h = 101 := fun h => by
    have := hat (Mx.length + 1) h
    generalize s[Mx.length + 1]'h = y at *
    rw [hs, List.getElem?_cons_succ, List.getElem?_append_right (Nat.le_refl _), Nat.sub_self] at this
    exact (Option.some.inj this).symm
  have hE1 : ∀ (h : Mx.length + 1 + 1 < s.size), s[Mx.length + 1 + 1]'h = 43 := fun h => by
    have := hat (Mx.length + 1 + 1) h
    generalize s[Mx.length + 1 + 1]'h = y at *
    rw [hs, show Mx.length + 1 + 1 = (Mx.length + 1) + 1 from rfl, List.getElem?_cons_succ, List.getElem?_append_right (by omega), show Mx.length + 1 - Mx.length = 1 by omega] at this
    exact (Option.some.inj this).symm
  have hE2 : ∀ (j : Nat) (hj : j < X.length) (h : Mx.length + 1 + 2 + j < s.size), s[Mx.length + 1 + 2 + j]'h = X[j] := fun j hj h => by
    have := hat (Mx.length + 1 + 2 + j) h
    generalize s[Mx.length + 1 + 2 + j]'h = y at *
    rw [hs, show Mx.length + 1 + 2 + j = (Mx.length + 2 + j) + 1 by omega, List.getElem?_cons_succ, List.getElem?_append_right (by omega), show Mx.length + 2 + j - Mx.length = (j + 1) + 1 by omega, List.getElem?_cons_succ, List.getElem?_cons_succ, List.getElem?_eq_getElem hj] at this
    exact (Option.some.inj this).symm
  have hXd : ∀ (j : Nat) (hj : j < X.length), isDg X[j] := fun j hj => hX _ (List.getElem_mem _)
  have HGET := Lib.hid hget
  have HDIG := Lib.hid hdig
  have HBD := Lib.hid hbd
  have HDT := Lib.hid hdt
  have HLOW := Lib.hid hlow
  have HSD := Lib.hid hsd
  have HMZ := Lib.hid hm
  have HXP := Lib.hid hxp
  have HS := Lib.hid hs
  have HE0 := Lib.hid hE0
  have HE1 := Lib.hid hE1
  have HE2 := Lib.hid hE2
  have HXD := Lib.hid hXd
  have HXA := Lib.hid hX
  clear hE0 hE1 hE2 hXd hX
  clear hget hdig hbd hdt hlow hsd hat hs hM hnd hm hxp hc1d

  have hlw := HLOW.out (by omega)
  have t12 : decide ((3 : Int) < (s.size : Int)) = true := decide_eq_true (by omega)
  obtain ⟨cn, hcn⟩ : ∃ c : UInt8, s[2]'(by omega) = c := ⟨_, rfl⟩
  have hnl : 2 < s.size := by omega
  rw [hcn] at hlw
  go_enter Tryz.func162, Tryz.ntmps162
  cases h48 : ((c1.toNat : Int) == 48)
  all_goals
    go_wp2_with (first | (go_at_call 176; refine (lower_calls _ _).mono ?_; rintro e' w' ⟨rfl, rfl⟩))
    go_step3
    go_wp2_with (first | (go_at_call 176; refine (lower_calls _ _).mono ?_; rintro e' w' ⟨rfl, rfl⟩))
    apply wp_label
    go_wp2_with fail
    go_loopg [2, 5, 7, 9, 13, 14, 15, 16, 17] (Mx.length + 1) (fun g s2 s5 s7 s9 s13 s14 s15 s16 s17 wx => w = wx ∧ s5 = .bool false ∧ s9 = .bool false ∧ ∃ k j : Nat, k ≤ Mx.length ∧ k + g = Mx.length + 1 ∧ k + 1 = j ∧ s2 = .int .u64 (mrun (Mx.take k)).mant ∧ s7 = .int .i64 j ∧ s13 = .bool (mrun (Mx.take k)).dot ∧ s14 = .bool (sawD (Mx.take k)) ∧ s15 = .int .i64 (mrun (Mx.take k)).nd ∧ s16 = .int .i64 (mrun (Mx.take k)).nd ∧ s17 = .int .i64 (mrun (Mx.take k)).dp)
    case atStart => exact ⟨rfl, rfl, rfl, 0, 1, Nat.zero_le _, by omega, rfl, rfl, rfl, rfl, rfl, rfl, rfl, rfl⟩
    case round =>
      obtain ⟨rfl, rfl, rfl, k, j, hk, hg, hj, rfl, rfl, rfl, rfl, rfl, rfl, rfl⟩ := hrel
      obtain ⟨b1, b2, b3, b4⟩ := HBD.out k
      obtain ⟨r, hr⟩ : ∃ r, mrun (Mx.take k) = r := ⟨_, rfl⟩
      obtain ⟨sd, hsd⟩ : ∃ b, sawD (Mx.take k) = b := ⟨_, rfl⟩
      rw [hr] at b1 b2 b3 b4 ⊢
      rw [hsd]
      have HR := Lib.hid hr
      have HSDK := Lib.hid hsd
      clear hr hsd
      obtain ⟨mant, nd, dp, dot⟩ := r
      simp only at b1 b2 b3 b4 ⊢
      have hmb : mant < 1000000000000000000 := Nat.lt_of_lt_of_le b1 (Nat.le_trans (Nat.pow_le_pow_right (by decide) b2) (by decide))
      have B1 := Lib.hid b1
      clear b1
      by_cases hlt : k < Mx.length
      · subst hj
        have hks : k + 1 < s.size := by omega
        obtain ⟨c, hc⟩ : ∃ c : UInt8, s[k + 1]'hks = c := ⟨_, rfl⟩
        have hcM : Mx[k] = c := by rw [← HGET.out k hlt hks, hc]
        have hcd := HDIG.out k hlt
        have hdt := HDT.out k hlt
        rw [hcM] at hcd hdt
        have htk : Mx.take (k + 1) = Mx.take k ++ [c] := by rw [List.take_succ_eq_append_getElem hlt, hcM]
        have hrn : mrun (Mx.take (k + 1)) = mstep ⟨mant, nd, dp, dot⟩ c := by rw [htk, mrun_snoc, HR.out]
        have hsn : sawD (Mx.take (k + 1)) = (sd || c != 46) := by rw [htk, sawD_snoc, HSDK.out]
        rw [HR.out] at hdt
        have HRN := Lib.hid hrn
        have HSN := Lib.hid hsn
        clear hrn hsn htk hcM
        by_cases h46 : c = 46
        · subst h46
          obtain rfl : dot = false := hdt rfl
          clear hcd hdt
          go_wp2
          go_roundg (Mx.length + 1 - (k + 1))
          case measure => omega
          case rel =>
            refine ⟨rfl, rfl, rfl, k + 1, k + 1 + 1, by omega, by omega, rfl, ?_, by go_num, ?_, ?_, ?_, ?_, ?_⟩ <;> first | (rw [HRN.out]; (try rfl)) | (rw [HSN.out]; simp)
        · have hdc : isDg c := by rcases hcd with h | h; exact h; exact absurd h h46
          have l1 : (48 : Int) ≤ (c.toNat : Int) := by have := hdc.1; omega
          have l2 : (c.toNat : Int) ≤ 57 := by have := hdc.2; omega
          have n1 : ((c.toNat : Int) == 95) = false := by rw [beq_eq_false_iff_ne]; intro h; omega
          have n2 : ((c.toNat : Int) == 46) = false := eq_i 46 h46
          have n19 : decide ((nd : Int) < 19) = true := decide_eq_true (by omega)
          have hne : (c != 46) = true := by simpa using h46
          clear hcd hdt hdc
          by_cases hz : nd = 0
          · subst hz
            have hm0 : mant = 0 := by have := B1.out; simp at this; exact this
            subst hm0
            by_cases h48 : c = 48
            · subst h48
              go_wp2
              go_roundg (Mx.length + 1 - (k + 1))
              case measure => omega
              case rel =>
                refine ⟨rfl, rfl, rfl, k + 1, k + 1 + 1, by omega, by omega, rfl, ?_, by go_num, ?_, ?_, ?_, ?_, ?_⟩ <;> first | (rw [HRN.out]; (try first | rfl | go_num)) | (rw [HSN.out]; simp)
            · have n3 : ((c.toNat : Int) == 48) = false := eq_i 48 h48
              have hst : mstep ⟨0, 0, dp, dot⟩ c = ⟨0 * 10 + (c.toNat - 48), 0 + 1, dp, dot⟩ := by unfold mstep; rw [if_neg h46, if_neg (by simp [h48])]
              have HST := Lib.hid hst
              clear hst
              go_wp2
              go_roundg (Mx.length + 1 - (k + 1))
              case measure => omega
              case rel =>
                refine ⟨rfl, rfl, rfl, k + 1, k + 1 + 1, by omega, by omega, rfl, ?_, by go_num, ?_, ?_, ?_, ?_, ?_⟩ <;> first | (rw [HRN.out]; (try rw [HST.out]); (try first | rfl | go_num | (congr 1; omega))) | (rw [HSN.out]; simp [hne])
          · have n4 : ((nd : Int) == 0) = false := by rw [beq_eq_false_iff_ne]; intro h; omega
            have hst : mstep ⟨mant, nd, dp, dot⟩ c = ⟨mant * 10 + (c.toNat - 48), nd + 1, dp, dot⟩ := by unfold mstep; rw [if_neg h46, if_neg (by simp [hz])]
            have HST := Lib.hid hst
            clear hst
            go_wp2
            all_goals
              go_roundg (Mx.length + 1 - (k + 1))
              case measure => omega
              case rel =>
                refine ⟨rfl, rfl, rfl, k + 1, k + 1 + 1, by omega, by omega, rfl, ?_, by go_num, ?_, ?_, ?_, ?_, ?_⟩ <;> first | (rw [HRN.out]; (try rw [HST.out]); (try first | rfl | go_num | (congr 1; omega))) | (rw [HSN.out]; simp [hne])
      · obtain rfl : k = Mx.length := by omega
        have hre := HR.out
        have hse := HSDK.out
        rw [List.take_length] at hre hse
        obtain rfl : sd = true := by rw [← hse]; exact HSD.out
        have HRE := Lib.hid hre
        clear hre hse hlt
        have hmz : ((mant : Int) != 0) = true := by
          have := HMZ.out
          rw [HRE.out] at this
          simpa using this
        have hj0 : j < s.size := by omega
        have hj1 : j + 1 < s.size := by omega
        have hj2 : j + 2 < s.size := by omega
        have he0 : s[j]'hj0 = 101 := by subst hj; exact HE0.out _
        have he1 : s[j + 1]'hj1 = 43 := by subst hj; exact HE1.out _
        obtain ⟨c2, hc2⟩ : ∃ c : UInt8, s[j + 2]'hj2 = c := ⟨_, rfl⟩
        have hc2d : isDg c2 := by
          have h := HE2.out 0 (by omega) (by omega)
          have h' : c2 = X[0]'(by omega) := by rw [← h, ← hc2]; subst hj; rfl
          rw [h']; exact HXD.out 0 (by omega)
        have k1 : decide ((c2.toNat : Int) < 48) = false := decide_eq_false (by have := hc2d.1; omega)
        have k2 : decide ((57 : Int) < (c2.toNat : Int)) = false := decide_eq_false (by have := hc2d.2; omega)
        have hl101 : bits BinOp.or IntKind.u8 101 32 = 101 := by decide +kernel
        have hjs : j + 2 + X.length = s.size := by omega
        have HXJ : Hid (∀ (t : Nat) (ht : t < X.length) (h : j + 2 + t < s.size), s[j + 2 + t]'h = X[t]) := Lib.hid (fun t ht h => by subst hj; exact HE2.out t ht h)
        clear HR HSDK hj hc2d
        cases dot
        · go_wp2_with (first | (go_at_call 176; refine (lower_calls _ _).mono ?_; rintro e' w' ⟨rfl, rfl⟩))
          go_loopg [7, 9, 20] X.length (fun g s7 s9 s20 wx => w = wx ∧ s9 = .bool false ∧ ∃ t : Nat, t ≤ X.length ∧ t + g = X.length ∧ s7 = .int .i64 (j + 2 + t : Nat) ∧ s20 = .int .i64 (vald (X.take t)))
          case atStart => exact ⟨rfl, rfl, 0, Nat.zero_le _, by omega, by go_num, rfl⟩
          case round =>
            obtain ⟨rfl, rfl, t, ht, htg, rfl, rfl⟩ := hrel
            have hvb := vald_lt (X.take t) (fun c hc => HXA.out c (List.mem_of_mem_take hc))
            have hvb2 : vald (X.take t) < 1000 := Nat.lt_of_lt_of_le hvb (Nat.le_trans (Nat.pow_le_pow_right (by decide) (show (X.take t).length ≤ 3 by rw [List.length_take]; omega)) (by decide))
            clear hvb
            by_cases hlt2 : t < X.length
            · have hts : j + 2 + t < s.size := by omega
              obtain ⟨c, hc⟩ : ∃ c : UInt8, s[j + 2 + t]'hts = c := ⟨_, rfl⟩
              have hcx : X[t] = c := by rw [← HXJ.out t hlt2 hts, hc]
              have hcd := HXD.out t hlt2
              rw [hcx] at hcd
              have htk : X.take (t + 1) = X.take t ++ [c] := by rw [List.take_succ_eq_append_getElem hlt2, hcx]
              have hvn : vald (X.take (t + 1)) = vald (X.take t) * 10 + (c.toNat - 48) := by rw [htk, vald_snoc]
              have HVN := Lib.hid hvn
              have l1 : (48 : Int) ≤ (c.toNat : Int) := by have := hcd.1; omega
              have l2 : (c.toNat : Int) ≤ 57 := by have := hcd.2; omega
              have n1 : ((c.toNat : Int) == 95) = false := by rw [beq_eq_false_iff_ne]; intro h; omega
              clear hcd htk hvn hcx
              generalize vald (X.take t) = e0 at *
              go_wp2
              go_roundg (X.length - (t + 1))
              case measure => omega
              case rel => exact ⟨rfl, rfl, t + 1, by omega, by omega, by go_num, by rw [HVN.out]; congr 1; omega⟩
            · obtain rfl : t = X.length := by omega
              rw [hjs]
              have hkz : ¬ ((s.size : Int) < (s.size : Int)) := by omega
              rw [List.take_length] at hvb2 ⊢
              generalize vald X = e0 at *
              go_wp2
              refine bodyPost_ret (v := .tuple #[.int .u64 mant, .int .i64 ((nd : Int) + (e0 : Int) - (nd : Int)), .bool true, .bool false, .bool false, .int .i64 s.size, .bool true]) (by simp [results, Tryz.results162, go_sem]) rfl ⟨by rw [← HXP.out, HRE.out]; simp, rfl⟩
        · go_wp2_with (first | (go_at_call 176; refine (lower_calls _ _).mono ?_; rintro e' w' ⟨rfl, rfl⟩))
          go_loopg [7, 9, 20] X.length (fun g s7 s9 s20 wx => w = wx ∧ s9 = .bool false ∧ ∃ t : Nat, t ≤ X.length ∧ t + g = X.length ∧ s7 = .int .i64 (j + 2 + t : Nat) ∧ s20 = .int .i64 (vald (X.take t)))
          case atStart => exact ⟨rfl, rfl, 0, Nat.zero_le _, by omega, by go_num, rfl⟩
          case round =>
            obtain ⟨rfl, rfl, t, ht, htg, rfl, rfl⟩ := hrel
            have hvb := vald_lt (X.take t) (fun c hc => HXA.out c (List.mem_of_mem_take hc))
            have hvb2 : vald (X.take t) < 1000 := Nat.lt_of_lt_of_le hvb (Nat.le_trans (Nat.pow_le_pow_right (by decide) (show (X.take t).length ≤ 3 by rw [List.length_take]; omega)) (by decide))
            clear hvb
            by_cases hlt2 : t < X.length
            · have hts : j + 2 + t < s.size := by omega
              obtain ⟨c, hc⟩ : ∃ c : UInt8, s[j + 2 + t]'hts = c := ⟨_, rfl⟩
              have hcx : X[t] = c := by rw [← HXJ.out t hlt2 hts, hc]
              have hcd := HXD.out t hlt2
              rw [hcx] at hcd
              have htk : X.take (t + 1) = X.take t ++ [c] := by rw [List.take_succ_eq_append_getElem hlt2, hcx]
              have hvn : vald (X.take (t + 1)) = vald (X.take t) * 10 + (c.toNat - 48) := by rw [htk, vald_snoc]
              have HVN := Lib.hid hvn
              have l1 : (48 : Int) ≤ (c.toNat : Int) := by have := hcd.1; omega
              have l2 : (c.toNat : Int) ≤ 57 := by have := hcd.2; omega
              have n1 : ((c.toNat : Int) == 95) = false := by rw [beq_eq_false_iff_ne]; intro h; omega
              clear hcd htk hvn hcx
              generalize vald (X.take t) = e0 at *
              go_wp2
              go_roundg (X.length - (t + 1))
              case measure => omega
              case rel => exact ⟨rfl, rfl, t + 1, by omega, by omega, by go_num, by rw [HVN.out]; congr 1; omega⟩
            · obtain rfl : t = X.length := by omega
              rw [hjs]
              have hkz : ¬ ((s.size : Int) < (s.size : Int)) := by omega
              rw [List.take_length] at hvb2 ⊢
              generalize vald X = e0 at *
              go_wp2
              refine bodyPost_ret (v := .tuple #[.int .u64 mant, .int .i64 ((dp : Int) + (e0 : Int) - (nd : Int)), .bool true, .bool false, .bool false, .int .i64 s.size, .bool true]) (by simp [results, Tryz.results162, go_sem]) rfl ⟨by rw [← HXP.out, HRE.out]; simp, rfl⟩

end Go.Proofs.YtghajgdiaopioaaGreatDoor
