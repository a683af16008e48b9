/- Whole numbers up to 1000: their floats, their digits, their texts; by the kernel's own computing. -/
import GoSem.PinnedTables
import Derived.Test.YtghajgdiaopioaaGreatDoorW26
set_option linter.unusedVariables false
set_option linter.unusedSimpArgs false

namespace Go.Proofs.YtghajgdiaopioaaGreatDoor
open Go.RowKit

def tabHi (i : Nat) : Nat := (Go.Pinned.pow10Rows.getD i (0, 0)).1
def tabLo (i : Nat) : Nat := (Go.Pinned.pow10Rows.getD i (0, 0)).2

/-- The float of a whole number. -/
def wBits (neg : Bool) (n : Nat) : Nat := if n = 0 then 0 else (if neg then 9223372036854775808 else 0) + (1023 + n.log2) * 4503599627370496 + (n * 2 ^ (52 - n.log2) - 4503599627370496)
def kDig (n : Nat) : Nat := if n < 10 then 1 else if n < 100 then 2 else if n < 1000 then 3 else 4
def digs (k d : Nat) : List UInt8 := (List.range k).map fun t => Lib.dg d (k - 1 - t)
/-- The text of a whole number. -/
def wText (neg : Bool) (n : Nat) : List UInt8 := (if neg then [45] else []) ++ digs (kDig n) n

def vm (n : Nat) : Nat := n * 2 ^ (63 - n.log2)
def ve (n : Nat) : Int := ((1023 + n.log2 : Nat) : Int) + -1023 - 11 - 52
def vw (n : Nat) : Bool := vm n == 9223372036854775808
def vp (n : Nat) : Int := if vw n then wrap64 (-zSkew (wrap64 (ve n + 11))) else wrap64 (-zLog10P2 (wrap64 (ve n + 11)))
def vi (n : Nat) : Nat := (vp n + 348).toNat
def vmn (n : Nat) : Nat := (IntKind.u64.wrap ((vm n : Int) - (if vw n then 512 else 1024))).toNat
def vmx (n : Nat) : Nat := (IntKind.u64.wrap ((vm n : Int) + 1024)).toNat
def vs (n : Nat) : Nat := (wrap64 (-(wrap64 (wrap64 (ve n + zLog2P10 (vp n)) + 3)))).toNat
def vodd (n : Nat) : Int := bits BinOp.and IntKind.i64 ((vm n : Int) / 2048) 1
def vr (n : Nat) : Int × Int := zShort (vp n) (zCeil (zNudge (zU (vmn n) (tabHi (vi n)) (tabLo (vi n)) (vs n)) (vodd n))) (zFloor (zNudge (zU (vmx n) (tabHi (vi n)) (tabLo (vi n)) (vs n)) (wrap64 (-(vodd n))))) (zRound (zU (vm n) (tabHi (vi n)) (tabLo (vi n)) (vs n)))
def vd (n : Nat) : Nat := (vr n).1.toNat
/-- How many digits the shortest ones are, with the zeros at their end. -/
def vk (n : Nat) : Nat := (List.range 18).find? (fun k => decide (vd n < 10 ^ k)) |>.getD 0
def vz (n : Nat) : Nat := zs (digs (vk n) (vd n)) (vk n)
def vdp (n : Nat) : Nat := ((vk n : Int) + (vr n).2).toNat

/-- All that the walk of ftoa asks of these values. -/
def chkC (neg : Bool) (x E M M1 m i s H L mn mx d z dp k : Nat) (r : Int × Int) (p odd : Int) (v : Bool) (T D : List UInt8) : Bool :=
  decide (1 ≤ E) && (decide (E < 2047) && (decide (bits BinOp.or IntKind.u64 (M : Int) 4503599627370496 = (M1 : Int)) && (decide (Lib.bitLen M1 = 53) && (decide (1 ≤ M1) && (decide (M1 ≤ 18446744073709551615)
  && (decide (IntKind.u64.wrap ((M1 : Int) * 2048) = (m : Int)) && (decide (p + 348 = (i : Int)) && (decide (i < 696)
  && (decide (IntKind.u64.wrap ((m : Int) - (if v then 512 else 1024)) = (mn : Int)) && (decide (IntKind.u64.wrap ((m : Int) + 1024) = (mx : Int))
  && (decide (wrap64 (-(wrap64 (wrap64 ((E : Int) + -1023 - 11 - 52 + zLog2P10 p) + 3))) = (s : Int)) && (decide (s < 64)
  && (decide (m < 18446744073709551616) && (decide (mn < 18446744073709551616) && (decide (mx < 18446744073709551616) && (decide (H < 18446744073709551616) && (decide (L < 18446744073709551616)
  && (decide (r.1 = (d : Int)) && (decide (1 ≤ d) && (decide (d < 18446744073709551616) && (decide (1 ≤ k) && (decide (10 ^ (k - 1) ≤ d) && (decide (d < 10 ^ k) && (decide (digs k d = D)
  && (decide (-100000 ≤ r.2) && (decide (r.2 ≤ 100000) && (decide ((k : Int) + r.2 = (dp : Int)) && (decide (1 ≤ z) && (decide (z ≤ dp) && (decide (dp ≤ 6) && (decide (z ≤ k) && (decide (-1085 < (E : Int) + -1023 - 11 - 52)
  && (decide (((x : Int) / 9223372036854775808 != 0) = neg) && (decide (bits BinOp.and IntKind.i64 (wrap64 ((x : Int) / 4503599627370496)) 2047 = (E : Int)) && (decide (bits BinOp.and IntKind.u64 (x : Int) 4503599627370495 = (M : Int))
  && (decide (T = (if neg then [45] else []) ++ D.take z ++ List.replicate (dp - z) 48)
  && (decide (r = zShort p (zCeil (zNudge (zU mn H L s) odd)) (zFloor (zNudge (zU mx H L s) (wrap64 (-odd)))) (zRound (zU m H L s)))
  && (decide (v = (m == 9223372036854775808)) && (decide (p = if v then wrap64 (-zSkew (wrap64 ((E : Int) + -1023 - 11 - 52 + 11))) else wrap64 (-zLog10P2 (wrap64 ((E : Int) + -1023 - 11 - 52 + 11))))
  && (decide (bits BinOp.and IntKind.i64 ((m : Int) / 2048) 1 = odd) && (decide (H = tabHi i) && (decide (L = tabLo i) && decide (z = zs D k)))))))))))))))))))))))))))))))))))))))))))
def chkW (neg : Bool) (n : Nat) : Bool :=
  chkC neg (wBits neg n) (1023 + n.log2) (n * 2 ^ (52 - n.log2) - 4503599627370496) (n * 2 ^ (52 - n.log2)) (vm n) (vi n) (vs n) (tabHi (vi n)) (tabLo (vi n)) (vmn n) (vmx n) (vd n) (vz n) (vdp n) (vk n) (vr n) (vp n) (vodd n) (vw n) (wText neg n) (digs (vk n) (vd n))
set_option maxRecDepth 100000 in
theorem chk_all : ((List.range 1001).all fun n => n == 0 || (chkW false n && chkW true n)) = true := by decide +kernel
end Go.Proofs.YtghajgdiaopioaaGreatDoor

/- Whole numbers are written as their texts. -/
namespace Go.Proofs.YtghajgdiaopioaaGreatDoor
open Go.RowKit

/-- The tables of numbers. -/
structure TabsW (w : World) : Prop where
  p10 : Lib.TabIs Tryz.prog w "internal/strconv.uint64pow10" .u64 Lib.pow10Tab
  t22 : ∀ i, i < 696 → w.cell? ⟨22, i * 2, none⟩ = some (.int .u64 (tabHi i)) ∧ w.cell? ⟨22, i * 2 + 1, none⟩ = some (.int .u64 (tabLo i))
theorem TabsW.bel {w w' : World} (h : TabsW w) (hb : Bel w w') : TabsW w' := ⟨tab_bel h.p10 hb, fun i hi => ⟨hb.cellOf (h.t22 i hi).1, hb.cellOf (h.t22 i hi).2⟩⟩

theorem chk_at (neg : Bool) (n : Nat) (h0 : n ≠ 0) (h : n ≤ 1000) : chkW neg n = true := by
  have := List.all_eq_true.1 chk_all n (List.mem_range.2 (by omega))
  have hb : (n == 0) = false := by simpa using h0
  rw [hb, Bool.false_or, Bool.and_eq_true] at this
  cases neg
  · exact this.1
  · exact this.2
theorem digs_eq {k d : Nat} (hk : 1 ≤ k) (h1 : 10 ^ (k - 1) ≤ d) (h2 : d < 10 ^ k) : Lib.nDigits d = k ∧ Lib.decDigits d = digs k d := by
  have hn : Lib.nDigits d = k := by
    have := Lib.nDigits_unique (k - 1) d h1 (by rw [show k - 1 + 1 = k from by omega]; exact h2)
    omega
  exact ⟨hn, by rw [Lib.decDigits_eq, hn]; rfl⟩

theorem ftoa_core (neg : Bool) (x E M M1 m i s H L mn mx d z dp k : Nat) (r : Int × Int) (p odd : Int) (v : Bool) (T D : List UInt8)
    (a1 : E < 2047) (a3 : bits BinOp.or IntKind.u64 (M : Int) 4503599627370496 = (M1 : Int)) (a4 : Lib.bitLen M1 = 53) (a6 : M1 ≤ 18446744073709551615)
    (a7 : IntKind.u64.wrap ((M1 : Int) * 2048) = (m : Int)) (a8 : p + 348 = (i : Int)) (a9 : i < 696)
    (a10 : IntKind.u64.wrap ((m : Int) - (if v then 512 else 1024)) = (mn : Int)) (a11 : IntKind.u64.wrap ((m : Int) + 1024) = (mx : Int))
    (a12 : wrap64 (-(wrap64 (wrap64 ((E : Int) + -1023 - 11 - 52 + zLog2P10 p) + 3))) = (s : Int)) (a13 : s < 64)
    (a14 : m < 18446744073709551616) (a15 : mn < 18446744073709551616) (a16 : mx < 18446744073709551616) (a17 : H < 18446744073709551616) (a18 : L < 18446744073709551616)
    (a19 : r.1 = (d : Int)) (a20 : 1 ≤ d) (a21 : d < 18446744073709551616) (d1 : Lib.nDigits d = k) (d2 : Lib.decDigits d = D)
    (a25 : -100000 ≤ r.2) (a26 : r.2 ≤ 100000) (a27 : (k : Int) + r.2 = (dp : Int)) (a28 : 1 ≤ z) (a29 : z ≤ dp) (a30 : dp ≤ 6) (a31 : z ≤ k) (a32 : -1085 < (E : Int) + -1023 - 11 - 52)
    (x1 : ((x : Int) / 9223372036854775808 != 0) = neg) (x2 : bits BinOp.and IntKind.i64 (wrap64 ((x : Int) / 4503599627370496)) 2047 = (E : Int))
    (x3 : bits BinOp.and IntKind.u64 (x : Int) 4503599627370495 = (M : Int)) (x4 : T = (if neg then [45] else []) ++ D.take z ++ List.replicate (dp - z) 48)
    (hr : r = zShort p (zCeil (zNudge (zU mn H L s) odd)) (zFloor (zNudge (zU mx H L s) (wrap64 (-odd)))) (zRound (zU m H L s)))
    (hw : v = (m == 9223372036854775808)) (hp : p = if v then wrap64 (-zSkew (wrap64 ((E : Int) + -1023 - 11 - 52 + 11))) else wrap64 (-zLog10P2 (wrap64 ((E : Int) + -1023 - 11 - 52 + 11))))
    (hodd : bits BinOp.and IntKind.i64 ((m : Int) / 2048) 1 = odd)
    (hT : ∀ w, TabsW w → w.cell? ⟨22, i * 2, none⟩ = some (.int .u64 H) ∧ w.cell? ⟨22, i * 2 + 1, none⟩ = some (.int .u64 L)) (hlen : D.length = k)
    (e5 : ((M1 : Int) == 0) = false) (e6 : ((E : Int) == 2047) = false) (e7 : ((E : Int) == 0) = false)
    (hz : z = zs D k) :
    Ftoa TabsW x T := by
  intro B0 dst w hK hown hB0
  refine ftoa_norm x E M M1 m d neg r.2 T B0 dst w x1 x2 e6 e7 a1 x3 a3 e5 a6 a4 a7 hK.p10 a20 a21 a25 a26 hown hB0 ?_ ?_
  · intro wx hb
    have hTx := hT wx (hK.bel hb)
    cases v
    · have hp' := hp.symm
      rw [if_neg (by decide)] at hp'
      rw [if_neg (by decide)] at a10
      have h9 : ((m : Int) == 9223372036854775808) = false := by
        have := hw.symm
        rw [beq_eq_false_iff_ne] at this ⊢
        omega
      refine (short2_calls m i s H L mn mx ((E : Int) + -1023 - 11 - 52) p odd wx a14 a17 a18 a15 a16 a13 a9 h9 (by simpa using Int.le_of_lt a32) hp' a8 a10 a11 hodd a12 hTx.1 hTx.2).mono ?_
      rintro e' w' ⟨⟨r', hr', rfl⟩, hb'⟩
      rw [hr', ← hr, a19]
      exact ⟨rfl, hb'⟩
    · have hp' := hp.symm
      rw [if_pos rfl] at hp'
      rw [if_pos rfl] at a10
      have h9 : ((m : Int) == 9223372036854775808) = true := by
        have := hw.symm
        rw [beq_iff_eq] at this ⊢
        omega
      refine (short1_calls m i s H L mn mx ((E : Int) + -1023 - 11 - 52) p odd wx a14 a17 a18 a15 a16 a13 a9 h9 (by simpa using a32) hp' a8 a10 a11 hodd a12 hTx.1 hTx.2).mono ?_
      rintro e' w' ⟨⟨r', hr', rfl⟩, hb'⟩
      rw [hr', ← hr, a19]
      exact ⟨rfl, hb'⟩
  · intro wx C hBy ho
    rw [d2] at hBy ⊢
    rw [d1, a27, ← hz]
    have h := efg_whole neg (if neg then [45] else []) rfl B0 w.heap.size z dp dst C 205 D wx ho hBy a28 a29 a30 (by rw [hlen]; exact a31)
    rw [← x4] at h
    exact h
theorem ne_nat (n m : Nat) (h : n ≠ m) : ((n : Int) == (m : Int)) = false := by rw [beq_eq_false_iff_ne]; omega
theorem ftoa_of_chk (neg : Bool) (x E M M1 m i s H L mn mx d z dp k : Nat) (r : Int × Int) (p odd : Int) (v : Bool) (T D : List UInt8) (h : chkC neg x E M M1 m i s H L mn mx d z dp k r p odd v T D = true) : Ftoa TabsW x T := by
  unfold chkC at h
  simp only [Bool.and_eq_true, decide_eq_true_eq] at h
  obtain ⟨e1, a1, a3, a4, a5, a6, a7, a8, a9, a10, a11, a12, a13, a14, a15, a16, a17, a18, a19, a20, a21, k1, k2, k3, k4, a25, a26, a27, a28, a29, a30, a31, a32, x1, x2, x3, x4, hr, hw, hp, hodd, t1, t2, hz⟩ := h
  obtain ⟨d1, d2⟩ := digs_eq k1 k2 k3
  have hlen : D.length = k := by rw [← k4]; simp [digs]
  refine ftoa_core neg x E M M1 m i s H L mn mx d z dp k r p odd v T D a1 a3 a4 a6 a7 a8 a9 a10 a11 a12 a13 a14 a15 a16 a17 a18 a19 a20 a21 d1 (d2.trans k4) a25 a26 a27 a28 a29 a30 a31 a32 x1 x2 x3 x4 hr hw hp hodd (fun w hw => ?_) hlen ?_ ?_ ?_ hz
  · rw [t1, t2]; exact hw.t22 i a9
  · exact ne_nat M1 0 (Nat.pos_iff_ne_zero.mp a5)
  · exact ne_nat E 2047 (Nat.ne_of_lt a1)
  · exact ne_nat E 0 (Nat.pos_iff_ne_zero.mp e1)
theorem ftoa_whole (neg : Bool) (n : Nat) (h0 : n ≠ 0) (hn : n ≤ 1000) : Ftoa TabsW (wBits neg n) (wText neg n) :=
  ftoa_of_chk _ _ _ _ _ _ _ _ _ _ _ _ _ _ _ _ _ _ _ _ _ _ (chk_at neg n h0 hn)
theorem ftoa_zero0 : Ftoa TabsW (wBits false 0) (wText false 0) := fun B0 dst w _ hown hB0 => ftoa_zero B0 dst w hown hB0
/-- The float of a whole number up to 1000, and no zero with a sign. -/
def Wh (neg : Bool) (n : Nat) : Prop := n ≤ 1000 ∧ (n = 0 → neg = false)
theorem ftoa_wh {neg : Bool} {n : Nat} (h : Wh neg n) : Ftoa TabsW (wBits neg n) (wText neg n) := by
  by_cases h0 : n = 0
  · subst h0
    rw [h.2 rfl]
    exact ftoa_zero0
  · exact ftoa_whole neg n h0 h.1
theorem wText_len (neg : Bool) (n : Nat) : wText neg n ≠ [] ∧ (wText neg n).length ≤ 1000 := by
  have h1 : (digs (kDig n) n).length = kDig n := by simp [digs]
  have h2 : 1 ≤ kDig n ∧ kDig n ≤ 4 := by
    unfold kDig
    split
    · omega
    · split
      · omega
      · split <;> omega
  constructor
  · intro h
    have := congrArg List.length h
    rw [wText, List.length_append, h1] at this
    simp at this
    omega
  · rw [wText, List.length_append, h1]
    cases neg <;> simp <;> omega
/-- Whole numbers are written as their texts. -/
theorem num_writes (G : Errs) (hG : ∀ w, Env G w → TabsW w) {neg : Bool} {n : Nat} (h : Wh neg n) : NumWrites G (wBits neg n) (wText neg n) :=
  ⟨(wText_len neg n).2, fun w hE => number_calls TabsW _ _ (wText_len neg n).1 (ftoa_wh h) w fun _ hb => (hG w hE).bel hb⟩
end Go.Proofs.YtghajgdiaopioaaGreatDoor
