/- Walks: WholeShape (10). -/
import Derived.Deep.RegionHeld3
import Derived.Test.YtghajgdiaopioaaGreatDoorW38
set_option linter.unusedVariables false
set_option linter.unusedSimpArgs false

namespace Go.Proofs.YtghajgdiaopioaaGreatDoor
open Go.RowKit
attribute [local go_sem] run_store_float run_store_iface run_store_nilIface

set_option maxRecDepth 10000 in
set_option maxHeartbeats 1000000 in
theorem whole_calls (V Q : Nat → Prop) (hF : Tells 23 V Q) (dd : Nat) (v : Value) (s : Shp) (w : World) (hV : isShp s = true → LenS 4 s ∧ AllS V 4 s) (h : ShpAt dd w v s) :
    Calls Tryz.prog 10 #[v] w fun e w' => ∃ b, e = .returned (.bool b) ∧ Bel w w' ∧ (b = true → isShp s = true ∧ AllS Q 4 s) := by
  have HI := Lib.hid (fun wx (hb : Bel w wx) => isShape_calls dd v s wx (ShpAt.bel hb _ _ _ h))
  have HA := Lib.hid (fun wx (hb : Bel w wx) (hi : isShp s = true) => all_calls23 V Q hF 4 dd v s wx (by unfold isShp at hi; simp only [Bool.and_eq_true] at hi; exact hi.1) (hV hi).1 (hV hi).2 (ShpAt.bel hb _ _ _ h))
  obtain ⟨d', k, ls, ps, L, P, rfl, rfl, rfl, hL, hP⟩ := shpAt_slices h
  obtain ⟨ao, cap, rfl⟩ := hL.slice
  obtain ⟨bo, cap2, rfl⟩ := partsAt_slice hP
  clear hL hP h hV
  generalize Shp.mk k ls ps = s at *
  generalize ls.length = n1 at *
  generalize ps.length = n2 at *
  go_enter Tryz.func10, Tryz.ntmps10
  go_wp2_with fail
  have hbox : (w.alloc (.cells #[.int .i64 k, .slice ao n1 cap, .slice bo n2 cap2] 25)).heap[w.heap.size]? = some (.cells #[.int .i64 k, .slice ao n1 cap, .slice bo n2 cap2] 25) := heap_alloc_new _ _
  have hb0 : Bel w (w.alloc (.cells #[.int .i64 k, .slice ao n1 cap, .slice bo n2 cap2] 25)) := Bel.al _ _
  generalize w.alloc (.cells #[.int .i64 k, .slice ao n1 cap, .slice bo n2 cap2] 25) = w1 at *
  refine (HI.out w1 hb0).mono ?_
  rintro e w2 ⟨rfl, hb2⟩
  have hbx := hb2.heap hbox
  have e0 : w2.cell? ⟨w.heap.size, 0, none⟩ = some (.int .i64 k) := by simp [World.cell?, hbx]
  have e1 : w2.cell? ⟨w.heap.size, 1, none⟩ = some (.slice ao n1 cap) := by simp [World.cell?, hbx]
  have e2 : w2.cell? ⟨w.heap.size, 2, none⟩ = some (.slice bo n2 cap2) := by simp [World.cell?, hbx]
  have HB := Lib.hid (hb0.tr hb2)
  clear hb0 hb2 hbox hbx
  cases hi : isShp s with
  | false =>
    clear hi
    go_wp2
    go_ret
    exact ⟨false, rfl, HB.out, fun h => absurd h (by decide)⟩
  | true =>
    have HII := Lib.hid hi
    clear hi
    go_wp2_with fail
    refine (HA.out w2 HB.out HII.out).mono ?_
    rintro e w3 ⟨b, rfl, hb3, hq⟩
    have HB3 := Lib.hid (HB.out.tr hb3)
    have HQ := Lib.hid hq
    clear hb3 hq
    go_wp2
    go_ret
    exact ⟨_, rfl, HB3.out, fun h => ⟨HII.out, HQ.out (by simpa using h)⟩⟩
end Go.Proofs.YtghajgdiaopioaaGreatDoor

/- Walks: pair (49) of whole numbers. -/
namespace Go.Proofs.YtghajgdiaopioaaGreatDoor
open Go.RowKit
attribute [local go_sem] run_store_float run_store_iface run_store_nilIface

/-- The number that a float of a whole number stands for. -/
def wInt (neg : Bool) (n : Nat) : Int := if neg then -(n : Int) else n
def chkI (n : Nat) : Bool := [false, true].all fun neg => decide (floatToIntVal .f64 (wBits neg n) .i64 = some (wInt neg n))
theorem chkI_all : ((List.range 1001).all chkI) = true := by decide +kernel
theorem toInt_wh {neg : Bool} {n : Nat} (h : n ≤ 1000) (w : World) : (convert 47 3 (.float .f64 (wBits neg n))).run Tryz.prog w = .ok (.int .i64 (wInt neg n)) w := by
  have := List.all_eq_true.1 chkI_all n (List.mem_range.2 (by omega))
  unfold chkI at this
  simp only [List.all_cons, List.all_nil, Bool.and_true, Bool.and_eq_true, decide_eq_true_eq] at this
  refine run_convert_float_int w 47 3 .f64 .i64 (wBits neg n) (wInt neg n) (by kernel_rfl) Tryz.underlying3 ?_
  cases neg
  · exact this.1
  · exact this.2
theorem nDigits_kDig (n : Nat) (h : n ≤ 1000) : Lib.nDigits n = kDig n := by
  unfold kDig
  split
  · exact Lib.nDigits_small (by assumption)
  · split
    · exact Lib.nDigits_unique 1 n (by omega) (by omega)
    · split
      · exact Lib.nDigits_unique 2 n (by omega) (by omega)
      · exact Lib.nDigits_unique 3 n (by omega) (by omega)
theorem dec_digs (n : Nat) (h : n ≤ 1000) : Lib.decDigits n = digs (kDig n) n := by rw [Lib.decDigits_eq, nDigits_kDig n h]; rfl
theorem itoa_wText {neg : Bool} {n : Nat} (h : Wh neg n) : Lib.itoa (wInt neg n) = wText neg n := by
  unfold wInt wText
  cases neg
  · simp only [Bool.false_eq_true, if_false]
    rw [Lib.itoa_nonneg, dec_digs n h.1]
    rfl
  · have h0 : n ≠ 0 := fun h0 => by have := h.2 h0; cases this
    simp only [if_true]
    rw [Lib.itoa_neg n (by omega), dec_digs n h.1]
    rfl
theorem bel_grow (w : World) (k : Nat) (os : Array Obj) : Bel w (Go.Sort.grow (w.drewN k) os) := by
  refine ⟨rfl, rfl, rfl, ?_, fun j hj => ?_⟩
  · rw [Go.Sort.size_grow]; show w.heap.size ≤ w.heap.size + _; omega
  · show ((w.drewN k).heap ++ os)[j]? = _
    exact Array.getElem?_append_left (xs := w.heap) (ys := os) hj
theorem itoa_calls {neg : Bool} {n : Nat} (h : Wh neg n) (w : World) (htab : Lib.TabIs Tryz.prog w "internal/strconv.uint64pow10" .u64 Lib.pow10Tab) :
    Calls Tryz.prog 73 #[.int .i64 (wInt neg n)] w fun e w' => e = .returned (.string (ofL (wText neg n))) ∧ Bel w w' := by
  have hb : -1000 ≤ wInt neg n ∧ wInt neg n ≤ 1000 := by unfold wInt; have := h.1; cases neg <;> simp <;> omega
  refine (Tryz.strconv_Itoa (wInt neg n) (by omega) (by omega) w htab).mono ?_
  rintro e w' ⟨rfl, k, os, rfl⟩
  rw [itoa_wText h]
  exact ⟨rfl, bel_grow w k os⟩
theorem str32 (a b : List UInt8) : ofL a ++ (⟨#[32]⟩ : ByteArray) ++ ofL b = ofL (a ++ 32 :: b) := by
  apply ByteArray.ext
  simp [ofL, ByteArray.data_append]
set_option maxRecDepth 10000 in
set_option maxHeartbeats 1000000 in
theorem pair_calls {n1 n2 : Bool} {a1 a2 : Nat} (h1 : Wh n1 a1) (h2 : Wh n2 a2) (w : World) (htab : Lib.TabIs Tryz.prog w "internal/strconv.uint64pow10" .u64 Lib.pow10Tab) :
    Calls Tryz.prog 49 #[.agg #[.float .f64 (wBits n1 a1), .float .f64 (wBits n2 a2)]] w fun e w' => e = .returned (.string (ofL (wText n1 a1 ++ 32 :: wText n2 a2))) ∧ Bel w w' := by
  have hc1 := fun w => toInt_wh (neg := n1) h1.1 w
  have hc2 := fun w => toInt_wh (neg := n2) h2.1 w
  have HI1 := Lib.hid (fun wx (hb : Bel w wx) => itoa_calls h1 wx (tab_bel htab hb))
  have HI2 := Lib.hid (fun wx (hb : Bel w wx) => itoa_calls h2 wx (tab_bel htab hb))
  have l1 := (wText_len n1 a1).2
  have l2 := (wText_len n2 a2).2
  have hS := str32 (wText n1 a1) (wText n2 a2)
  have z1 : (ofL (wText n1 a1)).size ≤ 1000 := by rw [ofL_size]; exact l1
  have z2 : (ofL (wText n2 a2)).size ≤ 1000 := by rw [ofL_size]; exact l2
  rw [← hS]
  generalize wInt n1 a1 = i1 at *
  generalize wInt n2 a2 = i2 at *
  generalize ofL (wText n1 a1) = t1 at *
  generalize ofL (wText n2 a2) = t2 at *
  generalize wBits n1 a1 = x1 at *
  generalize wBits n2 a2 = x2 at *
  clear htab hS l1 l2 h1 h2
  obtain ⟨w1, hw1⟩ : ∃ w1, w.alloc (.cells #[.float .f64 x1, .float .f64 x2] 49) = w1 := ⟨_, rfl⟩
  have hb1 : Bel w w1 := by rw [← hw1]; exact Bel.al _ _
  have hbx : w1.heap[w.heap.size]? = some (.cells #[.float .f64 x1, .float .f64 x2] 49 (0, 0)) := by rw [← hw1]; exact heap_alloc_new _ _
  have HW1 := Lib.hid hw1
  have HB1 := Lib.hid hb1
  have HBX := Lib.hid hbx
  have hbb0 : Bel w1 w1 := Below.refl _ _
  clear hw1 hb1 hbx
  go_enter Tryz.func49, Tryz.ntmps49
  go_wp2_with fail
  rw [HW1.out]
  have c1 : w1.cell? ⟨w.heap.size, 0, none⟩ = some (.float .f64 x1) := by simp [World.cell?, HBX.out]
  have c2 : w1.cell? ⟨w.heap.size, 1, none⟩ = some (.float .f64 x2) := by simp [World.cell?, HBX.out]
  have s2 : ¬ (9223372036854775807 < t1.size + 1) := by omega
  have s3 : ¬ (9223372036854775807 < t1.size + 1 + t2.size) := by omega
  go_region_held3 (fun w' => w'.cell? ⟨w.heap.size, 0, none⟩ = some (.float .f64 x1) ∧ w'.cell? ⟨w.heap.size, 1, none⟩ = some (.float .f64 x2)) (first | exact keep2 hc (by assumption) | go_keep)
    (first | (go_at_call 73; refine (HI1.out _ (HB1.out.tr (by first | exact hbb | exact Bel.dr1 _))).mono ?_; rintro e w3 ⟨rfl, hc⟩; have hbb : Bel w1 w3 := (by first | exact hbb.tr hc | exact (Bel.dr1 _).tr hc)) | (go_at_call 73; refine (HI2.out _ (HB1.out.tr (by first | exact hbb | exact Bel.dr1 _))).mono ?_; rintro e w3 ⟨rfl, hc⟩; have hbb : Bel w1 w3 := (by first | exact hbb.tr hc | exact (Bel.dr1 _).tr hc)))
  all_goals
    have HBB := Lib.hid (HB1.out.tr hbb)
    clear hbb hc
    (try simp only [Exit.then])
    go_wp2
    go_ret
    exact ⟨rfl, HBB.out⟩
end Go.Proofs.YtghajgdiaopioaaGreatDoor
