/- Walks: all (22), with IsFinite. -/
import Derived.Test.YtghajgdiaopioaaGreatDoorW28
import Derived.Test.YtghajgdiaopioaaGreatDoorV01
import Derived.Test.YtghajgdiaopioaaGreatDoorV02
import Derived.Test.YtghajgdiaopioaaGreatDoorV06
import Derived.Test.YtghajgdiaopioaaGreatDoorV07
import Derived.Test.YtghajgdiaopioaaGreatDoorV09
import Derived.Test.YtghajgdiaopioaaGreatDoorV10
import Derived.Test.YtghajgdiaopioaaGreatDoorV11
import Derived.Test.YtghajgdiaopioaaGreatDoorV12
import Derived.Test.YtghajgdiaopioaaGreatDoorV13
import Derived.Test.YtghajgdiaopioaaGreatDoorV14
import Derived.Test.YtghajgdiaopioaaGreatDoorV15
import Derived.Test.YtghajgdiaopioaaGreatDoorV16
set_option linter.unusedVariables false
set_option linter.unusedSimpArgs false

namespace Go.Proofs.YtghajgdiaopioaaGreatDoor
open Go.RowKit
attribute [local go_sem] run_store_float run_store_iface run_store_nilIface

set_option maxRecDepth 10000 in
set_option maxHeartbeats 4000000 in
theorem all_step43 (V Q : Nat → Prop) (d dd : Nat) (k : Int) (ls : List (List Pt)) (ps : List Shp) (L P : Value) (w : World) (hL : RowAt PtsAt w L ls) (hP : PartsAt (ShpAt dd) w P ps) (h3 : ls.length ≤ 40) (h4 : ps.length ≤ 40) (h5 : ∀ l ∈ ls, l.length ≤ 1000000000)
    (hF : Tells 43 V Q) (hV : ∀ l ∈ ls, ∀ p ∈ l, V p.1 ∧ V p.2)
    (ih : ∀ p ∈ ps, ∀ (v : Value) (wx : World), ShpAt dd wx v p → Calls Tryz.prog 22 #[v, .func (.func 43) #[] #[]] wx fun e w' => ∃ b, e = .returned (.bool b) ∧ Bel wx w' ∧ (b = true → AllS Q d p)) :
    Calls Tryz.prog 22 #[.agg #[.int .i64 k, L, P], .func (.func 43) #[] #[]] w fun e w' => ∃ b, e = .returned (.bool b) ∧ Bel w w' ∧ (b = true → AllS Q (d + 1) (.mk k ls ps)) := by
  obtain ⟨ao, cap, rfl, -, hlc⟩ := hL
  obtain ⟨bo, cap2, rfl, -, hpc⟩ := hP
  have HLC := Lib.hid hlc
  have HPC := Lib.hid hpc
  have HIH := Lib.hid ih
  have HF := Lib.hid hF
  have HV := Lib.hid hV
  have H5 := Lib.hid h5
  clear hlc hpc ih hF hV h5
  go_enter Tryz.func22, Tryz.ntmps22
  go_wp2_with fail
  have hbox : (w.alloc (.cells #[.int .i64 k, .slice ao ls.length cap, .slice bo ps.length cap2] 25)).heap[w.heap.size]? = some (.cells #[.int .i64 k, .slice ao ls.length cap, .slice bo ps.length cap2] 25) := heap_alloc_new _ _
  have hb0 : Bel w (w.alloc (.cells #[.int .i64 k, .slice ao ls.length cap, .slice bo ps.length cap2] 25)) := Bel.al _ _
  have HBOX := Lib.hid hbox
  have HB0 := Lib.hid hb0
  clear hbox hb0
  generalize w.alloc (.cells #[.int .i64 k, .slice ao ls.length cap, .slice bo ps.length cap2] 25) = w1 at *
  go_loopg [14] ls.length (fun g s14 wr => ∃ (i : Nat), i ≤ ls.length ∧ g = ls.length - i ∧ s14 = .int .i64 i ∧ Hid ((∀ l ∈ ls.take i, ∀ p ∈ l, Q p.1 ∧ Q p.2) ∧ Bel w1 wr))
  case atStart => exact ⟨0, by omega, rfl, rfl, ⟨by simp, Below.refl _ _⟩⟩
  case round =>
    obtain ⟨i, hi1, rfl, rfl, hz⟩ := hrel
    by_cases hlt : i < ls.length
    · obtain ⟨l, hl⟩ : ∃ l, ls[i]? = some l := ⟨_, List.getElem?_eq_getElem hlt⟩
      obtain ⟨a, x, rfl, c0, hx⟩ := HLC.out i l hl
      have c0' := (HB0.out.tr hz.out.2).cellOf c0
      obtain ⟨ao1, cap1, rfl, -, hc⟩ := hx
      have hll := H5.out l (List.mem_of_getElem? hl)
      have HLL := Lib.hid hl
      have HC := Lib.hid hc
      clear c0 hl hc
      go_wp2_with fail
      go_loopg [20] l.length (fun g s20 wr2 => ∃ (j : Nat), j ≤ l.length ∧ g = l.length - j ∧ s20 = .int .i64 j ∧ Hid ((∀ p ∈ l.take j, Q p.1 ∧ Q p.2) ∧ Bel wr wr2))
      case atStart => exact ⟨0, by omega, rfl, rfl, ⟨by simp, Below.refl _ _⟩⟩
      case round =>
        obtain ⟨j, hj1, rfl, rfl, hz2⟩ := hrel
        by_cases hlt2 : j < l.length
        · obtain ⟨p, hp⟩ : ∃ p, l[j]? = some p := ⟨_, List.getElem?_eq_getElem hlt2⟩
          obtain ⟨a2, rfl, p0, p1⟩ := HC.out j p hp
          have hbw := HB0.out.tr (hz.out.2.tr hz2.out.2)
          have p0' := hbw.cellOf p0
          have p1' := hbw.cellOf p1
          clear p0 p1
          have hvp := HV.out l (List.mem_of_getElem? HLL.out) p (List.mem_of_getElem? hp)
          have HX := Lib.hid (HF.out p.1 hvp.1)
          have HY := Lib.hid (HF.out p.2 hvp.2)
          have HPP := Lib.hid hp
          clear hp hvp
          go_wp2_with fail
          obtain ⟨w2, hw2⟩ : ∃ w2, wr.alloc (.cells #[.float .f64 p.1, .float .f64 p.2] 49) = w2 := ⟨_, rfl⟩
          have hb2 : Bel wr w2 := by rw [← hw2]; exact Bel.al _ _
          have hbx : w2.heap[wr.heap.size]? = some (.cells #[.float .f64 p.1, .float .f64 p.2] 49 (0, 0)) := by rw [← hw2]; exact heap_alloc_new _ _
          rw [hw2]
          have HB2 := Lib.hid hb2
          have HBX := Lib.hid hbx
          clear hb2 hbx hw2
          refine (HX.out _).mono ?_
          rintro e w3 ⟨b1, rfl, hb3, hq1⟩
          have HB3 := Lib.hid (HB2.out.tr hb3)
          have hbx3 := hb3.heap HBX.out
          have r1 : w3.cell? ⟨wr.heap.size, 1, none⟩ = some (.float .f64 p.2) := by simp [World.cell?, hbx3]
          clear hb3 hbx3
          cases b1
          · clear hq1
            go_wp2
            go_ret
            exact ⟨false, rfl, HB0.out.tr (hz.out.2.tr (hz2.out.2.tr HB3.out)), fun h => absurd h (by decide)⟩
          · have HQ1 := Lib.hid (hq1 rfl)
            clear hq1
            go_wp2_with fail
            refine (HY.out _).mono ?_
            rintro e w4 ⟨b2, rfl, hb4, hq2⟩
            have HB4 := Lib.hid (HB3.out.tr hb4)
            clear hb4
            cases b2
            · clear hq2
              go_wp2
              go_ret
              exact ⟨false, rfl, HB0.out.tr (hz.out.2.tr (hz2.out.2.tr HB4.out)), fun h => absurd h (by decide)⟩
            · have HQ2 := Lib.hid (hq2 rfl)
              clear hq2
              go_wp2
              go_roundg (l.length - (j + 1))
              case measure => omega
              case rel =>
                refine ⟨j + 1, by omega, rfl, by go_num, ?_, hz2.out.2.tr HB4.out⟩
                intro p' hp'
                rw [List.take_add_one, HPP.out] at hp'
                rcases List.mem_append.1 hp' with h | h
                · exact hz2.out.1 p' h
                · have : p' = p := by simpa using h
                  rw [this]; exact ⟨HQ1.out, HQ2.out⟩
        · obtain rfl : j = l.length := by omega
          have hkz : ¬ ((l.length : Int) < (l.length : Int)) := by omega
          have hz3 := hz2.out.1
          rw [List.take_length] at hz3
          have HZ3 := Lib.hid hz3
          clear hz3
          go_wp2
          go_roundg (ls.length - (i + 1))
          case measure => omega
          case rel =>
            refine ⟨i + 1, by omega, rfl, by go_num, ?_, hz.out.2.tr hz2.out.2⟩
            intro l' hl'
            rw [List.take_add_one, HLL.out] at hl'
            rcases List.mem_append.1 hl' with h | h
            · exact hz.out.1 l' h
            · have : l' = l := by simpa using h
              rw [this]; exact HZ3.out
    · obtain rfl : i = ls.length := by omega
      have hkz : ¬ ((ls.length : Int) < (ls.length : Int)) := by omega
      have hz0 := hz.out.1
      have hzb := hz.out.2
      rw [List.take_length] at hz0
      have HZ0 := Lib.hid hz0
      have HZB := Lib.hid hzb
      clear hz hz0
      have q2 : wr.cell? ⟨w.heap.size, 2, none⟩ = some (.slice bo ps.length cap2) := by simp [World.cell?, hzb.heap HBOX.out]
      clear hzb
      go_wp2_with fail
      clear q2
      go_loopg [41] ps.length (fun g s41 wr2 => ∃ (i : Nat), i ≤ ps.length ∧ g = ps.length - i ∧ s41 = .int .i64 i ∧ Hid ((∀ s ∈ ps.take i, AllS Q d s) ∧ Bel w1 wr2))
      case atStart => exact ⟨0, by omega, rfl, rfl, by simp, HZB.out⟩
      case round =>
        obtain ⟨i, hi2, rfl, rfl, hz⟩ := hrel
        by_cases hlt2 : i < ps.length
        · obtain ⟨s, hs⟩ : ∃ s, ps[i]? = some s := ⟨_, List.getElem?_eq_getElem hlt2⟩
          obtain ⟨a, c0, c1, c2, rfl, q0, q1, q2, hx⟩ := HPC.out i s hs
          have hbel := HB0.out.tr hz.out.2
          have q0' := hbel.cellOf q0
          have q1' := hbel.cellOf q1
          have q2' := hbel.cellOf q2
          have HX := Lib.hid (fun wx (hb : Bel w wx) => HIH.out s (List.mem_of_getElem? hs) (.agg #[c0, c1, c2]) wx (ShpAt.bel hb dd _ _ hx))
          obtain ⟨k2, a1, n1, k1, a2, n2, k3, rfl, rfl, rfl⟩ : ∃ k2 a1 n1 k1 a2 n2 k3, c0 = .int .i64 k2 ∧ c1 = .slice a1 n1 k1 ∧ c2 = .slice a2 n2 k3 := by
            cases dd with
            | zero => exact hx.elim
            | succ dd =>
              obtain ⟨kk, lls, pps⟩ := s
              obtain ⟨L', P', he, ⟨a1, k1, h1, _⟩, a2, k2, h2, _⟩ := hx
              cases he
              exact ⟨kk, _, _, _, _, _, _, rfl, h1, h2⟩
          have HSS := Lib.hid hs
          have HBEL := Lib.hid hbel
          clear q0 q1 q2 hx hs hbel
          go_wp2_with fail
          obtain ⟨w0, hw0⟩ : ∃ u, u = wr := ⟨_, rfl⟩
          subst hw0
          have hb2 : Bel w0 (w0.alloc (.cells #[.int .i64 k2, .slice a1 n1 k1, .slice a2 n2 k3] 25)) := Bel.al _ _
          have HB2 := Lib.hid hb2
          clear hb2
          generalize w0.alloc (.cells #[.int .i64 k2, .slice a1 n1 k1, .slice a2 n2 k3] 25) = w2 at *
          refine (HX.out w2 (HBEL.out.tr HB2.out)).mono ?_
          rintro e w3 ⟨b, rfl, hb3, hq⟩
          have HB3 := Lib.hid (HB2.out.tr hb3)
          clear hb3
          cases b with
          | false =>
            clear hq
            go_wp2
            go_ret
            exact ⟨false, rfl, HB0.out.tr (hz.out.2.tr HB3.out), fun h => absurd h (by decide)⟩
          | true =>
            have HQ := Lib.hid (hq rfl)
            clear hq
            go_wp2
            go_roundg (ps.length - (i + 1))
            case measure => omega
            case rel =>
              refine ⟨i + 1, by omega, rfl, by go_num, ?_, hz.out.2.tr HB3.out⟩
              intro s' hs'
              rw [List.take_add_one, HSS.out] at hs'
              rcases List.mem_append.1 hs' with h | h
              · exact hz.out.1 s' h
              · have : s' = s := by simpa using h
                rw [this]; exact HQ.out
        · obtain rfl : i = ps.length := by omega
          have hkz2 : ¬ ((ps.length : Int) < (ps.length : Int)) := by omega
          obtain ⟨hz1, hz2⟩ := hz.out
          rw [List.take_length] at hz1
          have HFIN := Lib.hid (show Bel w wr ∧ AllS Q (d + 1) (.mk k ls ps) from ⟨HB0.out.tr hz2, HZ0.out, hz1⟩)
          clear hz hz1 hz2
          go_wp2
          go_ret
          first | exact ⟨true, rfl, HFIN.out.1, fun _ => HFIN.out.2⟩ | exact .inr ⟨rfl, HFIN.out.1, HFIN.out.2⟩
theorem all_calls43 (V Q : Nat → Prop) (hF : Tells 43 V Q) : ∀ (d dd : Nat) (v : Value) (s : Shp) (w : World), okS d s = true → LenS d s → AllS V d s → ShpAt dd w v s → Calls Tryz.prog 22 #[v, .func (.func 43) #[] #[]] w fun e w' => ∃ b, e = .returned (.bool b) ∧ Bel w w' ∧ (b = true → AllS Q d s) := by
  intro d
  induction d with
  | zero => intro dd v s w h; simp [okS] at h
  | succ d ih =>
    intro dd v s w hok hl hv h
    obtain ⟨d', k, ls, ps, L, P, rfl, rfl, rfl, hL, hP⟩ := shpAt_slices h
    obtain ⟨_, _, h3, h4, h5, _⟩ := okS_parts hok
    exact all_step43 V Q d d' k ls ps L P w hL hP h3 h4 (fun l hm => Nat.le_trans (hl.2.2.1 l hm) (by decide)) hF hv.1 fun p hp v wx hx => ih d' v p wx (h5 p hp).1 (hl.2.2.2 p hp) (hv.2 p hp) hx
end Go.Proofs.YtghajgdiaopioaaGreatDoor

/- Walks: FiniteShape (19). -/
namespace Go.Proofs.YtghajgdiaopioaaGreatDoor
open Go.RowKit
attribute [local go_sem] run_store_float run_store_iface run_store_nilIface

set_option maxRecDepth 10000 in
set_option maxHeartbeats 1000000 in
theorem finite_calls (V Q : Nat → Prop) (hF : Tells 43 V Q) (dd : Nat) (v : Value) (s : Shp) (w : World) (hV : isShp s = true → LenS 4 s ∧ AllS V 4 s) (h : ShpAt dd w v s) :
    Calls Tryz.prog 19 #[v] w fun e w' => ∃ b, e = .returned (.bool b) ∧ Bel w w' ∧ (b = true → isShp s = true ∧ AllS Q 4 s) := by
  have HI := Lib.hid (fun wx (hb : Bel w wx) => isShape_calls dd v s wx (ShpAt.bel hb _ _ _ h))
  have HA := Lib.hid (fun wx (hb : Bel w wx) (hi : isShp s = true) => all_calls43 V Q hF 4 dd v s wx (by unfold isShp at hi; simp only [Bool.and_eq_true] at hi; exact hi.1) (hV hi).1 (hV hi).2 (ShpAt.bel hb _ _ _ h))
  obtain ⟨d', k, ls, ps, L, P, rfl, rfl, rfl, hL, hP⟩ := shpAt_slices h
  obtain ⟨ao, cap, rfl⟩ := hL.slice
  obtain ⟨bo, cap2, rfl⟩ := partsAt_slice hP
  clear hL hP h hV
  generalize Shp.mk k ls ps = s at *
  generalize ls.length = n1 at *
  generalize ps.length = n2 at *
  go_enter Tryz.func19, Tryz.ntmps19
  go_wp2_with fail
  have hbox : (w.alloc (.cells #[.int .i64 k, .slice ao n1 cap, .slice bo n2 cap2] 25)).heap[w.heap.size]? = some (.cells #[.int .i64 k, .slice ao n1 cap, .slice bo n2 cap2] 25) := heap_alloc_new _ _
  have hb0 : Bel w (w.alloc (.cells #[.int .i64 k, .slice ao n1 cap, .slice bo n2 cap2] 25)) := Bel.al _ _
  generalize w.alloc (.cells #[.int .i64 k, .slice ao n1 cap, .slice bo n2 cap2] 25) = w1 at *
  refine (HI.out w1 hb0).mono ?_
  rintro e w2 ⟨rfl, hb2⟩
  have hbx := hb2.heap hbox
  have e0 : w2.cell? ⟨w.heap.size, 0, none⟩ = some (.int .i64 k) := by simp [World.cell?, hbx]
  have e1 : w2.cell? ⟨w.heap.size, 1, none⟩ = some (.slice ao n1 cap) := by simp [World.cell?, hbx]
  have e2 : w2.cell? ⟨w.heap.size, 2, none⟩ = some (.slice bo n2 cap2) := by simp [World.cell?, hbx]
  have HB := Lib.hid (hb0.tr hb2)
  clear hb0 hb2 hbox hbx
  cases hi : isShp s with
  | false =>
    clear hi
    go_wp2
    go_ret
    exact ⟨false, rfl, HB.out, fun h => absurd h (by decide)⟩
  | true =>
    have HII := Lib.hid hi
    clear hi
    go_wp2_with fail
    refine (HA.out w2 HB.out HII.out).mono ?_
    rintro e w3 ⟨b, rfl, hb3, hq⟩
    have HB3 := Lib.hid (HB.out.tr hb3)
    have HQ := Lib.hid hq
    clear hb3 hq
    go_wp2
    go_ret
    exact ⟨_, rfl, HB3.out, fun h => ⟨HII.out, HQ.out (by simpa using h)⟩⟩
end Go.Proofs.YtghajgdiaopioaaGreatDoor

/- Every finite float but zero is written by its shortest digits (158, 136). -/
namespace Go.Proofs.YtghajgdiaopioaaGreatDoor
open Go.RowKit
set_option exponentiation.threshold 3000

theorem and_i64 (a n : Nat) (ha : a < 4611686018427387904) (hn : n ≤ 62) : bits BinOp.and IntKind.i64 (a : Int) ((2 ^ n - 1 : Nat) : Int) = ((a % 2 ^ n : Nat) : Int) := by
  have hp : 2 ^ n ≤ 2 ^ 62 := Nat.pow_le_pow_right (by decide) hn
  have h0 : 0 < 2 ^ n := Nat.two_pow_pos n
  have h62 : (2 : Nat) ^ 62 = 4611686018427387904 := by decide
  rw [(bits_nat IntKind.i64 62 (by decide) (fun n h1 h2 => by rw [IntKind.wrap_i64]; omega) a (2 ^ n - 1) (by omega) (by omega)).1, Nat.and_two_pow_sub_one_eq_mod]
theorem bitLen_is (M k : Nat) (h1 : 2 ^ k ≤ M) (h2 : M < 2 ^ (k + 1)) (h3 : M < 18446744073709551616) : Lib.bitLen M = k + 1 := by
  have h0 : 1 ≤ M := Nat.le_trans (Nat.one_le_two_pow) h1
  obtain ⟨b1, b2, b3⟩ := bitLen_bounds M h0 h3
  generalize Lib.bitLen M = b at *
  have c1 : k < b := (Nat.pow_lt_pow_iff_right (a := 2) (by decide)).1 (Nat.lt_of_le_of_lt h1 b2)
  have c2 : b < k + 2 := by
    refine (Nat.pow_lt_pow_iff_right (a := 2) (by decide)).1 ?_
    rw [Nat.pow_succ]
    omega
  omega
/-- What ftoa asks of the last step. -/
def Efg (neg : Bool) (d : Nat) (p : Int) (T : List UInt8) : Prop := ∀ (B0 b : Nat) (dst : Value) (C : Array Value) (wx : World), Bytes0 C (Lib.decDigits d) → OutB B0 b C 205 wx dst [] wx → Calls Tryz.prog 151 #[dst, .bool neg, .slice (some ⟨b, 0, none⟩) 32 32, .int .i64 (Lib.nDigits d + p), .int .i64 (zs (Lib.decDigits d) (Lib.nDigits d)), .int .i64 (zs (Lib.decDigits d) (Lib.nDigits d)), .int .u8 103, .bool true] wx fun e' w' => ∃ v, e' = .returned v ∧ OutB B0 b C 205 wx v T w'
theorem lpz {p : Int} (h1 : -400 ≤ p) (h2 : p ≤ 400) : zLog2P10 p = lpI p := by unfold zLog2P10 lpI wrap64; omega
theorem row_at {i : Nat} {p : Int} (hi : p + 348 = i) (h : i < 696) : RowOk (tabHi i) (tabLo i) (anP p) (adP p) := by
  have := row_ok i h
  rw [show (-348 : Int) + i = p by omega] at this
  exact this
theorem sign_is (x : Nat) (neg : Bool) (hf : x < 9218868437227405312) : (((wrd neg x : Nat) : Int) / 9223372036854775808 != 0) = neg := by
  have hn : ((wrd neg x : Nat) : Int) / 9223372036854775808 != 0 ↔ neg = true := by
    unfold wrd
    cases neg
    · simp; omega
    · simp; omega
  cases neg
  · cases h : (((wrd false x : Nat) : Int) / 9223372036854775808 != 0)
    · rfl
    · exact absurd (hn.1 h) (by decide)
  · exact hn.2 rfl
theorem expo_is (x E M : Nat) (neg : Bool) (hxx : x = E * 4503599627370496 + M) (hMl : M < 4503599627370496) (hE2 : E ≤ 2046) :
    bits BinOp.and IntKind.i64 (wrap64 (((wrd neg x : Nat) : Int) / 4503599627370496)) 2047 = (E : Int) := by
  have hwE : wrap64 (((wrd neg x : Nat) : Int) / 4503599627370496) = ((wrd neg x / 4503599627370496 : Nat) : Int) := by
    have : wrd neg x < 18446744073709551616 := by unfold wrd; split <;> omega
    unfold wrap64
    omega
  have hlt : wrd neg x / 4503599627370496 < 4611686018427387904 := by unfold wrd; split <;> omega
  have := and_i64 (wrd neg x / 4503599627370496) 11 hlt (by decide)
  rw [show ((2 ^ 11 - 1 : Nat) : Int) = 2047 by decide] at this
  rw [hwE, this]
  congr 1
  unfold wrd
  split <;> omega
theorem mant_is (x E M : Nat) (neg : Bool) (hxx : x = E * 4503599627370496 + M) (hMl : M < 4503599627370496) (hE2 : E ≤ 2046) :
    bits BinOp.and IntKind.u64 ((wrd neg x : Nat) : Int) 4503599627370495 = (M : Int) := by
  have hlt : wrd neg x < 18446744073709551616 := by unfold wrd; split <;> omega
  have := bits_and_u64_nat (wrd neg x) 4503599627370495 hlt (by decide)
  rw [show ((4503599627370495 : Nat) : Int) = 4503599627370495 from rfl] at this
  rw [this, show (4503599627370495 : Nat) = 2 ^ 52 - 1 by decide, Nat.and_two_pow_sub_one_eq_mod]
  congr 1
  unfold wrd
  split <;> omega
theorem mant1_is (M : Nat) (hMl : M < 4503599627370496) : bits BinOp.or IntKind.u64 (M : Int) 4503599627370496 = ((M + 4503599627370496 : Nat) : Int) := by
  have := bits_or_u64_nat M 4503599627370496 (by omega) (by decide)
  rw [show ((4503599627370496 : Nat) : Int) = 4503599627370496 from rfl] at this
  rw [this]
  congr 1
  exact Nat.or_two_pow_eq_add_of_lt (n := 52) hMl
theorem odd_is (M1 m : Nat) (hm : M1 * 2048 = m) (h : M1 < 4611686018427387904) : bits BinOp.and IntKind.i64 ((m : Int) / 2048) 1 = ((M1 % 2 : Nat) : Int) := by
  have := and_i64 M1 1 h (by decide)
  rw [show ((2 ^ 1 - 1 : Nat) : Int) = 1 by decide, show (2 : Nat) ^ 1 = 2 by decide] at this
  rw [show ((m : Int) / 2048) = (M1 : Int) by omega]
  exact this
theorem zs_sk {k e p : Int} (hek : e = k - 11) (hp : p = pSk k) (h1 : -2000 ≤ k) (h2 : k ≤ 2000) : wrap64 (-zSkew (wrap64 (e + 11))) = p := by
  have h1 : zSkew (wrap64 (e + 11)) = (k * 631305 - 261663) / 2097152 := by rw [hek]; unfold zSkew wrap64; omega
  rw [h1, hp]
  unfold pSk wrap64
  omega
theorem zs_of {k e p : Int} (hek : e = k - 11) (hp : p = pOf k) (h1 : -2000 ≤ k) (h2 : k ≤ 2000) : wrap64 (-zLog10P2 (wrap64 (e + 11))) = p := by
  have h1 : zLog10P2 (wrap64 (e + 11)) = k * 78913 / 262144 := by rw [hek]; unfold zLog10P2 wrap64; omega
  rw [h1, hp]
  unfold pOf wrap64
  omega
theorem sh_is {k e p : Int} {s : Nat} (hek : e = k - 11) (h1 : -2000 ≤ k) (h2 : k ≤ 2000) (p1 : -293 ≤ p) (p2 : p ≤ 330) (hs : (s : Int) = 11 - k - lpI p - 3) : wrap64 (-(wrap64 (wrap64 (e + zLog2P10 p) + 3))) = (s : Int) := by
  rw [lpz (by omega) (by omega), hek]
  have : -1200 ≤ lpI p ∧ lpI p ≤ 1200 := by unfold lpI; omega
  generalize lpI p = q at *
  unfold wrap64
  omega
/-- The parts of ftoa's first branch, by one step of short. -/
theorem ftoa_nfin (x E M M1 m d : Nat) (neg : Bool) (e p : Int) (T : List UInt8) (hxx : x = E * 4503599627370496 + M) (hMl : M < 4503599627370496) (hE1 : 1 ≤ E) (hE2 : E ≤ 2046) (hf : x < 9218868437227405312)
    (hM1e : M + 4503599627370496 = M1) (hme : M1 * 2048 = m) (he : (E : Int) + -1023 - 11 - 52 = e) (h1 : 1 ≤ d) (h2 : d < 100000000000000000) (h3 : -330 ≤ p) (h4 : p ≤ 294)
    (h6 : ∀ wx, TabsW wx → Calls Tryz.prog 158 #[.int .u64 m, .int .i64 e] wx fun e' w' => e' = .returned (.tuple #[.int .u64 d, .int .i64 p]) ∧ Bel wx w') (hT : Efg neg d p T) : Ftoa TabsW (wrd neg x) T := by
  intro B0 dst w hK hown hB0
  have hM1 := mant1_is M hMl
  rw [hM1e] at hM1
  have h52 : (2 : Nat) ^ 52 = 4503599627370496 := by decide
  have h53 : (2 : Nat) ^ (52 + 1) = 9007199254740992 := by decide
  have hlen : Lib.bitLen M1 = 53 := bitLen_is _ 52 (by rw [h52]; clear h53; omega) (by rw [h53]; clear h52; omega) (by clear h52 h53; omega)
  clear h52 h53
  have hm : IntKind.u64.wrap ((M1 : Int) * 2048) = (m : Int) := by rw [IntKind.wrap_u64]; clear hM1 hlen; omega
  have b1 : M1 ≤ 18446744073709551615 := by clear hm hM1 hlen; omega
  have b2 : M1 ≠ 0 := by clear hm hM1 hlen; omega
  have b3 : E ≠ 2047 := by clear hm hM1 hlen; omega
  have b4 : E ≠ 0 := by clear hm hM1 hlen; omega
  have b5 : E < 2047 := by clear hm hM1 hlen; omega
  have b6 : d < 18446744073709551616 := by clear hm hM1 hlen; omega
  have b7 : -100000 ≤ p := by clear hm hM1 hlen; omega
  have b8 : p ≤ 100000 := by clear hm hM1 hlen; omega
  refine ftoa_norm (wrd neg x) E M M1 m d neg p T B0 dst w (sign_is x neg hf) (expo_is x E M neg hxx hMl hE2) (ne_nat E 2047 b3) (ne_nat E 0 b4) b5 (mant_is x E M neg hxx hMl hE2) hM1 (ne_nat _ 0 b2) b1 hlen hm hK.p10 h1 b6 b7 b8 hown hB0 ?_ ?_
  · intro wx hb
    rw [he]
    exact h6 wx (hK.bel hb)
  · intro wx C hBy ho
    exact hT B0 w.heap.size dst C wx hBy ho
theorem chk_lp1 {q : Nat} {k p : Int} (hk : k = (q : Int) - 1074) (hq : q ≤ 2045) (hp : p = pOf k) : 0 ≤ k + lpI p ∧ k + lpI p ≤ 3 := by
  obtain ⟨c1, _⟩ := chk_k hk hq
  unfold chkK1 chkK at c1
  rw [← hp] at c1
  simp only [Bool.and_eq_true, decide_eq_true_eq] at c1
  exact ⟨c1.1.2.2.1, c1.1.2.2.2.1⟩
theorem chk_lp2 {q : Nat} {k p : Int} (hk : k = (q : Int) - 1074) (hq : q ≤ 2045) (hp : p = pSk k) : 0 ≤ k + lpI p ∧ k + lpI p ≤ 3 := by
  obtain ⟨_, c1⟩ := chk_k hk hq
  unfold chkK2 at c1
  rw [← hp] at c1
  simp only [Bool.and_eq_true, decide_eq_true_eq] at c1
  exact ⟨c1.2.2.1, c1.2.2.2.1⟩
theorem s_ex {z : Nat} {q : Int} (h : 0 ≤ q ∧ q ≤ 3) (hz : 11 ≤ z) (hz2 : z ≤ 63) {k : Int} {l : Int} (hq : k + l = q) : ∃ s : Nat, (s : Int) = (z : Int) - k - l - 3 ∧ s < 64 :=
  ⟨((z : Int) - k - l - 3).toNat, by omega, by omega⟩
theorem p_ex {p : Int} (h : -293 ≤ p ∧ p ≤ 330) : ∃ i : Nat, p + 348 = i ∧ i < 696 := ⟨(p + 348).toNat, by omega, by omega⟩
theorem up_b {p : Int} (u : Bool) (h : -293 ≤ p ∧ p ≤ 330) : -330 ≤ (if u = true then -p + 1 else -p) ∧ (if u = true then -p + 1 else -p) ≤ 294 := by split <;> omega
theorem pSk_b {k : Int} (h1 : -1074 ≤ k) (h2 : k ≤ 971) : -293 ≤ pSk k ∧ pSk k ≤ 330 := by unfold pSk; omega
theorem pOf_b {k : Int} (h1 : -1074 ≤ k) (h2 : k ≤ 971) : -293 ≤ pOf k ∧ pOf k ≤ 330 := by unfold pOf; omega
set_option maxRecDepth 10000 in
/-- short at a power of two. -/
theorem short_pow2 {q : Nat} {k e : Int} (hk : k = (q : Int) - 1074) (hq : q ≤ 2045) (hek : e = k - 11) (he : -1085 < e) : ∃ (d : Nat) (p : Int), 1 ≤ d ∧ d < 100000000000000000 ∧ -330 ≤ p ∧ p ≤ 294 ∧ DRnd d p (q * 4503599627370496 + 4503599627370496) ∧
    ∀ wx, TabsW wx → Calls Tryz.prog 158 #[.int .u64 (9223372036854775808 : Nat), .int .i64 e] wx fun e' w' => e' = .returned (.tuple #[.int .u64 d, .int .i64 p]) ∧ Bel wx w' := by
  have k1 : -1074 ≤ k := by omega
  have k2 : k ≤ 971 := by omega
  obtain ⟨p, hp⟩ : ∃ p, p = pSk k := ⟨_, rfl⟩
  have hpb := pSk_b k1 k2
  rw [← hp] at hpb
  obtain ⟨i, hi, hil⟩ := p_ex hpb
  obtain ⟨s, hs, hsl⟩ := s_ex (z := 11) (chk_lp2 hk hq hp) (by decide) (by decide) rfl
  obtain ⟨d, u, r1, r2, r3, r4⟩ := short_skw (H := tabHi i) (L := tabLo i) (s := s) hk hq hp (row_at hi hil) hs
  refine ⟨d, if u then -p + 1 else -p, r2, r3, (up_b u hpb).1, (up_b u hpb).2, r4, fun wx hK => ?_⟩
  obtain ⟨tH, tL⟩ := hK.t22 i hil
  have hrow := row_at hi hil
  have hod : bits BinOp.and IntKind.i64 (((9223372036854775808 : Nat) : Int) / 2048) 1 = ((0 : Nat) : Int) := by decide +kernel
  refine (short1_calls 9223372036854775808 i s (tabHi i) (tabLo i) 9223372036854775296 9223372036854776832 e p ((0 : Nat) : Int) wx (by decide) hrow.hH hrow.hL (by decide) (by decide) hsl hil (by decide) (decide_eq_true he) (zs_sk hek hp (Int.le_trans (by decide) k1) (Int.le_trans k2 (by decide))) hi (by decide) (by decide) hod
    (sh_is hek (Int.le_trans (by decide) k1) (Int.le_trans k2 (by decide)) hpb.1 hpb.2 hs) tH tL).mono ?_
  rintro e' w' ⟨⟨r, hr, rfl⟩, hb⟩
  have r1' : r = ((d : Int), if u then -p + 1 else -p) := hr.trans r1
  rw [r1']
  exact ⟨rfl, hb⟩
set_option maxRecDepth 10000 in
/-- short at another normal float. -/
theorem short_any {q M1 m : Nat} {k e : Int} (hk : k = (q : Int) - 1074) (hq : q ≤ 2045) (hek : e = k - 11) (hm : M1 * 2048 = m) (a1 : 4503599627370496 ≤ M1) (a2 : M1 < 9007199254740992) (hreg : M1 = 4503599627370496 → q = 0) : ∃ (d : Nat) (p : Int), 1 ≤ d ∧ d < 100000000000000000 ∧ -330 ≤ p ∧ p ≤ 294 ∧ DRnd d p (q * 4503599627370496 + M1) ∧
    ∀ wx, TabsW wx → Calls Tryz.prog 158 #[.int .u64 m, .int .i64 e] wx fun e' w' => e' = .returned (.tuple #[.int .u64 d, .int .i64 p]) ∧ Bel wx w' := by
  have k1 : -1074 ≤ k := by omega
  have k2 : k ≤ 971 := by omega
  have m1 : m < 18446744073709551616 := by omega
  have m2 : 9223372036854775808 ≤ m := by omega
  obtain ⟨mn, hmn⟩ : ∃ mn, m - 1024 = mn := ⟨_, rfl⟩
  obtain ⟨mx, hmx⟩ : ∃ mx, m + 1024 = mx := ⟨_, rfl⟩
  have n1 : mn + 1024 = m := by omega
  have n2 : mn < 18446744073709551616 := by omega
  have n3 : mx < 18446744073709551616 := by omega
  have w1 : IntKind.u64.wrap ((m : Int) - 1024) = mn := by rw [IntKind.wrap_u64]; omega
  have w2 : IntKind.u64.wrap ((m : Int) + 1024) = mx := by rw [IntKind.wrap_u64]; clear w1; omega
  have b0 : 0 < M1 := by clear w1 w2; omega
  have b1 : M1 < 4611686018427387904 := by clear w1 w2; omega
  have e1 : -1085 < e ∨ e = -1085 := by clear w1 w2; omega
  have e2 : e = -1085 → q = 0 := by clear w1 w2; omega
  have e3 : m = 9223372036854775808 → M1 = 4503599627370496 := by clear w1 w2; omega
  have e4 : q = 0 → e = -1085 := by clear w1 w2; omega
  obtain ⟨p, hp⟩ : ∃ p, p = pOf k := ⟨_, rfl⟩
  have hpb := pOf_b k1 k2
  rw [← hp] at hpb
  obtain ⟨i, hi, hil⟩ := p_ex hpb
  obtain ⟨s, hs, hsl⟩ := s_ex (z := 11) (chk_lp1 hk hq hp) (by decide) (by decide) rfl
  have h11 : (2 : Nat) ^ 11 = 2048 := by decide
  have h10 : (2 : Nat) ^ (11 - 1) = 1024 := by decide
  obtain ⟨d, u, r1, r2, r3, r4⟩ := short_reg (q := q) (M := M1) (z := 11) (m := m) (H := tabHi i) (L := tabLo i) (s := s) (mn := mn) (mx := mx) hk hq b0 a2 (.inr a1) hreg
    (by rw [h11]; exact hm) m2 m1 (by decide) (by decide) (fun _ => rfl) hp (row_at hi hil) hs (by rw [h10]; exact n1) (by rw [h10]; exact hmx.symm)
  refine ⟨d, if u then -p + 1 else -p, r2, r3, (up_b u hpb).1, (up_b u hpb).2, r4, fun wx hK => ?_⟩
  obtain ⟨tH, tL⟩ := hK.t22 i hil
  have hrow := row_at hi hil
  have hzs := zs_of hek hp (Int.le_trans (by decide) k1) (Int.le_trans k2 (by decide))
  have hse := sh_is hek (Int.le_trans (by decide) k1) (Int.le_trans k2 (by decide)) hpb.1 hpb.2 hs
  have hodd := odd_is M1 m hm b1
  by_cases hm63 : m = 9223372036854775808
  · have he85 : e = -1085 := e4 (hreg (e3 hm63))
    refine (short2b_calls m i s (tabHi i) (tabLo i) mn mx e p _ wx m1 hrow.hH hrow.hL n2 n3 hsl hil (by rw [hm63]; decide) (by rw [he85]; decide) (by rw [he85]; decide) hzs hi w1 w2 hodd hse tH tL).mono ?_
    rintro e' w' ⟨⟨r, hr, rfl⟩, hb⟩
    have r1' : r = ((d : Int), if u then -p + 1 else -p) := hr.trans r1
    rw [r1']
    exact ⟨rfl, hb⟩
  · refine (short2_calls m i s (tabHi i) (tabLo i) mn mx e p _ wx m1 hrow.hH hrow.hL n2 n3 hsl hil (ne_nat _ 9223372036854775808 hm63) (decide_eq_true (e1.elim Int.le_of_lt (fun h => Int.le_of_eq h.symm))) hzs hi w1 w2 hodd hse tH tL).mono ?_
    rintro e' w' ⟨⟨r, hr, rfl⟩, hb⟩
    have r1' : r = ((d : Int), if u then -p + 1 else -p) := hr.trans r1
    rw [r1']
    exact ⟨rfl, hb⟩
set_option maxRecDepth 10000 in
set_option maxHeartbeats 1000000 in
theorem ftoa_normal (x : Nat) (neg : Bool) (hx : 4503599627370496 ≤ x) (hf : x < 9218868437227405312) :
    ∃ (d : Nat) (p : Int), 1 ≤ d ∧ d < 100000000000000000 ∧ -330 ≤ p ∧ p ≤ 294 ∧ DRnd d p x ∧ ∀ T, Efg neg d p T → Ftoa TabsW (wrd neg x) T := by
  obtain ⟨E, hEE⟩ : ∃ E, x / 4503599627370496 = E := ⟨_, rfl⟩
  obtain ⟨M, hMM⟩ : ∃ M, x % 4503599627370496 = M := ⟨_, rfl⟩
  have hxx : x = E * 4503599627370496 + M := by omega
  have hMl : M < 4503599627370496 := by omega
  have hE1 : 1 ≤ E := by omega
  have hE2 : E ≤ 2046 := by omega
  clear hEE hMM
  obtain ⟨M1, hM1e⟩ : ∃ M1, M + 4503599627370496 = M1 := ⟨_, rfl⟩
  obtain ⟨m, hme⟩ : ∃ m, M1 * 2048 = m := ⟨_, rfl⟩
  have hrung : (E - 1) * 4503599627370496 + M1 = x := by omega
  obtain ⟨k, hk⟩ : ∃ k : Int, k = ((E - 1 : Nat) : Int) - 1074 := ⟨_, rfl⟩
  obtain ⟨e, he⟩ : ∃ e : Int, (E : Int) + -1023 - 11 - 52 = e := ⟨_, rfl⟩
  have hek : e = k - 11 := by omega
  have hq : E - 1 ≤ 2045 := by omega
  have fin : (∃ (d : Nat) (p : Int), 1 ≤ d ∧ d < 100000000000000000 ∧ -330 ≤ p ∧ p ≤ 294 ∧ DRnd d p x ∧
      ∀ wx, TabsW wx → Calls Tryz.prog 158 #[.int .u64 m, .int .i64 e] wx fun e' w' => e' = .returned (.tuple #[.int .u64 d, .int .i64 p]) ∧ Bel wx w') →
      ∃ (d : Nat) (p : Int), 1 ≤ d ∧ d < 100000000000000000 ∧ -330 ≤ p ∧ p ≤ 294 ∧ DRnd d p x ∧ ∀ T, Efg neg d p T → Ftoa TabsW (wrd neg x) T := fun ⟨d, p, h1, h2, h3, h4, h5, h6⟩ =>
    ⟨d, p, h1, h2, h3, h4, h5, fun T hT => ftoa_nfin x E M M1 m d neg e p T hxx hMl hE1 hE2 hf hM1e hme he h1 h2 h3 h4 h6 hT⟩
  by_cases hsk : M1 = 4503599627370496 ∧ 2 ≤ E
  · obtain ⟨hM0, hE2'⟩ := hsk
    have hm0 : 9223372036854775808 = m := by omega
    have he3 : -1085 < e := by omega
    refine fin ?_
    rw [← hm0, ← hrung, hM0]
    exact short_pow2 hk hq hek he3
  · refine fin ?_
    rw [← hrung]
    have a1 : 4503599627370496 ≤ M1 := by omega
    have a2 : M1 < 9007199254740992 := by omega
    have a3 : M1 = 4503599627370496 → E - 1 = 0 := by omega
    exact short_any hk hq hek hme a1 a2 a3
end Go.Proofs.YtghajgdiaopioaaGreatDoor

/- Subnormal floats are written by their shortest digits (158, 136). -/
namespace Go.Proofs.YtghajgdiaopioaaGreatDoor
open Go.RowKit
set_option exponentiation.threshold 3000

/-- The numbers that go with a subnormal mantissa. -/
theorem sub_nums (x : Nat) (hx1 : 1 ≤ x) (hx : x < 4503599627370496) : ∃ bl z m T : Nat, Lib.bitLen x = bl ∧ 1 ≤ bl ∧ bl ≤ 52 ∧ 64 - bl = z ∧ 11 ≤ z ∧ z ≤ 63 ∧ x * 2 ^ z = m ∧ m < 18446744073709551616 ∧ 9223372036854775808 ≤ m ∧ 2 ^ (z - 1) = T ∧ T ≤ 4611686018427387904 ∧ 2 * T ≤ m ∧ m + T < 18446744073709551616 := by
  obtain ⟨b1, b2, b3⟩ := bitLen_bounds x hx1 (by omega)
  obtain ⟨bl, hbl⟩ : ∃ bl, Lib.bitLen x = bl := ⟨_, rfl⟩
  rw [hbl] at b1 b2 b3
  have hbl52 : bl ≤ 52 := by
    rcases Nat.lt_or_ge 52 bl with h | h
    · exfalso
      have := Nat.pow_le_pow_right (n := 2) (by decide) (show 53 ≤ bl by omega)
      have h58 : 2 ^ 53 = 9007199254740992 := by decide
      omega
    · exact h
  obtain ⟨z, hz⟩ : ∃ z, 64 - bl = z := ⟨_, rfl⟩
  have h64 : 2 ^ bl * 2 ^ z = 18446744073709551616 := by rw [← Nat.pow_add, show bl + z = 64 by omega]
  have hz0 : 0 < 2 ^ z := Nat.two_pow_pos z
  have hm2 : x * 2 ^ z < 18446744073709551616 := by rw [← h64]; exact Nat.mul_lt_mul_of_pos_right b2 hz0
  have hm1 : 9223372036854775808 ≤ x * 2 ^ z := by
    have := Nat.mul_le_mul_right (2 ^ z) b3
    rw [h64, Nat.mul_assoc] at this
    generalize x * 2 ^ z = m at *
    clear h64 hz0 b2 b3
    omega
  obtain ⟨m, hmm⟩ : ∃ m, x * 2 ^ z = m := ⟨_, rfl⟩
  rw [hmm] at hm1 hm2
  obtain ⟨T, hT⟩ : ∃ T, 2 ^ (z - 1) = T := ⟨_, rfl⟩
  have hTz : 2 ^ z = 2 * T := by
    obtain ⟨y, hy⟩ : ∃ y, z = y + 1 := ⟨z - 1, by omega⟩
    subst hy
    rw [← hT, Nat.pow_succ, Nat.mul_comm]
    rfl
  have hT62 : T ≤ 4611686018427387904 := by
    rw [← hT]
    exact Nat.le_trans (Nat.pow_le_pow_right (by decide) (show z - 1 ≤ 62 by omega)) (by decide)
  have hTm : 2 * T ≤ m := by rw [← hmm, hTz]; exact Nat.le_mul_of_pos_left _ (by omega)
  have hmx : m + T < 18446744073709551616 := by
    have h1 : x + 1 ≤ 2 ^ bl := b2
    have := Nat.mul_le_mul_right (2 ^ z) h1
    rw [h64, Nat.add_mul, hmm, Nat.one_mul, hTz] at this
    have : 1 ≤ T := by rw [← hT]; exact Nat.one_le_two_pow
    clear b2 b3 h64 hz0 hT hTz hmm h1
    omega
  exact ⟨bl, z, m, T, hbl, b1, hbl52, hz, by omega, by omega, hmm, hm2, hm1, hT, hT62, hTm, hmx⟩
theorem oddz_is (x m z : Nat) (hm : x * 2 ^ z = m) (h : x < 4503599627370496) : bits BinOp.and IntKind.i64 (wrap64 ((m : Int) / 2 ^ z)) 1 = ((x % 2 : Nat) : Int) := by
  have hdv : wrap64 ((m : Int) / 2 ^ z) = (x : Int) := by
    have h1 : ((m : Int) / 2 ^ z) = ((m / 2 ^ z : Nat) : Int) := by simp
    rw [h1, ← hm, Nat.mul_div_cancel _ (Nat.two_pow_pos z)]
    unfold wrap64
    clear hm h1
    omega
  rw [hdv]
  have := and_i64 x 1 (by clear hdv hm; omega) (by decide)
  rw [show ((2 ^ 1 - 1 : Nat) : Int) = 1 by decide, show (2 : Nat) ^ 1 = 2 by decide] at this
  exact this
theorem wrT {z T : Nat} (hT : 2 ^ (z - 1) = T) (h : T ≤ 4611686018427387904) : IntKind.u64.wrap (2 ^ (z - 1)) = (T : Int) := by
  have : ((2 : Int) ^ (z - 1)) = ((2 ^ (z - 1) : Nat) : Int) := by simp
  rw [this, hT, IntKind.wrap_u64]
  clear this hT
  omega
theorem wrM {x z m bl : Nat} (hz : 64 - bl = z) (hm : x * 2 ^ z = m) (h : m < 18446744073709551616) : IntKind.u64.wrap ((x : Int) * 2 ^ (64 - bl)) = (m : Int) := by
  have : ((x : Int) * 2 ^ (64 - bl)) = ((x * 2 ^ z : Nat) : Int) := by rw [hz]; simp
  rw [this, hm, IntKind.wrap_u64]
  clear this hm hz
  omega
theorem zs_ofz {k e p : Int} {z : Nat} (hek : e = k - z) (hp : p = pOf k) (h1 : -2000 ≤ k) (h2 : k ≤ 2000) (hz : z ≤ 63) : wrap64 (-zLog10P2 (e + z)) = p := by
  have h1 : zLog10P2 (e + z) = k * 78913 / 262144 := by rw [hek]; unfold zLog10P2 wrap64; omega
  rw [h1, hp]
  unfold pOf wrap64
  omega
theorem sh_isz {k e p : Int} {s z : Nat} (hek : e = k - z) (h1 : -2000 ≤ k) (h2 : k ≤ 2000) (hz : z ≤ 63) (p1 : -293 ≤ p) (p2 : p ≤ 330) (hs : (s : Int) = z - k - lpI p - 3) : wrap64 (-(wrap64 (wrap64 (e + zLog2P10 p) + 3))) = (s : Int) := by
  rw [lpz (by omega) (by omega), hek]
  have : -1200 ≤ lpI p ∧ lpI p ≤ 1200 := by unfold lpI; omega
  generalize lpI p = q at *
  unfold wrap64
  omega
set_option maxRecDepth 10000 in
theorem short_sub {x z m T : Nat} {e : Int} (hx1 : 1 ≤ x) (hx : x < 4503599627370496) (hz : 11 ≤ z) (hz2 : z ≤ 63) (hm : x * 2 ^ z = m) (m1 : m < 18446744073709551616) (m2 : 9223372036854775808 ≤ m) (hT : 2 ^ (z - 1) = T) (hT1 : T ≤ 4611686018427387904) (hT2 : 2 * T ≤ m) (hT3 : m + T < 18446744073709551616) (hz11 : 12 ≤ z) (hek : e = -1074 - z) : ∃ (d : Nat) (p : Int), 1 ≤ d ∧ d < 100000000000000000 ∧ -330 ≤ p ∧ p ≤ 294 ∧ DRnd d p x ∧
    ∀ wx, TabsW wx → Calls Tryz.prog 158 #[.int .u64 m, .int .i64 e] wx fun e' w' => e' = .returned (.tuple #[.int .u64 d, .int .i64 p]) ∧ Bel wx w' := by
  obtain ⟨k, hk⟩ : ∃ k : Int, k = ((0 : Nat) : Int) - 1074 := ⟨_, rfl⟩
  obtain ⟨p, hp⟩ : ∃ p, p = pOf k := ⟨_, rfl⟩
  obtain ⟨mn, hmn⟩ : ∃ mn, m - T = mn := ⟨_, rfl⟩
  obtain ⟨mx, hmx⟩ : ∃ mx, m + T = mx := ⟨_, rfl⟩
  have k1 : -1074 ≤ k := by clear hm hT; omega
  have k2 : k ≤ 971 := by clear hm hT; omega
  have hek' : e = k - z := by clear hm hT; omega
  have n1 : mn + T = m := by clear hm hT; omega
  have n2 : mn < 18446744073709551616 := by clear hm hT; omega
  have n3 : mx < 18446744073709551616 := by clear hm hT; omega
  have w1 : IntKind.u64.wrap ((m : Int) - T) = mn := by rw [IntKind.wrap_u64]; clear hm hT; omega
  have w2 : IntKind.u64.wrap ((m : Int) + T) = mx := by rw [IntKind.wrap_u64]; clear w1 hm hT; omega
  have e1 : ¬ -1085 < e := by clear w1 w2 hm hT; omega
  have e2 : ¬ -1085 ≤ e := by clear w1 w2 hm hT; omega
  have e3 : -1200 ≤ e := by clear w1 w2 hm hT; omega
  have e4 : 11 + (-1085 - e) = (z : Int) := by clear w1 w2 hm hT; omega
  have e5 : 1 ≤ z := Nat.le_trans (by decide) hz
  have e6 : x < 9007199254740992 := Nat.lt_trans hx (by decide)
  have hr : x ≠ 4503599627370496 := Nat.ne_of_lt hx
  have hpb := pOf_b k1 k2
  rw [← hp] at hpb
  obtain ⟨i, hi, hil⟩ := p_ex hpb
  obtain ⟨s, hs, hsl⟩ := s_ex (z := z) (chk_lp1 hk (by decide) hp) hz hz2 rfl
  obtain ⟨d, u, r1, r2, r3, r4⟩ := short_reg (q := 0) (M := x) (z := z) (m := m) (H := tabHi i) (L := tabLo i) (s := s) (mn := mn) (mx := mx) hk (by decide) hx1 e6 (.inl rfl) (fun _ => rfl)
    hm m2 m1 hz hz2 (fun h => absurd h (Nat.lt_irrefl 0)) hp (row_at hi hil) hs (by rw [hT]; exact n1) (by rw [hT]; exact hmx.symm)
  rw [Nat.zero_mul, Nat.zero_add] at r4
  refine ⟨d, if u then -p + 1 else -p, r2, r3, (up_b u hpb).1, (up_b u hpb).2, r4, fun wx hK => ?_⟩
  obtain ⟨tH, tL⟩ := hK.t22 i hil
  have hrow := row_at hi hil
  have hzs := zs_ofz hek' hp (Int.le_trans (by decide) k1) (Int.le_trans k2 (by decide)) hz2
  have hse := sh_isz hek' (Int.le_trans (by decide) k1) (Int.le_trans k2 (by decide)) hz2 hpb.1 hpb.2 hs
  have hodd := oddz_is x m z hm hx
  refine (short3_calls m z i s (tabHi i) (tabLo i) mn mx T e p _ wx m1 hrow.hH hrow.hL n2 n3 hsl hil (decide_eq_false e1) (decide_eq_false e2) e3 e4 e5 hz2 (wrT hT hT1) hzs hi w1 w2 hodd hse tH tL).mono ?_
  rintro e' w' ⟨⟨r, hr, rfl⟩, hb'⟩
  have r1' : r = ((d : Int), if u then -p + 1 else -p) := hr.trans r1
  rw [r1']
  exact ⟨rfl, hb'⟩
set_option maxRecDepth 10000 in
theorem ftoa_small (x : Nat) (neg : Bool) (hx1 : 1 ≤ x) (hx : x < 4503599627370496) :
    ∃ (d : Nat) (p : Int), 1 ≤ d ∧ d < 100000000000000000 ∧ -330 ≤ p ∧ p ≤ 294 ∧ DRnd d p x ∧ ∀ T, Efg neg d p T → Ftoa TabsW (wrd neg x) T := by
  have hf : x < 9218868437227405312 := Nat.lt_trans hx (by decide)
  have hxx : x = 0 * 4503599627370496 + x := by rw [Nat.zero_mul, Nat.zero_add]
  obtain ⟨bl, z, m, T, hbl, b1, b52, hz, z1, z2, hm, m1, m2, hT, t1, t2, t3⟩ := sub_nums x hx1 hx
  have z12 : 12 ≤ z := by clear hm hT hxx; omega
  obtain ⟨e, he⟩ : ∃ e : Int, (-1022 - (64 - (bl : Int)) - 52) = e := ⟨_, rfl⟩
  have hek : e = -1074 - z := by clear hm hT hxx; omega
  obtain ⟨d, p, h1, h2, h3, h4, h5, h6⟩ := short_sub hx1 hx z1 z2 hm m1 m2 hT t1 t2 t3 z12 hek
  refine ⟨d, p, h1, h2, h3, h4, h5, fun Tx hTx B0 dst w hK hown hB0 => ?_⟩
  have n0 : x ≠ 0 := Nat.ne_of_gt hx1
  have nx : x < 18446744073709551616 := Nat.lt_trans hx (by decide)
  have nd : d < 18446744073709551616 := Nat.lt_trans h2 (by decide)
  have q1 : -100000 ≤ p := Int.le_trans (by decide) h3
  have q2 : p ≤ 100000 := Int.le_trans h4 (by decide)
  refine ftoa_sub (wrd neg x) x m d bl neg p Tx B0 dst w (sign_is x neg hf) (expo_is x 0 x neg hxx hx (by decide)) (mant_is x 0 x neg hxx hx (by decide)) (ne_nat x 0 n0) (by first | exact nx | omega) hbl b1 b52 (wrM hz hm m1) hK.p10 h1 nd q1 q2 hown hB0 ?_ ?_
  · intro wx hb
    rw [he]
    exact h6 wx (hK.bel hb)
  · intro wx C hBy ho
    exact hTx B0 w.heap.size dst C wx hBy ho
end Go.Proofs.YtghajgdiaopioaaGreatDoor

/- The text of every finite float, and that it is read as that float. -/
namespace Go.Proofs.YtghajgdiaopioaaGreatDoor
open Go.RowKit
set_option exponentiation.threshold 3000

theorem drnd_up (j : Nat) : ∀ {d : Nat} {p : Int} {r : Nat}, DRnd (d * 10 ^ j) p r → DRnd d (p + j) r := by
  induction j with
  | zero => intro d p r h; simpa using h
  | succ j ih =>
    intro d p r h
    have h1 : DRnd (10 * (d * 10 ^ j)) p r := by
      rw [show 10 * (d * 10 ^ j) = d * 10 ^ (j + 1) by rw [Nat.pow_succ]; grind]
      exact h
    have := ih h1.up
    rw [show p + ((j + 1 : Nat) : Int) = p + 1 + j by omega]
    exact this
theorem drnd_down (j : Nat) : ∀ {d : Nat} {p : Int} {r : Nat}, DRnd d (p + j) r → DRnd (d * 10 ^ j) p r := by
  induction j with
  | zero => intro d p r h; simpa using h
  | succ j ih =>
    intro d p r h
    rw [show p + ((j + 1 : Nat) : Int) = p + j + 1 by omega] at h
    have := ih h.down
    rw [show d * 10 ^ (j + 1) = 10 * d * 10 ^ j by rw [Nat.pow_succ]; grind]
    exact this
theorem pow_btw : ∀ (n d : Nat), 1 ≤ d → d < 10 ^ n → ∃ k, 1 ≤ k ∧ k ≤ n ∧ 10 ^ (k - 1) ≤ d ∧ d < 10 ^ k := by
  intro n
  induction n with
  | zero => intro d h1 h2; simp at h2; omega
  | succ n ih =>
    intro d h1 h2
    by_cases h : d < 10 ^ n
    · obtain ⟨k, a, b, c, e⟩ := ih d h1 h
      exact ⟨k, a, Nat.le_succ_of_le b, c, e⟩
    · exact ⟨n + 1, Nat.succ_pos _, Nat.le_refl _, by rw [Nat.add_sub_cancel]; exact Nat.not_lt.1 h, h2⟩
/-- The shortest digits of a float: the first one, those after it, how many. -/
structure Dat (d : Nat) (p : Int) (x k z : Nat) (c : UInt8) (r : List UInt8) : Prop where
  nd : Lib.nDigits d = k
  k1 : 1 ≤ k
  k17 : k ≤ 17
  len : (Lib.decDigits d).length = k
  zz : zs (Lib.decDigits d) k = z
  z1 : 1 ≤ z
  zk : z ≤ k
  tk : (Lib.decDigits d).take z = c :: r
  hd : (Lib.decDigits d)[0]? = some c
  hc : isDg c
  h48 : c ≠ 48
  hr : Dgs r
  hrz : r.length + 1 = z
  rnd : DRnd (vald (c :: r)) (p + ((k - z : Nat) : Int)) x
  v1 : 1 ≤ vald (c :: r)
  v17 : vald (c :: r) < 100000000000000000
theorem dat_ex {d : Nat} {p : Int} {x : Nat} (h1 : 1 ≤ d) (h2 : d < 100000000000000000) (h : DRnd d p x) : ∃ k z c r, Dat d p x k z c r := by
  obtain ⟨k, k1, k17, e1, e2⟩ := pow_btw 17 d h1 (by rw [show (10 : Nat) ^ 17 = 100000000000000000 by decide]; exact h2)
  obtain ⟨n1, n2⟩ := digs_eq k1 e1 e2
  obtain ⟨c, hc0, hc, h48⟩ := digs_head k d k1 e1 e2
  have hl := digs_lenG k d
  have h0 : (digs k d)[0]? ≠ some 48 := by rw [hc0]; intro h; exact h48 (Option.some.inj h)
  have ht := take_zs (digs k d) h0 (by rw [hl]; exact k1)
  obtain ⟨z1, zk, _⟩ := zs_spec (digs k d) h0 k k1
  rw [hl] at ht
  obtain ⟨z, hz⟩ : ∃ z, zs (digs k d) k = z := ⟨_, rfl⟩
  rw [hz] at ht z1 zk
  obtain ⟨r, hr⟩ : ∃ r, (digs k d).take z = c :: r := by
    cases hq : (digs k d).take z with
    | nil =>
      exfalso
      have := congrArg List.length hq
      rw [List.length_take, hl, Nat.min_eq_left zk] at this
      rw [this] at z1
      exact absurd z1 (by decide)
    | cons a r =>
      have : ((digs k d).take z)[0]? = some c := by rw [List.getElem?_take, if_pos (show 0 < z from z1)]; exact hc0
      rw [hq] at this
      simp at this
      exact ⟨r, by rw [this]⟩
  have hlr : r.length + 1 = z := by
    have := congrArg List.length hr
    rw [List.length_take, hl, List.length_cons, Nat.min_eq_left zk] at this
    exact this.symm
  have hdr : Dgs r := fun y hy => digs_dgs k d y (List.mem_of_mem_take (i := z) (by rw [hr]; simp [hy]))
  have hv : vald (c :: r) * 10 ^ (k - z) = d := by
    have h3 := vald_digs k d e2
    have h4 := congrArg vald ht
    rw [hr, vald_app, vald_zeros, List.length_replicate, h3] at h4
    exact h4.symm
  have hp : 0 < 10 ^ (k - z) := Nat.pow_pos (by decide)
  refine ⟨k, z, c, r, n1, k1, k17, by rw [n2]; exact hl, by rw [n2]; exact hz, z1, zk, by rw [n2]; exact hr, by rw [n2]; exact hc0, hc, h48, hdr, hlr, drnd_up (k - z) (by rw [hv]; exact h), ?_, Nat.lt_of_le_of_lt ?_ h2⟩
  · rcases Nat.eq_zero_or_pos (vald (c :: r)) with h5 | h5
    · rw [h5, Nat.zero_mul] at hv
      exact absurd hv (Nat.ne_of_lt h1)
    · exact h5
  · calc vald (c :: r) ≤ vald (c :: r) * 10 ^ (k - z) := Nat.le_mul_of_pos_right _ hp
      _ = d := hv
/-! Reading. -/
def sgT (neg : Bool) : List UInt8 := if neg then [45] else []
theorem special_sg (neg : Bool) (c : UInt8) (B : List UInt8) (hc : isDg c) (hl : B.length ≤ 900) (w : World) :
    Calls Tryz.prog 161 #[.string (ofL (sgT neg ++ c :: B))] w fun e w' => e = .returned (.tuple #[.float .f64 0, .int .i64 0, .bool false]) ∧ w = w' := by
  cases neg
  · have h : sgT false ++ c :: B = c :: B := rfl
    rw [h]
    refine special_pos _ (by rw [ofL_size]; simp) w ?_
    rw [ofL_get _ 0 (by simp)]; exact hc
  · have h : sgT true ++ c :: B = 45 :: c :: B := rfl
    rw [h]
    refine special_neg _ (by rw [ofL_size]; simp) (by rw [ofL_size]; simp; omega) w ?_ ?_
    · rw [ofL_get _ 0 (by simp)]; rfl
    · rw [ofL_get _ 1 (by simp)]; exact hc
theorem num_r {G : Errs} (hG : ∀ w, Env G w → RdW w) (neg : Bool) (c : UInt8) (B : List UInt8) (m x : Nat) (q : Int) (hc : isDg c) (hl : B.length ≤ 900) (h0 : 1 ≤ m) (hm : m < 100000000000000000) (hp1 : -345 ≤ q) (hp2 : q ≤ 310) (hr : DRnd m q x) (hx1 : 1 ≤ x) (hf : x < 9218868437227405312)
    (h162 : ∀ w, Calls Tryz.prog 162 #[.string (ofL (sgT neg ++ c :: B))] w fun e w' => e = .returned (.tuple #[.int .u64 m, .int .i64 q, .bool neg, .bool false, .bool false, .int .i64 (ofL (sgT neg ++ c :: B)).size, .bool true]) ∧ w = w') : NumReads G (sgT neg ++ c :: B) (wrd neg x) := fun w hE =>
  parse104' _ _ w (parse114' _ _ w (parse128' _ _ w (atof64_num _ m x q neg w h0 hm hp1 hp2 hr hx1 hf (hG w hE) (fun w => special_sg neg c B hc hl w) h162)))
theorem rf_0 (neg : Bool) (Mx : List UInt8) (w : World) (hM : NumL Mx) (h1 : 2 < Mx.length) (h30 : Mx.length ≤ 40) (hnd : (mrun Mx).nd ≤ 18) (hsd : sawD Mx = true) (hm : (mrun Mx).mant ≠ 0) (xp : Int) (hxp : (if (mrun Mx).dot then (mrun Mx).dp else (mrun Mx).nd) - (mrun Mx).nd = xp) :
    Calls Tryz.prog 162 #[.string (ofL (sgT neg ++ Mx))] w fun e w' => e = .returned (.tuple #[.int .u64 (mrun Mx).mant, .int .i64 xp, .bool neg, .bool false, .bool false, .int .i64 (ofL (sgT neg ++ Mx)).size, .bool true]) ∧ w = w' := by
  have h2 : 1 ≤ Mx.length := Nat.le_trans (by decide) h1
  cases neg
  · exact rf_p0 (ofL Mx) Mx w (toL_ofL _) hM h2 h30 hnd hsd hm (by rw [ofL_size]; exact h1) xp hxp
  · exact rf_n0 (ofL (45 :: Mx)) Mx w (toL_ofL _) hM h2 h30 hnd hsd hm (by rw [ofL_size, List.length_cons]; exact Nat.succ_lt_succ h1) xp hxp
def sgE (up : Bool) : UInt8 := if up then 43 else 45
theorem rf_e (neg up : Bool) (Mx X : List UInt8) (w : World) (hM : NumL Mx) (h1 : 1 ≤ Mx.length) (h30 : Mx.length ≤ 40) (hnd : (mrun Mx).nd ≤ 18) (hsd : sawD Mx = true) (hm : (mrun Mx).mant ≠ 0) (hX : Dgs X) (hX1 : 1 ≤ X.length) (hX3 : X.length ≤ 3) (xp : Int)
    (hxp : (if (mrun Mx).dot then (mrun Mx).dp else (mrun Mx).nd) + (if up then (vald X : Int) else -(vald X : Int)) - (mrun Mx).nd = xp) :
    Calls Tryz.prog 162 #[.string (ofL (sgT neg ++ (Mx ++ 101 :: sgE up :: X)))] w fun e w' => e = .returned (.tuple #[.int .u64 (mrun Mx).mant, .int .i64 xp, .bool neg, .bool false, .bool false, .int .i64 (ofL (sgT neg ++ (Mx ++ 101 :: sgE up :: X))).size, .bool true]) ∧ w = w' := by
  have hl' : ∀ s : UInt8, 3 < (45 :: (Mx ++ 101 :: s :: X)).length := by intro s; simp; omega
  have hl2 : ∀ s : UInt8, 2 < (Mx ++ 101 :: s :: X).length := by intro s; simp; omega
  cases neg <;> cases up
  · exact rf_pn (ofL (Mx ++ 101 :: 45 :: X)) Mx X w (toL_ofL _) hM h1 h30 hnd hsd hm (by rw [ofL_size]; exact hl2 _) hX hX1 hX3 xp hxp
  · exact rf_pp (ofL (Mx ++ 101 :: 43 :: X)) Mx X w (toL_ofL _) hM h1 h30 hnd hsd hm (by rw [ofL_size]; exact hl2 _) hX hX1 hX3 xp hxp
  · exact rf_nn (ofL (45 :: (Mx ++ 101 :: 45 :: X))) Mx X w (toL_ofL _) hM h1 h30 hnd hsd hm (by rw [ofL_size]; exact hl' _) hX hX1 hX3 xp hxp
  · exact rf_np (ofL (45 :: (Mx ++ 101 :: 43 :: X))) Mx X w (toL_ofL _) hM h1 h30 hnd hsd hm (by rw [ofL_size]; exact hl' _) hX hX1 hX3 xp hxp
/-! The mantissa before an exponent. -/
def mx (c : UInt8) (r : List UInt8) : List UInt8 := c :: (match r with | [] => [] | a :: r' => 46 :: a :: r')
theorem dgs_nil : Dgs [] := fun _ h => absurd h (by simp)
theorem mx_run (c : UInt8) (r : List UInt8) (hc : isDg c) (h48 : c ≠ 48) (hr : Dgs r) : NumL (mx c r) ∧ 1 ≤ (mx c r).length ∧ (mx c r).length ≤ r.length + 2 ∧ (mrun (mx c r)).nd = r.length + 1 ∧ sawD (mx c r) = true ∧ (mrun (mx c r)).mant = vald (c :: r) ∧ (if (mrun (mx c r)).dot then (mrun (mx c r)).dp else ((mrun (mx c r)).nd : Int)) = 1 := by
  have hs : sawD (mx c r) = true := sawD_of _ (c := c) (by unfold mx; simp) hc
  cases r with
  | nil =>
    have h := mrun_dig c [] hc h48 dgs_nil
    have h' : mrun (mx c []) = ⟨vald [c], 1, 0, false⟩ := h
    rw [h']
    refine ⟨numL_dig [c] (fun y hy => ?_), by unfold mx; simp, by unfold mx; simp, rfl, hs, rfl, rfl⟩
    obtain rfl : y = c := by simpa using hy
    exact hc
  | cons a r' =>
    have h := mrun_dot c [] (a :: r') hc h48 dgs_nil hr
    have h' : mrun (mx c (a :: r')) = ⟨vald (c :: a :: r'), 1 + (a :: r').length, 1, true⟩ := h
    rw [h']
    refine ⟨numL_dot [c] (a :: r') (fun y hy => ?_) hr, by unfold mx; simp, by unfold mx; simp, by simp; omega, hs, rfl, rfl⟩
    obtain rfl : y = c := by simpa using hy
    exact hc
theorem vald_dgt (n : Nat) (h : n < 10) : (dgt n).toNat - 48 = n := by rw [dgt_nat n h]; omega
theorem isDg_dgt (n : Nat) (h : n < 10) : isDg (dgt n) := by unfold isDg; rw [dgt_nat n h]; omega
theorem xx_law (e : Nat) (h : e < 1000) : Dgs (xx e) ∧ 1 ≤ (xx e).length ∧ (xx e).length ≤ 3 ∧ vald (xx e) = e := by
  have m1 : e % 10 < 10 := Nat.mod_lt _ (by decide)
  have m2 : e / 10 % 10 < 10 := Nat.mod_lt _ (by decide)
  have m3 : e / 100 < 10 := by omega
  unfold xx
  by_cases h1 : e < 10
  · rw [if_pos h1]
    refine ⟨fun y hy => ?_, by simp, by simp, ?_⟩
    · simp at hy
      rcases hy with rfl | rfl
      · exact ⟨by decide, by decide⟩
      · exact isDg_dgt e h1
    · show (0 * 10 + ((48 : UInt8).toNat - 48)) * 10 + ((dgt e).toNat - 48) = e
      rw [vald_dgt e h1]
      have : (48 : UInt8).toNat = 48 := rfl
      omega
  · rw [if_neg h1]
    by_cases h2 : e < 100
    · have m4 : e / 10 < 10 := by omega
      rw [if_pos h2]
      refine ⟨fun y hy => ?_, by simp, by simp, ?_⟩
      · simp at hy
        rcases hy with rfl | rfl
        · exact isDg_dgt _ m4
        · exact isDg_dgt _ m1
      · show (0 * 10 + ((dgt (e / 10)).toNat - 48)) * 10 + ((dgt (e % 10)).toNat - 48) = e
        rw [vald_dgt _ m4, vald_dgt _ m1]
        omega
    · rw [if_neg h2]
      refine ⟨fun y hy => ?_, by simp, by simp, ?_⟩
      · simp at hy
        rcases hy with rfl | rfl | rfl
        · exact isDg_dgt _ m3
        · exact isDg_dgt _ m2
        · exact isDg_dgt _ m1
      · show ((0 * 10 + ((dgt (e / 100)).toNat - 48)) * 10 + ((dgt (e / 10 % 10)).toNat - 48)) * 10 + ((dgt (e % 10)).toNat - 48) = e
        rw [vald_dgt _ m3, vald_dgt _ m2, vald_dgt _ m1]
        omega
/-! Writing. -/
theorem efg_e {d : Nat} {p : Int} {x k z : Nat} {c : UInt8} {r : List UInt8} (D : Dat d p x k z c r) (neg up : Bool) (e0 : Nat) (hdp : (k : Int) + p - 1 = if up then (e0 : Int) else -(e0 : Int)) (lo : (if up then 6 else 5) ≤ e0) (hi : e0 < 1000) :
    Efg neg d p (sgT neg ++ (mx c r ++ 101 :: sgE up :: xx e0)) := by
  intro B0 b dst C wx hB hO
  rw [D.nd, D.zz]
  have z30 : z ≤ 30 := Nat.le_trans D.zk (Nat.le_trans D.k17 (by decide))
  have zL : z ≤ (Lib.decDigits d).length := by rw [D.len]; exact D.zk
  have htk := D.tk
  have hrz := D.hrz
  have hc0 := D.hd
  clear D
  cases up
  · have hdp' : (k : Int) + p - 1 = -(e0 : Int) := hdp
    have lo' : 5 ≤ e0 := lo
    cases r with
    | nil =>
      have hz : z = 1 := hrz.symm
      cases neg
      · by_cases h1 : e0 < 10
        · exact efgE_p1n1 B0 b z e0 _ c dst C 205 _ _ wx hO hB hz z30 zL hc0 hdp' ⟨lo', h1⟩ (by simp [sgT, mx, sgE])
        · by_cases h2 : e0 < 100
          · exact efgE_p1n2 B0 b z e0 _ c dst C 205 _ _ wx hO hB hz z30 zL hc0 hdp' ⟨Nat.not_lt.1 h1, h2⟩ (by simp [sgT, mx, sgE])
          · exact efgE_p1n3 B0 b z e0 _ c dst C 205 _ _ wx hO hB hz z30 zL hc0 hdp' ⟨Nat.not_lt.1 h2, hi⟩ (by simp [sgT, mx, sgE])
      · by_cases h1 : e0 < 10
        · exact efgE_n1n1 B0 b z e0 _ c dst C 205 _ _ wx hO hB hz z30 zL hc0 hdp' ⟨lo', h1⟩ (by simp [sgT, mx, sgE])
        · by_cases h2 : e0 < 100
          · exact efgE_n1n2 B0 b z e0 _ c dst C 205 _ _ wx hO hB hz z30 zL hc0 hdp' ⟨Nat.not_lt.1 h1, h2⟩ (by simp [sgT, mx, sgE])
          · exact efgE_n1n3 B0 b z e0 _ c dst C 205 _ _ wx hO hB hz z30 zL hc0 hdp' ⟨Nat.not_lt.1 h2, hi⟩ (by simp [sgT, mx, sgE])
    | cons a r' =>
      have hz : 1 < z := by rw [← hrz]; simp
      cases neg
      · by_cases h1 : e0 < 10
        · exact efgE_pmn1 B0 b z e0 _ c dst C 205 _ _ wx hO hB hz z30 zL hc0 hdp' ⟨lo', h1⟩ (by rw [htk]; simp [sgT, mx, sgE])
        · by_cases h2 : e0 < 100
          · exact efgE_pmn2 B0 b z e0 _ c dst C 205 _ _ wx hO hB hz z30 zL hc0 hdp' ⟨Nat.not_lt.1 h1, h2⟩ (by rw [htk]; simp [sgT, mx, sgE])
          · exact efgE_pmn3 B0 b z e0 _ c dst C 205 _ _ wx hO hB hz z30 zL hc0 hdp' ⟨Nat.not_lt.1 h2, hi⟩ (by rw [htk]; simp [sgT, mx, sgE])
      · by_cases h1 : e0 < 10
        · exact efgE_nmn1 B0 b z e0 _ c dst C 205 _ _ wx hO hB hz z30 zL hc0 hdp' ⟨lo', h1⟩ (by rw [htk]; simp [sgT, mx, sgE])
        · by_cases h2 : e0 < 100
          · exact efgE_nmn2 B0 b z e0 _ c dst C 205 _ _ wx hO hB hz z30 zL hc0 hdp' ⟨Nat.not_lt.1 h1, h2⟩ (by rw [htk]; simp [sgT, mx, sgE])
          · exact efgE_nmn3 B0 b z e0 _ c dst C 205 _ _ wx hO hB hz z30 zL hc0 hdp' ⟨Nat.not_lt.1 h2, hi⟩ (by rw [htk]; simp [sgT, mx, sgE])
  · have hdp' : (k : Int) + p - 1 = (e0 : Int) := hdp
    have lo' : 6 ≤ e0 := lo
    cases r with
    | nil =>
      have hz : z = 1 := hrz.symm
      cases neg
      · by_cases h1 : e0 < 10
        · exact efgE_p1p1 B0 b z e0 _ c dst C 205 _ _ wx hO hB hz z30 zL hc0 hdp' ⟨lo', h1⟩ (by simp [sgT, mx, sgE])
        · by_cases h2 : e0 < 100
          · exact efgE_p1p2 B0 b z e0 _ c dst C 205 _ _ wx hO hB hz z30 zL hc0 hdp' ⟨Nat.not_lt.1 h1, h2⟩ (by simp [sgT, mx, sgE])
          · exact efgE_p1p3 B0 b z e0 _ c dst C 205 _ _ wx hO hB hz z30 zL hc0 hdp' ⟨Nat.not_lt.1 h2, hi⟩ (by simp [sgT, mx, sgE])
      · by_cases h1 : e0 < 10
        · exact efgE_n1p1 B0 b z e0 _ c dst C 205 _ _ wx hO hB hz z30 zL hc0 hdp' ⟨lo', h1⟩ (by simp [sgT, mx, sgE])
        · by_cases h2 : e0 < 100
          · exact efgE_n1p2 B0 b z e0 _ c dst C 205 _ _ wx hO hB hz z30 zL hc0 hdp' ⟨Nat.not_lt.1 h1, h2⟩ (by simp [sgT, mx, sgE])
          · exact efgE_n1p3 B0 b z e0 _ c dst C 205 _ _ wx hO hB hz z30 zL hc0 hdp' ⟨Nat.not_lt.1 h2, hi⟩ (by simp [sgT, mx, sgE])
    | cons a r' =>
      have hz : 1 < z := by rw [← hrz]; simp
      cases neg
      · by_cases h1 : e0 < 10
        · exact efgE_pmp1 B0 b z e0 _ c dst C 205 _ _ wx hO hB hz z30 zL hc0 hdp' ⟨lo', h1⟩ (by rw [htk]; simp [sgT, mx, sgE])
        · by_cases h2 : e0 < 100
          · exact efgE_pmp2 B0 b z e0 _ c dst C 205 _ _ wx hO hB hz z30 zL hc0 hdp' ⟨Nat.not_lt.1 h1, h2⟩ (by rw [htk]; simp [sgT, mx, sgE])
          · exact efgE_pmp3 B0 b z e0 _ c dst C 205 _ _ wx hO hB hz z30 zL hc0 hdp' ⟨Nat.not_lt.1 h2, hi⟩ (by rw [htk]; simp [sgT, mx, sgE])
      · by_cases h1 : e0 < 10
        · exact efgE_nmp1 B0 b z e0 _ c dst C 205 _ _ wx hO hB hz z30 zL hc0 hdp' ⟨lo', h1⟩ (by rw [htk]; simp [sgT, mx, sgE])
        · by_cases h2 : e0 < 100
          · exact efgE_nmp2 B0 b z e0 _ c dst C 205 _ _ wx hO hB hz z30 zL hc0 hdp' ⟨Nat.not_lt.1 h1, h2⟩ (by rw [htk]; simp [sgT, mx, sgE])
          · exact efgE_nmp3 B0 b z e0 _ c dst C 205 _ _ wx hO hB hz z30 zL hc0 hdp' ⟨Nat.not_lt.1 h2, hi⟩ (by rw [htk]; simp [sgT, mx, sgE])
theorem efg_f0 {d : Nat} {p : Int} {x k z : Nat} {c : UInt8} {r : List UInt8} (D : Dat d p x k z c r) (neg : Bool) (q : Nat) (hdp : (k : Int) + p = -(q : Int)) (hq : q ≤ 3) :
    Efg neg d p (sgT neg ++ ([48] ++ 46 :: (List.replicate q 48 ++ (c :: r)))) := by
  intro B0 b dst C wx hB hO
  rw [D.nd, D.zz, hdp]
  have z20 : z ≤ 20 := Nat.le_trans D.zk (Nat.le_trans D.k17 (by decide))
  have zL : z ≤ (Lib.decDigits d).length := by rw [D.len]; exact D.zk
  cases neg
  · exact efgF0_p B0 b z q dst C 205 _ _ wx hO hB hq D.z1 z20 zL (by rw [D.tk]; simp [sgT])
  · exact efgF0_n B0 b z q dst C 205 _ _ wx hO hB hq D.z1 z20 zL (by rw [D.tk]; simp [sgT])
theorem efg_f1 {d : Nat} {p : Int} {x k z : Nat} {c : UInt8} {r : List UInt8} (D : Dat d p x k z c r) (neg : Bool) (q : Nat) (hdp : (k : Int) + p = ((q + 1 : Nat) : Int)) (hq : q + 1 ≤ 6) (hqz : q + 1 < z) :
    Efg neg d p (sgT neg ++ (c :: r.take q ++ 46 :: r.drop q)) := by
  intro B0 b dst C wx hB hO
  rw [D.nd, D.zz, hdp]
  have z20 : z ≤ 20 := Nat.le_trans D.zk (Nat.le_trans D.k17 (by decide))
  have zL : z ≤ (Lib.decDigits d).length := by rw [D.len]; exact D.zk
  have t1 : (Lib.decDigits d).take (q + 1) = c :: r.take q := by
    have := congrArg (List.take (q + 1)) D.tk
    rw [List.take_take, Nat.min_eq_left (Nat.le_of_lt hqz)] at this
    rw [this]; rfl
  have t2 : ((Lib.decDigits d).drop (q + 1)).take (z - (q + 1)) = r.drop q := by
    rw [← List.drop_take, D.tk]; rfl
  cases neg
  · exact efgF1_p B0 b z (q + 1) dst C 205 _ _ wx hO hB (Nat.succ_pos q) hq hqz z20 zL (by rw [t1, t2]; simp [sgT])
  · exact efgF1_n B0 b z (q + 1) dst C 205 _ _ wx hO hB (Nat.succ_pos q) hq hqz z20 zL (by rw [t1, t2]; simp [sgT])
theorem efg_w {d : Nat} {p : Int} {x k z : Nat} {c : UInt8} {r : List UInt8} (D : Dat d p x k z c r) (neg : Bool) (q : Nat) (hdp : (k : Int) + p = ((z + q : Nat) : Int)) (hq : z + q ≤ 6) :
    Efg neg d p (sgT neg ++ (c :: (r ++ List.replicate q 48))) := by
  intro B0 b dst C wx hB hO
  rw [D.nd, D.zz, hdp]
  have zL : z ≤ (Lib.decDigits d).length := by rw [D.len]; exact D.zk
  have := efg_whole neg (sgT neg) rfl B0 b z (z + q) dst C 205 _ wx hO hB D.z1 (Nat.le_add_right _ _) hq zL
  rw [D.tk, Nat.add_sub_cancel_left, List.append_assoc] at this
  exact this
end Go.Proofs.YtghajgdiaopioaaGreatDoor

/- Every finite float has a text that is written for it and read as it. -/
namespace Go.Proofs.YtghajgdiaopioaaGreatDoor
open Go.RowKit
set_option exponentiation.threshold 3000

def Ch (l : List UInt8) : Prop := ∀ c ∈ l, isDg c ∨ c = 45 ∨ c = 46 ∨ c = 43 ∨ c = 101
theorem Ch.app {a b : List UInt8} (ha : Ch a) (hb : Ch b) : Ch (a ++ b) := fun c hc => (List.mem_append.1 hc).elim (ha c) (hb c)
theorem Ch.cons {c : UInt8} {l : List UInt8} (hc : isDg c ∨ c = 45 ∨ c = 46 ∨ c = 43 ∨ c = 101) (hl : Ch l) : Ch (c :: l) := fun y hy => (List.mem_cons.1 hy).elim (fun h => by rw [h]; exact hc) (hl y)
theorem Ch.dgs {l : List UInt8} (h : Dgs l) : Ch l := fun c hc => .inl (h c hc)
theorem ch_sg (neg : Bool) : Ch (sgT neg) := by
  cases neg
  · exact fun c hc => absurd hc (by simp [sgT])
  · exact Ch.cons (.inr (.inl rfl)) fun c hc => absurd hc (by simp)
theorem numT_of {T : List UInt8} (h0 : T ≠ []) (h : Ch T) : NumT T := by
  refine ⟨h0, fun c hc => ?_⟩
  rcases h c hc with ⟨hd1, hd2⟩ | rfl | rfl | rfl | rfl
  · refine ⟨?_, ?_, ?_, ?_, by omega⟩
    · simp only [isSp, Bool.or_eq_false_iff, beq_eq_false_iff_ne]
      refine ⟨⟨?_, ?_⟩, ?_⟩ <;> rintro rfl <;> exact absurd hd1 (by decide)
    · rintro rfl; exact absurd hd1 (by decide)
    · rintro rfl; exact absurd hd1 (by decide)
    · rintro rfl; exact absurd hd1 (by decide)
  all_goals decide
theorem sg_len (neg : Bool) : (sgT neg).length ≤ 1 := by cases neg <;> decide
theorem dgs_cons {c : UInt8} {l : List UInt8} (hc : isDg c) (hl : Dgs l) : Dgs (c :: l) := fun y hy => (List.mem_cons.1 hy).elim (fun h => by rw [h]; exact hc) (hl y)
theorem dgs_app {a b : List UInt8} (ha : Dgs a) (hb : Dgs b) : Dgs (a ++ b) := fun c hc => (List.mem_append.1 hc).elim (ha c) (hb c)
theorem dgs_zeros (q : Nat) : Dgs (List.replicate q 48) := fun c hc => by
  obtain ⟨_, rfl⟩ := List.mem_replicate.1 hc
  exact ⟨by decide, by decide⟩
/-- What is wanted of a float's text. -/
def TxtOk (neg : Bool) (d : Nat) (p : Int) (x : Nat) : Prop := ∃ T, NumT T ∧ T.length ≤ 1000 ∧ Efg neg d p T ∧ ∀ G, (∀ w, Env G w → RdW w) → NumReads G T (wrd neg x)
variable {d : Nat} {p : Int} {x k z : Nat} {c : UInt8} {r : List UInt8}
theorem ex_bounds (D : Dat d p x k z c r) (p1 : -330 ≤ p) (p2 : p ≤ 294) : -345 ≤ p + ((k - z : Nat) : Int) ∧ p + ((k - z : Nat) : Int) ≤ 310 := by
  have h1 := D.k17
  have h2 := D.z1
  constructor <;> omega
theorem txt_e (D : Dat d p x k z c r) (neg up : Bool) (e0 : Nat) (hdp : (k : Int) + p - 1 = if up then (e0 : Int) else -(e0 : Int)) (lo : (if up then 6 else 5) ≤ e0) (hi : e0 < 1000) (p1 : -330 ≤ p) (p2 : p ≤ 294) (hx1 : 1 ≤ x) (hf : x < 9218868437227405312) : TxtOk neg d p x := by
  obtain ⟨x1, x2, x3, x4⟩ := xx_law e0 hi
  obtain ⟨m1, m2, m3, m4, m5, m6, m7⟩ := mx_run c r D.hc D.h48 D.hr
  obtain ⟨q1, q2⟩ := ex_bounds D p1 p2
  have hk := D.k17
  have hzk := D.zk
  have hrz := D.hrz
  have hr17 : r.length ≤ 16 := by omega
  have hlT : (sgT neg ++ (mx c r ++ 101 :: sgE up :: xx e0)).length ≤ 1000 := by
    rw [List.length_append, List.length_append, List.length_cons, List.length_cons]
    have := sg_len neg
    omega
  have hlB : ((mx c r).tail ++ 101 :: sgE up :: xx e0).length ≤ 900 := by
    rw [List.length_append, List.length_cons, List.length_cons, List.length_tail]
    omega
  have hse : isDg (sgE up) ∨ sgE up = 45 ∨ sgE up = 46 ∨ sgE up = 43 ∨ sgE up = 101 := by cases up <;> simp [sgE]
  have hch : Ch (mx c r) := by
    unfold mx
    refine Ch.cons (.inl D.hc) ?_
    have h2 := D.hr
    cases r with
    | nil => exact fun c hc => absurd hc (by simp)
    | cons a r' => exact Ch.cons (.inr (.inr (.inl rfl))) (Ch.dgs h2)
  refine ⟨sgT neg ++ (mx c r ++ 101 :: sgE up :: xx e0), numT_of (by simp) ((ch_sg neg).app (hch.app (Ch.cons (.inr (.inr (.inr (.inr rfl)))) (Ch.cons hse (Ch.dgs x1))))), hlT, efg_e D neg up e0 hdp lo hi, fun G hG => ?_⟩
  refine num_r hG neg c ((mx c r).tail ++ 101 :: sgE up :: xx e0) (vald (c :: r)) x _ D.hc hlB D.v1 D.v17 q1 q2 D.rnd hx1 hf fun w => ?_
  have h := rf_e neg up (mx c r) (xx e0) w m1 m2 (by omega) (by omega) m5 (by rw [m6]; exact Nat.ne_of_gt D.v1) x1 x2 x3 (p + ((k - z : Nat) : Int)) (by
    rw [m7, m4, x4, ← hdp]
    clear hlT hlB hdp lo m4 m7 x4
    omega)
  rw [m6] at h
  exact h
theorem txt_f0 (D : Dat d p x k z c r) (neg : Bool) (q : Nat) (hdp : (k : Int) + p = -(q : Int)) (hq : q ≤ 3) (p1 : -330 ≤ p) (p2 : p ≤ 294) (hx1 : 1 ≤ x) (hf : x < 9218868437227405312) : TxtOk neg d p x := by
  obtain ⟨q1, q2⟩ := ex_bounds D p1 p2
  have hk := D.k17
  have hzk := D.zk
  have hrz := D.hrz
  have hr17 : r.length ≤ 16 := by omega
  have hm := mrun_zero q c r D.hc D.h48 D.hr
  have hdz := dgs_app (dgs_zeros q) (dgs_cons D.hc D.hr)
  have hlM : ([48] ++ 46 :: (List.replicate q 48 ++ (c :: r)) : List UInt8).length = q + r.length + 3 := by simp; omega
  have d48 : isDg 48 := ⟨by decide, by decide⟩
  have hNL : NumL ([48] ++ 46 :: (List.replicate q 48 ++ (c :: r))) := numL_dot [48] _ (dgs_cons d48 dgs_nil) hdz
  have hsd : sawD ([48] ++ 46 :: (List.replicate q 48 ++ (c :: r))) = true := sawD_of _ (c := 48) (by simp) d48
  refine ⟨sgT neg ++ ([48] ++ 46 :: (List.replicate q 48 ++ (c :: r))), numT_of (by simp) ((ch_sg neg).app (Ch.cons (.inl d48) (Ch.cons (.inr (.inr (.inl rfl))) (Ch.dgs hdz)))), ?_, efg_f0 D neg q hdp hq, fun G hG => ?_⟩
  · rw [List.length_append, hlM]
    have := sg_len neg
    omega
  refine num_r hG neg 48 (46 :: (List.replicate q 48 ++ (c :: r))) (vald (c :: r)) x _ d48 (by simp; omega) D.v1 D.v17 q1 q2 D.rnd hx1 hf fun w => ?_
  have hv := D.v1
  have h := rf_0 neg ([48] ++ 46 :: (List.replicate q 48 ++ (c :: r))) w hNL (by rw [hlM]; omega) (by rw [hlM]; omega) (by rw [hm]; simp; omega) hsd (by rw [hm]; exact Nat.ne_of_gt hv) (p + ((k - z : Nat) : Int)) (by rw [hm]; simp; omega)
  rw [hm] at h
  exact h
theorem txt_f1 (D : Dat d p x k z c r) (neg : Bool) (q : Nat) (hdp : (k : Int) + p = ((q + 1 : Nat) : Int)) (hq : q + 1 ≤ 6) (hqz : q + 1 < z) (p1 : -330 ≤ p) (p2 : p ≤ 294) (hx1 : 1 ≤ x) (hf : x < 9218868437227405312) : TxtOk neg d p x := by
  obtain ⟨q1, q2⟩ := ex_bounds D p1 p2
  have hk := D.k17
  have hzk := D.zk
  have hrz := D.hrz
  have hr17 : r.length ≤ 16 := by omega
  have hdt : Dgs (r.take q) := fun y hy => D.hr y (List.mem_of_mem_take hy)
  have hdd : Dgs (r.drop q) := fun y hy => D.hr y (List.mem_of_mem_drop hy)
  have hm := mrun_dot c (r.take q) (r.drop q) D.hc D.h48 hdt hdd
  have l1 : (r.take q).length = q := by rw [List.length_take]; omega
  have l2 : (r.drop q).length = r.length - q := List.length_drop ..
  have hca : c :: r.take q ++ r.drop q = c :: r := by rw [List.cons_append, List.take_append_drop]
  rw [List.length_cons, l1, l2, hca] at hm
  have hlM : (c :: r.take q ++ 46 :: r.drop q : List UInt8).length = q + 1 + (1 + (r.length - q)) := by rw [List.length_append, List.length_cons, List.length_cons, l1, l2]; omega
  have hNL : NumL (c :: r.take q ++ 46 :: r.drop q) := numL_dot (c :: r.take q) _ (dgs_cons D.hc hdt) hdd
  have hsd : sawD (c :: r.take q ++ 46 :: r.drop q) = true := sawD_of _ (c := c) (by simp) D.hc
  refine ⟨sgT neg ++ (c :: r.take q ++ 46 :: r.drop q), numT_of (by simp) ((ch_sg neg).app (Ch.app (Ch.dgs (dgs_cons D.hc hdt)) (Ch.cons (.inr (.inr (.inl rfl))) (Ch.dgs hdd)))), ?_, efg_f1 D neg q hdp hq hqz, fun G hG => ?_⟩
  · rw [List.length_append, hlM]
    have := sg_len neg
    omega
  refine num_r hG neg c (r.take q ++ 46 :: r.drop q) (vald (c :: r)) x _ D.hc (by rw [List.length_append, List.length_cons, l1, l2]; omega) D.v1 D.v17 q1 q2 D.rnd hx1 hf fun w => ?_
  have hv := D.v1
  have h := rf_0 neg (c :: r.take q ++ 46 :: r.drop q) w hNL (by rw [hlM]; omega) (by rw [hlM]; omega) (by rw [hm]; simp; omega) hsd (by rw [hm]; exact Nat.ne_of_gt hv) (p + ((k - z : Nat) : Int)) (by rw [hm]; simp; omega)
  rw [hm] at h
  exact h
theorem txt_w (D : Dat d p x k z c r) (neg : Bool) (q : Nat) (hdp : (k : Int) + p = ((z + q : Nat) : Int)) (hq : z + q ≤ 6) (hx1 : 1 ≤ x) (hf : x < 9218868437227405312) : TxtOk neg d p x := by
  have hzk := D.zk
  have hrz := D.hrz
  have hdz : Dgs (c :: (r ++ List.replicate q 48)) := dgs_cons D.hc (dgs_app D.hr (dgs_zeros q))
  have hl : (c :: (r ++ List.replicate q 48)).length = z + q := by rw [List.length_cons, List.length_append, List.length_replicate]; omega
  have hz1 := D.z1
  have hv : vald (c :: (r ++ List.replicate q 48)) = vald (c :: r) * 10 ^ q := by
    have := vald_app (c :: r) (List.replicate q 48)
    rw [vald_zeros, List.length_replicate, Nat.add_zero] at this
    exact this
  have hr : DRnd (vald (c :: (r ++ List.replicate q 48))) 0 x := by
    rw [hv]
    refine drnd_down q ?_
    have h := D.rnd
    rw [show p + ((k - z : Nat) : Int) = 0 + (q : Int) by omega] at h
    exact h
  have h1 : 1 ≤ vald (c :: (r ++ List.replicate q 48)) := by rw [hv]; exact Nat.mul_pos D.v1 (Nat.pow_pos (by decide))
  have h17 : vald (c :: (r ++ List.replicate q 48)) < 100000000000000000 := by
    have h2 := vald_lt _ hdz
    rw [hl] at h2
    exact Nat.lt_of_lt_of_le h2 (Nat.le_trans (Nat.pow_le_pow_right (by decide) hq) (by decide))
  refine ⟨sgT neg ++ (c :: (r ++ List.replicate q 48)), numT_of (by simp) ((ch_sg neg).app (Ch.dgs hdz)), ?_, efg_w D neg q hdp hq, fun G hG => ?_⟩
  · rw [List.length_append, hl]
    have := sg_len neg
    omega
  have hlB : (r ++ List.replicate q 48).length ≤ 900 := by rw [List.length_append, List.length_replicate]; omega
  have h0 : (c :: (r ++ List.replicate q 48))[0]? ≠ some 48 := by intro h; exact D.h48 (Option.some.inj h)
  refine num_r hG neg c (r ++ List.replicate q 48) _ x 0 D.hc hlB h1 h17 (by decide) (by decide) hr hx1 hf fun w => ?_
  cases neg
  · have h := readFloat_pos (ofL (c :: (r ++ List.replicate q 48))) (c :: (r ++ List.replicate q 48)) w (toL_ofL _) hdz (by rw [hl]; omega) (by rw [hl]; omega) (.inr h0)
    have e : sgT false ++ c :: (r ++ List.replicate q 48) = c :: (r ++ List.replicate q 48) := rfl
    rw [e, ofL_size]
    exact h
  · exact readFloat_neg (ofL (45 :: c :: (r ++ List.replicate q 48))) (c :: (r ++ List.replicate q 48)) w (toL_ofL _) hdz (by rw [hl]; omega) (by rw [hl]; omega) (.inr h0)
theorem txt_any (D : Dat d p x k z c r) (neg : Bool) (p1 : -330 ≤ p) (p2 : p ≤ 294) (hx1 : 1 ≤ x) (hf : x < 9218868437227405312) : TxtOk neg d p x := by
  have hk := D.k17
  have hk1 := D.k1
  have hzk := D.zk
  have hz1 := D.z1
  obtain ⟨dp, hdp⟩ : ∃ dp, (k : Int) + p = dp := ⟨_, rfl⟩
  by_cases a : 7 ≤ dp
  · obtain ⟨e0, he⟩ : ∃ e0 : Nat, dp - 1 = e0 := ⟨(dp - 1).toNat, by omega⟩
    exact txt_e D neg true e0 (by rw [hdp]; exact he) (show 6 ≤ e0 by omega) (by omega) p1 p2 hx1 hf
  by_cases b : dp ≤ -4
  · obtain ⟨e0, he⟩ : ∃ e0 : Nat, dp - 1 = -(e0 : Int) := ⟨(1 - dp).toNat, by omega⟩
    exact txt_e D neg false e0 (by rw [hdp]; exact he) (show 5 ≤ e0 by omega) (by omega) p1 p2 hx1 hf
  by_cases c0 : dp ≤ 0
  · obtain ⟨q, hq⟩ : ∃ q : Nat, dp = -(q : Int) := ⟨(-dp).toNat, by omega⟩
    exact txt_f0 D neg q (by rw [hdp]; exact hq) (by omega) p1 p2 hx1 hf
  by_cases e : dp < z
  · obtain ⟨q, hq⟩ : ∃ q : Nat, dp = ((q + 1 : Nat) : Int) := ⟨(dp - 1).toNat, by omega⟩
    exact txt_f1 D neg q (by rw [hdp]; exact hq) (by omega) (by omega) p1 p2 hx1 hf
  · obtain ⟨q, hq⟩ : ∃ q : Nat, dp = ((z + q : Nat) : Int) := ⟨(dp - z).toNat, by omega⟩
    exact txt_w D neg q (by rw [hdp]; exact hq) (by omega) hx1 hf
/-- The float is a finite one. -/
def IsFin (x : Nat) : Prop := ∃ q : Bool × Nat, q.2 < 9218868437227405312 ∧ x = wrd q.1 q.2
def HasN (G : Errs) : Prop := ∀ w, Env G w → RdW w
theorem fin_nz (neg : Bool) (x : Nat) (hx1 : 1 ≤ x) (hf : x < 9218868437227405312) : ∃ T, NumT T ∧ T.length ≤ 1000 ∧ Ftoa TabsW (wrd neg x) T ∧ ∀ G, HasN G → NumReads G T (wrd neg x) := by
  have key : ∃ (d : Nat) (p : Int), 1 ≤ d ∧ d < 100000000000000000 ∧ -330 ≤ p ∧ p ≤ 294 ∧ DRnd d p x ∧ ∀ T, Efg neg d p T → Ftoa TabsW (wrd neg x) T := by
    by_cases h : x < 4503599627370496
    · exact ftoa_small x neg hx1 h
    · exact ftoa_normal x neg (Nat.not_lt.1 h) hf
  obtain ⟨d, p, h1, h2, h3, h4, h5, h6⟩ := key
  obtain ⟨k, z, c, r, D⟩ := dat_ex h1 h2 h5
  obtain ⟨T, t1, t2, t3, t4⟩ := txt_any D neg h3 h4 hx1 hf
  exact ⟨T, t1, t2, h6 T t3, t4⟩
theorem fin_zero (neg : Bool) : ∃ T, NumT T ∧ T.length ≤ 1000 ∧ Ftoa TabsW (wrd neg 0) T ∧ ∀ G, HasN G → NumReads G T (wrd neg 0) := by
  cases neg
  · have e1 : wBits false 0 = wrd false 0 := by decide +kernel
    have e2 : wText false 0 = [48] := by decide +kernel
    refine ⟨[48], by unfold NumT; decide, by decide, ?_, fun G hG => ?_⟩
    · have := ftoa_zero0
      rw [e1, e2] at this
      exact this
    · have := num_reads G (fun w hE => ⟨(hG w hE).tabs, (hG w hE).info, (hG w hE).opt⟩) (neg := false) (n := 0) ⟨by decide, fun _ => rfl⟩
      rw [e1, e2] at this
      exact this
  · refine ⟨[45, 48], by unfold NumT; decide, by decide, fun B0 dst w _ hown hB0 => ftoa_nzero B0 dst w hown hB0, fun G hG w hE => ?_⟩
    refine parse104' _ _ w (parse114' _ _ w (parse128' _ _ w (atof64_zero _ true w 0 (hG w hE).opt (fun w => special_sg true 48 [] ⟨by decide, by decide⟩ (by decide) w) fun w => ?_)))
    have h := readFloat_neg (ofL [45, 48]) [48] w (toL_ofL _) (dgs_cons ⟨by decide, by decide⟩ dgs_nil) (by decide) (by decide) (.inl (by decide))
    rw [show vald [48] = 0 from rfl] at h
    exact h
theorem fin_text {x : Nat} (h : IsFin x) : ∃ T, NumT T ∧ T.length ≤ 1000 ∧ Ftoa TabsW x T ∧ ∀ G, HasN G → NumReads G T x := by
  obtain ⟨⟨neg, n⟩, h1, h2⟩ := h
  rw [h2]
  rcases Nat.eq_zero_or_pos n with h0 | h0
  · have h0' : n = 0 := h0
    subst h0'
    exact fin_zero neg
  · exact fin_nz neg n h0 h1
open Classical in
/-- The text of a finite float. -/
noncomputable def ntF (x : Nat) : List UInt8 := if h : IsFin x then (fin_text h).choose else [48]
theorem ntF_spec {x : Nat} (h : IsFin x) : NumT (ntF x) ∧ (ntF x).length ≤ 1000 ∧ Ftoa TabsW x (ntF x) ∧ ∀ G, HasN G → NumReads G (ntF x) x := by
  unfold ntF
  rw [dif_pos h]
  exact (fin_text h).choose_spec
theorem ntF_writes {G : Errs} (hG : HasN G) {x : Nat} (h : IsFin x) : NumWrites G x (ntF x) := by
  obtain ⟨h1, h2, h3, _⟩ := ntF_spec h
  exact ⟨h2, fun w hE => number_calls TabsW _ _ h1.1 h3 w fun _ hb => (hG w hE).tabs.bel hb⟩
theorem ntF_ok {G : Errs} (hG : HasN G) {x : Nat} (h : IsFin x) : NumOk G ntF x := by
  obtain ⟨h1, _, _, h4⟩ := ntF_spec h
  exact ⟨h1, h4 G hG⟩
end Go.Proofs.YtghajgdiaopioaaGreatDoor

/- Walks: IsFinite (43). -/
namespace Go.Proofs.YtghajgdiaopioaaGreatDoor
open Go.RowKit

theorem read_high (x : Nat) (h : 9218868437227405312 ≤ x % 9223372036854775808) : (∃ s, Ieee.double.read x = .infinity s) ∨ ∃ s t, Ieee.double.read x = .nan s t := by
  unfold Ieee.Format.read
  rw [dbl_sw, dbl_bin, dbl_inf, dbl_lp, if_neg (by omega), if_neg (by omega)]
  split
  · exact .inl ⟨_, rfl⟩
  · exact .inr ⟨_, _, rfl⟩
theorem read_nan (x : Nat) (h : 9218868437227405312 < x % 9223372036854775808) : ∃ s t, Ieee.double.read x = .nan s t := by
  unfold Ieee.Format.read
  rw [dbl_sw, dbl_bin, dbl_inf, dbl_lp, if_neg (by omega), if_neg (by omega), if_neg (by omega)]
  exact ⟨_, _, rfl⟩
theorem sub_none (x : Nat) (h : 9218868437227405312 ≤ x % 9223372036854775808) : FloatKind.f64.format.sub x x = none := by
  show ((Ieee.double.read x).sum (Ieee.double.read x).opposite).map Ieee.double.write = none
  rcases read_high x h with ⟨s, h⟩ | ⟨s, t, h⟩
  · rw [h]; cases s <;> rfl
  · rw [h]; rfl
def tnan (t : Nat) : Nat := (t % 2) * 2 ^ 63 + 0x7ff0000000000000 + 1 + (t / 2) % (2 ^ 52 - 1)
theorem tnan_order (t : Nat) : FloatKind.f64.format.order (tnan t) 0 = none := by
  show (Ieee.double.read (tnan t)).order (Ieee.double.read 0) = none
  have h63 : (2 : Nat) ^ 63 = 9223372036854775808 := by decide
  have h52 : (2 : Nat) ^ 52 - 1 = 4503599627370495 := by decide
  have h : 9218868437227405312 < tnan t % 9223372036854775808 := by
    unfold tnan
    rw [h63, h52]
    have := Nat.mod_lt (t / 2) (show 0 < 4503599627370495 by decide)
    generalize t / 2 % 4503599627370495 = y at *
    omega
  obtain ⟨a, b, h⟩ := read_nan _ h
  rw [h]
  rfl
theorem run_sub_self (x : Nat) (w : World) : ∃ r w', (binOp .sub 47 (.float .f64 x) (.float .f64 x)).run Tryz.prog w = .ok (.float .f64 r) w' ∧ (∃ n, w' = w.drewN n) ∧ ((FloatKind.f64.format.order r 0 == some .eq) = true → x % 9223372036854775808 < 9218868437227405312) := by
  cases hs : FloatKind.f64.format.sub x x with
  | some r =>
    refine ⟨r, w, run_float_arith w .sub 47 .f64 x x r hs, ⟨0, rfl⟩, fun _ => ?_⟩
    rcases Nat.lt_or_ge (x % 9223372036854775808) 9218868437227405312 with h | h
    · exact h
    · rw [sub_none x h] at hs; cases hs
  | none =>
    have e : binOp .sub 47 (.float .f64 x) (.float .f64 x) = (do pure (.float .f64 (← choose (.nanBits .f64 x x)))) := by simp [binOp, Op.floatArith, hs]
    rw [e]
    refine ⟨_, _, rfl, ⟨1, rfl⟩, fun h => ?_⟩
    have h' : (FloatKind.f64.format.order (tnan _) 0 == some .eq) = true := h
    rw [tnan_order] at h'
    cases h'
theorem isFin_of (x : Nat) (hx : x < 18446744073709551616) (h : x % 9223372036854775808 < 9218868437227405312) : IsFin x := by
  refine ⟨(decide (9223372036854775808 ≤ x), x % 9223372036854775808), h, ?_⟩
  unfold wrd
  by_cases hc : 9223372036854775808 ≤ x
  · simp [hc]; omega
  · simp [hc]; omega
set_option maxRecDepth 10000 in
set_option maxHeartbeats 1000000 in
theorem tells43 : Tells 43 (fun x => x < 18446744073709551616) IsFin := fun x hx w => by
  obtain ⟨r, w1, hr, ⟨n, hw⟩, hq⟩ := run_sub_self x w
  have HW := Lib.hid hw
  have HQ := Lib.hid hq
  have HX := Lib.hid hx
  clear hw hq hx
  go_enter Tryz.func43, Tryz.ntmps43
  go_wp2
  go_ret
  have hbel : Bel w w1 := by rw [HW.out]; exact Bel.dr w n
  cases ho : (FloatKind.f64.format.order r 0 == some Ordering.eq) with
  | false => exact .inl ⟨rfl, hbel⟩
  | true => exact .inr ⟨rfl, hbel, isFin_of x HX.out (HQ.out ho)⟩
end Go.Proofs.YtghajgdiaopioaaGreatDoor

/- Walks: writes (13), where no word of the styles is laid. -/
namespace Go.Proofs.YtghajgdiaopioaaGreatDoor
open Go.RowKit
attribute [local go_sem] run_store_float run_store_iface run_store_nilIface

theorem ntW_writesN {G : Errs} (hG : HasN G) {x : Nat} (h : IsWh x) : NumWrites G x (ntW x) := by
  obtain ⟨neg, n, h1, h2, h3⟩ := ntW_spec h
  rw [h3, h2]
  exact num_writes G (fun w hE => (hG w hE).tabs) h1
theorem ntW_okN {G : Errs} (hG : HasN G) {x : Nat} (h : IsWh x) : NumOk G ntW x := by
  obtain ⟨neg, n, h1, h2, h3⟩ := ntW_spec h
  refine ⟨?_, ?_⟩
  · rw [h3]
    refine ⟨(wText_len neg n).1, fun c hc => ?_⟩
    have hd : isDg c ∨ c = 45 := by
      unfold wText at hc
      rcases List.mem_append.1 hc with hc | hc
      · right; cases neg <;> simp at hc; exact hc
      · left
        have := List.all_eq_true.1 chkR_all n (List.mem_range.2 (by have := h1.1; omega))
        unfold chkR at this
        simp only [Bool.and_eq_true, List.all_eq_true, decide_eq_true_eq] at this
        exact this.1.1.1.1 c hc
    rcases hd with ⟨hd1, hd2⟩ | rfl
    · refine ⟨?_, ?_, ?_, ?_, by omega⟩
      · simp only [isSp, Bool.or_eq_false_iff, beq_eq_false_iff_ne]
        refine ⟨⟨?_, ?_⟩, ?_⟩ <;> rintro rfl <;> exact absurd hd1 (by decide)
      · rintro rfl; exact absurd hd1 (by decide)
      · rintro rfl; exact absurd hd1 (by decide)
      · rintro rfl; exact absurd hd1 (by decide)
    · decide
  · rw [h3]
    have := num_reads G (fun w hE => ⟨(hG w hE).tabs, (hG w hE).info, (hG w hE).opt⟩) h1
    rw [← h2] at this
    exact this
theorem plain_allnN {G : Errs} (hG : HasN G) : AllN (NumOk G ntW) 0 (.line plainL) := fun p hp => ⟨ntW_okN hG (plain_wh p hp).1, ntW_okN hG (plain_wh p hp).2⟩
theorem plain_rdN {G : Errs} (hG : HasN G) : GeoReads G 0 lit19 (some (.line plainL)) := by
  have := geo_reads G ntW false (sp := []) (.inl rfl) 0 (.line plainL) (by simp [FullG, plainL]) (by simp [Small, plainL]) (plain_allnN hG) (by rw [plain_text]; decide)
  rwa [plain_text] at this
set_option maxRecDepth 10000 in
set_option maxHeartbeats 4000000 in
theorem writesN_calls (G : Errs) (hG : HasN G) (w : World) (hE : Env G w) : Calls Tryz.prog 13 #[] w fun e w' => e = .returned (.bool true) ∧ Bel w w' := by
  have h19 : (⟨#[76, 73, 78, 69, 83, 84, 82, 73, 78, 71, 40, 49, 32, 50, 44, 51, 32, 52, 41]⟩ : ByteArray) = ofL lit19 := rfl
  have h18 : (⟨#[76, 73, 78, 69, 83, 84, 82, 73, 78, 71, 40, 49, 32, 50, 44, 51]⟩ : ByteArray) = ofL lit18 := rfl
  have HR1 := Lib.hid (fun wx (hb : Bel w wx) => read_ok G 0 lit19 (.line plainL) wx (hE.bel hb) (plain_rdN hG) (by simp [Small, plainL]))
  have HR2 := Lib.hid (fun wx (hb : Bel w wx) => read_err0 G 0 lit18 wx (hE.bel hb) (cut_rd G))
  have HW := Lib.hid (fun wx (hb : Bel w wx) v (hv : ShpAt 2 wx v (toShp 0 (.line plainL))) => write_calls G ntW 0 2 v (.line plainL) wx (hE.bel hb) hv (by simp [Small, plainL]) (fun p hp => ⟨ntW_writesN hG (plain_wh p hp).1, ntW_writesN hG (plain_wh p hp).2⟩) (by rw [plain_text]; decide))
  rw [plain_text] at HW
  rw [← h19, ← h18] at *
  go_enter Tryz.func13, Tryz.ntmps13
  go_wp2_with fail
  refine (HR1.out w (Below.refl _ _)).mono ?_
  rintro e w1 ⟨⟨v, rfl, hv⟩, hb1⟩
  obtain ⟨k, a, n, c, a', n', c', rfl⟩ : ∃ k a n c a' n' c', v = .agg #[.int .i64 k, .slice a n c, .slice a' n' c'] := by
    obtain ⟨d', k, ls, ps, L, P, _, _, rfl, hL, hP⟩ := shpAt_slices hv
    obtain ⟨ao, cap, rfl⟩ := hL.slice
    obtain ⟨bo, cap2, rfl⟩ := partsAt_slice hP
    exact ⟨k, ao, _, cap, bo, _, cap2, rfl⟩
  have HV := Lib.hid hv
  have HB1 := Lib.hid hb1
  clear hv hb1
  go_wp2_with fail
  obtain ⟨w2, hw2⟩ : ∃ w2, w1.alloc (.cells #[.int .i64 k, .slice a n c, .slice a' n' c'] 25) = w2 := ⟨_, rfl⟩
  have hb2 : Bel w1 w2 := by rw [← hw2]; exact Bel.al _ _
  have hx2 : w2.heap[w1.heap.size]? = some (.cells #[.int .i64 k, .slice a n c, .slice a' n' c'] 25 (0, 0)) := by rw [← hw2]; exact heap_alloc_new _ _
  rw [hw2]
  clear hw2
  refine (HR2.out w2 (HB1.out.tr hb2)).mono ?_
  rintro e w3 ⟨rfl, hb3⟩
  have HB3 := Lib.hid (hb2.tr hb3)
  have HX3 := Lib.hid (hb3.heap hx2)
  clear hb2 hb3 hx2
  go_wp2_with fail
  obtain ⟨w4, hw4⟩ : ∃ w4, w3.alloc (.cells #[.int .i64 0, .slice none 0 0, .slice none 0 0] 25) = w4 := ⟨_, rfl⟩
  have hb4 : Bel w3 w4 := by rw [← hw4]; exact Bel.al _ _
  rw [hw4]
  clear hw4
  have HX4 := Lib.hid (hb4.heap HX3.out)
  have HB4 := Lib.hid (HB1.out.tr (HB3.out.tr hb4))
  have HV4 := Lib.hid (ShpAt.bel (HB3.out.tr hb4) _ _ _ HV.out)
  clear hb4
  have c0 : w4.cell? ⟨w1.heap.size, 0, none⟩ = some (.int .i64 k) := by simp [World.cell?, HX4.out]
  have c1 : w4.cell? ⟨w1.heap.size, 1, none⟩ = some (.slice a n c) := by simp [World.cell?, HX4.out]
  have c2 : w4.cell? ⟨w1.heap.size, 2, none⟩ = some (.slice a' n' c') := by simp [World.cell?, HX4.out]
  have hlen : LenS 2 (toShp 0 (.line plainL)) := small_lenS 0 _ (by simp [Small, plainL])
  have HLEN := Lib.hid hlen
  clear hlen
  go_region_held3 (fun w' => w'.cell? ⟨w1.heap.size, 0, none⟩ = some (.int .i64 k) ∧ w'.cell? ⟨w1.heap.size, 1, none⟩ = some (.slice a n c) ∧ w'.cell? ⟨w1.heap.size, 2, none⟩ = some (.slice a' n' c')) (first | exact keep3 hc (by assumption) | go_keep)
    (first | (go_at_call 27; refine (plain_calls _).mono ?_; rintro e w5 ⟨⟨p, rfl, hp⟩, hc⟩; have hbb : Bel w4 w5 := (by first | exact hbb.tr hc | exact (Bel.dr1 _).tr hc)) | (go_at_call 26; refine (sameShape_calls 2 2 2 _ _ (toShp 0 (.line plainL)) _ HLEN.out (ShpAt.bel hbb _ _ _ HV4.out) hp).mono ?_; rintro e w6 ⟨rfl, hc⟩; have hbb : Bel w4 w6 := hbb.tr hc) | (go_at_call 16; refine (HW.out _ (HB4.out.tr hbb) _ hp).mono ?_; rintro e w7 ⟨rfl, hc⟩; have hbb : Bel w4 w7 := hbb.tr hc))
  all_goals
    have HBB := Lib.hid (HB4.out.tr hbb)
    clear hbb hc hp
    (try simp only [Exit.then])
    go_wp2
    go_ret
    exact ⟨rfl, HBB.out⟩
end Go.Proofs.YtghajgdiaopioaaGreatDoor

/- Walks: the geometry of a finite shape is written and read. -/
namespace Go.Proofs.YtghajgdiaopioaaGreatDoor
open Go.RowKit

/-- A geometry with finite coordinates, full or empty, and not too great. -/
structure GoodF (g : Geo) : Prop where
  small : Small 4 g
  whole : AllN IsFin 4 g
  form : FullG 4 g ∨ EmptyG g
  pts : ptsN 6 (toShp 4 g) ≤ 300
theorem good_ofF (s : Shp) (h : isShp s = true) (hb : LenB 4 s) (hf : (emptyS 4 s || fullS 4 s) = true) (ha : AllS IsFin 4 s) : LenS 4 s ∧ (ptsOf 4 s).length ≤ 1000000 ∧ ∃ g, s = toShp 4 g ∧ GoodF g ∧ (fullS 4 s = true → FullG 4 g) ∧ (emptyS 4 s = true → EmptyG g) := by
  have hp := pts_small h hb
  have hok : okS 4 s = true := by unfold isShp at h; simp only [Bool.and_eq_true] at h; exact h.1
  have hl := lenS_of 4 s hok hp
  refine ⟨hl, by rw [ptsOf_length]; omega, ?_⟩
  have hd := pts_deep 4 2 s hok
  obtain ⟨g, rfl⟩ := okS_geo 4 s hok
  refine ⟨g, rfl, ⟨small_of 3 g hl, allN_of IsFin 3 g hok ha, ?_, ?_⟩, fullG_of 3 g, emptyG_of 3 g⟩
  · rw [Bool.or_eq_true] at hf
    rcases hf with hf | hf
    · exact .inr (emptyG_of 3 g hf)
    · exact .inl (fullG_of 3 g hf)
  · show ptsN (4 + 2) (toShp 4 g) ≤ 300
    rw [hd]; exact hp
theorem ntF_len (x : Nat) : (ntF x).length ≤ 1000 := by
  unfold ntF
  split
  · rename_i h; exact (fin_text h).choose_spec.2.1
  · decide
theorem empty_textF (low : Bool) (sp : List UInt8) (g : Geo) (h : EmptyG g) : ∃ (k : Nat) (ls : List (List Pt)) (ps : List Shp), 1 ≤ k ∧ k ≤ 7 ∧ toShp 4 g = .mk k ls ps ∧ geoT low sp ntF 4 g = wd low (kwOf k) ++ emp low ∧ (ptsOf 4 (toShp 4 g)).length = 0 := by
  cases g with
  | pt p => exact h.elim
  | line l => obtain rfl : l = [] := h; exact ⟨2, _, _, by decide, by decide, rfl, rfl, rfl⟩
  | poly l => obtain rfl : l = [] := h; exact ⟨3, _, _, by decide, by decide, rfl, rfl, rfl⟩
  | mpt l => obtain rfl : l = [] := h; exact ⟨4, _, _, by decide, by decide, rfl, rfl, rfl⟩
  | mline l => obtain rfl : l = [] := h; exact ⟨5, _, _, by decide, by decide, rfl, rfl, rfl⟩
  | mpoly l => obtain rfl : l = [] := h; exact ⟨6, _, _, by decide, by decide, rfl, rfl, rfl⟩
  | coll l => obtain rfl : l = [] := h; exact ⟨7, _, _, by decide, by decide, rfl, rfl, rfl⟩
theorem good_lenF (low : Bool) {sp : List UInt8} (hs : sp.length ≤ 1) (g : Geo) (h : GoodF g) : (geoT low sp ntF 4 g).length ≤ 1000000 := by
  rcases h.form with hf | he
  · have h1 := (geo_len ntF_len low hs 4 g hf).2
    have h2 := h.pts
    have h3 : (2040 + 23 * 4) * ptsN 6 (toShp 4 g) ≤ (2040 + 23 * 4) * 300 := Nat.mul_le_mul_left _ h2
    exact Nat.le_trans h1 (Nat.le_trans h3 (by decide))
  · obtain ⟨k, ls, ps, h1, h2, h3, h4, _⟩ := empty_textF low sp g he
    rw [h4, List.length_append, wl]
    have h5 : (kwOf k).length ≤ 18 := by
      match k, h1, h2 with
      | 1, _, _ => decide
      | 2, _, _ => decide
      | 3, _, _ => decide
      | 4, _, _ => decide
      | 5, _, _ => decide
      | 6, _, _ => decide
      | 7, _, _ => decide
    have h6 : (emp low).length = 6 := by cases low <;> rfl
    omega
theorem good_writeF {G : Errs} (hG : HasN G) (g : Geo) (h : GoodF g) (dd : Nat) (v : Value) (w : World) (hE : Env G w) (hv : ShpAt dd w v (toShp 4 g)) :
    Calls Tryz.prog 16 #[v] w fun e w' => e = .returned (.string (ofL (geoT false [] ntF 4 g))) ∧ Bel w w' :=
  write_calls G ntF 4 dd v g w hE hv h.small (AllN.mono (fun _ hx => ntF_writes hG hx) 4 g h.whole) (Nat.le_trans (good_lenF false (by decide) g h) (by decide))
theorem good_readsF {G : Errs} (hG : HasN G) (low : Bool) {sp : List UInt8} (hs : Spc sp) (g : Geo) (h : GoodF g) : GeoReads G 4 (geoT low sp ntF 4 g) (some g) := by
  have hsp : sp.length ≤ 1 := by rcases hs with rfl | rfl <;> simp
  rcases h.form with hf | he
  · exact geo_reads G ntF low hs 4 g hf h.small (AllN.mono (fun _ hx => ntF_ok hG hx) 4 g h.whole) (Nat.le_trans (good_lenF low hsp g h) (by decide))
  · exact geo_empty G ntF low sp 3 g he
theorem good_readF {G : Errs} (hG : HasN G) (low : Bool) {sp : List UInt8} (hs : Spc sp) (g : Geo) (h : GoodF g) (w : World) (hE : Env G w) :
    Calls Tryz.prog 15 #[.string (ofL (geoT low sp ntF 4 g))] w fun e w' => (∃ v, e = .returned (.tuple #[v, .bool true]) ∧ ShpAt 6 w' v (toShp 4 g)) ∧ Bel w w' :=
  read_ok G 4 _ g w hE (good_readsF hG low hs g h) h.small
end Go.Proofs.YtghajgdiaopioaaGreatDoor

/- Walks: FnTextThere (6). -/
namespace Go.Proofs.YtghajgdiaopioaaGreatDoor
open Go.RowKit
attribute [local go_sem] run_store_float run_store_iface run_store_nilIface

theorem Arg.finite {dd : Nat} {w : World} {v : Value} {s : Shp} (h : Arg dd w v s) (wx : World) (hb : Bel w wx) : Calls Tryz.prog 19 #[v] wx fun e w' => ∃ b, e = .returned (.bool b) ∧ Bel wx w' ∧ (b = true → isShp s = true ∧ AllS IsFin 4 s) :=
  finite_calls _ IsFin tells43 dd v s wx (fun hi => ⟨lenS_of 4 s (by unfold isShp at hi; simp only [Bool.and_eq_true] at hi; exact hi.1) (pts_small hi h.len), h.fl⟩) (ShpAt.bel hb _ _ _ h.at')
set_option maxRecDepth 10000 in
set_option maxHeartbeats 4000000 in
theorem fnTextThere_calls (G : Errs) (hG : HasN G) (dd : Nat) (v : Value) (s : Shp) (w : World) (hE : Env G w) (h : Arg dd w v s) : Calls Tryz.prog 6 #[v] w fun e w' => e = .returned (.bool true) ∧ Bel w w' := by
  have HZ := Lib.hid (fun wx (hb : Bel w wx) => zz1_calls dd v s wx (ShpAt.bel hb _ _ _ h.at'))
  have HWH := Lib.hid (fun wx (hb : Bel w wx) => h.finite wx hb)
  have HFU := Lib.hid (fun wx (hb : Bel w wx) (hi : isShp s = true) => h.isFull wx hb hi)
  have HWR := Lib.hid (fun wx (hb : Bel w wx) => writesN_calls G hG wx (hE.bel hb))
  have HGO := Lib.hid (fun (hi : isShp s = true) (hf : (emptyS 4 s || fullS 4 s) = true) (ha : AllS IsFin 4 s) => good_ofF s hi h.len hf ha)
  have HR := Lib.hid (fun g (hg : GoodF g) (e : s = toShp 4 g) wx (hb : Bel w wx) => (by rw [e]; exact good_readF hG false (sp := []) (.inl rfl) g hg wx (hE.bel hb) : Calls Tryz.prog 15 #[.string (ofL (geoT false [] ntF 4 g))] wx fun e w' => (∃ v, e = .returned (.tuple #[v, .bool true]) ∧ ShpAt 6 w' v s) ∧ Bel wx w'))
  have HS := Lib.hid (fun (u : Value) wx (hl : LenS 4 s) (hp : (ptsOf 4 s).length ≤ 1000000) (hb : Bel w wx) (hu : ShpAt 6 wx u s) => same_calls 4 6 dd u v s wx hl hp hu (ShpAt.bel hb _ _ _ h.at'))
  have HT := Lib.hid (fun g (hg : GoodF g) (e : s = toShp 4 g) wx (hb : Bel w wx) => good_writeF hG g hg dd v wx (hE.bel hb) (by rw [← e]; exact ShpAt.bel hb _ _ _ h.at'))
  obtain ⟨k, ao, n, c, bo, m, c', rfl⟩ : ∃ k ao n c bo m c', v = .agg #[.int .i64 k, .slice ao n c, .slice bo m c'] := by
    obtain ⟨d', k, ls, ps, L, P, _, _, rfl, hL, hP⟩ := shpAt_slices h.at'
    obtain ⟨ao, cap, rfl⟩ := hL.slice
    obtain ⟨bo, cap2, rfl⟩ := partsAt_slice hP
    exact ⟨k, ao, _, cap, bo, _, cap2, rfl⟩
  clear h hE
  go_enter Tryz.func6, Tryz.ntmps6
  go_wp2_with fail
  have hbx := box3_new w k ao n c bo m c'
  have hb0 : Bel w (w.alloc (.cells #[.int .i64 k, .slice ao n c, .slice bo m c'] 25)) := Bel.al _ _
  generalize w.alloc (.cells #[.int .i64 k, .slice ao n c, .slice bo m c'] 25) = w1 at *
  refine (HZ.out w1 hb0).mono ?_
  rintro e w2 ⟨⟨b, rfl⟩, hb2⟩
  have HB2 := Lib.hid (hb0.tr hb2)
  have HX2 := Lib.hid (hbx.bel hb2)
  clear hb0 hb2 hbx
  cases b with
  | false =>
    go_wp2
    go_ret
    exact ⟨rfl, HB2.out⟩
  | true =>
    obtain ⟨c0, c1, c2⟩ := HX2.out
    go_wp2_with fail
    clear c0 c1 c2
    refine (HWH.out w2 HB2.out).mono ?_
    rintro e w3 ⟨b, rfl, hb3, hq⟩
    have HB3 := Lib.hid (HB2.out.tr hb3)
    have HX3 := Lib.hid (HX2.out.bel hb3)
    have HQ := Lib.hid hq
    clear hb3 hq
    cases b with
    | false =>
      go_wp2_with fail
      refine (HWR.out w3 HB3.out).mono ?_
      rintro e w4 ⟨rfl, hb4⟩
      have HB4 := Lib.hid (HB3.out.tr hb4)
      clear hb4
      go_wp2
      go_ret
      exact ⟨rfl, HB4.out⟩
    | true =>
      obtain ⟨hi, ha⟩ := HQ.out rfl
      have HI := Lib.hid hi
      have HA := Lib.hid ha
      clear hi ha
      obtain ⟨c0, c1, c2⟩ := HX3.out
      go_wp2_with fail
      clear c0 c1 c2
      refine (HFU.out w3 HB3.out HI.out).mono ?_
      rintro e w4 ⟨rfl, hb4⟩
      have HB4 := Lib.hid (HB3.out.tr hb4)
      have HX4 := Lib.hid (HX3.out.bel hb4)
      clear hb4
      cases hf : (emptyS 4 s || fullS 4 s) with
      | false =>
        clear hf
        go_wp2_with fail
        refine (HWR.out w4 HB4.out).mono ?_
        rintro e w5 ⟨rfl, hb5⟩
        have HB5 := Lib.hid (HB4.out.tr hb5)
        clear hb5
        go_wp2
        go_ret
        exact ⟨rfl, HB5.out⟩
      | true =>
        obtain ⟨hl, hp, g, hs, hg, _, _⟩ := HGO.out HI.out hf HA.out
        have HR2 := Lib.hid (fun wx hb => HR.out g hg hs wx hb)
        have HT2 := Lib.hid (fun wx hb => HT.out g hg hs wx hb)
        have HS2 := Lib.hid (fun u wx hb hu => HS.out u wx hl hp hb hu)
        generalize ofL (geoT false [] ntF 4 g) = t at *
        clear hf hl hp hs hg
        obtain ⟨c0, c1, c2⟩ := HX4.out
        clear HT HR HS HGO HWH HFU HZ
        go_wp2_with fail
        clear c0 c1 c2
        refine (HT2.out w4 HB4.out).mono ?_
        rintro e w5 ⟨rfl, hb5⟩
        have HB5 := Lib.hid (HB4.out.tr hb5)
        have HX5 := Lib.hid (HX4.out.bel hb5)
        clear hb5 HX4
        go_wp2_with fail
        refine (HR2.out w5 HB5.out).mono ?_
        rintro e w6 ⟨⟨u, rfl, hu⟩, hb6⟩
        obtain ⟨k2, a2, n2, d2, a3, n3, d3, rfl⟩ : ∃ k a n c a' n' c', u = .agg #[.int .i64 k, .slice a n c, .slice a' n' c'] := by
          obtain ⟨d', k, ls, ps, L, P, _, _, rfl, hL, hP⟩ := shpAt_slices hu
          obtain ⟨ao, cap, rfl⟩ := hL.slice
          obtain ⟨bo, cap2, rfl⟩ := partsAt_slice hP
          exact ⟨k, ao, _, cap, bo, _, cap2, rfl⟩
        have HU := Lib.hid hu
        have HB6 := Lib.hid (HB5.out.tr hb6)
        have HX6 := Lib.hid (HX5.out.bel hb6)
        clear hb6 hu HX5
        go_wp2_with fail
        have HX7 := Lib.hid (HX6.out.bel (Bel.al w6 (.cells #[.int .i64 k2, .slice a2 n2 d2, .slice a3 n3 d3] 25)))
        have HU7 := Lib.hid (ShpAt.bel (Bel.al w6 (.cells #[.int .i64 k2, .slice a2 n2 d2, .slice a3 n3 d3] 25)) _ _ _ HU.out)
        have HY7 := Lib.hid (box3_new w6 k2 a2 n2 d2 a3 n3 d3)
        have HB7 := Lib.hid (HB6.out.tr (Bel.al w6 (.cells #[.int .i64 k2, .slice a2 n2 d2, .slice a3 n3 d3] 25)))
        generalize w6.alloc (.cells #[.int .i64 k2, .slice a2 n2 d2, .slice a3 n3 d3] 25) = w7 at *
        clear HX6 HU
        refine (HWR.out w7 HB7.out).mono ?_
        rintro e w8 ⟨rfl, hb8⟩
        have HB8 := Lib.hid (HB7.out.tr hb8)
        have HX8 := Lib.hid (HX7.out.bel hb8)
        have HY8 := Lib.hid (HY7.out.bel hb8)
        have HU8 := Lib.hid (ShpAt.bel hb8 _ _ _ HU7.out)
        clear hb8 HX7 HY7 HU7
        obtain ⟨c0, c1, c2⟩ := HX8.out
        obtain ⟨y0, y1, y2⟩ := HY8.out
        go_wp2_with fail
        clear c0 c1 c2 y0 y1 y2
        refine (HS2.out _ w8 HB8.out HU8.out).mono ?_
        rintro e w9 ⟨rfl, hb9⟩
        have HB9 := Lib.hid (HB8.out.tr hb9)
        clear hb9
        go_wp2
        go_ret
        exact ⟨rfl, HB9.out⟩
end Go.Proofs.YtghajgdiaopioaaGreatDoor
