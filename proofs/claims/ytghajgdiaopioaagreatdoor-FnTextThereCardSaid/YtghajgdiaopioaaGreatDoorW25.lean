/- Walks: counted by depth; IsShape; zzFits. -/
import Derived.Test.YtghajgdiaopioaaGreatDoorW24
set_option linter.unusedVariables false
set_option linter.unusedSimpArgs false

namespace Go.Proofs.YtghajgdiaopioaaGreatDoor
open Go.RowKit
attribute [local go_sem] run_store_float run_store_iface run_store_nilIface

theorem sum_le_mul {α : Type} (f : α → Nat) (M : Nat) : ∀ l : List α, (∀ x ∈ l, f x ≤ M) → (l.map f).sum ≤ l.length * M := by
  intro l
  induction l with
  | nil => intro _; simp
  | cons a l ih =>
    intro h
    have h1 := h a (by simp)
    have h2 := ih fun x hx => h x (by simp [hx])
    rw [List.map_cons, List.sum_cons, List.length_cons, Nat.succ_mul]
    omega
theorem okS_parts {d : Nat} {k : Int} {ls : List (List Pt)} {ps : List Shp} (h : okS (d + 1) (.mk k ls ps) = true) : 1 ≤ k ∧ k ≤ 7 ∧ ls.length ≤ 40 ∧ ps.length ≤ 40 ∧ (∀ p ∈ ps, okS d p = true ∧ (k = 6 → p.kind = 3)) ∧ lastB k ls ps = true := by
  rw [okS] at h
  simp only [Bool.and_eq_true, decide_eq_true_eq, List.all_eq_true] at h
  obtain ⟨h1, h2, h3, h4, h5, h6⟩ := h
  refine ⟨h1, h2, h3, h4, fun p hp => ⟨(h5 p hp).1, fun hk => ?_⟩, h6⟩
  have := (h5 p hp).2
  rw [hk] at this
  simpa using this
theorem partsN_le : ∀ (d : Nat) (s : Shp), okS d s = true → partsN d s ≤ 41 ^ d := by
  intro d
  induction d with
  | zero => intro s h; simp [okS] at h
  | succ d ih =>
    intro s h
    obtain ⟨k, ls, ps⟩ := s
    obtain ⟨_, _, _, h4, h5, _⟩ := okS_parts h
    have h1 := sum_le_mul (partsN d) (41 ^ d) ps fun p hp => ih p (h5 p hp).1
    have h2 : ps.length * 41 ^ d ≤ 40 * 41 ^ d := Nat.mul_le_mul_right _ h4
    have h3 : 1 ≤ 41 ^ d := Nat.one_le_pow _ _ (by decide)
    rw [partsN, Nat.pow_succ]
    omega

theorem shpAt_slices {d : Nat} {w : World} {v : Value} {s : Shp} (h : ShpAt d w v s) : ∃ d' k ls ps L P, d = d' + 1 ∧ s = .mk k ls ps ∧ v = .agg #[.int .i64 k, L, P] ∧ RowAt PtsAt w L ls ∧ PartsAt (ShpAt d') w P ps := by
  cases d with
  | zero => exact h.elim
  | succ d =>
    obtain ⟨k, ls, ps⟩ := s
    obtain ⟨L, P, h1, h2, h3⟩ := h
    exact ⟨d, k, ls, ps, L, P, rfl, rfl, h1, h2, h3⟩
theorem partsAt_slice {R : World → Value → Shp → Prop} {w : World} {v : Value} {ps : List Shp} (h : PartsAt R w v ps) : ∃ ao cap, v = .slice ao ps.length cap := by obtain ⟨ao, cap, h, _⟩ := h; exact ⟨ao, cap, h⟩

theorem counted_calls : ∀ (d : Nat), d ≤ 4 → ∀ (dd : Nat) (v : Value) (s : Shp) (w : World), ShpAt dd w v s → Calls Tryz.prog 44 #[v, .int .i64 d] w fun e w' => Cnt d s e ∧ Bel w w' := by
  intro d
  induction d with
  | zero =>
    intro _ dd v s w h
    obtain ⟨d', k, ls, ps, L, P, rfl, rfl, rfl, hL, hP⟩ := shpAt_slices h
    exact (counted_bad0 0 k ls ps L P w hL.slice (partsAt_slice hP)).mono fun e w' ⟨h1, h2⟩ => ⟨⟨0, 0, h1, fun h => by simp [okS] at h⟩, h2⟩
  | succ d ih =>
    intro hd dd v s w h
    obtain ⟨d', k, ls, ps, L, P, rfl, rfl, rfl, hL, hP⟩ := shpAt_slices h
    have hbad : okS (d + 1) (.mk k ls ps) = false → ∀ {e : Ending}, e = .returned (.tuple #[.int .i64 0, .int .i64 0, .bool false]) → Cnt (d + 1) (.mk k ls ps) e := fun hf e he => ⟨0, 0, by rw [hf]; exact he, fun h => by rw [hf] at h; cases h⟩
    rw [show (((d + 1 : Nat) : Int)) = (d : Int) + 1 from by omega]
    by_cases h1 : k < 1
    · exact (counted_bad1 d k ls ps L P w hL.slice (partsAt_slice hP) h1).mono fun e w' ⟨h2, h3⟩ => ⟨hbad (by rw [okS]; simp; omega) h2, h3⟩
    by_cases h2 : 7 < k
    · exact (counted_bad2 d k ls ps L P w hL.slice (partsAt_slice hP) h1 h2).mono fun e w' ⟨h2, h3⟩ => ⟨hbad (by rw [okS]; simp; omega) h2, h3⟩
    by_cases h3 : 40 < ls.length
    · exact (counted_bad3 d k ls ps L P w hL.slice (partsAt_slice hP) h1 h2 h3).mono fun e w' ⟨h2, h3⟩ => ⟨hbad (by rw [okS]; simp; omega) h2, h3⟩
    by_cases h4 : 40 < ps.length
    · exact (counted_bad4 d k ls ps L P w hL.slice (partsAt_slice hP) h1 h2 h3 h4).mono fun e w' ⟨h2, h3⟩ => ⟨hbad (by rw [okS]; simp; omega) h2, h3⟩
    refine counted_good d d' k ls ps L P w hL hP h1 h2 (by omega) (by omega) (fun p _ v wx hv => ih (by omega) d' v p wx hv) (fun p _ hp => ?_) (by omega)
    have := partsN_le d p hp
    have h5 : 41 ^ d ≤ 41 ^ 4 := Nat.pow_le_pow_right (by decide) (by omega)
    omega

/-- A shape is of few points and parts. -/
def isShp (s : Shp) : Bool := okS 4 s && (decide (wrap64 (ptsN 4 s) ≤ 300) && decide ((partsN 4 s : Int) ≤ 40))
set_option maxHeartbeats 4000000 in
theorem isShape_calls (dd : Nat) (v : Value) (s : Shp) (w : World) (h : ShpAt dd w v s) : Calls Tryz.prog 21 #[v] w fun e w' => e = .returned (.bool (isShp s)) ∧ Bel w w' := by
  obtain ⟨d', k, ls, ps, L, P, rfl, rfl, rfl, hL, hP⟩ := shpAt_slices h
  have HC := Lib.hid (fun wx (hb : Bel w wx) => counted_calls 4 (by omega) (d' + 1) _ (.mk k ls ps) wx (ShpAt.bel hb _ _ _ h))
  obtain ⟨ao, cap, rfl⟩ := hL.slice
  obtain ⟨bo, cap2, rfl⟩ := partsAt_slice hP
  clear h hL hP
  generalize Shp.mk k ls ps = s at *
  generalize ls.length = n at *
  generalize ps.length = m at *
  go_enter Tryz.func21, Tryz.ntmps21
  go_wp2_with fail
  refine (HC.out _ (Bel.al _ _)).mono ?_
  rintro e w1 ⟨⟨p, q, rfl, hpq⟩, hb⟩
  have HB := Lib.hid ((Bel.al w _).tr hb)
  have HPQ := Lib.hid hpq
  have HS := Lib.hid (show isShp s = (okS 4 s && (decide (wrap64 (ptsN 4 s) ≤ 300) && decide ((partsN 4 s : Int) ≤ 40))) from rfl)
  clear hb hpq
  cases hok : okS 4 s with
  | false =>
    have HOK := Lib.hid hok
    clear hok
    go_wp2
    go_ret
    exact ⟨by rw [HS.out, HOK.out]; rfl, HB.out⟩
  | true =>
    obtain ⟨h1, h2⟩ := HPQ.out hok
    have HOK := Lib.hid hok
    have HH1 := Lib.hid h1
    have HH2 := Lib.hid h2
    clear hok h1 h2 HPQ
    have HR := Lib.hid (show isShp s = (decide (p ≤ 300) && decide (q ≤ 40)) by rw [HS.out, HOK.out, HH1.out, HH2.out]; simp)
    by_cases hp : p ≤ 300
    · have t1 : decide (p ≤ 300) = true := by simpa using hp
      have HR2 := Lib.hid (show isShp s = decide (q ≤ 40) by rw [HR.out, t1]; simp)
      clear hp HR
      go_wp2
      go_ret
      exact ⟨by rw [HR2.out]; rfl, HB.out⟩
    · have t1 : decide (p ≤ 300) = false := by simpa using hp
      have HR2 := Lib.hid (show isShp s = false by rw [HR.out, t1]; simp)
      clear hp HR
      go_wp2
      go_ret
      exact ⟨by rw [HR2.out]; rfl, HB.out⟩
end Go.Proofs.YtghajgdiaopioaaGreatDoor

/- Walks: zzFits, full. -/
namespace Go.Proofs.YtghajgdiaopioaaGreatDoor
open Go.RowKit
attribute [local go_sem] run_store_float run_store_iface run_store_nilIface

set_option maxRecDepth 10000 in
set_option maxHeartbeats 4000000 in
theorem zz2_calls (L : Value) (ls : List (List Pt)) (w : World) (hL : RowAt PtsAt w L ls) : Calls Tryz.prog 20 #[L] w fun e w' => (∃ b, e = .returned (.bool b)) ∧ w = w' := by
  obtain ⟨ao, cap, rfl, hm, hlc⟩ := hL
  have HLC := Lib.hid hlc
  clear hlc
  by_cases h0 : ls.length ≤ 2147483647
  · have g0 : decide ((2147483647 : Int) < (ls.length : Int)) = false := by simp; omega
    clear hm
    go_enter Tryz.func20, Tryz.ntmps20
    go_wp2_with fail
    clear g0
    go_loopg [10] ls.length (fun g s10 wr => ∃ (i : Nat), i ≤ ls.length ∧ g = ls.length - i ∧ s10 = .int .i64 i ∧ w = wr)
    case atStart => exact ⟨0, by omega, rfl, rfl, rfl⟩
    case round =>
      obtain ⟨i, hi1, rfl, rfl, rfl⟩ := hrel
      by_cases hlt : i < ls.length
      · obtain ⟨l, hl⟩ : ∃ l, ls[i]? = some l := ⟨_, List.getElem?_eq_getElem hlt⟩
        obtain ⟨a, x, rfl, c0, hx⟩ := HLC.out i l hl
        obtain ⟨ao1, cap1, rfl⟩ := hx.slice
        clear hx hl
        by_cases h1 : l.length ≤ 2147483647
        · have g1 : decide ((2147483647 : Int) < (l.length : Int)) = false := by simp; omega
          go_wp2
          go_roundg (ls.length - (i + 1))
          case measure => omega
          case rel => exact ⟨i + 1, by omega, rfl, by go_num, rfl⟩
        · have g1 : decide ((2147483647 : Int) < (l.length : Int)) = true := by simp; omega
          go_wp2
          go_ret
          first | exact ⟨⟨_, rfl⟩, rfl⟩ | exact ⟨.inr rfl, rfl⟩ | exact ⟨.inl rfl, rfl⟩
      · obtain rfl : i = ls.length := by omega
        have hkz : ¬ ((ls.length : Int) < (ls.length : Int)) := by omega
        go_wp2
        go_ret
        first | exact ⟨⟨_, rfl⟩, rfl⟩ | exact ⟨.inr rfl, rfl⟩ | exact ⟨.inl rfl, rfl⟩
  · have g0 : decide ((2147483647 : Int) < (ls.length : Int)) = true := by simp; omega
    clear hm
    generalize ls.length = n at *
    go_enter Tryz.func20, Tryz.ntmps20
    go_wp2
    go_ret
    first | exact ⟨⟨_, rfl⟩, rfl⟩ | exact ⟨.inr rfl, rfl⟩ | exact ⟨.inl rfl, rfl⟩

set_option maxRecDepth 10000 in
set_option maxHeartbeats 4000000 in
theorem zz1_calls (dd : Nat) (v : Value) (s : Shp) (w : World) (h : ShpAt dd w v s) : Calls Tryz.prog 9 #[v] w fun e w' => (∃ b, e = .returned (.bool b)) ∧ Bel w w' := by
  obtain ⟨d', k, ls, ps, L, P, rfl, rfl, rfl, hL, hP⟩ := shpAt_slices h
  have HZ := Lib.hid (fun wx (hb : Bel w wx) => zz2_calls L ls wx (hL.bel hb fun x d h => h.bel hb))
  obtain ⟨ao, cap, rfl⟩ := hL.slice
  obtain ⟨bo, cap2, rfl⟩ := partsAt_slice hP
  clear h hL hP
  go_enter Tryz.func9, Tryz.ntmps9
  go_wp2_with fail
  have hbox : (w.alloc (.cells #[.int .i64 k, .slice ao ls.length cap, .slice bo ps.length cap2] 25)).heap[w.heap.size]? = some (.cells #[.int .i64 k, .slice ao ls.length cap, .slice bo ps.length cap2] 25) := heap_alloc_new _ _
  have hb0 : Bel w (w.alloc (.cells #[.int .i64 k, .slice ao ls.length cap, .slice bo ps.length cap2] 25)) := Bel.al _ _
  generalize w.alloc (.cells #[.int .i64 k, .slice ao ls.length cap, .slice bo ps.length cap2] 25) = w1 at *
  have HB := Lib.hid hb0
  have e2 : w1.cell? ⟨w.heap.size, 2, none⟩ = some (.slice bo ps.length cap2) := by simp [World.cell?, hbox]
  clear hbox hb0
  refine (HZ.out w1 HB.out).mono ?_
  rintro e w2 ⟨⟨b, rfl⟩, rfl⟩
  generalize ps.length = m at *
  cases b with
  | false =>
    go_wp2
    go_ret
    first | exact ⟨⟨_, rfl⟩, HB.out⟩ | exact ⟨.inr rfl, HB.out⟩ | exact ⟨.inl rfl, HB.out⟩
  | true =>
    by_cases h1 : m ≤ 2147483647
    · have g1 : decide ((2147483647 : Int) < (m : Int)) = false := by simp; omega
      go_wp2
      go_ret
      first | exact ⟨⟨_, rfl⟩, HB.out⟩ | exact ⟨.inr rfl, HB.out⟩ | exact ⟨.inl rfl, HB.out⟩
    · have g1 : decide ((2147483647 : Int) < (m : Int)) = true := by simp; omega
      go_wp2
      go_ret
      first | exact ⟨⟨_, rfl⟩, HB.out⟩ | exact ⟨.inr rfl, HB.out⟩ | exact ⟨.inl rfl, HB.out⟩

/-- No list, and no part, is empty. -/
def fullS : Nat → Shp → Bool
  | 0, _ => false
  | d + 1, .mk _ ls ps => ls.all (fun l => !l.isEmpty) && (ps.all (fullS d) && decide (0 < ls.length + ps.length))

set_option maxRecDepth 10000 in
set_option maxHeartbeats 8000000 in
theorem full_step (d dd : Nat) (k : Int) (ls : List (List Pt)) (ps : List Shp) (L P : Value) (w : World) (hL : RowAt PtsAt w L ls) (hP : PartsAt (ShpAt dd) w P ps) (h3 : ls.length ≤ 40) (h4 : ps.length ≤ 40)
    (ih : ∀ p ∈ ps, ∀ (v : Value) (wx : World), ShpAt dd wx v p → Calls Tryz.prog 25 #[v] wx fun e w' => e = .returned (.bool (fullS d p)) ∧ Bel wx w') :
    Calls Tryz.prog 25 #[.agg #[.int .i64 k, L, P]] w fun e w' => e = .returned (.bool (fullS (d + 1) (.mk k ls ps))) ∧ Bel w w' := by
  obtain ⟨ao, cap, rfl, -, hlc⟩ := hL
  obtain ⟨bo, cap2, rfl, -, hpc⟩ := hP
  have HLC := Lib.hid hlc
  have HPC := Lib.hid hpc
  have HIH := Lib.hid ih
  clear hlc hpc ih
  go_enter Tryz.func25, Tryz.ntmps25
  go_wp2_with fail
  have hbox : (w.alloc (.cells #[.int .i64 k, .slice ao ls.length cap, .slice bo ps.length cap2] 25)).heap[w.heap.size]? = some (.cells #[.int .i64 k, .slice ao ls.length cap, .slice bo ps.length cap2] 25) := heap_alloc_new _ _
  have hb0 : Bel w (w.alloc (.cells #[.int .i64 k, .slice ao ls.length cap, .slice bo ps.length cap2] 25)) := Bel.al _ _
  have HBOX := Lib.hid hbox
  have HB0 := Lib.hid hb0
  clear hbox hb0
  generalize w.alloc (.cells #[.int .i64 k, .slice ao ls.length cap, .slice bo ps.length cap2] 25) = w1 at *
  go_loopg [10] ls.length (fun g s10 wr => ∃ (i : Nat), i ≤ ls.length ∧ g = ls.length - i ∧ s10 = .int .i64 i ∧ w1 = wr ∧ Hid ((ls.take i).all (fun l => !l.isEmpty) = true))
  case atStart => exact ⟨0, by omega, rfl, rfl, rfl, by show _ = _; simp⟩
  case round =>
    obtain ⟨i, hi1, rfl, rfl, rfl, hz⟩ := hrel
    by_cases hlt : i < ls.length
    · obtain ⟨l, hl⟩ : ∃ l, ls[i]? = some l := ⟨_, List.getElem?_eq_getElem hlt⟩
      obtain ⟨a, x, rfl, c0, hx⟩ := HLC.out i l hl
      have c0' := HB0.out.cellOf c0
      obtain ⟨ao1, cap1, rfl⟩ := hx.slice
      have HLL := Lib.hid hl
      clear hx c0 hl
      by_cases h0 : l = []
      · subst h0
        have g0 : ((([] : List Pt).length : Int) == 0) = true := rfl
        go_wp2
        go_ret
        have hf : fullS (d + 1) (.mk k ls ps) = false := by
          have : ls.all (fun l => !l.isEmpty) = false := by
            rw [List.all_eq_false]
            exact ⟨[], List.mem_of_getElem? HLL.out, by simp⟩
          rw [fullS, this]; rfl
        exact ⟨by rw [hf]; rfl, HB0.out⟩
      · have g0 : ((l.length : Int) == 0) = false := by cases l with | nil => exact absurd rfl h0 | cons a b => simp; omega
        have HNE := Lib.hid h0
        clear h0
        go_wp2
        go_roundg (ls.length - (i + 1))
        case measure => omega
        case rel =>
          refine ⟨i + 1, by omega, rfl, by go_num, rfl, ?_⟩
          show _ = _
          rw [List.take_add_one, HLL.out, List.all_append, hz.out]
          have := HNE.out
          cases l with | nil => exact absurd rfl this | cons a b => rfl
    · obtain rfl : i = ls.length := by omega
      have hkz : ¬ ((ls.length : Int) < (ls.length : Int)) := by omega
      have hz0 := hz.out
      rw [List.take_length] at hz0
      have HZ0 := Lib.hid hz0
      clear hz hz0
      have q2 : w1.cell? ⟨w.heap.size, 2, none⟩ = some (.slice bo ps.length cap2) := by simp [World.cell?, HBOX.out]
      go_wp2_with fail
      clear q2
      go_loopg [21] ps.length (fun g s21 wr => ∃ (i : Nat), i ≤ ps.length ∧ g = ps.length - i ∧ s21 = .int .i64 i ∧ Hid ((ps.take i).all (fullS d) = true ∧ Bel w1 wr))
      case atStart => exact ⟨0, by omega, rfl, rfl, by simp, Below.refl _ _⟩
      case round =>
        obtain ⟨i, hi2, rfl, rfl, hz⟩ := hrel
        by_cases hlt2 : i < ps.length
        · obtain ⟨s, hs⟩ : ∃ s, ps[i]? = some s := ⟨_, List.getElem?_eq_getElem hlt2⟩
          obtain ⟨a, c0, c1, c2, rfl, q0, q1, q2, hx⟩ := HPC.out i s hs
          have hbel := HB0.out.tr hz.out.2
          have q0' := hbel.cellOf q0
          have q1' := hbel.cellOf q1
          have q2' := hbel.cellOf q2
          have HX := Lib.hid (fun wx (hb : Bel w wx) => HIH.out s (List.mem_of_getElem? hs) (.agg #[c0, c1, c2]) wx (ShpAt.bel hb dd _ _ hx))
          obtain ⟨k2, a1, n1, k1, a2, n2, k3, rfl, rfl, rfl⟩ : ∃ k2 a1 n1 k1 a2 n2 k3, c0 = .int .i64 k2 ∧ c1 = .slice a1 n1 k1 ∧ c2 = .slice a2 n2 k3 := by
            cases dd with
            | zero => exact hx.elim
            | succ dd =>
              obtain ⟨kk, lls, pps⟩ := s
              obtain ⟨L', P', he, ⟨a1, k1, h1, _⟩, a2, k2, h2, _⟩ := hx
              cases he
              exact ⟨kk, _, _, _, _, _, _, rfl, h1, h2⟩
          have HSS := Lib.hid hs
          have HBEL := Lib.hid hbel
          clear q0 q1 q2 hx hs hbel
          go_wp2_with fail
          have hb2 : Bel wr (wr.alloc (.cells #[.int .i64 k2, .slice a1 n1 k1, .slice a2 n2 k3] 25)) := Bel.al _ _
          have HB2 := Lib.hid hb2
          clear hb2
          generalize wr.alloc (.cells #[.int .i64 k2, .slice a1 n1 k1, .slice a2 n2 k3] 25) = w2 at *
          refine (HX.out w2 (HBEL.out.tr HB2.out)).mono ?_
          rintro e w3 ⟨rfl, hb3⟩
          have HB3 := Lib.hid (HB2.out.tr hb3)
          clear hb3
          cases hok : fullS d s with
          | false =>
            have HOK := Lib.hid hok
            clear hok
            go_wp2
            go_ret
            have hf : fullS (d + 1) (.mk k ls ps) = false := by
              have : ps.all (fullS d) = false := by
                rw [List.all_eq_false]
                exact ⟨s, List.mem_of_getElem? HSS.out, by rw [HOK.out]; simp⟩
              rw [fullS, this]; simp
            exact ⟨by rw [hf]; rfl, HB0.out.tr (hz.out.2.tr HB3.out)⟩
          | true =>
            have HOK := Lib.hid hok
            clear hok
            go_wp2
            go_roundg (ps.length - (i + 1))
            case measure => omega
            case rel =>
              refine ⟨i + 1, by omega, rfl, by go_num, ?_, hz.out.2.tr HB3.out⟩
              rw [List.take_add_one, HSS.out, List.all_append, hz.out.1]
              simp [HOK.out]
        · obtain rfl : i = ps.length := by omega
          have hkz2 : ¬ ((ps.length : Int) < (ps.length : Int)) := by omega
          obtain ⟨hz1, hz2⟩ := hz.out
          rw [List.take_length] at hz1
          have hbx := hz2.heap HBOX.out
          have e1 : wr.cell? ⟨w.heap.size, 1, none⟩ = some (.slice ao ls.length cap) := by simp [World.cell?, hbx]
          have e2 : wr.cell? ⟨w.heap.size, 2, none⟩ = some (.slice bo ps.length cap2) := by simp [World.cell?, hbx]
          have HF := Lib.hid (show fullS (d + 1) (.mk k ls ps) = decide ((0 : Int) < (ls.length : Int) + (ps.length : Int)) ∧ Bel w wr from ⟨by rw [fullS, HZ0.out, hz1]; simp; omega, HB0.out.tr hz2⟩)
          clear hz hz1 hz2 hbx
          go_wp2
          go_ret
          exact ⟨by rw [HF.out.1]; rfl, HF.out.2⟩
theorem full_calls : ∀ (d dd : Nat) (v : Value) (s : Shp) (w : World), okS d s = true → ShpAt dd w v s → Calls Tryz.prog 25 #[v] w fun e w' => e = .returned (.bool (fullS d s)) ∧ Bel w w' := by
  intro d
  induction d with
  | zero => intro dd v s w h; simp [okS] at h
  | succ d ih =>
    intro dd v s w hok h
    obtain ⟨d', k, ls, ps, L, P, rfl, rfl, rfl, hL, hP⟩ := shpAt_slices h
    obtain ⟨_, _, h3, h4, h5, _⟩ := okS_parts hok
    exact full_step d d' k ls ps L P w hL hP h3 h4 fun p hp v wx hv => ih d' v p wx (h5 p hp).1 hv
end Go.Proofs.YtghajgdiaopioaaGreatDoor
