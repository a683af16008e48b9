/- Walks: PointsOf. -/
import Derived.Test.YtghajgdiaopioaaGreatDoorW30
set_option linter.unusedVariables false
set_option linter.unusedSimpArgs false

namespace Go.Proofs.YtghajgdiaopioaaGreatDoor
open Go.RowKit
attribute [local go_sem] run_store_float run_store_iface run_store_nilIface

/-- All points of a shape. -/
def ptsOf : Nat → Shp → List Pt
  | 0, _ => []
  | d + 1, .mk _ ls ps => ls.flatten ++ (ps.map (ptsOf d)).flatten
theorem sum_take_le {α : Type} (f : α → Nat) (l : List α) (k : Nat) : ((l.take k).map f).sum ≤ (l.map f).sum := by
  conv => rhs; rw [← List.take_append_drop k l]
  rw [List.map_append, List.sum_append]
  omega
theorem ptsOf_length : ∀ (d : Nat) (s : Shp), (ptsOf d s).length = ptsN d s := by
  intro d
  induction d with
  | zero => intro s; rfl
  | succ d ih =>
    intro s
    obtain ⟨k, ls, ps⟩ := s
    rw [ptsOf, ptsN, List.length_append, List.length_flatten, List.length_flatten, List.map_map]
    congr 2
    exact List.map_congr_left fun p _ => ih p
theorem flatten_take_le (ls : List (List Pt)) (k : Nat) : (ls.take k).flatten.length ≤ ls.flatten.length := by
  rw [List.length_flatten, List.length_flatten]; exact sum_take_le _ _ _

set_option maxRecDepth 10000 in
set_option maxHeartbeats 8000000 in
theorem pointsOf_step (d dd : Nat) (k : Int) (ls : List (List Pt)) (ps : List Shp) (L P : Value) (w : World) (hL : RowAt PtsAt w L ls) (hP : PartsAt (ShpAt dd) w P ps) (h3 : ls.length ≤ 100000) (h4 : ps.length ≤ 100000) (hB : (ptsOf (d + 1) (.mk k ls ps)).length ≤ 1000000)
    (ih : ∀ p ∈ ps, (ptsOf d p).length ≤ 1000000 → ∀ (v : Value) (wx : World), ShpAt dd wx v p → Calls Tryz.prog 12 #[v] wx fun e w' => ∃ x, e = .returned x ∧ w'.ownsRow wx.heap.size 49 2 x (ptsOf d p).length (ptsCells (ptsOf d p)) ∧ Bel wx w') :
    Calls Tryz.prog 12 #[.agg #[.int .i64 k, L, P]] w fun e w' => ∃ x, e = .returned x ∧ w'.ownsRow w.heap.size 49 2 x (ptsOf (d + 1) (.mk k ls ps)).length (ptsCells (ptsOf (d + 1) (.mk k ls ps))) ∧ Bel w w' := by
  obtain ⟨i0, hi, hz0, hz1, hz2⟩ := info_parts (show (Tryz.prog.info? 49).map (fun i => (i.zero, i.size, i.bytes)) = some (some (.agg #[.float .f64 0, .float .f64 0]), 2, 16) by kernel_rfl)
  obtain ⟨ao, cap, rfl, -, hlc⟩ := hL
  obtain ⟨bo, cap2, rfl, -, hpc⟩ := hP
  have HLC := Lib.hid hlc
  have HPC := Lib.hid hpc
  have HIH := Lib.hid ih
  rw [ptsOf, List.length_append] at hB
  have HBB := Lib.hid hB
  clear hlc hpc ih hB
  go_enter Tryz.func12, Tryz.ntmps12
  go_wp2_with fail
  have hbox : ((w.alloc (.cells #[.int .i64 k, .slice ao ls.length cap, .slice bo ps.length cap2] 25)).alloc (.cells #[] 49)).heap[w.heap.size]? = some (.cells #[.int .i64 k, .slice ao ls.length cap, .slice bo ps.length cap2] 25) := (Bel.al _ _).heap (heap_alloc_new _ _)
  have hrow : ((w.alloc (.cells #[.int .i64 k, .slice ao ls.length cap, .slice bo ps.length cap2] 25)).alloc (.cells #[] 49)).ownsRow (w.heap.size + 1) 49 2 (.slice (some ⟨w.heap.size + 1, 0, none⟩) 0 0) 0 [] := ⟨by simp, .inr ⟨w.heap.size + 1, 0, #[], by simp, Nat.le_refl _, heap_alloc2 _ _ _, Nat.le_refl _, Nat.zero_le _, by simp, by simp⟩⟩
  have hb0 : Bel w ((w.alloc (.cells #[.int .i64 k, .slice ao ls.length cap, .slice bo ps.length cap2] 25)).alloc (.cells #[] 49)) := (Bel.al _ _).tr (Bel.al _ _)
  have HBOX := Lib.hid hbox
  have HROW := Lib.hid hrow
  have HB0 := Lib.hid hb0
  clear hbox hrow hb0
  generalize ((w.alloc (.cells #[.int .i64 k, .slice ao ls.length cap, .slice bo ps.length cap2] 25)).alloc (.cells #[] 49)) = w1 at *
  go_loopg [3, 12] ls.length (fun g s3 s12 wr => ∃ (i : Nat), i ≤ ls.length ∧ g = ls.length - i ∧ s12 = .int .i64 i ∧ Hid (wr.ownsRow (w.heap.size + 1) 49 2 s3 ((ls.take i).flatten).length (ptsCells (ls.take i).flatten) ∧ Bel w wr ∧ wr.heap[w.heap.size]? = some (.cells #[.int .i64 k, .slice ao ls.length cap, .slice bo ps.length cap2] 25)))
  case atStart => exact ⟨0, by omega, rfl, rfl, HROW.out, HB0.out, HBOX.out⟩
  case round =>
    obtain ⟨i, hi1, rfl, rfl, hh⟩ := hrel
    by_cases hlt : i < ls.length
    · obtain ⟨hown, hbel, hbx⟩ := hh.out
      obtain ⟨l, hl⟩ : ∃ l, ls[i]? = some l := ⟨_, List.getElem?_eq_getElem hlt⟩
      obtain ⟨a, x, rfl, c0, hx⟩ := HLC.out i l hl
      have c0' := hbel.cellOf c0
      have HX := Lib.hid (hx.bel hbel)
      obtain ⟨ao1, cap1, rfl⟩ := hx.slice
      have htk : (ls.take (i + 1)).flatten = (ls.take i).flatten ++ l := by rw [List.take_add_one, hl]; simp
      have hle := flatten_take_le ls (i + 1)
      rw [htk, List.length_append] at hle
      have hle2 : ((ls.take i).flatten).length + l.length ≤ 1000000000 := by have := HBB.out; omega
      have HTK := Lib.hid htk
      have HOWN := Lib.hid hown
      have HBEL := Lib.hid hbel
      have HBX := Lib.hid hbx
      have HLE2 := Lib.hid hle2
      clear hown hbel hbx hx c0 hl hh htk hle hle2
      go_wp2_with (at_builtin; refine wpList_append_pts _ rfl (.tmp 16) (.tmp 17) rfl (w.heap.size + 1) i0 hi hz0 hz1 hz2 _ _ _ rfl HOWN.out _ l rfl HX.out HLE2.out (by have := lt_heap HBX.out; omega) ?_)
      intro v' w' h2 h3
      have H2 := Lib.hid h2
      have H3 := Lib.hid h3
      clear h2 h3
      go_wp2
      go_roundg (ls.length - (i + 1))
      case measure => omega
      case rel =>
        refine ⟨i + 1, by omega, rfl, by go_num, ?_, ?_, ?_⟩
        · rw [HTK.out, List.length_append, show ptsCells ((ls.take i).flatten ++ l) = ptsCells (ls.take i).flatten ++ ptsCells l from by simp [ptsCells]]
          simpa using H2.out
        · refine HBEL.out.trans (Below.grown (Below.refl _ _) H3.out HBEL.out.size ?_)
          intro k hk
          have := (HOWN.out.lt k hk).1
          omega
        · exact grown_heap H3.out HBX.out (fun hc => by have := (HOWN.out.lt _ hc.symm).1; omega)
    · obtain rfl : i = ls.length := by omega
      have hkz : ¬ ((ls.length : Int) < (ls.length : Int)) := by omega
      have hh2 := hh.out
      rw [List.take_length] at hh2
      have HH2 := Lib.hid hh2
      have q2 : wr.cell? ⟨w.heap.size, 2, none⟩ = some (.slice bo ps.length cap2) := by simp [World.cell?, hh2.2.2]
      clear hh hh2
      go_wp2_with fail
      clear q2
      go_loopg [3, 23] ps.length (fun g s3 s23 wr => ∃ (i : Nat), i ≤ ps.length ∧ g = ps.length - i ∧ s23 = .int .i64 i ∧ Hid (wr.ownsRow (w.heap.size + 1) 49 2 s3 (ls.flatten ++ ((ps.take i).map (ptsOf d)).flatten).length (ptsCells (ls.flatten ++ ((ps.take i).map (ptsOf d)).flatten)) ∧ Bel w wr ∧ w.heap.size + 1 ≤ wr.heap.size))
      case atStart => exact ⟨0, by omega, rfl, rfl, by simpa using HH2.out.1, HH2.out.2.1, by have := lt_heap HH2.out.2.2; omega⟩
      case round =>
        obtain ⟨i, hj1, rfl, rfl, hq⟩ := hrel
        by_cases hlt2 : i < ps.length
        · obtain ⟨hown, hbel, hsz⟩ := hq.out
          have HSZ := Lib.hid hsz
          obtain ⟨s, hs⟩ : ∃ s, ps[i]? = some s := ⟨_, List.getElem?_eq_getElem hlt2⟩
          obtain ⟨a, c0, c1, c2, rfl, q0, q1, q2, hx⟩ := HPC.out i s hs
          have q0' := hbel.cellOf q0
          have q1' := hbel.cellOf q1
          have q2' := hbel.cellOf q2
          have htk : ((ps.take (i + 1)).map (ptsOf d)).flatten = ((ps.take i).map (ptsOf d)).flatten ++ ptsOf d s := by rw [List.take_add_one, hs]; simp
          have hle := flatten_take_le (ps.map (ptsOf d)) (i + 1)
          rw [← List.map_take, htk, List.length_append] at hle
          have hsl : (ptsOf d s).length ≤ 1000000 := by have := HBB.out; omega
          have hle2 : (ls.flatten ++ ((ps.take i).map (ptsOf d)).flatten).length + (ptsOf d s).length ≤ 1000000000 := by have := HBB.out; rw [List.length_append]; omega
          have HX := Lib.hid (fun wx (hb : Bel w wx) => HIH.out s (List.mem_of_getElem? hs) hsl (.agg #[c0, c1, c2]) wx (ShpAt.bel hb dd _ _ hx))
          obtain ⟨k2, a1, n1, k1, a2, n2, k3, rfl, rfl, rfl⟩ : ∃ k2 a1 n1 k1 a2 n2 k3, c0 = .int .i64 k2 ∧ c1 = .slice a1 n1 k1 ∧ c2 = .slice a2 n2 k3 := by
            obtain ⟨d', kk, lls, pps, L', P', rfl, rfl, he, hL', hP'⟩ := shpAt_slices hx
            cases he
            obtain ⟨a1, k1, rfl⟩ := hL'.slice
            obtain ⟨a2, k2, rfl⟩ := partsAt_slice hP'
            exact ⟨kk, _, _, _, _, _, _, rfl, rfl, rfl⟩
          have HTK := Lib.hid htk
          have HOWN := Lib.hid hown
          have HBEL := Lib.hid hbel
          have HLE2 := Lib.hid hle2
          clear hown hbel hsz hx q0 q1 q2 hs hq htk hle hle2 hsl
          go_wp2_with fail
          have hb2 : Bel wr (wr.alloc (.cells #[.int .i64 k2, .slice a1 n1 k1, .slice a2 n2 k3] 25)) := Bel.al _ _
          have HB2 := Lib.hid hb2
          clear hb2
          generalize wr.alloc (.cells #[.int .i64 k2, .slice a1 n1 k1, .slice a2 n2 k3] 25) = w2 at *
          refine (HX.out w2 (HBEL.out.tr HB2.out)).mono ?_
          rintro e w3 ⟨y, rfl, hy, hb3⟩
          have HB3 := Lib.hid (HB2.out.tr hb3)
          have HY := Lib.hid (own_pts hy)
          obtain ⟨ao1, cap1, rfl⟩ := own_slice hy
          clear hb3 hy
          go_wp2_with (at_builtin; refine wpList_append_pts _ rfl (.tmp 27) (.tmp 29) rfl (w.heap.size + 1) i0 hi hz0 hz1 hz2 _ _ _ rfl (ownsRow_bel HOWN.out HB3.out) _ (ptsOf d s) rfl HY.out HLE2.out (Nat.le_trans HSZ.out HB3.out.size) ?_)
          intro v' w' h2 h3
          have H2 := Lib.hid h2
          have H3 := Lib.hid h3
          clear h2 h3
          go_wp2
          go_roundg (ps.length - (i + 1))
          case measure => omega
          case rel =>
            refine ⟨i + 1, by omega, rfl, by go_num, ?_, ?_, Nat.le_trans HSZ.out (Nat.le_trans HB3.out.size H3.out.size)⟩
            · rw [HTK.out, ← List.append_assoc, List.length_append, show ptsCells (ls.flatten ++ ((ps.take i).map (ptsOf d)).flatten ++ ptsOf d s) = ptsCells (ls.flatten ++ ((ps.take i).map (ptsOf d)).flatten) ++ ptsCells (ptsOf d s) from by simp [ptsCells]]
              simpa using H2.out
            · refine (HBEL.out.tr HB3.out).trans (Below.grown (Below.refl _ _) H3.out (Nat.le_trans HBEL.out.size HB3.out.size) ?_)
              intro k hk
              have := (HOWN.out.lt k hk).1
              omega
        · obtain rfl : i = ps.length := by omega
          have hkz2 : ¬ ((ps.length : Int) < (ps.length : Int)) := by omega
          go_wp2
          go_ret
          obtain ⟨hown, hbel, -⟩ := hq.out
          rw [List.take_length] at hown
          exact ⟨_, rfl, ownsRow_base hown (Nat.le_succ _), hbel⟩
end Go.Proofs.YtghajgdiaopioaaGreatDoor

/- Walks: PointsOf by depth, isEmpty, IsFull. -/
namespace Go.Proofs.YtghajgdiaopioaaGreatDoor
open Go.RowKit
attribute [local go_sem] run_store_float run_store_iface run_store_nilIface

theorem pointsOf_all : ∀ (d dd : Nat) (v : Value) (s : Shp) (w : World), LenS d s → (ptsOf d s).length ≤ 1000000 → ShpAt dd w v s → Calls Tryz.prog 12 #[v] w fun e w' => ∃ x, e = .returned x ∧ w'.ownsRow w.heap.size 49 2 x (ptsOf d s).length (ptsCells (ptsOf d s)) ∧ Bel w w' := by
  intro d
  induction d with
  | zero => intro dd v s w h; exact h.elim
  | succ d ih =>
    intro dd v s w hl hb h
    obtain ⟨d', k, ls, ps, L, P, rfl, rfl, rfl, hL, hP⟩ := shpAt_slices h
    obtain ⟨h3, h4, h5, h6⟩ := hl
    exact pointsOf_step d d' k ls ps L P w hL hP h3 h4 hb fun p hp hb' v wx hv => ih d' v p wx (h6 p hp) hb' hv
/-- How many points: what the laws look at. -/
theorem pointsOf_len (d dd : Nat) (v : Value) (s : Shp) (w : World) (hl : LenS d s) (hb : (ptsOf d s).length ≤ 1000000) (h : ShpAt dd w v s) : Calls Tryz.prog 12 #[v] w fun e w' => (∃ ao cap, e = .returned (.slice ao (ptsOf d s).length cap)) ∧ Bel w w' :=
  (pointsOf_all d dd v s w hl hb h).mono fun e w' ⟨x, he, hx, hb⟩ => by
    obtain ⟨ao, cap, rfl⟩ := own_slice hx
    exact ⟨⟨ao, cap, he⟩, hb⟩

def emptyS (d : Nat) : Shp → Bool
  | .mk k ls ps => (ptsOf d (.mk k ls ps)).length == 0 && (ps.length == 0 && (ls.length == 0 || (k == 2 || k == 4)))
set_option maxRecDepth 10000 in
set_option maxHeartbeats 8000000 in
theorem isEmpty_calls (d dd : Nat) (v : Value) (s : Shp) (w : World) (hl : LenS d s) (hb : (ptsOf d s).length ≤ 1000000) (h : ShpAt dd w v s) : Calls Tryz.prog 24 #[v] w fun e w' => e = .returned (.bool (emptyS d s)) ∧ Bel w w' := by
  obtain ⟨d', k, ls, ps, L, P, rfl, rfl, rfl, hL, hP⟩ := shpAt_slices h
  have HP := Lib.hid (fun wx (hb' : Bel w wx) => pointsOf_len d (d' + 1) _ (.mk k ls ps) wx hl hb (ShpAt.bel hb' _ _ _ h))
  obtain ⟨ao, cap, rfl⟩ := hL.slice
  obtain ⟨bo, cap2, rfl⟩ := partsAt_slice hP
  have HS := Lib.hid (show emptyS d (.mk k ls ps) = ((ptsOf d (.mk k ls ps)).length == 0 && (ps.length == 0 && (ls.length == 0 || (k == 2 || k == 4)))) from rfl)
  clear h hL hP hl hb
  generalize (ptsOf d (.mk k ls ps)).length = n at *
  generalize emptyS d (.mk k ls ps) = r at *
  generalize ls.length = m at *
  generalize ps.length = q at *
  go_enter Tryz.func24, Tryz.ntmps24
  go_wp2_with fail
  have hbox : (w.alloc (.cells #[.int .i64 k, .slice ao m cap, .slice bo q cap2] 25)).heap[w.heap.size]? = some (.cells #[.int .i64 k, .slice ao m cap, .slice bo q cap2] 25) := heap_alloc_new _ _
  have hb0 : Bel w (w.alloc (.cells #[.int .i64 k, .slice ao m cap, .slice bo q cap2] 25)) := Bel.al _ _
  generalize w.alloc (.cells #[.int .i64 k, .slice ao m cap, .slice bo q cap2] 25) = w1 at *
  refine (HP.out w1 hb0).mono ?_
  rintro e w2 ⟨⟨co, cap3, rfl⟩, hb2⟩
  have hbx := hb2.heap hbox
  have e0 : w2.cell? ⟨w.heap.size, 0, none⟩ = some (.int .i64 k) := by simp [World.cell?, hbx]
  have e1 : w2.cell? ⟨w.heap.size, 1, none⟩ = some (.slice ao m cap) := by simp [World.cell?, hbx]
  have e2 : w2.cell? ⟨w.heap.size, 2, none⟩ = some (.slice bo q cap2) := by simp [World.cell?, hbx]
  have HB := Lib.hid (hb0.tr hb2)
  clear hb0 hb2 hbox hbx
  by_cases hn : n = 0
  · subst hn
    by_cases hq : q = 0
    · subst hq
      by_cases hm : m = 0
      · subst hm
        go_wp2
        go_ret
        exact ⟨by rw [HS.out]; rfl, HB.out⟩
      · have g1 : ((m : Int) == 0) = false := by simpa using hm
        by_cases hk2 : k = 2
        · subst hk2
          go_wp2
          go_ret
          exact ⟨by rw [HS.out]; simp, HB.out⟩
        · have g2 : (k == 2) = false := by simpa using hk2
          have HR := Lib.hid (show r = (k == 4) by rw [HS.out, g2]; simp [hm])
          clear hm hk2
          go_wp2
          go_ret
          exact ⟨by rw [HR.out]; rfl, HB.out⟩
    · have g1 : ((q : Int) == 0) = false := by simpa using hq
      have HR := Lib.hid (show r = false by rw [HS.out]; simp [hq])
      clear hq
      go_wp2
      go_ret
      exact ⟨by rw [HR.out]; rfl, HB.out⟩
  · have g1 : ((n : Int) == 0) = false := by simpa using hn
    have HR := Lib.hid (show r = false by rw [HS.out]; simp [hn])
    clear hn
    go_wp2
    go_ret
    exact ⟨by rw [HR.out]; rfl, HB.out⟩

set_option maxRecDepth 10000 in
set_option maxHeartbeats 8000000 in
theorem isFull_calls (d dd : Nat) (v : Value) (s : Shp) (w : World) (hok : okS d s = true) (hl : LenS d s) (hb : (ptsOf d s).length ≤ 1000000) (h : ShpAt dd w v s) : Calls Tryz.prog 11 #[v] w fun e w' => e = .returned (.bool (emptyS d s || fullS d s)) ∧ Bel w w' := by
  have HE := Lib.hid (fun wx (hb' : Bel w wx) => isEmpty_calls d dd v s wx hl hb (ShpAt.bel hb' _ _ _ h))
  have HF := Lib.hid (fun wx (hb' : Bel w wx) => full_calls d dd v s wx hok (ShpAt.bel hb' _ _ _ h))
  obtain ⟨d', k, ls, ps, L, P, rfl, rfl, rfl, hL, hP⟩ := shpAt_slices h
  obtain ⟨ao, cap, rfl⟩ := hL.slice
  obtain ⟨bo, cap2, rfl⟩ := partsAt_slice hP
  clear h hL hP hl hb hok
  generalize emptyS d (.mk k ls ps) = r1 at *
  generalize fullS d (.mk k ls ps) = r2 at *
  generalize ls.length = m at *
  generalize ps.length = q at *
  go_enter Tryz.func11, Tryz.ntmps11
  go_wp2_with fail
  have hbox : (w.alloc (.cells #[.int .i64 k, .slice ao m cap, .slice bo q cap2] 25)).heap[w.heap.size]? = some (.cells #[.int .i64 k, .slice ao m cap, .slice bo q cap2] 25) := heap_alloc_new _ _
  have hb0 : Bel w (w.alloc (.cells #[.int .i64 k, .slice ao m cap, .slice bo q cap2] 25)) := Bel.al _ _
  generalize w.alloc (.cells #[.int .i64 k, .slice ao m cap, .slice bo q cap2] 25) = w1 at *
  refine (HE.out w1 hb0).mono ?_
  rintro e w2 ⟨rfl, hb2⟩
  have hbx := hb2.heap hbox
  have e0 : w2.cell? ⟨w.heap.size, 0, none⟩ = some (.int .i64 k) := by simp [World.cell?, hbx]
  have e1 : w2.cell? ⟨w.heap.size, 1, none⟩ = some (.slice ao m cap) := by simp [World.cell?, hbx]
  have e2 : w2.cell? ⟨w.heap.size, 2, none⟩ = some (.slice bo q cap2) := by simp [World.cell?, hbx]
  have HB := Lib.hid (hb0.tr hb2)
  clear hb0 hb2 hbox hbx
  cases r1 with
  | true =>
    go_wp2
    go_ret
    exact ⟨rfl, HB.out⟩
  | false =>
    go_wp2_with fail
    refine (HF.out w2 HB.out).mono ?_
    rintro e w3 ⟨rfl, hb3⟩
    have HB3 := Lib.hid (HB.out.tr hb3)
    clear hb3
    go_wp2
    go_ret
    exact ⟨by simp, HB3.out⟩
end Go.Proofs.YtghajgdiaopioaaGreatDoor
