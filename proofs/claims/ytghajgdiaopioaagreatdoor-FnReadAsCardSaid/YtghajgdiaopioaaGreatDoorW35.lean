/- Walks: spec.Text of a point and of a line (printed by genBD.py). -/
import Derived.Test.YtghajgdiaopioaaGreatDoorW34
set_option linter.unusedVariables false
set_option linter.unusedSimpArgs false

namespace Go.Proofs.YtghajgdiaopioaaGreatDoor
open Go.RowKit
attribute [local go_sem] run_store_float run_store_iface run_store_nilIface
attribute [local go_sem ↓] Go.wp_at_zero Go.wp_at_succ

set_option maxRecDepth 100000 in
set_option maxHeartbeats 8000000 in
theorem text_line1 (K : World → Prop) (hK : ∀ w w', K w → Bel w w' → K w') (nt : Nat → List UInt8) (low : Bool) (sp : List UInt8) (d dd : Nat) (v : Value) (l : List Pt) (ps : List Shp) (w : World) (hk : K w) (hw : WEnv w) (hl : LenS d (.mk 1 [l] ps)) (hne : 0 < (ptsOf d (.mk 1 [l] ps)).length) (hb : (ptsOf d (.mk 1 [l] ps)).length ≤ 1000000) (h : ShpAt dd w v (.mk 1 [l] ps)) (hp : ∀ p ∈ l, Pairs K nt p) (hn : l.length ≤ 1000000) (hll : (lineT sp nt l).length ≤ 100000000) (hsp : sp.length ≤ 100) :
    Calls Tryz.prog 14 #[styV low sp, v] w fun e w' => e = .returned (.string (ofL (wd low (kwOf 1) ++ (sp ++ lineT sp nt l)))) ∧ Bel w w' := by
  have hwc := fun wx (hb : Bel w wx) => word_calls low sp 1 wx (hw.bel hb) (by decide) (by decide)
  have hpc := fun wx (hb' : Bel w wx) => pointsOf_len d dd v _ wx hl hb (ShpAt.bel hb' _ _ _ h)
  obtain ⟨d', k', ls', ps', L, P, rfl, hmk, rfl, hL, hP⟩ := shpAt_slices h
  cases hmk
  have hLc := hL
  obtain ⟨ao, cap, rfl, -, hlc⟩ := hLc
  obtain ⟨a, x, rfl, c0, hx⟩ := hlc 0 l rfl
  rw [show a.add 0 = a from rfl] at c0
  have hlt := fun wx (hb : Bel w wx) => listText_calls K hK nt low sp x l wx (hK _ _ hk hb) (hx.bel hb) hp hn hll hsp
  obtain ⟨xo, xcap, rfl⟩ := hx.slice
  obtain ⟨bo, cap2, rfl⟩ := partsAt_slice hP
  rw [styV] at hwc hlt ⊢
  have hz : (ofL (wd low (kwOf 1))).size ≤ 20 := by rw [ofL_size, wd_length]; decide
  have hzs : (ofL sp).size ≤ 100 := by rw [ofL_size]; exact hsp
  have hzt : (ofL (lineT sp nt l)).size ≤ 100000000 := by rw [ofL_size]; exact hll
  have HT := Lib.hid (show ofL (wd low (kwOf 1)) ++ ofL sp ++ ofL (lineT sp nt l) = ofL (wd low (kwOf 1) ++ (sp ++ lineT sp nt l)) by rw [ofL_app, ofL_app, List.append_assoc])
  generalize ofL (wd low (kwOf 1) ++ (sp ++ lineT sp nt l)) = res at *
  generalize ofL (wd low (kwOf 1)) = u at *
  generalize ofL (lineT sp nt l) = t at *
  generalize ofL sp = spS at *
  have HWC := Lib.hid hwc
  have HPC := Lib.hid hpc
  have HLT := Lib.hid hlt
  have n1 : ¬ (9223372036854775807 < u.size + spS.size) := by omega
  have n2 : ¬ (9223372036854775807 < u.size + spS.size + t.size) := by omega
  have hpn : (((ptsOf d (.mk 1 [l] ps)).length : Int) == 0) = false := by simp; intro hc; rw [hc] at hne; simp at hne
  clear h hL hP hl hw hwc hpc hlt hlc hx hp hk hK hb hne
  generalize (ptsOf d (.mk 1 [l] ps)).length = pn at *
  generalize ps.length = q at *
  go_enter Tryz.func14, Tryz.ntmps14
  go_wp2_with fail
  have hbx : ((w.alloc (.cells #[.bool low, .string spS] 31)).alloc (.cells #[.int .i64 1, .slice (some a) [l].length cap, .slice bo q cap2] 25)).heap[w.heap.size]? = some (.cells #[.bool low, .string spS] 31) := (Bel.al _ _).heap (heap_alloc_new _ _)
  have hby : ((w.alloc (.cells #[.bool low, .string spS] 31)).alloc (.cells #[.int .i64 1, .slice (some a) [l].length cap, .slice bo q cap2] 25)).heap[w.heap.size + 1]? = some (.cells #[.int .i64 1, .slice (some a) [l].length cap, .slice bo q cap2] 25) := heap_alloc2 _ _ _
  have hb0 : Bel w ((w.alloc (.cells #[.bool low, .string spS] 31)).alloc (.cells #[.int .i64 1, .slice (some a) [l].length cap, .slice bo q cap2] 25)) := (Bel.al _ _).tr (Bel.al _ _)
  have HBX := Lib.hid hbx
  have HBY := Lib.hid hby
  have HB0 := Lib.hid hb0
  have HC0 := Lib.hid c0
  clear hbx hby hb0 c0
  simp only [List.length_cons, List.length_nil, Nat.zero_add] at *
  generalize ((w.alloc (.cells #[.bool low, .string spS] 31)).alloc (.cells #[.int .i64 1, .slice (some a) 1 cap, .slice bo q cap2] 25)) = w1 at *
  refine (HWC.out w1 HB0.out).mono ?_
  rintro e w2 ⟨rfl, hb2⟩
  have HB2 := Lib.hid hb2
  have e0 : w2.cell? ⟨w.heap.size + 1, 0, none⟩ = some (.int .i64 1) := by simp [World.cell?, hb2.heap HBY.out]
  have e1 : w2.cell? ⟨w.heap.size + 1, 1, none⟩ = some (.slice (some a) 1 cap) := by simp [World.cell?, hb2.heap HBY.out]
  have e2 : w2.cell? ⟨w.heap.size + 1, 2, none⟩ = some (.slice bo q cap2) := by simp [World.cell?, hb2.heap HBY.out]
  clear hb2
  go_wp2_with fail
  refine (HPC.out w2 (HB0.out.tr HB2.out)).mono ?_
  rintro e w3 ⟨⟨co, cap5, rfl⟩, hb3⟩
  have HB3 := Lib.hid (HB0.out.tr (HB2.out.tr hb3))
  have e3 : w3.cell? ⟨w.heap.size, 0, none⟩ = some (.bool low) := by simp [World.cell?, (HB2.out.tr hb3).heap HBX.out]
  have e4 : w3.cell? ⟨w.heap.size, 1, none⟩ = some (.string spS) := by simp [World.cell?, (HB2.out.tr hb3).heap HBX.out]
  have e5 : w3.cell? ⟨w.heap.size + 1, 0, none⟩ = some (.int .i64 1) := by simp [World.cell?, (HB2.out.tr hb3).heap HBY.out]
  have e6 : w3.cell? ⟨w.heap.size + 1, 1, none⟩ = some (.slice (some a) 1 cap) := by simp [World.cell?, (HB2.out.tr hb3).heap HBY.out]
  have e7 := HB3.out.cellOf HC0.out
  clear hb3 e0 e1 e2
  go_wp2_with fail
  go_region_held3 (fun w' => w'.cell? ⟨w.heap.size, 0, none⟩ = some (.bool low) ∧ w'.cell? ⟨w.heap.size, 1, none⟩ = some (.string spS) ∧ w'.cell? ⟨w.heap.size + 1, 1, none⟩ = some (.slice (some a) 1 cap) ∧ w'.cell? a = some (.slice xo l.length xcap)) (first | exact ⟨hc.cellOf e3, hc.cellOf e4, hc.cellOf e6, hc.cellOf e7⟩ | go_keep)
    (first | (go_at_call 29; refine (HLT.out _ (HB3.out.tr (Bel.dr1 _))).mono ?_; rintro e w4 ⟨rfl, hc⟩))
  have HB4 := Lib.hid (HB3.out.tr ((Bel.dr1 _).tr hc))
  clear hc
  go_wp2
  go_ret
  exact ⟨by rw [← HT.out]; simp, HB4.out⟩

set_option maxRecDepth 100000 in
set_option maxHeartbeats 8000000 in
theorem text_line2 (K : World → Prop) (hK : ∀ w w', K w → Bel w w' → K w') (nt : Nat → List UInt8) (low : Bool) (sp : List UInt8) (d dd : Nat) (v : Value) (l : List Pt) (ps : List Shp) (w : World) (hk : K w) (hw : WEnv w) (hl : LenS d (.mk 2 [l] ps)) (hne : 0 < (ptsOf d (.mk 2 [l] ps)).length) (hb : (ptsOf d (.mk 2 [l] ps)).length ≤ 1000000) (h : ShpAt dd w v (.mk 2 [l] ps)) (hp : ∀ p ∈ l, Pairs K nt p) (hn : l.length ≤ 1000000) (hll : (lineT sp nt l).length ≤ 100000000) (hsp : sp.length ≤ 100) :
    Calls Tryz.prog 14 #[styV low sp, v] w fun e w' => e = .returned (.string (ofL (wd low (kwOf 2) ++ (sp ++ lineT sp nt l)))) ∧ Bel w w' := by
  have hwc := fun wx (hb : Bel w wx) => word_calls low sp 2 wx (hw.bel hb) (by decide) (by decide)
  have hpc := fun wx (hb' : Bel w wx) => pointsOf_len d dd v _ wx hl hb (ShpAt.bel hb' _ _ _ h)
  obtain ⟨d', k', ls', ps', L, P, rfl, hmk, rfl, hL, hP⟩ := shpAt_slices h
  cases hmk
  have hLc := hL
  obtain ⟨ao, cap, rfl, -, hlc⟩ := hLc
  obtain ⟨a, x, rfl, c0, hx⟩ := hlc 0 l rfl
  rw [show a.add 0 = a from rfl] at c0
  have hlt := fun wx (hb : Bel w wx) => listText_calls K hK nt low sp x l wx (hK _ _ hk hb) (hx.bel hb) hp hn hll hsp
  obtain ⟨xo, xcap, rfl⟩ := hx.slice
  obtain ⟨bo, cap2, rfl⟩ := partsAt_slice hP
  rw [styV] at hwc hlt ⊢
  have hz : (ofL (wd low (kwOf 2))).size ≤ 20 := by rw [ofL_size, wd_length]; decide
  have hzs : (ofL sp).size ≤ 100 := by rw [ofL_size]; exact hsp
  have hzt : (ofL (lineT sp nt l)).size ≤ 100000000 := by rw [ofL_size]; exact hll
  have HT := Lib.hid (show ofL (wd low (kwOf 2)) ++ ofL sp ++ ofL (lineT sp nt l) = ofL (wd low (kwOf 2) ++ (sp ++ lineT sp nt l)) by rw [ofL_app, ofL_app, List.append_assoc])
  generalize ofL (wd low (kwOf 2) ++ (sp ++ lineT sp nt l)) = res at *
  generalize ofL (wd low (kwOf 2)) = u at *
  generalize ofL (lineT sp nt l) = t at *
  generalize ofL sp = spS at *
  have HWC := Lib.hid hwc
  have HPC := Lib.hid hpc
  have HLT := Lib.hid hlt
  have n1 : ¬ (9223372036854775807 < u.size + spS.size) := by omega
  have n2 : ¬ (9223372036854775807 < u.size + spS.size + t.size) := by omega
  have hpn : (((ptsOf d (.mk 2 [l] ps)).length : Int) == 0) = false := by simp; intro hc; rw [hc] at hne; simp at hne
  clear h hL hP hl hw hwc hpc hlt hlc hx hp hk hK hb hne
  generalize (ptsOf d (.mk 2 [l] ps)).length = pn at *
  generalize ps.length = q at *
  go_enter Tryz.func14, Tryz.ntmps14
  go_wp2_with fail
  have hbx : ((w.alloc (.cells #[.bool low, .string spS] 31)).alloc (.cells #[.int .i64 2, .slice (some a) [l].length cap, .slice bo q cap2] 25)).heap[w.heap.size]? = some (.cells #[.bool low, .string spS] 31) := (Bel.al _ _).heap (heap_alloc_new _ _)
  have hby : ((w.alloc (.cells #[.bool low, .string spS] 31)).alloc (.cells #[.int .i64 2, .slice (some a) [l].length cap, .slice bo q cap2] 25)).heap[w.heap.size + 1]? = some (.cells #[.int .i64 2, .slice (some a) [l].length cap, .slice bo q cap2] 25) := heap_alloc2 _ _ _
  have hb0 : Bel w ((w.alloc (.cells #[.bool low, .string spS] 31)).alloc (.cells #[.int .i64 2, .slice (some a) [l].length cap, .slice bo q cap2] 25)) := (Bel.al _ _).tr (Bel.al _ _)
  have HBX := Lib.hid hbx
  have HBY := Lib.hid hby
  have HB0 := Lib.hid hb0
  have HC0 := Lib.hid c0
  clear hbx hby hb0 c0
  simp only [List.length_cons, List.length_nil, Nat.zero_add] at *
  generalize ((w.alloc (.cells #[.bool low, .string spS] 31)).alloc (.cells #[.int .i64 2, .slice (some a) 1 cap, .slice bo q cap2] 25)) = w1 at *
  refine (HWC.out w1 HB0.out).mono ?_
  rintro e w2 ⟨rfl, hb2⟩
  have HB2 := Lib.hid hb2
  have e0 : w2.cell? ⟨w.heap.size + 1, 0, none⟩ = some (.int .i64 2) := by simp [World.cell?, hb2.heap HBY.out]
  have e1 : w2.cell? ⟨w.heap.size + 1, 1, none⟩ = some (.slice (some a) 1 cap) := by simp [World.cell?, hb2.heap HBY.out]
  have e2 : w2.cell? ⟨w.heap.size + 1, 2, none⟩ = some (.slice bo q cap2) := by simp [World.cell?, hb2.heap HBY.out]
  clear hb2
  go_wp2_with fail
  refine (HPC.out w2 (HB0.out.tr HB2.out)).mono ?_
  rintro e w3 ⟨⟨co, cap5, rfl⟩, hb3⟩
  have HB3 := Lib.hid (HB0.out.tr (HB2.out.tr hb3))
  have e3 : w3.cell? ⟨w.heap.size, 0, none⟩ = some (.bool low) := by simp [World.cell?, (HB2.out.tr hb3).heap HBX.out]
  have e4 : w3.cell? ⟨w.heap.size, 1, none⟩ = some (.string spS) := by simp [World.cell?, (HB2.out.tr hb3).heap HBX.out]
  have e5 : w3.cell? ⟨w.heap.size + 1, 0, none⟩ = some (.int .i64 2) := by simp [World.cell?, (HB2.out.tr hb3).heap HBY.out]
  have e6 : w3.cell? ⟨w.heap.size + 1, 1, none⟩ = some (.slice (some a) 1 cap) := by simp [World.cell?, (HB2.out.tr hb3).heap HBY.out]
  have e7 := HB3.out.cellOf HC0.out
  clear hb3 e0 e1 e2
  go_wp2_with fail
  go_region_held3 (fun w' => w'.cell? ⟨w.heap.size, 0, none⟩ = some (.bool low) ∧ w'.cell? ⟨w.heap.size, 1, none⟩ = some (.string spS) ∧ w'.cell? ⟨w.heap.size + 1, 1, none⟩ = some (.slice (some a) 1 cap) ∧ w'.cell? a = some (.slice xo l.length xcap)) (first | exact ⟨hc.cellOf e3, hc.cellOf e4, hc.cellOf e6, hc.cellOf e7⟩ | go_keep)
    (first | (go_at_call 29; refine (HLT.out _ (HB3.out.tr (Bel.dr1 _))).mono ?_; rintro e w4 ⟨rfl, hc⟩))
  have HB4 := Lib.hid (HB3.out.tr ((Bel.dr1 _).tr hc))
  clear hc
  go_wp2
  go_ret
  exact ⟨by rw [← HT.out]; simp, HB4.out⟩
end Go.Proofs.YtghajgdiaopioaaGreatDoor

/- Walks: spec.Text of a polygon and of lines (printed by genBE.py). -/
namespace Go.Proofs.YtghajgdiaopioaaGreatDoor
open Go.RowKit
attribute [local go_sem] run_store_float run_store_iface run_store_nilIface
attribute [local go_sem ↓] Go.wp_at_zero Go.wp_at_succ

set_option maxRecDepth 100000 in
set_option maxHeartbeats 8000000 in
theorem text_rows3 (K : World → Prop) (hK : ∀ w w', K w → Bel w w' → K w') (nt : Nat → List UInt8) (low : Bool) (sp : List UInt8) (d dd : Nat) (v : Value) (ls : List (List Pt)) (ps : List Shp) (w : World) (hk : K w) (hw : WEnv w) (hl : LenS d (.mk 3 ls ps)) (hne : 0 < (ptsOf d (.mk 3 ls ps)).length) (hb : (ptsOf d (.mk 3 ls ps)).length ≤ 1000000) (h : ShpAt dd w v (.mk 3 ls ps)) (hp : ∀ y ∈ ls, ∀ p ∈ y, Pairs K nt p) (hls : ∀ y ∈ ls, y.length ≤ 1000000) (hn : ls.length ≤ 1000000) (hll : (brs sp (ls.map (lineT sp nt))).length ≤ 100000000) (hsp : sp.length ≤ 100) :
    Calls Tryz.prog 14 #[styV low sp, v] w fun e w' => e = .returned (.string (ofL (wd low (kwOf 3) ++ (sp ++ brs sp (ls.map (lineT sp nt)))))) ∧ Bel w w' := by
  have hwc := fun wx (hb : Bel w wx) => word_calls low sp 3 wx (hw.bel hb) (by decide) (by decide)
  have hpc := fun wx (hb' : Bel w wx) => pointsOf_len d dd v _ wx hl hb (ShpAt.bel hb' _ _ _ h)
  obtain ⟨d', k', ls', ps', L, P, rfl, hmk, rfl, hL, hP⟩ := shpAt_slices h
  cases hmk
  have hlt := fun wx (hb : Bel w wx) => listsText_calls K hK nt low sp L ls wx (hK _ _ hk hb) (rowAt_ptsAt_bel hb hL) hp hls hn hll hsp
  obtain ⟨ao, cap, rfl⟩ := hL.slice
  obtain ⟨bo, cap2, rfl⟩ := partsAt_slice hP
  rw [styV] at hwc hlt ⊢
  have hz : (ofL (wd low (kwOf 3))).size ≤ 20 := by rw [ofL_size, wd_length]; decide
  have hzs : (ofL sp).size ≤ 100 := by rw [ofL_size]; exact hsp
  have hzt : (ofL (brs sp (ls.map (lineT sp nt)))).size ≤ 100000000 := by rw [ofL_size]; exact hll
  have HT := Lib.hid (show ofL (wd low (kwOf 3)) ++ ofL sp ++ ofL (brs sp (ls.map (lineT sp nt))) = ofL (wd low (kwOf 3) ++ (sp ++ brs sp (ls.map (lineT sp nt)))) by rw [ofL_app, ofL_app, List.append_assoc])
  generalize ofL (wd low (kwOf 3) ++ (sp ++ brs sp (ls.map (lineT sp nt)))) = res at *
  generalize ofL (wd low (kwOf 3)) = u at *
  generalize ofL (brs sp (ls.map (lineT sp nt))) = t at *
  generalize ofL sp = spS at *
  have HWC := Lib.hid hwc
  have HPC := Lib.hid hpc
  have HLT := Lib.hid hlt
  have n1 : ¬ (9223372036854775807 < u.size + spS.size) := by omega
  have n2 : ¬ (9223372036854775807 < u.size + spS.size + t.size) := by omega
  have hpn : (((ptsOf d (.mk 3 ls ps)).length : Int) == 0) = false := by simp; intro hc; rw [hc] at hne; simp at hne
  clear h hL hP hl hw hwc hpc hlt hp hls hk hK hb hne
  generalize (ptsOf d (.mk 3 ls ps)).length = pn at *
  generalize ps.length = q at *
  go_enter Tryz.func14, Tryz.ntmps14
  go_wp2_with fail
  have hbx : ((w.alloc (.cells #[.bool low, .string spS] 31)).alloc (.cells #[.int .i64 3, .slice ao ls.length cap, .slice bo q cap2] 25)).heap[w.heap.size]? = some (.cells #[.bool low, .string spS] 31) := (Bel.al _ _).heap (heap_alloc_new _ _)
  have hby : ((w.alloc (.cells #[.bool low, .string spS] 31)).alloc (.cells #[.int .i64 3, .slice ao ls.length cap, .slice bo q cap2] 25)).heap[w.heap.size + 1]? = some (.cells #[.int .i64 3, .slice ao ls.length cap, .slice bo q cap2] 25) := heap_alloc2 _ _ _
  have hb0 : Bel w ((w.alloc (.cells #[.bool low, .string spS] 31)).alloc (.cells #[.int .i64 3, .slice ao ls.length cap, .slice bo q cap2] 25)) := (Bel.al _ _).tr (Bel.al _ _)
  have HBX := Lib.hid hbx
  have HBY := Lib.hid hby
  have HB0 := Lib.hid hb0
  clear hbx hby hb0
  generalize ((w.alloc (.cells #[.bool low, .string spS] 31)).alloc (.cells #[.int .i64 3, .slice ao ls.length cap, .slice bo q cap2] 25)) = w1 at *
  refine (HWC.out w1 HB0.out).mono ?_
  rintro e w2 ⟨rfl, hb2⟩
  have HB2 := Lib.hid hb2
  have e0 : w2.cell? ⟨w.heap.size + 1, 0, none⟩ = some (.int .i64 3) := by simp [World.cell?, hb2.heap HBY.out]
  have e1 : w2.cell? ⟨w.heap.size + 1, 1, none⟩ = some (.slice ao ls.length cap) := by simp [World.cell?, hb2.heap HBY.out]
  have e2 : w2.cell? ⟨w.heap.size + 1, 2, none⟩ = some (.slice bo q cap2) := by simp [World.cell?, hb2.heap HBY.out]
  clear hb2
  go_wp2_with fail
  refine (HPC.out w2 (HB0.out.tr HB2.out)).mono ?_
  rintro e w3 ⟨⟨co, cap5, rfl⟩, hb3⟩
  have HB3 := Lib.hid (HB0.out.tr (HB2.out.tr hb3))
  have e3 : w3.cell? ⟨w.heap.size, 0, none⟩ = some (.bool low) := by simp [World.cell?, (HB2.out.tr hb3).heap HBX.out]
  have e4 : w3.cell? ⟨w.heap.size, 1, none⟩ = some (.string spS) := by simp [World.cell?, (HB2.out.tr hb3).heap HBX.out]
  have e5 : w3.cell? ⟨w.heap.size + 1, 0, none⟩ = some (.int .i64 3) := by simp [World.cell?, (HB2.out.tr hb3).heap HBY.out]
  have e6 : w3.cell? ⟨w.heap.size + 1, 1, none⟩ = some (.slice ao ls.length cap) := by simp [World.cell?, (HB2.out.tr hb3).heap HBY.out]
  clear hb3 e0 e1 e2
  go_wp2_with fail
  refine (HLT.out w3 HB3.out).mono ?_
  rintro e w4 ⟨rfl, hc⟩
  have HB4 := Lib.hid (HB3.out.tr hc)
  clear hc
  go_wp2
  go_ret
  exact ⟨by rw [← HT.out]; simp, HB4.out⟩

set_option maxRecDepth 100000 in
set_option maxHeartbeats 8000000 in
theorem text_rows5 (K : World → Prop) (hK : ∀ w w', K w → Bel w w' → K w') (nt : Nat → List UInt8) (low : Bool) (sp : List UInt8) (d dd : Nat) (v : Value) (ls : List (List Pt)) (ps : List Shp) (w : World) (hk : K w) (hw : WEnv w) (hl : LenS d (.mk 5 ls ps)) (hne : 0 < (ptsOf d (.mk 5 ls ps)).length) (hb : (ptsOf d (.mk 5 ls ps)).length ≤ 1000000) (h : ShpAt dd w v (.mk 5 ls ps)) (hp : ∀ y ∈ ls, ∀ p ∈ y, Pairs K nt p) (hls : ∀ y ∈ ls, y.length ≤ 1000000) (hn : ls.length ≤ 1000000) (hll : (brs sp (ls.map (lineT sp nt))).length ≤ 100000000) (hsp : sp.length ≤ 100) :
    Calls Tryz.prog 14 #[styV low sp, v] w fun e w' => e = .returned (.string (ofL (wd low (kwOf 5) ++ (sp ++ brs sp (ls.map (lineT sp nt)))))) ∧ Bel w w' := by
  have hwc := fun wx (hb : Bel w wx) => word_calls low sp 5 wx (hw.bel hb) (by decide) (by decide)
  have hpc := fun wx (hb' : Bel w wx) => pointsOf_len d dd v _ wx hl hb (ShpAt.bel hb' _ _ _ h)
  obtain ⟨d', k', ls', ps', L, P, rfl, hmk, rfl, hL, hP⟩ := shpAt_slices h
  cases hmk
  have hlt := fun wx (hb : Bel w wx) => listsText_calls K hK nt low sp L ls wx (hK _ _ hk hb) (rowAt_ptsAt_bel hb hL) hp hls hn hll hsp
  obtain ⟨ao, cap, rfl⟩ := hL.slice
  obtain ⟨bo, cap2, rfl⟩ := partsAt_slice hP
  rw [styV] at hwc hlt ⊢
  have hz : (ofL (wd low (kwOf 5))).size ≤ 20 := by rw [ofL_size, wd_length]; decide
  have hzs : (ofL sp).size ≤ 100 := by rw [ofL_size]; exact hsp
  have hzt : (ofL (brs sp (ls.map (lineT sp nt)))).size ≤ 100000000 := by rw [ofL_size]; exact hll
  have HT := Lib.hid (show ofL (wd low (kwOf 5)) ++ ofL sp ++ ofL (brs sp (ls.map (lineT sp nt))) = ofL (wd low (kwOf 5) ++ (sp ++ brs sp (ls.map (lineT sp nt)))) by rw [ofL_app, ofL_app, List.append_assoc])
  generalize ofL (wd low (kwOf 5) ++ (sp ++ brs sp (ls.map (lineT sp nt)))) = res at *
  generalize ofL (wd low (kwOf 5)) = u at *
  generalize ofL (brs sp (ls.map (lineT sp nt))) = t at *
  generalize ofL sp = spS at *
  have HWC := Lib.hid hwc
  have HPC := Lib.hid hpc
  have HLT := Lib.hid hlt
  have n1 : ¬ (9223372036854775807 < u.size + spS.size) := by omega
  have n2 : ¬ (9223372036854775807 < u.size + spS.size + t.size) := by omega
  have hpn : (((ptsOf d (.mk 5 ls ps)).length : Int) == 0) = false := by simp; intro hc; rw [hc] at hne; simp at hne
  clear h hL hP hl hw hwc hpc hlt hp hls hk hK hb hne
  generalize (ptsOf d (.mk 5 ls ps)).length = pn at *
  generalize ps.length = q at *
  go_enter Tryz.func14, Tryz.ntmps14
  go_wp2_with fail
  have hbx : ((w.alloc (.cells #[.bool low, .string spS] 31)).alloc (.cells #[.int .i64 5, .slice ao ls.length cap, .slice bo q cap2] 25)).heap[w.heap.size]? = some (.cells #[.bool low, .string spS] 31) := (Bel.al _ _).heap (heap_alloc_new _ _)
  have hby : ((w.alloc (.cells #[.bool low, .string spS] 31)).alloc (.cells #[.int .i64 5, .slice ao ls.length cap, .slice bo q cap2] 25)).heap[w.heap.size + 1]? = some (.cells #[.int .i64 5, .slice ao ls.length cap, .slice bo q cap2] 25) := heap_alloc2 _ _ _
  have hb0 : Bel w ((w.alloc (.cells #[.bool low, .string spS] 31)).alloc (.cells #[.int .i64 5, .slice ao ls.length cap, .slice bo q cap2] 25)) := (Bel.al _ _).tr (Bel.al _ _)
  have HBX := Lib.hid hbx
  have HBY := Lib.hid hby
  have HB0 := Lib.hid hb0
  clear hbx hby hb0
  generalize ((w.alloc (.cells #[.bool low, .string spS] 31)).alloc (.cells #[.int .i64 5, .slice ao ls.length cap, .slice bo q cap2] 25)) = w1 at *
  refine (HWC.out w1 HB0.out).mono ?_
  rintro e w2 ⟨rfl, hb2⟩
  have HB2 := Lib.hid hb2
  have e0 : w2.cell? ⟨w.heap.size + 1, 0, none⟩ = some (.int .i64 5) := by simp [World.cell?, hb2.heap HBY.out]
  have e1 : w2.cell? ⟨w.heap.size + 1, 1, none⟩ = some (.slice ao ls.length cap) := by simp [World.cell?, hb2.heap HBY.out]
  have e2 : w2.cell? ⟨w.heap.size + 1, 2, none⟩ = some (.slice bo q cap2) := by simp [World.cell?, hb2.heap HBY.out]
  clear hb2
  go_wp2_with fail
  refine (HPC.out w2 (HB0.out.tr HB2.out)).mono ?_
  rintro e w3 ⟨⟨co, cap5, rfl⟩, hb3⟩
  have HB3 := Lib.hid (HB0.out.tr (HB2.out.tr hb3))
  have e3 : w3.cell? ⟨w.heap.size, 0, none⟩ = some (.bool low) := by simp [World.cell?, (HB2.out.tr hb3).heap HBX.out]
  have e4 : w3.cell? ⟨w.heap.size, 1, none⟩ = some (.string spS) := by simp [World.cell?, (HB2.out.tr hb3).heap HBX.out]
  have e5 : w3.cell? ⟨w.heap.size + 1, 0, none⟩ = some (.int .i64 5) := by simp [World.cell?, (HB2.out.tr hb3).heap HBY.out]
  have e6 : w3.cell? ⟨w.heap.size + 1, 1, none⟩ = some (.slice ao ls.length cap) := by simp [World.cell?, (HB2.out.tr hb3).heap HBY.out]
  clear hb3 e0 e1 e2
  go_wp2_with fail
  refine (HLT.out w3 HB3.out).mono ?_
  rintro e w4 ⟨rfl, hc⟩
  have HB4 := Lib.hid (HB3.out.tr hc)
  clear hc
  go_wp2
  go_ret
  exact ⟨by rw [← HT.out]; simp, HB4.out⟩
end Go.Proofs.YtghajgdiaopioaaGreatDoor
