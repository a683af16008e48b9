/- Walks: spec.Text of points (printed by genBF.py). -/
import Derived.Test.YtghajgdiaopioaaGreatDoorW35
set_option linter.unusedVariables false
set_option linter.unusedSimpArgs false

namespace Go.Proofs.YtghajgdiaopioaaGreatDoor
open Go.RowKit
attribute [local go_sem] run_store_float run_store_iface run_store_nilIface

theorem pts_one (w : World) (p : Pt) : PtsAt (w.alloc (.cells #[.float .f64 p.1, .float .f64 p.2] 49)) (.slice (some ⟨w.heap.size, 0, none⟩) 1 1) [p] :=
  own_pts (b := 0) (e := 49) ⟨by simp [ptsCells, ptCells], .inr ⟨w.heap.size, 1, _, rfl, Nat.zero_le _, heap_alloc_new w _, Nat.le_refl _, by simp [maxLen], by simp, by simp [ptsCells, ptCells]⟩⟩
theorem own_emptyB (w : World) (e : TypeId) (size : Nat) : (w.alloc (.cells #[] e)).ownsRow w.heap.size e size (.slice (some ⟨w.heap.size, 0, none⟩) 0 0) 0 [] :=
  ⟨by simp, .inr ⟨w.heap.size, 0, #[], rfl, Nat.le_refl _, heap_alloc_new w _, Nat.le_refl _, Nat.zero_le _, by simp, by simp⟩⟩

set_option maxRecDepth 100000 in
set_option maxHeartbeats 8000000 in
theorem text_mpt (K : World → Prop) (hK : ∀ w w', K w → Bel w w' → K w') (nt : Nat → List UInt8) (low : Bool) (sp : List UInt8) (d dd : Nat) (v : Value) (l : List Pt) (ps : List Shp) (w : World) (hk : K w) (hw : WEnv w) (hl : LenS d (.mk 4 [l] ps)) (hne : 0 < (ptsOf d (.mk 4 [l] ps)).length) (hb : (ptsOf d (.mk 4 [l] ps)).length ≤ 1000000) (h : ShpAt dd w v (.mk 4 [l] ps)) (hp : ∀ p ∈ l, Pairs K nt p) (hn : l.length ≤ 1000000) (hll : (brs sp (l.map fun p => lineT sp nt [p])).length ≤ 100000000) (hsp : sp.length ≤ 100) :
    Calls Tryz.prog 14 #[styV low sp, v] w fun e w' => e = .returned (.string (ofL (wd low (kwOf 4) ++ (sp ++ brs sp (l.map fun p => lineT sp nt [p]))))) ∧ Bel w w' := by
  have hwc := fun wx (hb : Bel w wx) => word_calls low sp 4 wx (hw.bel hb) (by decide) (by decide)
  have hpc := fun wx (hb' : Bel w wx) => pointsOf_len d dd v _ wx hl hb (ShpAt.bel hb' _ _ _ h)
  obtain ⟨d', k', ls', ps', L, P, rfl, hmk, rfl, hL, hP⟩ := shpAt_slices h
  cases hmk
  have hLc := hL
  obtain ⟨ao, cap, rfl, -, hlc⟩ := hLc
  obtain ⟨a, x, rfl, c0, hx⟩ := hlc 0 l rfl
  rw [show a.add 0 = a from rfl] at c0
  obtain ⟨i0, hi, hz0, hz1, hz2⟩ := info_parts info9
  have hx' := hx
  obtain ⟨xo', xcap', hxe, -, hxc⟩ := hx'
  have HXC := Lib.hid hxc
  have HP := Lib.hid hp
  have HKK := Lib.hid hK
  have HKW := Lib.hid hk
  have HSPL := Lib.hid hsp
  have HLL := Lib.hid hll
  subst hxe
  clear hxc
  obtain ⟨bo, cap2, rfl⟩ := partsAt_slice hP
  rw [styV] at hwc ⊢
  have hz : (ofL (wd low (kwOf 4))).size ≤ 20 := by rw [ofL_size, wd_length]; decide
  have hzs : (ofL sp).size ≤ 100 := by rw [ofL_size]; exact hsp
  have hzt : (ofL (brs sp (l.map fun p => lineT sp nt [p]))).size ≤ 100000000 := by rw [ofL_size]; exact hll
  have HT := Lib.hid (show ofL (wd low (kwOf 4)) ++ ofL sp ++ ofL (brs sp (l.map fun p => lineT sp nt [p])) = ofL (wd low (kwOf 4) ++ (sp ++ brs sp (l.map fun p => lineT sp nt [p]))) by rw [ofL_app, ofL_app, List.append_assoc])
  generalize ofL (wd low (kwOf 4) ++ (sp ++ brs sp (l.map fun p => lineT sp nt [p]))) = res at *
  generalize ofL (wd low (kwOf 4)) = u at *
  generalize hts : ofL (brs sp (l.map fun p => lineT sp nt [p])) = t at *
  have HTS := Lib.hid hts
  clear hts
  obtain ⟨spS, hspS⟩ : ∃ y, y = ofL sp := ⟨_, rfl⟩
  rw [← hspS] at hwc hzs HT ⊢
  have HSP := Lib.hid hspS
  clear hspS
  have HWC := Lib.hid hwc
  have HPC := Lib.hid hpc
  have n1 : ¬ (9223372036854775807 < u.size + spS.size) := by omega
  have n2 : ¬ (9223372036854775807 < u.size + spS.size + t.size) := by omega
  have hpn : (((ptsOf d (.mk 4 [l] ps)).length : Int) == 0) = false := by simp; intro hc; rw [hc] at hne; simp at hne
  clear h hL hP hl hw hwc hpc hlc hx hp hk hK hb hne
  generalize (ptsOf d (.mk 4 [l] ps)).length = pn at *
  generalize ps.length = q at *
  go_enter Tryz.func14, Tryz.ntmps14
  go_wp2_with fail
  have hbx : ((w.alloc (.cells #[.bool low, .string spS] 31)).alloc (.cells #[.int .i64 4, .slice (some a) [l].length cap, .slice bo q cap2] 25)).heap[w.heap.size]? = some (.cells #[.bool low, .string spS] 31) := (Bel.al _ _).heap (heap_alloc_new _ _)
  have hby : ((w.alloc (.cells #[.bool low, .string spS] 31)).alloc (.cells #[.int .i64 4, .slice (some a) [l].length cap, .slice bo q cap2] 25)).heap[w.heap.size + 1]? = some (.cells #[.int .i64 4, .slice (some a) [l].length cap, .slice bo q cap2] 25) := heap_alloc2 _ _ _
  have hb0 : Bel w ((w.alloc (.cells #[.bool low, .string spS] 31)).alloc (.cells #[.int .i64 4, .slice (some a) [l].length cap, .slice bo q cap2] 25)) := (Bel.al _ _).tr (Bel.al _ _)
  have HBX := Lib.hid hbx
  have HBY := Lib.hid hby
  have HB0 := Lib.hid hb0
  have HC0 := Lib.hid c0
  clear hbx hby hb0 c0
  simp only [List.length_cons, List.length_nil, Nat.zero_add] at *
  generalize ((w.alloc (.cells #[.bool low, .string spS] 31)).alloc (.cells #[.int .i64 4, .slice (some a) 1 cap, .slice bo q cap2] 25)) = w1 at *
  refine (HWC.out w1 HB0.out).mono ?_
  rintro e w2 ⟨rfl, hb2⟩
  have HB2 := Lib.hid hb2
  have e0 : w2.cell? ⟨w.heap.size + 1, 0, none⟩ = some (.int .i64 4) := by simp [World.cell?, hb2.heap HBY.out]
  have e1 : w2.cell? ⟨w.heap.size + 1, 1, none⟩ = some (.slice (some a) 1 cap) := by simp [World.cell?, hb2.heap HBY.out]
  have e2 : w2.cell? ⟨w.heap.size + 1, 2, none⟩ = some (.slice bo q cap2) := by simp [World.cell?, hb2.heap HBY.out]
  clear hb2
  go_wp2_with fail
  refine (HPC.out w2 (HB0.out.tr HB2.out)).mono ?_
  rintro e w3 ⟨⟨co, cap5, rfl⟩, hb3⟩
  have HB3 := Lib.hid (HB0.out.tr (HB2.out.tr hb3))
  have HBX3 := Lib.hid ((HB2.out.tr hb3).heap HBX.out)
  have e3 : w3.cell? ⟨w.heap.size, 0, none⟩ = some (.bool low) := by simp [World.cell?, (HB2.out.tr hb3).heap HBX.out]
  have e4 : w3.cell? ⟨w.heap.size, 1, none⟩ = some (.string spS) := by simp [World.cell?, (HB2.out.tr hb3).heap HBX.out]
  have e5 : w3.cell? ⟨w.heap.size + 1, 0, none⟩ = some (.int .i64 4) := by simp [World.cell?, (HB2.out.tr hb3).heap HBY.out]
  have e6 : w3.cell? ⟨w.heap.size + 1, 1, none⟩ = some (.slice (some a) 1 cap) := by simp [World.cell?, (HB2.out.tr hb3).heap HBY.out]
  have e7 := HB3.out.cellOf HC0.out
  clear hb3 e0 e1 e2
  have hrow : (w3.alloc (.cells #[] 9)).ownsRow w3.heap.size 9 1 (.slice (some ⟨w3.heap.size, 0, none⟩) 0 0) 0 [] := own_emptyB w3 9 1
  have hbx3 : (w3.alloc (.cells #[] 9)).heap[w.heap.size]? = some (.cells #[.bool low, .string spS] 31) := (Bel.al _ _).heap HBX3.out
  have g4 := (Bel.al w3 (.cells #[] 9)).cellOf e4
  have g6 := (Bel.al w3 (.cells #[] 9)).cellOf e6
  have g7 := (Bel.al w3 (.cells #[] 9)).cellOf e7
  have hb4 : Bel w (w3.alloc (.cells #[] 9)) := HB3.out.tr (Bel.al _ _)
  have HROW := Lib.hid hrow
  have HBX4 := Lib.hid hbx3
  have HB4 := Lib.hid hb4
  have hbase : w.heap.size ≤ w3.heap.size := HB3.out.size
  have hlt3 := lt_heap HBX3.out
  clear hrow hbx3 hb4
  go_wp2_with fail
  clear g4 g6 g7 e3 e4 e5 e6 e7
  have HSZ4 := Lib.hid (show w3.heap.size ≤ (w3.alloc (.cells #[] 9)).heap.size by simp)
  generalize w3.alloc (.cells #[] 9) = w4 at *
  generalize w3.heap.size = b3 at *
  go_loopg [6, 60] l.length (fun g s6 s60 wr => ∃ (i : Nat), i ≤ l.length ∧ g = l.length - i ∧ s60 = .int .i64 i ∧ Hid (wr.ownsRow b3 9 1 s6 i (strs ((l.take i).map fun p => lineT sp nt [p])) ∧ Bel w wr ∧ wr.heap[w.heap.size]? = some (.cells #[.bool low, .string spS] 31) ∧ b3 ≤ wr.heap.size))
  case atStart => exact ⟨0, by omega, rfl, rfl, HROW.out, HB4.out, HBX4.out, HSZ4.out⟩
  case round =>
    obtain ⟨i, hi1, rfl, rfl, hh⟩ := hrel
    by_cases hlt : i < l.length
    · obtain ⟨hown, hbel, hbx, hbs⟩ := hh.out
      obtain ⟨p, hp⟩ : ∃ p, l[i]? = some p := ⟨_, List.getElem?_eq_getElem hlt⟩
      obtain ⟨a2, rfl, c0, c1⟩ := HXC.out i p hp
      have c0' := hbel.cellOf c0
      have c1' := hbel.cellOf c1
      have hpm := List.mem_of_getElem? hp
      have hfit : (lineT sp nt [p]).length ≤ 100000000 := by
        have h1 := jn_step sp l (fun p => lineT sp nt [p]) i p hp
        have h2 := jn_take_le sp (l.map fun p => lineT sp nt [p]) (i + 1)
        rw [← List.map_take, h1] at h2
        have h3 := HLL.out
        rw [brs, List.length_append, List.length_cons] at h3
        simp at h3
        split at h2
        · omega
        · simp at h2; omega
      have hlt2 := fun wx v (hb : Bel w wx) hv => listText_calls K HKK.out nt low sp v [p] wx (HKK.out _ _ HKW.out hb) hv (fun p' hp' => by simp at hp'; subst hp'; exact HP.out _ hpm) (by simp) hfit HSPL.out
      rw [styV, ← HSP.out] at hlt2
      have HX := Lib.hid hlt2
      obtain ⟨x1, x2⟩ := p
      have e3 : wr.cell? ⟨w.heap.size, 0, none⟩ = some (.bool low) := by simp [World.cell?, hbx]
      have e4 : wr.cell? ⟨w.heap.size, 1, none⟩ = some (.string spS) := by simp [World.cell?, hbx]
      have g3 := (Bel.al wr (.cells #[.float .f64 x1, .float .f64 x2] 49)).cellOf e3
      have g4 := (Bel.al wr (.cells #[.float .f64 x1, .float .f64 x2] 49)).cellOf e4
      have HPA := Lib.hid hp
      have HOWN := Lib.hid hown
      have HBEL := Lib.hid hbel
      have HBX5 := Lib.hid hbx
      have HBS := Lib.hid hbs
      clear hown hbel hbx hbs c0 c1 hp hh hfit hlt2 hpm e3 e4
      go_wp2_with fail
      have hb5 : Bel wr (wr.alloc (.cells #[.float .f64 x1, .float .f64 x2] 49)) := Bel.al _ _
      have HB5 := Lib.hid hb5
      clear hb5 g3 g4
      rw [← show (wr.alloc (.cells #[.float .f64 x1, .float .f64 x2] 49)).heap.size = wr.heap.size + 1 from by simp]
      generalize wr.alloc (.cells #[.float .f64 x1, .float .f64 x2] 49) = w5 at *
      refine (HX.out _ _ ((HBEL.out.tr HB5.out).tr (Bel.al _ _)) (pts_one w5 (x1, x2))).mono ?_
      rintro e w6 ⟨rfl, hb6⟩
      have HB6 := Lib.hid (HB5.out.tr ((Bel.al _ _).tr hb6))
      clear hb6
      go_wp2_with (at_builtin; refine wpList_append1 _ [_] 9 rfl (.tmp 64) (.tmp 69) 46 rfl b3 i0 (.string ⟨#[]⟩) 1 16 Tryz.underlying46 hi hz0 hz1 hz2 rfl (by decide) _ i _ rfl (ownsRow_bel HOWN.out HB6.out) _ _ rfl rfl rfl ?_ ?_ ?_ ?_ ?_)
      · exact fun u hu => by simp at hu; subst hu; rfl
      · omega
      · unfold maxLen; omega
      · exact Nat.le_trans HBS.out HB6.out.size
      · intro v' w' h2 h3
        have H2 := Lib.hid h2
        have H3 := Lib.hid h3
        clear h2 h3
        go_wp2
        go_roundg (l.length - (i + 1))
        case measure => omega
        case rel =>
          refine ⟨i + 1, by omega, rfl, by go_num, ?_, ?_, ?_, Nat.le_trans HBS.out (Nat.le_trans HB6.out.size H3.out.size)⟩
          · rw [List.take_add_one, HPA.out, List.map_append, strs, List.map_append]
            have := H2.out
            simpa using this
          · refine (HBEL.out.tr HB6.out).trans (Below.grown (Below.refl _ _) H3.out (Nat.le_trans HBEL.out.size HB6.out.size) ?_)
            intro k hk
            have := (HOWN.out.lt k hk).1
            omega
          · exact grown_heap H3.out (HB6.out.heap HBX5.out) (fun hc => by have := (HOWN.out.lt _ hc.symm).1; omega)
    · obtain rfl : i = l.length := by omega
      have hkz : ¬ ((l.length : Int) < (l.length : Int)) := by omega
      obtain ⟨hown, hbel, hbx, hbs⟩ := hh.out
      rw [List.take_length] at hown
      have hown' : wr.ownsRow b3 9 1 u6 (l.map fun p => lineT sp nt [p]).length (strs (l.map fun p => lineT sp nt [p])) := by rw [List.length_map]; exact hown
      obtain ⟨ao5, cap6, rfl, hrd⟩ := own_rdS hown'
      have e0 : wr.cell? ⟨w.heap.size, 0, none⟩ = some (.bool low) := by simp [World.cell?, hbx]
      have e1 : wr.cell? ⟨w.heap.size, 1, none⟩ = some (.string spS) := by simp [World.cell?, hbx]
      have hj := joined_calls low sp (l.map fun p => lineT sp nt [p]) ao5 cap6 wr hrd (by rw [List.length_map]; exact hn) HLL.out HSPL.out
      rw [styV, ← HSP.out, List.length_map, HTS.out] at hj
      have HJ := Lib.hid hj
      have HBEL := Lib.hid hbel
      rw [List.length_map]
      clear hown hown' hbel hbx hbs hh hrd hj
      go_wp2_with fail
      refine HJ.out.mono ?_
      rintro e w7 ⟨rfl, hb7⟩
      have HB7 := Lib.hid (HBEL.out.tr hb7)
      clear hb7
      go_wp2
      go_ret
      exact ⟨by rw [← HT.out]; simp, HB7.out⟩
end Go.Proofs.YtghajgdiaopioaaGreatDoor

/- Walks: spec.Text of polygons and of mixed ones (printed by genBG.py). -/
namespace Go.Proofs.YtghajgdiaopioaaGreatDoor
open Go.RowKit
attribute [local go_sem] run_store_float run_store_iface run_store_nilIface


set_option maxRecDepth 100000 in
set_option maxHeartbeats 8000000 in
theorem text_parts7 {δ : Type} (K : World → Prop) (hK : ∀ w w', K w → Bel w w' → K w') (T : δ → List UInt8) (f : δ → Shp) (low : Bool) (sp : List UInt8) (d dd : Nat) (v : Value) (L0 : List (List Pt)) (gs : List δ) (w : World) (hk : K w) (hw : WEnv w) (hl : LenS d (.mk 7 L0 (gs.map f))) (hne : 0 < (ptsOf d (.mk 7 L0 (gs.map f))).length) (hb : (ptsOf d (.mk 7 L0 (gs.map f))).length ≤ 1000000) (h : ShpAt dd w v (.mk 7 L0 (gs.map f))) (hp : ∀ g ∈ gs, ∀ (dd : Nat) (v : Value) (wx : World), K wx → WEnv wx → ShpAt dd wx v (f g) → Calls Tryz.prog 14 #[styV low sp, v] wx fun e w' => e = .returned (.string (ofL (T g))) ∧ Bel wx w') (hn : gs.length ≤ 1000000) (hll : (brs sp (gs.map T)).length ≤ 100000000) (hsp : sp.length ≤ 100) :
    Calls Tryz.prog 14 #[styV low sp, v] w fun e w' => e = .returned (.string (ofL (wd low (kwOf 7) ++ (sp ++ brs sp (gs.map T))))) ∧ Bel w w' := by
  have hwc := fun wx (hb : Bel w wx) => word_calls low sp 7 wx (hw.bel hb) (by decide) (by decide)
  have hpc := fun wx (hb' : Bel w wx) => pointsOf_len d dd v _ wx hl hb (ShpAt.bel hb' _ _ _ h)
  obtain ⟨d', k', ls', ps', L, P, rfl, hmk, rfl, hL, hP⟩ := shpAt_slices h
  cases hmk
  obtain ⟨ao, cap, rfl⟩ := hL.slice
  obtain ⟨bo, cap2, rfl, -, hxc⟩ := hP
  obtain ⟨i0, hi, hz0, hz1, hz2⟩ := info_parts info9
  have HXC := Lib.hid hxc
  have HP := Lib.hid hp
  have HKK := Lib.hid hK
  have HKW := Lib.hid hk
  have HWW := Lib.hid hw
  have HSPL := Lib.hid hsp
  have HLL := Lib.hid hll
  have hpn : (((ptsOf d (.mk 7 L0 (gs.map f))).length : Int) == 0) = false := by simp; intro hc; rw [hc] at hne; simp at hne
  clear hxc hL h hl hne hp hK hk hw
  rw [List.length_map] at hpc ⊢
  rw [styV] at hwc ⊢
  have hz : (ofL (wd low (kwOf 7))).size ≤ 20 := by rw [ofL_size, wd_length]; decide
  have hzs : (ofL sp).size ≤ 100 := by rw [ofL_size]; exact hsp
  have hzt : (ofL (brs sp (gs.map T))).size ≤ 100000000 := by rw [ofL_size]; exact hll
  have HT := Lib.hid (show ofL (wd low (kwOf 7)) ++ ofL sp ++ ofL (brs sp (gs.map T)) = ofL (wd low (kwOf 7) ++ (sp ++ brs sp (gs.map T))) by rw [ofL_app, ofL_app, List.append_assoc])
  generalize ofL (wd low (kwOf 7) ++ (sp ++ brs sp (gs.map T))) = res at *
  generalize ofL (wd low (kwOf 7)) = u at *
  generalize hts : ofL (brs sp (gs.map T)) = t at *
  have HTS := Lib.hid hts
  clear hts
  obtain ⟨spS, hspS⟩ : ∃ y, y = ofL sp := ⟨_, rfl⟩
  rw [← hspS] at hwc hzs HT ⊢
  have HSP := Lib.hid hspS
  clear hspS
  have HWC := Lib.hid hwc
  have HPC := Lib.hid hpc
  have n1 : ¬ (9223372036854775807 < u.size + spS.size) := by omega
  have n2 : ¬ (9223372036854775807 < u.size + spS.size + t.size) := by omega
  clear hwc hpc hb
  generalize (ptsOf d (.mk 7 L0 (gs.map f))).length = pn at *
  go_enter Tryz.func14, Tryz.ntmps14
  go_wp2_with fail
  have hbx : ((w.alloc (.cells #[.bool low, .string spS] 31)).alloc (.cells #[.int .i64 7, .slice ao L0.length cap, .slice bo gs.length cap2] 25)).heap[w.heap.size]? = some (.cells #[.bool low, .string spS] 31) := (Bel.al _ _).heap (heap_alloc_new _ _)
  have hby : ((w.alloc (.cells #[.bool low, .string spS] 31)).alloc (.cells #[.int .i64 7, .slice ao L0.length cap, .slice bo gs.length cap2] 25)).heap[w.heap.size + 1]? = some (.cells #[.int .i64 7, .slice ao L0.length cap, .slice bo gs.length cap2] 25) := heap_alloc2 _ _ _
  have hb0 : Bel w ((w.alloc (.cells #[.bool low, .string spS] 31)).alloc (.cells #[.int .i64 7, .slice ao L0.length cap, .slice bo gs.length cap2] 25)) := (Bel.al _ _).tr (Bel.al _ _)
  have HBX := Lib.hid hbx
  have HBY := Lib.hid hby
  have HB0 := Lib.hid hb0
  clear hbx hby hb0
  generalize ((w.alloc (.cells #[.bool low, .string spS] 31)).alloc (.cells #[.int .i64 7, .slice ao L0.length cap, .slice bo gs.length cap2] 25)) = w1 at *
  refine (HWC.out w1 HB0.out).mono ?_
  rintro e w2 ⟨rfl, hb2⟩
  have HB2 := Lib.hid hb2
  have e0 : w2.cell? ⟨w.heap.size + 1, 0, none⟩ = some (.int .i64 7) := by simp [World.cell?, hb2.heap HBY.out]
  have e1 : w2.cell? ⟨w.heap.size + 1, 1, none⟩ = some (.slice ao L0.length cap) := by simp [World.cell?, hb2.heap HBY.out]
  have e2 : w2.cell? ⟨w.heap.size + 1, 2, none⟩ = some (.slice bo gs.length cap2) := by simp [World.cell?, hb2.heap HBY.out]
  clear hb2
  go_wp2_with fail
  refine (HPC.out w2 (HB0.out.tr HB2.out)).mono ?_
  rintro e w3 ⟨⟨co, cap5, rfl⟩, hb3⟩
  have HB3 := Lib.hid (HB0.out.tr (HB2.out.tr hb3))
  have HBX3 := Lib.hid ((HB2.out.tr hb3).heap HBX.out)
  have HBY3 := Lib.hid ((HB2.out.tr hb3).heap HBY.out)
  have e3 : w3.cell? ⟨w.heap.size, 0, none⟩ = some (.bool low) := by simp [World.cell?, HBX3.out]
  have e4 : w3.cell? ⟨w.heap.size, 1, none⟩ = some (.string spS) := by simp [World.cell?, HBX3.out]
  have e5 : w3.cell? ⟨w.heap.size + 1, 0, none⟩ = some (.int .i64 7) := by simp [World.cell?, HBY3.out]
  have e7 : w3.cell? ⟨w.heap.size + 1, 2, none⟩ = some (.slice bo gs.length cap2) := by simp [World.cell?, HBY3.out]
  clear hb3 e0 e1 e2
  have hrow : (w3.alloc (.cells #[] 9)).ownsRow w3.heap.size 9 1 (.slice (some ⟨w3.heap.size, 0, none⟩) 0 0) 0 [] := own_emptyB w3 9 1
  have g7 := (Bel.al w3 (.cells #[] 9)).cellOf e7
  have HROW := Lib.hid hrow
  have HBX4 := Lib.hid ((Bel.al w3 (.cells #[] 9)).heap HBX3.out)
  have HBY4 := Lib.hid ((Bel.al w3 (.cells #[] 9)).heap HBY3.out)
  have HB4 := Lib.hid (HB3.out.tr (Bel.al w3 (.cells #[] 9)))
  have hbase : w.heap.size ≤ w3.heap.size := HB3.out.size
  have hlt3 := lt_heap HBY3.out
  clear hrow
  go_wp2_with fail
  clear g7 e3 e4 e5 e7
  have HSZ4 := Lib.hid (show w3.heap.size ≤ (w3.alloc (.cells #[] 9)).heap.size by simp)
  generalize w3.alloc (.cells #[] 9) = w4 at *
  generalize w3.heap.size = b3 at *
  go_loopg [9, 81] gs.length (fun g s6 s60 wr => ∃ (i : Nat), i ≤ gs.length ∧ g = gs.length - i ∧ s60 = .int .i64 i ∧ Hid (wr.ownsRow b3 9 1 s6 i (strs ((gs.take i).map T)) ∧ Bel w wr ∧ wr.heap[w.heap.size]? = some (.cells #[.bool low, .string spS] 31) ∧ wr.heap[w.heap.size + 1]? = some (.cells #[.int .i64 7, .slice ao L0.length cap, .slice bo gs.length cap2] 25) ∧ b3 ≤ wr.heap.size))
  case atStart => exact ⟨0, by omega, rfl, rfl, HROW.out, HB4.out, HBX4.out, HBY4.out, HSZ4.out⟩
  case round =>
    obtain ⟨i, hi1, rfl, rfl, hh⟩ := hrel
    by_cases hlt : i < gs.length
    · obtain ⟨hown, hbel, hbx, hby, hbs⟩ := hh.out
      obtain ⟨p, hp⟩ : ∃ p, gs[i]? = some p := ⟨_, List.getElem?_eq_getElem hlt⟩
      obtain ⟨a2, c0, c1, c2, rfl, q0, q1, q2, hx⟩ := HXC.out i (f p) (by rw [List.getElem?_map, hp]; rfl)
      have q0' := hbel.cellOf q0
      have q1' := hbel.cellOf q1
      have q2' := hbel.cellOf q2
      have hlt2 := fun wx (hb : Bel w wx) => HP.out p (List.mem_of_getElem? hp) d' (.agg #[c0, c1, c2]) wx (HKK.out _ _ HKW.out hb) (HWW.out.bel hb) (ShpAt.bel hb _ _ _ hx)
      rw [styV, ← HSP.out] at hlt2
      have HX := Lib.hid hlt2
      clear hlt2
      obtain ⟨k2, a1, m1, k1, a3, m2, k3, rfl, rfl, rfl⟩ : ∃ k2 a1 n1 k1 a2 n2 k3, c0 = .int .i64 k2 ∧ c1 = .slice a1 n1 k1 ∧ c2 = .slice a2 n2 k3 := by
        obtain ⟨d2, kk, lls, pps, L', P', rfl, he0, he, hL', hP'⟩ := shpAt_slices hx
        cases he
        obtain ⟨a1, k1, rfl⟩ := hL'.slice
        obtain ⟨a2, k2, rfl⟩ := partsAt_slice hP'
        exact ⟨kk, _, _, _, _, _, _, rfl, rfl, rfl⟩
      have e3 : wr.cell? ⟨w.heap.size, 0, none⟩ = some (.bool low) := by simp [World.cell?, hbx]
      have e4 : wr.cell? ⟨w.heap.size, 1, none⟩ = some (.string spS) := by simp [World.cell?, hbx]
      have e5 : wr.cell? ⟨w.heap.size + 1, 0, none⟩ = some (.int .i64 7) := by simp [World.cell?, hby]
      have g3 := (Bel.al wr (.cells #[.int .i64 k2, .slice a1 m1 k1, .slice a3 m2 k3] 25)).cellOf e3
      have g4 := (Bel.al wr (.cells #[.int .i64 k2, .slice a1 m1 k1, .slice a3 m2 k3] 25)).cellOf e4
      have g5 := (Bel.al wr (.cells #[.int .i64 k2, .slice a1 m1 k1, .slice a3 m2 k3] 25)).cellOf e5
      have HPA := Lib.hid hp
      have HOWN := Lib.hid hown
      have HBEL := Lib.hid hbel
      have HBX5 := Lib.hid hbx
      have HBY5 := Lib.hid hby
      have HBS := Lib.hid hbs
      clear hown hbel hbx hby hbs q0 q1 q2 hp hh hx e3 e4 e5
      go_wp2_with fail
      clear g3 g4 g5
      have HB5 := Lib.hid (Bel.al wr (.cells #[.int .i64 k2, .slice a1 m1 k1, .slice a3 m2 k3] 25))
      generalize wr.alloc (.cells #[.int .i64 k2, .slice a1 m1 k1, .slice a3 m2 k3] 25) = w5 at *
      refine (HX.out _ (HBEL.out.tr HB5.out)).mono ?_
      rintro e w6 ⟨rfl, hb6⟩
      have HB6 := Lib.hid (HB5.out.tr hb6)
      clear hb6
      go_wp2_with (at_builtin; refine wpList_append1 _ [_] 9 rfl (.tmp 95) (.tmp 99) 46 rfl b3 i0 (.string ⟨#[]⟩) 1 16 Tryz.underlying46 hi hz0 hz1 hz2 rfl (by decide) _ i _ rfl (ownsRow_bel HOWN.out HB6.out) _ _ rfl rfl rfl ?_ ?_ ?_ ?_ ?_)
      · exact fun u hu => by simp at hu; subst hu; rfl
      · omega
      · unfold maxLen; omega
      · exact Nat.le_trans HBS.out HB6.out.size
      · intro v' w' h2 h3
        have H2 := Lib.hid h2
        have H3 := Lib.hid h3
        clear h2 h3
        go_wp2
        go_roundg (gs.length - (i + 1))
        case measure => omega
        case rel =>
          refine ⟨i + 1, by omega, rfl, by go_num, ?_, ?_, ?_, ?_, Nat.le_trans HBS.out (Nat.le_trans HB6.out.size H3.out.size)⟩
          · rw [List.take_add_one, HPA.out, List.map_append, strs, List.map_append]
            have := H2.out
            simpa using this
          · refine (HBEL.out.tr HB6.out).trans (Below.grown (Below.refl _ _) H3.out (Nat.le_trans HBEL.out.size HB6.out.size) ?_)
            intro k hk
            have := (HOWN.out.lt k hk).1
            omega
          · exact grown_heap H3.out (HB6.out.heap HBX5.out) (fun hc => by have := (HOWN.out.lt _ hc.symm).1; omega)
          · exact grown_heap H3.out (HB6.out.heap HBY5.out) (fun hc => by have := (HOWN.out.lt _ hc.symm).1; omega)
    · obtain rfl : i = gs.length := by omega
      have hkz : ¬ ((gs.length : Int) < (gs.length : Int)) := by omega
      obtain ⟨hown, hbel, hbx, hby, hbs⟩ := hh.out
      rw [List.take_length] at hown
      have hown' : wr.ownsRow b3 9 1 u9 (gs.map T).length (strs (gs.map T)) := by rw [List.length_map]; exact hown
      obtain ⟨ao5, cap6, rfl, hrd⟩ := own_rdS hown'
      have e0 : wr.cell? ⟨w.heap.size, 0, none⟩ = some (.bool low) := by simp [World.cell?, hbx]
      have e1 : wr.cell? ⟨w.heap.size, 1, none⟩ = some (.string spS) := by simp [World.cell?, hbx]
      have hj := joined_calls low sp (gs.map T) ao5 cap6 wr hrd (by rw [List.length_map]; exact hn) HLL.out HSPL.out
      rw [styV, ← HSP.out, List.length_map, HTS.out] at hj
      have HJ := Lib.hid hj
      have HBEL := Lib.hid hbel
      rw [List.length_map]
      clear hown hown' hbel hbx hby hbs hh hrd hj
      go_wp2_with fail
      refine HJ.out.mono ?_
      rintro e w7 ⟨rfl, hb7⟩
      have HB7 := Lib.hid (HBEL.out.tr hb7)
      clear hb7
      go_wp2
      go_ret
      exact ⟨by rw [← HT.out]; simp, HB7.out⟩

set_option maxRecDepth 100000 in
set_option maxHeartbeats 8000000 in
theorem text_parts6 {δ : Type} (K : World → Prop) (hK : ∀ w w', K w → Bel w w' → K w') (T : δ → List UInt8) (f : δ → Shp) (low : Bool) (sp : List UInt8) (d dd : Nat) (v : Value) (L0 : List (List Pt)) (gs : List δ) (w : World) (hk : K w) (hw : WEnv w) (hl : LenS d (.mk 6 L0 (gs.map f))) (hne : 0 < (ptsOf d (.mk 6 L0 (gs.map f))).length) (hb : (ptsOf d (.mk 6 L0 (gs.map f))).length ≤ 1000000) (h : ShpAt dd w v (.mk 6 L0 (gs.map f))) (hp : ∀ g ∈ gs, ∃ kk y pp, f g = .mk kk y pp ∧ ∀ (v : Value) (wx : World), K wx → RowAt PtsAt wx v y → Calls Tryz.prog 30 #[styV low sp, v] wx fun e w' => e = .returned (.string (ofL (T g))) ∧ Bel wx w') (hn : gs.length ≤ 1000000) (hll : (brs sp (gs.map T)).length ≤ 100000000) (hsp : sp.length ≤ 100) :
    Calls Tryz.prog 14 #[styV low sp, v] w fun e w' => e = .returned (.string (ofL (wd low (kwOf 6) ++ (sp ++ brs sp (gs.map T))))) ∧ Bel w w' := by
  have hwc := fun wx (hb : Bel w wx) => word_calls low sp 6 wx (hw.bel hb) (by decide) (by decide)
  have hpc := fun wx (hb' : Bel w wx) => pointsOf_len d dd v _ wx hl hb (ShpAt.bel hb' _ _ _ h)
  obtain ⟨d', k', ls', ps', L, P, rfl, hmk, rfl, hL, hP⟩ := shpAt_slices h
  cases hmk
  obtain ⟨ao, cap, rfl⟩ := hL.slice
  obtain ⟨bo, cap2, rfl, -, hxc⟩ := hP
  obtain ⟨i0, hi, hz0, hz1, hz2⟩ := info_parts info9
  have HXC := Lib.hid hxc
  have HP := Lib.hid hp
  have HKK := Lib.hid hK
  have HKW := Lib.hid hk
  have HWW := Lib.hid hw
  have HSPL := Lib.hid hsp
  have HLL := Lib.hid hll
  have hpn : (((ptsOf d (.mk 6 L0 (gs.map f))).length : Int) == 0) = false := by simp; intro hc; rw [hc] at hne; simp at hne
  clear hxc hL h hl hne hp hK hk hw
  rw [List.length_map] at hpc ⊢
  rw [styV] at hwc ⊢
  have hz : (ofL (wd low (kwOf 6))).size ≤ 20 := by rw [ofL_size, wd_length]; decide
  have hzs : (ofL sp).size ≤ 100 := by rw [ofL_size]; exact hsp
  have hzt : (ofL (brs sp (gs.map T))).size ≤ 100000000 := by rw [ofL_size]; exact hll
  have HT := Lib.hid (show ofL (wd low (kwOf 6)) ++ ofL sp ++ ofL (brs sp (gs.map T)) = ofL (wd low (kwOf 6) ++ (sp ++ brs sp (gs.map T))) by rw [ofL_app, ofL_app, List.append_assoc])
  generalize ofL (wd low (kwOf 6) ++ (sp ++ brs sp (gs.map T))) = res at *
  generalize ofL (wd low (kwOf 6)) = u at *
  generalize hts : ofL (brs sp (gs.map T)) = t at *
  have HTS := Lib.hid hts
  clear hts
  obtain ⟨spS, hspS⟩ : ∃ y, y = ofL sp := ⟨_, rfl⟩
  rw [← hspS] at hwc hzs HT ⊢
  have HSP := Lib.hid hspS
  clear hspS
  have HWC := Lib.hid hwc
  have HPC := Lib.hid hpc
  have n1 : ¬ (9223372036854775807 < u.size + spS.size) := by omega
  have n2 : ¬ (9223372036854775807 < u.size + spS.size + t.size) := by omega
  clear hwc hpc hb
  generalize (ptsOf d (.mk 6 L0 (gs.map f))).length = pn at *
  go_enter Tryz.func14, Tryz.ntmps14
  go_wp2_with fail
  have hbx : ((w.alloc (.cells #[.bool low, .string spS] 31)).alloc (.cells #[.int .i64 6, .slice ao L0.length cap, .slice bo gs.length cap2] 25)).heap[w.heap.size]? = some (.cells #[.bool low, .string spS] 31) := (Bel.al _ _).heap (heap_alloc_new _ _)
  have hby : ((w.alloc (.cells #[.bool low, .string spS] 31)).alloc (.cells #[.int .i64 6, .slice ao L0.length cap, .slice bo gs.length cap2] 25)).heap[w.heap.size + 1]? = some (.cells #[.int .i64 6, .slice ao L0.length cap, .slice bo gs.length cap2] 25) := heap_alloc2 _ _ _
  have hb0 : Bel w ((w.alloc (.cells #[.bool low, .string spS] 31)).alloc (.cells #[.int .i64 6, .slice ao L0.length cap, .slice bo gs.length cap2] 25)) := (Bel.al _ _).tr (Bel.al _ _)
  have HBX := Lib.hid hbx
  have HBY := Lib.hid hby
  have HB0 := Lib.hid hb0
  clear hbx hby hb0
  generalize ((w.alloc (.cells #[.bool low, .string spS] 31)).alloc (.cells #[.int .i64 6, .slice ao L0.length cap, .slice bo gs.length cap2] 25)) = w1 at *
  refine (HWC.out w1 HB0.out).mono ?_
  rintro e w2 ⟨rfl, hb2⟩
  have HB2 := Lib.hid hb2
  have e0 : w2.cell? ⟨w.heap.size + 1, 0, none⟩ = some (.int .i64 6) := by simp [World.cell?, hb2.heap HBY.out]
  have e1 : w2.cell? ⟨w.heap.size + 1, 1, none⟩ = some (.slice ao L0.length cap) := by simp [World.cell?, hb2.heap HBY.out]
  have e2 : w2.cell? ⟨w.heap.size + 1, 2, none⟩ = some (.slice bo gs.length cap2) := by simp [World.cell?, hb2.heap HBY.out]
  clear hb2
  go_wp2_with fail
  refine (HPC.out w2 (HB0.out.tr HB2.out)).mono ?_
  rintro e w3 ⟨⟨co, cap5, rfl⟩, hb3⟩
  have HB3 := Lib.hid (HB0.out.tr (HB2.out.tr hb3))
  have HBX3 := Lib.hid ((HB2.out.tr hb3).heap HBX.out)
  have HBY3 := Lib.hid ((HB2.out.tr hb3).heap HBY.out)
  have e3 : w3.cell? ⟨w.heap.size, 0, none⟩ = some (.bool low) := by simp [World.cell?, HBX3.out]
  have e4 : w3.cell? ⟨w.heap.size, 1, none⟩ = some (.string spS) := by simp [World.cell?, HBX3.out]
  have e5 : w3.cell? ⟨w.heap.size + 1, 0, none⟩ = some (.int .i64 6) := by simp [World.cell?, HBY3.out]
  have e7 : w3.cell? ⟨w.heap.size + 1, 2, none⟩ = some (.slice bo gs.length cap2) := by simp [World.cell?, HBY3.out]
  clear hb3 e0 e1 e2
  have hrow : (w3.alloc (.cells #[] 9)).ownsRow w3.heap.size 9 1 (.slice (some ⟨w3.heap.size, 0, none⟩) 0 0) 0 [] := own_emptyB w3 9 1
  have g7 := (Bel.al w3 (.cells #[] 9)).cellOf e7
  have HROW := Lib.hid hrow
  have HBX4 := Lib.hid ((Bel.al w3 (.cells #[] 9)).heap HBX3.out)
  have HBY4 := Lib.hid ((Bel.al w3 (.cells #[] 9)).heap HBY3.out)
  have HB4 := Lib.hid (HB3.out.tr (Bel.al w3 (.cells #[] 9)))
  have hbase : w.heap.size ≤ w3.heap.size := HB3.out.size
  have hlt3 := lt_heap HBY3.out
  clear hrow
  go_wp2_with fail
  clear g7 e3 e4 e5 e7
  have HSZ4 := Lib.hid (show w3.heap.size ≤ (w3.alloc (.cells #[] 9)).heap.size by simp)
  generalize w3.alloc (.cells #[] 9) = w4 at *
  generalize w3.heap.size = b3 at *
  go_loopg [9, 81] gs.length (fun g s6 s60 wr => ∃ (i : Nat), i ≤ gs.length ∧ g = gs.length - i ∧ s60 = .int .i64 i ∧ Hid (wr.ownsRow b3 9 1 s6 i (strs ((gs.take i).map T)) ∧ Bel w wr ∧ wr.heap[w.heap.size]? = some (.cells #[.bool low, .string spS] 31) ∧ wr.heap[w.heap.size + 1]? = some (.cells #[.int .i64 6, .slice ao L0.length cap, .slice bo gs.length cap2] 25) ∧ b3 ≤ wr.heap.size))
  case atStart => exact ⟨0, by omega, rfl, rfl, HROW.out, HB4.out, HBX4.out, HBY4.out, HSZ4.out⟩
  case round =>
    obtain ⟨i, hi1, rfl, rfl, hh⟩ := hrel
    by_cases hlt : i < gs.length
    · obtain ⟨hown, hbel, hbx, hby, hbs⟩ := hh.out
      obtain ⟨p, hp⟩ : ∃ p, gs[i]? = some p := ⟨_, List.getElem?_eq_getElem hlt⟩
      obtain ⟨a2, c0, c1, c2, rfl, q0, q1, q2, hx⟩ := HXC.out i (f p) (by rw [List.getElem?_map, hp]; rfl)
      have q0' := hbel.cellOf q0
      have q1' := hbel.cellOf q1
      have q2' := hbel.cellOf q2
      obtain ⟨kk, y, pp, hfy, hlt2⟩ := HP.out p (List.mem_of_getElem? hp)
      rw [hfy] at hx
      have hyr : RowAt PtsAt w c1 y := by
        obtain ⟨d2, k3, l3, p3, L3, P3, rfl, he3, he4, hL3, -⟩ := shpAt_slices hx
        cases he3
        cases he4
        exact hL3
      have hlt3 := fun wx (hb : Bel w wx) => hlt2 c1 wx (HKK.out _ _ HKW.out hb) (rowAt_ptsAt_bel hb hyr)
      rw [styV, ← HSP.out] at hlt3
      have HX := Lib.hid hlt3
      clear hlt2 hlt3 hyr hfy
      obtain ⟨k2, a1, m1, k1, a3, m2, k3, rfl, rfl, rfl⟩ : ∃ k2 a1 n1 k1 a2 n2 k3, c0 = .int .i64 k2 ∧ c1 = .slice a1 n1 k1 ∧ c2 = .slice a2 n2 k3 := by
        obtain ⟨d2, kk, lls, pps, L', P', rfl, he0, he, hL', hP'⟩ := shpAt_slices hx
        cases he
        obtain ⟨a1, k1, rfl⟩ := hL'.slice
        obtain ⟨a2, k2, rfl⟩ := partsAt_slice hP'
        exact ⟨kk, _, _, _, _, _, _, rfl, rfl, rfl⟩
      have e3 : wr.cell? ⟨w.heap.size, 0, none⟩ = some (.bool low) := by simp [World.cell?, hbx]
      have e4 : wr.cell? ⟨w.heap.size, 1, none⟩ = some (.string spS) := by simp [World.cell?, hbx]
      have e5 : wr.cell? ⟨w.heap.size + 1, 0, none⟩ = some (.int .i64 6) := by simp [World.cell?, hby]
      have g3 := (Bel.al wr (.cells #[.int .i64 k2, .slice a1 m1 k1, .slice a3 m2 k3] 25)).cellOf e3
      have g4 := (Bel.al wr (.cells #[.int .i64 k2, .slice a1 m1 k1, .slice a3 m2 k3] 25)).cellOf e4
      have g5 := (Bel.al wr (.cells #[.int .i64 k2, .slice a1 m1 k1, .slice a3 m2 k3] 25)).cellOf e5
      have HPA := Lib.hid hp
      have HOWN := Lib.hid hown
      have HBEL := Lib.hid hbel
      have HBX5 := Lib.hid hbx
      have HBY5 := Lib.hid hby
      have HBS := Lib.hid hbs
      clear hown hbel hbx hby hbs q0 q1 q2 hp hh hx e3 e4 e5
      go_wp2_with fail
      clear g3 g4 g5
      have HB5 := Lib.hid (Bel.al wr (.cells #[.int .i64 k2, .slice a1 m1 k1, .slice a3 m2 k3] 25))
      generalize wr.alloc (.cells #[.int .i64 k2, .slice a1 m1 k1, .slice a3 m2 k3] 25) = w5 at *
      refine (HX.out _ (HBEL.out.tr HB5.out)).mono ?_
      rintro e w6 ⟨rfl, hb6⟩
      have HB6 := Lib.hid (HB5.out.tr hb6)
      clear hb6
      go_wp2_with (at_builtin; refine wpList_append1 _ [_] 9 rfl (.tmp 88) (.tmp 93) 46 rfl b3 i0 (.string ⟨#[]⟩) 1 16 Tryz.underlying46 hi hz0 hz1 hz2 rfl (by decide) _ i _ rfl (ownsRow_bel HOWN.out HB6.out) _ _ rfl rfl rfl ?_ ?_ ?_ ?_ ?_)
      · exact fun u hu => by simp at hu; subst hu; rfl
      · omega
      · unfold maxLen; omega
      · exact Nat.le_trans HBS.out HB6.out.size
      · intro v' w' h2 h3
        have H2 := Lib.hid h2
        have H3 := Lib.hid h3
        clear h2 h3
        go_wp2
        go_roundg (gs.length - (i + 1))
        case measure => omega
        case rel =>
          refine ⟨i + 1, by omega, rfl, by go_num, ?_, ?_, ?_, ?_, Nat.le_trans HBS.out (Nat.le_trans HB6.out.size H3.out.size)⟩
          · rw [List.take_add_one, HPA.out, List.map_append, strs, List.map_append]
            have := H2.out
            simpa using this
          · refine (HBEL.out.tr HB6.out).trans (Below.grown (Below.refl _ _) H3.out (Nat.le_trans HBEL.out.size HB6.out.size) ?_)
            intro k hk
            have := (HOWN.out.lt k hk).1
            omega
          · exact grown_heap H3.out (HB6.out.heap HBX5.out) (fun hc => by have := (HOWN.out.lt _ hc.symm).1; omega)
          · exact grown_heap H3.out (HB6.out.heap HBY5.out) (fun hc => by have := (HOWN.out.lt _ hc.symm).1; omega)
    · obtain rfl : i = gs.length := by omega
      have hkz : ¬ ((gs.length : Int) < (gs.length : Int)) := by omega
      obtain ⟨hown, hbel, hbx, hby, hbs⟩ := hh.out
      rw [List.take_length] at hown
      have hown' : wr.ownsRow b3 9 1 u9 (gs.map T).length (strs (gs.map T)) := by rw [List.length_map]; exact hown
      obtain ⟨ao5, cap6, rfl, hrd⟩ := own_rdS hown'
      have e0 : wr.cell? ⟨w.heap.size, 0, none⟩ = some (.bool low) := by simp [World.cell?, hbx]
      have e1 : wr.cell? ⟨w.heap.size, 1, none⟩ = some (.string spS) := by simp [World.cell?, hbx]
      have hj := joined_calls low sp (gs.map T) ao5 cap6 wr hrd (by rw [List.length_map]; exact hn) HLL.out HSPL.out
      rw [styV, ← HSP.out, List.length_map, HTS.out] at hj
      have HJ := Lib.hid hj
      have HBEL := Lib.hid hbel
      rw [List.length_map]
      clear hown hown' hbel hbx hby hbs hh hrd hj
      go_wp2_with fail
      refine HJ.out.mono ?_
      rintro e w7 ⟨rfl, hb7⟩
      have HB7 := Lib.hid (HBEL.out.tr hb7)
      clear hb7
      go_wp2
      go_ret
      exact ⟨by rw [← HT.out]; simp, HB7.out⟩
end Go.Proofs.YtghajgdiaopioaaGreatDoor
