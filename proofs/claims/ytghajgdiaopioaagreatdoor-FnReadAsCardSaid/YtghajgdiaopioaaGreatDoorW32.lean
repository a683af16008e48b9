/- Walks: texts in brackets, joined (spec.joined). -/
import Derived.Test.YtghajgdiaopioaaGreatDoorW31
set_option linter.unusedVariables false
set_option linter.unusedSimpArgs false

namespace Go.Proofs.YtghajgdiaopioaaGreatDoor
open Go.RowKit
attribute [local go_sem] run_store_float run_store_iface run_store_nilIface

theorem ofL_app (a b : List UInt8) : ofL a ++ ofL b = ofL (a ++ b) := by
  have h : toL (ofL a ++ ofL b) = a ++ b := by rw [toL_app, toL_ofL, toL_ofL]
  rw [← ofL_toL (ofL a ++ ofL b), h]
/-- A style, as a value. -/
def styV (low : Bool) (sp : List UInt8) : Value := .agg #[.bool low, .string (ofL sp)]

set_option maxRecDepth 10000 in
set_option maxHeartbeats 8000000 in
theorem joined_calls (low : Bool) (sp : List UInt8) (ts : List (List UInt8)) (ao : Option Addr) (cap : Nat) (w : World) (h : RdS w ao ts) (hn : ts.length ≤ 1000000) (hl : (brs sp ts).length ≤ 100000000) (hsp : sp.length ≤ 100) :
    Calls Tryz.prog 31 #[styV low sp, .slice ao ts.length cap] w fun e w' => e = .returned (.string (ofL (brs sp ts))) ∧ Bel w w' := by
  have HR := Lib.hid h
  have HL := Lib.hid hl
  have hspz : (ofL sp).size ≤ 100 := by rw [ofL_size]; exact hsp
  obtain ⟨spS, hspS⟩ : ∃ u, u = ofL sp := ⟨_, rfl⟩
  rw [← hspS] at hspz
  have HSP := Lib.hid hspS
  rw [styV, ← hspS]
  clear h hl hsp hspS
  go_enter Tryz.func31, Tryz.ntmps31
  go_wp2_with fail
  have hbox : (w.alloc (.cells #[.bool low, .string spS] 31)).heap[w.heap.size]? = some (.cells #[.bool low, .string spS] 31) := heap_alloc_new _ _
  have hb0 : Bel w (w.alloc (.cells #[.bool low, .string spS] 31)) := Bel.al _ _
  have HBOX := Lib.hid hbox
  have HB0 := Lib.hid hb0
  clear hbox hb0
  generalize w.alloc (.cells #[.bool low, .string spS] 31) = w1 at *
  go_loopg [5, 10] ts.length (fun g s5 s10 wr => ∃ (i : Nat) (t : ByteArray), i ≤ ts.length ∧ g = ts.length - i ∧ s10 = .int .i64 i ∧ s5 = .string t ∧ w1 = wr ∧ Hid (t = ofL (40 :: jn sp (ts.take i))))
  case atStart => exact ⟨0, _, by omega, rfl, rfl, rfl, rfl, rfl⟩
  case round =>
    obtain ⟨i, t, hi1, rfl, rfl, rfl, rfl, ht⟩ := hrel
    have hts : t.size ≤ 100000000 := by
      have h1 := jn_take_le sp ts i
      have h2 := HL.out
      rw [brs, List.length_append, List.length_cons] at h2
      rw [ht.out, ofL_size, List.length_cons]
      simp at h2
      omega
    by_cases hlt : i < ts.length
    · obtain ⟨u, hu⟩ : ∃ u, ts[i]? = some u := ⟨_, List.getElem?_eq_getElem hlt⟩
      obtain ⟨g, cur, rfl, hg, hcur⟩ := HR.out i u hu
      have hstep := jn_step sp ts id i u hu
      simp only [List.map_id] at hstep
      have hul : u.length ≤ 100000000 := by
        have h1 := jn_take_le sp ts (i + 1)
        have h2 := HL.out
        rw [brs, List.length_append, List.length_cons] at h2
        rw [hstep] at h1
        simp at h2
        split at h1
        · simp at h1; omega
        · simp at h1; omega
      have hgw := HB0.out.heap hg
      have c0 : w1.cell? ⟨g, i, none⟩ = some (.string (ofL u)) := by simp [World.cell?, hgw, hcur]
      have e1 : w1.cell? ⟨w.heap.size, 1, none⟩ = some (.string spS) := by simp [World.cell?, HBOX.out]
      obtain ⟨uS, huS⟩ : ∃ x, x = ofL u := ⟨_, rfl⟩
      have hus : uS.size ≤ 100000000 := by rw [huS, ofL_size]; exact hul
      rw [← huS] at c0
      have HU := Lib.hid huS
      have HST := Lib.hid hstep
      clear hu hg hcur hul hgw huS hstep
      by_cases h0 : i = 0
      · subst h0
        have n1 : ¬ (9223372036854775807 < t.size + uS.size) := by omega
        go_wp2
        go_roundg (ts.length - (0 + 1))
        case measure => omega
        case rel =>
          refine ⟨0 + 1, _, by omega, rfl, by go_num, rfl, rfl, ?_⟩
          show _ = _
          rw [HST.out, ht.out, HU.out, ofL_app]
          simp [jn]
      · have n0 : decide ((0 : Int) < (i : Int)) = true := by simp; omega
        have n1 : ¬ (9223372036854775807 < 1 + spS.size) := by omega
        have n2 : ¬ (9223372036854775807 < t.size + (1 + spS.size)) := by omega
        have n3 : ¬ (9223372036854775807 < t.size + (1 + spS.size) + uS.size) := by omega
        go_wp2
        go_roundg (ts.length - (i + 1))
        case measure => omega
        case rel =>
          refine ⟨i + 1, _, by omega, rfl, by go_num, rfl, rfl, ?_⟩
          show _ = _
          rw [HST.out, if_neg h0, ht.out, HU.out, HSP.out]
          rw [show ({ data := #[44] } : ByteArray) = ofL [44] from rfl]
          simp only [ofL_app]
          simp
    · obtain rfl : i = ts.length := by omega
      have hkz : ¬ ((ts.length : Int) < (ts.length : Int)) := by omega
      have n1 : ¬ (9223372036854775807 < t.size + 1) := by omega
      have HT2 := Lib.hid (show t ++ { data := #[41] } = ofL (brs sp ts) by
        have h := ht.out
        rw [List.take_length] at h
        rw [h, show ({ data := #[41] } : ByteArray) = ofL [41] from rfl, ofL_app]
        rfl)
      clear ht
      go_wp2
      go_ret
      exact ⟨by rw [← HT2.out]; simp, HB0.out⟩
end Go.Proofs.YtghajgdiaopioaaGreatDoor

/- Walks: spec.listText. -/
namespace Go.Proofs.YtghajgdiaopioaaGreatDoor
open Go.RowKit
attribute [local go_sem] run_store_float run_store_iface run_store_nilIface

/-- What spec.pair writes of a point. -/
def Pairs (K : World → Prop) (nt : Nat → List UInt8) (p : Pt) : Prop := ∀ w, K w → Calls Tryz.prog 49 #[.agg #[.float .f64 p.1, .float .f64 p.2]] w fun e w' => e = .returned (.string (ofL (ptT nt p))) ∧ Bel w w'

set_option maxRecDepth 10000 in
set_option maxHeartbeats 8000000 in
theorem listText_calls (K : World → Prop) (hK : ∀ w w', K w → Bel w w' → K w') (nt : Nat → List UInt8) (low : Bool) (sp : List UInt8) (x : Value) (l : List Pt) (w : World) (hw : K w) (hx : PtsAt w x l) (hp : ∀ p ∈ l, Pairs K nt p) (hn : l.length ≤ 1000000) (hl : (lineT sp nt l).length ≤ 100000000) (hsp : sp.length ≤ 100) :
    Calls Tryz.prog 29 #[styV low sp, x] w fun e w' => e = .returned (.string (ofL (lineT sp nt l))) ∧ Bel w w' := by
  obtain ⟨i0, hi, hz0, hz1, hz2⟩ := info_parts info9
  obtain ⟨ao, cap, rfl, -, hc⟩ := hx
  have HC := Lib.hid hc
  have HP := Lib.hid hp
  have HL := Lib.hid hl
  have HSPL := Lib.hid hsp
  have HK := Lib.hid hK
  have HW := Lib.hid hw
  obtain ⟨spS, hspS⟩ : ∃ u, u = ofL sp := ⟨_, rfl⟩
  have HSP := Lib.hid hspS
  rw [styV, ← hspS]
  clear hc hp hl hsp hK hw hspS
  go_enter Tryz.func29, Tryz.ntmps29
  go_wp2_with fail
  have hbox : ((w.alloc (.cells #[.bool low, .string spS] 31)).alloc (.cells #[] 9)).heap[w.heap.size]? = some (.cells #[.bool low, .string spS] 31) := (Bel.al _ _).heap (heap_alloc_new _ _)
  have hrow : ((w.alloc (.cells #[.bool low, .string spS] 31)).alloc (.cells #[] 9)).ownsRow (w.heap.size + 1) 9 1 (.slice (some ⟨w.heap.size + 1, 0, none⟩) 0 0) 0 [] := ⟨by simp, .inr ⟨w.heap.size + 1, 0, #[], by simp, Nat.le_refl _, heap_alloc2 _ _ _, Nat.le_refl _, Nat.zero_le _, by simp, by simp⟩⟩
  have hb0 : Bel w ((w.alloc (.cells #[.bool low, .string spS] 31)).alloc (.cells #[] 9)) := (Bel.al _ _).tr (Bel.al _ _)
  have HBOX := Lib.hid hbox
  have HROW := Lib.hid hrow
  have HB0 := Lib.hid hb0
  clear hbox hrow hb0
  generalize ((w.alloc (.cells #[.bool low, .string spS] 31)).alloc (.cells #[] 9)) = w1 at *
  go_loopg [5, 11] l.length (fun g s5 s11 wr => ∃ (i : Nat), i ≤ l.length ∧ g = l.length - i ∧ s11 = .int .i64 i ∧ Hid (wr.ownsRow (w.heap.size + 1) 9 1 s5 i (strs ((l.take i).map (ptT nt))) ∧ Bel w wr ∧ wr.heap[w.heap.size]? = some (.cells #[.bool low, .string spS] 31)))
  case atStart => exact ⟨0, by omega, rfl, rfl, HROW.out, HB0.out, HBOX.out⟩
  case round =>
    obtain ⟨i, hi1, rfl, rfl, hh⟩ := hrel
    by_cases hlt : i < l.length
    · obtain ⟨hown, hbel, hbx⟩ := hh.out
      obtain ⟨p, hp⟩ : ∃ p, l[i]? = some p := ⟨_, List.getElem?_eq_getElem hlt⟩
      obtain ⟨a, rfl, c0, c1⟩ := HC.out i p hp
      have c0' := hbel.cellOf c0
      have c1' := hbel.cellOf c1
      obtain ⟨x1, x2⟩ := p
      have HX := Lib.hid (fun wx (hb : Bel w wx) => HP.out (x1, x2) (List.mem_of_getElem? hp) wx (HK.out _ _ HW.out hb))
      have HPA := Lib.hid hp
      have HOWN := Lib.hid hown
      have HBEL := Lib.hid hbel
      have HBX := Lib.hid hbx
      clear hown hbel hbx c0 c1 hp hh
      go_wp2_with fail
      have hb2 : Bel wr (wr.alloc (.cells #[.float .f64 x1, .float .f64 x2] 49)) := Bel.al _ _
      have HB2 := Lib.hid hb2
      clear hb2
      generalize wr.alloc (.cells #[.float .f64 x1, .float .f64 x2] 49) = w2 at *
      refine (HX.out w2 (HBEL.out.tr HB2.out)).mono ?_
      rintro e w3 ⟨rfl, hb3⟩
      have HB3 := Lib.hid (HB2.out.tr hb3)
      clear hb3
      go_wp2_with (at_builtin; refine wpList_append1 _ [_] 9 rfl (.tmp 15) (.tmp 18) 46 rfl (w.heap.size + 1) i0 (.string ⟨#[]⟩) 1 16 Tryz.underlying46 hi hz0 hz1 hz2 rfl (by decide) _ i _ rfl (ownsRow_bel HOWN.out HB3.out) _ _ rfl rfl rfl ?_ ?_ ?_ ?_ ?_)
      · exact fun u hu => by simp at hu; subst hu; rfl
      · omega
      · unfold maxLen; omega
      · have := lt_heap HBX.out; have := HB3.out.size; omega
      · intro v' w' h2 h3
        have H2 := Lib.hid h2
        have H3 := Lib.hid h3
        clear h2 h3
        go_wp2
        go_roundg (l.length - (i + 1))
        case measure => omega
        case rel =>
          refine ⟨i + 1, by omega, rfl, by go_num, ?_, ?_, ?_⟩
          · rw [List.take_add_one, HPA.out, List.map_append, strs, List.map_append]
            have := H2.out
            simpa using this
          · refine (HBEL.out.tr HB3.out).trans (Below.grown (Below.refl _ _) H3.out (Nat.le_trans HBEL.out.size HB3.out.size) ?_)
            intro k hk
            have := (HOWN.out.lt k hk).1
            omega
          · exact grown_heap H3.out (HB3.out.heap HBX.out) (fun hc => by have := (HOWN.out.lt _ hc.symm).1; omega)
    · obtain rfl : i = l.length := by omega
      have hkz : ¬ ((l.length : Int) < (l.length : Int)) := by omega
      obtain ⟨hown, hbel, hbx⟩ := hh.out
      rw [List.take_length] at hown
      have hown' : wr.ownsRow (w.heap.size + 1) 9 1 u5 (l.map (ptT nt)).length (strs (l.map (ptT nt))) := by rw [List.length_map]; exact hown
      obtain ⟨ao5, cap5, rfl, hrd⟩ := own_rdS hown'
      have e0 : wr.cell? ⟨w.heap.size, 0, none⟩ = some (.bool low) := by simp [World.cell?, hbx]
      have e1 : wr.cell? ⟨w.heap.size, 1, none⟩ = some (.string spS) := by simp [World.cell?, hbx]
      have hj := joined_calls low sp (l.map (ptT nt)) ao5 cap5 wr hrd (by rw [List.length_map]; exact hn) HL.out HSPL.out
      rw [styV, ← HSP.out, List.length_map] at hj
      have HJ := Lib.hid hj
      have HBEL := Lib.hid hbel
      rw [List.length_map]
      clear hown hown' hbel hbx hh hrd hj
      go_wp2_with fail
      refine HJ.out.mono ?_
      rintro e w4 ⟨rfl, hb4⟩
      have HB4 := Lib.hid (HBEL.out.tr hb4)
      clear hb4
      go_wp2
      go_ret
      exact ⟨rfl, HB4.out⟩
end Go.Proofs.YtghajgdiaopioaaGreatDoor
