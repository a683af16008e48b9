/- Walks: spec.listsText (printed by genAZ.py). -/
import Derived.Test.YtghajgdiaopioaaGreatDoorW32
set_option linter.unusedVariables false
set_option linter.unusedSimpArgs false

namespace Go.Proofs.YtghajgdiaopioaaGreatDoor
open Go.RowKit
attribute [local go_sem] run_store_float run_store_iface run_store_nilIface

set_option maxRecDepth 10000 in
set_option maxHeartbeats 8000000 in
theorem listsText_calls (K : World → Prop) (hK : ∀ w w', K w → Bel w w' → K w') (nt : Nat → List UInt8) (low : Bool) (sp : List UInt8) (x : Value) (l : List (List Pt)) (w : World) (hw : K w) (hx : RowAt PtsAt w x l) (hp : ∀ y ∈ l, ∀ p ∈ y, Pairs K nt p) (hls : ∀ y ∈ l, y.length ≤ 1000000) (hn : l.length ≤ 1000000) (hl : (brs sp (l.map (lineT sp nt))).length ≤ 100000000) (hsp : sp.length ≤ 100) :
    Calls Tryz.prog 30 #[styV low sp, x] w fun e w' => e = .returned (.string (ofL (brs sp (l.map (lineT sp nt))))) ∧ Bel w w' := by
  obtain ⟨i0, hi, hz0, hz1, hz2⟩ := info_parts info9
  obtain ⟨ao, cap, rfl, -, hc⟩ := hx
  have HC := Lib.hid hc
  have HP := Lib.hid hp
  have HLS := Lib.hid hls
  have HL := Lib.hid hl
  have HSPL := Lib.hid hsp
  have HK := Lib.hid hK
  have HW := Lib.hid hw
  obtain ⟨spS, hspS⟩ : ∃ u, u = ofL sp := ⟨_, rfl⟩
  have HSP := Lib.hid hspS
  rw [styV, ← hspS]
  clear hc hp hls hl hsp hK hw hspS
  go_enter Tryz.func30, Tryz.ntmps30
  go_wp2_with fail
  have hbox : ((w.alloc (.cells #[.bool low, .string spS] 31)).alloc (.cells #[] 9)).heap[w.heap.size]? = some (.cells #[.bool low, .string spS] 31) := (Bel.al _ _).heap (heap_alloc_new _ _)
  have hrow : ((w.alloc (.cells #[.bool low, .string spS] 31)).alloc (.cells #[] 9)).ownsRow (w.heap.size + 1) 9 1 (.slice (some ⟨w.heap.size + 1, 0, none⟩) 0 0) 0 [] := ⟨by simp, .inr ⟨w.heap.size + 1, 0, #[], by simp, Nat.le_refl _, heap_alloc2 _ _ _, Nat.le_refl _, Nat.zero_le _, by simp, by simp⟩⟩
  have hb0 : Bel w ((w.alloc (.cells #[.bool low, .string spS] 31)).alloc (.cells #[] 9)) := (Bel.al _ _).tr (Bel.al _ _)
  have HBOX := Lib.hid hbox
  have HROW := Lib.hid hrow
  have HB0 := Lib.hid hb0
  clear hbox hrow hb0
  generalize ((w.alloc (.cells #[.bool low, .string spS] 31)).alloc (.cells #[] 9)) = w1 at *
  go_loopg [5, 11] l.length (fun g s5 s11 wr => ∃ (i : Nat), i ≤ l.length ∧ g = l.length - i ∧ s11 = .int .i64 i ∧ Hid (wr.ownsRow (w.heap.size + 1) 9 1 s5 i (strs ((l.take i).map (lineT sp nt))) ∧ Bel w wr ∧ wr.heap[w.heap.size]? = some (.cells #[.bool low, .string spS] 31)))
  case atStart => exact ⟨0, by omega, rfl, rfl, HROW.out, HB0.out, HBOX.out⟩
  case round =>
    obtain ⟨i, hi1, rfl, rfl, hh⟩ := hrel
    by_cases hlt : i < l.length
    · obtain ⟨hown, hbel, hbx⟩ := hh.out
      obtain ⟨p, hp⟩ : ∃ p, l[i]? = some p := ⟨_, List.getElem?_eq_getElem hlt⟩
      obtain ⟨a, y, rfl, c0, hy⟩ := HC.out i p hp
      have c0' := hbel.cellOf c0
      have hfit : (lineT sp nt p).length ≤ 100000000 := by
        have h1 := jn_step sp l (lineT sp nt) i p hp
        have h2 := jn_take_le sp (l.map (lineT sp nt)) (i + 1)
        rw [← List.map_take, h1] at h2
        have h3 := HL.out
        rw [brs, List.length_append, List.length_cons] at h3
        simp at h3
        split at h2
        · omega
        · simp at h2; omega
      have hlt2 := listText_calls K HK.out nt low sp y p
      rw [styV, ← HSP.out] at hlt2
      have HX := Lib.hid (fun wx (hb : Bel w wx) => hlt2 wx (HK.out _ _ HW.out hb) (hy.bel hb) (HP.out p (List.mem_of_getElem? hp)) (HLS.out p (List.mem_of_getElem? hp)) hfit HSPL.out)
      obtain ⟨ao7, cap7, rfl⟩ := hy.slice
      have e0 : wr.cell? ⟨w.heap.size, 0, none⟩ = some (.bool low) := by simp [World.cell?, hbx]
      have e1 : wr.cell? ⟨w.heap.size, 1, none⟩ = some (.string spS) := by simp [World.cell?, hbx]
      have HPA := Lib.hid hp
      have HOWN := Lib.hid hown
      have HBEL := Lib.hid hbel
      have HBX := Lib.hid hbx
      clear hown hbel hbx c0 hp hh hy hfit hlt2
      go_wp2_with fail
      refine (HX.out wr HBEL.out).mono ?_
      rintro e w3 ⟨rfl, hb3⟩
      have HB3 := Lib.hid hb3
      clear hb3
      go_wp2_with (at_builtin; refine wpList_append1 _ [_] 9 rfl (.tmp 15) (.tmp 19) 46 rfl (w.heap.size + 1) i0 (.string ⟨#[]⟩) 1 16 Tryz.underlying46 hi hz0 hz1 hz2 rfl (by decide) _ i _ rfl (ownsRow_bel HOWN.out HB3.out) _ _ rfl rfl rfl ?_ ?_ ?_ ?_ ?_)
      · exact fun u hu => by simp at hu; subst hu; rfl
      · omega
      · unfold maxLen; omega
      · have := lt_heap HBX.out; have := HB3.out.size; omega
      · intro v' w' h2 h3
        have H2 := Lib.hid h2
        have H3 := Lib.hid h3
        clear h2 h3
        go_wp2
        go_roundg (l.length - (i + 1))
        case measure => omega
        case rel =>
          refine ⟨i + 1, by omega, rfl, by go_num, ?_, ?_, ?_⟩
          · rw [List.take_add_one, HPA.out, List.map_append, strs, List.map_append]
            have := H2.out
            simpa using this
          · refine (HBEL.out.tr HB3.out).trans (Below.grown (Below.refl _ _) H3.out (Nat.le_trans HBEL.out.size HB3.out.size) ?_)
            intro k hk
            have := (HOWN.out.lt k hk).1
            omega
          · exact grown_heap H3.out (HB3.out.heap HBX.out) (fun hc => by have := (HOWN.out.lt _ hc.symm).1; omega)
    · obtain rfl : i = l.length := by omega
      have hkz : ¬ ((l.length : Int) < (l.length : Int)) := by omega
      obtain ⟨hown, hbel, hbx⟩ := hh.out
      rw [List.take_length] at hown
      have hown' : wr.ownsRow (w.heap.size + 1) 9 1 u5 (l.map (lineT sp nt)).length (strs (l.map (lineT sp nt))) := by rw [List.length_map]; exact hown
      obtain ⟨ao5, cap5, rfl, hrd⟩ := own_rdS hown'
      have e0 : wr.cell? ⟨w.heap.size, 0, none⟩ = some (.bool low) := by simp [World.cell?, hbx]
      have e1 : wr.cell? ⟨w.heap.size, 1, none⟩ = some (.string spS) := by simp [World.cell?, hbx]
      have hj := joined_calls low sp (l.map (lineT sp nt)) ao5 cap5 wr hrd (by rw [List.length_map]; exact hn) HL.out HSPL.out
      rw [styV, ← HSP.out, List.length_map] at hj
      have HJ := Lib.hid hj
      have HBEL := Lib.hid hbel
      rw [List.length_map]
      clear hown hown' hbel hbx hh hrd hj
      go_wp2_with fail
      refine HJ.out.mono ?_
      rintro e w4 ⟨rfl, hb4⟩
      have HB4 := Lib.hid (HBEL.out.tr hb4)
      clear hb4
      go_wp2
      go_ret
      exact ⟨rfl, HB4.out⟩
end Go.Proofs.YtghajgdiaopioaaGreatDoor

/- Walks: spec's words (28). -/
namespace Go.Proofs.YtghajgdiaopioaaGreatDoor
open Go.RowKit
attribute [local go_sem] run_store_float run_store_iface run_store_nilIface

def kwOf : Nat → List UInt8
  | 1 => kwPoint
  | 2 => kwLine
  | 3 => kwPoly
  | 4 => kwMPoint
  | 5 => kwMLine
  | 6 => kwMPoly
  | 7 => kwColl
  | _ => []
/-- The table of the words. -/
def WEnv (w : World) : Prop := ∀ k, 1 ≤ k → k ≤ 7 → w.cell? ⟨0, k, none⟩ = some (.string (ofL (kwOf k)))
theorem WEnv.bel {w w' : World} (h : WEnv w) (hb : Bel w w') : WEnv w' := fun k h1 h2 => hb.cellOf (h k h1 h2)

set_option maxRecDepth 10000 in
set_option maxHeartbeats 8000000 in
theorem word_big (sp : List UInt8) (k : Nat) (w : World) (hw : WEnv w) (h1 : 1 ≤ k) (h2 : k ≤ 7) : Calls Tryz.prog 28 #[styV false sp, .int .i64 k] w fun e w' => e = .returned (.string (ofL (kwOf k))) ∧ Bel w w' := by
  have HC := Lib.hid (fun wx (hb : Bel w wx) => (hw.bel hb) k h1 h2)
  rw [styV]
  generalize ofL sp = spS at *
  generalize ofL (kwOf k) = u at *
  have hk0 : (0 : Int) ≤ (k : Int) := by omega
  have hk8 : (k : Int) < 8 := by omega
  clear hw h1
  go_enter Tryz.func28, Tryz.ntmps28
  have c0 := HC.out (w.alloc (.cells #[.bool false, .string spS] 31)) (Bel.al _ _)
  go_wp2
  go_ret
  exact ⟨rfl, Bel.al _ _⟩
end Go.Proofs.YtghajgdiaopioaaGreatDoor
