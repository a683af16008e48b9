/- Walks: the geometry of a shape of which the statements speak is written and read. -/
import Derived.Test.YtghajgdiaopioaaGreatDoorW45
set_option linter.unusedVariables false
set_option linter.unusedSimpArgs false

namespace Go.Proofs.YtghajgdiaopioaaGreatDoor
open Go.RowKit

/-- A geometry with whole coordinates, full or empty, and not too great. -/
structure Good (g : Geo) : Prop where
  small : Small 4 g
  whole : AllN IsWh 4 g
  form : FullG 4 g ∨ EmptyG g
  pts : ptsN 6 (toShp 4 g) ≤ 300
theorem good_of (s : Shp) (h : isShp s = true) (hb : LenB 4 s) (hf : (emptyS 4 s || fullS 4 s) = true) (ha : AllS IsWh 4 s) : LenS 4 s ∧ (ptsOf 4 s).length ≤ 1000000 ∧ ∃ g, s = toShp 4 g ∧ Good g ∧ (fullS 4 s = true → FullG 4 g) ∧ (emptyS 4 s = true → EmptyG g) := by
  have hp := pts_small h hb
  have hok : okS 4 s = true := by unfold isShp at h; simp only [Bool.and_eq_true] at h; exact h.1
  have hl := lenS_of 4 s hok hp
  refine ⟨hl, by rw [ptsOf_length]; omega, ?_⟩
  have hd := pts_deep 4 2 s hok
  obtain ⟨g, rfl⟩ := okS_geo 4 s hok
  refine ⟨g, rfl, ⟨small_of 3 g hl, allN_of IsWh 3 g hok ha, ?_, ?_⟩, fullG_of 3 g, emptyG_of 3 g⟩
  · rw [Bool.or_eq_true] at hf
    rcases hf with hf | hf
    · exact .inr (emptyG_of 3 g hf)
    · exact .inl (fullG_of 3 g hf)
  · show ptsN (4 + 2) (toShp 4 g) ≤ 300
    rw [hd]; exact hp
theorem ntW_len (x : Nat) : (ntW x).length ≤ 1000 := by
  unfold ntW
  split
  · exact (wText_len _ _).2
  · decide
theorem empty_text (low : Bool) (sp : List UInt8) (g : Geo) (h : EmptyG g) : ∃ (k : Nat) (ls : List (List Pt)) (ps : List Shp), 1 ≤ k ∧ k ≤ 7 ∧ toShp 4 g = .mk k ls ps ∧ geoT low sp ntW 4 g = wd low (kwOf k) ++ emp low ∧ (ptsOf 4 (toShp 4 g)).length = 0 := by
  cases g with
  | pt p => exact h.elim
  | line l => obtain rfl : l = [] := h; exact ⟨2, _, _, by decide, by decide, rfl, rfl, rfl⟩
  | poly l => obtain rfl : l = [] := h; exact ⟨3, _, _, by decide, by decide, rfl, rfl, rfl⟩
  | mpt l => obtain rfl : l = [] := h; exact ⟨4, _, _, by decide, by decide, rfl, rfl, rfl⟩
  | mline l => obtain rfl : l = [] := h; exact ⟨5, _, _, by decide, by decide, rfl, rfl, rfl⟩
  | mpoly l => obtain rfl : l = [] := h; exact ⟨6, _, _, by decide, by decide, rfl, rfl, rfl⟩
  | coll l => obtain rfl : l = [] := h; exact ⟨7, _, _, by decide, by decide, rfl, rfl, rfl⟩
theorem good_len (low : Bool) {sp : List UInt8} (hs : sp.length ≤ 1) (g : Geo) (h : Good g) : (geoT low sp ntW 4 g).length ≤ 1000000 := by
  rcases h.form with hf | he
  · have h1 := (geo_len ntW_len low hs 4 g hf).2
    have h2 := h.pts
    have h3 : (2040 + 23 * 4) * ptsN 6 (toShp 4 g) ≤ (2040 + 23 * 4) * 300 := Nat.mul_le_mul_left _ h2
    exact Nat.le_trans h1 (Nat.le_trans h3 (by decide))
  · obtain ⟨k, ls, ps, h1, h2, h3, h4, _⟩ := empty_text low sp g he
    rw [h4, List.length_append, wl]
    have h5 : (kwOf k).length ≤ 18 := by
      match k, h1, h2 with
      | 1, _, _ => decide
      | 2, _, _ => decide
      | 3, _, _ => decide
      | 4, _, _ => decide
      | 5, _, _ => decide
      | 6, _, _ => decide
      | 7, _, _ => decide
    have h6 : (emp low).length = 6 := by cases low <;> rfl
    omega
theorem good_write {G : Errs} (hG : HasAll G) (g : Geo) (h : Good g) (dd : Nat) (v : Value) (w : World) (hE : Env G w) (hv : ShpAt dd w v (toShp 4 g)) :
    Calls Tryz.prog 16 #[v] w fun e w' => e = .returned (.string (ofL (geoT false [] ntW 4 g))) ∧ Bel w w' :=
  write_calls G ntW 4 dd v g w hE hv h.small (AllN.mono (fun _ hx => ntW_writes hG hx) 4 g h.whole) (Nat.le_trans (good_len false (by decide) g h) (by decide))
theorem pairsW {K : World → Prop} (hK : ∀ w, K w → TabsW w) (p : Pt) (h1 : IsWh p.1) (h2 : IsWh p.2) : Pairs K ntW p := by
  obtain ⟨n1, a1, e1, e2, e3⟩ := ntW_spec h1
  obtain ⟨n2, a2, f1, f2, f3⟩ := ntW_spec h2
  intro w hw
  rw [ptT, e3, f3, e2, f2]
  exact pair_calls e1 f1 w (hK w hw).p10
theorem good_text {G : Errs} (hG : HasAll G) (low : Bool) {sp : List UInt8} (hs : Spc sp) (g : Geo) (h : Good g) (hl : LenS 4 (toShp 4 g)) (dd : Nat) (v : Value) (w : World) (hE : Env G w) (hv : ShpAt dd w v (toShp 4 g)) :
    Calls Tryz.prog 14 #[styV low sp, v] w fun e w' => e = .returned (.string (ofL (geoT low sp ntW 4 g))) ∧ Bel w w' := by
  have hsp : sp.length ≤ 1 := by rcases hs with rfl | rfl <;> simp
  rcases h.form with hf | he
  · exact text_calls (Env G) (fun w w' h hb => h.bel hb) ntW IsWh (fun p h1 h2 => pairsW (fun w hw => (hG w hw).tabs) p h1 h2) low sp (by omega) 4 dd g v w hf h.small h.whole (Nat.le_trans (good_len low hsp g h) (by decide)) (by rw [ptsOf_length]; have : ptsN (4 + 2) (toShp 4 g) ≤ 300 := h.pts; omega) hE (hG w hE).words hv
  · obtain ⟨k, ls, ps, h1, h2, h3, h4, h5⟩ := empty_text low sp g he
    rw [h4]
    rw [h3] at hl h5 hv
    exact text_empty low sp 4 dd v k ls ps w (hG w hE).words h1 h2 hl h5 hv
theorem good_reads {G : Errs} (hG : HasAll G) (low : Bool) {sp : List UInt8} (hs : Spc sp) (g : Geo) (h : Good g) : GeoReads G 4 (geoT low sp ntW 4 g) (some g) := by
  have hsp : sp.length ≤ 1 := by rcases hs with rfl | rfl <;> simp
  rcases h.form with hf | he
  · exact geo_reads G ntW low hs 4 g hf h.small (AllN.mono (fun _ hx => ntW_ok hG hx) 4 g h.whole) (Nat.le_trans (good_len low hsp g h) (by decide))
  · exact geo_empty G ntW low sp 3 g he
theorem good_read {G : Errs} (hG : HasAll G) (low : Bool) {sp : List UInt8} (hs : Spc sp) (g : Geo) (h : Good g) (w : World) (hE : Env G w) :
    Calls Tryz.prog 15 #[.string (ofL (geoT low sp ntW 4 g))] w fun e w' => (∃ v, e = .returned (.tuple #[v, .bool true]) ∧ ShpAt 6 w' v (toShp 4 g)) ∧ Bel w w' :=
  read_ok G 4 _ g w hE (good_reads hG low hs g h) h.small
/-- The guards of the statements: what they let in. -/
def Lets (s : Shp) (b1 b2 : Bool) : Prop := b1 = true → b2 = true → ∃ g, s = toShp 4 g ∧ Good g ∧ LenS 4 s ∧ (ptsOf 4 s).length ≤ 1000000
theorem tells23 : Tells 23 (fun x => x < 18446744073709551616) IsWh := fun x hx w =>
  (isWhole_calls x hx w).mono fun e w' ⟨b, h1, ⟨n, h2⟩, h3⟩ => ⟨b, h1, by rw [h2]; exact Bel.dr w n, fun hb => by
    obtain ⟨neg, m, h4, h5⟩ := whole_of x hx (h3 hb)
    exact ⟨(neg, m), h4, h5⟩⟩
end Go.Proofs.YtghajgdiaopioaaGreatDoor

/- Walks: FnWrite (4). -/
namespace Go.Proofs.YtghajgdiaopioaaGreatDoor
open Go.RowKit
attribute [local go_sem] run_store_float run_store_iface run_store_nilIface

/-- What a law is handed: a shape, as it lies in memory. -/
structure Arg (dd : Nat) (w : World) (v : Value) (s : Shp) : Prop where
  at' : ShpAt dd w v s
  len : LenB 4 s
  fl : AllS (fun x => x < 18446744073709551616) 4 s
theorem Arg.whole {dd : Nat} {w : World} {v : Value} {s : Shp} (h : Arg dd w v s) (wx : World) (hb : Bel w wx) : Calls Tryz.prog 10 #[v] wx fun e w' => ∃ b, e = .returned (.bool b) ∧ Bel wx w' ∧ (b = true → isShp s = true ∧ AllS IsWh 4 s) :=
  whole_calls _ IsWh tells23 dd v s wx (fun hi => ⟨lenS_of 4 s (by unfold isShp at hi; simp only [Bool.and_eq_true] at hi; exact hi.1) (pts_small hi h.len), h.fl⟩) (ShpAt.bel hb _ _ _ h.at')
theorem Arg.isFull {dd : Nat} {w : World} {v : Value} {s : Shp} (h : Arg dd w v s) (wx : World) (hb : Bel w wx) (hi : isShp s = true) : Calls Tryz.prog 11 #[v] wx fun e w' => e = .returned (.bool (emptyS 4 s || fullS 4 s)) ∧ Bel wx w' := by
  have hok : okS 4 s = true := by unfold isShp at hi; simp only [Bool.and_eq_true] at hi; exact hi.1
  have hp := pts_small hi h.len
  exact isFull_calls 4 dd v s wx hok (lenS_of 4 s hok hp) (by rw [ptsOf_length]; omega) (ShpAt.bel hb _ _ _ h.at')
/-- A shape's three cells. -/
def Box3 (b : Nat) (k : Int) (ao : Option Addr) (n c : Nat) (bo : Option Addr) (m c' : Nat) (w : World) : Prop := w.cell? ⟨b, 0, none⟩ = some (.int .i64 k) ∧ w.cell? ⟨b, 1, none⟩ = some (.slice ao n c) ∧ w.cell? ⟨b, 2, none⟩ = some (.slice bo m c')
theorem box3_new (w : World) (k : Int) (ao : Option Addr) (n c : Nat) (bo : Option Addr) (m c' : Nat) : Box3 w.heap.size k ao n c bo m c' (w.alloc (.cells #[.int .i64 k, .slice ao n c, .slice bo m c'] 25)) := by
  have h : (w.alloc (.cells #[.int .i64 k, .slice ao n c, .slice bo m c'] 25)).heap[w.heap.size]? = some (.cells #[.int .i64 k, .slice ao n c, .slice bo m c'] 25 (0, 0)) := heap_alloc_new _ _
  unfold Box3 World.cell?
  simp only [h]
  exact ⟨rfl, rfl, rfl⟩
theorem Box3.bel {b : Nat} {k : Int} {ao : Option Addr} {n c : Nat} {bo : Option Addr} {m c' : Nat} {w w' : World} (h : Box3 b k ao n c bo m c' w) (hb : Bel w w') : Box3 b k ao n c bo m c' w' := keep3 hb h

set_option maxRecDepth 10000 in
set_option maxHeartbeats 4000000 in
theorem fnWrite_calls (G : Errs) (hG : HasAll G) (dd : Nat) (v : Value) (s : Shp) (w : World) (hE : Env G w) (h : Arg dd w v s) : Calls Tryz.prog 4 #[v] w fun e w' => e = .returned (.bool true) ∧ Bel w w' := by
  have HZ := Lib.hid (fun wx (hb : Bel w wx) => zz1_calls dd v s wx (ShpAt.bel hb _ _ _ h.at'))
  have HWH := Lib.hid (fun wx (hb : Bel w wx) => h.whole wx hb)
  have HFU := Lib.hid (fun wx (hb : Bel w wx) (hi : isShp s = true) => h.isFull wx hb hi)
  have HWR := Lib.hid (fun wx (hb : Bel w wx) => writes_calls G hG wx (hE.bel hb))
  have HGO := Lib.hid (fun (hi : isShp s = true) (hf : (emptyS 4 s || fullS 4 s) = true) (ha : AllS IsWh 4 s) => good_of s hi h.len hf ha)
  have HW := Lib.hid (fun g (hg : Good g) (e : s = toShp 4 g) wx (hb : Bel w wx) => good_write hG g hg dd v wx (hE.bel hb) (by rw [← e]; exact ShpAt.bel hb _ _ _ h.at'))
  have HT := Lib.hid (fun g (hg : Good g) (e : s = toShp 4 g) (hl : LenS 4 s) wx (hb : Bel w wx) => good_text hG false (sp := []) (.inl rfl) g hg (by rw [← e]; exact hl) dd v wx (hE.bel hb) (by rw [← e]; exact ShpAt.bel hb _ _ _ h.at'))
  obtain ⟨k, ao, n, c, bo, m, c', rfl⟩ : ∃ k ao n c bo m c', v = .agg #[.int .i64 k, .slice ao n c, .slice bo m c'] := by
    obtain ⟨d', k, ls, ps, L, P, _, _, rfl, hL, hP⟩ := shpAt_slices h.at'
    obtain ⟨ao, cap, rfl⟩ := hL.slice
    obtain ⟨bo, cap2, rfl⟩ := partsAt_slice hP
    exact ⟨k, ao, _, cap, bo, _, cap2, rfl⟩
  clear h hE
  go_enter Tryz.func4, Tryz.ntmps4
  go_wp2_with fail
  have hbx := box3_new w k ao n c bo m c'
  have hb0 : Bel w (w.alloc (.cells #[.int .i64 k, .slice ao n c, .slice bo m c'] 25)) := Bel.al _ _
  generalize w.alloc (.cells #[.int .i64 k, .slice ao n c, .slice bo m c'] 25) = w1 at *
  refine (HZ.out w1 hb0).mono ?_
  rintro e w2 ⟨⟨b, rfl⟩, hb2⟩
  have HB2 := Lib.hid (hb0.tr hb2)
  have HX2 := Lib.hid (hbx.bel hb2)
  clear hb0 hb2 hbx
  cases b with
  | false =>
    go_wp2
    go_ret
    exact ⟨rfl, HB2.out⟩
  | true =>
    obtain ⟨c0, c1, c2⟩ := HX2.out
    go_wp2_with fail
    clear c0 c1 c2
    refine (HWH.out w2 HB2.out).mono ?_
    rintro e w3 ⟨b, rfl, hb3, hq⟩
    have HB3 := Lib.hid (HB2.out.tr hb3)
    have HX3 := Lib.hid (HX2.out.bel hb3)
    have HQ := Lib.hid hq
    clear hb3 hq
    cases b with
    | false =>
      go_wp2_with fail
      refine (HWR.out w3 HB3.out).mono ?_
      rintro e w4 ⟨rfl, hb4⟩
      have HB4 := Lib.hid (HB3.out.tr hb4)
      clear hb4
      go_wp2
      go_ret
      exact ⟨rfl, HB4.out⟩
    | true =>
      obtain ⟨hi, ha⟩ := HQ.out rfl
      have HI := Lib.hid hi
      have HA := Lib.hid ha
      clear hi ha
      obtain ⟨c0, c1, c2⟩ := HX3.out
      go_wp2_with fail
      clear c0 c1 c2
      refine (HFU.out w3 HB3.out HI.out).mono ?_
      rintro e w4 ⟨rfl, hb4⟩
      have HB4 := Lib.hid (HB3.out.tr hb4)
      have HX4 := Lib.hid (HX3.out.bel hb4)
      clear hb4
      cases hf : (emptyS 4 s || fullS 4 s) with
      | false =>
        clear hf
        go_wp2_with fail
        refine (HWR.out w4 HB4.out).mono ?_
        rintro e w5 ⟨rfl, hb5⟩
        have HB5 := Lib.hid (HB4.out.tr hb5)
        clear hb5
        go_wp2
        go_ret
        exact ⟨rfl, HB5.out⟩
      | true =>
        obtain ⟨hl, _, g, hs, hg, _, _⟩ := HGO.out HI.out hf HA.out
        have HW2 := Lib.hid (fun wx hb => HW.out g hg hs wx hb)
        have HT2 := Lib.hid (fun wx hb => HT.out g hg hs hl wx hb)
        generalize ofL (geoT false [] ntW 4 g) = t at *
        clear hf hl hs hg
        obtain ⟨c0, c1, c2⟩ := HX4.out
        have hsty : styV false [] = .agg #[.bool false, .string ⟨#[]⟩] := rfl
        rw [hsty] at HT2
        clear hsty HT HW HGO HWH HFU
        go_wp2_with fail
        go_region_held3 (fun w' => w'.cell? ⟨w.heap.size, 0, none⟩ = some (.int .i64 k) ∧ w'.cell? ⟨w.heap.size, 1, none⟩ = some (.slice ao n c) ∧ w'.cell? ⟨w.heap.size, 2, none⟩ = some (.slice bo m c')) (first | exact keep3 hc (by assumption) | go_keep)
          (first | (go_at_call 13; refine (HWR.out _ (HB4.out.tr (by first | exact hbb | exact Bel.dr1 _))).mono ?_; rintro e w5 ⟨rfl, hc⟩; have hbb : Bel w4 w5 := (by first | exact hbb.tr hc | exact (Bel.dr1 _).tr hc)) | (go_at_call 16; refine (HW2.out _ (HB4.out.tr hbb)).mono ?_; rintro e w5 ⟨rfl, hc⟩; have hbb : Bel w4 w5 := hbb.tr hc) | (go_at_call 14; refine (HT2.out _ (HB4.out.tr hbb)).mono ?_; rintro e w5 ⟨rfl, hc⟩; have hbb : Bel w4 w5 := hbb.tr hc))
        all_goals
          have HBB := Lib.hid (HB4.out.tr hbb)
          clear hbb hc
          (try simp only [Exit.then])
          go_wp2
          go_ret
          exact ⟨rfl, HBB.out⟩
end Go.Proofs.YtghajgdiaopioaaGreatDoor
