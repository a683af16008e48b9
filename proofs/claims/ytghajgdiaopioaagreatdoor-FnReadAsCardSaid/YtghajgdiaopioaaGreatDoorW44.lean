/- Walks: writes (13). -/
import Derived.Test.YtghajgdiaopioaaGreatDoorW40
import Derived.Test.YtghajgdiaopioaaGreatDoorW42
import Derived.Test.YtghajgdiaopioaaGreatDoorW43
set_option linter.unusedVariables false
set_option linter.unusedSimpArgs false

namespace Go.Proofs.YtghajgdiaopioaaGreatDoor
open Go.RowKit
attribute [local go_sem] run_store_float run_store_iface run_store_nilIface

/-- What the world holds of the program's own variables. -/
structure AllW (w : World) : Prop where
  tabs : TabsW w
  info : w.cell? ⟨16, 0, none⟩ = some (.int .u64 52)
  opt : w.cell? ⟨14, 0, none⟩ = some (.bool true)
  words : WEnv w
def HasAll (G : Errs) : Prop := ∀ w, Env G w → AllW w
def IsWh (x : Nat) : Prop := ∃ q : Bool × Nat, Wh q.1 q.2 ∧ x = wBits q.1 q.2
open Classical in
/-- The text of the float of a whole number. -/
noncomputable def ntW (x : Nat) : List UInt8 := if h : IsWh x then wText h.choose.1 h.choose.2 else [48]
theorem ntW_spec {x : Nat} (h : IsWh x) : ∃ neg n, Wh neg n ∧ x = wBits neg n ∧ ntW x = wText neg n :=
  ⟨h.choose.1, h.choose.2, h.choose_spec.1, h.choose_spec.2, by unfold ntW; rw [dif_pos h]⟩
theorem ntW_writes {G : Errs} (hG : HasAll G) {x : Nat} (h : IsWh x) : NumWrites G x (ntW x) := by
  obtain ⟨neg, n, h1, h2, h3⟩ := ntW_spec h
  rw [h3, h2]
  exact num_writes G (fun w hE => (hG w hE).tabs) h1
theorem ntW_ok {G : Errs} (hG : HasAll G) {x : Nat} (h : IsWh x) : NumOk G ntW x := by
  obtain ⟨neg, n, h1, h2, h3⟩ := ntW_spec h
  refine ⟨?_, ?_⟩
  · rw [h3]
    refine ⟨(wText_len neg n).1, fun c hc => ?_⟩
    have hd : isDg c ∨ c = 45 := by
      unfold wText at hc
      rcases List.mem_append.1 hc with hc | hc
      · right; cases neg <;> simp at hc; exact hc
      · left
        have := List.all_eq_true.1 chkR_all n (List.mem_range.2 (by have := h1.1; omega))
        unfold chkR at this
        simp only [Bool.and_eq_true, List.all_eq_true, decide_eq_true_eq] at this
        exact this.1.1.1.1 c hc
    rcases hd with ⟨hd1, hd2⟩ | rfl
    · refine ⟨?_, ?_, ?_, ?_, by omega⟩
      · simp only [isSp, Bool.or_eq_false_iff, beq_eq_false_iff_ne]
        refine ⟨⟨?_, ?_⟩, ?_⟩ <;> rintro rfl <;> exact absurd hd1 (by decide)
      · rintro rfl; exact absurd hd1 (by decide)
      · rintro rfl; exact absurd hd1 (by decide)
      · rintro rfl; exact absurd hd1 (by decide)
    · decide
  · rw [h3]
    have := num_reads G (fun w hE => ⟨(hG w hE).tabs, (hG w hE).info, (hG w hE).opt⟩) h1
    rw [← h2] at this
    exact this
def chkU : Bool := (List.range 1001).all fun n => [false, true].all fun neg => [1, 2, 3, 4].all fun k => !(wBits neg n == wBits false k) || (n == k && (neg == false))
theorem chkU_all : chkU = true := by decide +kernel
theorem ntW_small (k : Nat) (hk : k = 1 ∨ k = 2 ∨ k = 3 ∨ k = 4) : IsWh (wBits false k) ∧ ntW (wBits false k) = wText false k := by
  have hw : IsWh (wBits false k) := ⟨(false, k), ⟨by rcases hk with rfl | rfl | rfl | rfl <;> decide, fun _ => rfl⟩, rfl⟩
  refine ⟨hw, ?_⟩
  obtain ⟨neg, n, h1, h2, h3⟩ := ntW_spec hw
  have := chkU_all
  unfold chkU at this
  have h4 := List.all_eq_true.1 this n (List.mem_range.2 (by have := h1.1; omega))
  have h5 := List.all_eq_true.1 h4 neg (by cases neg <;> simp)
  have h6 := List.all_eq_true.1 h5 k (by rcases hk with rfl | rfl | rfl | rfl <;> simp)
  rw [← h2] at h6
  simp at h6
  rw [h3, h6.1, h6.2]
theorem b1 : wBits false 1 = 4607182418800017408 := by decide +kernel
theorem b2 : wBits false 2 = 4611686018427387904 := by decide +kernel
theorem b3 : wBits false 3 = 4613937818241073152 := by decide +kernel
theorem b4 : wBits false 4 = 4616189618054758400 := by decide +kernel
theorem tx1 : wText false 1 = [49] := by decide +kernel
theorem tx2 : wText false 2 = [50] := by decide +kernel
theorem tx3 : wText false 3 = [51] := by decide +kernel
theorem tx4 : wText false 4 = [52] := by decide +kernel
def lit19 : List UInt8 := [76, 73, 78, 69, 83, 84, 82, 73, 78, 71, 40, 49, 32, 50, 44, 51, 32, 52, 41]
theorem plain_text : geoT false [] ntW 0 (.line plainL) = lit19 := by
  have e1 := (ntW_small 1 (by simp)).2
  have e2 := (ntW_small 2 (by simp)).2
  have e3 := (ntW_small 3 (by simp)).2
  have e4 := (ntW_small 4 (by simp)).2
  rw [b1, tx1] at e1
  rw [b2, tx2] at e2
  rw [b3, tx3] at e3
  rw [b4, tx4] at e4
  simp [geoT, lineT, ptT, jn, plainL, e1, e2, e3, e4, wd, kwLine, lit19]
theorem plain_wh : ∀ p ∈ plainL, IsWh p.1 ∧ IsWh p.2 := by
  have e1 := (ntW_small 1 (by simp)).1
  have e2 := (ntW_small 2 (by simp)).1
  have e3 := (ntW_small 3 (by simp)).1
  have e4 := (ntW_small 4 (by simp)).1
  rw [b1] at e1
  rw [b2] at e2
  rw [b3] at e3
  rw [b4] at e4
  intro p hp
  simp [plainL] at hp
  rcases hp with rfl | rfl
  · exact ⟨e1, e2⟩
  · exact ⟨e3, e4⟩
set_option maxRecDepth 10000 in
set_option maxHeartbeats 4000000 in
theorem read_err0 (G : Errs) (d : Nat) (l : List UInt8) (w : World) (hE : Env G w) (h : GeoReads G d l none) :
    Calls Tryz.prog 15 #[.string (ofL l)] w fun e w' => e = .returned (.tuple #[.agg #[.int .i64 0, .slice none 0 0, .slice none 0 0], .bool false]) ∧ Bel w w' := by
  have HU := Lib.hid (fun wx (hb : Bel w wx) => unm_calls G d l none wx (hE.bel hb) h)
  clear h hE
  generalize ofL l = s at *
  go_enter Tryz.func15, Tryz.ntmps15
  go_wp2_with fail
  have hres : (w.alloc (.cells #[.int .i64 0, .slice none 0 0, .slice none 0 0] 25)).heap[w.heap.size]? = some (.cells #[.int .i64 0, .slice none 0 0, .slice none 0 0] 25) := heap_alloc_new _ _
  have hb0 : Bel w (w.alloc (.cells #[.int .i64 0, .slice none 0 0, .slice none 0 0] 25)) := Bel.al _ _
  generalize w.alloc (.cells #[.int .i64 0, .slice none 0 0, .slice none 0 0] 25) = w0 at *
  refine (HU.out w0 hb0).mono ?_
  rintro e w1 ⟨⟨a, rfl⟩, hb1⟩
  have hres1 := hb1.heap hres
  have p0 : w1.cell? ⟨w.heap.size, 0, none⟩ = some (.int .i64 0) := by simp [World.cell?, hres1]
  have p1 : w1.cell? ⟨w.heap.size, 1, none⟩ = some (.slice none 0 0) := by simp [World.cell?, hres1]
  have p2 : w1.cell? ⟨w.heap.size, 2, none⟩ = some (.slice none 0 0) := by simp [World.cell?, hres1]
  have r0 : w1.frozen? ⟨w.heap.size, 0, none⟩ = false := by simp [World.frozen?, hres1]
  have r1 : w1.frozen? ⟨w.heap.size, 1, none⟩ = false := by simp [World.frozen?, hres1]
  have r2 : w1.frozen? ⟨w.heap.size, 2, none⟩ = false := by simp [World.frozen?, hres1]
  have HB1 := Lib.hid (hb0.tr hb1)
  clear hres1 hres hb1 hb0
  go_wp2
  (try simp only [Exit.inBlock, Exit.then])
  refine bodyPost_ret (v := .tuple #[.agg #[.int .i64 0, .slice none 0 0, .slice none 0 0], .bool false]) ?_ rfl ⟨rfl, ?_⟩
  · simp [results, Tryz.results15, go_sem, p0, p1, p2]
  · exact set3_bel HB1.out (Nat.le_refl _)


end Go.Proofs.YtghajgdiaopioaaGreatDoor

/- Walks: writes (13). -/
namespace Go.Proofs.YtghajgdiaopioaaGreatDoor
open Go.RowKit
attribute [local go_sem] run_store_float run_store_iface run_store_nilIface

def lit18 : List UInt8 := [76, 73, 78, 69, 83, 84, 82, 73, 78, 71, 40, 49, 32, 50, 44, 51]
theorem plain_alln {G : Errs} (hG : HasAll G) : AllN (NumOk G ntW) 0 (.line plainL) := fun p hp => ⟨ntW_ok hG (plain_wh p hp).1, ntW_ok hG (plain_wh p hp).2⟩
theorem plain_rd {G : Errs} (hG : HasAll G) : GeoReads G 0 lit19 (some (.line plainL)) := by
  have := geo_reads G ntW false (sp := []) (.inl rfl) 0 (.line plainL) (by simp [FullG, plainL]) (by simp [Small, plainL]) (plain_alln hG) (by rw [plain_text]; decide)
  rwa [plain_text] at this
/-- LINESTRING(1 2,3 -/
theorem cut_rd (G : Errs) : GeoReads G 0 lit18 none := by
  have ha : Asc lit18 := by unfold Asc; decide
  exact ⟨by decide, GeoStep.line _ none rfl ha (by decide) (by decide) (by decide) (.inr ⟨by decide, .inl ⟨by decide, rfl⟩⟩)⟩
theorem keep3 {w w' : World} {a b c : Addr} {v u x : Value} (hb : Bel w w') (h : w.cell? a = some v ∧ w.cell? b = some u ∧ w.cell? c = some x) : w'.cell? a = some v ∧ w'.cell? b = some u ∧ w'.cell? c = some x := ⟨hb.cellOf h.1, hb.cellOf h.2.1, hb.cellOf h.2.2⟩
set_option maxRecDepth 10000 in
set_option maxHeartbeats 4000000 in
theorem writes_calls (G : Errs) (hG : HasAll G) (w : World) (hE : Env G w) : Calls Tryz.prog 13 #[] w fun e w' => e = .returned (.bool true) ∧ Bel w w' := by
  have h19 : (⟨#[76, 73, 78, 69, 83, 84, 82, 73, 78, 71, 40, 49, 32, 50, 44, 51, 32, 52, 41]⟩ : ByteArray) = ofL lit19 := rfl
  have h18 : (⟨#[76, 73, 78, 69, 83, 84, 82, 73, 78, 71, 40, 49, 32, 50, 44, 51]⟩ : ByteArray) = ofL lit18 := rfl
  have HR1 := Lib.hid (fun wx (hb : Bel w wx) => read_ok G 0 lit19 (.line plainL) wx (hE.bel hb) (plain_rd hG) (by simp [Small, plainL]))
  have HR2 := Lib.hid (fun wx (hb : Bel w wx) => read_err0 G 0 lit18 wx (hE.bel hb) (cut_rd G))
  have HW := Lib.hid (fun wx (hb : Bel w wx) v (hv : ShpAt 2 wx v (toShp 0 (.line plainL))) => write_calls G ntW 0 2 v (.line plainL) wx (hE.bel hb) hv (by simp [Small, plainL]) (fun p hp => ⟨ntW_writes hG (plain_wh p hp).1, ntW_writes hG (plain_wh p hp).2⟩) (by rw [plain_text]; decide))
  rw [plain_text] at HW
  rw [← h19, ← h18] at *
  go_enter Tryz.func13, Tryz.ntmps13
  go_wp2_with fail
  refine (HR1.out w (Below.refl _ _)).mono ?_
  rintro e w1 ⟨⟨v, rfl, hv⟩, hb1⟩
  obtain ⟨k, a, n, c, a', n', c', rfl⟩ : ∃ k a n c a' n' c', v = .agg #[.int .i64 k, .slice a n c, .slice a' n' c'] := by
    obtain ⟨d', k, ls, ps, L, P, _, _, rfl, hL, hP⟩ := shpAt_slices hv
    obtain ⟨ao, cap, rfl⟩ := hL.slice
    obtain ⟨bo, cap2, rfl⟩ := partsAt_slice hP
    exact ⟨k, ao, _, cap, bo, _, cap2, rfl⟩
  have HV := Lib.hid hv
  have HB1 := Lib.hid hb1
  clear hv hb1
  go_wp2_with fail
  obtain ⟨w2, hw2⟩ : ∃ w2, w1.alloc (.cells #[.int .i64 k, .slice a n c, .slice a' n' c'] 25) = w2 := ⟨_, rfl⟩
  have hb2 : Bel w1 w2 := by rw [← hw2]; exact Bel.al _ _
  have hx2 : w2.heap[w1.heap.size]? = some (.cells #[.int .i64 k, .slice a n c, .slice a' n' c'] 25 (0, 0)) := by rw [← hw2]; exact heap_alloc_new _ _
  rw [hw2]
  clear hw2
  refine (HR2.out w2 (HB1.out.tr hb2)).mono ?_
  rintro e w3 ⟨rfl, hb3⟩
  have HB3 := Lib.hid (hb2.tr hb3)
  have HX3 := Lib.hid (hb3.heap hx2)
  clear hb2 hb3 hx2
  go_wp2_with fail
  obtain ⟨w4, hw4⟩ : ∃ w4, w3.alloc (.cells #[.int .i64 0, .slice none 0 0, .slice none 0 0] 25) = w4 := ⟨_, rfl⟩
  have hb4 : Bel w3 w4 := by rw [← hw4]; exact Bel.al _ _
  rw [hw4]
  clear hw4
  have HX4 := Lib.hid (hb4.heap HX3.out)
  have HB4 := Lib.hid (HB1.out.tr (HB3.out.tr hb4))
  have HV4 := Lib.hid (ShpAt.bel (HB3.out.tr hb4) _ _ _ HV.out)
  clear hb4
  have c0 : w4.cell? ⟨w1.heap.size, 0, none⟩ = some (.int .i64 k) := by simp [World.cell?, HX4.out]
  have c1 : w4.cell? ⟨w1.heap.size, 1, none⟩ = some (.slice a n c) := by simp [World.cell?, HX4.out]
  have c2 : w4.cell? ⟨w1.heap.size, 2, none⟩ = some (.slice a' n' c') := by simp [World.cell?, HX4.out]
  have hlen : LenS 2 (toShp 0 (.line plainL)) := small_lenS 0 _ (by simp [Small, plainL])
  have HLEN := Lib.hid hlen
  clear hlen
  go_region_held3 (fun w' => w'.cell? ⟨w1.heap.size, 0, none⟩ = some (.int .i64 k) ∧ w'.cell? ⟨w1.heap.size, 1, none⟩ = some (.slice a n c) ∧ w'.cell? ⟨w1.heap.size, 2, none⟩ = some (.slice a' n' c')) (first | exact keep3 hc (by assumption) | go_keep)
    (first | (go_at_call 27; refine (plain_calls _).mono ?_; rintro e w5 ⟨⟨p, rfl, hp⟩, hc⟩; have hbb : Bel w4 w5 := (by first | exact hbb.tr hc | exact (Bel.dr1 _).tr hc)) | (go_at_call 26; refine (sameShape_calls 2 2 2 _ _ (toShp 0 (.line plainL)) _ HLEN.out (ShpAt.bel hbb _ _ _ HV4.out) hp).mono ?_; rintro e w6 ⟨rfl, hc⟩; have hbb : Bel w4 w6 := hbb.tr hc) | (go_at_call 16; refine (HW.out _ (HB4.out.tr hbb) _ hp).mono ?_; rintro e w7 ⟨rfl, hc⟩; have hbb : Bel w4 w7 := hbb.tr hc))
  all_goals
    have HBB := Lib.hid (HB4.out.tr hbb)
    clear hbb hc hp
    (try simp only [Exit.then])
    go_wp2
    go_ret
    exact ⟨rfl, HBB.out⟩
end Go.Proofs.YtghajgdiaopioaaGreatDoor
