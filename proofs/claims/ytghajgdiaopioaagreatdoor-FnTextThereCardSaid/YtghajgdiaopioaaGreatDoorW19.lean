/- Walks: shapeOf, the simple kinds. -/
import Derived.Test.YtghajgdiaopioaaGreatDoorW18
set_option linter.unusedVariables false
set_option linter.unusedSimpArgs false

namespace Go.Proofs.YtghajgdiaopioaaGreatDoor
open Go.RowKit
attribute [local go_sem] run_store_float run_store_iface run_store_nilIface

theorem ta_is {t e : TypeId} (hu : Tryz.prog.underlying t = some (.slice e)) (v : Value) (w : World) : (Instr.typeAssert (.iface t v) 52 t true).run Tryz.prog w = .ok (.tuple #[v, .bool true]) w := by
  simp [Instr.typeAssert, run_underlying hu]
theorem ta_not {t e : TypeId} (hu : Tryz.prog.underlying t = some (.slice e)) (hz : (Tryz.prog.info? t).map (·.zero) = some (some (.slice none 0 0))) (t' : TypeId) (hne : ¬ t' = t) (v : Value) (w : World) : (Instr.typeAssert (.iface t' v) 52 t true).run Tryz.prog w = .ok (.tuple #[.slice none 0 0, .bool false]) w := by
  obtain ⟨j, hj, hz'⟩ := Option.map_eq_some_iff.1 hz
  simp [Instr.typeAssert, run_underlying hu, hne, zeroValue, typeInfo, hj, hz']
theorem ta_is61 (v : Value) (w : World) : (Instr.typeAssert (.iface 61 v) 52 61 true).run Tryz.prog w = .ok (.tuple #[v, .bool true]) w := by
  simp [Instr.typeAssert, run_underlying Tryz.underlying61]
theorem ta_not61 (t' : TypeId) (hne : ¬ t' = 61) (v : Value) (w : World) : (Instr.typeAssert (.iface t' v) 52 61 true).run Tryz.prog w = .ok (.tuple #[.agg #[.float .f64 0, .float .f64 0], .bool false]) w := by
  obtain ⟨j, hj, hz'⟩ := Option.map_eq_some_iff.1 (show (Tryz.prog.info? 61).map (·.zero) = some (some (.agg #[.float .f64 0, .float .f64 0])) by kernel_rfl)
  simp [Instr.typeAssert, run_underlying Tryz.underlying61, hne, zeroValue, typeInfo, hj, hz']
theorem z65 : (Tryz.prog.info? 65).map (·.zero) = some (some (.slice none 0 0)) := by kernel_rfl
theorem z69 : (Tryz.prog.info? 69).map (·.zero) = some (some (.slice none 0 0)) := by kernel_rfl
theorem z72 : (Tryz.prog.info? 72).map (·.zero) = some (some (.slice none 0 0)) := by kernel_rfl
theorem z76 : (Tryz.prog.info? 76).map (·.zero) = some (some (.slice none 0 0)) := by kernel_rfl
theorem z80 : (Tryz.prog.info? 80).map (·.zero) = some (some (.slice none 0 0)) := by kernel_rfl

theorem size_set3 (w : World) (b : Nat) (v0 v1 v2 : Value) : (((w.setCell ⟨b, 0, none⟩ v0).setCell ⟨b, 1, none⟩ v1).setCell ⟨b, 2, none⟩ v2).heap.size = w.heap.size := by simp
/-- A row of one list, in a world in which one block was laid for it. -/
theorem row_one (w : World) (x : Value) (l : List Pt) (h : RdPts9 w x l) : RdRow 27 RdPts9 (w.alloc (.cells #[x] 27)) (.slice (some ⟨w.heap.size, 0, none⟩) 1 1) [l] :=
  ⟨[x], ⟨by simp, .inr ⟨w.heap.size, 1, #[x], rfl, Nat.zero_le _, heap_alloc_new w _, Nat.le_refl _, by unfold maxLen; omega, by simp, by simp⟩⟩, .snoc (xs := []) (ds := []) .nil (RdPts9.keep h (TKept.of_bel (Bel.al _ _)))⟩

set_option maxRecDepth 10000 in
set_option maxHeartbeats 4000000 in
theorem shapeOf_pt (p : Pt) (w : World) :
    Calls Tryz.prog 33 #[.iface 61 (.agg #[.float .f64 p.1, .float .f64 p.2])] w fun e w' => (∃ L, e = .returned (.agg #[.int .i64 1, L, .slice none 0 0]) ∧ RdRow 27 RdPts9 w' L [[p]]) ∧ Bel w w' := by
  have a1 := ta_is61
  go_enter Tryz.func33, Tryz.ntmps33
  go_wp2
  (try simp only [Exit.inBlock, Exit.then])
  refine bodyPost_ret (v := .agg #[.int .i64 1, .slice (some ⟨w.heap.size + 1 + 1 + 1, 0, none⟩) 1 1, .slice none 0 0]) ?_ rfl ⟨⟨_, rfl, ?_⟩, ?_⟩
  · simp [results, Tryz.results33, go_sem]
  · generalize hu : ((w.alloc _).alloc _) = u
    have hus : u.heap.size = w.heap.size + 2 := by rw [← hu]; simp
    have h1 : (u.alloc (.cells #[.float .f64 p.1, .float .f64 p.2] 49)).heap[u.heap.size]? = some (.cells #[.float .f64 p.1, .float .f64 p.2] 49 (0, 0)) := heap_alloc_new _ _
    have hr := row_one (u.alloc (.cells #[.float .f64 p.1, .float .f64 p.2] 49)) (.slice (some ⟨u.heap.size, 0, none⟩) 1 1) [p] ⟨by simp [ptsCells, ptCells], .inr ⟨_, 1, _, rfl, Nat.zero_le _, h1, Nat.le_refl _, by simp [maxLen], by simp, by simp [ptsCells, ptCells]⟩⟩
    rw [show (u.alloc (.cells #[.float .f64 p.1, .float .f64 p.2] 49)).heap.size = w.heap.size + 1 + 1 + 1 from by simp; omega, show u.heap.size = w.heap.size + 1 + 1 from by omega] at hr
    exact hr
  · exact (((Bel.al _ _).tr (Bel.al _ _)).tr (Bel.al _ _)).tr (Bel.al _ _)

set_option maxRecDepth 10000 in
set_option maxHeartbeats 4000000 in
theorem shapeOf_line (x : Value) (l : List Pt) (w : World) (hl : PtsAt w x l) (hs : l.length ≤ 1000000000) :
    Calls Tryz.prog 33 #[.iface 65 x] w fun e w' => (∃ L, e = .returned (.agg #[.int .i64 2, L, .slice none 0 0]) ∧ RdRow 27 RdPts9 w' L [l]) ∧ Bel w w' := by
  have HL := Lib.hid (fun wx (hb : Bel w wx) => listOf_calls x l wx (hl.bel hb) hs)
  obtain ⟨ao, cap, rfl⟩ := hl.slice
  clear hl
  have n1 := ta_not61 65 (by decide)
  have a1 := ta_is Tryz.underlying65
  go_enter Tryz.func33, Tryz.ntmps33
  go_wp2_with fail
  have hres : (w.alloc (.cells #[.int .i64 0, .slice none 0 0, .slice none 0 0] 25)).heap[w.heap.size]? = some (.cells #[.int .i64 0, .slice none 0 0, .slice none 0 0] 25) := heap_alloc_new _ _
  have hb0 : Bel w (w.alloc (.cells #[.int .i64 0, .slice none 0 0, .slice none 0 0] 25)) := Bel.al _ _
  generalize w.alloc (.cells #[.int .i64 0, .slice none 0 0, .slice none 0 0] 25) = w0 at *
  refine (HL.out w0 hb0).mono ?_
  rintro e w1 ⟨y, rfl, hy, hb1⟩
  obtain ⟨ao3, cap3, rfl⟩ := own_slice hy
  have hres1 := hb1.heap hres
  have p0 : w1.cell? ⟨w.heap.size, 0, none⟩ = some (.int .i64 0) := by simp [World.cell?, hres1]
  have p1 : w1.cell? ⟨w.heap.size, 1, none⟩ = some (.slice none 0 0) := by simp [World.cell?, hres1]
  have p2 : w1.cell? ⟨w.heap.size, 2, none⟩ = some (.slice none 0 0) := by simp [World.cell?, hres1]
  have r0 : w1.frozen? ⟨w.heap.size, 0, none⟩ = false := by simp [World.frozen?, hres1]
  have r1 : w1.frozen? ⟨w.heap.size, 1, none⟩ = false := by simp [World.frozen?, hres1]
  have r2 : w1.frozen? ⟨w.heap.size, 2, none⟩ = false := by simp [World.frozen?, hres1]
  have hlt2 := lt_heap hres1
  have HRES := Lib.hid hres1
  have HY := Lib.hid (show RdPts9 w1 _ l from hy)
  have HB1 := Lib.hid (hb0.tr hb1)
  clear hres1 hres hy hb1 hb0
  go_wp2
  (try simp only [Exit.inBlock, Exit.then])
  refine bodyPost_ret (v := .agg #[.int .i64 2, .slice (some ⟨w1.heap.size, 0, none⟩) 1 1, .slice none 0 0]) ?_ rfl ⟨⟨_, rfl, ?_⟩, ?_⟩
  · simp [results, Tryz.results33, go_sem, p0, p1, p2, hlt2]
  · have hr := fun a b c => row_one _ _ l (RdPts9.keep HY.out (set3_tkept (v0 := a) (v1 := b) (v2 := c) HRES.out _ (by decide)))
    simp only [size_set3] at hr
    exact hr _ _ _
  · exact (set3_bel HB1.out (Nat.le_refl _)).tr (Bel.al _ _)

set_option maxRecDepth 10000 in
set_option maxHeartbeats 4000000 in
theorem shapeOf_mpt (x : Value) (l : List Pt) (w : World) (hl : PtsAt w x l) (hs : l.length ≤ 1000000000) :
    Calls Tryz.prog 33 #[.iface 72 x] w fun e w' => (∃ L, e = .returned (.agg #[.int .i64 4, L, .slice none 0 0]) ∧ RdRow 27 RdPts9 w' L [l]) ∧ Bel w w' := by
  have HL := Lib.hid (fun wx (hb : Bel w wx) => listOf_calls x l wx (hl.bel hb) hs)
  obtain ⟨ao, cap, rfl⟩ := hl.slice
  clear hl
  have n1 := ta_not61 72 (by decide)
  have n2 := ta_not Tryz.underlying65 z65 72 (by decide)
  have n3 := ta_not Tryz.underlying69 z69 72 (by decide)
  have a1 := ta_is Tryz.underlying72
  go_enter Tryz.func33, Tryz.ntmps33
  go_wp2_with fail
  have hres : (w.alloc (.cells #[.int .i64 0, .slice none 0 0, .slice none 0 0] 25)).heap[w.heap.size]? = some (.cells #[.int .i64 0, .slice none 0 0, .slice none 0 0] 25) := heap_alloc_new _ _
  have hb0 : Bel w (w.alloc (.cells #[.int .i64 0, .slice none 0 0, .slice none 0 0] 25)) := Bel.al _ _
  generalize w.alloc (.cells #[.int .i64 0, .slice none 0 0, .slice none 0 0] 25) = w0 at *
  refine (HL.out w0 hb0).mono ?_
  rintro e w1 ⟨y, rfl, hy, hb1⟩
  obtain ⟨ao3, cap3, rfl⟩ := own_slice hy
  have hres1 := hb1.heap hres
  have p0 : w1.cell? ⟨w.heap.size, 0, none⟩ = some (.int .i64 0) := by simp [World.cell?, hres1]
  have p1 : w1.cell? ⟨w.heap.size, 1, none⟩ = some (.slice none 0 0) := by simp [World.cell?, hres1]
  have p2 : w1.cell? ⟨w.heap.size, 2, none⟩ = some (.slice none 0 0) := by simp [World.cell?, hres1]
  have r0 : w1.frozen? ⟨w.heap.size, 0, none⟩ = false := by simp [World.frozen?, hres1]
  have r1 : w1.frozen? ⟨w.heap.size, 1, none⟩ = false := by simp [World.frozen?, hres1]
  have r2 : w1.frozen? ⟨w.heap.size, 2, none⟩ = false := by simp [World.frozen?, hres1]
  have hlt2 := lt_heap hres1
  have HRES := Lib.hid hres1
  have HY := Lib.hid (show RdPts9 w1 _ l from hy)
  have HB1 := Lib.hid (hb0.tr hb1)
  clear hres1 hres hy hb1 hb0
  go_wp2
  (try simp only [Exit.inBlock, Exit.then])
  refine bodyPost_ret (v := .agg #[.int .i64 4, .slice (some ⟨w1.heap.size, 0, none⟩) 1 1, .slice none 0 0]) ?_ rfl ⟨⟨_, rfl, ?_⟩, ?_⟩
  · simp [results, Tryz.results33, go_sem, p0, p1, p2, hlt2]
  · have hr := fun a b c => row_one _ _ l (RdPts9.keep HY.out (set3_tkept (v0 := a) (v1 := b) (v2 := c) HRES.out _ (by decide)))
    simp only [size_set3] at hr
    exact hr _ _ _
  · exact (set3_bel HB1.out (Nat.le_refl _)).tr (Bel.al _ _)
end Go.Proofs.YtghajgdiaopioaaGreatDoor

/- Walks: shapeOf of a polygon and of lines (printed by genAG.py). -/
namespace Go.Proofs.YtghajgdiaopioaaGreatDoor
open Go.RowKit
attribute [local go_sem] run_store_float run_store_iface run_store_nilIface
attribute [local go_sem ↓] Go.wp_at_zero Go.wp_at_succ

set_option maxRecDepth 10000 in
set_option maxHeartbeats 4000000 in
theorem shapeOf_poly (x : Value) (ls : List (List Pt)) (w : World) (hl : RowAt PtsAt w x ls) (hs : ls.length ≤ 1000000000) (hs2 : ∀ l ∈ ls, l.length ≤ 1000000000) :
    Calls Tryz.prog 33 #[.iface 69 x] w fun e w' => (∃ L, e = .returned (.agg #[.int .i64 3, L, .slice none 0 0]) ∧ RdRow 27 RdPts9 w' L ls) ∧ Bel w w' := by
  have HL := Lib.hid (fun wx (hb : Bel w wx) => polyShape_calls x ls wx (hl.bel hb fun x d h => h.bel hb) hs hs2)
  obtain ⟨ao, cap, rfl⟩ := hl.slice
  clear hl hs2
  have n1 := ta_not61 69 (by decide)
  have n2 := ta_not Tryz.underlying65 z65 69 (by decide)
  have a1 := ta_is Tryz.underlying69
  go_enter Tryz.func33, Tryz.ntmps33
  go_wp2_with fail
  have hres : (w.alloc (.cells #[.int .i64 0, .slice none 0 0, .slice none 0 0] 25)).heap[w.heap.size]? = some (.cells #[.int .i64 0, .slice none 0 0, .slice none 0 0] 25) := heap_alloc_new _ _
  have hb0 : Bel w (w.alloc (.cells #[.int .i64 0, .slice none 0 0, .slice none 0 0] 25)) := Bel.al _ _
  generalize w.alloc (.cells #[.int .i64 0, .slice none 0 0, .slice none 0 0] 25) = w0 at *
  refine (HL.out w0 hb0).mono ?_
  rintro e w1 ⟨⟨y, rfl, hy⟩, hb1⟩
  obtain ⟨ys, hy1, hy2⟩ := hy
  obtain ⟨ao3, cap3, rfl⟩ := own_slice hy1
  have hres1 := hb1.heap hres
  have p0 : w1.cell? ⟨w.heap.size, 0, none⟩ = some (.int .i64 0) := by simp [World.cell?, hres1]
  have p1 : w1.cell? ⟨w.heap.size, 1, none⟩ = some (.slice none 0 0) := by simp [World.cell?, hres1]
  have p2 : w1.cell? ⟨w.heap.size, 2, none⟩ = some (.slice none 0 0) := by simp [World.cell?, hres1]
  have r0 : w1.frozen? ⟨w.heap.size, 0, none⟩ = false := by simp [World.frozen?, hres1]
  have r1 : w1.frozen? ⟨w.heap.size, 1, none⟩ = false := by simp [World.frozen?, hres1]
  have r2 : w1.frozen? ⟨w.heap.size, 2, none⟩ = false := by simp [World.frozen?, hres1]
  have HRES := Lib.hid hres1
  have HY := Lib.hid (show RdRow 27 RdPts9 w1 _ ls from ⟨ys, hy1, hy2⟩)
  have HB1 := Lib.hid (hb0.tr hb1)
  clear hres1 hres hy1 hy2 hb1 hb0
  go_wp2
  (try simp only [Exit.inBlock, Exit.then])
  refine bodyPost_ret (v := .agg #[.int .i64 3, .slice ao3 ls.length cap3, .slice none 0 0]) ?_ rfl ⟨⟨_, rfl, ?_⟩, ?_⟩
  · simp [results, Tryz.results33, go_sem, p0, p1, p2]
  · exact rdRow_keep (fun x d h => RdPts9.keep h (set3_tkept HRES.out _ (by decide))) (set3_tkept HRES.out _ (by decide)) HY.out
  · exact set3_bel HB1.out (Nat.le_refl _)

set_option maxRecDepth 100000 in
set_option maxHeartbeats 8000000 in
theorem shapeOf_mline (x : Value) (ls : List (List Pt)) (w : World) (hl : RowAt PtsAt w x ls) (hs : ls.length ≤ 1000000000) (hs2 : ∀ l ∈ ls, l.length ≤ 1000000000) :
    Calls Tryz.prog 33 #[.iface 76 x] w fun e w' => (∃ L, e = .returned (.agg #[.int .i64 5, L, .slice none 0 0]) ∧ RdRow 27 RdPts9 w' L ls) ∧ Bel w w' := by
  obtain ⟨i0, hi, hz0, hz1, hz2⟩ := info_parts info27
  obtain ⟨ao, cap, rfl, -, hc⟩ := hl
  have HC := Lib.hid hc
  have HS2 := Lib.hid hs2
  clear hc hs2
  have n1 := ta_not61 76 (by decide)
  have n2 := ta_not Tryz.underlying65 z65 76 (by decide)
  have n3 := ta_not Tryz.underlying69 z69 76 (by decide)
  have n4 := ta_not Tryz.underlying72 z72 76 (by decide)
  have a1 := ta_is Tryz.underlying76
  go_enter Tryz.func33, Tryz.ntmps33
  go_wp2_with fail
  clear n1 n2 n3 n4 a1
  go_loopg [56] ls.length (fun g s9 wr => ∃ (i : Nat) (L : Value) (xs : List Value), i ≤ ls.length ∧ g = ls.length - i ∧ s9 = .int .i64 i ∧ Hid (wr.heap[w.heap.size + 1]? = some (.cells #[.int .i64 5, L, .slice none 0 0] 25) ∧ wr.ownsRow (w.heap.size + 2) 27 1 L i xs ∧ Each RdPts9 wr xs (ls.take i) ∧ Bel w wr ∧ wr.heap[w.heap.size]? = some (.cells #[.int .i64 0, .slice none 0 0, .slice none 0 0] 25)))
  case atStart =>
    refine ⟨0, .slice none 0 0, [], by omega, rfl, rfl, ?_, World.ownsRow_nil _ _ _ _, .nil, ?_⟩
    · exact heap_alloc2 _ _ _
    · exact ⟨(Bel.al _ _).tr (Bel.al _ _), (Bel.al _ _).heap (heap_alloc_new _ _)⟩
  case round =>
    obtain ⟨i, L, xs, hi1, rfl, rfl, hh⟩ := hrel
    by_cases hlt : i < ls.length
    · obtain ⟨hbox, hown, heach, hbel, hres⟩ := hh.out
      obtain ⟨p, hp⟩ : ∃ p, ls[i]? = some p := ⟨_, List.getElem?_eq_getElem hlt⟩
      obtain ⟨a, y, rfl, c0, hy⟩ := HC.out i p hp
      have c0' := hbel.cellOf c0
      have hpl := HS2.out p (List.mem_of_getElem? hp)
      have HX := Lib.hid (fun wx (hb : Bel w wx) => listOf_calls y p wx (hy.bel hb) hpl)
      obtain ⟨ao1, cap1, rfl⟩ := hy.slice
      obtain ⟨ao2, cap2, rfl⟩ := own_slice hown
      have q1 : wr.cell? ⟨w.heap.size + 1, 1, none⟩ = some (.slice ao2 i cap2) := by simp [World.cell?, hbox]
      have HBOX := Lib.hid hbox
      have HRES := Lib.hid hres
      have HOWN := Lib.hid hown
      have HBEL := Lib.hid hbel
      have HEACH := Lib.hid heach
      have hpa := Lib.hid hp
      clear hbox hres hown hbel c0 hp heach hy hpl hh
      have f1 : wr.frozen? ⟨w.heap.size + 1, 1, none⟩ = false := by simp [World.frozen?, HBOX.out]
      have hne : some (w.heap.size + 1) ≠ (Value.slice ao2 i cap2).ownBlock := fun hc => by have := (HOWN.out.lt _ hc.symm).1; omega
      have hbase1 : w.heap.size + 2 ≤ wr.heap.size := by have := lt_heap HBOX.out; omega
      go_wp2_with fail
      go_region_law
        (first | (refine step_append_lies _ (by rfl) _ _ _ (by rfl) (w.heap.size + 2) 27 i0 _ 1 24 Tryz.underlying22 hi hz0 hz1 hz2 rfl (by decide) _ i xs (by rfl) ((ownsRow_bel HOWN.out ((Bel.dr1 _).tr hb1)).alloc _) ⟨w1.heap.size, 0, none⟩ 1 1 [_] (by rfl) (by rfl) (World.news_of_block (heap_alloc_new w1 _)) (by intro u hu; simp at hu; subst hu; rfl) (by omega) (by unfold maxLen; omega) (by omega) (by have := hbase1; have := hb1.size; simp at *; omega) (w1.heap.size + 1) (by simp) ?_; intro gg cap3 w3 hown1 hgrow hat hgg; have q3 := keepGrown hgrow hne (keepAl (keepBel ((Bel.dr1 _).tr hb1) ⟨q1, f1⟩)); obtain ⟨q3, f3⟩ := q3) | (go_simp; go_at_call 60; refine (HX.out _ (HBEL.out.tr (Bel.dr1 _))).mono ?_; rintro e w1 ⟨y, rfl, hy, hb1⟩; obtain ⟨ao3, capL, rfl⟩ := own_slice hy; obtain ⟨q1', f1'⟩ := keepBel ((Bel.dr1 _).tr hb1) ⟨q1, f1⟩; obtain ⟨q1a, f1a⟩ := keepAl (o := .cells #[.slice ao3 p.length capL] 27) ⟨q1', f1'⟩))
      all_goals
        have hb1' : Bel wr w1 := (Bel.dr1 _).tr hb1
        have hbox3 := grown_heap hgrow ((Bel.al _ _).heap (hb1'.heap HBOX.out)) hne
        have hown1' := (ownsRow_bel HOWN.out hb1').alloc (.cells #[.slice ao3 p.length capL] 27)
        have hbox4 := heap_setAt (j := 1) (v := .slice (some ⟨gg, 0, none⟩) (i + 1) cap3) hbox3
        have hT : TKept (fun e => e = 49) w1 (w3.setCell ⟨w.heap.size + 1, 1, none⟩ (.slice (some ⟨gg, 0, none⟩) (i + 1) cap3)) := (TKept.of_bel (Bel.al _ _)).tr ((grown_tkept hgrow hown1' rfl _ (by decide)).tr (setCell_tkept hbox3 _ (by decide)))
        have HF := Lib.hid (show ∃ (L : Value) (xs : List Value), L = .slice (some ⟨gg, 0, none⟩) (i + 1) cap3 ∧ (w3.setCell ⟨w.heap.size + 1, 1, none⟩ (.slice (some ⟨gg, 0, none⟩) (i + 1) cap3)).heap[w.heap.size + 1]? = some (.cells #[.int .i64 5, L, .slice none 0 0] 25) ∧ (w3.setCell ⟨w.heap.size + 1, 1, none⟩ (.slice (some ⟨gg, 0, none⟩) (i + 1) cap3)).ownsRow (w.heap.size + 2) 27 1 L (i + 1) xs ∧ Each RdPts9 (w3.setCell ⟨w.heap.size + 1, 1, none⟩ (.slice (some ⟨gg, 0, none⟩) (i + 1) cap3)) xs (ls.take (i + 1)) ∧ Bel w (w3.setCell ⟨w.heap.size + 1, 1, none⟩ (.slice (some ⟨gg, 0, none⟩) (i + 1) cap3)) ∧ (w3.setCell ⟨w.heap.size + 1, 1, none⟩ (.slice (some ⟨gg, 0, none⟩) (i + 1) cap3)).heap[w.heap.size]? = some (.cells #[.int .i64 0, .slice none 0 0, .slice none 0 0] 25) from by
          refine ⟨_, _, rfl, hbox4, ownsRow_setOther hown1 (fun hc => ?_) _, ?_, ?_, ?_⟩
          · have := (hown1.lt _ hc.symm).1
            simp at this <;> omega
          · rw [List.take_add_one, hpa.out]
            exact .snoc (HEACH.out.keep fun xx dd hh => RdPts9.keep hh ((TKept.of_bel hb1').tr hT)) (RdPts9.keep hy hT)
          · refine Below.setCell ?_ (by show w.heap.size ≤ w.heap.size + 1; omega) _
            refine (HBEL.out.tr hb1').trans (Below.grown ((Below.refl _ _).alloc (Nat.le_trans HBEL.out.size hb1'.size) _) hgrow (by have := HBEL.out.size; have := hb1'.size; simp; omega) ?_)
            intro k hk
            have := (HOWN.out.lt k hk).1
            omega
          · rw [Below.heap_setCell _ _ _ _ (by show w.heap.size ≠ w.heap.size + 1; omega)]
            exact grown_heap hgrow ((Bel.al _ _).heap (hb1'.heap HRES.out)) (fun hc => by have := (HOWN.out.lt _ hc.symm).1; omega))
        clear hT hbox4 hown1' hbox3 hb1' hgrow hown1 q3 f3 q1a f1a q1' f1' hy hb1
        go_wp2
        go_roundg (ls.length - (i + 1))
        case measure => omega
        case rel =>
          obtain ⟨L, xs', hL, h1, h2, h3, h4, h5⟩ := HF.out
          exact ⟨i + 1, L, xs', by omega, rfl, by go_num, h1, h2, h3, h4, h5⟩
    · obtain rfl : i = ls.length := by omega
      have hkz : ¬ ((ls.length : Int) < (ls.length : Int)) := by omega
      obtain ⟨hbox, hown, heach, hbel, hres⟩ := hh.out
      obtain ⟨ao2, cap2, rfl⟩ := own_slice hown
      have q0 : wr.cell? ⟨w.heap.size + 1, 0, none⟩ = some (.int .i64 5) := by simp [World.cell?, hbox]
      have q1 : wr.cell? ⟨w.heap.size + 1, 1, none⟩ = some (.slice ao2 ls.length cap2) := by simp [World.cell?, hbox]
      have q2 : wr.cell? ⟨w.heap.size + 1, 2, none⟩ = some (.slice none 0 0) := by simp [World.cell?, hbox]
      have HF := Lib.hid (show RdRow 27 RdPts9 wr (.slice ao2 ls.length cap2) ls ∧ Bel w wr from ⟨⟨xs, ownsRow_base hown (Nat.zero_le _), by rw [List.take_length] at heach; exact heach⟩, hbel⟩)
      have p0 : wr.cell? ⟨w.heap.size, 0, none⟩ = some (.int .i64 0) := by simp [World.cell?, hres]
      have p1 : wr.cell? ⟨w.heap.size, 1, none⟩ = some (.slice none 0 0) := by simp [World.cell?, hres]
      have p2 : wr.cell? ⟨w.heap.size, 2, none⟩ = some (.slice none 0 0) := by simp [World.cell?, hres]
      have r0 : wr.frozen? ⟨w.heap.size, 0, none⟩ = false := by simp [World.frozen?, hres]
      have r1 : wr.frozen? ⟨w.heap.size, 1, none⟩ = false := by simp [World.frozen?, hres]
      have r2 : wr.frozen? ⟨w.heap.size, 2, none⟩ = false := by simp [World.frozen?, hres]
      have HRES := Lib.hid hres
      clear hbox hown heach hbel hh hres
      go_wp2
      (try simp only [Exit.inBlock, Exit.then])
      refine bodyPost_ret (v := .agg #[.int .i64 5, .slice ao2 ls.length cap2, .slice none 0 0]) ?_ rfl ⟨⟨_, rfl, ?_⟩, ?_⟩
      · simp [results, Tryz.results33, go_sem, p0, p1, p2]
      · exact rdRow_keep (fun x d h => RdPts9.keep h (set3_tkept HRES.out _ (by decide))) (set3_tkept HRES.out _ (by decide)) HF.out.1
      · exact set3_bel HF.out.2 (Nat.le_refl _)
end Go.Proofs.YtghajgdiaopioaaGreatDoor
