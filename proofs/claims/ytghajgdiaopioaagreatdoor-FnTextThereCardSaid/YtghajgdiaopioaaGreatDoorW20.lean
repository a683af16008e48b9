/- Walks: shapeOf of polygons and of collections (printed by genAH.py). -/
import Derived.Test.YtghajgdiaopioaaGreatDoorW19
set_option linter.unusedVariables false
set_option linter.unusedSimpArgs false

namespace Go.Proofs.YtghajgdiaopioaaGreatDoor
open Go.RowKit
attribute [local go_sem] run_store_float run_store_iface run_store_nilIface
attribute [local go_sem ↓] Go.wp_at_zero Go.wp_at_succ

theorem shp_form {A : Nat → Prop} {d : Nat} {w : World} {c0 c1 c2 : Value} {s : Shp} (h : RdShp A d w (.agg #[c0, c1, c2]) s) : ∃ k a n cap a' n' cap', c0 = .int .i64 k ∧ c1 = .slice a n cap ∧ c2 = .slice a' n' cap' := by
  cases d with
  | zero => exact h.elim
  | succ d =>
    obtain ⟨k, ls, ps⟩ := s
    obtain ⟨L, P, xs, h1, ⟨ys, h2, _⟩, _, h3, _⟩ := h
    cases h1
    obtain ⟨a, cap, rfl⟩ := own_slice h2
    obtain ⟨a', cap', rfl⟩ := own_slice h3
    exact ⟨k, a, _, cap, a', _, cap', rfl, rfl, rfl⟩
theorem info25 : (Tryz.prog.info? 25).map (fun i => (i.zero, i.size, i.bytes)) = some (some (.agg #[.int .i64 0, .slice none 0 0, .slice none 0 0]), 3, 56) := by kernel_rfl
theorem set_skept {w : World} {b j : Nat} {C : Array Value} {v : Value} {base : Nat} (h : w.heap[b]? = some (Obj.cells C 25 (0, 0))) (hb : b < base) : ∀ (g : Nat) (cur : Array Value) (e : TypeId), (e ≠ 25 ∨ base ≤ g) → w.heap[g]? = some (Obj.cells cur e (0, 0)) → (w.setCell ⟨b, j, none⟩ v).heap[g]? = some (Obj.cells cur e (0, 0)) := by
  intro g cur e he hg
  rw [Below.heap_setCell _ _ _ _ (fun hc => ?_)]
  · exact hg
  · simp only at hc
    subst hc
    rw [h] at hg
    cases hg
    rcases he with he | he
    · exact he rfl
    · omega
theorem set3_skept {w : World} {b : Nat} {C : Array Value} {v0 v1 v2 : Value} {A : Nat → Prop} (h : w.heap[b]? = some (Obj.cells C 25 (0, 0))) (hb : ∀ k, A k → b < k) : SKept A w (((w.setCell ⟨b, 0, none⟩ v0).setCell ⟨b, 1, none⟩ v1).setCell ⟨b, 2, none⟩ v2) :=
  fun g cur e he hg => set_skept (base := b + 1) (heap_setAt (heap_setAt h)) (Nat.lt_succ_self _) g cur e (he.imp id fun h => hb _ h) (set_skept (base := b + 1) (heap_setAt h) (Nat.lt_succ_self _) g cur e (he.imp id fun h => hb _ h) (set_skept (base := b + 1) h (Nat.lt_succ_self _) g cur e (he.imp id fun h => hb _ h) hg))

set_option maxRecDepth 100000 in
set_option maxHeartbeats 16000000 in
theorem shapeOf_mpoly {δ : Type} (R : World → Value → δ → Prop) (f : δ → Shp) (d : Nat) (x : Value) (gs : List δ) (w : World) (hl : RowAt R w x gs) (hR : ∀ (w w' : World) (x : Value) (g : δ), Bel w w' → R w x g → R w' x g) (hv : ∀ (w : World) (v : Value) (g : δ), R w v g → ∃ ao n cap, v = .slice ao n cap) (hs : gs.length ≤ 1000000000)
    (hcall : ∀ g ∈ gs, ∀ (v : Value) (wx : World), R wx v g → Calls Tryz.prog 61 #[v] wx fun e w' => (∃ c0 c1 c2, e = .returned (.agg #[c0, c1, c2]) ∧ RdShp (fun k => wx.heap.size ≤ k) d w' (.agg #[c0, c1, c2]) (f g)) ∧ Bel wx w') :
    Calls Tryz.prog 33 #[.iface 80 x] w fun e w' => (∃ c0 c1 c2, e = .returned (.agg #[c0, c1, c2]) ∧ RdShp (fun k => w.heap.size ≤ k) (d + 1) w' (.agg #[c0, c1, c2]) (.mk 6 [] (gs.map f))) ∧ Bel w w' := by
  obtain ⟨i0, hi, hz0, hz1, hz2⟩ := info_parts info25
  obtain ⟨ao, cap, rfl, -, hc⟩ := hl
  have HC := Lib.hid hc
  have HCALL := Lib.hid hcall
  have HR := Lib.hid hR
  have HV := Lib.hid hv
  clear hc hcall hR hv
  have n1 := ta_not61 80 (by decide)
  have n65 := ta_not Tryz.underlying65 z65 80 (by decide)
  have n69 := ta_not Tryz.underlying69 z69 80 (by decide)
  have n72 := ta_not Tryz.underlying72 z72 80 (by decide)
  have n76 := ta_not Tryz.underlying76 z76 80 (by decide)
  have a1 := ta_is Tryz.underlying80
  go_enter Tryz.func33, Tryz.ntmps33
  go_wp2_with fail
  clear n1 n65 n69 n72 n76 a1
  go_loopg [75] gs.length (fun g s9 wr => ∃ (i : Nat) (P : Value) (xs : List Value), i ≤ gs.length ∧ g = gs.length - i ∧ s9 = .int .i64 i ∧ Hid (((gs.take i).map f).length = i ∧ wr.heap[w.heap.size + 1]? = some (.cells #[.int .i64 6, .slice none 0 0, P] 25) ∧ wr.ownsRow (w.heap.size + 2) 25 3 P ((gs.take i).map f).length xs ∧ Each3 (RdShp (fun k => w.heap.size + 2 ≤ k ∧ some k ≠ P.ownBlock) d) wr xs ((gs.take i).map f) ∧ Bel w wr ∧ wr.heap[w.heap.size]? = some (.cells #[.int .i64 0, .slice none 0 0, .slice none 0 0] 25)))
  case atStart =>
    refine ⟨0, .slice none 0 0, [], by omega, rfl, rfl, rfl, ?_, World.ownsRow_nil _ _ _ _, .nil, ?_⟩
    · exact heap_alloc2 _ _ _
    · exact ⟨(Bel.al _ _).tr (Bel.al _ _), (Bel.al _ _).heap (heap_alloc_new _ _)⟩
  case round =>
    obtain ⟨i, P, xs, hi1, rfl, rfl, hh⟩ := hrel
    by_cases hlt : i < gs.length
    · obtain ⟨htl, hbox, hown, heach, hbel, hres⟩ := hh.out
      obtain ⟨p, hp⟩ : ∃ p, gs[i]? = some p := ⟨_, List.getElem?_eq_getElem hlt⟩
      obtain ⟨a, y, rfl, c0, hy⟩ := HC.out i p hp
      have c0' := hbel.cellOf c0
      have HX := Lib.hid (fun wx (hb : Bel w wx) => HCALL.out p (List.mem_of_getElem? hp) y wx (HR.out _ _ _ _ hb hy))
      obtain ⟨ao1, nn1, cap1, rfl⟩ := HV.out _ _ _ hy
      obtain ⟨ao2, cap2, rfl⟩ := own_slice hown
      rw [htl] at hown hbox heach
      have q1 : wr.cell? ⟨w.heap.size + 1, 2, none⟩ = some (.slice ao2 i cap2) := by simp [World.cell?, hbox]
      have HTL := Lib.hid htl
      have HBOX := Lib.hid hbox
      have HRES := Lib.hid hres
      have HOWN := Lib.hid hown
      have HBEL := Lib.hid hbel
      have HEACH := Lib.hid heach
      have hpa := Lib.hid hp
      clear hbox hres hown hbel c0 hp heach hy hh htl
      have f1 : wr.frozen? ⟨w.heap.size + 1, 2, none⟩ = false := by simp [World.frozen?, HBOX.out]
      have hne : some (w.heap.size + 1) ≠ (Value.slice ao2 i cap2).ownBlock := fun hc => by have := (HOWN.out.lt _ hc.symm).1; omega
      have hbase1 : w.heap.size + 2 ≤ wr.heap.size := by have := lt_heap HBOX.out; omega
      go_wp2_with fail
      go_region_law
        (first | (refine step_append_lies _ (by rfl) _ _ _ (by rfl) (w.heap.size + 2) 25 i0 _ 3 56 Tryz.underlying23 hi hz0 hz1 hz2 rfl (by decide) _ i xs (by rfl) ((ownsRow_bel HOWN.out ((Bel.dr1 _).tr hb1)).alloc _) ⟨w1.heap.size, 0, none⟩ 1 1 [_, _, _] (by rfl) (by rfl) (World.news_of_block (heap_alloc_new w1 _)) (by intro u hu; simp at hu; rcases hu with rfl | rfl | rfl <;> rfl) (by omega) (by unfold maxLen; omega) (by omega) (by have := hbase1; have := hb1.size; simp at *; omega) (w1.heap.size + 1) (by simp) ?_; intro gg cap3 w3 hown1 hgrow hat hgg; have q3 := keepGrown hgrow hne (keepAl (keepBel ((Bel.dr1 _).tr hb1) ⟨q1, f1⟩)); obtain ⟨q3, f3⟩ := q3) | (go_simp; go_at_call 61; refine (HX.out _ (HBEL.out.tr (Bel.dr1 _))).mono ?_; rintro e w1 ⟨⟨d0, d1, d2, rfl, hy⟩, hb1⟩; obtain ⟨k0, a5, n5, cap5, a6, n6, cap6, rfl, rfl, rfl⟩ := shp_form hy; obtain ⟨q1', f1'⟩ := keepBel ((Bel.dr1 _).tr hb1) ⟨q1, f1⟩; obtain ⟨q1a, f1a⟩ := keepAl (o := .cells #[.int .i64 k0, .slice a5 n5 cap5, .slice a6 n6 cap6] 25) ⟨q1', f1'⟩))
      all_goals
        have hb1' : Bel wr w1 := (Bel.dr1 _).tr hb1
        have hbox3 := grown_heap hgrow ((Bel.al _ _).heap (hb1'.heap HBOX.out)) hne
        have hown1' := (ownsRow_bel HOWN.out hb1').alloc (.cells #[.int .i64 k0, .slice a5 n5 cap5, .slice a6 n6 cap6] 25)
        have hbox4 := heap_setAt (j := 2) (v := .slice (some ⟨gg, 0, none⟩) (i + 1) cap3) hbox3
        have HF := Lib.hid (show ∃ (P : Value) (xs : List Value), P = .slice (some ⟨gg, 0, none⟩) (i + 1) cap3 ∧ (w3.setCell ⟨w.heap.size + 1, 2, none⟩ (.slice (some ⟨gg, 0, none⟩) (i + 1) cap3)).heap[w.heap.size + 1]? = some (.cells #[.int .i64 6, .slice none 0 0, P] 25) ∧ (w3.setCell ⟨w.heap.size + 1, 2, none⟩ (.slice (some ⟨gg, 0, none⟩) (i + 1) cap3)).ownsRow (w.heap.size + 2) 25 3 P (i + 1) xs ∧ Each3 (RdShp (fun k => w.heap.size + 2 ≤ k ∧ some k ≠ P.ownBlock) d) (w3.setCell ⟨w.heap.size + 1, 2, none⟩ (.slice (some ⟨gg, 0, none⟩) (i + 1) cap3)) xs ((gs.take (i + 1)).map f) ∧ Bel w (w3.setCell ⟨w.heap.size + 1, 2, none⟩ (.slice (some ⟨gg, 0, none⟩) (i + 1) cap3)) ∧ (w3.setCell ⟨w.heap.size + 1, 2, none⟩ (.slice (some ⟨gg, 0, none⟩) (i + 1) cap3)).heap[w.heap.size]? = some (.cells #[.int .i64 0, .slice none 0 0, .slice none 0 0] 25) from by
          refine ⟨_, _, rfl, hbox4, ownsRow_setOther hown1 (fun hc => ?_) _, ?_, ?_, ?_⟩
          · have := (hown1.lt _ hc.symm).1
            simp at this <;> omega
          · rw [List.take_add_one, hpa.out, List.map_append]
            have hown2 : wr.ownsRow (w.heap.size + 2) 25 3 (.slice ao2 i cap2) ((gs.take i).map f).length xs := by rw [HTL.out]; exact HOWN.out
            exact shpRow_snoc hown2 HEACH.out hb1' (RdShp.mono (fun k _ h => Nat.le_trans (Bel.dr1 wr).size h) d _ _ hy) hbase1 hgrow hat (set_skept hbox3 (by omega))
          · refine Below.setCell ?_ (by show w.heap.size ≤ w.heap.size + 1; omega) _
            refine (HBEL.out.tr hb1').trans (Below.grown ((Below.refl _ _).alloc (Nat.le_trans HBEL.out.size hb1'.size) _) hgrow (by have := HBEL.out.size; have := hb1'.size; simp; omega) ?_)
            intro k hk
            have := (HOWN.out.lt k hk).1
            omega
          · rw [Below.heap_setCell _ _ _ _ (by show w.heap.size ≠ w.heap.size + 1; omega)]
            exact grown_heap hgrow ((Bel.al _ _).heap (hb1'.heap HRES.out)) (fun hc => by have := (HOWN.out.lt _ hc.symm).1; omega))
        clear hbox4 hown1' hbox3 hb1' hgrow hown1 q3 f3 q1a f1a q1' f1' hy hb1
        go_wp2
        go_roundg (gs.length - (i + 1))
        case measure => omega
        case rel =>
          obtain ⟨P, xs', hL, h1, h2, h3, h4, h5⟩ := HF.out
          have hl1 : ((gs.take (i + 1)).map f).length = i + 1 := by rw [List.length_map, List.length_take]; omega
          exact ⟨i + 1, P, xs', by omega, rfl, by go_num, hl1, h1, by rw [hl1]; exact h2, h3, h4, h5⟩
    · obtain rfl : i = gs.length := by omega
      have hkz : ¬ ((gs.length : Int) < (gs.length : Int)) := by omega
      obtain ⟨htl, hbox, hown, heach, hbel, hres⟩ := hh.out
      obtain ⟨ao2, cap2, rfl⟩ := own_slice hown
      rw [htl] at hown hbox heach
      have q0 : wr.cell? ⟨w.heap.size + 1, 0, none⟩ = some (.int .i64 6) := by simp [World.cell?, hbox]
      have q1 : wr.cell? ⟨w.heap.size + 1, 1, none⟩ = some (.slice none 0 0) := by simp [World.cell?, hbox]
      have q2 : wr.cell? ⟨w.heap.size + 1, 2, none⟩ = some (.slice ao2 gs.length cap2) := by simp [World.cell?, hbox]
      rw [List.take_length] at heach
      have HF := Lib.hid (show (wr.ownsRow (w.heap.size + 2) 25 3 (.slice ao2 gs.length cap2) (gs.map f).length xs ∧ Each3 (RdShp (fun k => w.heap.size + 2 ≤ k ∧ some k ≠ (Value.slice ao2 gs.length cap2).ownBlock) d) wr xs (gs.map f)) ∧ Bel w wr from ⟨⟨by rw [List.length_map]; exact hown, heach⟩, hbel⟩)
      have p0 : wr.cell? ⟨w.heap.size, 0, none⟩ = some (.int .i64 0) := by simp [World.cell?, hres]
      have p1 : wr.cell? ⟨w.heap.size, 1, none⟩ = some (.slice none 0 0) := by simp [World.cell?, hres]
      have p2 : wr.cell? ⟨w.heap.size, 2, none⟩ = some (.slice none 0 0) := by simp [World.cell?, hres]
      have r0 : wr.frozen? ⟨w.heap.size, 0, none⟩ = false := by simp [World.frozen?, hres]
      have r1 : wr.frozen? ⟨w.heap.size, 1, none⟩ = false := by simp [World.frozen?, hres]
      have r2 : wr.frozen? ⟨w.heap.size, 2, none⟩ = false := by simp [World.frozen?, hres]
      have HRES := Lib.hid hres
      clear hbox hown heach hbel hh hres htl
      go_wp2
      (try simp only [Exit.inBlock, Exit.then])
      refine bodyPost_ret (v := .agg #[.int .i64 6, .slice none 0 0, .slice ao2 gs.length cap2]) ?_ rfl ⟨⟨_, _, _, rfl, ?_⟩, ?_⟩
      · simp [results, Tryz.results33, go_sem, p0, p1, p2]
      · obtain ⟨⟨h1, h2⟩, h3⟩ := HF.out
        have hk := set3_skept (v0 := .int .i64 6) (v1 := .slice none 0 0) (v2 := .slice ao2 gs.length cap2) (A := fun k => w.heap.size + 2 ≤ k) HRES.out (fun k h => by omega)
        refine ⟨_, _, xs, rfl, ⟨[], World.ownsRow_nil _ _ _ _, .nil⟩, fun g hg => by have := (h1.lt g hg).1; omega, ?_, h2.mono fun x dd h => ?_⟩
        · exact ownsRow_setOther (ownsRow_setOther (ownsRow_setOther (ownsRow_base h1 (Nat.zero_le _)) (fun hc => by have := (h1.lt _ hc.symm).1; simp at this <;> omega) _) (fun hc => by have := (h1.lt _ hc.symm).1; simp at this <;> omega) _) (fun hc => by have := (h1.lt _ hc.symm).1; simp at this <;> omega) _
        · exact RdShp.mono (fun k _ h => by omega) d x dd (RdShp.keep hk d x dd (RdShp.mono (fun k _ h => h.1) d x dd h))
      · exact set3_bel HF.out.2 (Nat.le_refl _)

set_option maxRecDepth 100000 in
set_option maxHeartbeats 16000000 in
theorem shapeOf_coll {δ : Type} (R : World → Value → δ → Prop) (f : δ → Shp) (d : Nat) (x : Value) (gs : List δ) (w : World) (hl : RowAt R w x gs) (hR : ∀ (w w' : World) (x : Value) (g : δ), Bel w w' → R w x g → R w' x g) (hv : ∀ (w : World) (v : Value) (g : δ), R w v g → ∃ T y, v = .iface T y) (hs : gs.length ≤ 1000000000)
    (hcall : ∀ g ∈ gs, ∀ (v : Value) (wx : World), R wx v g → Calls Tryz.prog 33 #[v] wx fun e w' => (∃ c0 c1 c2, e = .returned (.agg #[c0, c1, c2]) ∧ RdShp (fun k => wx.heap.size ≤ k) d w' (.agg #[c0, c1, c2]) (f g)) ∧ Bel wx w') :
    Calls Tryz.prog 33 #[.iface 84 x] w fun e w' => (∃ c0 c1 c2, e = .returned (.agg #[c0, c1, c2]) ∧ RdShp (fun k => w.heap.size ≤ k) (d + 1) w' (.agg #[c0, c1, c2]) (.mk 7 [] (gs.map f))) ∧ Bel w w' := by
  obtain ⟨i0, hi, hz0, hz1, hz2⟩ := info_parts info25
  obtain ⟨ao, cap, rfl, -, hc⟩ := hl
  have HC := Lib.hid hc
  have HCALL := Lib.hid hcall
  have HR := Lib.hid hR
  have HV := Lib.hid hv
  clear hc hcall hR hv
  have n1 := ta_not61 84 (by decide)
  have n65 := ta_not Tryz.underlying65 z65 84 (by decide)
  have n69 := ta_not Tryz.underlying69 z69 84 (by decide)
  have n72 := ta_not Tryz.underlying72 z72 84 (by decide)
  have n76 := ta_not Tryz.underlying76 z76 84 (by decide)
  have n80 := ta_not Tryz.underlying80 z80 84 (by decide)
  have a1 := ta_is Tryz.underlying84
  go_enter Tryz.func33, Tryz.ntmps33
  go_wp2_with fail
  clear n1 n65 n69 n72 n76 n80 a1
  go_loopg [94] gs.length (fun g s9 wr => ∃ (i : Nat) (P : Value) (xs : List Value), i ≤ gs.length ∧ g = gs.length - i ∧ s9 = .int .i64 i ∧ Hid (((gs.take i).map f).length = i ∧ wr.heap[w.heap.size + 1]? = some (.cells #[.int .i64 7, .slice none 0 0, P] 25) ∧ wr.ownsRow (w.heap.size + 2) 25 3 P ((gs.take i).map f).length xs ∧ Each3 (RdShp (fun k => w.heap.size + 2 ≤ k ∧ some k ≠ P.ownBlock) d) wr xs ((gs.take i).map f) ∧ Bel w wr ∧ wr.heap[w.heap.size]? = some (.cells #[.int .i64 0, .slice none 0 0, .slice none 0 0] 25)))
  case atStart =>
    refine ⟨0, .slice none 0 0, [], by omega, rfl, rfl, rfl, ?_, World.ownsRow_nil _ _ _ _, .nil, ?_⟩
    · exact heap_alloc2 _ _ _
    · exact ⟨(Bel.al _ _).tr (Bel.al _ _), (Bel.al _ _).heap (heap_alloc_new _ _)⟩
  case round =>
    obtain ⟨i, P, xs, hi1, rfl, rfl, hh⟩ := hrel
    by_cases hlt : i < gs.length
    · obtain ⟨htl, hbox, hown, heach, hbel, hres⟩ := hh.out
      obtain ⟨p, hp⟩ : ∃ p, gs[i]? = some p := ⟨_, List.getElem?_eq_getElem hlt⟩
      obtain ⟨a, y, rfl, c0, hy⟩ := HC.out i p hp
      have c0' := hbel.cellOf c0
      have HX := Lib.hid (fun wx (hb : Bel w wx) => HCALL.out p (List.mem_of_getElem? hp) y wx (HR.out _ _ _ _ hb hy))
      obtain ⟨TT, yy, rfl⟩ := HV.out _ _ _ hy
      obtain ⟨ao2, cap2, rfl⟩ := own_slice hown
      rw [htl] at hown hbox heach
      have q1 : wr.cell? ⟨w.heap.size + 1, 2, none⟩ = some (.slice ao2 i cap2) := by simp [World.cell?, hbox]
      have HTL := Lib.hid htl
      have HBOX := Lib.hid hbox
      have HRES := Lib.hid hres
      have HOWN := Lib.hid hown
      have HBEL := Lib.hid hbel
      have HEACH := Lib.hid heach
      have hpa := Lib.hid hp
      clear hbox hres hown hbel c0 hp heach hy hh htl
      have f1 : wr.frozen? ⟨w.heap.size + 1, 2, none⟩ = false := by simp [World.frozen?, HBOX.out]
      have hne : some (w.heap.size + 1) ≠ (Value.slice ao2 i cap2).ownBlock := fun hc => by have := (HOWN.out.lt _ hc.symm).1; omega
      have hbase1 : w.heap.size + 2 ≤ wr.heap.size := by have := lt_heap HBOX.out; omega
      go_wp2_with fail
      go_region_law
        (first | (refine step_append_lies _ (by rfl) _ _ _ (by rfl) (w.heap.size + 2) 25 i0 _ 3 56 Tryz.underlying23 hi hz0 hz1 hz2 rfl (by decide) _ i xs (by rfl) ((ownsRow_bel HOWN.out ((Bel.dr1 _).tr hb1)).alloc _) ⟨w1.heap.size, 0, none⟩ 1 1 [_, _, _] (by rfl) (by rfl) (World.news_of_block (heap_alloc_new w1 _)) (by intro u hu; simp at hu; rcases hu with rfl | rfl | rfl <;> rfl) (by omega) (by unfold maxLen; omega) (by omega) (by have := hbase1; have := hb1.size; simp at *; omega) (w1.heap.size + 1) (by simp) ?_; intro gg cap3 w3 hown1 hgrow hat hgg; have q3 := keepGrown hgrow hne (keepAl (keepBel ((Bel.dr1 _).tr hb1) ⟨q1, f1⟩)); obtain ⟨q3, f3⟩ := q3) | (go_simp; go_at_call 33; refine (HX.out _ (HBEL.out.tr (Bel.dr1 _))).mono ?_; rintro e w1 ⟨⟨d0, d1, d2, rfl, hy⟩, hb1⟩; obtain ⟨k0, a5, n5, cap5, a6, n6, cap6, rfl, rfl, rfl⟩ := shp_form hy; obtain ⟨q1', f1'⟩ := keepBel ((Bel.dr1 _).tr hb1) ⟨q1, f1⟩; obtain ⟨q1a, f1a⟩ := keepAl (o := .cells #[.int .i64 k0, .slice a5 n5 cap5, .slice a6 n6 cap6] 25) ⟨q1', f1'⟩))
      all_goals
        have hb1' : Bel wr w1 := (Bel.dr1 _).tr hb1
        have hbox3 := grown_heap hgrow ((Bel.al _ _).heap (hb1'.heap HBOX.out)) hne
        have hown1' := (ownsRow_bel HOWN.out hb1').alloc (.cells #[.int .i64 k0, .slice a5 n5 cap5, .slice a6 n6 cap6] 25)
        have hbox4 := heap_setAt (j := 2) (v := .slice (some ⟨gg, 0, none⟩) (i + 1) cap3) hbox3
        have HF := Lib.hid (show ∃ (P : Value) (xs : List Value), P = .slice (some ⟨gg, 0, none⟩) (i + 1) cap3 ∧ (w3.setCell ⟨w.heap.size + 1, 2, none⟩ (.slice (some ⟨gg, 0, none⟩) (i + 1) cap3)).heap[w.heap.size + 1]? = some (.cells #[.int .i64 7, .slice none 0 0, P] 25) ∧ (w3.setCell ⟨w.heap.size + 1, 2, none⟩ (.slice (some ⟨gg, 0, none⟩) (i + 1) cap3)).ownsRow (w.heap.size + 2) 25 3 P (i + 1) xs ∧ Each3 (RdShp (fun k => w.heap.size + 2 ≤ k ∧ some k ≠ P.ownBlock) d) (w3.setCell ⟨w.heap.size + 1, 2, none⟩ (.slice (some ⟨gg, 0, none⟩) (i + 1) cap3)) xs ((gs.take (i + 1)).map f) ∧ Bel w (w3.setCell ⟨w.heap.size + 1, 2, none⟩ (.slice (some ⟨gg, 0, none⟩) (i + 1) cap3)) ∧ (w3.setCell ⟨w.heap.size + 1, 2, none⟩ (.slice (some ⟨gg, 0, none⟩) (i + 1) cap3)).heap[w.heap.size]? = some (.cells #[.int .i64 0, .slice none 0 0, .slice none 0 0] 25) from by
          refine ⟨_, _, rfl, hbox4, ownsRow_setOther hown1 (fun hc => ?_) _, ?_, ?_, ?_⟩
          · have := (hown1.lt _ hc.symm).1
            simp at this <;> omega
          · rw [List.take_add_one, hpa.out, List.map_append]
            have hown2 : wr.ownsRow (w.heap.size + 2) 25 3 (.slice ao2 i cap2) ((gs.take i).map f).length xs := by rw [HTL.out]; exact HOWN.out
            exact shpRow_snoc hown2 HEACH.out hb1' (RdShp.mono (fun k _ h => Nat.le_trans (Bel.dr1 wr).size h) d _ _ hy) hbase1 hgrow hat (set_skept hbox3 (by omega))
          · refine Below.setCell ?_ (by show w.heap.size ≤ w.heap.size + 1; omega) _
            refine (HBEL.out.tr hb1').trans (Below.grown ((Below.refl _ _).alloc (Nat.le_trans HBEL.out.size hb1'.size) _) hgrow (by have := HBEL.out.size; have := hb1'.size; simp; omega) ?_)
            intro k hk
            have := (HOWN.out.lt k hk).1
            omega
          · rw [Below.heap_setCell _ _ _ _ (by show w.heap.size ≠ w.heap.size + 1; omega)]
            exact grown_heap hgrow ((Bel.al _ _).heap (hb1'.heap HRES.out)) (fun hc => by have := (HOWN.out.lt _ hc.symm).1; omega))
        clear hbox4 hown1' hbox3 hb1' hgrow hown1 q3 f3 q1a f1a q1' f1' hy hb1
        go_wp2
        go_roundg (gs.length - (i + 1))
        case measure => omega
        case rel =>
          obtain ⟨P, xs', hL, h1, h2, h3, h4, h5⟩ := HF.out
          have hl1 : ((gs.take (i + 1)).map f).length = i + 1 := by rw [List.length_map, List.length_take]; omega
          exact ⟨i + 1, P, xs', by omega, rfl, by go_num, hl1, h1, by rw [hl1]; exact h2, h3, h4, h5⟩
    · obtain rfl : i = gs.length := by omega
      have hkz : ¬ ((gs.length : Int) < (gs.length : Int)) := by omega
      obtain ⟨htl, hbox, hown, heach, hbel, hres⟩ := hh.out
      obtain ⟨ao2, cap2, rfl⟩ := own_slice hown
      rw [htl] at hown hbox heach
      have q0 : wr.cell? ⟨w.heap.size + 1, 0, none⟩ = some (.int .i64 7) := by simp [World.cell?, hbox]
      have q1 : wr.cell? ⟨w.heap.size + 1, 1, none⟩ = some (.slice none 0 0) := by simp [World.cell?, hbox]
      have q2 : wr.cell? ⟨w.heap.size + 1, 2, none⟩ = some (.slice ao2 gs.length cap2) := by simp [World.cell?, hbox]
      rw [List.take_length] at heach
      have HF := Lib.hid (show (wr.ownsRow (w.heap.size + 2) 25 3 (.slice ao2 gs.length cap2) (gs.map f).length xs ∧ Each3 (RdShp (fun k => w.heap.size + 2 ≤ k ∧ some k ≠ (Value.slice ao2 gs.length cap2).ownBlock) d) wr xs (gs.map f)) ∧ Bel w wr from ⟨⟨by rw [List.length_map]; exact hown, heach⟩, hbel⟩)
      have p0 : wr.cell? ⟨w.heap.size, 0, none⟩ = some (.int .i64 0) := by simp [World.cell?, hres]
      have p1 : wr.cell? ⟨w.heap.size, 1, none⟩ = some (.slice none 0 0) := by simp [World.cell?, hres]
      have p2 : wr.cell? ⟨w.heap.size, 2, none⟩ = some (.slice none 0 0) := by simp [World.cell?, hres]
      have r0 : wr.frozen? ⟨w.heap.size, 0, none⟩ = false := by simp [World.frozen?, hres]
      have r1 : wr.frozen? ⟨w.heap.size, 1, none⟩ = false := by simp [World.frozen?, hres]
      have r2 : wr.frozen? ⟨w.heap.size, 2, none⟩ = false := by simp [World.frozen?, hres]
      have HRES := Lib.hid hres
      clear hbox hown heach hbel hh hres htl
      go_wp2
      (try simp only [Exit.inBlock, Exit.then])
      refine bodyPost_ret (v := .agg #[.int .i64 7, .slice none 0 0, .slice ao2 gs.length cap2]) ?_ rfl ⟨⟨_, _, _, rfl, ?_⟩, ?_⟩
      · simp [results, Tryz.results33, go_sem, p0, p1, p2]
      · obtain ⟨⟨h1, h2⟩, h3⟩ := HF.out
        have hk := set3_skept (v0 := .int .i64 7) (v1 := .slice none 0 0) (v2 := .slice ao2 gs.length cap2) (A := fun k => w.heap.size + 2 ≤ k) HRES.out (fun k h => by omega)
        refine ⟨_, _, xs, rfl, ⟨[], World.ownsRow_nil _ _ _ _, .nil⟩, fun g hg => by have := (h1.lt g hg).1; omega, ?_, h2.mono fun x dd h => ?_⟩
        · exact ownsRow_setOther (ownsRow_setOther (ownsRow_setOther (ownsRow_base h1 (Nat.zero_le _)) (fun hc => by have := (h1.lt _ hc.symm).1; simp at this <;> omega) _) (fun hc => by have := (h1.lt _ hc.symm).1; simp at this <;> omega) _) (fun hc => by have := (h1.lt _ hc.symm).1; simp at this <;> omega) _
        · exact RdShp.mono (fun k _ h => by omega) d x dd (RdShp.keep hk d x dd (RdShp.mono (fun k _ h => h.1) d x dd h))
      · exact set3_bel HF.out.2 (Nat.le_refl _)
end Go.Proofs.YtghajgdiaopioaaGreatDoor

/- Shapes and geometries by depth: shapeOf, geometry. -/
namespace Go.Proofs.YtghajgdiaopioaaGreatDoor
open Go.RowKit
attribute [local go_sem] run_store_float run_store_iface run_store_nilIface

/-- The shape of a geometry. -/
def toShp : Nat → Geo → Shp
  | _, .pt p => .mk 1 [[p]] []
  | _, .line l => .mk 2 [l] []
  | _, .poly ls => .mk 3 ls []
  | _, .mpt l => .mk 4 [l] []
  | _, .mline ls => .mk 5 ls []
  | _, .mpoly ps => .mk 6 [] (ps.map fun ls => .mk 3 ls [])
  | 0, .coll _ => .mk 7 [] []
  | d + 1, .coll gs => .mk 7 [] (gs.map (toShp d))
def sml (ls : List (List Pt)) : Prop := ls.length ≤ 100000 ∧ ∀ l ∈ ls, l.length ≤ 100000
/-- Of this depth, and no list too long. -/
def Small : Nat → Geo → Prop
  | _, .pt _ => True
  | _, .line l => l.length ≤ 100000
  | _, .poly ls => sml ls
  | _, .mpt l => l.length ≤ 100000
  | _, .mline ls => sml ls
  | _, .mpoly ps => ps.length ≤ 100000 ∧ ∀ ls ∈ ps, sml ls
  | 0, .coll _ => False
  | d + 1, .coll gs => gs.length ≤ 100000 ∧ ∀ g ∈ gs, Small d g
/-- A geometry, wherever its lists lie. -/
def GeoAt : Nat → World → Value → Geo → Prop
  | _, _, v, .pt p => v = .iface 61 (.agg #[.float .f64 p.1, .float .f64 p.2])
  | _, w, v, .line l => ∃ x, v = .iface 65 x ∧ PtsAt w x l
  | _, w, v, .poly l => ∃ x, v = .iface 69 x ∧ RowAt PtsAt w x l
  | _, w, v, .mpt l => ∃ x, v = .iface 72 x ∧ PtsAt w x l
  | _, w, v, .mline l => ∃ x, v = .iface 76 x ∧ RowAt PtsAt w x l
  | _, w, v, .mpoly l => ∃ x, v = .iface 80 x ∧ RowAt (RowAt PtsAt) w x l
  | 0, _, _, .coll _ => False
  | d + 1, w, v, .coll l => ∃ x, v = .iface 84 x ∧ RowAt (GeoAt d) w x l
theorem rowAt_ptsAt_bel {w w' : World} (h : Bel w w') {v : Value} {l : List (List Pt)} (k : RowAt PtsAt w v l) : RowAt PtsAt w' v l := k.bel h fun _ _ h' => h'.bel h
theorem rowAt2_bel {w w' : World} (h : Bel w w') {v : Value} {l : List (List (List Pt))} (k : RowAt (RowAt PtsAt) w v l) : RowAt (RowAt PtsAt) w' v l := k.bel h fun _ _ h' => rowAt_ptsAt_bel h h'
theorem GeoAt.bel {w w' : World} (h : Bel w w') : ∀ (d : Nat) (v : Value) (g : Geo), GeoAt d w v g → GeoAt d w' v g := by
  intro d
  induction d with
  | zero =>
    intro v g k
    cases g with
    | pt p => exact k
    | line l => obtain ⟨x, h1, h2⟩ := k; exact ⟨x, h1, h2.bel h⟩
    | poly l => obtain ⟨x, h1, h2⟩ := k; exact ⟨x, h1, rowAt_ptsAt_bel h h2⟩
    | mpt l => obtain ⟨x, h1, h2⟩ := k; exact ⟨x, h1, h2.bel h⟩
    | mline l => obtain ⟨x, h1, h2⟩ := k; exact ⟨x, h1, rowAt_ptsAt_bel h h2⟩
    | mpoly l => obtain ⟨x, h1, h2⟩ := k; exact ⟨x, h1, rowAt2_bel h h2⟩
    | coll l => exact k.elim
  | succ d ih =>
    intro v g k
    cases g with
    | pt p => exact k
    | line l => obtain ⟨x, h1, h2⟩ := k; exact ⟨x, h1, h2.bel h⟩
    | poly l => obtain ⟨x, h1, h2⟩ := k; exact ⟨x, h1, rowAt_ptsAt_bel h h2⟩
    | mpt l => obtain ⟨x, h1, h2⟩ := k; exact ⟨x, h1, h2.bel h⟩
    | mline l => obtain ⟨x, h1, h2⟩ := k; exact ⟨x, h1, rowAt_ptsAt_bel h h2⟩
    | mpoly l => obtain ⟨x, h1, h2⟩ := k; exact ⟨x, h1, rowAt2_bel h h2⟩
    | coll l => obtain ⟨x, h1, h2⟩ := k; exact ⟨x, h1, h2.bel h fun _ _ h' => ih _ _ h'⟩
theorem rdRow_at {δ : Type} {Te : TypeId} {R R' : World → Value → δ → Prop} {w : World} {x : Value} {l : List δ} (hR : ∀ x d, R w x d → R' w x d) (h : RdRow Te R w x l) : RowAt R' w x l := by
  obtain ⟨xs, h1, h2⟩ := h
  exact own_row h1 (h2.mono hR)
theorem RdGeo.at {A : Nat → Prop} {w : World} : ∀ (d : Nat) (v : Value) (g : Geo), RdGeo A d w v g → GeoAt d w v g := by
  intro d
  induction d with
  | zero =>
    intro v g k
    cases g with
    | pt p => exact k
    | line l => obtain ⟨x, h1, h2⟩ := k; exact ⟨x, h1, own_pts h2⟩
    | poly l => obtain ⟨x, h1, h2⟩ := k; exact ⟨x, h1, rdRow_at (fun _ _ h => own_pts h) h2⟩
    | mpt l => obtain ⟨x, h1, h2⟩ := k; exact ⟨x, h1, own_pts h2⟩
    | mline l => obtain ⟨x, h1, h2⟩ := k; exact ⟨x, h1, rdRow_at (fun _ _ h => own_pts h) h2⟩
    | mpoly l => obtain ⟨x, h1, h2⟩ := k; exact ⟨x, h1, rdRow_at (fun _ _ h => rdRow_at (Te := 117) (fun _ _ h => own_pts h) h) h2⟩
    | coll l => exact k.elim
  | succ d ih =>
    intro v g k
    cases g with
    | pt p => exact k
    | line l => obtain ⟨x, h1, h2⟩ := k; exact ⟨x, h1, own_pts h2⟩
    | poly l => obtain ⟨x, h1, h2⟩ := k; exact ⟨x, h1, rdRow_at (fun _ _ h => own_pts h) h2⟩
    | mpt l => obtain ⟨x, h1, h2⟩ := k; exact ⟨x, h1, own_pts h2⟩
    | mline l => obtain ⟨x, h1, h2⟩ := k; exact ⟨x, h1, rdRow_at (fun _ _ h => own_pts h) h2⟩
    | mpoly l => obtain ⟨x, h1, h2⟩ := k; exact ⟨x, h1, rdRow_at (fun _ _ h => rdRow_at (Te := 117) (fun _ _ h => own_pts h) h) h2⟩
    | coll l => obtain ⟨x, h1, _, h2⟩ := k; exact ⟨x, h1, rdRow_at (fun _ _ h => ih _ _ h) h2⟩
theorem GeoAt.iface {d : Nat} {w : World} {v : Value} {g : Geo} (h : GeoAt d w v g) : ∃ T x, v = .iface T x := by
  cases d <;> cases g <;> first | exact ⟨_, _, h⟩ | (obtain ⟨x, h1, _⟩ := h; exact ⟨_, x, h1⟩) | exact h.elim

/-- A flat shape, as it is made. -/
theorem flat_shp {A : Nat → Prop} {d : Nat} {w : World} {L : Value} {k : Int} {ls : List (List Pt)} (h : RdRow 27 RdPts9 w L ls) : RdShp A (d + 1) w (.agg #[.int .i64 k, L, .slice none 0 0]) (.mk k ls []) :=
  ⟨L, _, [], rfl, h, fun g hg => by simp [Value.ownBlock] at hg, World.ownsRow_nil _ _ _ _, .nil⟩
/-- How shapeOf ends. -/
def GivesS (d : Nat) (s : Shp) (w : World) (e : Ending) (w' : World) : Prop := (∃ c0 c1 c2, e = .returned (.agg #[c0, c1, c2]) ∧ RdShp (fun k => w.heap.size ≤ k) d w' (.agg #[c0, c1, c2]) s) ∧ Bel w w'

theorem shapeOf_flat (d : Nat) (v : Value) (g : Geo) (w : World) (h : GeoAt d w v g) (hs : Small d g) (hg : ∀ l, g ≠ .coll l) : Calls Tryz.prog 33 #[v] w (GivesS (d + 2) (toShp d g) w) := by
  cases g with
  | coll l => exact absurd rfl (hg l)
  | pt p =>
    have h' : v = .iface 61 (.agg #[.float .f64 p.1, .float .f64 p.2]) := by cases d <;> exact h
    subst h'
    rw [show toShp d (.pt p) = .mk 1 [[p]] [] from by cases d <;> rfl]
    exact (shapeOf_pt p w).mono fun e w' ⟨⟨L, h1, h2⟩, h3⟩ => ⟨⟨_, _, _, h1, flat_shp h2⟩, h3⟩
  | line l =>
    have h' : ∃ x, v = .iface 65 x ∧ PtsAt w x l := by cases d <;> exact h
    have hs' : l.length ≤ 100000 := by cases d <;> exact hs
    obtain ⟨x, rfl, hx⟩ := h'
    rw [show toShp d (.line l) = .mk 2 [l] [] from by cases d <;> rfl]
    exact (shapeOf_line x l w hx (by omega)).mono fun e w' ⟨⟨L, h1, h2⟩, h3⟩ => ⟨⟨_, _, _, h1, flat_shp h2⟩, h3⟩
  | mpt l =>
    have h' : ∃ x, v = .iface 72 x ∧ PtsAt w x l := by cases d <;> exact h
    have hs' : l.length ≤ 100000 := by cases d <;> exact hs
    obtain ⟨x, rfl, hx⟩ := h'
    rw [show toShp d (.mpt l) = .mk 4 [l] [] from by cases d <;> rfl]
    exact (shapeOf_mpt x l w hx (by omega)).mono fun e w' ⟨⟨L, h1, h2⟩, h3⟩ => ⟨⟨_, _, _, h1, flat_shp h2⟩, h3⟩
  | poly l =>
    have h' : ∃ x, v = .iface 69 x ∧ RowAt PtsAt w x l := by cases d <;> exact h
    have hs' : sml l := by cases d <;> exact hs
    obtain ⟨x, rfl, hx⟩ := h'
    rw [show toShp d (.poly l) = .mk 3 l [] from by cases d <;> rfl]
    exact (shapeOf_poly x l w hx (by have := hs'.1; omega) (fun y hy => by have := hs'.2 y hy; omega)).mono fun e w' ⟨⟨L, h1, h2⟩, h3⟩ => ⟨⟨_, _, _, h1, flat_shp h2⟩, h3⟩
  | mline l =>
    have h' : ∃ x, v = .iface 76 x ∧ RowAt PtsAt w x l := by cases d <;> exact h
    have hs' : sml l := by cases d <;> exact hs
    obtain ⟨x, rfl, hx⟩ := h'
    rw [show toShp d (.mline l) = .mk 5 l [] from by cases d <;> rfl]
    exact (shapeOf_mline x l w hx (by have := hs'.1; omega) (fun y hy => by have := hs'.2 y hy; omega)).mono fun e w' ⟨⟨L, h1, h2⟩, h3⟩ => ⟨⟨_, _, _, h1, flat_shp h2⟩, h3⟩
  | mpoly l =>
    have h' : ∃ x, v = .iface 80 x ∧ RowAt (RowAt PtsAt) w x l := by cases d <;> exact h
    have hs' : l.length ≤ 100000 ∧ ∀ ls ∈ l, sml ls := by cases d <;> exact hs
    obtain ⟨x, rfl, hx⟩ := h'
    rw [show toShp d (.mpoly l) = .mk 6 [] (l.map fun ls => .mk 3 ls []) from by cases d <;> rfl]
    exact shapeOf_mpoly (RowAt PtsAt) (fun ls => .mk 3 ls []) (d + 1) x l w hx (fun w w' x g hb h => rowAt_ptsAt_bel hb h) (fun w v g h => by obtain ⟨a, c, h⟩ := h.slice; exact ⟨a, _, c, h⟩) (by have := hs'.1; omega)
      (fun ls hls v wx hv => (polyShape_calls v ls wx hv (by have := (hs'.2 ls hls).1; omega) (fun y hy => by have := (hs'.2 ls hls).2 y hy; omega)).mono fun e w' ⟨⟨L, h1, h2⟩, h3⟩ => ⟨⟨_, _, _, h1, flat_shp h2⟩, h3⟩)
theorem shapeOf_calls : ∀ (d : Nat) (v : Value) (g : Geo) (w : World), GeoAt d w v g → Small d g → Calls Tryz.prog 33 #[v] w (GivesS (d + 2) (toShp d g) w) := by
  intro d
  induction d with
  | zero =>
    intro v g w h hs
    exact shapeOf_flat 0 v g w h hs (fun l hl => by subst hl; exact h.elim)
  | succ d ih =>
    intro v g w h hs
    by_cases hg : ∃ l, g = .coll l
    · obtain ⟨l, rfl⟩ := hg
      obtain ⟨x, rfl, hx⟩ := h
      exact shapeOf_coll (GeoAt d) (toShp d) (d + 2) x l w hx (fun w w' x g hb h => GeoAt.bel hb d x g h) (fun w v g h => h.iface) (by have := hs.1; omega) (fun g hg v wx hv => ih v g wx hv (hs.2 g hg))
    · exact shapeOf_flat (d + 1) v g w h hs (fun l hl => hg ⟨l, hl⟩)

theorem rdGeo_of {A : Nat → Prop} {d : Nat} {w : World} {v : Value} {g : Geo} (h0 : RdGeo A 0 w v g) : RdGeo A d w v g := by
  cases g <;> first | exact h0.elim | (cases d <;> exact h0)
theorem geometry_flat (d dd : Nat) (v : Value) (g : Geo) (w : World) (h : ShpAt dd w v (toShp d g)) (hs : Small d g) (hg : ∀ l, g ≠ .coll l) : Calls Tryz.prog 34 #[v] w fun e w' => ∃ x, e = .returned x ∧ RdGeo (fun k => w.heap.size ≤ k) d w' x g ∧ Bel w w' := by
  cases dd with
  | zero => exact h.elim
  | succ dd =>
  cases g with
  | coll l => exact absurd rfl (hg l)
  | pt p =>
    rw [show toShp d (.pt p) = .mk 1 [[p]] [] from by cases d <;> rfl] at h
    obtain ⟨L, P, rfl, hL, -⟩ := h
    exact (geom_pt P L p w hL).mono fun e w' ⟨h1, h2⟩ => ⟨_, h1, rdGeo_of rfl, h2⟩
  | line l =>
    rw [show toShp d (.line l) = .mk 2 [l] [] from by cases d <;> rfl] at h
    have hs' : l.length ≤ 100000 := by cases d <;> exact hs
    obtain ⟨L, P, rfl, hL, -⟩ := h
    exact (geom_line P L l w hL (by omega)).mono fun e w' ⟨⟨x, h1, h2⟩, h3⟩ => ⟨_, h1, rdGeo_of ⟨x, rfl, h2⟩, h3⟩
  | mpt l =>
    rw [show toShp d (.mpt l) = .mk 4 [l] [] from by cases d <;> rfl] at h
    have hs' : l.length ≤ 100000 := by cases d <;> exact hs
    obtain ⟨L, P, rfl, hL, -⟩ := h
    exact (geom_mpt P L l w hL (by omega)).mono fun e w' ⟨⟨x, h1, h2⟩, h3⟩ => ⟨_, h1, rdGeo_of ⟨x, rfl, h2⟩, h3⟩
  | poly l =>
    rw [show toShp d (.poly l) = .mk 3 l [] from by cases d <;> rfl] at h
    have hs' : sml l := by cases d <;> exact hs
    obtain ⟨L, P, rfl, hL, -⟩ := h
    exact (geom_poly P L l w hL (by have := hs'.1; omega) (fun y hy => by have := hs'.2 y hy; omega)).mono fun e w' ⟨⟨x, h1, h2⟩, h3⟩ => ⟨_, h1, rdGeo_of ⟨x, rfl, h2⟩, h3⟩
  | mline l =>
    rw [show toShp d (.mline l) = .mk 5 l [] from by cases d <;> rfl] at h
    have hs' : sml l := by cases d <;> exact hs
    obtain ⟨L, P, rfl, hL, -⟩ := h
    exact (geom_mline L P l w hL (by have := hs'.1; omega) (fun y hy => by have := hs'.2 y hy; omega)).mono fun e w' ⟨⟨x, h1, h2⟩, h3⟩ => ⟨_, h1, rdGeo_of ⟨x, rfl, h2⟩, h3⟩
  | mpoly l =>
    rw [show toShp d (.mpoly l) = .mk 6 [] (l.map fun ls => .mk 3 ls []) from by cases d <;> rfl] at h
    have hs' : l.length ≤ 100000 ∧ ∀ ls ∈ l, sml ls := by cases d <;> exact hs
    obtain ⟨L, P, rfl, -, hP⟩ := h
    exact (geom_mpoly dd L P l w hP (by have := hs'.1; omega) (fun ls hls => ⟨by have := (hs'.2 ls hls).1; omega, fun y hy => by have := (hs'.2 ls hls).2 y hy; omega⟩)).mono fun e w' ⟨⟨x, h1, h2⟩, h3⟩ => ⟨_, h1, rdGeo_of ⟨x, rfl, h2⟩, h3⟩
theorem geometry_calls : ∀ (d dd : Nat) (v : Value) (g : Geo) (w : World), ShpAt dd w v (toShp d g) → Small d g → Calls Tryz.prog 34 #[v] w fun e w' => ∃ x, e = .returned x ∧ RdGeo (fun k => w.heap.size ≤ k) d w' x g ∧ Bel w w' := by
  intro d
  induction d with
  | zero =>
    intro dd v g w h hs
    exact geometry_flat 0 dd v g w h hs (fun l hl => by subst hl; exact hs.elim)
  | succ d ih =>
    intro dd v g w h hs
    by_cases hg : ∃ l, g = .coll l
    · obtain ⟨l, rfl⟩ := hg
      cases dd with
      | zero => exact h.elim
      | succ dd =>
        obtain ⟨L, P, rfl, -, hP⟩ := h
        exact (geom_coll dd d L P l (toShp d) w hP (by have := hs.1; omega) (fun g hg v wx hv => ih dd v g wx hv (hs.2 g hg))).mono fun e w' ⟨⟨x, h1, h2, h3⟩, h4⟩ => ⟨_, h1, ⟨x, rfl, h2, h3⟩, h4⟩
    · exact geometry_flat (d + 1) dd v g w h hs (fun l hl => hg ⟨l, hl⟩)
end Go.Proofs.YtghajgdiaopioaaGreatDoor
