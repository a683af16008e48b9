/- Walks: impl.polygonShape. -/
import Derived.Deep.AppendLies
import Derived.Deep.RegionHeld3
import Derived.Deep.RegionLaw
import Derived.Deep.DrawnRows
import Derived.Test.YtghajgdiaopioaaGreatDoorW17
set_option linter.unusedVariables false
set_option linter.unusedSimpArgs false

namespace Go.Proofs.YtghajgdiaopioaaGreatDoor
open Go.RowKit
attribute [local go_sem] run_store_float run_store_iface run_store_nilIface
attribute [local go_sem ↓] Go.wp_at_zero Go.wp_at_succ

theorem Bel.frozenOf {w w' : World} (h : Bel w w') {a : Addr} {v : Value} (hc : w.cell? a = some v) (hf : w.frozen? a = false) : w'.frozen? a = false := by
  rw [World.frozen?_of_block (h.block a.block (World.block_lt_of_cell? w a hc))]; exact hf
theorem keepBel {w w' : World} {a : Addr} {v : Value} (hb : Bel w w') (h : w.cell? a = some v ∧ w.frozen? a = false) : w'.cell? a = some v ∧ w'.frozen? a = false := ⟨hb.cellOf h.1, hb.frozenOf h.1 h.2⟩
theorem keepAl {w : World} {o : Obj} {a : Addr} {v : Value} (h : w.cell? a = some v ∧ w.frozen? a = false) : (w.alloc o).cell? a = some v ∧ (w.alloc o).frozen? a = false := keepBel (Bel.al _ _) h
theorem keepGrown {w w' : World} {row : Option Nat} {a : Addr} {v : Value} (hg : w.grownBy w' row) (hne : some a.block ≠ row) (h : w.cell? a = some v ∧ w.frozen? a = false) : w'.cell? a = some v ∧ w'.frozen? a = false := by
  have hlt := World.block_lt_of_cell? w a h.1
  exact ⟨by rw [hg.cell_far a hlt hne]; exact h.1, by rw [hg.frozen_far a hlt hne]; exact h.2⟩
theorem cell_drew (w : World) (a : Addr) : w.drew.cell? a = w.cell? a := rfl
theorem frozen_drew (w : World) (a : Addr) : w.drew.frozen? a = w.frozen? a := rfl
theorem heap_setAt {w : World} {b j : Nat} {C : Array Value} {e : TypeId} {v : Value} (h : w.heap[b]? = some (Obj.cells C e (0, 0))) : (w.setCell ⟨b, j, none⟩ v).heap[b]? = some (Obj.cells (C.setIfInBounds j v) e (0, 0)) := by
  simp only [World.setCell, Array.getElem?_modify, h]
  simp
theorem setCell_tkept {w : World} {a : Addr} {v : Value} {C : Array Value} {e : TypeId} {fz : Nat × Nat} (h : w.heap[a.block]? = some (Obj.cells C e fz)) (K : TypeId → Prop) (hK : ¬ K e) : TKept K w (w.setCell a v) := by
  intro g cur e' he hg
  rw [Below.heap_setCell _ _ _ _ (fun hc => ?_)]
  · exact hg
  · subst hc; rw [h] at hg; cases hg; exact hK he
theorem grown_tkept {w w' : World} {row : Option Nat} (hg : w.grownBy w' row) {base : Nat} {e : TypeId} {size : Nat} {v : Value} {n : Nat} {xs : List Value} (hown : w.ownsRow base e size v n xs) (hr : row = v.ownBlock) (K : TypeId → Prop) (hK : ¬ K e) : TKept K w w' := by
  subst hr
  intro g cur e' he hh
  exact grown_heap hg hh (own_ne hown hh (fun hc => hK (hc ▸ he)))
theorem set3_tkept {w : World} {b : Nat} {C : Array Value} {e : TypeId} {v0 v1 v2 : Value} (h : w.heap[b]? = some (Obj.cells C e (0, 0))) (K : TypeId → Prop) (hK : ¬ K e) : TKept K w (((w.setCell ⟨b, 0, none⟩ v0).setCell ⟨b, 1, none⟩ v1).setCell ⟨b, 2, none⟩ v2) :=
  (setCell_tkept (a := ⟨b, 0, none⟩) h K hK).tr ((setCell_tkept (a := ⟨b, 1, none⟩) (heap_setAt h) K hK).tr (setCell_tkept (a := ⟨b, 2, none⟩) (heap_setAt (heap_setAt h)) K hK))
theorem set3_bel {w0 w : World} {b : Nat} {v0 v1 v2 : Value} (h : Bel w0 w) (hb : w0.heap.size ≤ b) : Bel w0 (((w.setCell ⟨b, 0, none⟩ v0).setCell ⟨b, 1, none⟩ v1).setCell ⟨b, 2, none⟩ v2) := ((h.setCell hb _).setCell hb _).setCell hb _
/-- A list of points, as the package impl makes it. -/
def RdPts9 (w : World) (x : Value) (pts : List Pt) : Prop := w.ownsRow 0 49 2 x pts.length (ptsCells pts)
theorem RdPts9.keep {w w' : World} {x : Value} {pts : List Pt} (h : RdPts9 w x pts) (k : TKept (fun e => e = 49) w w') : RdPts9 w' x pts := ownsRow_tkept h k rfl
theorem info27 : (Tryz.prog.info? 27).map (fun i => (i.zero, i.size, i.bytes)) = some (some (.slice none 0 0), 1, 24) := by kernel_rfl

set_option maxRecDepth 100000 in
set_option maxHeartbeats 8000000 in
theorem polyShape_calls (x : Value) (ls : List (List Pt)) (w : World) (hl : RowAt PtsAt w x ls) (hs : ls.length ≤ 1000000000) (hs2 : ∀ l ∈ ls, l.length ≤ 1000000000) :
    Calls Tryz.prog 61 #[x] w fun e w' => (∃ L, e = .returned (.agg #[.int .i64 3, L, .slice none 0 0]) ∧ RdRow 27 RdPts9 w' L ls) ∧ Bel w w' := by
  obtain ⟨i0, hi, hz0, hz1, hz2⟩ := info_parts info27
  obtain ⟨ao, cap, rfl, -, hc⟩ := hl
  have HC := Lib.hid hc
  have HS2 := Lib.hid hs2
  clear hc hs2
  go_enter Tryz.func61, Tryz.ntmps61
  go_wp2_with fail
  go_loopg [9] ls.length (fun g s9 wr => ∃ (i : Nat) (L : Value) (xs : List Value), i ≤ ls.length ∧ g = ls.length - i ∧ s9 = .int .i64 i ∧ Hid (wr.heap[w.heap.size + 1]? = some (.cells #[.int .i64 3, L, .slice none 0 0] 25) ∧ wr.ownsRow (w.heap.size + 2) 27 1 L i xs ∧ Each RdPts9 wr xs (ls.take i) ∧ Bel w wr ∧ wr.heap[w.heap.size]? = some (.cells #[.int .i64 0, .slice none 0 0, .slice none 0 0] 25)))
  case atStart =>
    refine ⟨0, .slice none 0 0, [], by omega, rfl, rfl, ?_, World.ownsRow_nil _ _ _ _, .nil, ?_⟩
    · exact heap_alloc2 _ _ _
    · exact ⟨(Bel.al _ _).tr (Bel.al _ _), (Bel.al _ _).heap (heap_alloc_new _ _)⟩
  case round =>
    obtain ⟨i, L, xs, hi1, rfl, rfl, hh⟩ := hrel
    by_cases hlt : i < ls.length
    · obtain ⟨hbox, hown, heach, hbel, hres⟩ := hh.out
      obtain ⟨p, hp⟩ : ∃ p, ls[i]? = some p := ⟨_, List.getElem?_eq_getElem hlt⟩
      obtain ⟨a, y, rfl, c0, hy⟩ := HC.out i p hp
      have c0' := hbel.cellOf c0
      have hpl := HS2.out p (List.mem_of_getElem? hp)
      have HX := Lib.hid (fun wx (hb : Bel w wx) => listOf_calls y p wx (hy.bel hb) hpl)
      obtain ⟨ao1, cap1, rfl⟩ := hy.slice
      obtain ⟨ao2, cap2, rfl⟩ := own_slice hown
      have q1 : wr.cell? ⟨w.heap.size + 1, 1, none⟩ = some (.slice ao2 i cap2) := by simp [World.cell?, hbox]
      have HBOX := Lib.hid hbox
      have HRES := Lib.hid hres
      have HOWN := Lib.hid hown
      have HBEL := Lib.hid hbel
      have HEACH := Lib.hid heach
      have hpa := Lib.hid hp
      clear hbox hres hown hbel c0 hp heach hy hpl hh
      have f1 : wr.frozen? ⟨w.heap.size + 1, 1, none⟩ = false := by simp [World.frozen?, HBOX.out]
      have hne : some (w.heap.size + 1) ≠ (Value.slice ao2 i cap2).ownBlock := fun hc => by have := (HOWN.out.lt _ hc.symm).1; omega
      have hbase1 : w.heap.size + 2 ≤ wr.heap.size := by have := lt_heap HBOX.out; omega
      go_wp2_with fail
      go_region_law
        (first | (refine step_append_lies _ (by rfl) _ _ _ (by rfl) (w.heap.size + 2) 27 i0 _ 1 24 Tryz.underlying22 hi hz0 hz1 hz2 rfl (by decide) _ i xs (by rfl) ((ownsRow_bel HOWN.out ((Bel.dr1 _).tr hb1)).alloc _) ⟨w1.heap.size, 0, none⟩ 1 1 [_] (by rfl) (by rfl) (World.news_of_block (heap_alloc_new w1 _)) (by intro u hu; simp at hu; subst hu; rfl) (by omega) (by unfold maxLen; omega) (by omega) (by have := hbase1; have := hb1.size; simp at *; omega) (w1.heap.size + 1) (by simp) ?_; intro gg cap3 w3 hown1 hgrow hat hgg; have q3 := keepGrown hgrow hne (keepAl (keepBel ((Bel.dr1 _).tr hb1) ⟨q1, f1⟩)); obtain ⟨q3, f3⟩ := q3) | (go_simp; go_at_call 60; refine (HX.out _ (HBEL.out.tr (Bel.dr1 _))).mono ?_; rintro e w1 ⟨y, rfl, hy, hb1⟩; obtain ⟨ao3, capL, rfl⟩ := own_slice hy; obtain ⟨q1', f1'⟩ := keepBel ((Bel.dr1 _).tr hb1) ⟨q1, f1⟩; obtain ⟨q1a, f1a⟩ := keepAl (o := .cells #[.slice ao3 p.length capL] 27) ⟨q1', f1'⟩))
      all_goals
        have hb1' : Bel wr w1 := (Bel.dr1 _).tr hb1
        have hbox3 := grown_heap hgrow ((Bel.al _ _).heap (hb1'.heap HBOX.out)) hne
        have hown1' := (ownsRow_bel HOWN.out hb1').alloc (.cells #[.slice ao3 p.length capL] 27)
        have hbox4 := heap_setAt (j := 1) (v := .slice (some ⟨gg, 0, none⟩) (i + 1) cap3) hbox3
        have hT : TKept (fun e => e = 49) w1 (w3.setCell ⟨w.heap.size + 1, 1, none⟩ (.slice (some ⟨gg, 0, none⟩) (i + 1) cap3)) := (TKept.of_bel (Bel.al _ _)).tr ((grown_tkept hgrow hown1' rfl _ (by decide)).tr (setCell_tkept hbox3 _ (by decide)))
        have HF := Lib.hid (show ∃ (L : Value) (xs : List Value), L = .slice (some ⟨gg, 0, none⟩) (i + 1) cap3 ∧ (w3.setCell ⟨w.heap.size + 1, 1, none⟩ (.slice (some ⟨gg, 0, none⟩) (i + 1) cap3)).heap[w.heap.size + 1]? = some (.cells #[.int .i64 3, L, .slice none 0 0] 25) ∧ (w3.setCell ⟨w.heap.size + 1, 1, none⟩ (.slice (some ⟨gg, 0, none⟩) (i + 1) cap3)).ownsRow (w.heap.size + 2) 27 1 L (i + 1) xs ∧ Each RdPts9 (w3.setCell ⟨w.heap.size + 1, 1, none⟩ (.slice (some ⟨gg, 0, none⟩) (i + 1) cap3)) xs (ls.take (i + 1)) ∧ Bel w (w3.setCell ⟨w.heap.size + 1, 1, none⟩ (.slice (some ⟨gg, 0, none⟩) (i + 1) cap3)) ∧ (w3.setCell ⟨w.heap.size + 1, 1, none⟩ (.slice (some ⟨gg, 0, none⟩) (i + 1) cap3)).heap[w.heap.size]? = some (.cells #[.int .i64 0, .slice none 0 0, .slice none 0 0] 25) from by
          refine ⟨_, _, rfl, hbox4, ownsRow_setOther hown1 (fun hc => ?_) _, ?_, ?_, ?_⟩
          · have := (hown1.lt _ hc.symm).1
            simp at this <;> omega
          · rw [List.take_add_one, hpa.out]
            exact .snoc (HEACH.out.keep fun xx dd hh => RdPts9.keep hh ((TKept.of_bel hb1').tr hT)) (RdPts9.keep hy hT)
          · refine Below.setCell ?_ (by show w.heap.size ≤ w.heap.size + 1; omega) _
            refine (HBEL.out.tr hb1').trans (Below.grown ((Below.refl _ _).alloc (Nat.le_trans HBEL.out.size hb1'.size) _) hgrow (by have := HBEL.out.size; have := hb1'.size; simp; omega) ?_)
            intro k hk
            have := (HOWN.out.lt k hk).1
            omega
          · rw [Below.heap_setCell _ _ _ _ (by show w.heap.size ≠ w.heap.size + 1; omega)]
            exact grown_heap hgrow ((Bel.al _ _).heap (hb1'.heap HRES.out)) (fun hc => by have := (HOWN.out.lt _ hc.symm).1; omega))
        clear hT hbox4 hown1' hbox3 hb1' hgrow hown1 q3 f3 q1a f1a q1' f1' hy hb1
        go_wp2
        go_roundg (ls.length - (i + 1))
        case measure => omega
        case rel =>
          obtain ⟨L, xs', hL, h1, h2, h3, h4, h5⟩ := HF.out
          exact ⟨i + 1, L, xs', by omega, rfl, by go_num, h1, h2, h3, h4, h5⟩
    · obtain rfl : i = ls.length := by omega
      have hkz : ¬ ((ls.length : Int) < (ls.length : Int)) := by omega
      obtain ⟨hbox, hown, heach, hbel, hres⟩ := hh.out
      obtain ⟨ao2, cap2, rfl⟩ := own_slice hown
      have q0 : wr.cell? ⟨w.heap.size + 1, 0, none⟩ = some (.int .i64 3) := by simp [World.cell?, hbox]
      have q1 : wr.cell? ⟨w.heap.size + 1, 1, none⟩ = some (.slice ao2 ls.length cap2) := by simp [World.cell?, hbox]
      have q2 : wr.cell? ⟨w.heap.size + 1, 2, none⟩ = some (.slice none 0 0) := by simp [World.cell?, hbox]
      have HF := Lib.hid (show RdRow 27 RdPts9 wr (.slice ao2 ls.length cap2) ls ∧ Bel w wr from ⟨⟨xs, ownsRow_base hown (Nat.zero_le _), by rw [List.take_length] at heach; exact heach⟩, hbel⟩)
      have p0 : wr.cell? ⟨w.heap.size, 0, none⟩ = some (.int .i64 0) := by simp [World.cell?, hres]
      have p1 : wr.cell? ⟨w.heap.size, 1, none⟩ = some (.slice none 0 0) := by simp [World.cell?, hres]
      have p2 : wr.cell? ⟨w.heap.size, 2, none⟩ = some (.slice none 0 0) := by simp [World.cell?, hres]
      have r0 : wr.frozen? ⟨w.heap.size, 0, none⟩ = false := by simp [World.frozen?, hres]
      have r1 : wr.frozen? ⟨w.heap.size, 1, none⟩ = false := by simp [World.frozen?, hres]
      have r2 : wr.frozen? ⟨w.heap.size, 2, none⟩ = false := by simp [World.frozen?, hres]
      have HRES := Lib.hid hres
      clear hbox hown heach hbel hh hres
      go_wp2
      (try simp only [Exit.inBlock, Exit.then])
      refine bodyPost_ret (v := .agg #[.int .i64 3, .slice ao2 ls.length cap2, .slice none 0 0]) ?_ rfl ⟨⟨_, rfl, ?_⟩, ?_⟩
      · simp [results, Tryz.results61, go_sem, p0, p1, p2]
      · exact rdRow_keep (fun x d h => RdPts9.keep h (set3_tkept HRES.out _ (by decide))) (set3_tkept HRES.out _ (by decide)) HF.out.1
      · exact set3_bel HF.out.2 (Nat.le_refl _)
end Go.Proofs.YtghajgdiaopioaaGreatDoor

/- Readers of shapes that the package impl makes. -/
namespace Go.Proofs.YtghajgdiaopioaaGreatDoor
open Go.RowKit

inductive Each3 (R : World → Value → Shp → Prop) (w : World) : List Value → List Shp → Prop
  | nil : Each3 R w [] []
  | snoc {xs : List Value} {ds : List Shp} {c0 c1 c2 : Value} {d : Shp} : Each3 R w xs ds → R w (.agg #[c0, c1, c2]) d → Each3 R w (xs ++ [c0, c1, c2]) (ds ++ [d])
theorem Each3.mono {R R' : World → Value → Shp → Prop} {w w' : World} {xs : List Value} {ds : List Shp} (h : Each3 R w xs ds) (hR : ∀ x d, R w x d → R' w' x d) : Each3 R' w' xs ds := by
  induction h with
  | nil => exact .nil
  | snoc _ h2 ih => exact .snoc ih (hR _ _ h2)
theorem Each3.at {R : World → Value → Shp → Prop} {w : World} {xs : List Value} {ds : List Shp} (h : Each3 R w xs ds) : xs.length = ds.length * 3 ∧ ∀ (i : Nat) (d : Shp), ds[i]? = some d → ∃ c0 c1 c2, xs[i * 3]? = some c0 ∧ xs[i * 3 + 1]? = some c1 ∧ xs[i * 3 + 2]? = some c2 ∧ R w (.agg #[c0, c1, c2]) d := by
  induction h with
  | nil => exact ⟨rfl, fun i d h => by simp at h⟩
  | @snoc xs ds c0 c1 c2 d h1 h2 ih =>
    refine ⟨by simp [ih.1]; omega, fun i d' hd => ?_⟩
    rcases Nat.lt_or_ge i ds.length with hi | hi
    · rw [List.getElem?_append_left hi] at hd
      obtain ⟨y0, y1, y2, hy0, hy1, hy2, hr⟩ := ih.2 i d' hd
      exact ⟨y0, y1, y2, by rw [List.getElem?_append_left (by omega)]; exact hy0, by rw [List.getElem?_append_left (by omega)]; exact hy1, by rw [List.getElem?_append_left (by omega)]; exact hy2, hr⟩
    · rw [List.getElem?_append_right hi] at hd
      have h0 : i - ds.length = 0 := by
        rcases Nat.eq_zero_or_pos (i - ds.length) with h | h
        · exact h
        · rw [List.getElem?_eq_none (by simp; omega)] at hd; cases hd
      rw [h0] at hd
      simp at hd
      subst hd
      exact ⟨c0, c1, c2, by rw [List.getElem?_append_right (by omega), show i * 3 - xs.length = 0 from by omega]; rfl, by rw [List.getElem?_append_right (by omega), show i * 3 + 1 - xs.length = 1 from by omega]; rfl, by rw [List.getElem?_append_right (by omega), show i * 3 + 2 - xs.length = 2 from by omega]; rfl, h2⟩

/-- A shape whose rows of parts lie in blocks of A. -/
def RdShp (A : Nat → Prop) : Nat → World → Value → Shp → Prop
  | 0, _, _, _ => False
  | d + 1, w, v, .mk k ls ps => ∃ L P xs, v = .agg #[.int .i64 k, L, P] ∧ RdRow 27 RdPts9 w L ls ∧ (∀ g, P.ownBlock = some g → A g) ∧ w.ownsRow 0 25 3 P ps.length xs ∧ Each3 (RdShp A d) w xs ps
def SKept (A : Nat → Prop) (w w' : World) : Prop := ∀ (g : Nat) (cur : Array Value) (e : TypeId), (e ≠ 25 ∨ A g) → w.heap[g]? = some (Obj.cells cur e (0, 0)) → w'.heap[g]? = some (Obj.cells cur e (0, 0))
theorem SKept.of_bel {A : Nat → Prop} {w w' : World} (h : Bel w w') : SKept A w w' := fun _ _ _ _ hg => h.heap hg
theorem SKept.t {A : Nat → Prop} {w w' : World} (h : SKept A w w') (K : TypeId → Prop) (hK : ¬ K 25) : TKept K w w' := fun g cur e he hg => h g cur e (.inl fun hc => hK (hc ▸ he)) hg
theorem SKept.tr {A : Nat → Prop} {a b c : World} (h : SKept A a b) (k : SKept A b c) : SKept A a c := fun g cur e he hg => k g cur e he (h g cur e he hg)
theorem RdShp.keep {A : Nat → Prop} {w w' : World} (k : SKept A w w') : ∀ (d : Nat) (v : Value) (s : Shp), RdShp A d w v s → RdShp A d w' v s := by
  intro d
  induction d with
  | zero => intro v s h; exact h
  | succ d ih =>
    intro v s h
    obtain ⟨kk, ls, ps⟩ := s
    obtain ⟨L, P, xs, h1, h2, hA, h3, h4⟩ := h
    refine ⟨L, P, xs, h1, rdRow_keep (fun x d h => RdPts9.keep h (k.t _ (by decide))) (k.t _ (by decide)) h2, hA, ?_, h4.mono fun x d h => ih x d h⟩
    obtain ⟨h5, h6⟩ := h3
    refine ⟨h5, ?_⟩
    rcases h6 with h6 | ⟨g, cap, cur, hv, hg, hh, r⟩
    · exact Or.inl h6
    · exact Or.inr ⟨g, cap, cur, hv, hg, k _ _ _ (.inr (hA g (by rw [hv]; rfl))) hh, r⟩
theorem RdShp.mono {A A' : Nat → Prop} {w : World} (hA : ∀ g, g < w.heap.size → A g → A' g) : ∀ (d : Nat) (v : Value) (s : Shp), RdShp A d w v s → RdShp A' d w v s := by
  intro d
  induction d with
  | zero => intro v s h; exact h
  | succ d ih =>
    intro v s h
    obtain ⟨kk, ls, ps⟩ := s
    obtain ⟨L, P, xs, h1, h2, hB, h3, h4⟩ := h
    exact ⟨L, P, xs, h1, h2, fun g hg => hA g (h3.lt g hg).2 (hB g hg), h3, h4.mono fun x d h => ih x d h⟩

/-- What is made reads as a shape. -/
theorem RdShp.at {A : Nat → Prop} {w : World} : ∀ (d : Nat) (v : Value) (s : Shp), RdShp A d w v s → ShpAt d w v s := by
  intro d
  induction d with
  | zero => intro v s h; exact h
  | succ d ih =>
    intro v s h
    obtain ⟨kk, ls, ps⟩ := s
    obtain ⟨L, P, xs, h1, ⟨ys, h2, h2'⟩, hA, h3, h4⟩ := h
    refine ⟨L, P, h1, own_row h2 (h2'.mono fun x d h => own_pts h), ?_⟩
    rcases h3.2 with ⟨rfl, hn⟩ | ⟨g, cap, cur, rfl, _, hg, k1, k2, k3, k4⟩
    · refine ⟨none, 0, by rw [hn], by omega, ?_⟩
      intro i q hq
      rw [List.getElem?_eq_none (by omega)] at hq; cases hq
    · refine ⟨some ⟨g, 0, none⟩, cap, rfl, by omega, ?_⟩
      intro i s hs
      have hlt : i < ps.length := by
        rcases Nat.lt_or_ge i ps.length with h | h
        · exact h
        · rw [List.getElem?_eq_none h] at hs; cases hs
      obtain ⟨c0, c1, c2, q0, q1, q2, hr⟩ := h4.at.2 i s hs
      rw [← k4, List.getElem?_take, if_pos (by omega)] at q0 q1 q2
      refine ⟨_, c0, c1, c2, rfl, ?_, ?_, ?_, ih _ _ hr⟩
      · rw [Lib.addr_add]
        simp [World.cell?, hg]
        simpa using q0
      · simp only [Lib.addr_add]
        simp [World.cell?, hg]
        simpa using q1
      · simp only [Lib.addr_add]
        simp [World.cell?, hg]
        simpa using q2

theorem shpRow_snoc {base d : Nat} {wr w1 w3 w4 : World} {P : Value} {c0 c1 c2 : Value} {acc : List Shp} {s : Shp} {xs : List Value} {o : Obj} (hown : wr.ownsRow base 25 3 P acc.length xs) (heach : Each3 (RdShp (fun g => base ≤ g ∧ some g ≠ P.ownBlock) d) wr xs acc) (hb : Bel wr w1)
    (hv : RdShp (fun g => wr.heap.size ≤ g) d w1 (.agg #[c0, c1, c2]) s) (hbase : base ≤ wr.heap.size) (hg : (w1.alloc o).grownBy w3 P.ownBlock)
    {gg cap n : Nat} (hat : P.ownBlock = some gg ∨ gg = w1.heap.size + 1) (hw4 : ∀ (g : Nat) (cur : Array Value) (e : TypeId), (e ≠ 25 ∨ base ≤ g) → w3.heap[g]? = some (Obj.cells cur e (0, 0)) → w4.heap[g]? = some (Obj.cells cur e (0, 0))) :
    Each3 (RdShp (fun g => base ≤ g ∧ some g ≠ (Value.slice (some ⟨gg, 0, none⟩) n cap).ownBlock) d) w4 (xs ++ [c0, c1, c2]) (acc ++ [s]) := by
  have hk : SKept (fun g => base ≤ g ∧ some g ≠ P.ownBlock ∧ g < w1.heap.size) w1 w4 := by
    intro k cur e he hh
    have h1 := (Bel.al w1 o).heap hh
    refine hw4 k cur e (he.imp id fun h => h.1) (grown_heap hg h1 ?_)
    by_cases h25 : e = 25
    · rcases he with he | he
      · exact absurd h25 he
      · exact he.2.1
    · exact own_ne ((ownsRow_bel hown hb).alloc o) h1 h25
  have hm : ∀ k, k < w4.heap.size → (base ≤ k ∧ some k ≠ P.ownBlock ∧ k < w1.heap.size) → base ≤ k ∧ some k ≠ (Value.slice (some ⟨gg, 0, none⟩) n cap).ownBlock := by
    intro k _ h
    refine ⟨h.1, ?_⟩
    show some k ≠ some gg
    rcases hat with h5 | h5
    · rw [← h5]; exact h.2.1
    · intro hc; cases hc; omega
  refine .snoc (heach.mono fun x dd h => ?_) ?_
  · have h1 := RdShp.keep (SKept.of_bel hb) d x dd h
    have h2 := RdShp.mono (A' := fun g => base ≤ g ∧ some g ≠ P.ownBlock ∧ g < w1.heap.size) (fun k hk h => ⟨h.1, h.2, hk⟩) d x dd h1
    exact RdShp.mono hm d x dd (RdShp.keep hk d x dd h2)
  · have h2 := RdShp.mono (A' := fun g => base ≤ g ∧ some g ≠ P.ownBlock ∧ g < w1.heap.size) (fun k hk h => ⟨by omega, fun hc => ?_, hk⟩) d _ s hv
    · exact RdShp.mono hm d _ s (RdShp.keep hk d _ s h2)
    · have := (hown.lt k hc.symm).2
      omega
end Go.Proofs.YtghajgdiaopioaaGreatDoor
