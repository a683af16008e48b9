/- Walks: shapes are turned to geometries. -/
import Derived.Test.YtghajgdiaopioaaGreatDoorW15
set_option linter.unusedVariables false
set_option linter.unusedSimpArgs false

namespace Go.Proofs.YtghajgdiaopioaaGreatDoor
open Go.RowKit
attribute [local go_sem] run_store_float run_store_iface run_store_nilIface

set_option maxRecDepth 4096 in
set_option maxHeartbeats 4000000 in
theorem pointsOf_calls (v : Value) (l : List Pt) (w : World) (hl : PtsAt w v l) (hs : l.length ≤ 1000000000) :
    Calls Tryz.prog 63 #[v] w fun e w' => ∃ x, e = .returned x ∧ RdPts w' x l ∧ Bel w w' := by
  obtain ⟨i0, hi, hz0, hz1, hz2⟩ := info_parts (show (Tryz.prog.info? 61).map (fun i => (i.zero, i.size, i.bytes)) = some (some (.agg #[.float .f64 0, .float .f64 0]), 2, 16) by kernel_rfl)
  obtain ⟨ao, cap, rfl, -, hc⟩ := hl
  have HC := Lib.hid hc
  clear hc
  go_enter Tryz.func63, Tryz.ntmps63
  go_wp2_with fail
  go_loopg [3, 9] l.length (fun g s3 s9 wr => ∃ (i : Nat), i ≤ l.length ∧ g = l.length - i ∧ s9 = .int .i64 i ∧ wr.ownsRow w.heap.size 61 2 s3 i (ptsCells (l.take i)) ∧ Bel w wr)
  case atStart => exact ⟨0, by omega, rfl, rfl, ⟨by simp [ptsCells], .inr ⟨w.heap.size, 0, #[], rfl, Nat.le_refl _, heap_alloc_new w _, Nat.le_refl _, Nat.zero_le _, by simp, by simp [ptsCells]⟩⟩, Bel.al _ _⟩
  case round =>
    obtain ⟨i, hi1, rfl, rfl, hown, hbel⟩ := hrel
    by_cases hlt : i < l.length
    · obtain ⟨p, hp⟩ : ∃ p, l[i]? = some p := ⟨_, List.getElem?_eq_getElem hlt⟩
      obtain ⟨a, rfl, c0, c1⟩ := HC.out i p hp
      have c0' := hbel.cellOf c0
      have c1' := hbel.cellOf c1
      have HOWN := Lib.hid hown
      have HBEL := Lib.hid hbel
      clear hown hbel c0 c1
      have hpa := Lib.hid hp
      clear hp
      go_wp2_with (at_builtin; refine wpList_append1 _ [_, _] 61 rfl (.tmp 13) (.tmp 19) 64 rfl w.heap.size i0 (.agg #[.float .f64 0, .float .f64 0]) 2 16 Tryz.underlying64 hi hz0 hz1 hz2 rfl (by decide) _ i (ptsCells (l.take i)) rfl (HOWN.out.alloc _) _ _ rfl (by simp) rfl ?_ ?_ ?_ ?_ ?_)
      · exact fun u hu => by simp at hu; rcases hu with rfl | rfl <;> rfl
      · omega
      · unfold maxLen; omega
      · have := HBEL.out.size; simp; omega
      · intro v' w' h2 h3
        have H2 := Lib.hid h2
        have H3 := Lib.hid h3
        clear h2 h3
        go_wp2
        go_roundg (l.length - (i + 1))
        case measure => omega
        case rel =>
          refine ⟨i + 1, by omega, rfl, by go_num, ?_, ?_⟩
          · have := H2.out
            rw [List.take_add_one, hpa.out, ptsCells_snoc']
            exact this
          · refine HBEL.out.trans (Below.grown ((Below.refl _ _).alloc HBEL.out.size _) H3.out (by have := HBEL.out.size; simp; omega) ?_)
            intro k hk
            exact (HOWN.out.lt k hk).1
    · obtain rfl : i = l.length := by omega
      have hkz : ¬ ((l.length : Int) < (l.length : Int)) := by omega
      have HOWN := Lib.hid hown
      have HBEL := Lib.hid hbel
      clear hown hbel
      go_wp2
      go_ret
      have := HOWN.out
      rw [List.take_length] at this
      exact ⟨_, rfl, ownsRow_base this (Nat.zero_le _), HBEL.out⟩

theorem PtsAt.slice {w : World} {v : Value} {l : List Pt} (h : PtsAt w v l) : ∃ ao cap, v = .slice ao l.length cap := by obtain ⟨ao, cap, h1, _⟩ := h; exact ⟨ao, cap, h1⟩
theorem RowAt.slice {δ : Type} {R : World → Value → δ → Prop} {w : World} {v : Value} {l : List δ} (h : RowAt R w v l) : ∃ ao cap, v = .slice ao l.length cap := by obtain ⟨ao, cap, h1, _⟩ := h; exact ⟨ao, cap, h1⟩
theorem heap_alloc2 (w : World) (a b : Obj) : ((w.alloc a).alloc b).heap[w.heap.size + 1]? = some b := by
  have := heap_alloc_new (w.alloc a) b
  rw [show (w.alloc a).heap.size = w.heap.size + 1 from by simp] at this
  exact this
theorem Each.at {δ : Type} {R : World → Value → δ → Prop} {w : World} {xs : List Value} {ds : List δ} (h : Each R w xs ds) : xs.length = ds.length ∧ ∀ (i : Nat) (d : δ), ds[i]? = some d → ∃ x, xs[i]? = some x ∧ R w x d := by
  induction h with
  | nil => exact ⟨rfl, fun i d h => by simp at h⟩
  | @snoc xs ds x d h1 h2 ih =>
    refine ⟨by simp [ih.1], fun i d' hd => ?_⟩
    rcases Nat.lt_or_ge i ds.length with hi | hi
    · rw [List.getElem?_append_left hi] at hd
      obtain ⟨y, hy, hr⟩ := ih.2 i d' hd
      exact ⟨y, by rw [List.getElem?_append_left (by omega)]; exact hy, hr⟩
    · rw [List.getElem?_append_right hi] at hd
      have : i - ds.length = 0 := by
        rcases Nat.eq_zero_or_pos (i - ds.length) with h | h
        · exact h
        · rw [List.getElem?_eq_none (by simp; omega)] at hd; cases hd
      rw [this] at hd
      simp at hd
      subst hd
      exact ⟨x, by rw [List.getElem?_append_right (by omega), show i - xs.length = 0 from by omega]; rfl, h2⟩
theorem own_row {δ : Type} {R : World → Value → δ → Prop} {w : World} {b : Nat} {e : TypeId} {v : Value} {xs : List Value} {ds : List δ} (h : w.ownsRow b e 1 v ds.length xs) (he : Each R w xs ds) : RowAt R w v ds := by
  rcases h.2 with ⟨rfl, hn⟩ | ⟨g, cap, cur, rfl, _, hg, h1, h2, h3, h4⟩
  · refine ⟨none, 0, by rw [hn], by omega, ?_⟩
    intro i q hq
    rw [List.getElem?_eq_none (by omega)] at hq; cases hq
  · refine ⟨some ⟨g, 0, none⟩, cap, rfl, by omega, ?_⟩
    intro i d hd
    have hlt : i < ds.length := by
      rcases Nat.lt_or_ge i ds.length with h | h
      · exact h
      · rw [List.getElem?_eq_none h] at hd; cases hd
    obtain ⟨x, hx, hr⟩ := he.at.2 i d hd
    refine ⟨_, x, rfl, ?_, hr⟩
    rw [← h4, List.getElem?_take, if_pos (by omega)] at hx
    rw [Lib.addr_add]
    simp [World.cell?, hg]
    simpa using hx

set_option maxRecDepth 4096 in
set_option maxHeartbeats 4000000 in
theorem polygonOf_calls (k : Int) (L P : Value) (ls : List (List Pt)) (w : World) (hl : RowAt PtsAt w L ls) (hs : ls.length ≤ 1000000000) (hs2 : ∀ l ∈ ls, l.length ≤ 1000000000) :
    Calls Tryz.prog 64 #[.agg #[.int .i64 k, L, P]] w fun e w' => ∃ x, e = .returned x ∧ RdRow 117 RdPts w' x ls ∧ Bel w w' := by
  obtain ⟨i0, hi, hz0, hz1, hz2⟩ := info_parts info117
  obtain ⟨ao, cap, rfl, -, hc⟩ := hl
  have HC := Lib.hid hc
  have HS2 := Lib.hid hs2
  clear hc hs2
  go_enter Tryz.func64, Tryz.ntmps64
  go_wp2_with fail
  go_loopg [3, 10] ls.length (fun g s3 s10 wr => ∃ (i : Nat) (xs : List Value), i ≤ ls.length ∧ g = ls.length - i ∧ s10 = .int .i64 i ∧ wr.ownsRow w.heap.size 117 1 s3 i xs ∧ Each RdPts wr xs (ls.take i) ∧ Bel w wr)
  case atStart => exact ⟨0, [], by omega, rfl, rfl, ⟨by simp, .inr ⟨w.heap.size + 1, 0, #[], by simp, Nat.le_succ _, heap_alloc2 _ _ _, Nat.le_refl _, Nat.zero_le _, by simp, by simp⟩⟩, .nil, (Bel.al _ _).tr (Bel.al _ _)⟩
  case round =>
    obtain ⟨i, xs, hi1, rfl, rfl, hown, heach, hbel⟩ := hrel
    by_cases hlt : i < ls.length
    · obtain ⟨p, hp⟩ : ∃ p, ls[i]? = some p := ⟨_, List.getElem?_eq_getElem hlt⟩
      obtain ⟨a, x, rfl, c0, hx⟩ := HC.out i p hp
      have c0' := hbel.cellOf c0
      have hpl := HS2.out p (List.mem_of_getElem? hp)
      have HX := Lib.hid (pointsOf_calls x p wr (hx.bel hbel) hpl)
      have HOWN := Lib.hid hown
      have HBEL := Lib.hid hbel
      have HEACH := Lib.hid heach
      have hpa := Lib.hid hp
      clear hown hbel c0 hp heach hx hpl
      go_wp2_with (first | (go_at_call 63; refine HX.out.mono ?_; rintro e w1 ⟨y, rfl, hy, hb1⟩; obtain ⟨ao1, cap1, rfl⟩ := own_slice hy; have HY := Lib.hid hy; have HB1 := Lib.hid hb1; clear hy hb1) | (at_builtin; refine wpList_append1 _ [_] 117 rfl (.tmp 14) (.tmp 17) 69 rfl w.heap.size i0 (.slice none 0 0) 1 24 Tryz.underlying69 hi hz0 hz1 hz2 rfl (by decide) _ i xs rfl (ownsRow_bel HOWN.out HB1.out) _ _ rfl rfl rfl ?_ ?_ ?_ ?_ ?_))
      · exact fun u hu => by simp at hu; subst hu; rfl
      · omega
      · unfold maxLen; omega
      · exact Nat.le_trans HBEL.out.size HB1.out.size
      · intro v' w' h2 h3
        have H2 := Lib.hid h2
        have H3 := Lib.hid h3
        clear h2 h3
        go_wp2
        go_roundg (ls.length - (i + 1))
        case measure => omega
        case rel =>
          have hT : TKept K61 w1 w' := fun g cur e he hg => grown_heap H3.out hg (own_ne (ownsRow_bel HOWN.out HB1.out) hg (by rw [he]; decide))
          refine ⟨i + 1, xs ++ [_], by omega, rfl, by go_num, H2.out, ?_, ?_⟩
          · rw [List.take_add_one, hpa.out]
            exact .snoc (HEACH.out.keep fun xx dd hh => RdPts.keep hh ((TKept.of_bel HB1.out).tr hT)) (RdPts.keep HY.out hT)
          · refine (HBEL.out.tr HB1.out).trans (Below.grown (Below.refl _ _) H3.out (Nat.le_trans HBEL.out.size HB1.out.size) ?_)
            intro k hk
            exact (HOWN.out.lt k hk).1
    · obtain rfl : i = ls.length := by omega
      have hkz : ¬ ((ls.length : Int) < (ls.length : Int)) := by omega
      have HOWN := Lib.hid hown
      have HBEL := Lib.hid hbel
      have HEACH := Lib.hid heach
      clear hown hbel heach
      go_wp2
      go_ret
      have := HEACH.out
      rw [List.take_length] at this
      exact ⟨_, rfl, ⟨_, ownsRow_base HOWN.out (Nat.zero_le _), this⟩, HBEL.out⟩
end Go.Proofs.YtghajgdiaopioaaGreatDoor

/- Walks: impl.geometry, kind by kind. -/
namespace Go.Proofs.YtghajgdiaopioaaGreatDoor
open Go.RowKit
attribute [local go_sem] run_store_float run_store_iface run_store_nilIface

inductive Shp
  | mk (kind : Int) (lists : List (List Pt)) (parts : List Shp)

/-- A slice of shapes. -/
def PartsAt (R : World → Value → Shp → Prop) (w : World) (v : Value) (ps : List Shp) : Prop := ∃ ao cap, v = .slice ao ps.length cap ∧ ps.length ≤ maxLen ∧
  ∀ i s, ps[i]? = some s → ∃ a c0 c1 c2, ao = some a ∧ w.cell? (a.add (i * 3)) = some c0 ∧ w.cell? ⟨(a.add (i * 3)).block, (a.add (i * 3)).off + 1, none⟩ = some c1 ∧ w.cell? ⟨(a.add (i * 3)).block, (a.add (i * 3)).off + 2, none⟩ = some c2 ∧ R w (.agg #[c0, c1, c2]) s
/-- A shape, as it lies in memory. -/
def ShpAt : Nat → World → Value → Shp → Prop
  | 0, _, _, _ => False
  | d + 1, w, v, .mk k ls ps => ∃ L P, v = .agg #[.int .i64 k, L, P] ∧ RowAt PtsAt w L ls ∧ PartsAt (ShpAt d) w P ps
theorem PartsAt.bel {R : World → Value → Shp → Prop} {w w' : World} (h : Bel w w') (hR : ∀ x d, R w x d → R w' x d) {v : Value} {l : List Shp} (k : PartsAt R w v l) : PartsAt R w' v l := by
  obtain ⟨ao, cap, h1, h2, h3⟩ := k
  refine ⟨ao, cap, h1, h2, fun i p hp => ?_⟩
  obtain ⟨a, c0, c1, c2, h4, h5, h6, h7, h8⟩ := h3 i p hp
  exact ⟨a, c0, c1, c2, h4, h.cellOf h5, h.cellOf h6, h.cellOf h7, hR _ _ h8⟩
theorem ShpAt.bel {w w' : World} (h : Bel w w') : ∀ (d : Nat) (v : Value) (s : Shp), ShpAt d w v s → ShpAt d w' v s := by
  intro d
  induction d with
  | zero => intro v s hh; exact hh
  | succ d ih =>
    intro v s hh
    obtain ⟨k, ls, ps⟩ := s
    obtain ⟨L, P, h1, h2, h3⟩ := hh
    exact ⟨L, P, h1, h2.bel h fun x d h' => h'.bel h, h3.bel h fun x s h' => ih x s h'⟩

set_option maxHeartbeats 2000000 in
theorem first_calls (k : Int) (L P : Value) (l : List Pt) (ls : List (List Pt)) (w : World) (hl : RowAt PtsAt w L (l :: ls)) (hs : ls.length ≤ 1000000000) :
    Calls Tryz.prog 62 #[.agg #[.int .i64 k, L, P]] w fun e w' => ∃ x, e = .returned x ∧ PtsAt w' x l ∧ Bel w w' := by
  obtain ⟨ao, cap, rfl, -, hc⟩ := hl
  obtain ⟨a, x, rfl, c0, hx⟩ := hc 0 l rfl
  have hb : Bel w (w.alloc (.cells #[.int .i64 k, .slice (some a) (l :: ls).length cap, P] 25)) := Bel.al _ _
  have c1 := hb.cellOf c0
  have HX := Lib.hid (hx.bel hb)
  have HB := Lib.hid hb
  have hz : (((l :: ls).length : Int) == 0) = false := by simp; omega
  have hz2 : (0 : Int) < ((l :: ls).length : Int) := by simp
  clear hc hx hb c0
  generalize (l :: ls).length = n at *
  rw [show a.add 0 = a from rfl] at c1
  go_enter Tryz.func62, Tryz.ntmps62
  go_wp2
  go_ret
  exact ⟨_, rfl, HX.out, HB.out⟩

set_option maxRecDepth 4096 in
set_option maxHeartbeats 4000000 in
theorem geom_pt (P : Value) (L : Value) (p : Pt) (w : World) (hl : RowAt PtsAt w L [[p]]) :
    Calls Tryz.prog 34 #[.agg #[.int .i64 1, L, P]] w fun e w' => e = .returned (.iface 61 (.agg #[.float .f64 p.1, .float .f64 p.2])) ∧ Bel w w' := by
  have HL := Lib.hid (fun wx (hb : Bel w wx) => first_calls 1 L P [p] [] wx (hl.bel hb fun x d h => h.bel hb) (by simp))
  clear hl
  go_enter Tryz.func34, Tryz.ntmps34
  go_wp2_with fail
  have hb : Bel w (w.alloc (.cells #[.int .i64 1, L, P] 25)) := Bel.al _ _
  have hv : (w.alloc (.cells #[.int .i64 1, L, P] 25)).heap[w.heap.size]? = some (.cells #[.int .i64 1, L, P] 25) := heap_alloc_new _ _
  have HB := Lib.hid hb
  have HV := Lib.hid hv
  clear hb hv
  generalize w.alloc (.cells #[.int .i64 1, L, P] 25) = w0 at *
  refine (HL.out w0 HB.out).mono ?_
  rintro e w1 ⟨x, rfl, hx, hb1⟩
  obtain ⟨ao, cap, rfl⟩ := hx.slice
  have hv1 := hb1.heap HV.out
  have q0 : w1.cell? ⟨w.heap.size, 0, none⟩ = some (.int .i64 1) := by simp [World.cell?, hv1]
  have q1 : w1.cell? ⟨w.heap.size, 1, none⟩ = some L := by simp [World.cell?, hv1]
  have q2 : w1.cell? ⟨w.heap.size, 2, none⟩ = some P := by simp [World.cell?, hv1]
  have HB1 := Lib.hid (HB.out.tr hb1)
  have HX := Lib.hid hx
  clear hb1 hv1 hx
  simp only [List.length_cons, List.length_nil, Nat.zero_add]
  go_wp2_with fail
  refine (HL.out w1 HB1.out).mono ?_
  rintro e w2 ⟨x, rfl, hx, hb2⟩
  have HB2 := Lib.hid (HB1.out.tr hb2)
  have HX2 := Lib.hid (pointsOf_calls x [p] w2 hx (by simp))
  clear hx hb2 q0 q1 q2
  go_wp2_with fail
  refine HX2.out.mono ?_
  rintro e w3 ⟨y, rfl, hy, hb3⟩
  obtain ⟨ao3, cap3, rfl, -, hc3⟩ := own_pts hy
  obtain ⟨a3, rfl, c0, c1⟩ := hc3 0 p rfl
  have HB3 := Lib.hid (HB2.out.tr hb3)
  clear hy hb3 hc3
  rw [show a3.add (0 * 2) = a3 from rfl] at c0 c1
  simp only [List.length_cons, List.length_nil, Nat.zero_add]
  go_wp2
  go_ret
  exact ⟨rfl, HB3.out⟩
end Go.Proofs.YtghajgdiaopioaaGreatDoor
