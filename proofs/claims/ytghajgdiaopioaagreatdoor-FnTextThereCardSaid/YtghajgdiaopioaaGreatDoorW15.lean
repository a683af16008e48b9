/- Walks: Unmarshal, by depth. -/
import Derived.Test.YtghajgdiaopioaaGreatDoorW14
set_option linter.unusedVariables false
set_option linter.unusedSimpArgs false

namespace Go.Proofs.YtghajgdiaopioaaGreatDoor
open Go.RowKit

/-- What a text of this depth reads as. -/
inductive GeoStep (G : Errs) (C : Option (List UInt8 → Option Geo → Prop)) (l0 : List UInt8) : Option Geo → Prop
  | pt (l : List UInt8) (o : Option Pt) : trimL l0 = l → 5 ≤ l.length → hasW l kwPoint = true → PointReads G l o → GeoStep G C l0 (o.map .pt)
  | line (l : List UInt8) (o : Option (List Pt)) : trimL l0 = l → Asc l → 10 ≤ l.length → hasW l kwPoint = false → hasW l kwLine = true → Line54Reads G l o → GeoStep G C l0 (o.map .line)
  | poly (l : List UInt8) (o : Option (List (List Pt))) : trimL l0 = l → Asc l → 7 ≤ l.length → hasW l kwPoint = false → hasW l kwLine = false → hasW l kwPoly = true → Rows55Reads G l o → GeoStep G C l0 (o.map .poly)
  | mpt (l : List UInt8) (o : Option (List Pt)) : trimL l0 = l → Asc l → 10 ≤ l.length → hasW l kwPoint = false → hasW l kwLine = false → hasW l kwPoly = false → hasW l kwMPoint = true → Line56Reads G l o → GeoStep G C l0 (o.map .mpt)
  | mline (l : List UInt8) (o : Option (List (List Pt))) : trimL l0 = l → Asc l → 15 ≤ l.length → hasW l kwPoint = false → hasW l kwLine = false → hasW l kwPoly = false → hasW l kwMPoint = false → hasW l kwMLine = true → Rows57Reads G l o → GeoStep G C l0 (o.map .mline)
  | mpoly (l : List UInt8) (o : Option (List (List (List Pt)))) : trimL l0 = l → Asc l → 12 ≤ l.length → hasW l kwPoint = false → hasW l kwLine = false → hasW l kwPoly = false → hasW l kwMPoint = false → hasW l kwMLine = false → hasW l kwMPoly = true → Rows58Reads G l o → GeoStep G C l0 (o.map .mpoly)
  | coll (l : List UInt8) (o : Option (List Geo)) (R : List UInt8 → Option Geo → Prop) : C = some R → trimL l0 = l → Asc l → 18 ≤ l.length → hasW l kwPoint = false → hasW l kwLine = false → hasW l kwPoly = false → hasW l kwMPoint = false → hasW l kwMLine = false → hasW l kwMPoly = false → hasW l kwColl = true → CollReads R l o → GeoStep G C l0 (o.map .coll)
  | none (l : List UInt8) : trimL l0 = l → hasW l kwPoint = false → hasW l kwLine = false → hasW l kwPoly = false → hasW l kwMPoint = false → hasW l kwMLine = false → hasW l kwMPoly = false → hasW l kwColl = false → GeoStep G C l0 none
def GeoReads (G : Errs) : Nat → List UInt8 → Option Geo → Prop
  | 0 => fun l o => l.length ≤ 1000000000 ∧ GeoStep G .none l o
  | d + 1 => fun l o => l.length ≤ 1000000000 ∧ GeoStep G (.some (GeoReads G d)) l o

theorem unm_step (G : Errs) (d : Nat) (C : Option (List UInt8 → Option Geo → Prop)) (hC : ∀ R, C = some R → ∃ d', d = d' + 1 ∧ ∀ (p : List UInt8) (o : Option Geo) (wx : World), Env G wx → R p o → Calls Tryz.prog 32 #[.string (ofL p)] wx fun e w' => GivesG (RdGeo (fun g => wx.heap.size ≤ g) d') o e w' ∧ Bel wx w')
    (l0 : List UInt8) (r : Option Geo) (w : World) (hE : Env G w) (hs : l0.length ≤ 1000000000) (h : GeoStep G C l0 r) :
    Calls Tryz.prog 32 #[.string (ofL l0)] w fun e w' => GivesG (RdGeo (fun g => w.heap.size ≤ g) d) r e w' ∧ Bel w w' := by
  have ht := trimL_le l0
  cases h with
  | pt l o hl hn h0 hr =>
    cases o with
    | none =>
      refine (un0_err G l0 l w hE hs (by rw [hl] at ht; omega) hl h0 (fun wx hb => (point53_calls G l none wx (hE.bel hb) (by rw [hl] at ht; omega) hn hr).mono ?_)).mono ?_
      · rintro e w' ⟨rfl, hb⟩; exact ⟨⟨_, _, rfl⟩, hb⟩
      · rintro e w' ⟨⟨a, rfl⟩, hb⟩; exact ⟨⟨a, rfl⟩, hb⟩
    | some p =>
      obtain ⟨x, y⟩ := p
      refine (un0_ok G (fun w' v => v = .agg #[.float .f64 x, .float .f64 y]) l0 l w hE hs (by rw [hl] at ht; omega) hl h0 (fun wx hb => (point53_calls G l _ wx (hE.bel hb) (by rw [hl] at ht; omega) hn hr).mono ?_)).mono ?_
      · rintro e w' ⟨rfl, hb⟩; exact ⟨⟨_, rfl, rfl⟩, hb⟩
      · rintro e w' ⟨⟨v, rfl, rfl⟩, hb⟩
        refine ⟨⟨_, rfl, ?_⟩, hb⟩
        cases d <;> rfl
  | line l o hl hA hn h0 h1 hr =>
    cases o with
    | none =>
      refine (un1_err G l0 l w hE hs (by rw [hl] at ht; omega) hl h0 h1 (fun wx hb => (line54_calls G l none wx (hE.bel hb) (by rw [hl] at ht; omega) hn hA hr).mono ?_)).mono ?_
      · rintro e w' ⟨rfl, hb⟩; exact ⟨⟨_, _, rfl⟩, hb⟩
      · rintro e w' ⟨⟨a, rfl⟩, hb⟩; exact ⟨⟨a, rfl⟩, hb⟩
    | some p =>
      refine (un1_ok G (fun w' v => RdPts w' v p) l0 l w hE hs (by rw [hl] at ht; omega) hl h0 h1 (fun wx hb => (line54_calls G l _ wx (hE.bel hb) (by rw [hl] at ht; omega) hn hA hr).mono ?_)).mono ?_
      · rintro e w' ⟨⟨v, rfl, hv⟩, hb⟩; exact ⟨⟨_, rfl, hv⟩, hb⟩
      · rintro e w' ⟨⟨v, rfl, hv⟩, hb⟩
        refine ⟨⟨_, rfl, ?_⟩, hb⟩
        cases d <;> exact ⟨v, rfl, hv⟩
  | poly l o hl hA hn h0 h1 h2 hr =>
    cases o with
    | none =>
      refine (un2_err G l0 l w hE hs (by rw [hl] at ht; omega) hl h0 h1 h2 (fun wx hb => (rows55_calls G l none wx (hE.bel hb) (by rw [hl] at ht; omega) hn hA hr).mono ?_)).mono ?_
      · rintro e w' ⟨rfl, hb⟩; exact ⟨⟨_, _, rfl⟩, hb⟩
      · rintro e w' ⟨⟨a, rfl⟩, hb⟩; exact ⟨⟨a, rfl⟩, hb⟩
    | some p =>
      refine (un2_ok G (fun w' v => RdRow 117 RdPts w' v p) l0 l w hE hs (by rw [hl] at ht; omega) hl h0 h1 h2 (fun wx hb => (rows55_calls G l _ wx (hE.bel hb) (by rw [hl] at ht; omega) hn hA hr).mono ?_)).mono ?_
      · rintro e w' ⟨⟨v, rfl, hv⟩, hb⟩; exact ⟨⟨_, rfl, hv⟩, hb⟩
      · rintro e w' ⟨⟨v, rfl, hv⟩, hb⟩
        refine ⟨⟨_, rfl, ?_⟩, hb⟩
        cases d <;> exact ⟨v, rfl, hv⟩
  | mpt l o hl hA hn h0 h1 h2 h3 hr =>
    cases o with
    | none =>
      refine (un3_err G l0 l w hE hs (by rw [hl] at ht; omega) hl h0 h1 h2 h3 (fun wx hb => (line56_calls G l none wx (hE.bel hb) (by rw [hl] at ht; omega) hn hA hr).mono ?_)).mono ?_
      · rintro e w' ⟨rfl, hb⟩; exact ⟨⟨_, _, rfl⟩, hb⟩
      · rintro e w' ⟨⟨a, rfl⟩, hb⟩; exact ⟨⟨a, rfl⟩, hb⟩
    | some p =>
      refine (un3_ok G (fun w' v => RdPts w' v p) l0 l w hE hs (by rw [hl] at ht; omega) hl h0 h1 h2 h3 (fun wx hb => (line56_calls G l _ wx (hE.bel hb) (by rw [hl] at ht; omega) hn hA hr).mono ?_)).mono ?_
      · rintro e w' ⟨⟨v, rfl, hv⟩, hb⟩; exact ⟨⟨_, rfl, hv⟩, hb⟩
      · rintro e w' ⟨⟨v, rfl, hv⟩, hb⟩
        refine ⟨⟨_, rfl, ?_⟩, hb⟩
        cases d <;> exact ⟨v, rfl, hv⟩
  | mline l o hl hA hn h0 h1 h2 h3 h4 hr =>
    cases o with
    | none =>
      refine (un4_err G l0 l w hE hs (by rw [hl] at ht; omega) hl h0 h1 h2 h3 h4 (fun wx hb => (rows57_calls G l none wx (hE.bel hb) (by rw [hl] at ht; omega) hn hA hr).mono ?_)).mono ?_
      · rintro e w' ⟨rfl, hb⟩; exact ⟨⟨_, _, rfl⟩, hb⟩
      · rintro e w' ⟨⟨a, rfl⟩, hb⟩; exact ⟨⟨a, rfl⟩, hb⟩
    | some p =>
      refine (un4_ok G (fun w' v => RdRow 65 RdPts w' v p) l0 l w hE hs (by rw [hl] at ht; omega) hl h0 h1 h2 h3 h4 (fun wx hb => (rows57_calls G l _ wx (hE.bel hb) (by rw [hl] at ht; omega) hn hA hr).mono ?_)).mono ?_
      · rintro e w' ⟨⟨v, rfl, hv⟩, hb⟩; exact ⟨⟨_, rfl, hv⟩, hb⟩
      · rintro e w' ⟨⟨v, rfl, hv⟩, hb⟩
        refine ⟨⟨_, rfl, ?_⟩, hb⟩
        cases d <;> exact ⟨v, rfl, hv⟩
  | mpoly l o hl hA hn h0 h1 h2 h3 h4 h5 hr =>
    cases o with
    | none =>
      refine (un5_err G l0 l w hE hs (by rw [hl] at ht; omega) hl h0 h1 h2 h3 h4 h5 (fun wx hb => (rows58_calls G l none wx (hE.bel hb) (by rw [hl] at ht; omega) hn hA hr).mono ?_)).mono ?_
      · rintro e w' ⟨rfl, hb⟩; exact ⟨⟨_, _, rfl⟩, hb⟩
      · rintro e w' ⟨⟨a, rfl⟩, hb⟩; exact ⟨⟨a, rfl⟩, hb⟩
    | some p =>
      refine (un5_ok G (fun w' v => RdRow 69 RdRings w' v p) l0 l w hE hs (by rw [hl] at ht; omega) hl h0 h1 h2 h3 h4 h5 (fun wx hb => (rows58_calls G l _ wx (hE.bel hb) (by rw [hl] at ht; omega) hn hA hr).mono ?_)).mono ?_
      · rintro e w' ⟨⟨v, rfl, hv⟩, hb⟩; exact ⟨⟨_, rfl, hv⟩, hb⟩
      · rintro e w' ⟨⟨v, rfl, hv⟩, hb⟩
        refine ⟨⟨_, rfl, ?_⟩, hb⟩
        cases d <;> exact ⟨v, rfl, hv⟩
  | coll l o R hR hl hA hn h0 h1 h2 h3 h4 h5 h6 hr =>
    obtain ⟨d', rfl, hR⟩ := hC R hR
    cases o with
    | none =>
      refine (un6_err G l0 l w hE hs (by rw [hl] at ht; omega) hl h0 h1 h2 h3 h4 h5 h6 (fun wx hb => (coll59_calls G d' R hR l none wx (hE.bel hb) (by rw [hl] at ht; omega) hn hA hr).mono ?_)).mono ?_
      · rintro e w' ⟨⟨v, a, rfl⟩, hb⟩; exact ⟨⟨_, _, rfl⟩, hb⟩
      · rintro e w' ⟨⟨a, rfl⟩, hb⟩; exact ⟨⟨a, rfl⟩, hb⟩
    | some p =>
      refine (un6_ok G (fun w' v => (∀ g, v.ownBlock = some g → w.heap.size ≤ g) ∧ RdRow 52 (RdGeo (fun g => w.heap.size ≤ g) d') w' v p) l0 l w hE hs (by rw [hl] at ht; omega) hl h0 h1 h2 h3 h4 h5 h6 (fun wx hb => (coll59_calls G d' R hR l _ wx (hE.bel hb) (by rw [hl] at ht; omega) hn hA hr).mono ?_)).mono ?_
      · rintro e w' ⟨⟨v, rfl, hg, xs, hv1, hv2⟩, hb'⟩
        have := hb.size
        exact ⟨⟨_, rfl, fun g h => by have := hg g h; omega, xs, hv1, hv2.mono fun x dd h => RdGeo.mono (fun k _ h => by omega) d' x dd h⟩, hb'⟩
      · rintro e w' ⟨⟨v, rfl, hv⟩, hb⟩
        exact ⟨⟨_, rfl, v, rfl, hv⟩, hb⟩
  | none l hl h0 h1 h2 h3 h4 h5 h6 =>
    exact (un7_none G l0 l w hE hs (by rw [hl] at ht; omega) hl h0 h1 h2 h3 h4 h5 h6)

theorem unm_calls (G : Errs) : ∀ (d : Nat) (l : List UInt8) (r : Option Geo) (w : World), Env G w → GeoReads G d l r → Calls Tryz.prog 32 #[.string (ofL l)] w fun e w' => GivesG (RdGeo (fun g => w.heap.size ≤ g) d) r e w' ∧ Bel w w' := by
  intro d
  induction d with
  | zero => intro l r w hE h; exact unm_step G 0 .none (fun R hR => by cases hR) l r w hE h.1 h.2
  | succ d ih => intro l r w hE h; exact unm_step G (d + 1) _ (fun R hR => by cases hR; exact ⟨d, rfl, fun p o wx hx hp => ih p o wx hx hp⟩) l r w hE h.1 h.2
end Go.Proofs.YtghajgdiaopioaaGreatDoor

/- Readers: shapes and geometries as they lie in memory, wherever. -/
namespace Go.Proofs.YtghajgdiaopioaaGreatDoor
open Go.RowKit
attribute [local go_sem] run_store_float run_store_iface run_store_nilIface

/-- A slice of points. -/
def PtsAt (w : World) (v : Value) (l : List Pt) : Prop := ∃ ao cap, v = .slice ao l.length cap ∧ l.length ≤ maxLen ∧
  ∀ i p, l[i]? = some p → ∃ a, ao = some a ∧ w.cell? (a.add (i * 2)) = some (.float .f64 p.1) ∧ w.cell? ⟨(a.add (i * 2)).block, (a.add (i * 2)).off + 1, none⟩ = some (.float .f64 p.2)
/-- A slice of one-cell values. -/
def RowAt {δ : Type} (R : World → Value → δ → Prop) (w : World) (v : Value) (ds : List δ) : Prop := ∃ ao cap, v = .slice ao ds.length cap ∧ ds.length ≤ maxLen ∧
  ∀ i d, ds[i]? = some d → ∃ a x, ao = some a ∧ w.cell? (a.add i) = some x ∧ R w x d
theorem PtsAt.bel {w w' : World} (h : Bel w w') {v : Value} {l : List Pt} (k : PtsAt w v l) : PtsAt w' v l := by
  obtain ⟨ao, cap, h1, h2, h3⟩ := k
  refine ⟨ao, cap, h1, h2, fun i p hp => ?_⟩
  obtain ⟨a, h4, h5, h6⟩ := h3 i p hp
  exact ⟨a, h4, h.cellOf h5, h.cellOf h6⟩
theorem RowAt.bel {δ : Type} {R : World → Value → δ → Prop} {w w' : World} (h : Bel w w') (hR : ∀ x d, R w x d → R w' x d) {v : Value} {l : List δ} (k : RowAt R w v l) : RowAt R w' v l := by
  obtain ⟨ao, cap, h1, h2, h3⟩ := k
  refine ⟨ao, cap, h1, h2, fun i p hp => ?_⟩
  obtain ⟨a, x, h4, h5, h6⟩ := h3 i p hp
  exact ⟨a, x, h4, h.cellOf h5, hR _ _ h6⟩

theorem ptsCells_at (l : List Pt) : ∀ (i j : Nat), j < 2 → (ptsCells l)[i * 2 + j]? = l[i]?.map fun p => if j = 0 then Value.float .f64 p.1 else Value.float .f64 p.2 := by
  induction l with
  | nil => intro i j _; simp [ptsCells]
  | cons p l ih =>
    intro i j hj
    have hc : ptsCells (p :: l) = .float .f64 p.1 :: .float .f64 p.2 :: ptsCells l := rfl
    rw [hc]
    cases i with
    | zero =>
      have : j = 0 ∨ j = 1 := by omega
      rcases this with rfl | rfl <;> rfl
    | succ i =>
      rw [show (i + 1) * 2 + j = i * 2 + j + 1 + 1 from by omega, List.getElem?_cons_succ, List.getElem?_cons_succ, ih i j hj, List.getElem?_cons_succ]
theorem ptsCells_snoc' (l : List Pt) (p : Pt) : ptsCells (l ++ (some p).toList) = ptsCells l ++ [.float .f64 p.1, .float .f64 p.2] := by simp [ptsCells, ptCells]
theorem own_pts {w : World} {b : Nat} {e : TypeId} {v : Value} {l : List Pt} (h : w.ownsRow b e 2 v l.length (ptsCells l)) : PtsAt w v l := by
  rcases h.2 with ⟨rfl, hn⟩ | ⟨g, cap, cur, rfl, _, hg, h1, h2, h3, h4⟩
  · refine ⟨none, 0, by rw [hn], by omega, ?_⟩
    intro i q hq
    rw [List.getElem?_eq_none (by omega)] at hq; cases hq
  · refine ⟨some ⟨g, 0, none⟩, cap, rfl, by omega, ?_⟩
    intro i p hp
    have hlt : i < l.length := by
      rcases Nat.lt_or_ge i l.length with h | h
      · exact h
      · rw [List.getElem?_eq_none h] at hp; cases hp
    have hx : ∀ j, j < 2 → (ptsCells l)[i * 2 + j]? = some (if j = 0 then Value.float .f64 p.1 else Value.float .f64 p.2) := by
      intro j hj
      rw [ptsCells_at l i j hj, hp]
      rfl
    refine ⟨_, rfl, ?_, ?_⟩
    · have := hx 0 (by omega)
      rw [← h4, List.getElem?_take, if_pos (by omega)] at this
      rw [Lib.addr_add]
      simp [World.cell?, hg]
      simpa using this
    · have := hx 1 (by omega)
      rw [← h4, List.getElem?_take, if_pos (by omega)] at this
      simp only [Lib.addr_add]
      simp [World.cell?, hg]
      simpa using this

set_option maxRecDepth 4096 in
set_option maxHeartbeats 4000000 in
theorem listOf_calls (v : Value) (l : List Pt) (w : World) (hl : PtsAt w v l) (hs : l.length ≤ 1000000000) :
    Calls Tryz.prog 60 #[v] w fun e w' => ∃ x, e = .returned x ∧ w'.ownsRow 0 49 2 x l.length (ptsCells l) ∧ Bel w w' := by
  obtain ⟨i0, hi, hz0, hz1, hz2⟩ := info_parts (show (Tryz.prog.info? 49).map (fun i => (i.zero, i.size, i.bytes)) = some (some (.agg #[.float .f64 0, .float .f64 0]), 2, 16) by kernel_rfl)
  obtain ⟨ao, cap, rfl, -, hc⟩ := hl
  have HC := Lib.hid hc
  clear hc
  go_enter Tryz.func60, Tryz.ntmps60
  go_wp2_with fail
  go_loopg [3, 9] l.length (fun g s3 s9 wr => ∃ (i : Nat), i ≤ l.length ∧ g = l.length - i ∧ s9 = .int .i64 i ∧ wr.ownsRow w.heap.size 49 2 s3 i (ptsCells (l.take i)) ∧ Bel w wr)
  case atStart => exact ⟨0, by omega, rfl, rfl, ⟨by simp [ptsCells], .inr ⟨w.heap.size, 0, #[], rfl, Nat.le_refl _, heap_alloc_new w _, Nat.le_refl _, Nat.zero_le _, by simp, by simp [ptsCells]⟩⟩, Bel.al _ _⟩
  case round =>
    obtain ⟨i, hi1, rfl, rfl, hown, hbel⟩ := hrel
    by_cases hlt : i < l.length
    · obtain ⟨p, hp⟩ : ∃ p, l[i]? = some p := ⟨_, List.getElem?_eq_getElem hlt⟩
      obtain ⟨a, rfl, c0, c1⟩ := HC.out i p hp
      have c0' := hbel.cellOf c0
      have c1' := hbel.cellOf c1
      have HOWN := Lib.hid hown
      have HBEL := Lib.hid hbel
      clear hown hbel c0 c1
      have hpa := Lib.hid hp
      clear hp
      go_wp2_with (at_builtin; refine wpList_append1 _ [_, _] 49 rfl (.tmp 13) (.tmp 19) 27 rfl w.heap.size i0 (.agg #[.float .f64 0, .float .f64 0]) 2 16 Tryz.underlying27 hi hz0 hz1 hz2 rfl (by decide) _ i (ptsCells (l.take i)) rfl (HOWN.out.alloc _) _ _ rfl (by simp) rfl ?_ ?_ ?_ ?_ ?_)
      · exact fun u hu => by simp at hu; rcases hu with rfl | rfl <;> rfl
      · omega
      · unfold maxLen; omega
      · have := HBEL.out.size; simp; omega
      · intro v' w' h2 h3
        have H2 := Lib.hid h2
        have H3 := Lib.hid h3
        clear h2 h3
        go_wp2
        go_roundg (l.length - (i + 1))
        case measure => omega
        case rel =>
          refine ⟨i + 1, by omega, rfl, by go_num, ?_, ?_⟩
          · have := H2.out
            rw [List.take_add_one, hpa.out, ptsCells_snoc']
            exact this
          · refine HBEL.out.trans (Below.grown ((Below.refl _ _).alloc HBEL.out.size _) H3.out (by have := HBEL.out.size; simp; omega) ?_)
            intro k hk
            exact (HOWN.out.lt k hk).1
    · obtain rfl : i = l.length := by omega
      have hkz : ¬ ((l.length : Int) < (l.length : Int)) := by omega
      have HOWN := Lib.hid hown
      have HBEL := Lib.hid hbel
      clear hown hbel
      go_wp2
      go_ret
      have := HOWN.out
      rw [List.take_length] at this
      exact ⟨_, rfl, ownsRow_base this (Nat.zero_le _), HBEL.out⟩
end Go.Proofs.YtghajgdiaopioaaGreatDoor
