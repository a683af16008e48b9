/- Walks: wkt by depth; MarshalString; impl.Write. -/
import Derived.BigQuiet
import Derived.Test.YtghajgdiaopioaaGreatDoorW23
set_option linter.unusedVariables false
set_option linter.unusedSimpArgs false

namespace Go.Proofs.YtghajgdiaopioaaGreatDoor
open Go.RowKit
attribute [local go_sem] run_store_float run_store_iface run_store_nilIface

/-- A word, in capital or in small letters. -/
def wd (low : Bool) (k : List UInt8) : List UInt8 := if low then k.map (· + 32) else k
def emp (low : Bool) : List UInt8 := 32 :: wd low [69, 77, 80, 84, 89]
/-- Texts in brackets. -/
def brs (sp : List UInt8) (ts : List (List UInt8)) : List UInt8 := 40 :: jn sp ts ++ [41]
/-- The well known text of a geometry. -/
def geoT (low : Bool) (sp : List UInt8) (nt : Nat → List UInt8) : Nat → Geo → List UInt8
  | _, .pt p => wd low kwPoint ++ (sp ++ lineT sp nt [p])
  | _, .line l => wd low kwLine ++ (if l.isEmpty then emp low else sp ++ lineT sp nt l)
  | _, .poly ls => wd low kwPoly ++ (if ls.isEmpty then emp low else sp ++ brs sp (ls.map (lineT sp nt)))
  | _, .mpt l => wd low kwMPoint ++ (if l.isEmpty then emp low else sp ++ brs sp (l.map fun p => lineT sp nt [p]))
  | _, .mline ls => wd low kwMLine ++ (if ls.isEmpty then emp low else sp ++ brs sp (ls.map (lineT sp nt)))
  | _, .mpoly ps => wd low kwMPoly ++ (if ps.isEmpty then emp low else sp ++ brs sp (ps.map fun ls => brs sp (ls.map (lineT sp nt))))
  | 0, .coll _ => []
  | d + 1, .coll gs => wd low kwColl ++ (if gs.isEmpty then emp low else sp ++ brs sp (gs.map (geoT low sp nt d)))
/-- Every number of a geometry is such a one. -/
def AllN (P : Nat → Prop) : Nat → Geo → Prop
  | _, .pt p => P p.1 ∧ P p.2
  | _, .line l => ∀ p ∈ l, P p.1 ∧ P p.2
  | _, .poly ls => ∀ l ∈ ls, ∀ p ∈ l, P p.1 ∧ P p.2
  | _, .mpt l => ∀ p ∈ l, P p.1 ∧ P p.2
  | _, .mline ls => ∀ l ∈ ls, ∀ p ∈ l, P p.1 ∧ P p.2
  | _, .mpoly ps => ∀ ls ∈ ps, ∀ l ∈ ls, ∀ p ∈ l, P p.1 ∧ P p.2
  | 0, .coll _ => False
  | d + 1, .coll gs => ∀ g ∈ gs, AllN P d g
theorem jn_one (sp : List UInt8) (t : List UInt8) : jn sp [t] = t := by simp [jn]

theorem wkt_flat (G : Errs) (nt : Nat → List UInt8) (w0 : World) (hE : Env G w0) (d : Nat) (v : Value) (g : Geo) (bs : List UInt8) (w : World) (h : GeoAt d w0 v g) (hs : Small d g) (hn : AllN (fun x => NumWrites G x (nt x)) d g) (hb : Buf w0 bs w) (hl : (bs ++ geoT false [] nt d g).length ≤ 100000000) (hg : ∀ l, g ≠ .coll l) :
    Calls Tryz.prog 66 #[.pointer (some ⟨w0.heap.size, 0, none⟩), v] w fun e w' => e = .returned (.tuple #[]) ∧ Buf w0 (bs ++ geoT false [] nt d g) w' := by
  have hbl : bs.length ≤ 100000000 := by rw [List.length_append] at hl; omega
  cases g with
  | coll l => exact absurd rfl (hg l)
  | pt p =>
    have h' : v = .iface 61 (.agg #[.float .f64 p.1, .float .f64 p.2]) := by cases d <;> exact h
    have hn' : NumWrites G p.1 (nt p.1) ∧ NumWrites G p.2 (nt p.2) := by cases d <;> exact hn
    subst h'
    have ht : geoT false [] nt d (.pt p) = kwPoint ++ 40 :: ptT nt (p.1, p.2) ++ [41] := by cases d <;> simp [geoT, wd, lineT, jn]
    rw [ht]
    have := wkt_pt G nt w0 hE bs p.1 p.2 w hn' hb hbl
    simpa using this
  | line l =>
    have h' : ∃ x, v = .iface 65 x ∧ PtsAt w0 x l := by cases d <;> exact h
    have hs' : l.length ≤ 100000 := by cases d <;> exact hs
    have hn' : ∀ p ∈ l, NumWrites G p.1 (nt p.1) ∧ NumWrites G p.2 (nt p.2) := by cases d <;> exact hn
    obtain ⟨x, rfl, hx⟩ := h'
    by_cases he : l = []
    · subst he
      obtain ⟨ao, cap, rfl⟩ := hx.slice
      rw [show geoT false [] nt d (.line []) = wLine from by cases d <;> rfl]
      exact wkt_line0 w0 bs ao cap w hb hbl
    · have ht : geoT false [] nt d (.line l) = kwLine ++ lineT [] nt l := by cases l with | nil => exact absurd rfl he | cons a b => cases d <;> simp [geoT, wd]
      rw [ht] at hl ⊢
      have := wkt_line1 G nt w0 hE bs x l w hx he hn' hs' hb (by simp only [List.length_append, kwLine, List.length_cons, List.length_nil] at hl; omega)
      rwa [List.append_assoc] at this
  | mpt l =>
    have h' : ∃ x, v = .iface 72 x ∧ PtsAt w0 x l := by cases d <;> exact h
    have hs' : l.length ≤ 100000 := by cases d <;> exact hs
    have hn' : ∀ p ∈ l, NumWrites G p.1 (nt p.1) ∧ NumWrites G p.2 (nt p.2) := by cases d <;> exact hn
    obtain ⟨x, rfl, hx⟩ := h'
    by_cases he : l = []
    · subst he
      obtain ⟨ao, cap, rfl⟩ := hx.slice
      rw [show geoT false [] nt d (.mpt []) = wMPoint from by cases d <;> rfl]
      exact wkt_mpt0 w0 bs ao cap w hb hbl
    · have ht : bs ++ geoT false [] nt d (.mpt l) = bs ++ kwMPoint ++ 40 :: jn [] (l.map fun p => lineT [] nt [p]) ++ [41] := by cases l with | nil => exact absurd rfl he | cons a b => cases d <;> simp [geoT, wd, brs]
      rw [ht] at hl ⊢
      exact wkt_mpt1 G nt w0 hE bs x l w hx he hn' hs' hb hl
  | poly l =>
    have h' : ∃ x, v = .iface 69 x ∧ RowAt PtsAt w0 x l := by cases d <;> exact h
    have hs' : sml l := by cases d <;> exact hs
    have hn' : ∀ y ∈ l, ∀ p ∈ y, NumWrites G p.1 (nt p.1) ∧ NumWrites G p.2 (nt p.2) := by cases d <;> exact hn
    obtain ⟨x, rfl, hx⟩ := h'
    by_cases he : l = []
    · subst he
      obtain ⟨ao, cap, rfl⟩ := hx.slice
      rw [show geoT false [] nt d (.poly []) = wPoly from by cases d <;> rfl]
      exact wkt_poly0 w0 bs ao cap w hb hbl
    · have ht : bs ++ geoT false [] nt d (.poly l) = bs ++ kwPoly ++ 40 :: jn [] (l.map (lineT [] nt)) ++ [41] := by cases l with | nil => exact absurd rfl he | cons a b => cases d <;> simp [geoT, wd, brs]
      rw [ht] at hl ⊢
      exact wkt_poly1 (PtsAt w0) (lineT [] nt) w0 bs x l w hx he (fun v g h => by obtain ⟨a, c, h⟩ := h.slice; exact ⟨a, _, c, h⟩) hs'.1 hb hl
        (fun y hy v bs' wx hv hb' hl' => writeLine_calls G nt w0 hE bs' v y wx hv (hn' y hy) (hs'.2 y hy) hb' (by rw [List.length_append] at hl'; omega))
  | mline l =>
    have h' : ∃ x, v = .iface 76 x ∧ RowAt PtsAt w0 x l := by cases d <;> exact h
    have hs' : sml l := by cases d <;> exact hs
    have hn' : ∀ y ∈ l, ∀ p ∈ y, NumWrites G p.1 (nt p.1) ∧ NumWrites G p.2 (nt p.2) := by cases d <;> exact hn
    obtain ⟨x, rfl, hx⟩ := h'
    by_cases he : l = []
    · subst he
      obtain ⟨ao, cap, rfl⟩ := hx.slice
      rw [show geoT false [] nt d (.mline []) = wMLine from by cases d <;> rfl]
      exact wkt_mline0 w0 bs ao cap w hb hbl
    · have ht : bs ++ geoT false [] nt d (.mline l) = bs ++ kwMLine ++ 40 :: jn [] (l.map (lineT [] nt)) ++ [41] := by cases l with | nil => exact absurd rfl he | cons a b => cases d <;> simp [geoT, wd, brs]
      rw [ht] at hl ⊢
      exact wkt_mline1 (PtsAt w0) (lineT [] nt) w0 bs x l w hx he (fun v g h => by obtain ⟨a, c, h⟩ := h.slice; exact ⟨a, _, c, h⟩) hs'.1 hb hl
        (fun y hy v bs' wx hv hb' hl' => writeLine_calls G nt w0 hE bs' v y wx hv (hn' y hy) (hs'.2 y hy) hb' (by rw [List.length_append] at hl'; omega))
  | mpoly l =>
    have h' : ∃ x, v = .iface 80 x ∧ RowAt (RowAt PtsAt) w0 x l := by cases d <;> exact h
    have hs' : l.length ≤ 100000 ∧ ∀ ls ∈ l, sml ls := by cases d <;> exact hs
    have hn' : ∀ ls ∈ l, ∀ y ∈ ls, ∀ p ∈ y, NumWrites G p.1 (nt p.1) ∧ NumWrites G p.2 (nt p.2) := by cases d <;> exact hn
    obtain ⟨x, rfl, hx⟩ := h'
    by_cases he : l = []
    · subst he
      obtain ⟨ao, cap, rfl⟩ := hx.slice
      rw [show geoT false [] nt d (.mpoly []) = wMPoly from by cases d <;> rfl]
      exact wkt_mpoly0 w0 bs ao cap w hb hbl
    · have ht : bs ++ geoT false [] nt d (.mpoly l) = bs ++ kwMPoly ++ 40 :: jn [] (l.map fun p => 40 :: jn [] (p.map (lineT [] nt)) ++ [41]) ++ [41] := by cases l with | nil => exact absurd rfl he | cons a b => cases d <;> simp [geoT, wd, brs]
      rw [ht] at hl ⊢
      exact wkt_mpoly1 G nt w0 hE _ rfl bs x l w hx he hs'.1 hb hl hn' (fun p hp => hs'.2 p hp)
theorem wkt_calls (G : Errs) (nt : Nat → List UInt8) (w0 : World) (hE : Env G w0) : ∀ (d : Nat) (v : Value) (g : Geo) (bs : List UInt8) (w : World), GeoAt d w0 v g → Small d g → AllN (fun x => NumWrites G x (nt x)) d g → Buf w0 bs w → (bs ++ geoT false [] nt d g).length ≤ 100000000 →
    Calls Tryz.prog 66 #[.pointer (some ⟨w0.heap.size, 0, none⟩), v] w fun e w' => e = .returned (.tuple #[]) ∧ Buf w0 (bs ++ geoT false [] nt d g) w' := by
  intro d
  induction d with
  | zero =>
    intro v g bs w h hs hn hb hl
    exact wkt_flat G nt w0 hE 0 v g bs w h hs hn hb hl (fun l hg => by subst hg; exact h.elim)
  | succ d ih =>
    intro v g bs w h hs hn hb hl
    by_cases hg : ∃ l, g = .coll l
    · obtain ⟨l, rfl⟩ := hg
      obtain ⟨x, rfl, hx⟩ := h
      have hbl : bs.length ≤ 100000000 := by rw [List.length_append] at hl; omega
      by_cases he : l = []
      · subst he
        obtain ⟨ao, cap, rfl⟩ := hx.slice
        rw [show geoT false [] nt (d + 1) (.coll []) = wColl from rfl]
        exact wkt_coll0 w0 bs ao cap w hb hbl
      · have ht : bs ++ geoT false [] nt (d + 1) (.coll l) = bs ++ kwColl ++ 40 :: jn [] (l.map (geoT false [] nt d)) ++ [41] := by cases l with | nil => exact absurd rfl he | cons a b => simp [geoT, wd, brs]
        rw [ht] at hl ⊢
        exact wkt_coll1 (GeoAt d w0) (geoT false [] nt d) w0 bs x l w hx he (fun v g h => h.iface) hs.1 hb hl (fun y hy v bs' wx hv hb' hl' => ih v y bs' wx hv (hs.2 y hy) (hn y hy) hb' hl')
    · exact wkt_flat G nt w0 hE (d + 1) v g bs w h hs hn hb hl (fun l hl' => hg ⟨l, hl'⟩)

set_option maxHeartbeats 4000000 in
theorem newBuffer_calls (w : World) : Calls Tryz.prog 65 #[.slice none 0 0] w fun e w' => e = .returned (.pointer (some ⟨w.heap.size, 0, none⟩)) ∧ Buf w [] w' := by
  have hf := Lib.hid (Lib.fresh_isBuffer 123 5 w)
  go_enter Tryz.func65, Tryz.ntmps65
  go_wp2
  go_ret
  exact ⟨rfl, Bel.al _ _, hf.out⟩

set_option maxHeartbeats 4000000 in
theorem marshalString_calls (G : Errs) (nt : Nat → List UInt8) (d : Nat) (v : Value) (g : Geo) (w : World) (hE : Env G w) (h : GeoAt d w v g) (hs : Small d g) (hn : AllN (fun x => NumWrites G x (nt x)) d g) (hl : (geoT false [] nt d g).length ≤ 100000000) :
    Calls Tryz.prog 35 #[v] w fun e w' => e = .returned (.string (ofL (geoT false [] nt d g))) ∧ Bel w w' := by
  have HW := Lib.hid (fun wx hb => wkt_calls G nt w hE d v g [] wx h hs hn hb hl)
  obtain ⟨T, x, rfl⟩ := h.iface
  have HNB := Lib.hid (newBuffer_calls w)
  clear h hs hn hl hE
  go_enter Tryz.func35, Tryz.ntmps35
  go_wp2_with fail
  refine HNB.out.mono ?_
  rintro e w1 ⟨rfl, hb1⟩
  have HB1 := Lib.hid hb1
  clear hb1
  go_wp2_with fail
  refine (HW.out _ HB1.out).mono ?_
  rintro e w2 ⟨rfl, hb2⟩
  have HB2 := Lib.hid hb2
  clear hb2
  go_wp2_with fail
  refine (Tryz.Buffer_String w.heap.size w.heap.size _ w2 HB2.out.2).mono ?_
  rintro e w3 ⟨rfl, n, rfl⟩
  go_wp2
  go_ret
  exact ⟨rfl, HB2.out.1.tr (Bel.dr _ _)⟩

set_option maxHeartbeats 4000000 in
theorem write_calls (G : Errs) (nt : Nat → List UInt8) (d dd : Nat) (v : Value) (g : Geo) (w : World) (hE : Env G w) (h : ShpAt dd w v (toShp d g)) (hs : Small d g) (hn : AllN (fun x => NumWrites G x (nt x)) d g) (hl : (geoT false [] nt d g).length ≤ 100000000) :
    Calls Tryz.prog 16 #[v] w fun e w' => e = .returned (.string (ofL (geoT false [] nt d g))) ∧ Bel w w' := by
  have HG := Lib.hid (fun wx (hb : Bel w wx) => geometry_calls d dd v g wx (ShpAt.bel hb dd v _ h) hs)
  have HM := Lib.hid (fun x wx (hb : Bel w wx) hx => marshalString_calls G nt d x g wx (hE.bel hb) hx hs hn hl)
  obtain ⟨k, a, n, c, a', n', c', rfl⟩ : ∃ k a n c a' n' c', v = .agg #[.int .i64 k, .slice a n c, .slice a' n' c'] := by
    cases dd with
    | zero => exact h.elim
    | succ dd =>
      revert h
      generalize toShp d g = s
      intro h
      obtain ⟨k, ls, ps⟩ := s
      obtain ⟨L, P, rfl, hL, a', c', rfl, -⟩ := h
      obtain ⟨a, c, rfl⟩ := hL.slice
      exact ⟨k, a, _, c, a', _, c', rfl⟩
  clear h hs hn hl hE
  generalize geoT false [] nt d g = t at *
  go_enter Tryz.func16, Tryz.ntmps16
  go_wp2_with fail
  refine (HG.out _ (Bel.al _ _)).mono ?_
  rintro e w1 ⟨x, rfl, hx, hb1⟩
  have HB1 := Lib.hid ((Bel.al w _).tr hb1)
  have HX := Lib.hid (RdGeo.at _ _ _ hx)
  obtain ⟨T, y, rfl⟩ := hx.iface
  clear hb1 hx
  go_wp2_with fail
  refine (HM.out _ w1 HB1.out HX.out).mono ?_
  rintro e w2 ⟨rfl, hb2⟩
  have HB2 := Lib.hid (HB1.out.tr hb2)
  clear hb2
  go_wp2
  go_ret
  exact ⟨rfl, HB2.out⟩
end Go.Proofs.YtghajgdiaopioaaGreatDoor

/- Walks: spec.counted (printed by genAP.py). -/
namespace Go.Proofs.YtghajgdiaopioaaGreatDoor
open Go.RowKit
attribute [local go_sem] run_store_float run_store_iface run_store_nilIface

def Shp.kind : Shp → Int
  | .mk k _ _ => k
def lastB (k : Int) (ls : List (List Pt)) (ps : List Shp) : Bool :=
  if k = 1 then (ls.length == 1 && ((ls.headD []).length == 1 && ps.length == 0)) else if k = 2 ∨ k = 4 then (ls.length == 1 && ps.length == 0) else if k = 3 ∨ k = 5 then ps.length == 0 else ls.length == 0
/-- The shape is of this depth, and its lists are as its kind asks. -/
def okS : Nat → Shp → Bool
  | 0, _ => false
  | d + 1, .mk k ls ps => decide (1 ≤ k) && (decide (k ≤ 7) && (decide (ls.length ≤ 40) && (decide (ps.length ≤ 40) && (ps.all (fun p => okS d p && (!(k == 6) || p.kind == 3)) && lastB k ls ps))))
def ptsN : Nat → Shp → Nat
  | 0, _ => 0
  | d + 1, .mk _ ls ps => (ls.map List.length).sum + (ps.map (ptsN d)).sum
def partsN : Nat → Shp → Nat
  | 0, _ => 0
  | d + 1, .mk _ _ ps => 1 + (ps.map (partsN d)).sum
/-- How counted ends. -/
def Cnt (d : Nat) (s : Shp) (e : Ending) : Prop := ∃ p q : Int, e = .returned (.tuple #[.int .i64 p, .int .i64 q, .bool (okS d s)]) ∧ (okS d s = true → p = wrap64 (ptsN d s) ∧ q = partsN d s)

set_option maxRecDepth 100000 in
set_option maxHeartbeats 8000000 in
theorem counted_bad0 (d : Nat) (k : Int) (ls : List (List Pt)) (ps : List Shp) (L P : Value) (w : World) (hL : ∃ ao cap, L = .slice ao ls.length cap) (hP : ∃ ao cap, P = .slice ao ps.length cap)  :
    Calls Tryz.prog 44 #[.agg #[.int .i64 k, L, P], .int .i64 (0 : Int)] w fun e w' => e = .returned (.tuple #[.int .i64 0, .int .i64 0, .bool false]) ∧ Bel w w' := by
  obtain ⟨ao, cap, rfl⟩ := hL
  obtain ⟨bo, cap2, rfl⟩ := hP
  generalize ls.length = n at *
  generalize ps.length = m at *
  go_enter Tryz.func44, Tryz.ntmps44
  go_wp2
  (try simp only [Exit.inBlock, Exit.then])
  refine bodyPost_ret (v := .tuple #[.int .i64 0, .int .i64 0, .bool false]) (by simp [results, Tryz.results44, go_sem]) rfl ?_
  exact ⟨rfl, Bel.al _ _⟩

set_option maxRecDepth 100000 in
set_option maxHeartbeats 8000000 in
theorem counted_bad1 (d : Nat) (k : Int) (ls : List (List Pt)) (ps : List Shp) (L P : Value) (w : World) (hL : ∃ ao cap, L = .slice ao ls.length cap) (hP : ∃ ao cap, P = .slice ao ps.length cap) (h1 : k < 1) :
    Calls Tryz.prog 44 #[.agg #[.int .i64 k, L, P], .int .i64 ((d : Int) + 1)] w fun e w' => e = .returned (.tuple #[.int .i64 0, .int .i64 0, .bool false]) ∧ Bel w w' := by
  obtain ⟨ao, cap, rfl⟩ := hL
  obtain ⟨bo, cap2, rfl⟩ := hP
  have hd0 : (((d : Int) + 1) == 0) = false := by simp; omega
  have g1 : decide (k < 1) = true := by simpa using h1
  clear h1
  generalize ls.length = n at *
  generalize ps.length = m at *
  go_enter Tryz.func44, Tryz.ntmps44
  go_wp2
  (try simp only [Exit.inBlock, Exit.then])
  refine bodyPost_ret (v := .tuple #[.int .i64 0, .int .i64 0, .bool false]) (by simp [results, Tryz.results44, go_sem]) rfl ?_
  exact ⟨rfl, Bel.al _ _⟩

set_option maxRecDepth 100000 in
set_option maxHeartbeats 8000000 in
theorem counted_bad2 (d : Nat) (k : Int) (ls : List (List Pt)) (ps : List Shp) (L P : Value) (w : World) (hL : ∃ ao cap, L = .slice ao ls.length cap) (hP : ∃ ao cap, P = .slice ao ps.length cap) (h1 : ¬ k < 1) (h2 : 7 < k) :
    Calls Tryz.prog 44 #[.agg #[.int .i64 k, L, P], .int .i64 ((d : Int) + 1)] w fun e w' => e = .returned (.tuple #[.int .i64 0, .int .i64 0, .bool false]) ∧ Bel w w' := by
  obtain ⟨ao, cap, rfl⟩ := hL
  obtain ⟨bo, cap2, rfl⟩ := hP
  have hd0 : (((d : Int) + 1) == 0) = false := by simp; omega
  have g1 : decide (k < 1) = false := by simpa using h1
  have g2 : decide (7 < k) = true := by simpa using h2
  clear h1 h2
  generalize ls.length = n at *
  generalize ps.length = m at *
  go_enter Tryz.func44, Tryz.ntmps44
  go_wp2
  (try simp only [Exit.inBlock, Exit.then])
  refine bodyPost_ret (v := .tuple #[.int .i64 0, .int .i64 0, .bool false]) (by simp [results, Tryz.results44, go_sem]) rfl ?_
  exact ⟨rfl, Bel.al _ _⟩

set_option maxRecDepth 100000 in
set_option maxHeartbeats 8000000 in
theorem counted_bad3 (d : Nat) (k : Int) (ls : List (List Pt)) (ps : List Shp) (L P : Value) (w : World) (hL : ∃ ao cap, L = .slice ao ls.length cap) (hP : ∃ ao cap, P = .slice ao ps.length cap) (h1 : ¬ k < 1) (h2 : ¬ 7 < k) (h3 : 40 < ls.length) :
    Calls Tryz.prog 44 #[.agg #[.int .i64 k, L, P], .int .i64 ((d : Int) + 1)] w fun e w' => e = .returned (.tuple #[.int .i64 0, .int .i64 0, .bool false]) ∧ Bel w w' := by
  obtain ⟨ao, cap, rfl⟩ := hL
  obtain ⟨bo, cap2, rfl⟩ := hP
  have hd0 : (((d : Int) + 1) == 0) = false := by simp; omega
  have g1 : decide (k < 1) = false := by simpa using h1
  have g2 : decide (7 < k) = false := by simpa using h2
  have g3 : decide ((40 : Int) < (ls.length : Int)) = true := by simp; omega
  clear h1 h2 h3
  generalize ls.length = n at *
  generalize ps.length = m at *
  go_enter Tryz.func44, Tryz.ntmps44
  go_wp2
  (try simp only [Exit.inBlock, Exit.then])
  refine bodyPost_ret (v := .tuple #[.int .i64 0, .int .i64 0, .bool false]) (by simp [results, Tryz.results44, go_sem]) rfl ?_
  exact ⟨rfl, Bel.al _ _⟩

set_option maxRecDepth 100000 in
set_option maxHeartbeats 8000000 in
theorem counted_bad4 (d : Nat) (k : Int) (ls : List (List Pt)) (ps : List Shp) (L P : Value) (w : World) (hL : ∃ ao cap, L = .slice ao ls.length cap) (hP : ∃ ao cap, P = .slice ao ps.length cap) (h1 : ¬ k < 1) (h2 : ¬ 7 < k) (h3 : ¬ 40 < ls.length) (h4 : 40 < ps.length) :
    Calls Tryz.prog 44 #[.agg #[.int .i64 k, L, P], .int .i64 ((d : Int) + 1)] w fun e w' => e = .returned (.tuple #[.int .i64 0, .int .i64 0, .bool false]) ∧ Bel w w' := by
  obtain ⟨ao, cap, rfl⟩ := hL
  obtain ⟨bo, cap2, rfl⟩ := hP
  have hd0 : (((d : Int) + 1) == 0) = false := by simp; omega
  have g1 : decide (k < 1) = false := by simpa using h1
  have g2 : decide (7 < k) = false := by simpa using h2
  have g3 : decide ((40 : Int) < (ls.length : Int)) = false := by simp; omega
  have g4 : decide ((40 : Int) < (ps.length : Int)) = true := by simp; omega
  clear h1 h2 h3 h4
  generalize ls.length = n at *
  generalize ps.length = m at *
  go_enter Tryz.func44, Tryz.ntmps44
  go_wp2
  (try simp only [Exit.inBlock, Exit.then])
  refine bodyPost_ret (v := .tuple #[.int .i64 0, .int .i64 0, .bool false]) (by simp [results, Tryz.results44, go_sem]) rfl ?_
  exact ⟨rfl, Bel.al _ _⟩

theorem wrap_sum (a b : Int) : wrap64 (wrap64 a + b) = wrap64 (a + b) := by
  unfold wrap64; omega
theorem wrap_sum2 (a b : Int) : wrap64 (wrap64 a + wrap64 b) = wrap64 (a + b) := by
  rw [wrap_sum, Int.add_comm, wrap_sum, Int.add_comm]

theorem okS_bad (d : Nat) (k : Int) (ls : List (List Pt)) (ps : List Shp) (s : Shp) (i : Nat) (hs : ps[i]? = some s) (h : (okS d s && (!(k == 6) || s.kind == 3)) = false) : okS (d + 1) (.mk k ls ps) = false := by
  have : ps.all (fun p => okS d p && (!(k == 6) || p.kind == 3)) = false := by
    rw [List.all_eq_false]
    exact ⟨s, List.mem_of_getElem? hs, by rw [h]; simp⟩
  rw [okS, this]
  simp
theorem okS_good (d : Nat) (k : Int) (ls : List (List Pt)) (ps : List Shp) (h1 : 1 ≤ k) (h2 : k ≤ 7) (h3 : ls.length ≤ 40) (h4 : ps.length ≤ 40) (h : ps.all (fun p => okS d p && (!(k == 6) || p.kind == 3)) = true) : okS (d + 1) (.mk k ls ps) = lastB k ls ps := by
  rw [okS, h]
  simp [h1, h2, h3, h4]
theorem cnt_step (d : Nat) (k : Int) (ls : List (List Pt)) (ps : List Shp) (s : Shp) (i : Nat) (hs : ps[i]? = some s) (hok : okS d s = true) (hk : (!(k == 6) || s.kind == 3) = true) {z q p3 q3 : Int} {w1 wr w3 : World}
    (hz : z = wrap64 (((ls.map List.length).sum + ((ps.take i).map (ptsN d)).sum : Nat) : Int) ∧ q = ((1 + ((ps.take i).map (partsN d)).sum : Nat) : Int) ∧ (ps.take i).all (fun p => okS d p && (!(k == 6) || p.kind == 3)) = true ∧ Bel w1 wr)
    (hp3 : p3 = wrap64 (ptsN d s)) (hq3 : q3 = partsN d s) (hb : Bel wr w3) :
    wrap64 (z + p3) = wrap64 (((ls.map List.length).sum + ((ps.take (i + 1)).map (ptsN d)).sum : Nat) : Int) ∧ q + q3 = ((1 + ((ps.take (i + 1)).map (partsN d)).sum : Nat) : Int) ∧ (ps.take (i + 1)).all (fun p => okS d p && (!(k == 6) || p.kind == 3)) = true ∧ Bel w1 w3 := by
  obtain ⟨h1, h2, h3, h4⟩ := hz
  have ht : ps.take (i + 1) = ps.take i ++ [s] := by rw [List.take_add_one, hs]; rfl
  rw [ht]
  refine ⟨?_, ?_, ?_, h4.tr hb⟩
  · rw [h1, hp3, wrap_sum2]
    congr 1
    simp
    omega
  · rw [h2, hq3]
    simp
    omega
  · rw [List.all_append, h3]
    simp [hok]
    simpa using hk

set_option maxRecDepth 100000 in
set_option maxHeartbeats 8000000 in
theorem counted_good (d dd : Nat) (k : Int) (ls : List (List Pt)) (ps : List Shp) (L P : Value) (w : World) (hL : RowAt PtsAt w L ls) (hP : PartsAt (ShpAt dd) w P ps) (h1 : ¬ k < 1) (h2 : ¬ 7 < k) (h3 : ls.length ≤ 40) (h4 : ps.length ≤ 40)
    (ih : ∀ p ∈ ps, ∀ (v : Value) (wx : World), ShpAt dd wx v p → Calls Tryz.prog 44 #[v, .int .i64 d] wx fun e w' => Cnt d p e ∧ Bel wx w') (hq : ∀ p ∈ ps, okS d p = true → partsN d p ≤ 100000000) (hd : (d : Int) ≤ 100) :
    Calls Tryz.prog 44 #[.agg #[.int .i64 k, L, P], .int .i64 ((d : Int) + 1)] w fun e w' => Cnt (d + 1) (.mk k ls ps) e ∧ Bel w w' := by
  obtain ⟨ao, cap, rfl, -, hlc⟩ := hL
  obtain ⟨bo, cap2, rfl, -, hpc⟩ := hP
  have HLC := Lib.hid hlc
  have HPC := Lib.hid hpc
  have HIH := Lib.hid ih
  have HQ := Lib.hid hq
  have hd0 : (((d : Int) + 1) == 0) = false := by simp; omega
  have g1 : decide (k < 1) = false := by simpa using h1
  have g2 : decide (7 < k) = false := by simpa using h2
  have g3 : decide ((40 : Int) < (ls.length : Int)) = false := by simp; omega
  have g4 : decide ((40 : Int) < (ps.length : Int)) = false := by simp; omega
  have H1 := Lib.hid h1
  have H2 := Lib.hid h2
  clear hlc hpc ih hq h1 h2
  go_enter Tryz.func44, Tryz.ntmps44
  go_wp2_with fail
  have hbox : (w.alloc (.cells #[.int .i64 k, .slice ao ls.length cap, .slice bo ps.length cap2] 25)).heap[w.heap.size]? = some (.cells #[.int .i64 k, .slice ao ls.length cap, .slice bo ps.length cap2] 25) := heap_alloc_new _ _
  have hb0 : Bel w (w.alloc (.cells #[.int .i64 k, .slice ao ls.length cap, .slice bo ps.length cap2] 25)) := Bel.al _ _
  have HBOX := Lib.hid hbox
  have HB0 := Lib.hid hb0
  clear hbox hb0 hd0 g1 g2 g3 g4
  generalize w.alloc (.cells #[.int .i64 k, .slice ao ls.length cap, .slice bo ps.length cap2] 25) = w1 at *
  go_loopg [7, 43] ls.length (fun g s7 s43 wr => ∃ (i : Nat) (z : Int), i ≤ ls.length ∧ g = ls.length - i ∧ s43 = .int .i64 i ∧ s7 = .int .i64 z ∧ w1 = wr ∧ Hid (z = wrap64 (((ls.take i).map List.length).sum : Nat)))
  case atStart => exact ⟨0, 0, by omega, rfl, rfl, rfl, rfl, by show _ = _; simp [wrap64]⟩
  case round =>
    obtain ⟨i, z, hi1, rfl, rfl, rfl, rfl, hz⟩ := hrel
    by_cases hlt : i < ls.length
    · obtain ⟨l, hl⟩ : ∃ l, ls[i]? = some l := ⟨_, List.getElem?_eq_getElem hlt⟩
      obtain ⟨a, x, rfl, c0, hx⟩ := HLC.out i l hl
      have c0' := HB0.out.cellOf c0
      obtain ⟨ao1, cap1, rfl⟩ := hx.slice
      have HLL := Lib.hid hl
      clear hx c0 hl
      go_wp2
      go_roundg (ls.length - (i + 1))
      case measure => omega
      case rel =>
        refine ⟨i + 1, _, by omega, rfl, by go_num, rfl, rfl, ?_⟩
        show _ = _
        rw [hz.out, List.take_add_one, HLL.out]
        rw [wrap_sum]
        congr 1
        simp
    · obtain rfl : i = ls.length := by omega
      have hkz : ¬ ((ls.length : Int) < (ls.length : Int)) := by omega
      have hz0 := hz.out
      rw [List.take_length] at hz0
      have HZ0 := Lib.hid hz0
      clear hz hz0
      have q2 : w1.cell? ⟨w.heap.size, 2, none⟩ = some (.slice bo ps.length cap2) := by simp [World.cell?, HBOX.out]
      go_wp2_with fail
      clear q2
      go_loopg [7, 8, 55] ps.length (fun g s7 s8 s55 wr => ∃ (i : Nat) (z q : Int), i ≤ ps.length ∧ g = ps.length - i ∧ s55 = .int .i64 i ∧ s7 = .int .i64 z ∧ s8 = .int .i64 q ∧ 1 ≤ q ∧ q ≤ 1 + i * 100000000 ∧ Hid (z = wrap64 (((ls.map List.length).sum + ((ps.take i).map (ptsN d)).sum : Nat) : Int) ∧ q = ((1 + ((ps.take i).map (partsN d)).sum : Nat) : Int) ∧ (ps.take i).all (fun p => okS d p && (!(k == 6) || p.kind == 3)) = true ∧ Bel w1 wr))
      case atStart => exact ⟨0, z, 1, by omega, rfl, rfl, rfl, rfl, by omega, by omega, by rw [HZ0.out]; simp, by simp, by simp, Below.refl _ _⟩
      case round =>
        obtain ⟨i, z2, q, hi2, rfl, rfl, rfl, rfl, hq1, hq2, hz⟩ := hrel
        by_cases hlt2 : i < ps.length
        · obtain ⟨s, hs⟩ : ∃ s, ps[i]? = some s := ⟨_, List.getElem?_eq_getElem hlt2⟩
          obtain ⟨a, c0, c1, c2, rfl, q0, q1, q2, hx⟩ := HPC.out i s hs
          have hbel := HB0.out.tr hz.out.2.2.2
          have q0' := hbel.cellOf q0
          have q1' := hbel.cellOf q1
          have q2' := hbel.cellOf q2
          have HX := Lib.hid (fun wx (hb : Bel w wx) => HIH.out s (List.mem_of_getElem? hs) (.agg #[c0, c1, c2]) wx (ShpAt.bel hb dd _ _ hx))
          have HQS := Lib.hid (HQ.out s (List.mem_of_getElem? hs))
          obtain ⟨k2, a1, n1, k1, a2, n2, k3, rfl, rfl, rfl, hk2⟩ : ∃ k2 a1 n1 k1 a2 n2 k3, c0 = .int .i64 k2 ∧ c1 = .slice a1 n1 k1 ∧ c2 = .slice a2 n2 k3 ∧ s.kind = k2 := by
            cases dd with
            | zero => exact hx.elim
            | succ dd =>
              obtain ⟨kk, lls, pps⟩ := s
              obtain ⟨L', P', he, ⟨a1, k1, h1, _⟩, a2, k2, h2, _⟩ := hx
              cases he
              exact ⟨kk, _, _, _, _, _, _, rfl, h1, h2, rfl⟩
          have HSS := Lib.hid hs
          have HK2 := Lib.hid hk2
          have HBEL := Lib.hid hbel
          have hbx := hz.out.2.2.2.heap HBOX.out
          have HBX := Lib.hid hbx
          clear q0 q1 q2 hx hs hk2 hbel hbx
          go_wp2_with fail
          have hb2 : Bel wr (wr.alloc (.cells #[.int .i64 k2, .slice a1 n1 k1, .slice a2 n2 k3] 25)) := Bel.al _ _
          have hbx2 : (wr.alloc (.cells #[.int .i64 k2, .slice a1 n1 k1, .slice a2 n2 k3] 25)).heap[wr.heap.size]? = some (.cells #[.int .i64 k2, .slice a1 n1 k1, .slice a2 n2 k3] 25) := heap_alloc_new _ _
          have HB2 := Lib.hid hb2
          have HBX2 := Lib.hid hbx2
          clear hb2 hbx2
          generalize wr.alloc (.cells #[.int .i64 k2, .slice a1 n1 k1, .slice a2 n2 k3] 25) = w2 at *
          refine (HX.out w2 (HBEL.out.tr HB2.out)).mono ?_
          rintro e w3 ⟨⟨p3, q3, rfl, hpq⟩, hb3⟩
          have HB3 := Lib.hid (HB2.out.tr hb3)
          have e0 : w3.cell? ⟨wr.heap.size, 0, none⟩ = some (.int .i64 k2) := by simp [World.cell?, hb3.heap HBX2.out]
          have e1 : w3.cell? ⟨w.heap.size, 0, none⟩ = some (.int .i64 k) := by simp [World.cell?, HB3.out.heap HBX.out]
          have HPQ := Lib.hid hpq
          clear hb3 hpq
          cases hok : okS d s with
          | false =>
            have HOK := Lib.hid hok
            clear hok
            go_wp2
            (try simp only [Exit.inBlock, Exit.then])
            refine bodyPost_ret (v := .tuple #[.int .i64 0, .int .i64 0, .bool false]) (by simp [results, Tryz.results44, go_sem]) rfl ⟨?_, HB0.out.tr (hz.out.2.2.2.tr HB3.out)⟩
            have hf := okS_bad d k ls ps s i HSS.out (by rw [HOK.out]; rfl)
            exact ⟨0, 0, by rw [hf], fun h => by rw [hf] at h; cases h⟩
          | true =>
            have HOK := Lib.hid hok
            obtain ⟨hp3, hq3⟩ := HPQ.out hok
            have HP3 := Lib.hid hp3
            have HQ3 := Lib.hid hq3
            have hq3' : 0 ≤ q3 ∧ q3 ≤ 100000000 := by have := HQS.out hok; omega
            obtain ⟨hq3a, hq3b⟩ := hq3'
            clear hok hp3 hq3 HPQ
            by_cases hk6 : k = 6
            · by_cases hk3 : k2 = 3
              · have t6 : (k == 6) = true := by simp [hk6]
                have t3 : (k2 == 3) = true := by simp [hk3]
                have HK6 := Lib.hid (show (!(k == 6) || s.kind == 3) = true by rw [HK2.out, t3]; simp)
                clear hk6 hk3
                go_wp2
                go_roundg (ps.length - (i + 1))
                case measure => omega
                case rel =>
                  refine ⟨i + 1, _, _, by omega, rfl, by go_num, rfl, rfl, by omega, by omega, ?_⟩
                  exact cnt_step d k ls ps s i HSS.out HOK.out HK6.out hz.out HP3.out HQ3.out HB3.out
              · have t6 : (k == 6) = true := by simp [hk6]
                have t3 : (k2 == 3) = false := by simp [hk3]
                have HK6 := Lib.hid (show (!(k == 6) || s.kind == 3) = false by rw [HK2.out, t3, t6]; rfl)
                clear hk6 hk3
                go_wp2
                (try simp only [Exit.inBlock, Exit.then])
                refine bodyPost_ret (v := .tuple #[.int .i64 0, .int .i64 0, .bool false]) (by simp [results, Tryz.results44, go_sem]) rfl ⟨?_, HB0.out.tr (hz.out.2.2.2.tr HB3.out)⟩
                have hf := okS_bad d k ls ps s i HSS.out (by rw [HK6.out]; simp)
                exact ⟨0, 0, by rw [hf], fun h => by rw [hf] at h; cases h⟩
            · have t6 : (k == 6) = false := by simp [hk6]
              have HK6 := Lib.hid (show (!(k == 6) || s.kind == 3) = true by rw [t6]; rfl)
              clear hk6
              go_wp2
              go_roundg (ps.length - (i + 1))
              case measure => omega
              case rel =>
                refine ⟨i + 1, _, _, by omega, rfl, by go_num, rfl, rfl, by omega, by omega, ?_⟩
                exact cnt_step d k ls ps s i HSS.out HOK.out HK6.out hz.out HP3.out HQ3.out HB3.out
        · obtain rfl : i = ps.length := by omega
          have hkz2 : ¬ ((ps.length : Int) < (ps.length : Int)) := by omega
          obtain ⟨hz1, hz2, hz3, hz4⟩ := hz.out
          rw [List.take_length] at hz1 hz2 hz3
          have HF := Lib.hid (show okS (d + 1) (.mk k ls ps) = lastB k ls ps ∧ z2 = wrap64 (ptsN (d + 1) (.mk k ls ps)) ∧ q = partsN (d + 1) (.mk k ls ps) ∧ Bel w wr from
            ⟨okS_good d k ls ps H1.out H2.out h3 h4 hz3, hz1, hz2, HB0.out.tr hz4⟩)
          have hbx := hz4.heap HBOX.out
          have e0 : wr.cell? ⟨w.heap.size, 0, none⟩ = some (.int .i64 k) := by simp [World.cell?, hbx]
          have e1 : wr.cell? ⟨w.heap.size, 1, none⟩ = some (.slice ao ls.length cap) := by simp [World.cell?, hbx]
          have e2 : wr.cell? ⟨w.heap.size, 2, none⟩ = some (.slice bo ps.length cap2) := by simp [World.cell?, hbx]
          have hk17 : k = 1 ∨ k = 2 ∨ k = 3 ∨ k = 4 ∨ k = 5 ∨ k = 6 ∨ k = 7 := by have := H1.out; have := H2.out; omega
          have HB0' := HF.out.2.2.2
          have HBW := Lib.hid HB0'
          clear hz hz1 hz2 hz3 hz4 hbx HB0'
          rcases hk17 with rfl | rfl | rfl | rfl | rfl | rfl | rfl
          · by_cases hl1 : ls.length = 1
            · obtain ⟨l, hl⟩ : ∃ l, ls[0]? = some l := ⟨_, List.getElem?_eq_getElem (by omega)⟩
              obtain ⟨a, x, rfl, c0, hx⟩ := HLC.out 0 l hl
              have c0' := HBW.out.cellOf c0
              rw [show a.add 0 = a from rfl] at c0'
              obtain ⟨ao1, cap1, rfl⟩ := hx.slice
              have hh : (ls.headD []).length = l.length := by cases ls with | nil => simp at hl1 | cons y ys => simp at hl; rw [hl]; rfl
              have HH := Lib.hid hh
              clear c0 hx hl hh
              by_cases hl2 : l.length = 1
              · by_cases hp0 : ps.length = 0
                · have HL1 := Lib.hid hl1
                  have l1 : ((ls.length : Int) == 1) = true := by simp; omega
                  have l1b : (0 : Int) < (ls.length : Int) := by omega
                  have l2 : ((l.length : Int) == 1) = true := by simp; omega
                  have p1 : ((ps.length : Int) == 0) = true := by rw [hp0]; rfl
                  go_wp2_with fail
                  go_quiet (fail)
                  go_wp2
                  (try simp only [Exit.inBlock, Exit.then])
                  refine bodyPost_ret (v := .tuple #[.int .i64 z2, .int .i64 q, .bool true]) (by simp [results, Tryz.results44, go_sem]) rfl ⟨⟨z2, q, ?_, fun _ => ⟨HF.out.2.1, HF.out.2.2.1⟩⟩, HBW.out.tr (Bel.dr _ _)⟩
                  rw [HF.out.1]; first | (congr; simp [lastB, *]; done) | (congr; simp [lastB, *]; have hh := HH.out; rw [List.headD_eq_head?_getD] at hh; first | omega | (intros; omega))
                · have l1 : ((ls.length : Int) == 1) = true := by simp; omega
                  have l1b : (0 : Int) < (ls.length : Int) := by omega
                  have l2 : ((l.length : Int) == 1) = true := by simp; omega
                  have p1 : ((ps.length : Int) == 0) = false := by simpa using hp0
                  go_wp2_with fail
                  go_quiet (fail)
                  go_wp2
                  (try simp only [Exit.inBlock, Exit.then])
                  refine bodyPost_ret (v := .tuple #[.int .i64 z2, .int .i64 q, .bool false]) (by simp [results, Tryz.results44, go_sem]) rfl ⟨⟨z2, q, ?_, fun _ => ⟨HF.out.2.1, HF.out.2.2.1⟩⟩, HBW.out.tr (Bel.dr _ _)⟩
                  rw [HF.out.1]; first | (congr; simp [lastB, *]; done) | (congr; simp [lastB, *]; have hh := HH.out; rw [List.headD_eq_head?_getD] at hh; first | omega | (intros; omega))
              · have l1 : ((ls.length : Int) == 1) = true := by simp; omega
                have l1b : (0 : Int) < (ls.length : Int) := by omega
                have l2 : ((l.length : Int) == 1) = false := by simp; omega
                go_wp2_with fail
                go_quiet (fail)
                go_wp2
                (try simp only [Exit.inBlock, Exit.then])
                refine bodyPost_ret (v := .tuple #[.int .i64 z2, .int .i64 q, .bool false]) (by simp [results, Tryz.results44, go_sem]) rfl ⟨⟨z2, q, ?_, fun _ => ⟨HF.out.2.1, HF.out.2.2.1⟩⟩, HBW.out.tr (Bel.dr _ _)⟩
                rw [HF.out.1]; first | (congr; simp [lastB, *]; done) | (congr; simp [lastB, *]; have hh := HH.out; rw [List.headD_eq_head?_getD] at hh; first | omega | (intros; omega))
            · have l1 : ((ls.length : Int) == 1) = false := by simp; omega
              go_wp2_with fail
              go_quiet (fail)
              go_wp2
              (try simp only [Exit.inBlock, Exit.then])
              refine bodyPost_ret (v := .tuple #[.int .i64 z2, .int .i64 q, .bool false]) (by simp [results, Tryz.results44, go_sem]) rfl ⟨⟨z2, q, ?_, fun _ => ⟨HF.out.2.1, HF.out.2.2.1⟩⟩, HBW.out.tr (Bel.dr _ _)⟩
              rw [HF.out.1]; congr; simp [lastB, *]
          · by_cases hl1 : ls.length = 1
            · by_cases hp0 : ps.length = 0
              · have l1 : ((ls.length : Int) == 1) = true := by simp; omega
                have p1 : ((ps.length : Int) == 0) = true := by rw [hp0]; rfl
                go_wp2_with fail
                go_quiet (fail)
                go_wp2
                (try simp only [Exit.inBlock, Exit.then])
                refine bodyPost_ret (v := .tuple #[.int .i64 z2, .int .i64 q, .bool true]) (by simp [results, Tryz.results44, go_sem]) rfl ⟨⟨z2, q, ?_, fun _ => ⟨HF.out.2.1, HF.out.2.2.1⟩⟩, HBW.out.tr (Bel.dr _ _)⟩
                rw [HF.out.1]; congr; simp [lastB, *]
              · have l1 : ((ls.length : Int) == 1) = true := by simp; omega
                have p1 : ((ps.length : Int) == 0) = false := by simpa using hp0
                go_wp2_with fail
                go_quiet (fail)
                go_wp2
                (try simp only [Exit.inBlock, Exit.then])
                refine bodyPost_ret (v := .tuple #[.int .i64 z2, .int .i64 q, .bool false]) (by simp [results, Tryz.results44, go_sem]) rfl ⟨⟨z2, q, ?_, fun _ => ⟨HF.out.2.1, HF.out.2.2.1⟩⟩, HBW.out.tr (Bel.dr _ _)⟩
                rw [HF.out.1]; congr; simp [lastB, *]
            · have l1 : ((ls.length : Int) == 1) = false := by simp; omega
              go_wp2_with fail
              go_quiet (fail)
              go_wp2
              (try simp only [Exit.inBlock, Exit.then])
              refine bodyPost_ret (v := .tuple #[.int .i64 z2, .int .i64 q, .bool false]) (by simp [results, Tryz.results44, go_sem]) rfl ⟨⟨z2, q, ?_, fun _ => ⟨HF.out.2.1, HF.out.2.2.1⟩⟩, HBW.out.tr (Bel.dr _ _)⟩
              rw [HF.out.1]; congr; simp [lastB, *]
          · by_cases hp0 : ps.length = 0
            · have p1 : ((ps.length : Int) == 0) = true := by rw [hp0]; rfl
              go_wp2_with fail
              go_quiet (fail)
              go_wp2
              (try simp only [Exit.inBlock, Exit.then])
              refine bodyPost_ret (v := .tuple #[.int .i64 z2, .int .i64 q, .bool true]) (by simp [results, Tryz.results44, go_sem]) rfl ⟨⟨z2, q, ?_, fun _ => ⟨HF.out.2.1, HF.out.2.2.1⟩⟩, HBW.out.tr (Bel.dr _ _)⟩
              rw [HF.out.1]; congr; simp [lastB, *]
            · have p1 : ((ps.length : Int) == 0) = false := by simpa using hp0
              go_wp2_with fail
              go_quiet (fail)
              go_wp2
              (try simp only [Exit.inBlock, Exit.then])
              refine bodyPost_ret (v := .tuple #[.int .i64 z2, .int .i64 q, .bool false]) (by simp [results, Tryz.results44, go_sem]) rfl ⟨⟨z2, q, ?_, fun _ => ⟨HF.out.2.1, HF.out.2.2.1⟩⟩, HBW.out.tr (Bel.dr _ _)⟩
              rw [HF.out.1]; congr; simp [lastB, *]
          · by_cases hl1 : ls.length = 1
            · by_cases hp0 : ps.length = 0
              · have l1 : ((ls.length : Int) == 1) = true := by simp; omega
                have p1 : ((ps.length : Int) == 0) = true := by rw [hp0]; rfl
                go_wp2_with fail
                go_quiet (fail)
                go_wp2
                (try simp only [Exit.inBlock, Exit.then])
                refine bodyPost_ret (v := .tuple #[.int .i64 z2, .int .i64 q, .bool true]) (by simp [results, Tryz.results44, go_sem]) rfl ⟨⟨z2, q, ?_, fun _ => ⟨HF.out.2.1, HF.out.2.2.1⟩⟩, HBW.out.tr (Bel.dr _ _)⟩
                rw [HF.out.1]; congr; simp [lastB, *]
              · have l1 : ((ls.length : Int) == 1) = true := by simp; omega
                have p1 : ((ps.length : Int) == 0) = false := by simpa using hp0
                go_wp2_with fail
                go_quiet (fail)
                go_wp2
                (try simp only [Exit.inBlock, Exit.then])
                refine bodyPost_ret (v := .tuple #[.int .i64 z2, .int .i64 q, .bool false]) (by simp [results, Tryz.results44, go_sem]) rfl ⟨⟨z2, q, ?_, fun _ => ⟨HF.out.2.1, HF.out.2.2.1⟩⟩, HBW.out.tr (Bel.dr _ _)⟩
                rw [HF.out.1]; congr; simp [lastB, *]
            · have l1 : ((ls.length : Int) == 1) = false := by simp; omega
              go_wp2_with fail
              go_quiet (fail)
              go_wp2
              (try simp only [Exit.inBlock, Exit.then])
              refine bodyPost_ret (v := .tuple #[.int .i64 z2, .int .i64 q, .bool false]) (by simp [results, Tryz.results44, go_sem]) rfl ⟨⟨z2, q, ?_, fun _ => ⟨HF.out.2.1, HF.out.2.2.1⟩⟩, HBW.out.tr (Bel.dr _ _)⟩
              rw [HF.out.1]; congr; simp [lastB, *]
          · by_cases hp0 : ps.length = 0
            · have p1 : ((ps.length : Int) == 0) = true := by rw [hp0]; rfl
              go_wp2_with fail
              go_quiet (fail)
              go_wp2
              (try simp only [Exit.inBlock, Exit.then])
              refine bodyPost_ret (v := .tuple #[.int .i64 z2, .int .i64 q, .bool true]) (by simp [results, Tryz.results44, go_sem]) rfl ⟨⟨z2, q, ?_, fun _ => ⟨HF.out.2.1, HF.out.2.2.1⟩⟩, HBW.out.tr (Bel.dr _ _)⟩
              rw [HF.out.1]; congr; simp [lastB, *]
            · have p1 : ((ps.length : Int) == 0) = false := by simpa using hp0
              go_wp2_with fail
              go_quiet (fail)
              go_wp2
              (try simp only [Exit.inBlock, Exit.then])
              refine bodyPost_ret (v := .tuple #[.int .i64 z2, .int .i64 q, .bool false]) (by simp [results, Tryz.results44, go_sem]) rfl ⟨⟨z2, q, ?_, fun _ => ⟨HF.out.2.1, HF.out.2.2.1⟩⟩, HBW.out.tr (Bel.dr _ _)⟩
              rw [HF.out.1]; congr; simp [lastB, *]
          · by_cases hl0 : ls.length = 0
            · have p1 : ((ls.length : Int) == 0) = true := by rw [hl0]; rfl
              go_wp2_with fail
              go_quiet (fail)
              go_wp2
              (try simp only [Exit.inBlock, Exit.then])
              refine bodyPost_ret (v := .tuple #[.int .i64 z2, .int .i64 q, .bool true]) (by simp [results, Tryz.results44, go_sem]) rfl ⟨⟨z2, q, ?_, fun _ => ⟨HF.out.2.1, HF.out.2.2.1⟩⟩, HBW.out.tr (Bel.dr _ _)⟩
              rw [HF.out.1]; congr; simp [lastB, *]
            · have p1 : ((ls.length : Int) == 0) = false := by simpa using hl0
              go_wp2_with fail
              go_quiet (fail)
              go_wp2
              (try simp only [Exit.inBlock, Exit.then])
              refine bodyPost_ret (v := .tuple #[.int .i64 z2, .int .i64 q, .bool false]) (by simp [results, Tryz.results44, go_sem]) rfl ⟨⟨z2, q, ?_, fun _ => ⟨HF.out.2.1, HF.out.2.2.1⟩⟩, HBW.out.tr (Bel.dr _ _)⟩
              rw [HF.out.1]; congr; simp [lastB, *]
          · by_cases hl0 : ls.length = 0
            · have p1 : ((ls.length : Int) == 0) = true := by rw [hl0]; rfl
              go_wp2_with fail
              go_quiet (fail)
              go_wp2
              (try simp only [Exit.inBlock, Exit.then])
              refine bodyPost_ret (v := .tuple #[.int .i64 z2, .int .i64 q, .bool true]) (by simp [results, Tryz.results44, go_sem]) rfl ⟨⟨z2, q, ?_, fun _ => ⟨HF.out.2.1, HF.out.2.2.1⟩⟩, HBW.out.tr (Bel.dr _ _)⟩
              rw [HF.out.1]; congr; simp [lastB, *]
            · have p1 : ((ls.length : Int) == 0) = false := by simpa using hl0
              go_wp2_with fail
              go_quiet (fail)
              go_wp2
              (try simp only [Exit.inBlock, Exit.then])
              refine bodyPost_ret (v := .tuple #[.int .i64 z2, .int .i64 q, .bool false]) (by simp [results, Tryz.results44, go_sem]) rfl ⟨⟨z2, q, ?_, fun _ => ⟨HF.out.2.1, HF.out.2.2.1⟩⟩, HBW.out.tr (Bel.dr _ _)⟩
              rw [HF.out.1]; congr; simp [lastB, *]
end Go.Proofs.YtghajgdiaopioaaGreatDoor
