/- Walks: impl.geometry, the other kinds. -/
import Derived.Test.YtghajgdiaopioaaGreatDoorW16
set_option linter.unusedVariables false
set_option linter.unusedSimpArgs false

namespace Go.Proofs.YtghajgdiaopioaaGreatDoor
open Go.RowKit
attribute [local go_sem] run_store_float run_store_iface run_store_nilIface

set_option maxRecDepth 4096 in
set_option maxHeartbeats 4000000 in
theorem geom_line (P : Value) (L : Value) (l : List Pt) (w : World) (hl : RowAt PtsAt w L [l]) (hs : l.length ≤ 1000000000) :
    Calls Tryz.prog 34 #[.agg #[.int .i64 2, L, P]] w fun e w' => (∃ x, e = .returned (.iface 65 x) ∧ RdPts w' x l) ∧ Bel w w' := by
  have HL := Lib.hid (fun wx (hb : Bel w wx) => first_calls 2 L P l [] wx (hl.bel hb fun x d h => h.bel hb) (by simp))
  clear hl
  go_enter Tryz.func34, Tryz.ntmps34
  go_wp2_with fail
  have hb : Bel w (w.alloc (.cells #[.int .i64 2, L, P] 25)) := Bel.al _ _
  have HB := Lib.hid hb
  clear hb
  generalize w.alloc (.cells #[.int .i64 2, L, P] 25) = w0 at *
  refine (HL.out w0 HB.out).mono ?_
  rintro e w1 ⟨x, rfl, hx, hb1⟩
  have HB1 := Lib.hid (HB.out.tr hb1)
  have HX2 := Lib.hid (pointsOf_calls x l w1 hx hs)
  clear hb1 hx
  go_wp2_with fail
  refine HX2.out.mono ?_
  rintro e w3 ⟨y, rfl, hy, hb3⟩
  have HB3 := Lib.hid (HB1.out.tr hb3)
  have HY := Lib.hid hy
  clear hy hb3
  go_wp2
  go_ret
  exact ⟨⟨_, rfl, HY.out⟩, HB3.out⟩

set_option maxRecDepth 4096 in
set_option maxHeartbeats 4000000 in
theorem geom_mpt (P : Value) (L : Value) (l : List Pt) (w : World) (hl : RowAt PtsAt w L [l]) (hs : l.length ≤ 1000000000) :
    Calls Tryz.prog 34 #[.agg #[.int .i64 4, L, P]] w fun e w' => (∃ x, e = .returned (.iface 72 x) ∧ RdPts w' x l) ∧ Bel w w' := by
  have HL := Lib.hid (fun wx (hb : Bel w wx) => first_calls 4 L P l [] wx (hl.bel hb fun x d h => h.bel hb) (by simp))
  clear hl
  go_enter Tryz.func34, Tryz.ntmps34
  go_wp2_with fail
  have hb : Bel w (w.alloc (.cells #[.int .i64 4, L, P] 25)) := Bel.al _ _
  have HB := Lib.hid hb
  clear hb
  generalize w.alloc (.cells #[.int .i64 4, L, P] 25) = w0 at *
  refine (HL.out w0 HB.out).mono ?_
  rintro e w1 ⟨x, rfl, hx, hb1⟩
  have HB1 := Lib.hid (HB.out.tr hb1)
  have HX2 := Lib.hid (pointsOf_calls x l w1 hx hs)
  clear hb1 hx
  go_wp2_with fail
  refine HX2.out.mono ?_
  rintro e w3 ⟨y, rfl, hy, hb3⟩
  have HB3 := Lib.hid (HB1.out.tr hb3)
  have HY := Lib.hid hy
  clear hy hb3
  go_wp2
  go_ret
  exact ⟨⟨_, rfl, HY.out⟩, HB3.out⟩

set_option maxRecDepth 4096 in
set_option maxHeartbeats 4000000 in
theorem geom_poly (P : Value) (L : Value) (ls : List (List Pt)) (w : World) (hl : RowAt PtsAt w L ls) (hs : ls.length ≤ 1000000000) (hs2 : ∀ l ∈ ls, l.length ≤ 1000000000) :
    Calls Tryz.prog 34 #[.agg #[.int .i64 3, L, P]] w fun e w' => (∃ x, e = .returned (.iface 69 x) ∧ RdRow 117 RdPts w' x ls) ∧ Bel w w' := by
  have HL := Lib.hid (fun wx (hb : Bel w wx) => polygonOf_calls 3 L P ls wx (hl.bel hb fun x d h => h.bel hb) hs hs2)
  clear hl
  go_enter Tryz.func34, Tryz.ntmps34
  go_wp2_with fail
  have hb : Bel w (w.alloc (.cells #[.int .i64 3, L, P] 25)) := Bel.al _ _
  have HB := Lib.hid hb
  clear hb
  generalize w.alloc (.cells #[.int .i64 3, L, P] 25) = w0 at *
  refine (HL.out w0 HB.out).mono ?_
  rintro e w1 ⟨x, rfl, hx, hb1⟩
  have HB1 := Lib.hid (HB.out.tr hb1)
  have HX := Lib.hid hx
  clear hb1 hx
  go_wp2
  go_ret
  exact ⟨⟨_, rfl, HX.out⟩, HB1.out⟩

set_option maxRecDepth 4096 in
set_option maxHeartbeats 4000000 in
theorem geom_mline (L P : Value) (ls : List (List Pt)) (w : World) (hl : RowAt PtsAt w L ls) (hs : ls.length ≤ 1000000000) (hs2 : ∀ l ∈ ls, l.length ≤ 1000000000) :
    Calls Tryz.prog 34 #[.agg #[.int .i64 5, L, P]] w fun e w' => (∃ x, e = .returned (.iface 76 x) ∧ RdRow 65 RdPts w' x ls) ∧ Bel w w' := by
  obtain ⟨i0, hi, hz0, hz1, hz2⟩ := info_parts info65
  obtain ⟨ao, cap, rfl, -, hc⟩ := hl
  have HC := Lib.hid hc
  have HS2 := Lib.hid hs2
  clear hc hs2
  go_enter Tryz.func34, Tryz.ntmps34
  go_wp2_with fail
  go_loopg [3, 50] ls.length (fun g s3 s50 wr => ∃ (i : Nat) (xs : List Value), i ≤ ls.length ∧ g = ls.length - i ∧ s50 = .int .i64 i ∧ wr.ownsRow w.heap.size 65 1 s3 i xs ∧ Each RdPts wr xs (ls.take i) ∧ Bel w wr)
  case atStart => exact ⟨0, [], by omega, rfl, rfl, ⟨by simp, .inr ⟨w.heap.size + 1, 0, #[], by simp, Nat.le_succ _, heap_alloc2 _ _ _, Nat.le_refl _, Nat.zero_le _, by simp, by simp⟩⟩, .nil, (Bel.al _ _).tr (Bel.al _ _)⟩
  case round =>
    obtain ⟨i, xs, hi1, rfl, rfl, hown, heach, hbel⟩ := hrel
    by_cases hlt : i < ls.length
    · obtain ⟨p, hp⟩ : ∃ p, ls[i]? = some p := ⟨_, List.getElem?_eq_getElem hlt⟩
      obtain ⟨a, x, rfl, c0, hx⟩ := HC.out i p hp
      have c0' := hbel.cellOf c0
      have hpl := HS2.out p (List.mem_of_getElem? hp)
      have HX := Lib.hid (pointsOf_calls x p wr (hx.bel hbel) hpl)
      have HOWN := Lib.hid hown
      have HBEL := Lib.hid hbel
      have HEACH := Lib.hid heach
      have hpa := Lib.hid hp
      clear hown hbel c0 hp heach hx hpl
      go_wp2_with (first | (go_at_call 63; refine HX.out.mono ?_; rintro e w1 ⟨y, rfl, hy, hb1⟩; obtain ⟨ao1, cap1, rfl⟩ := own_slice hy; have HY := Lib.hid hy; have HB1 := Lib.hid hb1; clear hy hb1) | (at_builtin; refine wpList_append1 _ [_] 65 rfl (.tmp 54) (.tmp 57) 76 rfl w.heap.size i0 (.slice none 0 0) 1 24 Tryz.underlying76 hi hz0 hz1 hz2 rfl (by decide) _ i xs rfl (ownsRow_bel HOWN.out HB1.out) _ _ rfl rfl rfl ?_ ?_ ?_ ?_ ?_))
      · exact fun u hu => by simp at hu; subst hu; rfl
      · omega
      · unfold maxLen; omega
      · exact Nat.le_trans HBEL.out.size HB1.out.size
      · intro v' w' h2 h3
        have H2 := Lib.hid h2
        have H3 := Lib.hid h3
        clear h2 h3
        go_wp2
        go_roundg (ls.length - (i + 1))
        case measure => omega
        case rel =>
          have hT : TKept K61 w1 w' := fun g cur e he hg => grown_heap H3.out hg (own_ne (ownsRow_bel HOWN.out HB1.out) hg (by rw [he]; decide))
          refine ⟨i + 1, xs ++ [_], by omega, rfl, by go_num, H2.out, ?_, ?_⟩
          · rw [List.take_add_one, hpa.out]
            exact .snoc (HEACH.out.keep fun xx dd hh => RdPts.keep hh ((TKept.of_bel HB1.out).tr hT)) (RdPts.keep HY.out hT)
          · refine (HBEL.out.tr HB1.out).trans (Below.grown (Below.refl _ _) H3.out (Nat.le_trans HBEL.out.size HB1.out.size) ?_)
            intro k hk
            exact (HOWN.out.lt k hk).1
    · obtain rfl : i = ls.length := by omega
      have hkz : ¬ ((ls.length : Int) < (ls.length : Int)) := by omega
      have HOWN := Lib.hid hown
      have HBEL := Lib.hid hbel
      have HEACH := Lib.hid heach
      clear hown hbel heach
      go_wp2
      go_ret
      have := HEACH.out
      rw [List.take_length] at this
      exact ⟨⟨_, rfl, _, ownsRow_base HOWN.out (Nat.zero_le _), this⟩, HBEL.out⟩
end Go.Proofs.YtghajgdiaopioaaGreatDoor

/- Walks: impl.geometry of polygons and of mixed ones. -/
namespace Go.Proofs.YtghajgdiaopioaaGreatDoor
open Go.RowKit
attribute [local go_sem] run_store_float run_store_iface run_store_nilIface

theorem RdRow.mono' {δ : Type} {Te : TypeId} {R : World → Value → δ → Prop} {w w' : World} (hR : ∀ x d, R w x d → R w' x d) (hT : TKept (fun e => e = Te) w w') {x : Value} {ds : List δ} (h : RdRow Te R w x ds) : RdRow Te R w' x ds := rdRow_keep hR hT h

set_option maxRecDepth 4096 in
set_option maxHeartbeats 8000000 in
theorem geom_mpoly (d : Nat) (L P : Value) (pls : List (List (List Pt))) (w : World) (hl : PartsAt (ShpAt d) w P (pls.map fun ls => .mk 3 ls [])) (hs : pls.length ≤ 1000000000) (hs2 : ∀ ls ∈ pls, ls.length ≤ 1000000000 ∧ ∀ l ∈ ls, l.length ≤ 1000000000) :
    Calls Tryz.prog 34 #[.agg #[.int .i64 6, L, P]] w fun e w' => (∃ x, e = .returned (.iface 80 x) ∧ RdRow 69 RdRings w' x pls) ∧ Bel w w' := by
  obtain ⟨i0, hi, hz0, hz1, hz2⟩ := info_parts info69
  obtain ⟨ao, cap, rfl, -, hc⟩ := hl
  rw [List.length_map]
  have HC := Lib.hid hc
  have HS2 := Lib.hid hs2
  clear hc hs2
  go_enter Tryz.func34, Tryz.ntmps34
  go_wp2_with fail
  go_loopg [6, 68] pls.length (fun g s6 s68 wr => ∃ (i : Nat) (xs : List Value), i ≤ pls.length ∧ g = pls.length - i ∧ s68 = .int .i64 i ∧ wr.ownsRow w.heap.size 69 1 s6 i xs ∧ Each RdRings wr xs (pls.take i) ∧ Bel w wr)
  case atStart => exact ⟨0, [], by omega, rfl, rfl, ⟨by simp, .inr ⟨w.heap.size + 1, 0, #[], by simp, Nat.le_succ _, heap_alloc2 _ _ _, Nat.le_refl _, Nat.zero_le _, by simp, by simp⟩⟩, .nil, (Bel.al _ _).tr (Bel.al _ _)⟩
  case round =>
    obtain ⟨i, xs, hi1, rfl, rfl, hown, heach, hbel⟩ := hrel
    by_cases hlt : i < pls.length
    · obtain ⟨p, hp⟩ : ∃ p, pls[i]? = some p := ⟨_, List.getElem?_eq_getElem hlt⟩
      obtain ⟨a, c0, c1, c2, rfl, q0, q1, q2, hx⟩ := HC.out i (.mk 3 p []) (by rw [List.getElem?_map, hp]; rfl)
      cases d with
      | zero => exact hx.elim
      | succ d =>
        obtain ⟨L', P', he, hL, a2, k2, hP, -⟩ := hx
        cases he
        obtain ⟨a1, k1, rfl⟩ := hL.slice
        subst hP
        have q0' := hbel.cellOf q0
        have q1' := hbel.cellOf q1
        have q2' := hbel.cellOf q2
        obtain ⟨hpl, hpl2⟩ := HS2.out p (List.mem_of_getElem? hp)
        have HX := Lib.hid (fun wx (hb : Bel w wx) => polygonOf_calls 3 (.slice a1 p.length k1) (.slice a2 ([] : List Shp).length k2) p wx (hL.bel hb fun x d h => h.bel hb) hpl hpl2)
        have HOWN := Lib.hid hown
        have HBEL := Lib.hid hbel
        have HEACH := Lib.hid heach
        have hpa := Lib.hid hp
        clear hown hbel q0 q1 q2 hp heach hL hpl hpl2
        go_wp2_with fail
        have hb2 : Bel wr (wr.alloc (.cells #[.int .i64 3, .slice a1 p.length k1, .slice a2 ([] : List Shp).length k2] 25)) := Bel.al _ _
        have HB2 := Lib.hid hb2
        clear hb2
        generalize wr.alloc (.cells #[.int .i64 3, .slice a1 p.length k1, .slice a2 ([] : List Shp).length k2] 25) = w0 at *
        refine (HX.out w0 (HBEL.out.tr HB2.out)).mono ?_
        rintro e w1 ⟨y, rfl, hy, hb1⟩
        obtain ⟨ys, hy1, hy2⟩ := hy
        obtain ⟨ao1, cap1, rfl⟩ := own_slice hy1
        have HY := Lib.hid (show RdRings w1 _ p from ⟨ys, hy1, hy2⟩)
        have HB1 := Lib.hid (HB2.out.tr hb1)
        clear hy1 hy2 hb1
        go_wp2_with (at_builtin; refine wpList_append1 _ [_] 69 rfl (.tmp 72) (.tmp 75) 80 rfl w.heap.size i0 (.slice none 0 0) 1 24 Tryz.underlying80 hi hz0 hz1 hz2 rfl (by decide) _ i xs rfl (ownsRow_bel HOWN.out HB1.out) _ _ rfl rfl rfl ?_ ?_ ?_ ?_ ?_)
        · exact fun u hu => by simp at hu; subst hu; rfl
        · omega
        · unfold maxLen; omega
        · exact Nat.le_trans HBEL.out.size HB1.out.size
        · intro v' w' h2 h3
          have H2 := Lib.hid h2
          have H3 := Lib.hid h3
          clear h2 h3
          go_wp2
          go_roundg (pls.length - (i + 1))
          case measure => omega
          case rel =>
            have hT : TKept K117 w1 w' := fun g cur e he hg => grown_heap H3.out hg (own_ne (ownsRow_bel HOWN.out HB1.out) hg (by rcases he with rfl | rfl <;> decide))
            refine ⟨i + 1, xs ++ [_], by omega, rfl, by go_num, H2.out, ?_, ?_⟩
            · rw [List.take_add_one, hpa.out]
              exact .snoc (HEACH.out.keep fun xx dd hh => RdRings.keep hh ((TKept.of_bel HB1.out).tr hT)) (RdRings.keep HY.out hT)
            · refine (HBEL.out.tr HB1.out).trans (Below.grown (Below.refl _ _) H3.out (Nat.le_trans HBEL.out.size HB1.out.size) ?_)
              intro k hk
              exact (HOWN.out.lt k hk).1
    · obtain rfl : i = pls.length := by omega
      have hkz : ¬ ((pls.length : Int) < (pls.length : Int)) := by omega
      have HOWN := Lib.hid hown
      have HBEL := Lib.hid hbel
      have HEACH := Lib.hid heach
      clear hown hbel heach
      go_wp2
      go_ret
      have := HEACH.out
      rw [List.take_length] at this
      exact ⟨⟨_, rfl, _, ownsRow_base HOWN.out (Nat.zero_le _), this⟩, HBEL.out⟩

set_option maxRecDepth 4096 in
set_option maxHeartbeats 8000000 in
theorem geom_coll (d dg : Nat) (L P : Value) (gs : List Geo) (f : Geo → Shp) (w : World) (hl : PartsAt (ShpAt d) w P (gs.map f)) (hs : gs.length ≤ 1000000000)
    (hg : ∀ g ∈ gs, ∀ (v : Value) (wx : World), ShpAt d wx v (f g) → Calls Tryz.prog 34 #[v] wx fun e w' => ∃ x, e = .returned x ∧ RdGeo (fun k => wx.heap.size ≤ k) dg w' x g ∧ Bel wx w') :
    Calls Tryz.prog 34 #[.agg #[.int .i64 7, L, P]] w fun e w' => (∃ x, e = .returned (.iface 84 x) ∧ (∀ k, x.ownBlock = some k → w.heap.size ≤ k) ∧ RdRow 52 (RdGeo (fun k => w.heap.size ≤ k) dg) w' x gs) ∧ Bel w w' := by
  obtain ⟨i0, hi, hz0, hz1, hz2⟩ := info_parts info52
  obtain ⟨ao, cap, rfl, -, hc⟩ := hl
  rw [List.length_map]
  have HC := Lib.hid hc
  have HG := Lib.hid hg
  clear hc hg
  go_enter Tryz.func34, Tryz.ntmps34
  go_wp2_with fail
  go_loopg [9, 86] gs.length (fun g s9 s86 wr => ∃ (i : Nat) (xs : List Value), i ≤ gs.length ∧ g = gs.length - i ∧ s86 = .int .i64 i ∧ Hid ((gs.take i).length = i ∧ wr.ownsRow w.heap.size 52 1 s9 (gs.take i).length xs ∧ Each (RdGeo (fun k => w.heap.size ≤ k ∧ some k ≠ s9.ownBlock) dg) wr xs (gs.take i) ∧ Bel w wr))
  case atStart => exact ⟨0, [], by omega, rfl, rfl, rfl, ⟨by simp, .inr ⟨w.heap.size + 1, 0, #[], by simp, Nat.le_succ _, heap_alloc2 _ _ _, Nat.le_refl _, Nat.zero_le _, by simp, by simp⟩⟩, .nil, (Bel.al _ _).tr (Bel.al _ _)⟩
  case round =>
    obtain ⟨i, xs, hi1, rfl, rfl, hh⟩ := hrel
    by_cases hlt : i < gs.length
    · obtain ⟨htl, hown, heach, hbel⟩ := hh.out
      obtain ⟨p, hp⟩ : ∃ p, gs[i]? = some p := ⟨_, List.getElem?_eq_getElem hlt⟩
      obtain ⟨a, c0, c1, c2, rfl, q0, q1, q2, hx⟩ := HC.out i (f p) (by rw [List.getElem?_map, hp]; rfl)
      have q0' := hbel.cellOf q0
      have q1' := hbel.cellOf q1
      have q2' := hbel.cellOf q2
      have HX := Lib.hid (fun wx (hb : Bel w wx) => HG.out p (List.mem_of_getElem? hp) (.agg #[c0, c1, c2]) wx (ShpAt.bel hb d _ _ hx))
      have hsh : ∃ k L' P', c0 = .int .i64 k ∧ c1 = L' ∧ c2 = P' := by
        cases d with
        | zero => exact hx.elim
        | succ d =>
          revert hx
          generalize f p = sh
          intro hx
          obtain ⟨k, ls, ps⟩ := sh
          obtain ⟨L', P', he, _⟩ := hx
          cases he
          exact ⟨k, _, _, rfl, rfl, rfl⟩
      have hsl : (∃ a1 n1 k1, c1 = .slice a1 n1 k1) ∧ ∃ a2 n2 k2, c2 = .slice a2 n2 k2 := by
        cases d with
        | zero => exact hx.elim
        | succ d =>
          revert hx
          generalize f p = sh
          intro hx
          obtain ⟨k, ls, ps⟩ := sh
          obtain ⟨L', P', he, ⟨a1, k1, h1, _⟩, a2, k2, h2, _⟩ := hx
          cases he
          exact ⟨⟨_, _, _, h1⟩, _, _, _, h2⟩
      obtain ⟨⟨a1, n1, k1, rfl⟩, a2, n2, k2, rfl⟩ := hsl
      obtain ⟨k, _, _, rfl, rfl, rfl⟩ := hsh
      have HOWN := Lib.hid hown
      have HBEL := Lib.hid hbel
      have HEACH := Lib.hid heach
      have HTL := Lib.hid htl
      have hpa := Lib.hid hp
      clear hown hbel q0 q1 q2 hp heach hx hh htl
      go_wp2_with fail
      have hb2 : Bel wr (wr.alloc (.cells #[.int .i64 k, .slice a1 n1 k1, .slice a2 n2 k2] 25)) := Bel.al _ _
      have HB2 := Lib.hid hb2
      clear hb2
      generalize wr.alloc (.cells #[.int .i64 k, .slice a1 n1 k1, .slice a2 n2 k2] 25) = w0 at *
      refine (HX.out w0 (HBEL.out.tr HB2.out)).mono ?_
      rintro e w1 ⟨y, rfl, hy, hb1⟩
      obtain ⟨T, x, rfl⟩ := hy.iface
      have HY := Lib.hid (RdGeo.mono (A' := fun k => wr.heap.size ≤ k) (fun k _ h => Nat.le_trans HB2.out.size h) _ _ _ hy)
      have HB1 := Lib.hid (HB2.out.tr hb1)
      clear hy hb1
      go_wp2_with (at_builtin; refine wpList_append1_at _ [_] 52 rfl (.tmp 94) (.tmp 96) 84 rfl w.heap.size i0 .nilIface 1 16 Tryz.underlying84 hi hz0 hz1 hz2 rfl (by decide) _ (gs.take i).length xs rfl (ownsRow_bel HOWN.out HB1.out) _ _ rfl rfl rfl ?_ ?_ ?_ ?_ ?_)
      · exact fun u hu => by simp at hu; subst hu; rfl
      · rw [HTL.out]; omega
      · rw [HTL.out]; unfold maxLen; omega
      · exact Nat.le_trans HBEL.out.size HB1.out.size
      · intro v' w' h2 h3 h5
        have H2 := Lib.hid h2
        have H3 := Lib.hid h3
        have H5 := Lib.hid h5
        clear h2 h3 h5
        go_wp2
        go_roundg (gs.length - (i + 1))
        case measure => omega
        case rel =>
          have htk : gs.take (i + 1) = gs.take i ++ [p] := by rw [List.take_add_one, hpa.out]; rfl
          refine ⟨i + 1, xs ++ [.iface T x], by omega, rfl, by go_num, ?_⟩
          rw [htk]
          refine ⟨?_, ?_, geoRow_snoc HOWN.out HEACH.out HB1.out HY.out HBEL.out.size H3.out H5.out, ?_⟩
          · rw [List.length_append, HTL.out]; rfl
          · rw [List.length_append, HTL.out]; exact H2.out
          · refine (HBEL.out.tr HB1.out).trans (Below.grown (Below.refl _ _) H3.out (Nat.le_trans HBEL.out.size HB1.out.size) ?_)
            intro k hk
            exact (HOWN.out.lt k hk).1
    · obtain rfl : i = gs.length := by omega
      have hkz : ¬ ((gs.length : Int) < (gs.length : Int)) := by omega
      go_wp2
      go_ret
      obtain ⟨htl, hown, heach, hbel⟩ := hh.out
      rw [List.take_length] at hown heach
      exact ⟨⟨_, rfl, fun g hg => (hown.lt g hg).1, xs, ownsRow_base hown (Nat.zero_le _), heach.mono fun x dd h => RdGeo.mono (fun k hk h => h.1) dg x dd h⟩, hbel⟩
end Go.Proofs.YtghajgdiaopioaaGreatDoor
