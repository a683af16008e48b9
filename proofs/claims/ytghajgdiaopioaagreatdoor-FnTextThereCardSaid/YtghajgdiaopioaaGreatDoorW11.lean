/- Walks: rows are begun; a point in brackets; a polygon's text is read, and the polygon appended to a captured row. -/
import Derived.Test.YtghajgdiaopioaaGreatDoorW05
import Derived.Test.YtghajgdiaopioaaGreatDoorW10
set_option linter.unusedVariables false
set_option linter.unusedSimpArgs false

namespace Go.Proofs.YtghajgdiaopioaaGreatDoor
open Go.RowKit
attribute [local go_sem] run_store_float run_store_iface run_store_nilIface

/-- A captured slice (block b, type To), whatever it holds; of what there was nothing has turned. -/
def CapInv (G : Errs) (w0 : World) (b : Nat) (To : TypeId) (w : World) : Prop :=
  Env G w0 ∧ Bel w0 w ∧ w0.heap.size ≤ b ∧ ∃ v, w.heap[b]? = some (Obj.cells #[v] To (0, 0))
theorem CapInv.bel {G : Errs} {w0 : World} {b : Nat} {To : TypeId} {w w' : World} (h : CapInv G w0 b To w) (k : Bel w w') : CapInv G w0 b To w' := by
  obtain ⟨h1, h2, h3, v, h4⟩ := h
  exact ⟨h1, h2.tr k, h3, v, k.heap h4⟩

/-- A slice of rings, as it is read. -/
def RdRings (w : World) (x : Value) (rings : List (List Pt)) : Prop := ∃ xs, w.ownsRow 0 117 1 x rings.length xs ∧ Each RdPts w xs rings
def K117 (e : TypeId) : Prop := e = 61 ∨ e = 117
theorem RdRings.keep {w w' : World} {x : Value} {rings : List (List Pt)} (h : RdRings w x rings) (k : TKept K117 w w') : RdRings w' x rings := by
  obtain ⟨xs, h1, h2⟩ := h
  exact ⟨xs, ownsRow_tkept h1 k (.inr rfl), h2.keep fun x d h => RdPts.keep h (k.mono fun e he => .inl he)⟩
theorem enter81' : ∀ args w, (callFunc 81 args).run Tryz.prog w = .ok (.enter 81 args) w := fun _ _ => by simp [go_sem]
theorem enter91 : ∀ args w, (callFunc 91 args).run Tryz.prog w = .ok (.enter 91 args) w := fun _ _ => by simp [go_sem]
theorem enter92 : ∀ args w, (callFunc 92 args).run Tryz.prog w = .ok (.enter 92 args) w := fun _ _ => by simp [go_sem]

/-- One polygon more, or (none) an error. -/
def PolyStep (G : Errs) (polys : List (List (List Pt))) (l : List UInt8) (r : Option (List (List (List Pt)))) : Prop :=
  polys.length < 1000000 ∧ ((brkL l = none ∧ r = none) ∨ ∃ q o, brkL l = some q ∧ Run (RingStep G) [] (rxPieces q false) o ∧ r = o.map fun rings => polys ++ [rings])

/-- One point in brackets more, or (none) an error. -/
def BrkPtStep (G : Errs) (pts : List Pt) (l : List UInt8) (r : Option (List Pt)) : Prop :=
  pts.length < 1000000 ∧ ((brkL l = none ∧ r = none) ∨ ∃ q o, brkL l = some q ∧ PtReads G q o ∧ r = o.map fun p => pts ++ [p])

set_option maxHeartbeats 2000000 in
theorem set82_calls {δ : Type} (R : World → Value → δ → Prop) (G : Errs) (w0 : World) (b n : Nat) (w : World) (hI : CapInv G w0 b 69 w) (hn : n ≤ 1000000001) :
    Calls Tryz.prog 82 #[.int .i64 n, .pointer (some ⟨b, 0, none⟩)] w fun e w' => e = .returned (.tuple #[]) ∧ RowInv G w0 b 69 117 R [] w' ∧ IntsKept w w' := by
  obtain ⟨i0, hi, hz0, hz1, hz2⟩ := info_parts info117
  obtain ⟨hE, hbel, hb, v, hv⟩ := hI
  have HBEL := Lib.hid hbel
  have HV := Lib.hid hv
  have HE := Lib.hid hE
  have hbw := lt_heap hv
  clear hbel hv hE
  go_enter Tryz.func82, Tryz.ntmps82
  go_wp2_with (at_make; refine wpList_make_own _ rfl _ _ 69 rfl w.heap.size 117 i0 (.slice none 0 0) 1 Tryz.underlying69 hi hz0 hz1 .i64 .i64 _ n rfl rfl rfl (by rw [hz2]; omega) (by unfold maxLen; omega) (Nat.le_refl _) ?_)
  intro w1 how hgw
  have hb1 : Bel w w1 := ⟨hgw.os, hgw.tape, hgw.output, hgw.size, fun k hk => hgw.block k hk (by simp)⟩
  have hv1 := hb1.heap HV.out
  have c1 : w1.cell? ⟨b, 0, none⟩ = some v := by simp [World.cell?, hv1]
  have f1 : w1.frozen? ⟨b, 0, none⟩ = false := by simp [World.frozen?, hv1]
  have HOW := Lib.hid how
  have HB1 := Lib.hid hb1
  have HV1 := Lib.hid hv1
  clear how hgw hb1 hv1
  go_wp2
  first | go_end0 | (refine bodyPost_ret (results_none rfl _ _ _) rfl ?_)
  refine ⟨rfl, ⟨HE.out, (HBEL.out.tr HB1.out).setCell hb _, hb, _, [], heap_setOne HV1.out, ?_, .nil⟩, ?_⟩
  · exact ownsRow_setOther (ownsRow_base HOW.out HBEL.out.size) (own_ne HOW.out HV1.out (by decide)) _
  · intro g cur e he hg
    have hg1 := HB1.out.heap hg
    rw [Below.heap_setCell _ _ _ _ (fun hc => ?_)]
    · exact hg1
    · rw [show g = b from hc, HV1.out] at hg1; cases hg1; rcases he with he | he <;> cases he

set_option maxHeartbeats 2000000 in
theorem set86_calls {δ : Type} (R : World → Value → δ → Prop) (G : Errs) (w0 : World) (b n : Nat) (w : World) (hI : CapInv G w0 b 76 w) (hn : n ≤ 1000000001) :
    Calls Tryz.prog 86 #[.int .i64 n, .pointer (some ⟨b, 0, none⟩)] w fun e w' => e = .returned (.tuple #[]) ∧ RowInv G w0 b 76 65 R [] w' ∧ IntsKept w w' := by
  obtain ⟨i0, hi, hz0, hz1, hz2⟩ := info_parts info65
  obtain ⟨hE, hbel, hb, v, hv⟩ := hI
  have HBEL := Lib.hid hbel
  have HV := Lib.hid hv
  have HE := Lib.hid hE
  have hbw := lt_heap hv
  clear hbel hv hE
  go_enter Tryz.func86, Tryz.ntmps86
  go_wp2_with (at_make; refine wpList_make_own _ rfl _ _ 76 rfl w.heap.size 65 i0 (.slice none 0 0) 1 Tryz.underlying76 hi hz0 hz1 .i64 .i64 _ n rfl rfl rfl (by rw [hz2]; omega) (by unfold maxLen; omega) (Nat.le_refl _) ?_)
  intro w1 how hgw
  have hb1 : Bel w w1 := ⟨hgw.os, hgw.tape, hgw.output, hgw.size, fun k hk => hgw.block k hk (by simp)⟩
  have hv1 := hb1.heap HV.out
  have c1 : w1.cell? ⟨b, 0, none⟩ = some v := by simp [World.cell?, hv1]
  have f1 : w1.frozen? ⟨b, 0, none⟩ = false := by simp [World.frozen?, hv1]
  have HOW := Lib.hid how
  have HB1 := Lib.hid hb1
  have HV1 := Lib.hid hv1
  clear how hgw hb1 hv1
  go_wp2
  first | go_end0 | (refine bodyPost_ret (results_none rfl _ _ _) rfl ?_)
  refine ⟨rfl, ⟨HE.out, (HBEL.out.tr HB1.out).setCell hb _, hb, _, [], heap_setOne HV1.out, ?_, .nil⟩, ?_⟩
  · exact ownsRow_setOther (ownsRow_base HOW.out HBEL.out.size) (own_ne HOW.out HV1.out (by decide)) _
  · intro g cur e he hg
    have hg1 := HB1.out.heap hg
    rw [Below.heap_setCell _ _ _ _ (fun hc => ?_)]
    · exact hg1
    · rw [show g = b from hc, HV1.out] at hg1; cases hg1; rcases he with he | he <;> cases he

set_option maxHeartbeats 2000000 in
theorem set89_calls {δ : Type} (R : World → Value → δ → Prop) (G : Errs) (w0 : World) (b n : Nat) (w : World) (hI : CapInv G w0 b 80 w) (hn : n ≤ 1000000001) :
    Calls Tryz.prog 89 #[.int .i64 n, .pointer (some ⟨b, 0, none⟩)] w fun e w' => e = .returned (.tuple #[]) ∧ RowInv G w0 b 80 69 R [] w' ∧ IntsKept w w' := by
  obtain ⟨i0, hi, hz0, hz1, hz2⟩ := info_parts info69
  obtain ⟨hE, hbel, hb, v, hv⟩ := hI
  have HBEL := Lib.hid hbel
  have HV := Lib.hid hv
  have HE := Lib.hid hE
  have hbw := lt_heap hv
  clear hbel hv hE
  go_enter Tryz.func89, Tryz.ntmps89
  go_wp2_with (at_make; refine wpList_make_own _ rfl _ _ 80 rfl w.heap.size 69 i0 (.slice none 0 0) 1 Tryz.underlying80 hi hz0 hz1 .i64 .i64 _ n rfl rfl rfl (by rw [hz2]; omega) (by unfold maxLen; omega) (Nat.le_refl _) ?_)
  intro w1 how hgw
  have hb1 : Bel w w1 := ⟨hgw.os, hgw.tape, hgw.output, hgw.size, fun k hk => hgw.block k hk (by simp)⟩
  have hv1 := hb1.heap HV.out
  have c1 : w1.cell? ⟨b, 0, none⟩ = some v := by simp [World.cell?, hv1]
  have f1 : w1.frozen? ⟨b, 0, none⟩ = false := by simp [World.frozen?, hv1]
  have HOW := Lib.hid how
  have HB1 := Lib.hid hb1
  have HV1 := Lib.hid hv1
  clear how hgw hb1 hv1
  go_wp2
  first | go_end0 | (refine bodyPost_ret (results_none rfl _ _ _) rfl ?_)
  refine ⟨rfl, ⟨HE.out, (HBEL.out.tr HB1.out).setCell hb _, hb, _, [], heap_setOne HV1.out, ?_, .nil⟩, ?_⟩
  · exact ownsRow_setOther (ownsRow_base HOW.out HBEL.out.size) (own_ne HOW.out HV1.out (by decide)) _
  · intro g cur e he hg
    have hg1 := HB1.out.heap hg
    rw [Below.heap_setCell _ _ _ _ (fun hc => ?_)]
    · exact hg1
    · rw [show g = b from hc, HV1.out] at hg1; cases hg1; rcases he with he | he <;> cases he

set_option maxHeartbeats 2000000 in
theorem set91_calls {δ : Type} (R : World → Value → δ → Prop) (G : Errs) (w0 : World) (b n : Nat) (w : World) (hI : CapInv G w0 b 69 w) (hn : n ≤ 1000000001) :
    Calls Tryz.prog 91 #[.int .i64 n, .pointer (some ⟨b, 0, none⟩)] w fun e w' => e = .returned (.tuple #[]) ∧ RowInv G w0 b 69 117 R [] w' ∧ IntsKept w w' := by
  obtain ⟨i0, hi, hz0, hz1, hz2⟩ := info_parts info117
  obtain ⟨hE, hbel, hb, v, hv⟩ := hI
  have HBEL := Lib.hid hbel
  have HV := Lib.hid hv
  have HE := Lib.hid hE
  have hbw := lt_heap hv
  clear hbel hv hE
  go_enter Tryz.func91, Tryz.ntmps91
  go_wp2_with (at_make; refine wpList_make_own _ rfl _ _ 69 rfl w.heap.size 117 i0 (.slice none 0 0) 1 Tryz.underlying69 hi hz0 hz1 .i64 .i64 _ n rfl rfl rfl (by rw [hz2]; omega) (by unfold maxLen; omega) (Nat.le_refl _) ?_)
  intro w1 how hgw
  have hb1 : Bel w w1 := ⟨hgw.os, hgw.tape, hgw.output, hgw.size, fun k hk => hgw.block k hk (by simp)⟩
  have hv1 := hb1.heap HV.out
  have c1 : w1.cell? ⟨b, 0, none⟩ = some v := by simp [World.cell?, hv1]
  have f1 : w1.frozen? ⟨b, 0, none⟩ = false := by simp [World.frozen?, hv1]
  have HOW := Lib.hid how
  have HB1 := Lib.hid hb1
  have HV1 := Lib.hid hv1
  clear how hgw hb1 hv1
  go_wp2
  first | go_end0 | (refine bodyPost_ret (results_none rfl _ _ _) rfl ?_)
  refine ⟨rfl, ⟨HE.out, (HBEL.out.tr HB1.out).setCell hb _, hb, _, [], heap_setOne HV1.out, ?_, .nil⟩, ?_⟩
  · exact ownsRow_setOther (ownsRow_base HOW.out HBEL.out.size) (own_ne HOW.out HV1.out (by decide)) _
  · intro g cur e he hg
    have hg1 := HB1.out.heap hg
    rw [Below.heap_setCell _ _ _ _ (fun hc => ?_)]
    · exact hg1
    · rw [show g = b from hc, HV1.out] at hg1; cases hg1; rcases he with he | he <;> cases he

set_option maxHeartbeats 4000000 in
theorem ptStep85_calls (G : Errs) (w0 : World) (b : Nat) (pts : List Pt) (l : List UInt8) (r : Option (List Pt)) (w : World) (hr : BrkPtStep G pts l r) (hI : PtInv G w0 b 72 pts w) (hs : l.length ≤ 1000000000) :
    Calls Tryz.prog 85 #[.string (ofL l), .pointer (some ⟨b, 0, none⟩)] w (Ends G.n (PtInv G w0 b 72) (Bel w0) r) := by
  obtain ⟨i0, hi, hz0, hz1, hz2⟩ := info_parts info61
  obtain ⟨hlen, hr⟩ := hr
  obtain ⟨hE, hbel, hb, v, hv, hown⟩ := hI
  rcases hr with ⟨hbk, rfl⟩ | ⟨q0, o, hbk, ho, rfl⟩
  · have HB := Lib.hid (brk_err (ofL l) w (by rw [ofL_size]; exact hs) (errV G.n) (hE.bel hbel).eN (by rw [toL_ofL]; exact hbk))
    have HBEL := Lib.hid hbel
    clear hbel hE hown hv hbk
    go_enter Tryz.func85, Tryz.ntmps85
    go_wp2_with (go_at_call 75; refine HB.out.mono ?_; rintro e w1 ⟨rfl, n, rfl⟩)
    go_ret
    exact ⟨rfl, HBEL.out.tr (Bel.dr _ _)⟩
  · have hql := brkL_le hbk
    have HB := Lib.hid (brk_ok (ofL l) w (by rw [ofL_size]; exact hs) q0 (by rw [toL_ofL]; exact hbk))
    have hpp := pp_calls G q0 o w (by omega) (hE.bel hbel) ho
    cases o with
    | none =>
      simp only [ppV] at hpp
      have HPP := Lib.hid hpp
      have HBEL := Lib.hid hbel
      clear hpp hbel hE hown hv ho hbk
      show Calls Tryz.prog 85 _ w (Ends G.n (PtInv G w0 b 72) (Bel w0) none)
      go_enter Tryz.func85, Tryz.ntmps85
      go_wp2_with (first | (go_at_call 75; refine HB.out.mono ?_; rintro e w1 ⟨rfl, rfl⟩) | (go_at_call 76; refine HPP.out.mono ?_; rintro e w1 ⟨rfl, b1⟩; refine Hid.out ?_))
      refine Lib.hid ?_
      have B1 := Lib.hid b1
      clear b1
      go_wp2
      go_ret
      exact ⟨rfl, HBEL.out.tr (B1.out.tr (Bel.al _ _))⟩
    | some q =>
      obtain ⟨x, y⟩ := q
      simp only [ppV] at hpp
      have HPP := Lib.hid hpp
      have HBEL := Lib.hid hbel
      have HOWN := Lib.hid hown
      have HV := Lib.hid hv
      have HE := Lib.hid hE
      clear hpp hbel hE hown hv ho hbk
      show Calls Tryz.prog 85 _ w (Ends G.n (PtInv G w0 b 72) (Bel w0) (some (pts ++ [(x, y)])))
      have hbw := lt_heap HV.out
      go_enter Tryz.func85, Tryz.ntmps85
      go_wp2_with (first | (go_at_call 75; refine HB.out.mono ?_; rintro e w1 ⟨rfl, rfl⟩) | (go_at_call 76; refine HPP.out.mono ?_; rintro e w1 ⟨rfl, b1⟩; refine Hid.out ?_))
      refine Lib.hid ?_
      have hsz := b1.size
      have HV1 := Lib.hid (b1.heap HV.out)
      have HOWN1 := Lib.hid (ownsRow_bel HOWN.out b1)
      have B1 := Lib.hid (HBEL.out.tr b1)
      clear b1
      have c1 : w1.cell? ⟨b, 0, none⟩ = some v := by simp [World.cell?, HV1.out]
      have f1 : w1.frozen? ⟨b, 0, none⟩ = false := by simp [World.frozen?, HV1.out]
      have hbw1 := lt_heap HV1.out
      go_wp2_with (at_builtin; refine wpList_append1 _ [.float .f64 x, .float .f64 y] 61 rfl (.tmp 22) (.tmp 24) 72 rfl w0.heap.size i0 (.agg #[.float .f64 0, .float .f64 0]) 2 16 Tryz.underlying72 hi hz0 hz1 hz2 rfl (by decide) _ pts.length (ptsCells pts) rfl (HOWN1.out.alloc _) _ _ rfl (by simp) rfl ?_ ?_ ?_ ?_ ?_)
      · intro u hu
        simp at hu
        rcases hu with rfl | rfl <;> rfl
      · omega
      · unfold maxLen; omega
      · have := B1.out.size; simp; omega
      · intro v' w2 h2 h3
        have hv2 := grown_heap h3 ((Bel.al _ _).heap HV1.out) (own_ne HOWN1.out HV1.out (by decide))
        have H2 := Lib.hid h2
        have B2 := Lib.hid (show Bel w0 w2 from B1.out.trans (Below.grown ((Below.refl _ _).alloc B1.out.size _) h3 (by have := B1.out.size; simp; omega) (fun k hk => (HOWN1.out.lt k hk).1)))
        have HV2 := Lib.hid hv2
        have c2 : w2.cell? ⟨b, 0, none⟩ = some v := by simp [World.cell?, hv2]
        have f2 : w2.frozen? ⟨b, 0, none⟩ = false := by simp [World.frozen?, hv2]
        have hbw2 := lt_heap hv2
        obtain ⟨ao, cap, rfl⟩ := own_slice h2
        clear h2 h3 hv2 c1 f1
        go_wp2
        go_ret
        refine ⟨rfl, HE.out, B2.out.setCell hb _, hb, _, heap_setOne HV2.out, ?_⟩
        rw [List.length_append, ptsCells_snoc]
        exact ownsRow_setOther H2.out (own_ne H2.out HV2.out (by decide)) _

set_option maxHeartbeats 4000000 in
theorem polyStep90_calls (G : Errs) (w0 : World) (b : Nat) (polys : List (List (List Pt))) (l : List UInt8) (r : Option (List (List (List Pt)))) (w : World) (hr : PolyStep G polys l r) (hI : RowInv G w0 b 80 69 RdRings polys w) (hs : l.length ≤ 1000000000) :
    Calls Tryz.prog 90 #[.string (ofL l), .pointer (some ⟨b, 0, none⟩)] w fun e w' => Ends G.n (RowInv G w0 b 80 69 RdRings) (Bel w0) r e w' ∧ IntsKept w w' := by
  obtain ⟨i0, hi, hz0, hz1, hz2⟩ := info_parts info69
  obtain ⟨hlen, hr⟩ := hr
  obtain ⟨hE, hbel, hb, v, xs, hv, hown, heach⟩ := hI
  rcases hr with ⟨hbk, rfl⟩ | ⟨q, o, hbk, hrun, rfl⟩
  · have HB := Lib.hid (brk_err (ofL l) w (by rw [ofL_size]; exact hs) (errV G.n) (hE.bel hbel).eN (by rw [toL_ofL]; exact hbk))
    have HBEL := Lib.hid hbel
    clear hbel hE hown hv heach hbk
    go_enter Tryz.func90, Tryz.ntmps90
    go_wp2_with (go_at_call 75; refine HB.out.mono ?_; rintro e w1 ⟨rfl, n, rfl⟩)
    go_ret
    exact ⟨⟨rfl, HBEL.out.tr (Bel.dr _ _)⟩, IntsKept.of_bel (Bel.dr _ _)⟩
  · have hql := brkL_le hbk
    have HB := Lib.hid (brk_ok (ofL l) w (by rw [ofL_size]; exact hs) q (by rw [toL_ofL]; exact hbk))
    have HBEL := Lib.hid hbel
    have HOWN := Lib.hid hown
    have HV := Lib.hid hv
    have HE := Lib.hid hE
    have HEACH := Lib.hid heach
    have HRUN := Lib.hid hrun
    have hmf := makeFunc_run
    clear hbel hE hown hv hbk heach hrun
    have hbw := lt_heap HV.out
    go_enter Tryz.func90, Tryz.ntmps90
    go_wp2_with (go_at_call 75; refine HB.out.mono ?_; rintro e w1 ⟨rfl, rfl⟩)
    have hrun := HRUN.out
    refine (splitRx_calls (RingStep G) (CapInv G w w.heap.size 69) [] (RowInv G w w.heap.size 69 117 RdPts) (Bel w) G.n 91 92 w.heap.size enter91 enter92 (fun _ _ h k => h.bel k) (fun n wx hI hn => set91_calls RdPts G w w.heap.size n wx hI hn) (fun a p r wx hS hI hl => ringStep92_calls G w w.heap.size a p r wx hS hI hl) (ofL q) (by rw [ofL_size]; omega) false o _ (by rw [toL_ofL]; exact hrun) ⟨HE.out.bel HBEL.out, Bel.al _ _, Nat.le_refl _, _, heap_alloc_new w _⟩).mono ?_
    clear hrun
    cases o with
    | none =>
      rintro e w2 ⟨rfl, b2⟩
      have B2 := Lib.hid b2
      clear b2
      go_wp2
      go_ret
      exact ⟨⟨rfl, HBEL.out.tr B2.out⟩, IntsKept.of_bel B2.out⟩
    | some rings =>
      rintro e w2 ⟨rfl, hE2, b2, hsz2, v6, xs6, hv6, hown6, heach6⟩
      obtain ⟨ao6, cap6, rfl⟩ := own_slice hown6
      have hv2 := b2.heap HV.out
      have hown2 := ownsRow_bel HOWN.out b2
      have heach2 := HEACH.out.keep (fun x d h => RdRings.keep h (TKept.of_bel b2))
      have c1 : w2.cell? ⟨b, 0, none⟩ = some v := by simp [World.cell?, hv2]
      have f1 : w2.frozen? ⟨b, 0, none⟩ = false := by simp [World.frozen?, hv2]
      have c6 : w2.cell? ⟨w.heap.size, 0, none⟩ = some (.slice ao6 rings.length cap6) := by simp [World.cell?, hv6]
      have hbw2 := lt_heap hv2
      have B2 := Lib.hid b2
      have HV2 := Lib.hid hv2
      have HOWN2 := Lib.hid hown2
      have HEACH2 := Lib.hid heach2
      have HRD6 := Lib.hid (show RdRings w2 (.slice ao6 rings.length cap6) rings from ⟨xs6, ownsRow_base hown6 (Nat.zero_le _), heach6⟩)
      clear b2 hv2 hown2 heach2 hown6 hE2 hv6 heach6
      go_wp2_with (at_builtin; refine wpList_append1 _ [.slice ao6 rings.length cap6] 69 rfl (.tmp 21) (.tmp 23) 80 rfl w0.heap.size i0 (.slice none 0 0) 1 24 Tryz.underlying80 hi hz0 hz1 hz2 rfl (by decide) _ polys.length xs rfl HOWN2.out _ _ rfl rfl rfl ?_ ?_ ?_ ?_ ?_)
      · intro u hu
        simp at hu
        subst hu
        rfl
      · omega
      · unfold maxLen; omega
      · have := HBEL.out.size; have := B2.out.size; omega
      · intro v' w3 h2 h3
        have hv3 := grown_heap h3 HV2.out (own_ne HOWN2.out HV2.out (by decide))
        have H2 := Lib.hid h2
        have B3 := Lib.hid (show Bel w0 w3 from (HBEL.out.tr B2.out).trans (Below.grown (Below.refl _ _) h3 (by have := HBEL.out.size; have := B2.out.size; omega) (fun k hk => (HOWN2.out.lt k hk).1)))
        have HK := Lib.hid (show ∀ (g : Nat) (cur : Array Value) (e : TypeId), e ≠ 69 → w2.heap[g]? = some (Obj.cells cur e (0, 0)) → w3.heap[g]? = some (Obj.cells cur e (0, 0)) from fun g cur e he hg => grown_heap h3 hg (own_ne HOWN2.out hg he))
        have HV3 := Lib.hid hv3
        have c3 : w3.cell? ⟨b, 0, none⟩ = some v := by simp [World.cell?, hv3]
        have f3 : w3.frozen? ⟨b, 0, none⟩ = false := by simp [World.frozen?, hv3]
        have hbw3 := lt_heap hv3
        obtain ⟨ao, cap, rfl⟩ := own_slice h2
        clear h2 h3 hv3 c1 f1 c6
        go_wp2
        go_ret
        have hset : ∀ (u : Value) (g : Nat) (cur : Array Value) (e : TypeId), e ≠ 69 → e ≠ 80 → w2.heap[g]? = some (Obj.cells cur e (0, 0)) → (w3.setCell ⟨b, 0, none⟩ u).heap[g]? = some (Obj.cells cur e (0, 0)) := fun u g cur e h1 h2 hg => by
          have hg3 := HK.out g cur e h1 hg
          rw [Below.heap_setCell _ _ _ _ (fun hc => ?_)]
          · exact hg3
          · rw [show g = b from hc, HV3.out] at hg3; cases hg3; exact h2 rfl
        have hkk : ∀ u, TKept K117 w2 (w3.setCell ⟨b, 0, none⟩ u) := fun u g cur e he hg => hset _ g cur e (by rcases he with rfl | rfl <;> decide) (by rcases he with rfl | rfl <;> decide) hg
        refine ⟨⟨rfl, HE.out, B3.out.setCell hb _, hb, _, xs ++ [.slice ao6 rings.length cap6], heap_setOne HV3.out, ?_, ?_⟩, ?_⟩
        · rw [List.length_append]
          exact ownsRow_setOther H2.out (own_ne H2.out HV3.out (by decide)) _
        · exact .snoc (HEACH2.out.keep (fun x d h => RdRings.keep h (hkk _))) (HRD6.out.keep (hkk _))
        · exact fun g cur e he hg => hset _ g cur e (by rcases he with rfl | rfl <;> decide) (by rcases he with rfl | rfl <;> decide) (B2.out.heap hg)
end Go.Proofs.YtghajgdiaopioaaGreatDoor

/- Walks: the texts of lines, points, polygons, lines and polygons are read. -/
namespace Go.Proofs.YtghajgdiaopioaaGreatDoor
open Go.RowKit
attribute [local go_sem] run_store_float run_store_iface run_store_nilIface

/-- A value that is read as data, or (none) an error beside a zero value. -/
def Gives {δ : Type} (aN : Addr) (R : World → Value → δ → Prop) (zero : Value) (o : Option δ) (e : Ending) (w : World) : Prop :=
  match o with
  | some d => ∃ v, e = .returned (.tuple #[v, .nilIface]) ∧ R w v d
  | none => e = .returned (.tuple #[zero, errV aN])

def Asc (l : List UInt8) : Prop := ∀ c ∈ l, c.toNat < 128

/-- A text: a word for nothing; or a word of n letters, and brackets round what P says. -/
def TextReads {δ : Type} (word : List UInt8) (n : Nat) (P : List UInt8 → Option δ → Prop) (e0 : δ) (l : List UInt8) (o : Option δ) : Prop :=
  (Lib.equalFold l word = true ∧ o = some e0) ∨ (Lib.equalFold l word = false ∧ ((brkL (l.drop n) = none ∧ o = none) ∨ ∃ q, brkL (l.drop n) = some q ∧ P q o))

theorem asc_at {l : List UInt8} (h : Asc l) : ∀ (j : Nat) (b : UInt8), (ofL l).data.toList[j]? = some b → b.toNat < 128 := fun j b hb => by
  rw [show (ofL l).data.toList = l from toL_ofL l] at hb
  exact h b (List.mem_of_getElem? hb)
theorem fold_calls (l word : List UInt8) (w : World) (hs : l.length ≤ 1000000000) (h1 : ∀ (j : Nat) (b : UInt8), (ofL l).data.toList[j]? = some b → b.toNat < 128) (h2 : ∀ (j : Nat) (b : UInt8), (ofL word).data.toList[j]? = some b → b.toNat < 128) :
    Calls Tryz.prog 77 #[.string (ofL l), .string (ofL word)] w fun e w' => e = .returned (.bool (Lib.equalFold l word)) ∧ w = w' := by
  have h := Tryz.strings_EqualFold (ofL l) (ofL word) w (by rw [ofL_size]; omega) h1 h2
  rw [show (ofL l).data.toList = l from toL_ofL l, show (ofL word).data.toList = word from toL_ofL word] at h
  exact h.mono fun e w' ⟨h1, h2⟩ => ⟨h1, h2.symm⟩

def RdRow {δ : Type} (Te : TypeId) (R : World → Value → δ → Prop) (w : World) (x : Value) (ds : List δ) : Prop := ∃ xs, w.ownsRow 0 Te 1 x ds.length xs ∧ Each R w xs ds

theorem own_empty (w : World) (e : TypeId) (size : Nat) : (w.alloc (.cells #[] e)).ownsRow 0 e size (.slice (some ⟨w.heap.size, 0, none⟩) 0 0) 0 [] :=
  ⟨by simp, .inr ⟨w.heap.size, 0, #[], rfl, Nat.zero_le _, heap_alloc_new w _, Nat.le_refl _, Nat.zero_le _, by simp, by simp⟩⟩

def wLine : List UInt8 := [76, 73, 78, 69, 83, 84, 82, 73, 78, 71, 32, 69, 77, 80, 84, 89]
def wPoly : List UInt8 := [80, 79, 76, 89, 71, 79, 78, 32, 69, 77, 80, 84, 89]
def wMPoint : List UInt8 := [77, 85, 76, 84, 73, 80, 79, 73, 78, 84, 32, 69, 77, 80, 84, 89]
def wMLine : List UInt8 := [77, 85, 76, 84, 73, 76, 73, 78, 69, 83, 84, 82, 73, 78, 71, 32, 69, 77, 80, 84, 89]
def wMPoly : List UInt8 := [77, 85, 76, 84, 73, 80, 79, 76, 89, 71, 79, 78, 32, 69, 77, 80, 84, 89]
theorem asc_wLine : Asc wLine := by unfold Asc; decide
theorem asc_wPoly : Asc wPoly := by unfold Asc; decide
theorem asc_wMPoint : Asc wMPoint := by unfold Asc; decide
theorem asc_wMLine : Asc wMLine := by unfold Asc; decide
theorem asc_wMPoly : Asc wMPoly := by unfold Asc; decide
theorem enter80 : ∀ args w, (callFunc 80 args).run Tryz.prog w = .ok (.enter 80 args) w := fun _ _ => by simp [go_sem]
theorem enter85 : ∀ args w, (callFunc 85 args).run Tryz.prog w = .ok (.enter 85 args) w := fun _ _ => by simp [go_sem]
theorem enter82 : ∀ args w, (callFunc 82 args).run Tryz.prog w = .ok (.enter 82 args) w := fun _ _ => by simp [go_sem]
theorem enter83 : ∀ args w, (callFunc 83 args).run Tryz.prog w = .ok (.enter 83 args) w := fun _ _ => by simp [go_sem]
theorem enter86 : ∀ args w, (callFunc 86 args).run Tryz.prog w = .ok (.enter 86 args) w := fun _ _ => by simp [go_sem]
theorem enter87 : ∀ args w, (callFunc 87 args).run Tryz.prog w = .ok (.enter 87 args) w := fun _ _ => by simp [go_sem]
theorem enter89 : ∀ args w, (callFunc 89 args).run Tryz.prog w = .ok (.enter 89 args) w := fun _ _ => by simp [go_sem]
theorem enter90 : ∀ args w, (callFunc 90 args).run Tryz.prog w = .ok (.enter 90 args) w := fun _ _ => by simp [go_sem]

def Line54Reads (G : Errs) : List UInt8 → Option (List Pt) → Prop := TextReads wLine 10 (fun q o => Run (PtStep G) [] (pieces q) o) []
set_option maxHeartbeats 4000000 in
theorem line54_calls (G : Errs) (l : List UInt8) (o : Option (List Pt)) (w : World) (hE : Env G w) (hs : l.length ≤ 1000000000) (hn : 10 ≤ l.length) (hA : Asc l) (h : Line54Reads G l o) :
    Calls Tryz.prog 54 #[.string (ofL l)] w fun e w' => Gives G.n RdPts (.slice none 0 0) o e w' ∧ Bel w w' := by
  obtain ⟨j0, hj, hy0, hy1, hy2⟩ := info_parts info61
  have HF := Lib.hid (fold_calls l wLine w hs (asc_at hA) (asc_at asc_wLine))
  rcases h with ⟨hw, rfl⟩ | ⟨hw, hr⟩
  · have hf := HF.out
    rw [hw] at hf
    clear hw
    go_enter Tryz.func54, Tryz.ntmps54
    go_wp2_with (go_at_call 77; refine hf.mono ?_; rintro e w1 ⟨rfl, rfl⟩)
    go_ret2
    exact ⟨⟨_, rfl, own_empty w 61 2⟩, Bel.al _ _⟩
  · have hf := HF.out
    rw [hw] at hf
    clear hw
    have hsz := ofL_size l
    have hex := ofL_from l 10
    have hd : (l.drop 10).length ≤ l.length := by rw [List.length_drop]; omega
    rcases hr with ⟨hbk, rfl⟩ | ⟨q, hbk, hrun⟩
    · have HB := Lib.hid (brk_err (ofL (l.drop 10)) w (by rw [ofL_size]; omega) (errV G.n) hE.eN (by rw [toL_ofL]; exact hbk))
      clear hbk
      have hle : (10 : Int) ≤ ((ofL l).size : Int) := by omega
      rw [← hsz] at hex
      generalize ofL (l.drop 10) = y at *
      generalize ofL l = s at *
      clear hsz
      go_enter Tryz.func54, Tryz.ntmps54
      go_wp2_with (first | (go_at_call 77; refine hf.mono ?_; rintro e w1 ⟨rfl, rfl⟩) | (go_at_call 75; refine HB.out.mono ?_; rintro e w1 ⟨rfl, n, rfl⟩))
      go_ret2
      exact ⟨rfl, Bel.dr _ _⟩
    · have hql := brkL_le hbk
      have HB := Lib.hid (brk_ok (ofL (l.drop 10)) w (by rw [ofL_size]; omega) q (by rw [toL_ofL]; exact hbk))
      have hcl := commas_le (ofL q)
      rw [ofL_size] at hcl
      have HC := Lib.hid (commas_calls (ofL q) w (by rw [ofL_size]; omega))
      have HRUN := Lib.hid hrun
      have HE := Lib.hid hE
      have hmf := makeFunc_run
      have hle : (10 : Int) ≤ ((ofL l).size : Int) := by omega
      rw [← hsz] at hex
      generalize ofL (l.drop 10) = y at *
      generalize ofL l = s at *
      clear hsz hE hbk hrun
      generalize cntC (toL (ofL q)) = cn at *
      go_enter Tryz.func54, Tryz.ntmps54
      go_wp2_with (first | (go_at_call 77; refine hf.mono ?_; rintro e w1 ⟨rfl, rfl⟩) | (go_at_call 75; refine HB.out.mono ?_; rintro e w1 ⟨rfl, rfl⟩) | (go_at_call 78; refine HC.out.mono ?_; rintro e w1 ⟨rfl, rfl⟩) | (at_make; refine wpList_make_own _ rfl _ _ 65 rfl w.heap.size 61 j0 (.agg #[.float .f64 0, .float .f64 0]) 2 Tryz.underlying65 hj hy0 hy1 .i64 .i64 _ (cn + 1) rfl rfl (by omega) (by rw [hy2]; omega) (by unfold maxLen; omega) (Nat.le_refl _) ?_))
      intro w1 how hgw
      have hb1 : Bel w w1 := ⟨hgw.os, hgw.tape, hgw.output, hgw.size, fun k hk => hgw.block k hk (by simp)⟩
      have HOW := Lib.hid how
      have HB1 := Lib.hid hb1
      clear how hgw hb1
      go_wp2_with fail
      have hrun := HRUN.out
      refine (splitComma_calls (PtStep G) (PtInv G w w1.heap.size 65) (Bel w) G.n 80 w1.heap.size enter80 (fun a p r wx hS hI hl => ptStep80_calls G w w1.heap.size a p r wx hS hI hl) (ofL q) (by rw [ofL_size]; omega) [] o _ (by rw [toL_ofL]; exact hrun) ⟨HE.out, HB1.out.tr (Bel.al _ _), HB1.out.size, _, heap_alloc_new w1 _, HOW.out.alloc _⟩).mono ?_
      clear hrun
      cases o with
      | none =>
        rintro e w2 ⟨rfl, b2⟩
        have B2 := Lib.hid b2
        clear b2
        go_wp2
        go_ret2
        exact ⟨rfl, B2.out⟩
      | some pts =>
        rintro e w2 ⟨rfl, hE2, b2, hsz2, v6, hv6, hown6⟩
        have c6 : w2.cell? ⟨w1.heap.size, 0, none⟩ = some v6 := by simp [World.cell?, hv6]
        have B2 := Lib.hid b2
        have HOWN6 := Lib.hid hown6
        clear b2 hown6 hE2 hv6
        go_wp2
        go_ret2
        exact ⟨⟨_, rfl, ownsRow_base HOWN6.out (Nat.zero_le _)⟩, B2.out⟩

def Line56Reads (G : Errs) : List UInt8 → Option (List Pt) → Prop := TextReads wMPoint 10 (fun q o => Run (BrkPtStep G) [] (pieces q) o) []
set_option maxHeartbeats 4000000 in
theorem line56_calls (G : Errs) (l : List UInt8) (o : Option (List Pt)) (w : World) (hE : Env G w) (hs : l.length ≤ 1000000000) (hn : 10 ≤ l.length) (hA : Asc l) (h : Line56Reads G l o) :
    Calls Tryz.prog 56 #[.string (ofL l)] w fun e w' => Gives G.n RdPts (.slice none 0 0) o e w' ∧ Bel w w' := by
  obtain ⟨j0, hj, hy0, hy1, hy2⟩ := info_parts info61
  have HF := Lib.hid (fold_calls l wMPoint w hs (asc_at hA) (asc_at asc_wMPoint))
  rcases h with ⟨hw, rfl⟩ | ⟨hw, hr⟩
  · have hf := HF.out
    rw [hw] at hf
    clear hw
    go_enter Tryz.func56, Tryz.ntmps56
    go_wp2_with (go_at_call 77; refine hf.mono ?_; rintro e w1 ⟨rfl, rfl⟩)
    go_ret2
    exact ⟨⟨_, rfl, own_empty w 61 2⟩, Bel.al _ _⟩
  · have hf := HF.out
    rw [hw] at hf
    clear hw
    have hsz := ofL_size l
    have hex := ofL_from l 10
    have hd : (l.drop 10).length ≤ l.length := by rw [List.length_drop]; omega
    rcases hr with ⟨hbk, rfl⟩ | ⟨q, hbk, hrun⟩
    · have HB := Lib.hid (brk_err (ofL (l.drop 10)) w (by rw [ofL_size]; omega) (errV G.n) hE.eN (by rw [toL_ofL]; exact hbk))
      clear hbk
      have hle : (10 : Int) ≤ ((ofL l).size : Int) := by omega
      rw [← hsz] at hex
      generalize ofL (l.drop 10) = y at *
      generalize ofL l = s at *
      clear hsz
      go_enter Tryz.func56, Tryz.ntmps56
      go_wp2_with (first | (go_at_call 77; refine hf.mono ?_; rintro e w1 ⟨rfl, rfl⟩) | (go_at_call 75; refine HB.out.mono ?_; rintro e w1 ⟨rfl, n, rfl⟩))
      go_ret2
      exact ⟨rfl, Bel.dr _ _⟩
    · have hql := brkL_le hbk
      have HB := Lib.hid (brk_ok (ofL (l.drop 10)) w (by rw [ofL_size]; omega) q (by rw [toL_ofL]; exact hbk))
      have hcl := commas_le (ofL q)
      rw [ofL_size] at hcl
      have HC := Lib.hid (commas_calls (ofL q) w (by rw [ofL_size]; omega))
      have HRUN := Lib.hid hrun
      have HE := Lib.hid hE
      have hmf := makeFunc_run
      have hle : (10 : Int) ≤ ((ofL l).size : Int) := by omega
      rw [← hsz] at hex
      generalize ofL (l.drop 10) = y at *
      generalize ofL l = s at *
      clear hsz hE hbk hrun
      generalize cntC (toL (ofL q)) = cn at *
      go_enter Tryz.func56, Tryz.ntmps56
      go_wp2_with (first | (go_at_call 77; refine hf.mono ?_; rintro e w1 ⟨rfl, rfl⟩) | (go_at_call 75; refine HB.out.mono ?_; rintro e w1 ⟨rfl, rfl⟩) | (go_at_call 78; refine HC.out.mono ?_; rintro e w1 ⟨rfl, rfl⟩) | (at_make; refine wpList_make_own _ rfl _ _ 72 rfl w.heap.size 61 j0 (.agg #[.float .f64 0, .float .f64 0]) 2 Tryz.underlying72 hj hy0 hy1 .i64 .i64 _ (cn + 1) rfl rfl (by omega) (by rw [hy2]; omega) (by unfold maxLen; omega) (Nat.le_refl _) ?_))
      intro w1 how hgw
      have hb1 : Bel w w1 := ⟨hgw.os, hgw.tape, hgw.output, hgw.size, fun k hk => hgw.block k hk (by simp)⟩
      have HOW := Lib.hid how
      have HB1 := Lib.hid hb1
      clear how hgw hb1
      go_wp2_with fail
      have hrun := HRUN.out
      refine (splitComma_calls (BrkPtStep G) (PtInv G w w1.heap.size 72) (Bel w) G.n 85 w1.heap.size enter85 (fun a p r wx hS hI hl => ptStep85_calls G w w1.heap.size a p r wx hS hI hl) (ofL q) (by rw [ofL_size]; omega) [] o _ (by rw [toL_ofL]; exact hrun) ⟨HE.out, HB1.out.tr (Bel.al _ _), HB1.out.size, _, heap_alloc_new w1 _, HOW.out.alloc _⟩).mono ?_
      clear hrun
      cases o with
      | none =>
        rintro e w2 ⟨rfl, b2⟩
        have B2 := Lib.hid b2
        clear b2
        go_wp2
        go_ret2
        exact ⟨rfl, B2.out⟩
      | some pts =>
        rintro e w2 ⟨rfl, hE2, b2, hsz2, v6, hv6, hown6⟩
        have c6 : w2.cell? ⟨w1.heap.size, 0, none⟩ = some v6 := by simp [World.cell?, hv6]
        have B2 := Lib.hid b2
        have HOWN6 := Lib.hid hown6
        clear b2 hown6 hE2 hv6
        go_wp2
        go_ret2
        exact ⟨⟨_, rfl, ownsRow_base HOWN6.out (Nat.zero_le _)⟩, B2.out⟩

def Rows55Reads (G : Errs) : List UInt8 → Option (List (List Pt)) → Prop := TextReads wPoly 7 (fun q o => Run (RingStep G) [] (rxPieces q false) o) []
set_option maxHeartbeats 4000000 in
theorem rows55_calls (G : Errs) (l : List UInt8) (o : Option (List (List Pt))) (w : World) (hE : Env G w) (hs : l.length ≤ 1000000000) (hn : 7 ≤ l.length) (hA : Asc l) (h : Rows55Reads G l o) :
    Calls Tryz.prog 55 #[.string (ofL l)] w fun e w' => Gives G.n (RdRow 117 RdPts) (.slice none 0 0) o e w' ∧ Bel w w' := by
  have HF := Lib.hid (fold_calls l wPoly w hs (asc_at hA) (asc_at asc_wPoly))
  rcases h with ⟨hw, rfl⟩ | ⟨hw, hr⟩
  · have hf := HF.out
    rw [hw] at hf
    clear hw
    go_enter Tryz.func55, Tryz.ntmps55
    go_wp2_with (go_at_call 77; refine hf.mono ?_; rintro e w1 ⟨rfl, rfl⟩)
    go_ret2
    exact ⟨⟨_, rfl, [], own_empty w 117 1, .nil⟩, Bel.al _ _⟩
  · have hf := HF.out
    rw [hw] at hf
    clear hw
    have hsz := ofL_size l
    have hex := ofL_from l 7
    have hd : (l.drop 7).length ≤ l.length := by rw [List.length_drop]; omega
    rcases hr with ⟨hbk, rfl⟩ | ⟨q, hbk, hrun⟩
    · have HB := Lib.hid (brk_err (ofL (l.drop 7)) w (by rw [ofL_size]; omega) (errV G.n) hE.eN (by rw [toL_ofL]; exact hbk))
      clear hbk
      have hle : (7 : Int) ≤ ((ofL l).size : Int) := by omega
      rw [← hsz] at hex
      generalize ofL (l.drop 7) = y at *
      generalize ofL l = s at *
      clear hsz
      go_enter Tryz.func55, Tryz.ntmps55
      go_wp2_with (first | (go_at_call 77; refine hf.mono ?_; rintro e w1 ⟨rfl, rfl⟩) | (go_at_call 75; refine HB.out.mono ?_; rintro e w1 ⟨rfl, n, rfl⟩))
      go_ret2
      exact ⟨rfl, Bel.dr _ _⟩
    · have hql := brkL_le hbk
      have HB := Lib.hid (brk_ok (ofL (l.drop 7)) w (by rw [ofL_size]; omega) q (by rw [toL_ofL]; exact hbk))
      have HRUN := Lib.hid hrun
      have HE := Lib.hid hE
      have hmf := makeFunc_run
      have hle : (7 : Int) ≤ ((ofL l).size : Int) := by omega
      rw [← hsz] at hex
      generalize ofL (l.drop 7) = y at *
      generalize ofL l = s at *
      clear hsz hE hbk hrun
      go_enter Tryz.func55, Tryz.ntmps55
      go_wp2_with (first | (go_at_call 77; refine hf.mono ?_; rintro e w1 ⟨rfl, rfl⟩) | (go_at_call 75; refine HB.out.mono ?_; rintro e w1 ⟨rfl, rfl⟩))
      have hrun := HRUN.out
      refine (splitRx_calls (RingStep G) (CapInv G w w.heap.size 69) [] (RowInv G w w.heap.size 69 117 RdPts) (Bel w) G.n 82 83 w.heap.size enter82 enter83 (fun _ _ h k => h.bel k) (fun n wx hI hn => set82_calls RdPts G w w.heap.size n wx hI hn) (fun a p r wx hS hI hl => ringStep83_calls G w w.heap.size a p r wx hS hI hl) (ofL q) (by rw [ofL_size]; omega) false o _ (by rw [toL_ofL]; exact hrun) ⟨HE.out, Bel.al _ _, Nat.le_refl _, _, heap_alloc_new w _⟩).mono ?_
      clear hrun
      cases o with
      | none =>
        rintro e w2 ⟨rfl, b2⟩
        have B2 := Lib.hid b2
        clear b2
        go_wp2
        go_ret2
        exact ⟨rfl, B2.out⟩
      | some ds =>
        rintro e w2 ⟨rfl, hE2, b2, hsz2, v6, xs6, hv6, hown6, heach6⟩
        have c6 : w2.cell? ⟨w.heap.size, 0, none⟩ = some v6 := by simp [World.cell?, hv6]
        have B2 := Lib.hid b2
        have HRD := Lib.hid (show RdRow 117 RdPts w2 v6 ds from ⟨xs6, ownsRow_base hown6 (Nat.zero_le _), heach6⟩)
        clear b2 hown6 heach6 hE2 hv6
        go_wp2
        go_ret2
        exact ⟨⟨_, rfl, HRD.out⟩, B2.out⟩

def Rows57Reads (G : Errs) : List UInt8 → Option (List (List Pt)) → Prop := TextReads wMLine 15 (fun q o => Run (RingStep G) [] (rxPieces q false) o) []
set_option maxHeartbeats 4000000 in
theorem rows57_calls (G : Errs) (l : List UInt8) (o : Option (List (List Pt))) (w : World) (hE : Env G w) (hs : l.length ≤ 1000000000) (hn : 15 ≤ l.length) (hA : Asc l) (h : Rows57Reads G l o) :
    Calls Tryz.prog 57 #[.string (ofL l)] w fun e w' => Gives G.n (RdRow 65 RdPts) (.slice none 0 0) o e w' ∧ Bel w w' := by
  have HF := Lib.hid (fold_calls l wMLine w hs (asc_at hA) (asc_at asc_wMLine))
  rcases h with ⟨hw, rfl⟩ | ⟨hw, hr⟩
  · have hf := HF.out
    rw [hw] at hf
    clear hw
    go_enter Tryz.func57, Tryz.ntmps57
    go_wp2_with (go_at_call 77; refine hf.mono ?_; rintro e w1 ⟨rfl, rfl⟩)
    go_ret2
    exact ⟨⟨_, rfl, [], own_empty w 65 1, .nil⟩, Bel.al _ _⟩
  · have hf := HF.out
    rw [hw] at hf
    clear hw
    have hsz := ofL_size l
    have hex := ofL_from l 15
    have hd : (l.drop 15).length ≤ l.length := by rw [List.length_drop]; omega
    rcases hr with ⟨hbk, rfl⟩ | ⟨q, hbk, hrun⟩
    · have HB := Lib.hid (brk_err (ofL (l.drop 15)) w (by rw [ofL_size]; omega) (errV G.n) hE.eN (by rw [toL_ofL]; exact hbk))
      clear hbk
      have hle : (15 : Int) ≤ ((ofL l).size : Int) := by omega
      rw [← hsz] at hex
      generalize ofL (l.drop 15) = y at *
      generalize ofL l = s at *
      clear hsz
      go_enter Tryz.func57, Tryz.ntmps57
      go_wp2_with (first | (go_at_call 77; refine hf.mono ?_; rintro e w1 ⟨rfl, rfl⟩) | (go_at_call 75; refine HB.out.mono ?_; rintro e w1 ⟨rfl, n, rfl⟩))
      go_ret2
      exact ⟨rfl, Bel.dr _ _⟩
    · have hql := brkL_le hbk
      have HB := Lib.hid (brk_ok (ofL (l.drop 15)) w (by rw [ofL_size]; omega) q (by rw [toL_ofL]; exact hbk))
      have HRUN := Lib.hid hrun
      have HE := Lib.hid hE
      have hmf := makeFunc_run
      have hle : (15 : Int) ≤ ((ofL l).size : Int) := by omega
      rw [← hsz] at hex
      generalize ofL (l.drop 15) = y at *
      generalize ofL l = s at *
      clear hsz hE hbk hrun
      go_enter Tryz.func57, Tryz.ntmps57
      go_wp2_with (first | (go_at_call 77; refine hf.mono ?_; rintro e w1 ⟨rfl, rfl⟩) | (go_at_call 75; refine HB.out.mono ?_; rintro e w1 ⟨rfl, rfl⟩))
      have hrun := HRUN.out
      refine (splitRx_calls (RingStep G) (CapInv G w w.heap.size 76) [] (RowInv G w w.heap.size 76 65 RdPts) (Bel w) G.n 86 87 w.heap.size enter86 enter87 (fun _ _ h k => h.bel k) (fun n wx hI hn => set86_calls RdPts G w w.heap.size n wx hI hn) (fun a p r wx hS hI hl => ringStep87_calls G w w.heap.size a p r wx hS hI hl) (ofL q) (by rw [ofL_size]; omega) false o _ (by rw [toL_ofL]; exact hrun) ⟨HE.out, Bel.al _ _, Nat.le_refl _, _, heap_alloc_new w _⟩).mono ?_
      clear hrun
      cases o with
      | none =>
        rintro e w2 ⟨rfl, b2⟩
        have B2 := Lib.hid b2
        clear b2
        go_wp2
        go_ret2
        exact ⟨rfl, B2.out⟩
      | some ds =>
        rintro e w2 ⟨rfl, hE2, b2, hsz2, v6, xs6, hv6, hown6, heach6⟩
        have c6 : w2.cell? ⟨w.heap.size, 0, none⟩ = some v6 := by simp [World.cell?, hv6]
        have B2 := Lib.hid b2
        have HRD := Lib.hid (show RdRow 65 RdPts w2 v6 ds from ⟨xs6, ownsRow_base hown6 (Nat.zero_le _), heach6⟩)
        clear b2 hown6 heach6 hE2 hv6
        go_wp2
        go_ret2
        exact ⟨⟨_, rfl, HRD.out⟩, B2.out⟩

def Rows58Reads (G : Errs) : List UInt8 → Option (List (List (List Pt))) → Prop := TextReads wMPoly 12 (fun q o => Run (PolyStep G) [] (rxPieces q true) o) []
set_option maxHeartbeats 4000000 in
theorem rows58_calls (G : Errs) (l : List UInt8) (o : Option (List (List (List Pt)))) (w : World) (hE : Env G w) (hs : l.length ≤ 1000000000) (hn : 12 ≤ l.length) (hA : Asc l) (h : Rows58Reads G l o) :
    Calls Tryz.prog 58 #[.string (ofL l)] w fun e w' => Gives G.n (RdRow 69 RdRings) (.slice none 0 0) o e w' ∧ Bel w w' := by
  have HF := Lib.hid (fold_calls l wMPoly w hs (asc_at hA) (asc_at asc_wMPoly))
  rcases h with ⟨hw, rfl⟩ | ⟨hw, hr⟩
  · have hf := HF.out
    rw [hw] at hf
    clear hw
    go_enter Tryz.func58, Tryz.ntmps58
    go_wp2_with (go_at_call 77; refine hf.mono ?_; rintro e w1 ⟨rfl, rfl⟩)
    go_ret2
    exact ⟨⟨_, rfl, [], own_empty w 69 1, .nil⟩, Bel.al _ _⟩
  · have hf := HF.out
    rw [hw] at hf
    clear hw
    have hsz := ofL_size l
    have hex := ofL_from l 12
    have hd : (l.drop 12).length ≤ l.length := by rw [List.length_drop]; omega
    rcases hr with ⟨hbk, rfl⟩ | ⟨q, hbk, hrun⟩
    · have HB := Lib.hid (brk_err (ofL (l.drop 12)) w (by rw [ofL_size]; omega) (errV G.n) hE.eN (by rw [toL_ofL]; exact hbk))
      clear hbk
      have hle : (12 : Int) ≤ ((ofL l).size : Int) := by omega
      rw [← hsz] at hex
      generalize ofL (l.drop 12) = y at *
      generalize ofL l = s at *
      clear hsz
      go_enter Tryz.func58, Tryz.ntmps58
      go_wp2_with (first | (go_at_call 77; refine hf.mono ?_; rintro e w1 ⟨rfl, rfl⟩) | (go_at_call 75; refine HB.out.mono ?_; rintro e w1 ⟨rfl, n, rfl⟩))
      go_ret2
      exact ⟨rfl, Bel.dr _ _⟩
    · have hql := brkL_le hbk
      have HB := Lib.hid (brk_ok (ofL (l.drop 12)) w (by rw [ofL_size]; omega) q (by rw [toL_ofL]; exact hbk))
      have HRUN := Lib.hid hrun
      have HE := Lib.hid hE
      have hmf := makeFunc_run
      have hle : (12 : Int) ≤ ((ofL l).size : Int) := by omega
      rw [← hsz] at hex
      generalize ofL (l.drop 12) = y at *
      generalize ofL l = s at *
      clear hsz hE hbk hrun
      go_enter Tryz.func58, Tryz.ntmps58
      go_wp2_with (first | (go_at_call 77; refine hf.mono ?_; rintro e w1 ⟨rfl, rfl⟩) | (go_at_call 75; refine HB.out.mono ?_; rintro e w1 ⟨rfl, rfl⟩))
      have hrun := HRUN.out
      refine (splitRx_calls (PolyStep G) (CapInv G w w.heap.size 80) [] (RowInv G w w.heap.size 80 69 RdRings) (Bel w) G.n 89 90 w.heap.size enter89 enter90 (fun _ _ h k => h.bel k) (fun n wx hI hn => set89_calls RdRings G w w.heap.size n wx hI hn) (fun a p r wx hS hI hl => polyStep90_calls G w w.heap.size a p r wx hS hI hl) (ofL q) (by rw [ofL_size]; omega) true o _ (by rw [toL_ofL]; exact hrun) ⟨HE.out, Bel.al _ _, Nat.le_refl _, _, heap_alloc_new w _⟩).mono ?_
      clear hrun
      cases o with
      | none =>
        rintro e w2 ⟨rfl, b2⟩
        have B2 := Lib.hid b2
        clear b2
        go_wp2
        go_ret2
        exact ⟨rfl, B2.out⟩
      | some ds =>
        rintro e w2 ⟨rfl, hE2, b2, hsz2, v6, xs6, hv6, hown6, heach6⟩
        have c6 : w2.cell? ⟨w.heap.size, 0, none⟩ = some v6 := by simp [World.cell?, hv6]
        have B2 := Lib.hid b2
        have HRD := Lib.hid (show RdRow 69 RdRings w2 v6 ds from ⟨xs6, ownsRow_base hown6 (Nat.zero_le _), heach6⟩)
        clear b2 hown6 heach6 hE2 hv6
        go_wp2
        go_ret2
        exact ⟨⟨_, rfl, HRD.out⟩, B2.out⟩
end Go.Proofs.YtghajgdiaopioaaGreatDoor
