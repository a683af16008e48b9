/- Walks: same (18). -/
import Derived.Test.YtghajgdiaopioaaGreatDoorW24
import Derived.Test.YtghajgdiaopioaaGreatDoorV02
set_option linter.unusedVariables false
set_option linter.unusedSimpArgs false

namespace Go.Proofs.YtghajgdiaopioaaGreatDoor
open Go.RowKit
attribute [local go_sem] run_store_float run_store_iface run_store_nilIface

set_option maxRecDepth 10000 in
set_option maxHeartbeats 2000000 in
theorem same_calls (d dd ee : Nat) (v u : Value) (s : Shp) (w : World) (hl : LenS d s) (hb : (ptsOf d s).length ≤ 1000000) (h : ShpAt dd w v s) (h' : ShpAt ee w u s) :
    Calls Tryz.prog 18 #[v, u] w fun e w' => e = .returned (.bool true) ∧ Bel w w' := by
  have HP1 := Lib.hid (fun wx (hb' : Bel w wx) => pointsOf_len d dd v s wx hl hb (ShpAt.bel hb' _ _ _ h))
  have HP2 := Lib.hid (fun wx (hb' : Bel w wx) => pointsOf_len d ee u s wx hl hb (ShpAt.bel hb' _ _ _ h'))
  have HSS := Lib.hid (fun wx (hb' : Bel w wx) => sameShape_calls d dd ee v u s wx hl (ShpAt.bel hb' _ _ _ h) (ShpAt.bel hb' _ _ _ h'))
  obtain ⟨d', k, ls, ps, L, P, rfl, rfl, rfl, hL, hP⟩ := shpAt_slices h
  obtain ⟨e', k2, ls2, ps2, L2, P2, rfl, he, rfl, hL2, hP2⟩ := shpAt_slices h'
  cases he
  obtain ⟨ao, cap, rfl⟩ := hL.slice
  obtain ⟨bo, cap2, rfl⟩ := partsAt_slice hP
  obtain ⟨ao2, cap3, rfl⟩ := hL2.slice
  obtain ⟨bo2, cap4, rfl⟩ := partsAt_slice hP2
  clear h h' hL hP hL2 hP2 hl hb
  generalize (ptsOf d (.mk k ls ps)).length = n at *
  generalize ls.length = m at *
  generalize ps.length = q at *
  obtain ⟨w1, hw1⟩ : ∃ w1, (w.alloc (.cells #[.int .i64 k, .slice ao m cap, .slice bo q cap2] 25)).alloc (.cells #[.int .i64 k, .slice ao2 m cap3, .slice bo2 q cap4] 25) = w1 := ⟨_, rfl⟩
  have hb0 : Bel w w1 := by rw [← hw1]; exact (Bel.al _ _).tr (Bel.al _ _)
  have hx1 : w1.heap[w.heap.size]? = some (.cells #[.int .i64 k, .slice ao m cap, .slice bo q cap2] 25 (0, 0)) := by
    rw [← hw1]; exact (Bel.al _ _).heap (heap_alloc_new _ _)
  have hx2 : w1.heap[w.heap.size + 1]? = some (.cells #[.int .i64 k, .slice ao2 m cap3, .slice bo2 q cap4] 25 (0, 0)) := by
    rw [← hw1]; exact heap_alloc2 _ _ _
  have HW1 := Lib.hid hw1
  have HB0 := Lib.hid hb0
  have HX1 := Lib.hid hx1
  have HX2 := Lib.hid hx2
  clear hw1 hb0 hx1 hx2
  go_enter Tryz.func18, Tryz.ntmps18
  go_wp2_with fail
  rw [HW1.out]
  have facts : ∀ wx, Bel w1 wx → wx.cell? ⟨w.heap.size, 0, none⟩ = some (.int .i64 k) ∧ wx.cell? ⟨w.heap.size, 1, none⟩ = some (.slice ao m cap) ∧ wx.cell? ⟨w.heap.size, 2, none⟩ = some (.slice bo q cap2) ∧
      wx.cell? ⟨w.heap.size + 1, 0, none⟩ = some (.int .i64 k) ∧ wx.cell? ⟨w.heap.size + 1, 1, none⟩ = some (.slice ao2 m cap3) ∧ wx.cell? ⟨w.heap.size + 1, 2, none⟩ = some (.slice bo2 q cap4) := fun wx hb => by
    have e1 := hb.heap HX1.out
    have e2 := hb.heap HX2.out
    simp [World.cell?, e1, e2]
  have HFA := Lib.hid facts
  clear facts
  refine (HP1.out w1 HB0.out).mono ?_
  rintro e w2 ⟨⟨x1, y1, rfl⟩, hb2⟩
  obtain ⟨f0, f1, f2, f3, f4, f5⟩ := HFA.out w2 hb2
  have HB2 := Lib.hid hb2
  clear hb2
  by_cases hn : n = 0
  · have gn : ((n : Int) == 0) = true := by rw [hn]; rfl
    clear hn
    go_wp2_with fail
    refine (HP2.out w2 (HB0.out.tr HB2.out)).mono ?_
    rintro e w3 ⟨⟨x2, y2, rfl⟩, hb3⟩
    clear f0 f1 f2 f3 f4 f5
    obtain ⟨f0, f1, f2, f3, f4, f5⟩ := HFA.out w3 (HB2.out.tr hb3)
    have HB3 := Lib.hid (HB2.out.tr hb3)
    clear hb3
    by_cases hq : q = 0
    · have gq : ((q : Int) == 0) = true := by rw [hq]; rfl
      clear hq
      go_wp2
      go_ret
      exact ⟨by simp, HB0.out.tr HB3.out⟩
    · have gq : ((q : Int) == 0) = false := ne_nat q 0 hq
      clear hq
      go_wp2_with fail
      refine (HSS.out w3 (HB0.out.tr HB3.out)).mono ?_
      rintro e w4 ⟨rfl, hb4⟩
      have HB4 := Lib.hid (HB0.out.tr (HB3.out.tr hb4))
      clear hb4
      go_wp2
      go_ret
      exact ⟨rfl, HB4.out⟩
  · have gn : ((n : Int) == 0) = false := ne_nat n 0 hn
    clear hn
    go_wp2_with fail
    refine (HSS.out w2 (HB0.out.tr HB2.out)).mono ?_
    rintro e w4 ⟨rfl, hb4⟩
    have HB4 := Lib.hid (HB0.out.tr (HB2.out.tr hb4))
    clear hb4
    go_wp2
    go_ret
    exact ⟨rfl, HB4.out⟩
end Go.Proofs.YtghajgdiaopioaaGreatDoor

/- Plain law: texts that are joined by commas are cut where they were joined. -/
namespace Go.Proofs.YtghajgdiaopioaaGreatDoor

/-- A text that neither begins nor ends with a blank. -/
def Tidy (t : List UInt8) : Prop := (∃ c t', t = c :: t' ∧ isSp c = false) ∧ (∃ t' c, t = t' ++ [c] ∧ isSp c = false)
/-- What stands behind words and commas. -/
def Spc (sp : List UInt8) : Prop := sp = [] ∨ sp = [32]

theorem tidy_brk (q : List UInt8) : Tidy (40 :: q ++ [41]) := ⟨⟨40, q ++ [41], by simp, rfl⟩, ⟨40 :: q, 41, by simp, rfl⟩⟩
theorem trim_tidy {t : List UInt8} (h : Tidy t) (h2 : 2 ≤ t.length) : trimL t = t := by
  obtain ⟨⟨c, t1, h3, h4⟩, ⟨t2, e, h5, h6⟩⟩ := h
  have hr : rstrip t = t := by rw [h5]; exact rstrip_snoc_no _ h6
  have hl : lead t = 0 := by rw [h3]; exact lead_cons_no _ h4
  unfold trimL
  rw [hr, hl, if_neg (by omega), List.drop_zero]
theorem trim_sp {sp t : List UInt8} (hs : Spc sp) (h : Tidy t) (h2 : 2 ≤ t.length) : trimL (sp ++ t) = t := by
  rcases hs with rfl | rfl
  · exact trim_tidy h h2
  · obtain ⟨⟨c, t1, h3, h4⟩, ⟨t2, e, h5, h6⟩⟩ := h
    have hr : rstrip ([32] ++ t) = [32] ++ t := by
      have : [32] ++ t = ([32] ++ t2) ++ [e] := by rw [h5]; simp
      rw [this]; exact rstrip_snoc_no _ h6
    have hl : lead ([32] ++ t) = 1 := by
      rw [show [32] ++ t = 32 :: t from rfl, lead_cons_sp _ (by rfl), h3, lead_cons_no _ h4]
    unfold trimL
    rw [hr, hl, if_neg (by simp; omega)]
    rfl
theorem brk_some {sp : List UInt8} (hs : Spc sp) (q : List UInt8) : brkL (sp ++ (40 :: q ++ [41])) = some (trimL q) := by
  unfold brkL
  rw [trim_sp hs (tidy_brk q) (by simp)]
  simp
/-! Cut at commas. -/
def NoC (t : List UInt8) : Prop := ∀ c ∈ t, c ≠ 44
theorem pg_app : ∀ (t cur pend r : List UInt8), NoC t → (∃ t' c, t = t' ++ [c] ∧ isSp c = false) → piecesGo cur pend false (t ++ r) = piecesGo (cur ++ pend ++ t) [] false r := by
  intro t
  induction t with
  | nil => rintro cur pend r _ ⟨t', c, h, _⟩; simp at h
  | cons c t ih =>
    rintro cur pend r hn ⟨t', e, h, he⟩
    have hc : c ≠ 44 := hn c (by simp)
    have hn' : NoC t := fun x hx => hn x (by simp [hx])
    rw [List.cons_append, piecesGo, if_neg hc]
    by_cases ht : t = []
    · subst ht
      have : c = e := by cases t' with | nil => simpa using h | cons a b => simp at h
      subst this
      rw [he]
      simp
    · have hl : ∃ t'' c, t = t'' ++ [c] ∧ isSp c = false := by
        cases t' with
        | nil => simp at h; exact absurd h.2 ht
        | cons a b => simp at h; exact ⟨b, e, h.2, he⟩
      cases hs : isSp c
      · rw [if_neg (by simp), if_neg (by simp), ih _ _ _ hn' hl]
        simp
      · rw [if_pos rfl, ih _ _ _ hn' hl]
        simp
theorem pg_comma {sp : List UInt8} (hs : Spc sp) {t : List UInt8} (h : Tidy t) (hn : NoC t) (cur r : List UInt8) : piecesGo cur [] false (44 :: sp ++ t ++ r) = cur :: piecesGo t [] false r := by
  obtain ⟨⟨c, t1, h3, h4⟩, hl⟩ := h
  subst h3
  have hc : c ≠ 44 := hn c (by simp)
  have key : ∀ pend, piecesGo cur pend true (c :: (t1 ++ r)) = cur :: piecesGo (c :: t1) [] false r := by
    intro pend
    rw [piecesGo, if_neg hc, if_neg (by simp [h4]), if_pos rfl]
    by_cases ht : t1 = []
    · subst ht; rfl
    · have hl' : ∃ t'' c, t1 = t'' ++ [c] ∧ isSp c = false := by
        obtain ⟨t', e, h, he⟩ := hl
        cases t' with
        | nil => simp at h; exact absurd h.2 ht
        | cons a b => simp at h; exact ⟨b, e, h.2, he⟩
      rw [pg_app t1 [c] [] r (fun x hx => hn x (by simp [hx])) hl']
      rfl
  rcases hs with rfl | rfl
  · rw [show (44 :: [] ++ c :: t1 ++ r : List UInt8) = 44 :: (c :: (t1 ++ r)) from by simp, piecesGo, if_pos rfl, key]
  · rw [show (44 :: [32] ++ c :: t1 ++ r : List UInt8) = 44 :: 32 :: (c :: (t1 ++ r)) from by simp, piecesGo, if_pos rfl, piecesGo, if_neg (by decide), if_pos (by rfl), key]
theorem pg_tail {sp : List UInt8} (hs : Spc sp) : ∀ (ts : List (List UInt8)) (cur : List UInt8), (∀ t ∈ ts, Tidy t ∧ NoC t) → piecesGo cur [] false (ts.flatMap fun u => 44 :: sp ++ u) = cur :: ts := by
  intro ts
  induction ts with
  | nil => intro cur _; simp [piecesGo]
  | cons t ts ih =>
    intro cur h
    rw [List.flatMap_cons, pg_comma hs (h t (by simp)).1 (h t (by simp)).2, ih t fun u hu => h u (by simp [hu])]
theorem pieces_jn {sp : List UInt8} (hs : Spc sp) (ts : List (List UInt8)) (h0 : ts ≠ []) (h : ∀ t ∈ ts, Tidy t ∧ NoC t) : pieces (jn sp ts) = ts := by
  cases ts with
  | nil => exact absurd rfl h0
  | cons t ts =>
    rw [jn, pieces, pg_app t [] [] _ (h t (by simp)).2 (h t (by simp)).1.2, pg_tail hs ts _ fun u hu => h u (by simp [hu])]
    simp

/-! Cut at brackets. -/
theorem isAt_app (a b : List UInt8) (i : Nat) (c : UInt8) : isAt (a ++ b) (a.length + i) c = isAt b i c := by
  unfold isAt
  rw [List.getElem?_append_right (by omega), Nat.add_sub_cancel_left]
theorem over_app (a b : List UInt8) (i : Nat) : over (a ++ b) (a.length + i) = a.length + over b i := by
  unfold over
  rw [show (a ++ b).drop (a.length + i) = b.drop i from by simp]
  omega
theorem step1_app (a b : List UInt8) (i : Nat) (c : UInt8) : step1 (a ++ b) (a.length + i) c = (step1 b i c).map (a.length + ·) := by
  unfold step1
  rw [over_app, isAt_app]
  split <;> rfl
def shiftQ (n : Nat) (q : Q4) : Q4 := (n + q.1, n + q.2.1, n + q.2.2.1, n + q.2.2.2)
theorem step1_pos {l : List UInt8} {i j : Nat} {c : UInt8} (h : step1 l i c = some j) : 1 ≤ j := by
  unfold step1 at h
  split at h
  · cases h; omega
  · cases h
theorem matchP_app (a b : List UInt8) (i : Nat) (d : Bool) : matchP (a ++ b) (a.length + i) d = (matchP b i d).map (shiftQ a.length) := by
  unfold matchP
  rw [isAt_app]
  by_cases h0 : isAt b i 41 = true
  · rw [if_pos h0, if_pos h0]
    have h1 : (if d then step1 (a ++ b) (a.length + i + 1) 41 else some (a.length + i + 1)) = (if d then step1 b (i + 1) 41 else some (i + 1)).map (a.length + ·) := by
      cases d
      · simp; omega
      · simp only [if_true]; rw [Nat.add_assoc, step1_app]
    rw [h1]
    generalize (if d then step1 b (i + 1) 41 else some (i + 1)) = f
    cases f with
    | none => rfl
    | some f =>
      simp only [Option.map_some]
      rw [step1_app]
      cases hg : step1 b f 44 with
      | none => rfl
      | some g =>
        simp only [Option.map_some]
        rw [step1_app]
        cases hh : step1 b g 40 with
        | none => rfl
        | some h =>
          have hp := step1_pos hh
          simp only [Option.map_some]
          cases d
          · simp [shiftQ]; omega
          · simp only [if_true]
            rw [step1_app]
            cases he : step1 b h 40 with
            | none => rfl
            | some e => simp [shiftQ]; omega
  · rw [if_neg h0, if_neg h0]; rfl
theorem findGo_app (a b : List UInt8) (d : Bool) : ∀ (n i : Nat), findGo (a ++ b) d n (a.length + i) = (findGo b d n i).map (shiftQ a.length) := by
  intro n
  induction n with
  | zero => intro i; rfl
  | succ n ih =>
    intro i
    rw [findGo, findGo, matchP_app]
    by_cases h : i < b.length
    · rw [if_pos h, if_pos (by rw [List.length_append]; omega)]
      cases hm : matchP b i d with
      | none => exact ih (i + 1)
      | some q => simp only [Option.map_some, List.map_cons]; exact congrArg _ (ih q.2.2.2)
    · rw [if_neg h, if_neg (by rw [List.length_append]; omega)]; rfl
theorem rx_app (a b : List UInt8) : ∀ (qs : List Q4) (st : Nat), rx (a ++ b) (a.length + st) (qs.map (shiftQ a.length)) = rx b st qs := by
  intro qs
  induction qs with
  | nil => intro st; simp [rx]
  | cons q qs ih =>
    intro st
    rw [List.map_cons, rx, rx]
    show ((a ++ b).take (a.length + q.2.1)).drop (a.length + st) :: rx (a ++ b) (a.length + q.2.2.1) (qs.map (shiftQ a.length)) = _
    rw [ih]
    congr 1
    simp [List.take_append, List.drop_append]
theorem findGo_skip (l : List UInt8) (d : Bool) (n : Nat) : ∀ (m i : Nat), (∀ j, i ≤ j → j < i + m → matchP l j d = none) → i + m ≤ l.length → findGo l d (n + m) i = findGo l d n (i + m) := by
  intro m
  induction m with
  | zero => intro i _ _; rfl
  | succ m ih =>
    intro i h hl
    rw [show n + (m + 1) = (n + m) + 1 from by omega, findGo, if_pos (by omega), h i (Nat.le_refl _) (by omega)]
    show findGo l d (n + m) (i + 1) = _
    rw [ih (i + 1) (fun j h1 h2 => h j (by omega) (by omega)) (by omega)]
    congr 1; omega
theorem findGo_none (l : List UInt8) (d : Bool) : ∀ (n i : Nat), (∀ j, i ≤ j → matchP l j d = none) → findGo l d n i = [] := by
  intro n
  induction n with
  | zero => intro i _; rfl
  | succ n ih =>
    intro i h
    rw [findGo, h i (Nat.le_refl _)]
    split
    · exact ih (i + 1) fun j hj => h j (by omega)
    · rfl
theorem matchP_off {l : List UInt8} {j : Nat} (d : Bool) (h : isAt l j 41 = false) : matchP l j d = none := by unfold matchP; rw [h]; rfl
theorem isAt_out {l : List UInt8} {j : Nat} (c : UInt8) (h : l.length ≤ j) : isAt l j c = false := by unfold isAt; rw [List.getElem?_eq_none h]; rfl

/-- A text between commas that is cut off as a whole: m is the place of its closing brackets, k how many open it. -/
structure RxT (d : Bool) (sp : List UInt8) (k m : Nat) (t : List UInt8) : Prop where
  km : k ≤ m
  mt : m < t.length
  inner : ∀ r j, j < m → matchP (t ++ r) j d = none
  fin : ∀ j, m ≤ j → matchP t j d = none
  cut : ∀ r, (∃ r', r = List.replicate k 40 ++ r') → matchP (t ++ 44 :: sp ++ r) m d = some (m, t.length, t.length + 1 + sp.length, t.length + 1 + sp.length + k)
  opens : ∃ r, t = List.replicate k 40 ++ r

/-- The last text between commas: nothing in it is cut. -/
structure RxZ (d : Bool) (k : Nat) (z : List UInt8) : Prop where
  no : ∀ j, matchP z j d = none
  opens : ∃ r, z = List.replicate k 40 ++ r
theorem RxT.z {d : Bool} {sp : List UInt8} {k m : Nat} {t : List UInt8} (h : RxT d sp k m t) : RxZ d k t := by
  refine ⟨fun j => ?_, h.opens⟩
  rcases Nat.lt_or_ge j m with h1 | h1
  · have := h.inner [] j h1; rwa [List.append_nil] at this
  · exact h.fin j h1
theorem jn_opens {sp : List UInt8} {k : Nat} : ∀ (ts : List (List UInt8)), ts ≠ [] → (∀ u ∈ ts, ∃ r, u = List.replicate k 40 ++ r) → ∃ r, jn sp ts = List.replicate k 40 ++ r := by
  intro ts h0 h
  cases ts with
  | nil => exact absurd rfl h0
  | cons t ts =>
    obtain ⟨r, hr⟩ := h t (by simp)
    exact ⟨r ++ ts.flatMap fun u => 44 :: sp ++ u, by rw [jn, ← List.append_assoc, ← hr]⟩
theorem rx_jn (d : Bool) (sp : List UInt8) (k : Nat) (z : List UInt8) (hz : RxZ d k z) : ∀ (ts : List (List UInt8)), (∀ u ∈ ts, ∃ m, RxT d sp k m u) → ∀ (n i0 : Nat), i0 ≤ k → (jn sp (ts ++ [z])).length < n + i0 →
    rx (jn sp (ts ++ [z])) 0 (findGo (jn sp (ts ++ [z])) d n i0) = ts ++ [z] := by
  intro ts
  induction ts with
  | nil =>
    intro _ n i0 hi hn
    rw [List.nil_append, show jn sp [z] = z from by simp [jn]] at hn ⊢
    rw [findGo_none z d n i0 fun j _ => hz.no j]
    rfl
  | cons t ts ih =>
    intro hts n i0 hi hn
    obtain ⟨m, h⟩ := hts t (by simp)
    obtain ⟨r2, hr2⟩ : ∃ r, jn sp (ts ++ [z]) = List.replicate k 40 ++ r := jn_opens _ (by simp) fun u hu => by
      rcases List.mem_append.1 hu with hu | hu
      · obtain ⟨m', h'⟩ := hts u (by simp [hu]); exact h'.opens
      · rw [List.mem_singleton.1 hu]; exact hz.opens
    have hj : jn sp (t :: ts ++ [z]) = (t ++ 44 :: sp) ++ jn sp (ts ++ [z]) := by
      cases ts with
      | nil => simp [jn]
      | cons a b => simp [jn]
    have ha : (t ++ 44 :: sp).length = t.length + 1 + sp.length := by simp; omega
    have hl : (jn sp (t :: ts ++ [z])).length = t.length + 1 + sp.length + (jn sp (ts ++ [z])).length := by rw [hj, List.length_append, ha]
    have hmt := h.mt
    have hkm := h.km
    obtain ⟨N, hN⟩ : ∃ N, (jn sp (t :: ts ++ [z])).length = N := ⟨_, rfl⟩
    rw [hN] at hn hl
    rw [findGo_more (jn sp (t :: ts ++ [z])) d n (N + 1 + (m - i0)) i0 (by omega) (by omega)]
    rw [findGo_skip _ d (N + 1) (m - i0) i0 (fun j h1 h3 => by rw [hj, List.append_assoc]; exact h.inner _ j (by omega)) (by omega)]
    rw [show i0 + (m - i0) = m from by omega]
    have hc : matchP (jn sp (t :: ts ++ [z])) m d = some (m, t.length, t.length + 1 + sp.length, t.length + 1 + sp.length + k) := by
      rw [hj]
      exact h.cut _ ⟨r2, hr2⟩
    rw [findGo, if_pos (by omega), hc]
    show rx _ 0 ((m, t.length, t.length + 1 + sp.length, t.length + 1 + sp.length + k) :: findGo (jn sp (t :: ts ++ [z])) d N (t.length + 1 + sp.length + k)) = _
    rw [rx]
    congr 1
    · show ((jn sp (t :: ts ++ [z])).take t.length).drop 0 = t
      rw [hj]; simp
    · show rx (jn sp (t :: ts ++ [z])) (t.length + 1 + sp.length) _ = _
      rw [hj, ← ha, findGo_app]
      have := rx_app (t ++ 44 :: sp) (jn sp (ts ++ [z])) (findGo (jn sp (ts ++ [z])) d N k) 0
      rw [Nat.add_zero] at this
      rw [this]
      exact ih (fun u hu => hts u (by simp [hu])) N k (Nat.le_refl _) (by omega)
theorem rxPieces_cut (d : Bool) (sp : List UInt8) (k : Nat) (ts : List (List UInt8)) (z : List UInt8) (h : ∀ u ∈ ts, ∃ m, RxT d sp k m u) (hz : RxZ d k z) : rxPieces (jn sp (ts ++ [z])) d = ts ++ [z] :=
  rx_jn d sp k z hz ts h _ 0 (Nat.zero_le _) (by omega)
theorem rxPieces_jn (d : Bool) (sp : List UInt8) (k : Nat) (ts : List (List UInt8)) (h0 : ts ≠ []) (h : ∀ u ∈ ts, ∃ m, RxT d sp k m u) : rxPieces (jn sp ts) d = ts := by
  rcases List.eq_nil_or_concat ts with rfl | ⟨ts', z, rfl⟩
  · exact absurd rfl h0
  · rw [List.concat_eq_append] at h ⊢
    obtain ⟨m, hm⟩ := h z (by simp)
    exact rxPieces_cut d sp k ts' z (fun u hu => h u (by simp [hu])) hm.z

theorem rxT_single {sp : List UInt8} (hs : Spc sp) (b : List UInt8) (hb : ∀ c ∈ b, c ≠ 41) : RxT false sp 1 (b.length + 1) (40 :: b ++ [41]) := by
  have hin : ∀ r j, j < b.length + 1 → matchP (40 :: b ++ [41] ++ r) j false = none := by
    intro r j hj
    apply matchP_off
    unfold isAt
    rw [List.append_assoc, List.getElem?_append_left (by simpa using hj)]
    cases j with
    | zero => rfl
    | succ j =>
      rw [List.getElem?_cons_succ, List.getElem?_eq_getElem (by omega)]
      have := hb (b[j]'(by omega)) (List.getElem_mem _)
      simpa using this
  refine ⟨by omega, by simp, hin, ?_, ?_, ⟨b ++ [41], rfl⟩⟩
  · intro j hj
    rcases Nat.lt_or_ge (b.length + 1) j with h | h
    · exact matchP_off _ (isAt_out _ (by simp; omega))
    · obtain rfl : j = (40 :: b).length + 0 := by simp; omega
      rw [matchP_app]; rfl
  · rintro r ⟨r', rfl⟩
    rw [show (40 :: b ++ [41] ++ 44 :: sp ++ (List.replicate 1 40 ++ r') : List UInt8) = (40 :: b) ++ (41 :: 44 :: (sp ++ 40 :: r')) from by simp]
    rw [show b.length + 1 = (40 :: b).length + 0 from by simp, matchP_app]
    rcases hs with rfl | rfl <;> simp [matchP, isAt, step1, over, isCl, shiftQ] <;> omega

/-- Behind a closing bracket stands a comma, but at the end. -/
def Qd : List UInt8 → Prop
  | [] => True
  | c :: r => (c = 41 → r = [] ∨ r.head? = some 44) ∧ Qd r
theorem Qd.app : ∀ {a b : List UInt8}, (∀ c ∈ a, c ≠ 41) → Qd b → Qd (a ++ b) := by
  intro a
  induction a with
  | nil => intro b _ h; exact h
  | cons c a ih => intro b h h2; exact ⟨fun hc => absurd hc (h c (by simp)), ih (fun x hx => h x (by simp [hx])) h2⟩
theorem Qd.at : ∀ {l : List UInt8} {j : Nat}, Qd l → l[j]? = some 41 → j + 1 < l.length → l[j + 1]? = some 44 := by
  intro l
  induction l with
  | nil => intro j _ h; simp at h
  | cons c l ih =>
    intro j hq h hl
    cases j with
    | zero =>
      simp at h
      rcases hq.1 h with h1 | h1
      · subst h1; simp at hl
      · rw [List.getElem?_cons_succ, ← List.head?_eq_getElem?]; exact h1
    | succ j => rw [List.getElem?_cons_succ] at h ⊢; exact ih hq.2 h (by simpa using hl)
def LineL (t : List UInt8) : Prop := ∃ b, t = 40 :: b ++ [41] ∧ ∀ c ∈ b, c ≠ 41
theorem qd_jn {sp : List UInt8} (hs : Spc sp) : ∀ (ts : List (List UInt8)), (∀ t ∈ ts, LineL t) → Qd (jn sp ts) := by
  have hsp : ∀ c ∈ sp, c ≠ 41 := by rcases hs with rfl | rfl <;> simp
  have ht : ∀ ts : List (List UInt8), (∀ t ∈ ts, LineL t) → Qd (ts.flatMap fun u => 44 :: sp ++ u) ∧ (ts = [] ∨ (ts.flatMap fun u => 44 :: sp ++ u).head? = some 44) := by
    intro ts
    induction ts with
    | nil => intro _; exact ⟨trivial, .inl rfl⟩
    | cons t ts ih =>
      intro h
      obtain ⟨h1, h2⟩ := ih fun u hu => h u (by simp [hu])
      obtain ⟨b, rfl, hb⟩ := h t (by simp)
      refine ⟨?_, .inr (by simp)⟩
      rw [List.flatMap_cons, show (44 :: sp ++ (40 :: b ++ [41]) ++ ts.flatMap fun u => 44 :: sp ++ u) = (44 :: sp ++ 40 :: b) ++ (41 :: ts.flatMap fun u => 44 :: sp ++ u) from by simp]
      refine Qd.app ?_ ⟨fun _ => ?_, h1⟩
      · intro c hc
        simp at hc
        rcases hc with rfl | hc | rfl | hc
        · decide
        · exact hsp c hc
        · decide
        · exact hb c hc
      · rcases h2 with rfl | h2
        · exact .inl rfl
        · exact .inr h2
  intro ts h
  cases ts with
  | nil => trivial
  | cons t ts =>
    obtain ⟨h1, h2⟩ := ht ts fun u hu => h u (by simp [hu])
    obtain ⟨b, rfl, hb⟩ := h t (by simp)
    rw [jn, show (40 :: b ++ [41] ++ ts.flatMap fun u => 44 :: sp ++ u) = (40 :: b) ++ (41 :: ts.flatMap fun u => 44 :: sp ++ u) from by simp]
    refine Qd.app ?_ ⟨fun _ => ?_, h1⟩
    · intro c hc
      simp at hc
      rcases hc with rfl | hc
      · decide
      · exact hb c hc
    · rcases h2 with rfl | h2
      · exact .inl rfl
      · exact .inr h2
theorem matchP_next {l : List UInt8} {j : Nat} (h : isAt l (j + 1) 44 = true) : matchP l j true = none := by
  have h1 : l[j + 1]? = some 44 := by simpa [isAt] using h
  have ho : over l (j + 1) = j + 1 := by
    have hlt := isAt_lt h
    unfold over
    rw [List.drop_eq_getElem_cons hlt]
    rw [List.getElem?_eq_getElem hlt] at h1
    rw [Option.some.inj h1]
    simp [isCl]
  have hs : step1 l (j + 1) 41 = none := by
    unfold step1
    rw [ho]
    rw [if_neg]
    unfold isAt; rw [h1]; decide
  unfold matchP
  rw [hs]
  simp
theorem jn_ends {sp : List UInt8} : ∀ (ts : List (List UInt8)), ts ≠ [] → (∀ t ∈ ts, LineL t) → ∃ b, jn sp ts = 40 :: b ++ [41] := by
  intro ts h0 h
  cases ts with
  | nil => exact absurd rfl h0
  | cons t ts =>
    obtain ⟨b, rfl, _⟩ := h t (by simp)
    have : ∀ ts : List (List UInt8), (∀ t ∈ ts, LineL t) → ts = [] ∨ ∃ b, (ts.flatMap fun u => 44 :: sp ++ u) = b ++ [41] := by
      intro ts
      induction ts with
      | nil => intro _; exact .inl rfl
      | cons t ts ih =>
        intro h
        obtain ⟨b, rfl, _⟩ := h t (by simp)
        right
        rcases ih fun u hu => h u (by simp [hu]) with rfl | ⟨b', hb'⟩
        · exact ⟨44 :: sp ++ 40 :: b, by simp⟩
        · exact ⟨44 :: sp ++ (40 :: b ++ [41]) ++ b', by rw [List.flatMap_cons, hb']; simp⟩
    rcases this ts fun u hu => h u (by simp [hu]) with rfl | ⟨b', hb'⟩
    · exact ⟨b, by simp [jn]⟩
    · exact ⟨b ++ 41 :: b', by rw [jn, hb']; simp⟩
theorem rxT_double {sp : List UInt8} (hs : Spc sp) (ts : List (List UInt8)) (h0 : ts ≠ []) (h : ∀ t ∈ ts, LineL t) : ∃ m, RxT true sp 2 m (40 :: jn sp ts ++ [41]) := by
  have hq := qd_jn hs ts h
  obtain ⟨b, hb⟩ := jn_ends (sp := sp) ts h0 h
  rw [hb] at hq ⊢
  refine ⟨b.length + 2, by omega, by simp, ?_, ?_, ?_, ⟨b ++ [41, 41], by simp [List.replicate]⟩⟩
  · intro r j hj
    cases h1 : isAt (40 :: (40 :: b ++ [41]) ++ [41] ++ r) j 41
    · exact matchP_off _ h1
    · apply matchP_next
      unfold isAt at h1 ⊢
      cases j with
      | zero => simp at h1
      | succ j =>
        rw [show (40 :: (40 :: b ++ [41]) ++ [41] ++ r : List UInt8) = 40 :: ((40 :: b ++ [41]) ++ ([41] ++ r)) from by simp] at h1 ⊢
        rw [List.getElem?_cons_succ] at h1 ⊢
        rw [List.getElem?_append_left (by simp; omega)] at h1 ⊢
        rw [hq.at (by simpa using h1) (by simp; omega)]
        rfl
  · intro j hj
    rw [show (40 :: (40 :: b ++ [41]) ++ [41] : List UInt8) = (40 :: 40 :: b) ++ [41, 41] from by simp]
    obtain ⟨i, rfl⟩ : ∃ i, j = (40 :: 40 :: b).length + i := ⟨j - (b.length + 2), by simp; omega⟩
    rw [matchP_app]
    match i with
    | 0 => rfl
    | 1 => rfl
    | n + 2 => rw [matchP_off _ (isAt_out _ (by simp))]; rfl
  · rintro r ⟨r', rfl⟩
    rw [show (40 :: (40 :: b ++ [41]) ++ [41] ++ 44 :: sp ++ (List.replicate 2 40 ++ r') : List UInt8) = (40 :: 40 :: b) ++ (41 :: 41 :: 44 :: (sp ++ 40 :: 40 :: r')) from by simp [List.replicate]]
    rw [show b.length + 2 = (40 :: 40 :: b).length + 0 from by simp, matchP_app]
    rcases hs with rfl | rfl <;> simp [matchP, isAt, step1, over, isCl, shiftQ] <;> omega

/-! Cut at the commas that stand in no brackets. -/
def Bal (k : Int) (t : List UInt8) : Prop := ∀ cur n r, k ≤ n → gcGo cur n (t ++ r) = gcGo (cur ++ t) n r
theorem Bal.mono {k k' : Int} {t : List UInt8} (h : Bal k t) (hk : k ≤ k') : Bal k' t := fun cur n r hn => h cur n r (by omega)
theorem Bal.nil (k : Int) : Bal k [] := fun cur n r _ => by simp
theorem Bal.one (k : Int) {c : UInt8} (h1 : c ≠ 40) (h2 : c ≠ 41) (h3 : c ≠ 44) : Bal k [c] := fun cur n r _ => by
  rw [List.cons_append, gcGo, if_neg h1, if_neg h2, if_neg h3]; rfl
theorem Bal.comma : Bal 1 [44] := fun cur n r hn => by
  rw [List.cons_append, gcGo, if_neg (by decide), if_neg (by decide), if_pos rfl, if_neg (by omega)]; rfl
theorem Bal.app {k : Int} {a b : List UInt8} (ha : Bal k a) (hb : Bal k b) : Bal k (a ++ b) := fun cur n r hn => by
  rw [List.append_assoc, ha _ _ _ hn, hb _ _ _ hn, List.append_assoc]
theorem Bal.all (k : Int) : ∀ {a : List UInt8}, (∀ c ∈ a, c ≠ 40 ∧ c ≠ 41 ∧ c ≠ 44) → Bal k a := by
  intro a
  induction a with
  | nil => intro _; exact Bal.nil k
  | cons c a ih => intro h; exact Bal.app (a := [c]) (Bal.one k (h c (by simp)).1 (h c (by simp)).2.1 (h c (by simp)).2.2) (ih fun x hx => h x (by simp [hx]))
theorem bal_brs {k : Int} {t : List UInt8} (h : Bal (k + 1) t) : Bal k (40 :: t ++ [41]) := fun cur n r hn => by
  rw [List.cons_append, List.cons_append, gcGo, if_pos rfl, List.append_assoc, h _ _ _ (by omega), List.cons_append, gcGo, if_neg (by decide), if_pos rfl]
  rw [show n + 1 - 1 = n from by omega]
  simp
theorem bal_sp {sp : List UInt8} (hs : Spc sp) (k : Int) : Bal k sp := Bal.all k (by rcases hs with rfl | rfl <;> simp)
theorem bal_jn {sp : List UInt8} (hs : Spc sp) (ts : List (List UInt8)) (h : ∀ t ∈ ts, Bal 1 t) : Bal 1 (jn sp ts) := by
  have : ∀ ts : List (List UInt8), (∀ t ∈ ts, Bal 1 t) → Bal 1 (ts.flatMap fun u => 44 :: sp ++ u) := by
    intro ts
    induction ts with
    | nil => intro _; exact Bal.nil 1
    | cons t ts ih => intro h; exact Bal.app (Bal.app (a := 44 :: sp) (Bal.app (a := [44]) Bal.comma (bal_sp hs 1)) (h t (by simp))) (ih fun u hu => h u (by simp [hu]))
  cases ts with
  | nil => exact Bal.nil 1
  | cons t ts => exact Bal.app (h t (by simp)) (this ts fun u hu => h u (by simp [hu]))
theorem gc_tail {sp : List UInt8} (hs : Spc sp) : ∀ (ts : List (List UInt8)) (cur : List UInt8), (∀ t ∈ ts, Bal 0 t ∧ Tidy t ∧ 2 ≤ t.length) → gcGo cur 0 (ts.flatMap fun u => 44 :: sp ++ u) = trimL cur :: ts := by
  intro ts
  induction ts with
  | nil => intro cur _; rfl
  | cons t ts ih =>
    intro cur h
    obtain ⟨h1, h2, h3⟩ := h t (by simp)
    rw [List.flatMap_cons, show (44 :: sp ++ t ++ ts.flatMap fun u => 44 :: sp ++ u) = 44 :: ((sp ++ t) ++ ts.flatMap fun u => 44 :: sp ++ u) from by simp, gcGo, if_neg (by decide), if_neg (by decide), if_pos rfl, if_pos rfl, (bal_sp hs 0).app h1 _ _ _ (Int.le_refl _), ih _ fun u hu => h u (by simp [hu]), List.nil_append, trim_sp hs h2 h3]
theorem gc_jn {sp : List UInt8} (hs : Spc sp) (ts : List (List UInt8)) (h0 : ts ≠ []) (h : ∀ t ∈ ts, Bal 0 t ∧ Tidy t ∧ 2 ≤ t.length) : gcGo [] 0 (jn sp ts) = ts := by
  cases ts with
  | nil => exact absurd rfl h0
  | cons t ts =>
    obtain ⟨h1, h2, h3⟩ := h t (by simp)
    rw [jn, h1 _ _ _ (Int.le_refl _), gc_tail hs ts _ fun u hu => h u (by simp [hu]), List.nil_append, trim_tidy h2 h3]
end Go.Proofs.YtghajgdiaopioaaGreatDoor
