/- Walks: IsWhole (23). -/
import Derived.Laws.OwnMore
import Derived.Test.YtghajgdiaopioaaGreatDoorW26
import Derived.Test.YtghajgdiaopioaaGreatDoorW28
set_option linter.unusedVariables false
set_option linter.unusedSimpArgs false

namespace Go.Proofs.YtghajgdiaopioaaGreatDoor
open Go.RowKit

end Go.Proofs.YtghajgdiaopioaaGreatDoor

/- What IsWhole lets in are the floats of whole numbers up to 1000. -/
namespace Go.Proofs.YtghajgdiaopioaaGreatDoor
open Go.RowKit

theorem dbl_sw : Ieee.double.signWeight = 9223372036854775808 := by decide
theorem dbl_bin : Ieee.double.binade = 4503599627370496 := by decide
theorem dbl_inf : Ieee.double.infRung = 9218868437227405312 := by decide
theorem dbl_lp : Ieee.double.leastPlace = -1074 := by decide
end Go.Proofs.YtghajgdiaopioaaGreatDoor

/- Walks: SameShape of two that are the same. -/
namespace Go.Proofs.YtghajgdiaopioaaGreatDoor
open Go.RowKit
attribute [local go_sem] run_store_float run_store_iface run_store_nilIface

/-- No list is too long. -/
def LenS : Nat → Shp → Prop
  | 0, _ => False
  | d + 1, .mk _ ls ps => ls.length ≤ 100000 ∧ ps.length ≤ 100000 ∧ (∀ l ∈ ls, l.length ≤ 100000) ∧ ∀ p ∈ ps, LenS d p

set_option maxRecDepth 10000 in
set_option maxHeartbeats 8000000 in
theorem sameShape_step (d dd ee : Nat) (k : Int) (ls : List (List Pt)) (ps : List Shp) (L P M Q : Value) (w : World) (hL : RowAt PtsAt w L ls) (hP : PartsAt (ShpAt dd) w P ps) (hM : RowAt PtsAt w M ls) (hQ : PartsAt (ShpAt ee) w Q ps) (h3 : ls.length ≤ 100000) (h4 : ps.length ≤ 100000) (h5 : ∀ l ∈ ls, l.length ≤ 100000)
    (ih : ∀ p ∈ ps, ∀ (v u : Value) (wx : World), ShpAt dd wx v p → ShpAt ee wx u p → Calls Tryz.prog 26 #[v, u] wx fun e w' => e = .returned (.bool true) ∧ Bel wx w') :
    Calls Tryz.prog 26 #[.agg #[.int .i64 k, L, P], .agg #[.int .i64 k, M, Q]] w fun e w' => e = .returned (.bool true) ∧ Bel w w' := by
  obtain ⟨ao, cap, rfl, -, hlc⟩ := hL
  obtain ⟨bo, cap2, rfl, -, hpc⟩ := hP
  obtain ⟨co, cap3, rfl, -, hmc⟩ := hM
  obtain ⟨do', cap4, rfl, -, hqc⟩ := hQ
  have HLC := Lib.hid hlc
  have HPC := Lib.hid hpc
  have HMC := Lib.hid hmc
  have HQC := Lib.hid hqc
  have HIH := Lib.hid ih
  have H5 := Lib.hid h5
  clear hlc hpc hmc hqc ih h5
  go_enter Tryz.func26, Tryz.ntmps26
  go_wp2_with fail
  have hbox : ((w.alloc (.cells #[.int .i64 k, .slice ao ls.length cap, .slice bo ps.length cap2] 25)).alloc (.cells #[.int .i64 k, .slice co ls.length cap3, .slice do' ps.length cap4] 25)).heap[w.heap.size]? = some (.cells #[.int .i64 k, .slice ao ls.length cap, .slice bo ps.length cap2] 25) := (Bel.al _ _).heap (heap_alloc_new _ _)
  have hbox2 : ((w.alloc (.cells #[.int .i64 k, .slice ao ls.length cap, .slice bo ps.length cap2] 25)).alloc (.cells #[.int .i64 k, .slice co ls.length cap3, .slice do' ps.length cap4] 25)).heap[w.heap.size + 1]? = some (.cells #[.int .i64 k, .slice co ls.length cap3, .slice do' ps.length cap4] 25) := heap_alloc2 _ _ _
  have hb0 : Bel w ((w.alloc (.cells #[.int .i64 k, .slice ao ls.length cap, .slice bo ps.length cap2] 25)).alloc (.cells #[.int .i64 k, .slice co ls.length cap3, .slice do' ps.length cap4] 25)) := (Bel.al _ _).tr (Bel.al _ _)
  have HBOX := Lib.hid hbox
  have HBOX2 := Lib.hid hbox2
  have HB0 := Lib.hid hb0
  clear hbox hbox2 hb0
  generalize ((w.alloc (.cells #[.int .i64 k, .slice ao ls.length cap, .slice bo ps.length cap2] 25)).alloc (.cells #[.int .i64 k, .slice co ls.length cap3, .slice do' ps.length cap4] 25)) = w1 at *
  go_loopg [33] ls.length (fun g s33 wr => ∃ (i : Nat), i ≤ ls.length ∧ g = ls.length - i ∧ s33 = .int .i64 i ∧ Bel w1 wr)
  case atStart => exact ⟨0, by omega, rfl, rfl, Below.refl _ _⟩
  case round =>
    obtain ⟨i, hi1, rfl, rfl, hbel⟩ := hrel
    by_cases hlt : i < ls.length
    · obtain ⟨l, hl⟩ : ∃ l, ls[i]? = some l := ⟨_, List.getElem?_eq_getElem hlt⟩
      obtain ⟨a, x, rfl, c0, hx⟩ := HLC.out i l hl
      obtain ⟨b, y, rfl, d0, hy⟩ := HMC.out i l hl
      have hbw := HB0.out.tr hbel
      have c0' := hbw.cellOf c0
      have d0' := hbw.cellOf d0
      have e1 : wr.cell? ⟨w.heap.size, 1, none⟩ = some (.slice (some a) ls.length cap) := by simp [World.cell?, hbel.heap HBOX.out]
      have e2 : wr.cell? ⟨w.heap.size + 1, 1, none⟩ = some (.slice (some b) ls.length cap3) := by simp [World.cell?, hbel.heap HBOX2.out]
      have HC := Lib.hid (fun wx (hb : Bel w wx) => samePoints_calls x y l wx (hx.bel hb) (hy.bel hb) (by have := H5.out l (List.mem_of_getElem? hl); omega))
      obtain ⟨ao1, cap1, rfl⟩ := hx.slice
      obtain ⟨ao2, cap5, rfl⟩ := hy.slice
      have HBEL := Lib.hid hbel
      have HBW := Lib.hid hbw
      have hi0 : (0 : Int) ≤ (i : Int) := by omega
      have hi2 : (i : Int) < (ls.length : Int) := by omega
      clear hbel hbw c0 d0 hx hy hl
      go_wp2_with fail
      go_region_held3 (fun w' => w'.cell? ⟨w.heap.size, 1, none⟩ = some (.slice (some a) ls.length cap) ∧ w'.cell? ⟨w.heap.size + 1, 1, none⟩ = some (.slice (some b) ls.length cap3) ∧ w'.cell? (a.add i) = some (.slice ao1 l.length cap1) ∧ w'.cell? (b.add i) = some (.slice ao2 l.length cap5)) (first | exact ⟨hc.cellOf e1, hc.cellOf e2, hc.cellOf c0', hc.cellOf d0'⟩ | go_keep)
        (first | (go_at_call 48; refine (HC.out _ (HBW.out.tr (Bel.dr1 _))).mono ?_; rintro e w3 ⟨rfl, hc⟩))
      have HB3 := Lib.hid (HBEL.out.tr ((Bel.dr1 _).tr hc))
      clear hc
      go_wp2
      go_roundg (ls.length - (i + 1))
      case measure => omega
      case rel => exact ⟨i + 1, by omega, rfl, by go_num, HB3.out⟩
    · obtain rfl : i = ls.length := by omega
      have hkz : ¬ ((ls.length : Int) < (ls.length : Int)) := by omega
      obtain ⟨w2, hw2⟩ : ∃ u, u = wr := ⟨_, rfl⟩
      subst hw2
      have HBEL := Lib.hid hbel
      have q2 : w2.cell? ⟨w.heap.size, 2, none⟩ = some (.slice bo ps.length cap2) := by simp [World.cell?, hbel.heap HBOX.out]
      clear hbel
      go_wp2_with fail
      clear q2
      go_loopg [52] ps.length (fun g s52 wr => ∃ (i : Nat), i ≤ ps.length ∧ g = ps.length - i ∧ s52 = .int .i64 i ∧ Bel w2 wr)
      case atStart => exact ⟨0, by omega, rfl, rfl, Below.refl _ _⟩
      case round =>
        obtain ⟨i, hj1, rfl, rfl, hbq⟩ := hrel
        by_cases hlt2 : i < ps.length
        · obtain ⟨s, hs⟩ : ∃ s, ps[i]? = some s := ⟨_, List.getElem?_eq_getElem hlt2⟩
          obtain ⟨a, c0, c1, c2, rfl, q0, q1, q2, hx⟩ := HPC.out i s hs
          obtain ⟨b, d0, d1, d2, rfl, r0, r1, r2, hy⟩ := HQC.out i s hs
          have hbw := HB0.out.tr (HBEL.out.tr hbq)
          have q0' := hbw.cellOf q0
          have q1' := hbw.cellOf q1
          have q2' := hbw.cellOf q2
          have r0' := hbw.cellOf r0
          have r1' := hbw.cellOf r1
          have r2' := hbw.cellOf r2
          have e1 : wr.cell? ⟨w.heap.size, 2, none⟩ = some (.slice (some a) ps.length cap2) := by simp [World.cell?, (HBEL.out.tr hbq).heap HBOX.out]
          have e2 : wr.cell? ⟨w.heap.size + 1, 2, none⟩ = some (.slice (some b) ps.length cap4) := by simp [World.cell?, (HBEL.out.tr hbq).heap HBOX2.out]
          have HC := Lib.hid (fun wx (hb : Bel w wx) => HIH.out s (List.mem_of_getElem? hs) (.agg #[c0, c1, c2]) (.agg #[d0, d1, d2]) wx (ShpAt.bel hb _ _ _ hx) (ShpAt.bel hb _ _ _ hy))
          obtain ⟨k2, a1, n1, k1, a2, n2, k3, rfl, rfl, rfl⟩ : ∃ k2 a1 n1 k1 a2 n2 k3, c0 = .int .i64 k2 ∧ c1 = .slice a1 n1 k1 ∧ c2 = .slice a2 n2 k3 := by
            obtain ⟨d', kk, lls, pps, L', P', rfl, rfl, he, hL', hP'⟩ := shpAt_slices hx
            cases he
            obtain ⟨a1, k1, rfl⟩ := hL'.slice
            obtain ⟨a2, k2, rfl⟩ := partsAt_slice hP'
            exact ⟨kk, _, _, _, _, _, _, rfl, rfl, rfl⟩
          obtain ⟨j2, b1, m1, j1, b2, m2, j3, rfl, rfl, rfl⟩ : ∃ k2 a1 n1 k1 a2 n2 k3, d0 = .int .i64 k2 ∧ d1 = .slice a1 n1 k1 ∧ d2 = .slice a2 n2 k3 := by
            obtain ⟨d', kk, lls, pps, L', P', rfl, rfl, he, hL', hP'⟩ := shpAt_slices hy
            cases he
            obtain ⟨a1, k1, rfl⟩ := hL'.slice
            obtain ⟨a2, k2, rfl⟩ := partsAt_slice hP'
            exact ⟨kk, _, _, _, _, _, _, rfl, rfl, rfl⟩
          have HBQ := Lib.hid hbq
          have HBW := Lib.hid hbw
          have hi0 : (0 : Int) ≤ (i : Int) := by omega
          have hi2 : (i : Int) < (ps.length : Int) := by omega
          clear hbq hbw q0 q1 q2 r0 r1 r2 hx hy hs
          go_wp2_with fail
          go_region_held3 (fun w' => w'.cell? ⟨w.heap.size, 2, none⟩ = some (.slice (some a) ps.length cap2) ∧ w'.cell? ⟨w.heap.size + 1, 2, none⟩ = some (.slice (some b) ps.length cap4) ∧ w'.cell? (a.add (i * 3)) = some (.int .i64 k2) ∧ w'.cell? ⟨(a.add (i * 3)).block, (a.add (i * 3)).off + 1, none⟩ = some (.slice a1 n1 k1) ∧ w'.cell? ⟨(a.add (i * 3)).block, (a.add (i * 3)).off + 2, none⟩ = some (.slice a2 n2 k3) ∧ w'.cell? (b.add (i * 3)) = some (.int .i64 j2) ∧ w'.cell? ⟨(b.add (i * 3)).block, (b.add (i * 3)).off + 1, none⟩ = some (.slice b1 m1 j1) ∧ w'.cell? ⟨(b.add (i * 3)).block, (b.add (i * 3)).off + 2, none⟩ = some (.slice b2 m2 j3)) (first | exact ⟨hc.cellOf e1, hc.cellOf e2, hc.cellOf q0', hc.cellOf q1', hc.cellOf q2', hc.cellOf r0', hc.cellOf r1', hc.cellOf r2'⟩ | go_keep)
            (first | (go_at_call 26; refine (HC.out _ (HBW.out.tr (Bel.dr1 _))).mono ?_; rintro e w3 ⟨rfl, hc⟩))
          have HB3 := Lib.hid (HBQ.out.tr ((Bel.dr1 _).tr hc))
          clear hc
          go_wp2
          go_roundg (ps.length - (i + 1))
          case measure => omega
          case rel => exact ⟨i + 1, by omega, rfl, by go_num, HB3.out⟩
        · obtain rfl : i = ps.length := by omega
          have hkz2 : ¬ ((ps.length : Int) < (ps.length : Int)) := by omega
          have HBQ := Lib.hid (HB0.out.tr (HBEL.out.tr hbq))
          clear hbq
          go_wp2
          go_ret
          exact ⟨rfl, HBQ.out⟩
theorem sameShape_calls : ∀ (d dd ee : Nat) (v u : Value) (s : Shp) (w : World), LenS d s → ShpAt dd w v s → ShpAt ee w u s → Calls Tryz.prog 26 #[v, u] w fun e w' => e = .returned (.bool true) ∧ Bel w w' := by
  intro d
  induction d with
  | zero => intro dd ee v u s w h; exact h.elim
  | succ d ih =>
    intro dd ee v u s w hl h h'
    obtain ⟨d', k, ls, ps, L, P, rfl, rfl, rfl, hL, hP⟩ := shpAt_slices h
    obtain ⟨d2, k2, ls2, ps2, M, Q, rfl, he, rfl, hM, hQ⟩ := shpAt_slices h'
    cases he
    obtain ⟨h3, h4, h5, h6⟩ := hl
    exact sameShape_step d d' d2 k ls ps L P M Q w hL hP hM hQ h3 h4 h5 fun p hp v u wx hv hu => ih d' d2 v u p wx (h6 p hp) hv hu
end Go.Proofs.YtghajgdiaopioaaGreatDoor

/- Walks: PointsOf. -/
namespace Go.Proofs.YtghajgdiaopioaaGreatDoor
open Go.RowKit
attribute [local go_sem] run_store_float run_store_iface run_store_nilIface

theorem ptsCells_length (l : List Pt) : (ptsCells l).length = l.length * 2 := by
  induction l with
  | nil => rfl
  | cons p l ih => rw [show ptsCells (p :: l) = .float .f64 p.1 :: .float .f64 p.2 :: ptsCells l from rfl]; simp [ih]; omega
theorem ptsAt_news {w : World} {a : Addr} {l : List Pt} (h : ∀ i p, l[i]? = some p → ∃ b, some a = some b ∧ w.cell? (b.add (i * 2)) = some (.float .f64 p.1) ∧ w.cell? ⟨(b.add (i * 2)).block, (b.add (i * 2)).off + 1, none⟩ = some (.float .f64 p.2)) :
    ∀ j u, (ptsCells l)[j]? = some u → w.cell? (a.add j) = some u := by
  intro j u hu
  have hlt : j < l.length * 2 := by
    rcases Nat.lt_or_ge j (l.length * 2) with h | h
    · exact h
    · rw [List.getElem?_eq_none (by rw [ptsCells_length]; exact h)] at hu; cases hu
  have hj : j = j / 2 * 2 + j % 2 := by omega
  obtain ⟨p, hp⟩ : ∃ p, l[j / 2]? = some p := ⟨_, List.getElem?_eq_getElem (by omega)⟩
  obtain ⟨b, hb, c0, c1⟩ := h (j / 2) p hp
  cases hb
  have hat := ptsCells_at l (j / 2) (j % 2) (by omega)
  rw [← hj, hu, hp] at hat
  have h2 : j % 2 = 0 ∨ j % 2 = 1 := by omega
  rcases h2 with h2 | h2
  · rw [h2] at hat
    simp at hat
    rw [show a.add j = a.add (j / 2 * 2) from by congr 1; omega, c0, hat]
  · rw [h2] at hat
    simp at hat
    have : a.add j = ⟨(a.add (j / 2 * 2)).block, (a.add (j / 2 * 2)).off + 1, none⟩ := by
      unfold Addr.add
      rw [if_neg (by omega)]
      split
      · rename_i h0
        rw [show j = 1 from by omega]
      · rw [show a.off + j = a.off + j / 2 * 2 + 1 from by omega]
    rw [this, c1, hat]

theorem run_append_none_cap (w : World) (base : Nat) (ty : TypeId) (i : TypeInfo) (hi : Tryz.prog.info? 49 = some i) (v : Value) (n cap : Nat) (xs : List Value) (hown : w.ownsRow base 49 2 v n xs) :
    (Builtin.append_ #[27, 27] ty #[v, .slice none 0 cap]).run Tryz.prog w = .ok v w := by
  rcases hown.2 with ⟨rfl, rfl⟩ | ⟨g, cap, cur, rfl, _, _, hnc, _⟩
  · simp [Builtin.append_, run_underlying Tryz.underlying27, sizeOf, typeInfo, hi, Builtin.lenOf, Builtin.firstCells]
  · simp [Builtin.append_, run_underlying Tryz.underlying27, sizeOf, typeInfo, hi, Builtin.lenOf, Builtin.firstCells, hnc, storeCells]
theorem wpList_append_pts {ops : Array Oper} {rest : List Oper} {o : Oper} {a : Act} {Q : Exit → Act → World → Prop} (w : World) (hgd : o.guard = none) (s x : Operand)
    (ho : o.op = .call { callee := .builtin .append, args := #[s, x], argTypes := #[27, 27] })
    (base : Nat) (i : TypeInfo) (hi : Tryz.prog.info? 49 = some i) (hz : i.zero = some (.agg #[.float .f64 0, .float .f64 0]))
    (hsize : i.size = 2) (hby : i.bytes = 16)
    (v : Value) (n : Nat) (xs : List Value) (hs : a.eval s = v) (hown : w.ownsRow base 49 2 v n xs)
    (xv : Value) (l : List Pt) (hx : a.eval x = xv) (hp : PtsAt w xv l)
    (hb : n + l.length ≤ 1000000000) (hbase : base ≤ w.heap.size)
    (h : ∀ v' w', w'.ownsRow base 49 2 v' (n + l.length) (xs ++ ptsCells l) → w.grownBy w' v.ownBlock → wpList Tryz.prog ops Q rest (a.put o.dst v') w') :
    wpList Tryz.prog ops Q (o :: rest) a w := by
  obtain ⟨ao, cap, rfl, hm, hc⟩ := hp
  cases ao with
  | some ad =>
    exact wpList_append_own _ hgd s x 27 ho base 49 i _ 2 16 Tryz.underlying27 hi hz hsize hby rfl (by decide) v n xs hs hown ad l.length cap (ptsCells l) hx (ptsCells_length l) (ptsAt_news hc)
      (fun u hu => by simp only [ptsCells, List.mem_flatMap, ptsCells] at hu; obtain ⟨p, _, hu⟩ := hu; simp [ptCells] at hu; rcases hu with rfl | rfl <;> rfl) (by unfold maxLen; omega) (by omega) hbase (fun v' w' h1 h2 _ => h v' w' h1 h2)
  | none =>
    have hl : l = [] := by
      cases l with
      | nil => rfl
      | cons p l => obtain ⟨b, hb, _⟩ := hc 0 p rfl; cases hb
    subst hl
    refine wpList_plain hgd fun K hK => ?_
    have hr := run_append_none_cap w base o.type i hi v n cap xs hown
    unfold Oper.wp execOp
    simp only [ho, resolve, invoke, builtin, Sem.run_bind, Sem.run_pure, Result.andThen_ok, List.map_toArray, List.map_cons, List.map_nil, hs, hx, List.length_nil, hr]
    exact hK _ _ (h v w (by simpa [ptsCells] using hown) ⟨rfl, rfl, rfl, Nat.le_refl _, fun _ _ _ => rfl⟩)
end Go.Proofs.YtghajgdiaopioaaGreatDoor

/- Walks: PointsOf. -/
namespace Go.Proofs.YtghajgdiaopioaaGreatDoor
open Go.RowKit
attribute [local go_sem] run_store_float run_store_iface run_store_nilIface

/-- All points of a shape. -/
def ptsOf : Nat → Shp → List Pt
  | 0, _ => []
  | d + 1, .mk _ ls ps => ls.flatten ++ (ps.map (ptsOf d)).flatten
theorem sum_take_le {α : Type} (f : α → Nat) (l : List α) (k : Nat) : ((l.take k).map f).sum ≤ (l.map f).sum := by
  conv => rhs; rw [← List.take_append_drop k l]
  rw [List.map_append, List.sum_append]
  omega
theorem ptsOf_length : ∀ (d : Nat) (s : Shp), (ptsOf d s).length = ptsN d s := by
  intro d
  induction d with
  | zero => intro s; rfl
  | succ d ih =>
    intro s
    obtain ⟨k, ls, ps⟩ := s
    rw [ptsOf, ptsN, List.length_append, List.length_flatten, List.length_flatten, List.map_map]
    congr 2
    exact List.map_congr_left fun p _ => ih p
theorem flatten_take_le (ls : List (List Pt)) (k : Nat) : (ls.take k).flatten.length ≤ ls.flatten.length := by
  rw [List.length_flatten, List.length_flatten]; exact sum_take_le _ _ _

set_option maxRecDepth 10000 in
set_option maxHeartbeats 8000000 in
theorem pointsOf_step (d dd : Nat) (k : Int) (ls : List (List Pt)) (ps : List Shp) (L P : Value) (w : World) (hL : RowAt PtsAt w L ls) (hP : PartsAt (ShpAt dd) w P ps) (h3 : ls.length ≤ 100000) (h4 : ps.length ≤ 100000) (hB : (ptsOf (d + 1) (.mk k ls ps)).length ≤ 1000000)
    (ih : ∀ p ∈ ps, (ptsOf d p).length ≤ 1000000 → ∀ (v : Value) (wx : World), ShpAt dd wx v p → Calls Tryz.prog 12 #[v] wx fun e w' => ∃ x, e = .returned x ∧ w'.ownsRow wx.heap.size 49 2 x (ptsOf d p).length (ptsCells (ptsOf d p)) ∧ Bel wx w') :
    Calls Tryz.prog 12 #[.agg #[.int .i64 k, L, P]] w fun e w' => ∃ x, e = .returned x ∧ w'.ownsRow w.heap.size 49 2 x (ptsOf (d + 1) (.mk k ls ps)).length (ptsCells (ptsOf (d + 1) (.mk k ls ps))) ∧ Bel w w' := by
  obtain ⟨i0, hi, hz0, hz1, hz2⟩ := info_parts (show (Tryz.prog.info? 49).map (fun i => (i.zero, i.size, i.bytes)) = some (some (.agg #[.float .f64 0, .float .f64 0]), 2, 16) by kernel_rfl)
  obtain ⟨ao, cap, rfl, -, hlc⟩ := hL
  obtain ⟨bo, cap2, rfl, -, hpc⟩ := hP
  have HLC := Lib.hid hlc
  have HPC := Lib.hid hpc
  have HIH := Lib.hid ih
  rw [ptsOf, List.length_append] at hB
  have HBB := Lib.hid hB
  clear hlc hpc ih hB
  go_enter Tryz.func12, Tryz.ntmps12
  go_wp2_with fail
  have hbox : ((w.alloc (.cells #[.int .i64 k, .slice ao ls.length cap, .slice bo ps.length cap2] 25)).alloc (.cells #[] 49)).heap[w.heap.size]? = some (.cells #[.int .i64 k, .slice ao ls.length cap, .slice bo ps.length cap2] 25) := (Bel.al _ _).heap (heap_alloc_new _ _)
  have hrow : ((w.alloc (.cells #[.int .i64 k, .slice ao ls.length cap, .slice bo ps.length cap2] 25)).alloc (.cells #[] 49)).ownsRow (w.heap.size + 1) 49 2 (.slice (some ⟨w.heap.size + 1, 0, none⟩) 0 0) 0 [] := ⟨by simp, .inr ⟨w.heap.size + 1, 0, #[], by simp, Nat.le_refl _, heap_alloc2 _ _ _, Nat.le_refl _, Nat.zero_le _, by simp, by simp⟩⟩
  have hb0 : Bel w ((w.alloc (.cells #[.int .i64 k, .slice ao ls.length cap, .slice bo ps.length cap2] 25)).alloc (.cells #[] 49)) := (Bel.al _ _).tr (Bel.al _ _)
  have HBOX := Lib.hid hbox
  have HROW := Lib.hid hrow
  have HB0 := Lib.hid hb0
  clear hbox hrow hb0
  generalize ((w.alloc (.cells #[.int .i64 k, .slice ao ls.length cap, .slice bo ps.length cap2] 25)).alloc (.cells #[] 49)) = w1 at *
  go_loopg [3, 12] ls.length (fun g s3 s12 wr => ∃ (i : Nat), i ≤ ls.length ∧ g = ls.length - i ∧ s12 = .int .i64 i ∧ Hid (wr.ownsRow (w.heap.size + 1) 49 2 s3 ((ls.take i).flatten).length (ptsCells (ls.take i).flatten) ∧ Bel w wr ∧ wr.heap[w.heap.size]? = some (.cells #[.int .i64 k, .slice ao ls.length cap, .slice bo ps.length cap2] 25)))
  case atStart => exact ⟨0, by omega, rfl, rfl, HROW.out, HB0.out, HBOX.out⟩
  case round =>
    obtain ⟨i, hi1, rfl, rfl, hh⟩ := hrel
    by_cases hlt : i < ls.length
    · obtain ⟨hown, hbel, hbx⟩ := hh.out
      obtain ⟨l, hl⟩ : ∃ l, ls[i]? = some l := ⟨_, List.getElem?_eq_getElem hlt⟩
      obtain ⟨a, x, rfl, c0, hx⟩ := HLC.out i l hl
      have c0' := hbel.cellOf c0
      have HX := Lib.hid (hx.bel hbel)
      obtain ⟨ao1, cap1, rfl⟩ := hx.slice
      have htk : (ls.take (i + 1)).flatten = (ls.take i).flatten ++ l := by rw [List.take_add_one, hl]; simp
      have hle := flatten_take_le ls (i + 1)
      rw [htk, List.length_append] at hle
      have hle2 : ((ls.take i).flatten).length + l.length ≤ 1000000000 := by have := HBB.out; omega
      have HTK := Lib.hid htk
      have HOWN := Lib.hid hown
      have HBEL := Lib.hid hbel
      have HBX := Lib.hid hbx
      have HLE2 := Lib.hid hle2
      clear hown hbel hbx hx c0 hl hh htk hle hle2
      go_wp2_with (at_builtin; refine wpList_append_pts _ rfl (.tmp 16) (.tmp 17) rfl (w.heap.size + 1) i0 hi hz0 hz1 hz2 _ _ _ rfl HOWN.out _ l rfl HX.out HLE2.out (by have := lt_heap HBX.out; omega) ?_)
      intro v' w' h2 h3
      have H2 := Lib.hid h2
      have H3 := Lib.hid h3
      clear h2 h3
      go_wp2
      go_roundg (ls.length - (i + 1))
      case measure => omega
      case rel =>
        refine ⟨i + 1, by omega, rfl, by go_num, ?_, ?_, ?_⟩
        · rw [HTK.out, List.length_append, show ptsCells ((ls.take i).flatten ++ l) = ptsCells (ls.take i).flatten ++ ptsCells l from by simp [ptsCells]]
          simpa using H2.out
        · refine HBEL.out.trans (Below.grown (Below.refl _ _) H3.out HBEL.out.size ?_)
          intro k hk
          have := (HOWN.out.lt k hk).1
          omega
        · exact grown_heap H3.out HBX.out (fun hc => by have := (HOWN.out.lt _ hc.symm).1; omega)
    · obtain rfl : i = ls.length := by omega
      have hkz : ¬ ((ls.length : Int) < (ls.length : Int)) := by omega
      have hh2 := hh.out
      rw [List.take_length] at hh2
      have HH2 := Lib.hid hh2
      have q2 : wr.cell? ⟨w.heap.size, 2, none⟩ = some (.slice bo ps.length cap2) := by simp [World.cell?, hh2.2.2]
      clear hh hh2
      go_wp2_with fail
      clear q2
      go_loopg [3, 23] ps.length (fun g s3 s23 wr => ∃ (i : Nat), i ≤ ps.length ∧ g = ps.length - i ∧ s23 = .int .i64 i ∧ Hid (wr.ownsRow (w.heap.size + 1) 49 2 s3 (ls.flatten ++ ((ps.take i).map (ptsOf d)).flatten).length (ptsCells (ls.flatten ++ ((ps.take i).map (ptsOf d)).flatten)) ∧ Bel w wr ∧ w.heap.size + 1 ≤ wr.heap.size))
      case atStart => exact ⟨0, by omega, rfl, rfl, by simpa using HH2.out.1, HH2.out.2.1, by have := lt_heap HH2.out.2.2; omega⟩
      case round =>
        obtain ⟨i, hj1, rfl, rfl, hq⟩ := hrel
        by_cases hlt2 : i < ps.length
        · obtain ⟨hown, hbel, hsz⟩ := hq.out
          have HSZ := Lib.hid hsz
          obtain ⟨s, hs⟩ : ∃ s, ps[i]? = some s := ⟨_, List.getElem?_eq_getElem hlt2⟩
          obtain ⟨a, c0, c1, c2, rfl, q0, q1, q2, hx⟩ := HPC.out i s hs
          have q0' := hbel.cellOf q0
          have q1' := hbel.cellOf q1
          have q2' := hbel.cellOf q2
          have htk : ((ps.take (i + 1)).map (ptsOf d)).flatten = ((ps.take i).map (ptsOf d)).flatten ++ ptsOf d s := by rw [List.take_add_one, hs]; simp
          have hle := flatten_take_le (ps.map (ptsOf d)) (i + 1)
          rw [← List.map_take, htk, List.length_append] at hle
          have hsl : (ptsOf d s).length ≤ 1000000 := by have := HBB.out; omega
          have hle2 : (ls.flatten ++ ((ps.take i).map (ptsOf d)).flatten).length + (ptsOf d s).length ≤ 1000000000 := by have := HBB.out; rw [List.length_append]; omega
          have HX := Lib.hid (fun wx (hb : Bel w wx) => HIH.out s (List.mem_of_getElem? hs) hsl (.agg #[c0, c1, c2]) wx (ShpAt.bel hb dd _ _ hx))
          obtain ⟨k2, a1, n1, k1, a2, n2, k3, rfl, rfl, rfl⟩ : ∃ k2 a1 n1 k1 a2 n2 k3, c0 = .int .i64 k2 ∧ c1 = .slice a1 n1 k1 ∧ c2 = .slice a2 n2 k3 := by
            obtain ⟨d', kk, lls, pps, L', P', rfl, rfl, he, hL', hP'⟩ := shpAt_slices hx
            cases he
            obtain ⟨a1, k1, rfl⟩ := hL'.slice
            obtain ⟨a2, k2, rfl⟩ := partsAt_slice hP'
            exact ⟨kk, _, _, _, _, _, _, rfl, rfl, rfl⟩
          have HTK := Lib.hid htk
          have HOWN := Lib.hid hown
          have HBEL := Lib.hid hbel
          have HLE2 := Lib.hid hle2
          clear hown hbel hsz hx q0 q1 q2 hs hq htk hle hle2 hsl
          go_wp2_with fail
          have hb2 : Bel wr (wr.alloc (.cells #[.int .i64 k2, .slice a1 n1 k1, .slice a2 n2 k3] 25)) := Bel.al _ _
          have HB2 := Lib.hid hb2
          clear hb2
          generalize wr.alloc (.cells #[.int .i64 k2, .slice a1 n1 k1, .slice a2 n2 k3] 25) = w2 at *
          refine (HX.out w2 (HBEL.out.tr HB2.out)).mono ?_
          rintro e w3 ⟨y, rfl, hy, hb3⟩
          have HB3 := Lib.hid (HB2.out.tr hb3)
          have HY := Lib.hid (own_pts hy)
          obtain ⟨ao1, cap1, rfl⟩ := own_slice hy
          clear hb3 hy
          go_wp2_with (at_builtin; refine wpList_append_pts _ rfl (.tmp 27) (.tmp 29) rfl (w.heap.size + 1) i0 hi hz0 hz1 hz2 _ _ _ rfl (ownsRow_bel HOWN.out HB3.out) _ (ptsOf d s) rfl HY.out HLE2.out (Nat.le_trans HSZ.out HB3.out.size) ?_)
          intro v' w' h2 h3
          have H2 := Lib.hid h2
          have H3 := Lib.hid h3
          clear h2 h3
          go_wp2
          go_roundg (ps.length - (i + 1))
          case measure => omega
          case rel =>
            refine ⟨i + 1, by omega, rfl, by go_num, ?_, ?_, Nat.le_trans HSZ.out (Nat.le_trans HB3.out.size H3.out.size)⟩
            · rw [HTK.out, ← List.append_assoc, List.length_append, show ptsCells (ls.flatten ++ ((ps.take i).map (ptsOf d)).flatten ++ ptsOf d s) = ptsCells (ls.flatten ++ ((ps.take i).map (ptsOf d)).flatten) ++ ptsCells (ptsOf d s) from by simp [ptsCells]]
              simpa using H2.out
            · refine (HBEL.out.tr HB3.out).trans (Below.grown (Below.refl _ _) H3.out (Nat.le_trans HBEL.out.size HB3.out.size) ?_)
              intro k hk
              have := (HOWN.out.lt k hk).1
              omega
        · obtain rfl : i = ps.length := by omega
          have hkz2 : ¬ ((ps.length : Int) < (ps.length : Int)) := by omega
          go_wp2
          go_ret
          obtain ⟨hown, hbel, -⟩ := hq.out
          rw [List.take_length] at hown
          exact ⟨_, rfl, ownsRow_base hown (Nat.le_succ _), hbel⟩
end Go.Proofs.YtghajgdiaopioaaGreatDoor

/- Walks: PointsOf by depth, isEmpty, IsFull. -/
namespace Go.Proofs.YtghajgdiaopioaaGreatDoor
open Go.RowKit
attribute [local go_sem] run_store_float run_store_iface run_store_nilIface

theorem pointsOf_all : ∀ (d dd : Nat) (v : Value) (s : Shp) (w : World), LenS d s → (ptsOf d s).length ≤ 1000000 → ShpAt dd w v s → Calls Tryz.prog 12 #[v] w fun e w' => ∃ x, e = .returned x ∧ w'.ownsRow w.heap.size 49 2 x (ptsOf d s).length (ptsCells (ptsOf d s)) ∧ Bel w w' := by
  intro d
  induction d with
  | zero => intro dd v s w h; exact h.elim
  | succ d ih =>
    intro dd v s w hl hb h
    obtain ⟨d', k, ls, ps, L, P, rfl, rfl, rfl, hL, hP⟩ := shpAt_slices h
    obtain ⟨h3, h4, h5, h6⟩ := hl
    exact pointsOf_step d d' k ls ps L P w hL hP h3 h4 hb fun p hp hb' v wx hv => ih d' v p wx (h6 p hp) hb' hv
/-- How many points: what the laws look at. -/
theorem pointsOf_len (d dd : Nat) (v : Value) (s : Shp) (w : World) (hl : LenS d s) (hb : (ptsOf d s).length ≤ 1000000) (h : ShpAt dd w v s) : Calls Tryz.prog 12 #[v] w fun e w' => (∃ ao cap, e = .returned (.slice ao (ptsOf d s).length cap)) ∧ Bel w w' :=
  (pointsOf_all d dd v s w hl hb h).mono fun e w' ⟨x, he, hx, hb⟩ => by
    obtain ⟨ao, cap, rfl⟩ := own_slice hx
    exact ⟨⟨ao, cap, he⟩, hb⟩

def emptyS (d : Nat) : Shp → Bool
  | .mk k ls ps => (ptsOf d (.mk k ls ps)).length == 0 && (ps.length == 0 && (ls.length == 0 || (k == 2 || k == 4)))
set_option maxRecDepth 10000 in
set_option maxHeartbeats 8000000 in
theorem isEmpty_calls (d dd : Nat) (v : Value) (s : Shp) (w : World) (hl : LenS d s) (hb : (ptsOf d s).length ≤ 1000000) (h : ShpAt dd w v s) : Calls Tryz.prog 24 #[v] w fun e w' => e = .returned (.bool (emptyS d s)) ∧ Bel w w' := by
  obtain ⟨d', k, ls, ps, L, P, rfl, rfl, rfl, hL, hP⟩ := shpAt_slices h
  have HP := Lib.hid (fun wx (hb' : Bel w wx) => pointsOf_len d (d' + 1) _ (.mk k ls ps) wx hl hb (ShpAt.bel hb' _ _ _ h))
  obtain ⟨ao, cap, rfl⟩ := hL.slice
  obtain ⟨bo, cap2, rfl⟩ := partsAt_slice hP
  have HS := Lib.hid (show emptyS d (.mk k ls ps) = ((ptsOf d (.mk k ls ps)).length == 0 && (ps.length == 0 && (ls.length == 0 || (k == 2 || k == 4)))) from rfl)
  clear h hL hP hl hb
  generalize (ptsOf d (.mk k ls ps)).length = n at *
  generalize emptyS d (.mk k ls ps) = r at *
  generalize ls.length = m at *
  generalize ps.length = q at *
  go_enter Tryz.func24, Tryz.ntmps24
  go_wp2_with fail
  have hbox : (w.alloc (.cells #[.int .i64 k, .slice ao m cap, .slice bo q cap2] 25)).heap[w.heap.size]? = some (.cells #[.int .i64 k, .slice ao m cap, .slice bo q cap2] 25) := heap_alloc_new _ _
  have hb0 : Bel w (w.alloc (.cells #[.int .i64 k, .slice ao m cap, .slice bo q cap2] 25)) := Bel.al _ _
  generalize w.alloc (.cells #[.int .i64 k, .slice ao m cap, .slice bo q cap2] 25) = w1 at *
  refine (HP.out w1 hb0).mono ?_
  rintro e w2 ⟨⟨co, cap3, rfl⟩, hb2⟩
  have hbx := hb2.heap hbox
  have e0 : w2.cell? ⟨w.heap.size, 0, none⟩ = some (.int .i64 k) := by simp [World.cell?, hbx]
  have e1 : w2.cell? ⟨w.heap.size, 1, none⟩ = some (.slice ao m cap) := by simp [World.cell?, hbx]
  have e2 : w2.cell? ⟨w.heap.size, 2, none⟩ = some (.slice bo q cap2) := by simp [World.cell?, hbx]
  have HB := Lib.hid (hb0.tr hb2)
  clear hb0 hb2 hbox hbx
  by_cases hn : n = 0
  · subst hn
    by_cases hq : q = 0
    · subst hq
      by_cases hm : m = 0
      · subst hm
        go_wp2
        go_ret
        exact ⟨by rw [HS.out]; rfl, HB.out⟩
      · have g1 : ((m : Int) == 0) = false := by simpa using hm
        by_cases hk2 : k = 2
        · subst hk2
          go_wp2
          go_ret
          exact ⟨by rw [HS.out]; simp, HB.out⟩
        · have g2 : (k == 2) = false := by simpa using hk2
          have HR := Lib.hid (show r = (k == 4) by rw [HS.out, g2]; simp [hm])
          clear hm hk2
          go_wp2
          go_ret
          exact ⟨by rw [HR.out]; rfl, HB.out⟩
    · have g1 : ((q : Int) == 0) = false := by simpa using hq
      have HR := Lib.hid (show r = false by rw [HS.out]; simp [hq])
      clear hq
      go_wp2
      go_ret
      exact ⟨by rw [HR.out]; rfl, HB.out⟩
  · have g1 : ((n : Int) == 0) = false := by simpa using hn
    have HR := Lib.hid (show r = false by rw [HS.out]; simp [hn])
    clear hn
    go_wp2
    go_ret
    exact ⟨by rw [HR.out]; rfl, HB.out⟩

set_option maxRecDepth 10000 in
set_option maxHeartbeats 8000000 in
theorem isFull_calls (d dd : Nat) (v : Value) (s : Shp) (w : World) (hok : okS d s = true) (hl : LenS d s) (hb : (ptsOf d s).length ≤ 1000000) (h : ShpAt dd w v s) : Calls Tryz.prog 11 #[v] w fun e w' => e = .returned (.bool (emptyS d s || fullS d s)) ∧ Bel w w' := by
  have HE := Lib.hid (fun wx (hb' : Bel w wx) => isEmpty_calls d dd v s wx hl hb (ShpAt.bel hb' _ _ _ h))
  have HF := Lib.hid (fun wx (hb' : Bel w wx) => full_calls d dd v s wx hok (ShpAt.bel hb' _ _ _ h))
  obtain ⟨d', k, ls, ps, L, P, rfl, rfl, rfl, hL, hP⟩ := shpAt_slices h
  obtain ⟨ao, cap, rfl⟩ := hL.slice
  obtain ⟨bo, cap2, rfl⟩ := partsAt_slice hP
  clear h hL hP hl hb hok
  generalize emptyS d (.mk k ls ps) = r1 at *
  generalize fullS d (.mk k ls ps) = r2 at *
  generalize ls.length = m at *
  generalize ps.length = q at *
  go_enter Tryz.func11, Tryz.ntmps11
  go_wp2_with fail
  have hbox : (w.alloc (.cells #[.int .i64 k, .slice ao m cap, .slice bo q cap2] 25)).heap[w.heap.size]? = some (.cells #[.int .i64 k, .slice ao m cap, .slice bo q cap2] 25) := heap_alloc_new _ _
  have hb0 : Bel w (w.alloc (.cells #[.int .i64 k, .slice ao m cap, .slice bo q cap2] 25)) := Bel.al _ _
  generalize w.alloc (.cells #[.int .i64 k, .slice ao m cap, .slice bo q cap2] 25) = w1 at *
  refine (HE.out w1 hb0).mono ?_
  rintro e w2 ⟨rfl, hb2⟩
  have hbx := hb2.heap hbox
  have e0 : w2.cell? ⟨w.heap.size, 0, none⟩ = some (.int .i64 k) := by simp [World.cell?, hbx]
  have e1 : w2.cell? ⟨w.heap.size, 1, none⟩ = some (.slice ao m cap) := by simp [World.cell?, hbx]
  have e2 : w2.cell? ⟨w.heap.size, 2, none⟩ = some (.slice bo q cap2) := by simp [World.cell?, hbx]
  have HB := Lib.hid (hb0.tr hb2)
  clear hb0 hb2 hbox hbx
  cases r1 with
  | true =>
    go_wp2
    go_ret
    exact ⟨rfl, HB.out⟩
  | false =>
    go_wp2_with fail
    refine (HF.out w2 HB.out).mono ?_
    rintro e w3 ⟨rfl, hb3⟩
    have HB3 := Lib.hid (HB.out.tr hb3)
    clear hb3
    go_wp2
    go_ret
    exact ⟨by simp, HB3.out⟩
end Go.Proofs.YtghajgdiaopioaaGreatDoor
