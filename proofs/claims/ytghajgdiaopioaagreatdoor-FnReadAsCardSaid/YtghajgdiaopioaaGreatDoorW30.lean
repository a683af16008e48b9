/- Walks: SameShape of two that are the same. -/
import Derived.Laws.OwnMore
import Derived.Test.YtghajgdiaopioaaGreatDoorW26
set_option linter.unusedVariables false
set_option linter.unusedSimpArgs false

namespace Go.Proofs.YtghajgdiaopioaaGreatDoor
open Go.RowKit
attribute [local go_sem] run_store_float run_store_iface run_store_nilIface

/-- No list is too long. -/
def LenS : Nat → Shp → Prop
  | 0, _ => False
  | d + 1, .mk _ ls ps => ls.length ≤ 100000 ∧ ps.length ≤ 100000 ∧ (∀ l ∈ ls, l.length ≤ 100000) ∧ ∀ p ∈ ps, LenS d p

set_option maxRecDepth 10000 in
set_option maxHeartbeats 8000000 in
theorem sameShape_step (d dd ee : Nat) (k : Int) (ls : List (List Pt)) (ps : List Shp) (L P M Q : Value) (w : World) (hL : RowAt PtsAt w L ls) (hP : PartsAt (ShpAt dd) w P ps) (hM : RowAt PtsAt w M ls) (hQ : PartsAt (ShpAt ee) w Q ps) (h3 : ls.length ≤ 100000) (h4 : ps.length ≤ 100000) (h5 : ∀ l ∈ ls, l.length ≤ 100000)
    (ih : ∀ p ∈ ps, ∀ (v u : Value) (wx : World), ShpAt dd wx v p → ShpAt ee wx u p → Calls Tryz.prog 26 #[v, u] wx fun e w' => e = .returned (.bool true) ∧ Bel wx w') :
    Calls Tryz.prog 26 #[.agg #[.int .i64 k, L, P], .agg #[.int .i64 k, M, Q]] w fun e w' => e = .returned (.bool true) ∧ Bel w w' := by
  obtain ⟨ao, cap, rfl, -, hlc⟩ := hL
  obtain ⟨bo, cap2, rfl, -, hpc⟩ := hP
  obtain ⟨co, cap3, rfl, -, hmc⟩ := hM
  obtain ⟨do', cap4, rfl, -, hqc⟩ := hQ
  have HLC := Lib.hid hlc
  have HPC := Lib.hid hpc
  have HMC := Lib.hid hmc
  have HQC := Lib.hid hqc
  have HIH := Lib.hid ih
  have H5 := Lib.hid h5
  clear hlc hpc hmc hqc ih h5
  go_enter Tryz.func26, Tryz.ntmps26
  go_wp2_with fail
  have hbox : ((w.alloc (.cells #[.int .i64 k, .slice ao ls.length cap, .slice bo ps.length cap2] 25)).alloc (.cells #[.int .i64 k, .slice co ls.length cap3, .slice do' ps.length cap4] 25)).heap[w.heap.size]? = some (.cells #[.int .i64 k, .slice ao ls.length cap, .slice bo ps.length cap2] 25) := (Bel.al _ _).heap (heap_alloc_new _ _)
  have hbox2 : ((w.alloc (.cells #[.int .i64 k, .slice ao ls.length cap, .slice bo ps.length cap2] 25)).alloc (.cells #[.int .i64 k, .slice co ls.length cap3, .slice do' ps.length cap4] 25)).heap[w.heap.size + 1]? = some (.cells #[.int .i64 k, .slice co ls.length cap3, .slice do' ps.length cap4] 25) := heap_alloc2 _ _ _
  have hb0 : Bel w ((w.alloc (.cells #[.int .i64 k, .slice ao ls.length cap, .slice bo ps.length cap2] 25)).alloc (.cells #[.int .i64 k, .slice co ls.length cap3, .slice do' ps.length cap4] 25)) := (Bel.al _ _).tr (Bel.al _ _)
  have HBOX := Lib.hid hbox
  have HBOX2 := Lib.hid hbox2
  have HB0 := Lib.hid hb0
  clear hbox hbox2 hb0
  generalize ((w.alloc (.cells #[.int .i64 k, .slice ao ls.length cap, .slice bo ps.length cap2] 25)).alloc (.cells #[.int .i64 k, .slice co ls.length cap3, .slice do' ps.length cap4] 25)) = w1 at *
  go_loopg [33] ls.length (fun g s33 wr => ∃ (i : Nat), i ≤ ls.length ∧ g = ls.length - i ∧ s33 = .int .i64 i ∧ Bel w1 wr)
  case atStart => exact ⟨0, by omega, rfl, rfl, Below.refl _ _⟩
  case round =>
    obtain ⟨i, hi1, rfl, rfl, hbel⟩ := hrel
    by_cases hlt : i < ls.length
    · obtain ⟨l, hl⟩ : ∃ l, ls[i]? = some l := ⟨_, List.getElem?_eq_getElem hlt⟩
      obtain ⟨a, x, rfl, c0, hx⟩ := HLC.out i l hl
      obtain ⟨b, y, rfl, d0, hy⟩ := HMC.out i l hl
      have hbw := HB0.out.tr hbel
      have c0' := hbw.cellOf c0
      have d0' := hbw.cellOf d0
      have e1 : wr.cell? ⟨w.heap.size, 1, none⟩ = some (.slice (some a) ls.length cap) := by simp [World.cell?, hbel.heap HBOX.out]
      have e2 : wr.cell? ⟨w.heap.size + 1, 1, none⟩ = some (.slice (some b) ls.length cap3) := by simp [World.cell?, hbel.heap HBOX2.out]
      have HC := Lib.hid (fun wx (hb : Bel w wx) => samePoints_calls x y l wx (hx.bel hb) (hy.bel hb) (by have := H5.out l (List.mem_of_getElem? hl); omega))
      obtain ⟨ao1, cap1, rfl⟩ := hx.slice
      obtain ⟨ao2, cap5, rfl⟩ := hy.slice
      have HBEL := Lib.hid hbel
      have HBW := Lib.hid hbw
      have hi0 : (0 : Int) ≤ (i : Int) := by omega
      have hi2 : (i : Int) < (ls.length : Int) := by omega
      clear hbel hbw c0 d0 hx hy hl
      go_wp2_with fail
      go_region_held3 (fun w' => w'.cell? ⟨w.heap.size, 1, none⟩ = some (.slice (some a) ls.length cap) ∧ w'.cell? ⟨w.heap.size + 1, 1, none⟩ = some (.slice (some b) ls.length cap3) ∧ w'.cell? (a.add i) = some (.slice ao1 l.length cap1) ∧ w'.cell? (b.add i) = some (.slice ao2 l.length cap5)) (first | exact ⟨hc.cellOf e1, hc.cellOf e2, hc.cellOf c0', hc.cellOf d0'⟩ | go_keep)
        (first | (go_at_call 48; refine (HC.out _ (HBW.out.tr (Bel.dr1 _))).mono ?_; rintro e w3 ⟨rfl, hc⟩))
      have HB3 := Lib.hid (HBEL.out.tr ((Bel.dr1 _).tr hc))
      clear hc
      go_wp2
      go_roundg (ls.length - (i + 1))
      case measure => omega
      case rel => exact ⟨i + 1, by omega, rfl, by go_num, HB3.out⟩
    · obtain rfl : i = ls.length := by omega
      have hkz : ¬ ((ls.length : Int) < (ls.length : Int)) := by omega
      obtain ⟨w2, hw2⟩ : ∃ u, u = wr := ⟨_, rfl⟩
      subst hw2
      have HBEL := Lib.hid hbel
      have q2 : w2.cell? ⟨w.heap.size, 2, none⟩ = some (.slice bo ps.length cap2) := by simp [World.cell?, hbel.heap HBOX.out]
      clear hbel
      go_wp2_with fail
      clear q2
      go_loopg [52] ps.length (fun g s52 wr => ∃ (i : Nat), i ≤ ps.length ∧ g = ps.length - i ∧ s52 = .int .i64 i ∧ Bel w2 wr)
      case atStart => exact ⟨0, by omega, rfl, rfl, Below.refl _ _⟩
      case round =>
        obtain ⟨i, hj1, rfl, rfl, hbq⟩ := hrel
        by_cases hlt2 : i < ps.length
        · obtain ⟨s, hs⟩ : ∃ s, ps[i]? = some s := ⟨_, List.getElem?_eq_getElem hlt2⟩
          obtain ⟨a, c0, c1, c2, rfl, q0, q1, q2, hx⟩ := HPC.out i s hs
          obtain ⟨b, d0, d1, d2, rfl, r0, r1, r2, hy⟩ := HQC.out i s hs
          have hbw := HB0.out.tr (HBEL.out.tr hbq)
          have q0' := hbw.cellOf q0
          have q1' := hbw.cellOf q1
          have q2' := hbw.cellOf q2
          have r0' := hbw.cellOf r0
          have r1' := hbw.cellOf r1
          have r2' := hbw.cellOf r2
          have e1 : wr.cell? ⟨w.heap.size, 2, none⟩ = some (.slice (some a) ps.length cap2) := by simp [World.cell?, (HBEL.out.tr hbq).heap HBOX.out]
          have e2 : wr.cell? ⟨w.heap.size + 1, 2, none⟩ = some (.slice (some b) ps.length cap4) := by simp [World.cell?, (HBEL.out.tr hbq).heap HBOX2.out]
          have HC := Lib.hid (fun wx (hb : Bel w wx) => HIH.out s (List.mem_of_getElem? hs) (.agg #[c0, c1, c2]) (.agg #[d0, d1, d2]) wx (ShpAt.bel hb _ _ _ hx) (ShpAt.bel hb _ _ _ hy))
          obtain ⟨k2, a1, n1, k1, a2, n2, k3, rfl, rfl, rfl⟩ : ∃ k2 a1 n1 k1 a2 n2 k3, c0 = .int .i64 k2 ∧ c1 = .slice a1 n1 k1 ∧ c2 = .slice a2 n2 k3 := by
            obtain ⟨d', kk, lls, pps, L', P', rfl, rfl, he, hL', hP'⟩ := shpAt_slices hx
            cases he
            obtain ⟨a1, k1, rfl⟩ := hL'.slice
            obtain ⟨a2, k2, rfl⟩ := partsAt_slice hP'
            exact ⟨kk, _, _, _, _, _, _, rfl, rfl, rfl⟩
          obtain ⟨j2, b1, m1, j1, b2, m2, j3, rfl, rfl, rfl⟩ : ∃ k2 a1 n1 k1 a2 n2 k3, d0 = .int .i64 k2 ∧ d1 = .slice a1 n1 k1 ∧ d2 = .slice a2 n2 k3 := by
            obtain ⟨d', kk, lls, pps, L', P', rfl, rfl, he, hL', hP'⟩ := shpAt_slices hy
            cases he
            obtain ⟨a1, k1, rfl⟩ := hL'.slice
            obtain ⟨a2, k2, rfl⟩ := partsAt_slice hP'
            exact ⟨kk, _, _, _, _, _, _, rfl, rfl, rfl⟩
          have HBQ := Lib.hid hbq
          have HBW := Lib.hid hbw
          have hi0 : (0 : Int) ≤ (i : Int) := by omega
          have hi2 : (i : Int) < (ps.length : Int) := by omega
          clear hbq hbw q0 q1 q2 r0 r1 r2 hx hy hs
          go_wp2_with fail
          go_region_held3 (fun w' => w'.cell? ⟨w.heap.size, 2, none⟩ = some (.slice (some a) ps.length cap2) ∧ w'.cell? ⟨w.heap.size + 1, 2, none⟩ = some (.slice (some b) ps.length cap4) ∧ w'.cell? (a.add (i * 3)) = some (.int .i64 k2) ∧ w'.cell? ⟨(a.add (i * 3)).block, (a.add (i * 3)).off + 1, none⟩ = some (.slice a1 n1 k1) ∧ w'.cell? ⟨(a.add (i * 3)).block, (a.add (i * 3)).off + 2, none⟩ = some (.slice a2 n2 k3) ∧ w'.cell? (b.add (i * 3)) = some (.int .i64 j2) ∧ w'.cell? ⟨(b.add (i * 3)).block, (b.add (i * 3)).off + 1, none⟩ = some (.slice b1 m1 j1) ∧ w'.cell? ⟨(b.add (i * 3)).block, (b.add (i * 3)).off + 2, none⟩ = some (.slice b2 m2 j3)) (first | exact ⟨hc.cellOf e1, hc.cellOf e2, hc.cellOf q0', hc.cellOf q1', hc.cellOf q2', hc.cellOf r0', hc.cellOf r1', hc.cellOf r2'⟩ | go_keep)
            (first | (go_at_call 26; refine (HC.out _ (HBW.out.tr (Bel.dr1 _))).mono ?_; rintro e w3 ⟨rfl, hc⟩))
          have HB3 := Lib.hid (HBQ.out.tr ((Bel.dr1 _).tr hc))
          clear hc
          go_wp2
          go_roundg (ps.length - (i + 1))
          case measure => omega
          case rel => exact ⟨i + 1, by omega, rfl, by go_num, HB3.out⟩
        · obtain rfl : i = ps.length := by omega
          have hkz2 : ¬ ((ps.length : Int) < (ps.length : Int)) := by omega
          have HBQ := Lib.hid (HB0.out.tr (HBEL.out.tr hbq))
          clear hbq
          go_wp2
          go_ret
          exact ⟨rfl, HBQ.out⟩
theorem sameShape_calls : ∀ (d dd ee : Nat) (v u : Value) (s : Shp) (w : World), LenS d s → ShpAt dd w v s → ShpAt ee w u s → Calls Tryz.prog 26 #[v, u] w fun e w' => e = .returned (.bool true) ∧ Bel w w' := by
  intro d
  induction d with
  | zero => intro dd ee v u s w h; exact h.elim
  | succ d ih =>
    intro dd ee v u s w hl h h'
    obtain ⟨d', k, ls, ps, L, P, rfl, rfl, rfl, hL, hP⟩ := shpAt_slices h
    obtain ⟨d2, k2, ls2, ps2, M, Q, rfl, he, rfl, hM, hQ⟩ := shpAt_slices h'
    cases he
    obtain ⟨h3, h4, h5, h6⟩ := hl
    exact sameShape_step d d' d2 k ls ps L P M Q w hL hP hM hQ h3 h4 h5 fun p hp v u wx hv hu => ih d' d2 v u p wx (h6 p hp) hv hu
end Go.Proofs.YtghajgdiaopioaaGreatDoor

/- Walks: PointsOf. -/
namespace Go.Proofs.YtghajgdiaopioaaGreatDoor
open Go.RowKit
attribute [local go_sem] run_store_float run_store_iface run_store_nilIface

theorem ptsCells_length (l : List Pt) : (ptsCells l).length = l.length * 2 := by
  induction l with
  | nil => rfl
  | cons p l ih => rw [show ptsCells (p :: l) = .float .f64 p.1 :: .float .f64 p.2 :: ptsCells l from rfl]; simp [ih]; omega
theorem ptsAt_news {w : World} {a : Addr} {l : List Pt} (h : ∀ i p, l[i]? = some p → ∃ b, some a = some b ∧ w.cell? (b.add (i * 2)) = some (.float .f64 p.1) ∧ w.cell? ⟨(b.add (i * 2)).block, (b.add (i * 2)).off + 1, none⟩ = some (.float .f64 p.2)) :
    ∀ j u, (ptsCells l)[j]? = some u → w.cell? (a.add j) = some u := by
  intro j u hu
  have hlt : j < l.length * 2 := by
    rcases Nat.lt_or_ge j (l.length * 2) with h | h
    · exact h
    · rw [List.getElem?_eq_none (by rw [ptsCells_length]; exact h)] at hu; cases hu
  have hj : j = j / 2 * 2 + j % 2 := by omega
  obtain ⟨p, hp⟩ : ∃ p, l[j / 2]? = some p := ⟨_, List.getElem?_eq_getElem (by omega)⟩
  obtain ⟨b, hb, c0, c1⟩ := h (j / 2) p hp
  cases hb
  have hat := ptsCells_at l (j / 2) (j % 2) (by omega)
  rw [← hj, hu, hp] at hat
  have h2 : j % 2 = 0 ∨ j % 2 = 1 := by omega
  rcases h2 with h2 | h2
  · rw [h2] at hat
    simp at hat
    rw [show a.add j = a.add (j / 2 * 2) from by congr 1; omega, c0, hat]
  · rw [h2] at hat
    simp at hat
    have : a.add j = ⟨(a.add (j / 2 * 2)).block, (a.add (j / 2 * 2)).off + 1, none⟩ := by
      unfold Addr.add
      rw [if_neg (by omega)]
      split
      · rename_i h0
        rw [show j = 1 from by omega]
      · rw [show a.off + j = a.off + j / 2 * 2 + 1 from by omega]
    rw [this, c1, hat]

theorem run_append_none_cap (w : World) (base : Nat) (ty : TypeId) (i : TypeInfo) (hi : Tryz.prog.info? 49 = some i) (v : Value) (n cap : Nat) (xs : List Value) (hown : w.ownsRow base 49 2 v n xs) :
    (Builtin.append_ #[27, 27] ty #[v, .slice none 0 cap]).run Tryz.prog w = .ok v w := by
  rcases hown.2 with ⟨rfl, rfl⟩ | ⟨g, cap, cur, rfl, _, _, hnc, _⟩
  · simp [Builtin.append_, run_underlying Tryz.underlying27, sizeOf, typeInfo, hi, Builtin.lenOf, Builtin.firstCells]
  · simp [Builtin.append_, run_underlying Tryz.underlying27, sizeOf, typeInfo, hi, Builtin.lenOf, Builtin.firstCells, hnc, storeCells]
theorem wpList_append_pts {ops : Array Oper} {rest : List Oper} {o : Oper} {a : Act} {Q : Exit → Act → World → Prop} (w : World) (hgd : o.guard = none) (s x : Operand)
    (ho : o.op = .call { callee := .builtin .append, args := #[s, x], argTypes := #[27, 27] })
    (base : Nat) (i : TypeInfo) (hi : Tryz.prog.info? 49 = some i) (hz : i.zero = some (.agg #[.float .f64 0, .float .f64 0]))
    (hsize : i.size = 2) (hby : i.bytes = 16)
    (v : Value) (n : Nat) (xs : List Value) (hs : a.eval s = v) (hown : w.ownsRow base 49 2 v n xs)
    (xv : Value) (l : List Pt) (hx : a.eval x = xv) (hp : PtsAt w xv l)
    (hb : n + l.length ≤ 1000000000) (hbase : base ≤ w.heap.size)
    (h : ∀ v' w', w'.ownsRow base 49 2 v' (n + l.length) (xs ++ ptsCells l) → w.grownBy w' v.ownBlock → wpList Tryz.prog ops Q rest (a.put o.dst v') w') :
    wpList Tryz.prog ops Q (o :: rest) a w := by
  obtain ⟨ao, cap, rfl, hm, hc⟩ := hp
  cases ao with
  | some ad =>
    exact wpList_append_own _ hgd s x 27 ho base 49 i _ 2 16 Tryz.underlying27 hi hz hsize hby rfl (by decide) v n xs hs hown ad l.length cap (ptsCells l) hx (ptsCells_length l) (ptsAt_news hc)
      (fun u hu => by simp only [ptsCells, List.mem_flatMap, ptsCells] at hu; obtain ⟨p, _, hu⟩ := hu; simp [ptCells] at hu; rcases hu with rfl | rfl <;> rfl) (by unfold maxLen; omega) (by omega) hbase (fun v' w' h1 h2 _ => h v' w' h1 h2)
  | none =>
    have hl : l = [] := by
      cases l with
      | nil => rfl
      | cons p l => obtain ⟨b, hb, _⟩ := hc 0 p rfl; cases hb
    subst hl
    refine wpList_plain hgd fun K hK => ?_
    have hr := run_append_none_cap w base o.type i hi v n cap xs hown
    unfold Oper.wp execOp
    simp only [ho, resolve, invoke, builtin, Sem.run_bind, Sem.run_pure, Result.andThen_ok, List.map_toArray, List.map_cons, List.map_nil, hs, hx, List.length_nil, hr]
    exact hK _ _ (h v w (by simpa [ptsCells] using hown) ⟨rfl, rfl, rfl, Nat.le_refl _, fun _ _ _ => rfl⟩)
end Go.Proofs.YtghajgdiaopioaaGreatDoor
