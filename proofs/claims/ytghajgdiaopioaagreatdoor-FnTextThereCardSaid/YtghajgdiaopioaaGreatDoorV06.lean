/- Walks: writes (13). -/
import Derived.Test.YtghajgdiaopioaaGreatDoorV03
import Derived.Test.YtghajgdiaopioaaGreatDoorV05
set_option linter.unusedVariables false
set_option linter.unusedSimpArgs false

namespace Go.Proofs.YtghajgdiaopioaaGreatDoor
open Go.RowKit
attribute [local go_sem] run_store_float run_store_iface run_store_nilIface

def IsWh (x : Nat) : Prop := ∃ q : Bool × Nat, Wh q.1 q.2 ∧ x = wBits q.1 q.2
open Classical in
/-- The text of the float of a whole number. -/
noncomputable def ntW (x : Nat) : List UInt8 := if h : IsWh x then wText h.choose.1 h.choose.2 else [48]
theorem ntW_spec {x : Nat} (h : IsWh x) : ∃ neg n, Wh neg n ∧ x = wBits neg n ∧ ntW x = wText neg n :=
  ⟨h.choose.1, h.choose.2, h.choose_spec.1, h.choose_spec.2, by unfold ntW; rw [dif_pos h]⟩
def chkU : Bool := (List.range 1001).all fun n => [false, true].all fun neg => [1, 2, 3, 4].all fun k => !(wBits neg n == wBits false k) || (n == k && (neg == false))
theorem chkU_all : chkU = true := by decide +kernel
theorem ntW_small (k : Nat) (hk : k = 1 ∨ k = 2 ∨ k = 3 ∨ k = 4) : IsWh (wBits false k) ∧ ntW (wBits false k) = wText false k := by
  have hw : IsWh (wBits false k) := ⟨(false, k), ⟨by rcases hk with rfl | rfl | rfl | rfl <;> decide, fun _ => rfl⟩, rfl⟩
  refine ⟨hw, ?_⟩
  obtain ⟨neg, n, h1, h2, h3⟩ := ntW_spec hw
  have := chkU_all
  unfold chkU at this
  have h4 := List.all_eq_true.1 this n (List.mem_range.2 (by have := h1.1; omega))
  have h5 := List.all_eq_true.1 h4 neg (by cases neg <;> simp)
  have h6 := List.all_eq_true.1 h5 k (by rcases hk with rfl | rfl | rfl | rfl <;> simp)
  rw [← h2] at h6
  simp at h6
  rw [h3, h6.1, h6.2]
theorem b1 : wBits false 1 = 4607182418800017408 := by decide +kernel
theorem b2 : wBits false 2 = 4611686018427387904 := by decide +kernel
theorem b3 : wBits false 3 = 4613937818241073152 := by decide +kernel
theorem b4 : wBits false 4 = 4616189618054758400 := by decide +kernel
theorem tx1 : wText false 1 = [49] := by decide +kernel
theorem tx2 : wText false 2 = [50] := by decide +kernel
theorem tx3 : wText false 3 = [51] := by decide +kernel
theorem tx4 : wText false 4 = [52] := by decide +kernel
def lit19 : List UInt8 := [76, 73, 78, 69, 83, 84, 82, 73, 78, 71, 40, 49, 32, 50, 44, 51, 32, 52, 41]
theorem plain_text : geoT false [] ntW 0 (.line plainL) = lit19 := by
  have e1 := (ntW_small 1 (by simp)).2
  have e2 := (ntW_small 2 (by simp)).2
  have e3 := (ntW_small 3 (by simp)).2
  have e4 := (ntW_small 4 (by simp)).2
  rw [b1, tx1] at e1
  rw [b2, tx2] at e2
  rw [b3, tx3] at e3
  rw [b4, tx4] at e4
  simp [geoT, lineT, ptT, jn, plainL, e1, e2, e3, e4, wd, kwLine, lit19]
theorem plain_wh : ∀ p ∈ plainL, IsWh p.1 ∧ IsWh p.2 := by
  have e1 := (ntW_small 1 (by simp)).1
  have e2 := (ntW_small 2 (by simp)).1
  have e3 := (ntW_small 3 (by simp)).1
  have e4 := (ntW_small 4 (by simp)).1
  rw [b1] at e1
  rw [b2] at e2
  rw [b3] at e3
  rw [b4] at e4
  intro p hp
  simp [plainL] at hp
  rcases hp with rfl | rfl
  · exact ⟨e1, e2⟩
  · exact ⟨e3, e4⟩
set_option maxRecDepth 10000 in
set_option maxHeartbeats 4000000 in
theorem read_err0 (G : Errs) (d : Nat) (l : List UInt8) (w : World) (hE : Env G w) (h : GeoReads G d l none) :
    Calls Tryz.prog 15 #[.string (ofL l)] w fun e w' => e = .returned (.tuple #[.agg #[.int .i64 0, .slice none 0 0, .slice none 0 0], .bool false]) ∧ Bel w w' := by
  have HU := Lib.hid (fun wx (hb : Bel w wx) => unm_calls G d l none wx (hE.bel hb) h)
  clear h hE
  generalize ofL l = s at *
  go_enter Tryz.func15, Tryz.ntmps15
  go_wp2_with fail
  have hres : (w.alloc (.cells #[.int .i64 0, .slice none 0 0, .slice none 0 0] 25)).heap[w.heap.size]? = some (.cells #[.int .i64 0, .slice none 0 0, .slice none 0 0] 25) := heap_alloc_new _ _
  have hb0 : Bel w (w.alloc (.cells #[.int .i64 0, .slice none 0 0, .slice none 0 0] 25)) := Bel.al _ _
  generalize w.alloc (.cells #[.int .i64 0, .slice none 0 0, .slice none 0 0] 25) = w0 at *
  refine (HU.out w0 hb0).mono ?_
  rintro e w1 ⟨⟨a, rfl⟩, hb1⟩
  have hres1 := hb1.heap hres
  have p0 : w1.cell? ⟨w.heap.size, 0, none⟩ = some (.int .i64 0) := by simp [World.cell?, hres1]
  have p1 : w1.cell? ⟨w.heap.size, 1, none⟩ = some (.slice none 0 0) := by simp [World.cell?, hres1]
  have p2 : w1.cell? ⟨w.heap.size, 2, none⟩ = some (.slice none 0 0) := by simp [World.cell?, hres1]
  have r0 : w1.frozen? ⟨w.heap.size, 0, none⟩ = false := by simp [World.frozen?, hres1]
  have r1 : w1.frozen? ⟨w.heap.size, 1, none⟩ = false := by simp [World.frozen?, hres1]
  have r2 : w1.frozen? ⟨w.heap.size, 2, none⟩ = false := by simp [World.frozen?, hres1]
  have HB1 := Lib.hid (hb0.tr hb1)
  clear hres1 hres hb1 hb0
  go_wp2
  (try simp only [Exit.inBlock, Exit.then])
  refine bodyPost_ret (v := .tuple #[.agg #[.int .i64 0, .slice none 0 0, .slice none 0 0], .bool false]) ?_ rfl ⟨rfl, ?_⟩
  · simp [results, Tryz.results15, go_sem, p0, p1, p2]
  · exact set3_bel HB1.out (Nat.le_refl _)


end Go.Proofs.YtghajgdiaopioaaGreatDoor

/- Walks: writes (13). -/
namespace Go.Proofs.YtghajgdiaopioaaGreatDoor
open Go.RowKit
attribute [local go_sem] run_store_float run_store_iface run_store_nilIface

def lit18 : List UInt8 := [76, 73, 78, 69, 83, 84, 82, 73, 78, 71, 40, 49, 32, 50, 44, 51]
/-- LINESTRING(1 2,3 -/
theorem cut_rd (G : Errs) : GeoReads G 0 lit18 none := by
  have ha : Asc lit18 := by unfold Asc; decide
  exact ⟨by decide, GeoStep.line _ none rfl ha (by decide) (by decide) (by decide) (.inr ⟨by decide, .inl ⟨by decide, rfl⟩⟩)⟩
theorem keep3 {w w' : World} {a b c : Addr} {v u x : Value} (hb : Bel w w') (h : w.cell? a = some v ∧ w.cell? b = some u ∧ w.cell? c = some x) : w'.cell? a = some v ∧ w'.cell? b = some u ∧ w'.cell? c = some x := ⟨hb.cellOf h.1, hb.cellOf h.2.1, hb.cellOf h.2.2⟩
end Go.Proofs.YtghajgdiaopioaaGreatDoor

/- Plain words: what a shape of which the statements speak is. -/
namespace Go.Proofs.YtghajgdiaopioaaGreatDoor
open Go.RowKit

/-- No list is longer than memory bears. -/
def LenB : Nat → Shp → Prop
  | 0, _ => True
  | d + 1, .mk _ ls ps => (∀ l ∈ ls, l.length ≤ 8796093022208) ∧ ∀ p ∈ ps, LenB d p
theorem sum_le_mulL {α : Type} (f : α → Nat) (B : Nat) (l : List α) (h : ∀ a ∈ l, f a ≤ B) : (l.map f).sum ≤ l.length * B := by
  induction l with
  | nil => simp
  | cons a l ih =>
    have h1 := h a (by simp)
    have h2 := ih fun x hx => h x (by simp [hx])
    simp only [List.map_cons, List.sum_cons, List.length_cons, Nat.add_mul]
    omega
theorem sum_le_sum {α : Type} (f g : α → Nat) (l : List α) (h : ∀ a ∈ l, f a ≤ g a) : (l.map f).sum ≤ (l.map g).sum := by
  induction l with
  | nil => simp
  | cons a l ih =>
    have h1 := h a (by simp)
    have h2 := ih fun x hx => h x (by simp [hx])
    simp only [List.map_cons, List.sum_cons]
    omega
theorem sum_mul {α : Type} (f : α → Nat) (B : Nat) (l : List α) : (l.map fun a => f a * B).sum = (l.map f).sum * B := by
  induction l with
  | nil => simp
  | cons a l ih => simp only [List.map_cons, List.sum_cons, ih, Nat.add_mul]
theorem mem_le_sum {α : Type} (f : α → Nat) {l : List α} {a : α} (h : a ∈ l) : f a ≤ (l.map f).sum := by
  induction l with
  | nil => simp at h
  | cons b l ih =>
    simp only [List.map_cons, List.sum_cons]
    rcases List.mem_cons.1 h with rfl | h
    · omega
    · have := ih h; omega
theorem pts_le_parts : ∀ (d : Nat) (s : Shp), okS d s = true → LenB d s → ptsN d s ≤ partsN d s * 351843720888320 := by
  intro d
  induction d with
  | zero => intro s h; simp [okS] at h
  | succ d ih =>
    intro s h hb
    obtain ⟨k, ls, ps⟩ := s
    obtain ⟨_, _, h3, _, h5, _⟩ := okS_parts h
    have e1 := sum_le_mulL List.length 8796093022208 ls hb.1
    have e2 : ls.length * 8796093022208 ≤ 40 * 8796093022208 := Nat.mul_le_mul_right _ h3
    have e3 := sum_le_sum (ptsN d) (fun p => partsN d p * 351843720888320) ps fun p hp => ih p (h5 p hp).1 (hb.2 p hp)
    rw [sum_mul] at e3
    rw [ptsN, partsN, Nat.add_mul]
    omega
theorem pts_small {s : Shp} (h : isShp s = true) (hb : LenB 4 s) : ptsN 4 s ≤ 300 := by
  unfold isShp at h
  simp only [Bool.and_eq_true, decide_eq_true_eq] at h
  obtain ⟨h1, h2, h3⟩ := h
  have h4 := pts_le_parts 4 s h1 hb
  have h5 : partsN 4 s * 351843720888320 ≤ 40 * 351843720888320 := Nat.mul_le_mul_right _ (by omega)
  unfold wrap64 at h2
  omega
theorem lenS_of : ∀ (d : Nat) (s : Shp), okS d s = true → ptsN d s ≤ 300 → LenS d s := by
  intro d
  induction d with
  | zero => intro s h; simp [okS] at h
  | succ d ih =>
    intro s h hp
    obtain ⟨k, ls, ps⟩ := s
    obtain ⟨_, _, h3, h4, h5, _⟩ := okS_parts h
    rw [ptsN] at hp
    refine ⟨by omega, by omega, fun l hl => ?_, fun p hp' => ih p (h5 p hp').1 ?_⟩
    · have := mem_le_sum List.length hl; omega
    · have := mem_le_sum (ptsN d) hp'; omega
theorem pts_deep : ∀ (d e : Nat) (s : Shp), okS d s = true → ptsN (d + e) s = ptsN d s := by
  intro d
  induction d with
  | zero => intro e s h; simp [okS] at h
  | succ d ih =>
    intro e s h
    obtain ⟨k, ls, ps⟩ := s
    obtain ⟨_, _, _, _, h5, _⟩ := okS_parts h
    rw [show d + 1 + e = (d + e) + 1 from by omega, ptsN, ptsN]
    congr 2
    exact List.map_congr_left fun p hp => ih e p (h5 p hp).1

theorem all_ne {ls : List (List Pt)} (h : ls.all (fun l => !l.isEmpty) = true) : ∀ l ∈ ls, l ≠ [] := fun l hl => by
  have := List.all_eq_true.1 h l hl
  rintro rfl
  simp at this
theorem fullG_of : ∀ (d : Nat) (g : Geo), fullS (d + 1) (toShp (d + 1) g) = true → FullG (d + 1) g := by
  intro d
  induction d with
  | zero =>
    intro g h
    cases g with
    | pt p => exact trivial
    | line l => simp [toShp, fullS] at h; exact h
    | mpt l => simp [toShp, fullS] at h; exact h
    | poly l =>
      simp only [toShp, fullS, Bool.and_eq_true, decide_eq_true_eq] at h
      exact ⟨by rintro rfl; simp at h, all_ne h.1⟩
    | mline l =>
      simp only [toShp, fullS, Bool.and_eq_true, decide_eq_true_eq] at h
      exact ⟨by rintro rfl; simp at h, all_ne h.1⟩
    | mpoly l =>
      simp only [toShp, fullS, Bool.and_eq_true, decide_eq_true_eq] at h
      cases l with
      | nil => simp at h
      | cons a b => simp [fullS] at h
    | coll l =>
      simp only [toShp, fullS, Bool.and_eq_true, decide_eq_true_eq] at h
      cases l with
      | nil => simp at h
      | cons a b => simp [fullS] at h
  | succ d ih =>
    intro g h
    cases g with
    | pt p => exact trivial
    | line l => simp [toShp, fullS] at h; exact h
    | mpt l => simp [toShp, fullS] at h; exact h
    | poly l =>
      rw [toShp, fullS] at h
      simp only [Bool.and_eq_true, decide_eq_true_eq] at h
      exact ⟨by rintro rfl; simp at h, all_ne h.1⟩
    | mline l =>
      rw [toShp, fullS] at h
      simp only [Bool.and_eq_true, decide_eq_true_eq] at h
      exact ⟨by rintro rfl; simp at h, all_ne h.1⟩
    | mpoly l =>
      rw [toShp, fullS] at h
      simp only [Bool.and_eq_true, decide_eq_true_eq, List.all_eq_true] at h
      refine ⟨by rintro rfl; simp at h, fun ls hls => ?_⟩
      have := h.2.1 (.mk 3 ls []) (List.mem_map.2 ⟨ls, hls, rfl⟩)
      rw [fullS] at this
      simp only [Bool.and_eq_true, decide_eq_true_eq] at this
      exact ⟨by rintro rfl; simp at this, all_ne this.1⟩
    | coll l =>
      rw [toShp, fullS] at h
      simp only [Bool.and_eq_true, decide_eq_true_eq, List.all_eq_true] at h
      exact ⟨by rintro rfl; simp at h, fun g hg => ih g (h.2.1 _ (List.mem_map.2 ⟨g, hg, rfl⟩))⟩
theorem small_of : ∀ (d : Nat) (g : Geo), LenS (d + 1) (toShp (d + 1) g) → Small (d + 1) g := by
  intro d
  induction d with
  | zero =>
    intro g h
    cases g with
    | pt p => exact trivial
    | line l => exact h.2.2.1 l (by simp)
    | mpt l => exact h.2.2.1 l (by simp)
    | poly l => exact ⟨h.1, h.2.2.1⟩
    | mline l => exact ⟨h.1, h.2.2.1⟩
    | mpoly l =>
      refine ⟨by have := h.2.1; simpa using this, fun ls hls => ?_⟩
      exact (h.2.2.2 (.mk 3 ls []) (List.mem_map.2 ⟨ls, hls, rfl⟩)).elim
    | coll l =>
      refine ⟨by have := h.2.1; simpa using this, fun g hg => ?_⟩
      exact (h.2.2.2 _ (List.mem_map.2 ⟨g, hg, rfl⟩)).elim
  | succ d ih =>
    intro g h
    cases g with
    | pt p => exact trivial
    | line l => exact h.2.2.1 l (by simp)
    | mpt l => exact h.2.2.1 l (by simp)
    | poly l => exact ⟨h.1, h.2.2.1⟩
    | mline l => exact ⟨h.1, h.2.2.1⟩
    | mpoly l =>
      refine ⟨by have := h.2.1; simpa using this, fun ls hls => ?_⟩
      have := h.2.2.2 (.mk 3 ls []) (List.mem_map.2 ⟨ls, hls, rfl⟩)
      exact ⟨this.1, this.2.2.1⟩
    | coll l =>
      refine ⟨by have := h.2.1; simpa using this, fun g hg => ?_⟩
      exact ih g (h.2.2.2 _ (List.mem_map.2 ⟨g, hg, rfl⟩))
theorem allN_of (Q : Nat → Prop) : ∀ (d : Nat) (g : Geo), okS (d + 1) (toShp (d + 1) g) = true → AllS Q (d + 1) (toShp (d + 1) g) → AllN Q (d + 1) g := by
  intro d
  induction d with
  | zero =>
    intro g ho h
    cases g with
    | pt p => exact h.1 [p] (by simp) p (by simp)
    | line l => exact h.1 l (by simp)
    | mpt l => exact h.1 l (by simp)
    | poly l => exact h.1
    | mline l => exact h.1
    | mpoly l =>
      intro ls hls
      have h5 := (okS_parts ho).2.2.2.2.1 (.mk 3 ls []) (List.mem_map.2 ⟨ls, hls, rfl⟩)
      simp [okS] at h5
    | coll l =>
      intro g hg
      have h5 := (okS_parts ho).2.2.2.2.1 _ (List.mem_map.2 ⟨g, hg, rfl⟩)
      simp [okS] at h5
  | succ d ih =>
    intro g ho h
    cases g with
    | pt p => exact h.1 [p] (by simp) p (by simp)
    | line l => exact h.1 l (by simp)
    | mpt l => exact h.1 l (by simp)
    | poly l => exact h.1
    | mline l => exact h.1
    | mpoly l =>
      intro ls hls
      exact (h.2 (.mk 3 ls []) (List.mem_map.2 ⟨ls, hls, rfl⟩)).1
    | coll l =>
      intro g hg
      exact ih g ((okS_parts ho).2.2.2.2.1 _ (List.mem_map.2 ⟨g, hg, rfl⟩)).1 (h.2 _ (List.mem_map.2 ⟨g, hg, rfl⟩))
theorem emptyG_of (d : Nat) (g : Geo) (h : emptyS (d + 1) (toShp (d + 1) g) = true) : EmptyG g := by
  cases g with
  | pt p => simp [toShp, emptyS, ptsOf] at h
  | line l => simp [toShp, emptyS, ptsOf] at h; exact h
  | mpt l => simp [toShp, emptyS, ptsOf] at h; exact h
  | poly l => simp [toShp, emptyS, ptsOf] at h; exact h.2
  | mline l => simp [toShp, emptyS, ptsOf] at h; exact h.2
  | mpoly l => simp [toShp, emptyS] at h; exact h.2
  | coll l => simp [toShp, emptyS] at h; exact h.2
end Go.Proofs.YtghajgdiaopioaaGreatDoor

/- Plain words: how long a geometry's text is. -/
namespace Go.Proofs.YtghajgdiaopioaaGreatDoor
open Go.RowKit

theorem jn_len (sp : List UInt8) (hs : sp.length ≤ 1) (ts : List (List UInt8)) : (jn sp ts).length ≤ (ts.map fun t => t.length + 2).sum := by
  have ht : ∀ ts : List (List UInt8), (ts.flatMap fun u => 44 :: sp ++ u).length ≤ (ts.map fun t => t.length + 2).sum := by
    intro ts
    induction ts with
    | nil => simp
    | cons t ts ih =>
      rw [List.flatMap_cons, List.length_append, List.map_cons, List.sum_cons]
      simp only [List.length_append, List.length_cons]
      omega
  cases ts with
  | nil => simp [jn]
  | cons t ts =>
    have := ht ts
    rw [jn, List.length_append, List.map_cons, List.sum_cons]
    omega
theorem sum_map_map {α β : Type} (f : α → β) (g : β → Nat) (l : List α) : ((l.map f).map g).sum = (l.map fun a => g (f a)).sum := by rw [List.map_map]; rfl
theorem line_len {nt : Nat → List UInt8} (hn : ∀ x, (nt x).length ≤ 1000) {sp : List UInt8} (hs : sp.length ≤ 1) (l : List Pt) : (lineT sp nt l).length ≤ 2 + 2003 * l.length := by
  have h1 := jn_len sp hs (l.map (ptT nt))
  rw [sum_map_map] at h1
  have h2 := sum_le_mulL (fun p => (ptT nt p).length + 2) 2003 l fun p _ => by
    have := hn p.1
    have := hn p.2
    simp only [ptT, List.length_append, List.length_cons]; omega
  simp only [lineT, List.length_append, List.length_cons, List.length_nil]
  omega
theorem lines_len {nt : Nat → List UInt8} (hn : ∀ x, (nt x).length ≤ 1000) {sp : List UInt8} (hs : sp.length ≤ 1) (ls : List (List Pt)) (h : ∀ l ∈ ls, l ≠ []) : (brs sp (ls.map (lineT sp nt))).length ≤ 2 + 2007 * (ls.map List.length).sum := by
  have h1 := jn_len sp hs (ls.map (lineT sp nt))
  rw [sum_map_map] at h1
  have h2 := sum_le_sum (fun l => (lineT sp nt l).length + 2) (fun l => l.length * 2007) ls fun l hl => by
    have := line_len hn hs l
    have h0 := h l hl
    have : 1 ≤ l.length := by cases l with | nil => exact absurd rfl h0 | cons a b => simp
    show (lineT sp nt l).length + 2 ≤ l.length * 2007
    omega
  rw [sum_mul] at h2
  simp only [brs, List.length_append, List.length_cons, List.length_nil]
  omega
theorem sum_pos {ls : List (List Pt)} (h : fullL ls) : 1 ≤ (ls.map List.length).sum := by
  cases ls with
  | nil => exact absurd rfl h.1
  | cons l ls =>
    have := h.2 l (by simp)
    cases l with
    | nil => exact absurd rfl this
    | cons a b => simp; omega
theorem wd_len (low : Bool) (k r : List UInt8) (n : Nat) (h : k.length = n) : (wd low k ++ r).length = n + r.length := by rw [List.length_append, wl, h]
theorem geo_len {nt : Nat → List UInt8} (hn : ∀ x, (nt x).length ≤ 1000) (low : Bool) {sp : List UInt8} (hs : sp.length ≤ 1) : ∀ (d : Nat) (g : Geo), FullG d g → 1 ≤ ptsN (d + 2) (toShp d g) ∧ (geoT low sp nt d g).length ≤ (2040 + 23 * d) * ptsN (d + 2) (toShp d g) := by
  have flat : ∀ (d : Nat) (g : Geo), (∀ l, g ≠ .coll l) → FullG d g → 1 ≤ ptsN (d + 2) (toShp d g) ∧ (geoT low sp nt d g).length ≤ 2040 * ptsN (d + 2) (toShp d g) := by
    intro d g hg hf
    cases g with
    | coll l => exact absurd rfl (hg l)
    | pt p =>
      rw [show toShp d (.pt p) = .mk 1 [[p]] [] from by cases d <;> rfl, t_pt, wd_len _ _ _ 5 rfl]
      have h1 := hn p.1
      have h2 := hn p.2
      have h3 : ptsN (d + 2) (.mk 1 [[p]] []) = 1 := by simp [ptsN]
      rw [h3]
      simp only [ptT, List.length_append, List.length_cons, List.length_nil]
      omega
    | line l =>
      have hf' : l ≠ [] := by cases d <;> exact hf
      have hpos : 1 ≤ l.length := by cases l with | nil => exact absurd rfl hf' | cons a b => simp
      rw [show toShp d (.line l) = .mk 2 [l] [] from by cases d <;> rfl, t_line _ _ _ _ hf', wd_len _ _ _ 10 rfl]
      have h3 : ptsN (d + 2) (.mk 2 [l] []) = l.length := by simp [ptsN]
      have h4 := line_len hn hs l
      rw [h3]
      simp only [lineT, List.length_append, List.length_cons, List.length_nil] at h4 ⊢
      omega
    | poly ls =>
      have hf' : fullL ls := by cases d <;> exact hf
      have hpos := sum_pos hf'
      rw [show toShp d (.poly ls) = .mk 3 ls [] from by cases d <;> rfl, t_poly _ _ _ _ hf'.1, wd_len _ _ _ 7 rfl]
      have h3 : ptsN (d + 2) (.mk 3 ls []) = (ls.map List.length).sum := by simp [ptsN]
      have h4 := lines_len hn hs ls hf'.2
      rw [h3]
      simp only [brs, List.length_append, List.length_cons, List.length_nil] at h4 ⊢
      omega
    | mline ls =>
      have hf' : fullL ls := by cases d <;> exact hf
      have hpos := sum_pos hf'
      rw [show toShp d (.mline ls) = .mk 5 ls [] from by cases d <;> rfl, t_mline _ _ _ _ hf'.1, wd_len _ _ _ 15 rfl]
      have h3 : ptsN (d + 2) (.mk 5 ls []) = (ls.map List.length).sum := by simp [ptsN]
      have h4 := lines_len hn hs ls hf'.2
      rw [h3]
      simp only [brs, List.length_append, List.length_cons, List.length_nil] at h4 ⊢
      omega
    | mpt l =>
      have hf' : l ≠ [] := by cases d <;> exact hf
      have hpos : 1 ≤ l.length := by cases l with | nil => exact absurd rfl hf' | cons a b => simp
      rw [show toShp d (.mpt l) = .mk 4 [l] [] from by cases d <;> rfl, t_mpt _ _ _ _ hf', wd_len _ _ _ 10 rfl]
      have h3 : ptsN (d + 2) (.mk 4 [l] []) = l.length := by simp [ptsN]
      have h4 := jn_len sp hs (l.map fun p => lineT sp nt [p])
      rw [sum_map_map] at h4
      have h5 := sum_le_mulL (fun p => (lineT sp nt [p]).length + 2) 2007 l fun p _ => by
        have := line_len hn hs [p]
        simp only [List.length_singleton] at this
        omega
      rw [h3]
      simp only [List.length_append, List.length_cons, List.length_nil]
      omega
    | mpoly ps =>
      have hf' : ps ≠ [] ∧ ∀ ls ∈ ps, fullL ls := by cases d <;> exact hf
      rw [show toShp d (.mpoly ps) = .mk 6 [] (ps.map fun ls => .mk 3 ls []) from by cases d <;> rfl, t_mpoly _ _ _ _ hf'.1, wd_len _ _ _ 12 rfl]
      have h3 : ptsN (d + 2) (.mk 6 [] (ps.map fun ls => .mk 3 ls [])) = (ps.map fun ls => (ls.map List.length).sum).sum := by
        rw [ptsN]
        simp only [List.map_nil, List.sum_nil, Nat.zero_add]
        rw [sum_map_map]
        congr 1
      have h4 := jn_len sp hs (ps.map fun ls => brs sp (ls.map (lineT sp nt)))
      rw [sum_map_map] at h4
      have h5 := sum_le_sum (fun ls => (brs sp (ls.map (lineT sp nt))).length + 2) (fun ls => (ls.map List.length).sum * 2011) ps fun ls hls => by
        have h6 := lines_len hn hs ls (hf'.2 ls hls).2
        have h7 := sum_pos (hf'.2 ls hls)
        show (brs sp (ls.map (lineT sp nt))).length + 2 ≤ (ls.map List.length).sum * 2011
        omega
      rw [sum_mul] at h5
      have hpos : 1 ≤ (ps.map fun ls => (ls.map List.length).sum).sum := by
        cases ps with
        | nil => exact absurd rfl hf'.1
        | cons a b =>
          have := sum_pos (hf'.2 a (by simp))
          simp only [List.map_cons, List.sum_cons]; omega
      rw [h3]
      simp only [List.length_append, List.length_cons, List.length_nil]
      omega
  intro d
  induction d with
  | zero =>
    intro g hf
    have := flat 0 g (fun l e => by subst e; exact hf.elim) hf
    simpa using this
  | succ d ih =>
    intro g hf
    by_cases hg : ∃ l, g = .coll l
    · obtain ⟨gs, rfl⟩ := hg
      rw [t_coll _ _ _ _ hf.1, wd_len _ _ _ 18 rfl]
      have h3 : ptsN (d + 1 + 2) (toShp (d + 1) (.coll gs)) = (gs.map fun g => ptsN (d + 2) (toShp d g)).sum := by
        rw [toShp, ptsN]
        simp only [List.map_nil, List.sum_nil, Nat.zero_add]
        rw [sum_map_map]
      have h4 := jn_len sp hs (gs.map (geoT low sp nt d))
      rw [sum_map_map] at h4
      have h5 := sum_le_sum (fun g => (geoT low sp nt d g).length + 2) (fun g => ptsN (d + 2) (toShp d g) * (2042 + 23 * d)) gs fun g hg => by
        obtain ⟨h6, h7⟩ := ih g (hf.2 g hg)
        show (geoT low sp nt d g).length + 2 ≤ ptsN (d + 2) (toShp d g) * (2042 + 23 * d)
        have : ptsN (d + 2) (toShp d g) * (2042 + 23 * d) = (2040 + 23 * d) * ptsN (d + 2) (toShp d g) + 2 * ptsN (d + 2) (toShp d g) := by
          rw [Nat.mul_comm, ← Nat.add_mul]; congr 1; omega
        omega
      rw [sum_mul] at h5
      have hpos : 1 ≤ (gs.map fun g => ptsN (d + 2) (toShp d g)).sum := by
        obtain ⟨hne, hfg⟩ := hf
        cases gs with
        | nil => exact absurd rfl hne
        | cons a b =>
          have := (ih a (hfg a (by simp))).1
          simp only [List.map_cons, List.sum_cons]; omega
      rw [h3]
      refine ⟨hpos, ?_⟩
      generalize (gs.map fun g => ptsN (d + 2) (toShp d g)).sum = N at *
      have e1 : (2040 + 23 * (d + 1)) * N = N * (2042 + 23 * d) + 21 * N := by
        rw [Nat.mul_comm N, ← Nat.add_mul]; congr 1; omega
      simp only [List.length_append, List.length_cons, List.length_nil]
      omega
    · obtain ⟨h1, h2⟩ := flat (d + 1) g (fun l e => hg ⟨l, e⟩) hf
      exact ⟨h1, Nat.le_trans h2 (Nat.mul_le_mul_right _ (by omega))⟩
end Go.Proofs.YtghajgdiaopioaaGreatDoor
