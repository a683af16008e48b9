/- Walks: the geometry of a shape of which the statements speak is written and read. -/
import Derived.ProofKit
import Derived.Deep.Slices
import Derived.Test.YtghajgdiaopioaaGreatDoorRows
import Derived.Stop.LaidErr
import Derived.Lib.LaidU8
import Derived.OpenShut
import Derived.OpenVars
import Derived.Lay
import Derived.Deep.DeepHandedRow
import Derived.Deep.DeepWitnessRowRef
import Derived.MakeChecks
import Derived.Test.YtghajgdiaopioaaGreatDoorV06
set_option linter.unusedVariables false
set_option linter.unusedSimpArgs false

namespace Go.Proofs.YtghajgdiaopioaaGreatDoor
open Go.RowKit

end Go.Proofs.YtghajgdiaopioaaGreatDoor

/- Walks: FnWrite (4). -/
namespace Go.Proofs.YtghajgdiaopioaaGreatDoor
open Go.RowKit
attribute [local go_sem] run_store_float run_store_iface run_store_nilIface

/-- What a law is handed: a shape, as it lies in memory. -/
structure Arg (dd : Nat) (w : World) (v : Value) (s : Shp) : Prop where
  at' : ShpAt dd w v s
  len : LenB 4 s
  fl : AllS (fun x => x < 18446744073709551616) 4 s
theorem Arg.isFull {dd : Nat} {w : World} {v : Value} {s : Shp} (h : Arg dd w v s) (wx : World) (hb : Bel w wx) (hi : isShp s = true) : Calls Tryz.prog 11 #[v] wx fun e w' => e = .returned (.bool (emptyS 4 s || fullS 4 s)) ∧ Bel wx w' := by
  have hok : okS 4 s = true := by unfold isShp at hi; simp only [Bool.and_eq_true] at hi; exact hi.1
  have hp := pts_small hi h.len
  exact isFull_calls 4 dd v s wx hok (lenS_of 4 s hok hp) (by rw [ptsOf_length]; omega) (ShpAt.bel hb _ _ _ h.at')
/-- A shape's three cells. -/
def Box3 (b : Nat) (k : Int) (ao : Option Addr) (n c : Nat) (bo : Option Addr) (m c' : Nat) (w : World) : Prop := w.cell? ⟨b, 0, none⟩ = some (.int .i64 k) ∧ w.cell? ⟨b, 1, none⟩ = some (.slice ao n c) ∧ w.cell? ⟨b, 2, none⟩ = some (.slice bo m c')
theorem box3_new (w : World) (k : Int) (ao : Option Addr) (n c : Nat) (bo : Option Addr) (m c' : Nat) : Box3 w.heap.size k ao n c bo m c' (w.alloc (.cells #[.int .i64 k, .slice ao n c, .slice bo m c'] 25)) := by
  have h : (w.alloc (.cells #[.int .i64 k, .slice ao n c, .slice bo m c'] 25)).heap[w.heap.size]? = some (.cells #[.int .i64 k, .slice ao n c, .slice bo m c'] 25 (0, 0)) := heap_alloc_new _ _
  unfold Box3 World.cell?
  simp only [h]
  exact ⟨rfl, rfl, rfl⟩
theorem Box3.bel {b : Nat} {k : Int} {ao : Option Addr} {n c : Nat} {bo : Option Addr} {m c' : Nat} {w w' : World} (h : Box3 b k ao n c bo m c' w) (hb : Bel w w') : Box3 b k ao n c bo m c' w' := keep3 hb h

end Go.Proofs.YtghajgdiaopioaaGreatDoor

/- The datum of a shape, opened: as it lies in memory, how long its lists are, what its coordinates are. -/
namespace Go.Proofs.YtghajgdiaopioaaGreatDoor
open Go.ChangeShapes Go.WideShapes Go.RowKit

set_option maxRecDepth 100000
section
variable {H : Type} {enc : TypeId × Value → H} {w : World}
theorem weightsAll_mem {P : Program} {e : TypeId} {d : DataW H} {l : List (DataW H)} (h : d ∈ l) {x : Nat} (hx : x ∈ d.weights P e) : x ∈ DataW.weightsAll P e l := by
  induction l with
  | nil => cases h
  | cons a l ih =>
    unfold DataW.weightsAll
    rcases List.mem_cons.1 h with rfl | h
    · exact List.mem_append_left _ hx
    · exact List.mem_append_right _ (ih h)
theorem open_sl {t e : TypeId} {n : Nat} {cs : List Value} {x : DataW H × List MemPlace} {α : Type} [Inhabited α] (ht : Tryz.prog.underlying t = some (.slice e)) (R : Addr → α → Prop)
    (hel : ∀ m, n = m + 1 → ∀ a cs' y, w.cells? 0 a (Tryz.prog.cellsOf e) = some cs' → DataW.trod enc Tryz.prog w 0 (fun _ => true) true m e cs' = some y → (∀ b ∈ y.1.weights Tryz.prog e, b ≤ reachBytes) → ∃ d, R a d)
    (h : DataW.trod enc Tryz.prog w 0 (fun _ => true) true n t cs = some x) (hw : ∀ b ∈ x.1.weights Tryz.prog t, b ≤ reachBytes) :
    ∃ (ao : Option Addr) (cap : Nat) (l : List α), cs = [.slice ao l.length cap] ∧ l.length ≤ maxLen ∧ l.length * Tryz.prog.bytesOf e ≤ reachBytes ∧ ∀ i d, l[i]? = some d → ∃ a, ao = some a ∧ R (a.add (i * Tryz.prog.cellsOf e)) d := by
  rcases DataW.trod_slice ht h with ⟨rfl, rfl⟩ | ⟨a, len, cap, elems, rest, m, hn, rfl, rfl, _, hl, hm, hlen, hE, _, _⟩
  · exact ⟨none, 0, [], rfl, by simp, by simp, fun i d hd => by simp at hd⟩
  · unfold DataW.weights at hw
    rw [ht] at hw
    simp only [List.length_map] at hw
    have h1 := hw _ (List.mem_cons_self ..)
    have key : ∀ i, i < len → ∃ d, R (a.add (i * Tryz.prog.cellsOf e)) d := fun i hi => by
      have h2 := hE i hi
      rw [List.getElem?_eq_getElem (by omega)] at h2
      obtain ⟨cs', h3, h4⟩ := Option.bind_eq_some_iff.1 h2
      exact hel m hn _ _ _ h3 h4 fun b hb => hw b (List.mem_cons_of_mem _ (List.mem_append_left _ (weightsAll_mem (List.mem_map.2 ⟨_, List.getElem_mem _, rfl⟩) hb)))
    obtain ⟨f, hf⟩ := Go.Deep.choose_lt key
    refine ⟨some a, cap, (List.range len).map f, by simp, by simp; omega, ?_, fun i d hd => ?_⟩
    · simp only [List.length_map, List.length_range]
      rw [← hlen]
      exact Nat.le_trans (Nat.mul_le_mul_right _ (Nat.le_add_right _ _)) h1
    · rw [List.getElem?_map] at hd
      obtain ⟨j, hj, rfl⟩ := Option.map_eq_some_iff.1 hd
      obtain ⟨hi, rfl⟩ := List.getElem?_eq_some_iff.1 hj
      simp only [List.length_range] at hi
      simp only [List.getElem_range]
      exact ⟨a, rfl, hf i hi⟩

theorem trod_f64 {n : Nat} {cs : List Value} {x : DataW H × List MemPlace} (h : DataW.trod enc Tryz.prog w 0 (fun _ => true) true n 47 cs = some x) : ∃ v, cs = [.float .f64 v] ∧ v < 18446744073709551616 := by
  cases n with
  | zero => simp [DataW.trod] at h
  | succ n =>
    unfold DataW.trod at h
    rw [Tryz.underlying47] at h
    split at h <;> simp_all
    rename_i hk
    subst hk
    have h1 := h.1.2
    simpa [Lit.wf] using h1
theorem c49 : Tryz.prog.cellsOf 49 = 2 := by kernel_rfl
theorem c47 : Tryz.prog.cellsOf 47 = 1 := by kernel_rfl
theorem c27 : Tryz.prog.cellsOf 27 = 1 := by kernel_rfl
theorem c22 : Tryz.prog.cellsOf 22 = 1 := by kernel_rfl
theorem c23 : Tryz.prog.cellsOf 23 = 1 := by kernel_rfl
theorem c3 : Tryz.prog.cellsOf 3 = 1 := by kernel_rfl
theorem c25 : Tryz.prog.cellsOf 25 = 3 := by kernel_rfl
theorem b49 : Tryz.prog.bytesOf 49 = 16 := by kernel_rfl
theorem add1 (a : Addr) : a.add 1 = ⟨a.block, a.off + 1, none⟩ := rfl
theorem add2 (a : Addr) : a.add 2 = ⟨a.block, a.off + 2, none⟩ := rfl
theorem add0 (a : Addr) : a.add 0 = a := rfl

theorem open_pt {n : Nat} {a : Addr} {cs : List Value} {x : DataW H × List MemPlace} (hc : w.cells? 0 a (Tryz.prog.cellsOf 49) = some cs) (h : DataW.trod enc Tryz.prog w 0 (fun _ => true) true n 49 cs = some x) :
    ∃ p : Pt, (w.cell? a = some (.float .f64 p.1) ∧ w.cell? ⟨a.block, a.off + 1, none⟩ = some (.float .f64 p.2)) ∧ p.1 < 18446744073709551616 ∧ p.2 < 18446744073709551616 := by
  obtain ⟨xs, m, rfl, _, hl, hx, hf⟩ := DataW.trod_struct Tryz.underlying49 h
  rw [c49] at hl hc
  obtain ⟨_, _, hat⟩ := World.cells?_some hc
  match cs, hl with
  | [u, v], _ =>
    have f0 : DataW.trod enc Tryz.prog w 0 (fun _ => true) true m 47 (([u, v].drop 0).take (Tryz.prog.cellsOf 47)) = xs[0]? := hf 0 _ rfl
    have f1 : DataW.trod enc Tryz.prog w 0 (fun _ => true) true m 47 (([u, v].drop 1).take (Tryz.prog.cellsOf 47)) = xs[1]? := hf 1 _ rfl
    rw [c47] at f0 f1
    have hx2 : xs.length = 2 := hx
    rw [List.getElem?_eq_getElem (by omega)] at f0 f1
    obtain ⟨p, e0, b0⟩ := trod_f64 f0
    obtain ⟨q, e1, b1⟩ := trod_f64 f1
    simp at e0 e1
    subst e0; subst e1
    have a0 := hat 0 (by decide)
    have a1 := hat 1 (by decide)
    exact ⟨(p, q), ⟨by simpa [add0] using a0, by simpa [add1] using a1⟩, b0, b1⟩

theorem open_pts {n : Nat} {cs : List Value} {x : DataW H × List MemPlace} (h : DataW.trod enc Tryz.prog w 0 (fun _ => true) true n 27 cs = some x) (hw : ∀ b ∈ x.1.weights Tryz.prog 27, b ≤ reachBytes) :
    ∃ (v : Value) (l : List Pt), cs = [v] ∧ PtsAt w v l ∧ l.length ≤ 8796093022208 ∧ ∀ p ∈ l, p.1 < 18446744073709551616 ∧ p.2 < 18446744073709551616 := by
  obtain ⟨ao, cap, l, rfl, hm, hb, hl⟩ := open_sl (α := Pt) Tryz.underlying27 (fun a p => (w.cell? a = some (.float .f64 p.1) ∧ w.cell? ⟨a.block, a.off + 1, none⟩ = some (.float .f64 p.2)) ∧ p.1 < 18446744073709551616 ∧ p.2 < 18446744073709551616)
    (fun m _ a cs' y h1 h2 _ => open_pt h1 h2) h hw
  refine ⟨_, l, rfl, ⟨ao, cap, rfl, hm, fun i p hp => ?_⟩, ?_, fun p hp => ?_⟩
  · obtain ⟨a, h1, ⟨h2, h3⟩, _⟩ := hl i p hp
    rw [c49] at h2 h3
    exact ⟨a, h1, h2, h3⟩
  · rw [b49] at hb
    have : reachBytes = 140737488351232 := rfl
    omega
  · obtain ⟨i, hi⟩ := List.mem_iff_getElem?.1 hp
    obtain ⟨a, _, _, h2⟩ := hl i p hi
    exact h2

theorem open_rows {n : Nat} {cs : List Value} {x : DataW H × List MemPlace} (h : DataW.trod enc Tryz.prog w 0 (fun _ => true) true n 22 cs = some x) (hw : ∀ b ∈ x.1.weights Tryz.prog 22, b ≤ reachBytes) :
    ∃ (v : Value) (ls : List (List Pt)), cs = [v] ∧ RowAt PtsAt w v ls ∧ (∀ l ∈ ls, l.length ≤ 8796093022208) ∧ ∀ l ∈ ls, ∀ p ∈ l, p.1 < 18446744073709551616 ∧ p.2 < 18446744073709551616 := by
  obtain ⟨ao, cap, ls, rfl, hm, _, hl⟩ := open_sl (α := List Pt) Tryz.underlying22 (fun a l => (∃ x, w.cell? a = some x ∧ PtsAt w x l) ∧ l.length ≤ 8796093022208 ∧ ∀ p ∈ l, p.1 < 18446744073709551616 ∧ p.2 < 18446744073709551616)
    (fun m _ a cs' y h1 h2 h3 => by
      obtain ⟨v, l, rfl, h4, h5, h6⟩ := open_pts h2 h3
      rw [c27] at h1
      exact ⟨l, ⟨v, cell_of_cells?_one h1, h4⟩, h5, h6⟩) h hw
  refine ⟨_, ls, rfl, ⟨ao, cap, rfl, hm, fun i l hp => ?_⟩, fun l hp => ?_, fun l hp => ?_⟩
  · obtain ⟨a, h1, ⟨x, h2, h3⟩, _⟩ := hl i l hp
    rw [c27, Nat.mul_one] at h2
    exact ⟨a, x, h1, h2, h3⟩
  · obtain ⟨i, hi⟩ := List.mem_iff_getElem?.1 hp
    obtain ⟨a, _, _, h2, _⟩ := hl i l hi
    exact h2
  · obtain ⟨i, hi⟩ := List.mem_iff_getElem?.1 hp
    obtain ⟨a, _, _, _, h2⟩ := hl i l hi
    exact h2

instance : Inhabited Shp := ⟨.mk 0 [] []⟩
theorem open_shp : ∀ (n k : Nat), k ≤ n → ∀ {cs : List Value} {x : DataW H × List MemPlace}, DataW.trod enc Tryz.prog w 0 (fun _ => true) true k 25 cs = some x → (∀ b ∈ x.1.weights Tryz.prog 25, b ≤ reachBytes) →
    ∃ (c0 c1 c2 : Value) (s : Shp), cs = [c0, c1, c2] ∧ ShpAt n w (.agg #[c0, c1, c2]) s ∧ (∀ D, LenB D s) ∧ ∀ D, AllS (fun x => x < 18446744073709551616) D s := by
  intro n
  induction n with
  | zero =>
    intro k hk cs x h
    obtain rfl : k = 0 := by omega
    simp [DataW.trod] at h
  | succ n ih =>
    intro k hk cs x h hw
    obtain ⟨xs, m, hkm, rfl, hl, hx, hf⟩ := DataW.trod_struct Tryz.underlying25 h
    rw [c25] at hl
    have hx2 : xs.length = 3 := hx
    match cs, hl, xs, hx2 with
    | [u, v, z], _, [x0, x1, x2], _ =>
      have f0 : DataW.trod enc Tryz.prog w 0 (fun _ => true) true m 3 (([u, v, z].drop 0).take (Tryz.prog.cellsOf 3)) = some x0 := hf 0 _ rfl
      have f1 : DataW.trod enc Tryz.prog w 0 (fun _ => true) true m 22 (([u, v, z].drop 1).take (Tryz.prog.cellsOf 22)) = some x1 := hf 1 _ rfl
      have f2 : DataW.trod enc Tryz.prog w 0 (fun _ => true) true m 23 (([u, v, z].drop 2).take (Tryz.prog.cellsOf 23)) = some x2 := hf 2 _ rfl
      rw [c3] at f0
      rw [c22] at f1
      rw [c23] at f2
      simp at f0 f1 f2
      obtain ⟨kd, e0, _⟩ := DataW.trod_int Tryz.underlying3 f0
      simp at e0
      subst e0
      unfold DataW.weights at hw
      rw [Tryz.underlying25] at hw
      simp only [List.map_cons, List.map_nil, DataW.weightsEach, List.append_nil] at hw
      obtain ⟨v', ls, e1, hL, hl1, hl2⟩ := open_rows f1 (fun b hb => hw b (List.mem_append_right _ (List.mem_append_left _ hb)))
      simp at e1
      subst e1
      obtain ⟨ao, cap, ps, e2, hm, _, hP⟩ := open_sl (α := Shp) Tryz.underlying23 (fun a s => (∃ c0 c1 c2, w.cell? a = some c0 ∧ w.cell? ⟨a.block, a.off + 1, none⟩ = some c1 ∧ w.cell? ⟨a.block, a.off + 2, none⟩ = some c2 ∧ ShpAt n w (.agg #[c0, c1, c2]) s) ∧ (∀ D, LenB D s) ∧ ∀ D, AllS (fun x => x < 18446744073709551616) D s)
        (fun m' hm' a cs' y h1 h2 h3 => by
          obtain ⟨c0, c1, c2, s, rfl, h4, h5, h6⟩ := ih m' (by omega) h2 h3
          rw [c25] at h1
          obtain ⟨_, _, hat⟩ := World.cells?_some h1
          have a0 := hat 0 (by decide)
          have a1 := hat 1 (by decide)
          have a2 := hat 2 (by decide)
          exact ⟨s, ⟨c0, c1, c2, by simpa [add0] using a0, by simpa [add1] using a1, by simpa [add2] using a2, h4⟩, h5, h6⟩) f2 (fun b hb => hw b (List.mem_append_right _ (List.mem_append_right _ hb)))
      simp at e2
      subst e2
      refine ⟨_, _, _, .mk kd ls ps, rfl, ⟨_, _, rfl, hL, ao, cap, rfl, hm, fun i s hs => ?_⟩, fun D => ?_, fun D => ?_⟩
      · obtain ⟨a, h1, ⟨c0, c1, c2, h2, h3, h4, h5⟩, _⟩ := hP i s hs
        rw [c25] at h2 h3 h4
        exact ⟨a, c0, c1, c2, h1, h2, h3, h4, h5⟩
      · cases D with
        | zero => trivial
        | succ D =>
          refine ⟨hl1, fun p hp => ?_⟩
          obtain ⟨i, hi⟩ := List.mem_iff_getElem?.1 hp
          obtain ⟨a, _, _, h2, _⟩ := hP i p hi
          exact h2 D
      · cases D with
        | zero => trivial
        | succ D =>
          refine ⟨hl2, fun p hp => ?_⟩
          obtain ⟨i, hi⟩ := List.mem_iff_getElem?.1 hp
          obtain ⟨a, _, _, _, h2⟩ := hP i p hi
          exact h2 D
end
/-- An argument's datum, opened. -/
theorem arg_of {H : Type} {enc : TypeId × Value → H} {w : World} {base : Nat} {v : Value} {d : DataW H} {p : List MemPlace} (hv : Value.okWide Tryz.prog w .any base 25 v) (h : DataW.Trod enc Tryz.prog w 0 (fun _ => true) true 25 v d p)
    (hw : ∀ b ∈ d.weights Tryz.prog 25, b ≤ reachBytes) : ∃ dd s, Arg dd w v s := by
  obtain ⟨fuel, h⟩ := h
  obtain ⟨c0, c1, c2, s, e, h1, h2, h3⟩ := open_shp fuel fuel (Nat.le_refl _) h hw
  obtain ⟨x0, x1, x2, rfl⟩ : ∃ x0 x1 x2, v = .agg #[x0, x1, x2] := by
    obtain ⟨⟨l⟩, rfl, hs⟩ := okWide_struct Tryz.underlying25 hv
    rw [c25] at hs
    match l, hs with
    | [x0, x1, x2], _ => exact ⟨x0, x1, x2, rfl⟩
  have e' : [x0, x1, x2] = [c0, c1, c2] := e
  simp at e'
  obtain ⟨rfl, rfl, rfl⟩ := e'
  exact ⟨fuel, s, h1, h2 4, h3 4⟩
end Go.Proofs.YtghajgdiaopioaaGreatDoor

/- What the listed variables hold: the tables and the sentinels that the walks ask of the world. -/
namespace Go.Proofs.YtghajgdiaopioaaGreatDoor
open Go.ChangeShapes Go.WideShapes Go.RowKit
set_option maxRecDepth 100000
variable {W : World}

theorem arr_reads {nm : String} {g : Nat} {t e : TypeId} {n : Nat} {ds : List (DataW Unit)} (hg0 : Tryz.prog.globalNamed nm = some g) (ht0 : (Tryz.prog.globals[g]?).map (·.type) = some t) (hu : Tryz.prog.underlying t = some (.array n e))
    (h : Lib.VarReads Tryz.prog W nm (.agg ds)) : ∃ (cs : Array Value) (m : Nat), (∀ j, W.cell? ⟨g, j, none⟩ = cs[j]?) ∧ cs.size = Tryz.prog.cellsOf t ∧ ∀ i d, i < n → ds[i]? = some d → ∃ p, DataW.trod (fun _ => ()) Tryz.prog W 0 (fun _ => true) false m e ((cs.toList.drop (i * Tryz.prog.cellsOf e)).take (Tryz.prog.cellsOf e)) = some (d, p) := by
  obtain ⟨g', t', cs, fuel, p, hg, ht, hv, hd⟩ := h
  obtain rfl := Option.some.inj (hg0.symm.trans hg)
  obtain rfl := Option.some.inj (ht0.symm.trans ht)
  obtain ⟨xs, m, _, ex, hl, hn, hel⟩ := DataW.trod_array hu hd
  have e1 : ds = xs.map (·.1) := DataW.agg.inj (Prod.mk.inj ex).1
  refine ⟨cs, m, fun j => World.var?_cell hg hv j, by simpa using hl, fun i d hi hd => ?_⟩
  rw [e1, List.getElem?_map] at hd
  obtain ⟨x, hx, rfl⟩ := Option.map_eq_some_iff.1 hd
  exact ⟨x.2, (hel i hi).trans hx⟩
theorem take1 {cs : Array Value} {i : Nat} {v : Value} (h : (cs.toList.drop i).take 1 = [v]) : cs[i]? = some v := by
  have h0 : ((cs.toList.drop i).take 1)[0]? = some v := by rw [h]; rfl
  simpa using h0
theorem take2 {cs : Array Value} {i : Nat} {v u : Value} (h : (cs.toList.drop i).take 2 = [v, u]) : cs[i]? = some v ∧ cs[i + 1]? = some u := by
  have h0 : ((cs.toList.drop i).take 2)[0]? = some v := by rw [h]; rfl
  have h1 : ((cs.toList.drop i).take 2)[1]? = some u := by rw [h]; rfl
  constructor
  · simpa using h0
  · simpa using h1

theorem t22_of (h : Lib.VarReads Tryz.prog W "internal/strconv.pow10Tab" Rows.laid_internal_strconv_pow10Tab) (i : Nat) (hi : i < 696) :
    W.cell? ⟨22, i * 2, none⟩ = some (.int .u64 (tabHi i)) ∧ W.cell? ⟨22, i * 2 + 1, none⟩ = some (.int .u64 (tabLo i)) := by
  have h' : Lib.VarReads Tryz.prog W "internal/strconv.pow10Tab" (.agg (Go.Pinned.pow10Rows.map fun x => .agg [.lit (.int .u64 x.1), .lit (.int .u64 x.2)])) := h
  obtain ⟨cs, m, hc, _, hel⟩ := arr_reads (g := 22) (t := 266) (by kernel_rfl) (by kernel_rfl) Tryz.underlying266 h'
  have c265 : Tryz.prog.cellsOf 265 = 2 := by kernel_rfl
  have hlen : Go.Pinned.pow10Rows.length = 696 := by kernel_rfl
  obtain ⟨p, hp⟩ := hel i _ hi (by rw [List.getElem?_map, List.getElem?_eq_getElem (by omega)]; rfl)
  have hq := Lib.ints_of_struct (k := .u64) (zs := [(Go.Pinned.pow10Rows[i]'(by omega)).1, (Go.Pinned.pow10Rows[i]'(by omega)).2]) Tryz.underlying265 (fun j f hf => by
    match j, hf with
    | 0, hf => obtain rfl := Option.some.inj hf; exact ⟨Tryz.underlying106, rfl, by kernel_rfl⟩
    | 1, hf => obtain rfl := Option.some.inj hf; exact ⟨Tryz.underlying106, rfl, by kernel_rfl⟩
    | j + 2, hf => simp at hf) c265 hp
  rw [c265] at hq
  obtain ⟨q1, q2⟩ := take2 hq
  rw [hc, hc, q1, q2]
  unfold tabHi tabLo
  rw [List.getD_eq_getElem?_getD, List.getElem?_eq_getElem (by omega)]
  exact ⟨rfl, rfl⟩

theorem info_of (h : Lib.VarReads Tryz.prog W "internal/strconv.float64info" Rows.laid_internal_strconv_float64info) : W.cell? ⟨16, 0, none⟩ = some (.int .u64 52) := by
  obtain ⟨g', t', cs, fuel, p, hg, ht, hv, hd⟩ := h
  obtain rfl := Option.some.inj ((show Tryz.prog.globalNamed "internal/strconv.float64info" = some 16 by kernel_rfl).symm.trans hg)
  obtain rfl := Option.some.inj ((show (Tryz.prog.globals[16]?).map (·.type) = some 224 by kernel_rfl).symm.trans ht)
  obtain ⟨xs, m, _, ex, hl, hn, hf⟩ := DataW.trod_struct Tryz.underlying224 hd
  have f0 : DataW.trod (fun _ => ()) Tryz.prog W 0 (fun _ => true) false m 134 ((cs.toList.drop 0).take (Tryz.prog.cellsOf 134)) = xs[0]? := hf 0 _ rfl
  have e1 : ([.lit (.int .u64 52), .lit (.int .u64 11), .lit (.int .i64 (-1023))] : List (DataW Unit)) = xs.map (·.1) := DataW.agg.inj (Prod.mk.inj ex).1
  rw [World.var?_cell hg hv 0]
  match xs, e1 with
  | x0 :: _, e1 =>
    rw [show Tryz.prog.cellsOf 134 = 1 by kernel_rfl] at f0
    obtain ⟨z, e2, e3, _⟩ := DataW.trod_int Tryz.underlying134 f0
    have e4 := (List.cons.inj e1).1
    rw [e3] at e4
    have e5 : (52 : Int) = z := by simpa using e4
    rw [e5]
    exact take1 e2
theorem opt_of (h : Lib.VarReads Tryz.prog W "internal/strconv.optimize" Rows.laid_internal_strconv_optimize) : W.cell? ⟨14, 0, none⟩ = some (.bool true) := by
  obtain ⟨g', t', cs, fuel, p, hg, ht, hv, hd⟩ := h
  obtain rfl := Option.some.inj ((show Tryz.prog.globalNamed "internal/strconv.optimize" = some 14 by kernel_rfl).symm.trans hg)
  obtain rfl := Option.some.inj ((show (Tryz.prog.globals[14]?).map (·.type) = some 4 by kernel_rfl).symm.trans ht)
  obtain ⟨b, e1, e2⟩ := DataW.trod_bool Tryz.underlying4 hd
  rw [World.var?_cell hg hv 0]
  have e3 : (DataW.lit (.bool true) : DataW Unit) = .lit (.bool b) := (Prod.mk.inj e2).1
  obtain rfl : true = b := by simpa using e3
  have : cs.toList[0]? = some (.bool true) := by rw [e1]; rfl
  simpa using this
theorem p10_of (h : Lib.VarReads Tryz.prog W "internal/strconv.uint64pow10" Rows.laid_internal_strconv_uint64pow10) : Lib.TabIs Tryz.prog W "internal/strconv.uint64pow10" .u64 Lib.pow10Tab := by
  have h' : Lib.VarReads Tryz.prog W "internal/strconv.uint64pow10" (Lib.tabData .u64 Lib.pow10Tab) := h
  obtain ⟨g', t', cs, fuel, p, hg, ht, hv, hd⟩ := h'
  obtain rfl := Option.some.inj ((show Tryz.prog.globalNamed "internal/strconv.uint64pow10" = some 11 by kernel_rfl).symm.trans hg)
  obtain rfl := Option.some.inj ((show (Tryz.prog.globals[11]?).map (·.type) = some 191 by kernel_rfl).symm.trans ht)
  have := Lib.cells_of_tab Tryz.underlying191 Tryz.underlying106 (by kernel_rfl) (by kernel_rfl) hd
  unfold Lib.TabIs
  rw [hv, ← this]

theorem row239 (u : TypeId) (h : Tryz.prog.typeName? 3 u = some "*errors.errorString") : u = 239 :=
  have star : "*" ++ "errors.errorString" = "*errors.errorString" := by decide
  typeName_ptr_named (nm := "errors.errorString") (by rw [star]; kernel_rfl) (by kernel_rfl) (by decide) u (by rw [star]; exact h)
/-- What a world holds, a world that holds the same blocks holds. -/
theorem cell_same {w : World} (h : ∀ (g : Nat) (cs : Array Value), (∃ t fz, W.heap[g]? = some (.cells cs t fz)) → ∃ t fz, w.heap[g]? = some (.cells cs t fz)) {g j : Nat} {v : Value} (hc : W.cell? ⟨g, j, none⟩ = some v) : w.cell? ⟨g, j, none⟩ = some v := by
  unfold World.cell? at hc ⊢
  simp only at hc ⊢
  cases hh : W.heap[g]? with
  | none => rw [hh] at hc; simp at hc
  | some o =>
    cases o with
    | cells cs t fz =>
      obtain ⟨t', fz', h'⟩ := h g cs ⟨t, fz, hh⟩
      rw [hh] at hc
      rw [h']
      exact hc
    | _ => rw [hh] at hc; simp at hc
theorem tab_same {w : World} (h : ∀ (g : Nat) (cs : Array Value), (∃ t fz, W.heap[g]? = some (.cells cs t fz)) → ∃ t fz, w.heap[g]? = some (.cells cs t fz)) {n : String} {k : IntKind} {zs : List Int} (hc : Lib.TabIs Tryz.prog W n k zs) : Lib.TabIs Tryz.prog w n k zs := by
  unfold Lib.TabIs World.var? at hc ⊢
  cases hg : Tryz.prog.globalNamed n with
  | none => rw [hg] at hc; simp at hc
  | some g =>
    rw [hg] at hc
    simp only [Option.bind_some] at hc ⊢
    cases hh : W.heap[g]? with
    | none => rw [hh] at hc; simp at hc
    | some o =>
      cases o with
      | cells cs t fz =>
        obtain ⟨t', fz', h'⟩ := h g cs ⟨t, fz, hh⟩
        rw [hh] at hc
        rw [h']
        exact hc
      | _ => rw [hh] at hc; simp at hc
end Go.Proofs.YtghajgdiaopioaaGreatDoor

/- The row of FnWrite, lifted: there is an input that fits, and from every one the law returns true. -/
namespace Go.Proofs.YtghajgdiaopioaaGreatDoor
open Go.ChangeShapes Go.WideShapes Go.ChangeAt Go.RowKit
set_option maxRecDepth 100000

theorem ownZ : ownKnob Tryz.prog.godebug = none := by kernel_rfl
theorem laidOutZ : laidOutB Tryz.prog = true := by kernel_rfl
def zeroShp : Value := .agg #[.int .i64 0, .slice none 0 0, .slice none 0 0]
end Go.Proofs.YtghajgdiaopioaaGreatDoor

/- The row of FnWrite: from every input that fits the law returns true. -/
namespace Go.Proofs.YtghajgdiaopioaaGreatDoor
open Go.ChangeShapes Go.WideShapes Go.ChangeAt Go.RowKit
set_option maxRecDepth 100000

end Go.Proofs.YtghajgdiaopioaaGreatDoor
