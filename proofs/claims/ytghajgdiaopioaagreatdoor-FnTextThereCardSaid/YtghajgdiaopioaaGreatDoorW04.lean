/- Words on memory: an append of one element; what is kept from call to call. -/
import Derived.OneCell
import Derived.Deep.RegionWith
import Derived.Test.YtghajgdiaopioaaGreatDoorW03
set_option linter.unusedVariables false
set_option linter.unusedSimpArgs false

namespace Go.Proofs.YtghajgdiaopioaaGreatDoor
open Go.RowKit

/-- Nothing that was there has turned. -/
abbrev Bel (w w' : World) : Prop := Below w.heap.size w w'
theorem Bel.tr {a b c : World} (h : Bel a b) (k : Bel b c) : Bel a c := Below.trans h (Below.mono k h.size)
theorem Bel.dr (w : World) (n : Nat) : Bel w (w.drewN n) := ⟨rfl, rfl, rfl, Nat.le_refl _, fun _ _ => rfl⟩
theorem Bel.dr1 (w : World) : Bel w w.drew := ⟨rfl, rfl, rfl, Nat.le_refl _, fun _ _ => rfl⟩
theorem Bel.al (w : World) (o : Obj) : Bel w (w.alloc o) := (Below.refl _ _).alloc (Nat.le_refl _) o
theorem Bel.heap {w w' : World} (h : Bel w w') {k : Nat} {o : Obj} (hk : w.heap[k]? = some o) : w'.heap[k]? = some o := by
  rw [h.block k ?_]; exact hk
  rcases Nat.lt_or_ge k w.heap.size with h' | h'
  · exact h'
  · rw [Array.getElem?_eq_none h'] at hk; cases hk
theorem lt_heap {w : World} {k : Nat} {o : Obj} (hk : w.heap[k]? = some o) : k < w.heap.size := by
  rcases Nat.lt_or_ge k w.heap.size with h' | h'
  · exact h'
  · rw [Array.getElem?_eq_none h'] at hk; cases hk
theorem Bel.cellOf {w w' : World} (h : Bel w w') {a : Addr} {v : Value} (hk : w.cell? a = some v) : w'.cell? a = some v := by
  rw [Below.cell h (World.block_lt_of_cell? w a hk)]; exact hk

/-- One element more: what 'append(xs, x)' does behind the block in which x was laid. -/
theorem wpList_append1 {P : Program} {ops : Array Oper} {rest : List Oper} {o : Oper} {a : Act} {Q : Exit → Act → World → Prop} (w0 : World) (news : List Value) (e : TypeId) (hgd : o.guard = none) (s x : Operand) (t : TypeId)
    (ho : o.op = .call { callee := .builtin .append, args := #[s, x], argTypes := #[t, t] })
    (base : Nat) (i : TypeInfo) (z : Value) (size bytes : Nat) (ht : P.underlying t = some (.slice e)) (hi : P.info? e = some i) (hz : i.zero = some z)
    (hsize : i.size = size) (hby : i.bytes = bytes) (hzs : z.cells.size = size) (hsz : 0 < size)
    (v : Value) (n : Nat) (xs : List Value) (hs : a.eval s = v) (hown : w0.ownsRow base e size v n xs)
    (g c : Nat) (hx : a.eval x = .slice (some ⟨g, 0, none⟩) 1 c) (hg : w0.heap.size = g) (hl : news.length = size) (h1 : ∀ u ∈ news, u.oneCell' = true)
    (hb : (n + 1) * bytes ≤ 140737488355328) (h63 : n + 1 ≤ maxLen) (hbase : base ≤ w0.heap.size)
    (h : ∀ v' w', w'.ownsRow base e size v' (n + 1) (xs ++ news) → w0.grownBy w' v.ownBlock → wpList P ops Q rest (a.put o.dst v') w') :
    wpList P ops Q (o :: rest) a (w0.alloc (.cells news.toArray e)) := by
  subst hg
  refine wpList_append_own _ hgd s x t ho base e i z size bytes ht hi hz hsize hby hzs hsz v n xs hs (hown.alloc _) ⟨w0.heap.size, 0, none⟩ 1 c news hx (by rw [hl, Nat.one_mul]) ?_ h1 h63 hb (by simp; omega) ?_
  · intro j u hj
    have : (w0.alloc (.cells news.toArray e)).heap[w0.heap.size]? = some (.cells news.toArray e (0, 0)) := heap_alloc_new w0 _
    unfold World.cell?
    have hb : ((⟨w0.heap.size, 0, none⟩ : Addr).add j).block = w0.heap.size := by unfold Addr.add; split <;> rfl
    have ho : ((⟨w0.heap.size, 0, none⟩ : Addr).add j).off = j := by unfold Addr.add; split <;> simp_all
    have hsp : ((⟨w0.heap.size, 0, none⟩ : Addr).add j).spot = none := by unfold Addr.add; split <;> rfl
    rw [hb, this]
    simp [ho, hsp, hj]
  · intro v' w' h2 h3 _
    refine h v' w' h2 ?_
    exact ⟨h3.os, h3.tape, h3.output, Nat.le_trans (by simp) h3.size, fun k hk hr => by rw [h3.block k (by simp; omega) hr]; exact Below.heap_alloc _ _ _ hk⟩

theorem grown_heap {w w' : World} {row : Option Nat} (hg : w.grownBy w' row) {k : Nat} {o : Obj} (hk : w.heap[k]? = some o) (hr : some k ≠ row) : w'.heap[k]? = some o := by
  rw [hg.block k (lt_heap hk) hr]; exact hk

/-- The row of an owned slice bears its element's type: a block of another type is another one. -/
theorem own_ne {w : World} {base : Nat} {e : TypeId} {size : Nat} {v : Value} {n : Nat} {xs : List Value} (h : w.ownsRow base e size v n xs) {k : Nat} {cur : Array Value} {e' : TypeId} {fz : Nat × Nat} (hk : w.heap[k]? = some (.cells cur e' fz)) (he : e' ≠ e) : some k ≠ v.ownBlock := by
  intro hc
  rcases h.2 with ⟨rfl, _⟩ | ⟨g, cap, cu, rfl, _, hg, _⟩
  · cases hc
  · simp [Value.ownBlock] at hc
    subst hc
    rw [hk] at hg
    cases hg
    exact he rfl
end Go.Proofs.YtghajgdiaopioaaGreatDoor

/- What the world holds of the program's own variables; a point's text is read. -/
namespace Go.Proofs.YtghajgdiaopioaaGreatDoor
open Go.RowKit

theorem run_store_float (P : Program) (w : World) (a : Addr) (k : FloatKind) (x : Nat) (m : Mode) : (store a (.float k x) m).run P w = stored P w a (.float k x) m := run_store P w a _ m rfl
theorem run_store_iface (P : Program) (w : World) (a : Addr) (t : TypeId) (x : Value) (m : Mode) : (store a (.iface t x) m).run P w = stored P w a (.iface t x) m := run_store P w a _ m rfl
theorem run_store_nilIface (P : Program) (w : World) (a : Addr) (m : Mode) : (store a .nilIface m).run P w = stored P w a .nilIface m := run_store P w a _ m rfl
attribute [local go_sem] run_store_float run_store_iface run_store_nilIface

abbrev Pt : Type := Nat × Nat

/-- Where the errors lie. -/
structure Errs where
  n : Addr
  u : Addr
  i : Addr
  /-- What the tables hold. -/
  p : Nat → Array Value → Prop

/-- What the variables of the program hold. -/
structure Env (G : Errs) (w : World) : Prop where
  eN : w.cell? ⟨4, 0, none⟩ = some (errV G.n)
  eU : w.cell? ⟨1, 0, none⟩ = some (errV G.u)
  tab : ∀ g cs, G.p g cs → ∃ t fz, w.heap[g]? = some (.cells cs t fz)
theorem Env.bel {G : Errs} {w w' : World} (h : Env G w) (k : Bel w w') : Env G w' := ⟨k.cellOf h.eN, k.cellOf h.eU, fun g cs hp => by obtain ⟨t, fz, hg⟩ := h.tab g cs hp; exact ⟨t, fz, k.heap hg⟩⟩

/-- This text is read as this number, in whatever world that holds the program's variables. -/
def NumReads (G : Errs) (l : List UInt8) (x : Nat) : Prop :=
  ∀ w, Env G w → Calls Tryz.prog 104 #[.string (ofL l), .int .i64 64] w fun e w' => e = .returned (.tuple #[.float .f64 x, .nilIface]) ∧ Bel w w'

/-- This text is read as this point, or (none) has no blank. -/
inductive PtReads (G : Errs) (l : List UInt8) : Option Pt → Prop
  | some (x y : Nat) : (ahead l).length < l.length → NumReads G (ahead l) x → NumReads G (l.drop ((ahead l).length + 1)) y → PtReads G l (some (x, y))
  | none : ¬ (ahead l).length < l.length → PtReads G l none

theorem pp_no (G : Errs) (s : ByteArray) (w : World) (hs : s.size ≤ 1000000000) (hE : Env G w) (h : ¬ (ahead (toL s)).length < (toL s).length) :
    Calls Tryz.prog 76 #[.string s] w fun e w' => e = .returned (.tuple #[.agg #[.float .f64 0, .float .f64 0], errV G.n]) ∧ Bel w w' := by
  have hc := fun wx => cut_no s wx hs h
  have HC := Lib.hid hc
  clear hc h
  obtain ⟨w1, hw1⟩ : ∃ w1, w.alloc (.cells #[.float .f64 0, .float .f64 0] 61) = w1 := ⟨_, rfl⟩
  have e1 : w1.cell? ⟨4, 0, none⟩ = some (errV G.n) := by rw [← hw1]; exact (Bel.al _ _).cellOf hE.eN
  have hb1 : w1.heap[w.heap.size]? = some (Obj.cells #[.float .f64 0, .float .f64 0] 61 (0, 0)) := by rw [← hw1]; exact heap_alloc_new w _
  have q0 : w1.cell? ⟨w.heap.size, 0, none⟩ = some (.float .f64 0) := by simp [World.cell?, hb1]
  have q1 : w1.cell? ⟨w.heap.size, 1, none⟩ = some (.float .f64 0) := by simp [World.cell?, hb1]
  have f0 : w1.frozen? ⟨w.heap.size, 0, none⟩ = false := by simp [World.frozen?, hb1]
  have f1 : w1.frozen? ⟨w.heap.size, 1, none⟩ = false := by simp [World.frozen?, hb1]
  have h4 : 4 < w.heap.size := World.block_lt_of_cell? w _ hE.eN
  have hbel : Bel w w1 := by rw [← hw1]; exact Bel.al _ _
  have HW1 := Lib.hid hw1
  have HB := Lib.hid hb1
  have HBEL := Lib.hid hbel
  clear hw1 hb1 hbel
  have HC1 : Hid (∀ e w', (e = Ending.returned (.tuple #[.string s, .string ⟨#[]⟩, .bool false]) ∧ w.alloc (.cells #[.float .f64 0, .float .f64 0] 61) = w') → e = Ending.returned (.tuple #[.string s, .string ⟨#[]⟩, .bool false]) ∧ w1 = w') := fun e w' h => ⟨h.1, by rw [← HW1.out]; exact h.2⟩
  go_enter Tryz.func76, Tryz.ntmps76
  go_wp2_with (go_at_call 103; refine ((HC.out _).mono HC1.out).mono ?_; rintro e w' ⟨rfl, rfl⟩)
  go_region
  all_goals (try go_wp2)
  all_goals
    (try simp only [Exit.inBlock, Exit.then])
    refine bodyPost_ret (v := .tuple #[.agg #[.float .f64 0, .float .f64 0], errV G.n]) ?_ rfl ⟨rfl, ?_⟩
    · simp [results, Tryz.results76, go_sem, q0, q1]
    · exact ((HBEL.out.setCell (Nat.le_refl _) _).setCell (Nat.le_refl _) _).drew

set_option maxHeartbeats 1000000 in
theorem pp_yes (G : Errs) (s : ByteArray) (w : World) (hs : s.size ≤ 1000000000) (hE : Env G w) (x y : Nat) (h : (ahead (toL s)).length < (toL s).length) (hx : NumReads G (ahead (toL s)) x) (hy : NumReads G ((toL s).drop ((ahead (toL s)).length + 1)) y) :
    Calls Tryz.prog 76 #[.string s] w fun e w' => e = .returned (.tuple #[.agg #[.float .f64 x, .float .f64 y], .nilIface]) ∧ Bel w w' := by
  have hc := fun wx => cut_yes s wx hs h
  have HC := Lib.hid hc
  have HX := Lib.hid hx
  have HY := Lib.hid hy
  clear hc h hx hy
  generalize ahead (toL s) = one at *
  generalize (toL s).drop (one.length + 1) = two at *
  have HE := Lib.hid hE; clear hE
  go_enter Tryz.func76, Tryz.ntmps76
  go_wp2_with fail
  refine (HC.out _).mono ?_
  rintro e w1 ⟨rfl, n, rfl⟩
  have b1 : Bel w ((w.alloc (.cells #[.float .f64 0, .float .f64 0] 61)).drewN n) := (Bel.al _ _).tr (Bel.dr _ _)
  have hb1 : ((w.alloc (.cells #[.float .f64 0, .float .f64 0] 61)).drewN n).heap[w.heap.size]? = some (Obj.cells #[.float .f64 0, .float .f64 0] 61 (0, 0)) := heap_alloc_new w _
  generalize (w.alloc (.cells #[.float .f64 0, .float .f64 0] 61)).drewN n = w1 at *
  have B1 := Lib.hid b1
  have HB1 := Lib.hid hb1
  clear b1 hb1
  go_wp2_with fail
  refine (HX.out w1 (HE.out.bel B1.out)).mono ?_
  rintro e w2 ⟨rfl, b2⟩
  have B2 := Lib.hid b2
  clear b2
  go_wp2_with fail
  refine (HY.out w2 (HE.out.bel (B1.out.tr B2.out))).mono ?_
  rintro e w3 ⟨rfl, b3⟩
  have hb3 := b3.heap (B2.out.heap HB1.out)
  have q0 : w3.cell? ⟨w.heap.size, 0, none⟩ = some (.float .f64 0) := by simp [World.cell?, hb3]
  have q1 : w3.cell? ⟨w.heap.size, 1, none⟩ = some (.float .f64 0) := by simp [World.cell?, hb3]
  have f0 : w3.frozen? ⟨w.heap.size, 0, none⟩ = false := by simp [World.frozen?, hb3]
  have f1 : w3.frozen? ⟨w.heap.size, 1, none⟩ = false := by simp [World.frozen?, hb3]
  have B3 := Lib.hid ((B1.out.tr B2.out).tr b3)
  clear b3 hb3
  go_wp2
  (try simp only [Exit.inBlock, Exit.then])
  refine bodyPost_ret (v := .tuple #[.agg #[.float .f64 x, .float .f64 y], .nilIface]) ?_ rfl ⟨rfl, ?_⟩
  · simp [results, Tryz.results76, go_sem, q0, q1]
  · exact (B3.out.setCell (Nat.le_refl _) _).setCell (Nat.le_refl _) _

def ppV (aN : Addr) : Option Pt → Value
  | some (x, y) => .tuple #[.agg #[.float .f64 x, .float .f64 y], .nilIface]
  | none => .tuple #[.agg #[.float .f64 0, .float .f64 0], errV aN]

/-- A point's text is read. -/
theorem pp_calls (G : Errs) (l : List UInt8) (r : Option Pt) (w : World) (hs : l.length ≤ 1000000000) (hE : Env G w) (h : PtReads G l r) :
    Calls Tryz.prog 76 #[.string (ofL l)] w fun e w' => e = .returned (ppV G.n r) ∧ Bel w w' := by
  cases h with
  | some x y h1 h2 h3 => exact pp_yes G (ofL l) w (by rw [ofL_size]; exact hs) hE x y (by rw [toL_ofL]; exact h1) (by rw [toL_ofL]; exact h2) (by rw [toL_ofL]; exact h3)
  | none h1 => exact pp_no G (ofL l) w (by rw [ofL_size]; exact hs) hE (by rw [toL_ofL]; exact h1)
end Go.Proofs.YtghajgdiaopioaaGreatDoor
