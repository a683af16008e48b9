/- Words for what is written: several bytes at once; the digits of an exponent. -/
import Derived.Maps.AppendAt
import Derived.WalkMore
import Derived.Test.YtghajgdiaopioaaGreatDoorW06
import Derived.Test.YtghajgdiaopioaaGreatDoorW08
import Derived.Test.YtghajgdiaopioaaGreatDoorW22
import Derived.Test.YtghajgdiaopioaaGreatDoorW27
set_option linter.unusedVariables false
set_option linter.unusedSimpArgs false

namespace Go.Proofs.YtghajgdiaopioaaGreatDoor
open Go.RowKit

/-- The digits of an exponent. -/
def dgt (n : Nat) : UInt8 := UInt8.ofNat (48 + n)
def xx (e : Nat) : List UInt8 := if e < 10 then [48, dgt e] else if e < 100 then [dgt (e / 10), dgt (e % 10)] else [dgt (e / 100), dgt (e / 10 % 10), dgt (e % 10)]
theorem dgt_nat (n : Nat) (h : n < 10) : (dgt n).toNat = 48 + n := by
  unfold dgt
  rw [UInt8.toNat_ofNat']
  omega
theorem OutB.stepN {B0 b : Nat} {C : Array Value} {e : TypeId} {w : World} {v : Value} {l : List UInt8} {wr : World} (h : OutB B0 b C e w v l wr) (m : List UInt8) (hl : l.length + m.length ≤ 1000) {v' : Value} {w' : World}
    (h2 : w'.ownsRow B0 5 1 v' (l.length + m.length) (Lib.byteCells l ++ Lib.byteCells m)) (h3 : wr.grownBy w' v.ownBlock) (h4 : v'.ownBlock = v.ownBlock ∨ ∃ g', v'.ownBlock = some g' ∧ wr.heap.size ≤ g') : OutB B0 b C e w v' (l ++ m) w' := by
  have hb := lt_heap h.dig
  refine ⟨?_, ?_, h.bel.trans (Below.grown (Below.refl _ _) h3 h.size fun k hk => (h.own.lt k hk).1), grown_heap h3 h.dig (fun hc => h.ne hc.symm), Nat.le_trans h.size h3.size, by rw [List.length_append]; exact hl⟩
  · rw [List.length_append]
    have : Lib.byteCells (l ++ m) = Lib.byteCells l ++ Lib.byteCells m := by simp [Lib.byteCells]
    rw [this]
    exact h2
  · rcases h4 with h4 | ⟨g', h4, h5⟩
    · rw [h4]; exact h.ne
    · rw [h4]; intro hc; cases hc; omega
/-- Several elements more, laid in a block of their own. -/
theorem wpList_appendN_at {P : Program} {ops : Array Oper} {rest : List Oper} {o : Oper} {a : Act} {Q : Exit → Act → World → Prop} (w0 : World) (news : List Value) (e : TypeId) (hgd : o.guard = none) (s x : Operand) (t : TypeId)
    (ho : o.op = .call { callee := .builtin .append, args := #[s, x], argTypes := #[t, t] })
    (base : Nat) (i : TypeInfo) (z : Value) (bytes : Nat) (ht : P.underlying t = some (.slice e)) (hi : P.info? e = some i) (hz : i.zero = some z)
    (hsize : i.size = 1) (hby : i.bytes = bytes) (hzs : z.cells.size = 1)
    (v : Value) (n : Nat) (xs : List Value) (hs : a.eval s = v) (hown : w0.ownsRow base e 1 v n xs)
    (m : Nat) (g c : Nat) (f : Nat × Nat) (hx : a.eval x = .slice (some ⟨g, 0, none⟩) m c) (hg : w0.heap.size = g) (hl : news.length = m) (h1 : ∀ u ∈ news, u.oneCell' = true)
    (hb : (n + m) * bytes ≤ 140737488355328) (h63 : n + m ≤ maxLen) (hbase : base ≤ w0.heap.size)
    (h : ∀ v' w', w'.ownsRow base e 1 v' (n + m) (xs ++ news) → w0.grownBy w' v.ownBlock → (v'.ownBlock = v.ownBlock ∨ ∃ g', v'.ownBlock = some g' ∧ w0.heap.size < g') → wpList P ops Q rest (a.put o.dst v') w') :
    wpList P ops Q (o :: rest) a (w0.alloc (.cells news.toArray e f)) := by
  subst hg
  refine wpList_append_own_at _ hgd s x t ho base e i z 1 bytes ht hi hz hsize hby hzs (by decide) v n xs hs (hown.alloc _) ⟨w0.heap.size, 0, none⟩ m c news hx (by rw [hl, Nat.mul_one]) ?_ h1 h63 hb (by simp; omega) ?_
  · intro j u hj
    have : (w0.alloc (.cells news.toArray e f)).heap[w0.heap.size]? = some (.cells news.toArray e f) := heap_alloc_new w0 _
    unfold World.cell?
    have hb : ((⟨w0.heap.size, 0, none⟩ : Addr).add j).block = w0.heap.size := by unfold Addr.add; split <;> rfl
    have ho : ((⟨w0.heap.size, 0, none⟩ : Addr).add j).off = j := by unfold Addr.add; split <;> simp_all
    have hsp : ((⟨w0.heap.size, 0, none⟩ : Addr).add j).spot = none := by unfold Addr.add; split <;> rfl
    rw [hb, this]
    simp [ho, hsp, hj]
  · intro v' w' h2 h3 _ h5
    refine h v' w' h2 ?_ ?_
    · exact ⟨h3.os, h3.tape, h3.output, Nat.le_trans (by simp) h3.size, fun k hk hr => by rw [h3.block k (by simp; omega) hr]; exact Below.heap_alloc _ _ _ hk⟩
    · rcases h5 with h5 | h5
      · exact .inl h5
      · exact .inr ⟨_, h5, by simp⟩
/-- One byte more. -/
theorem out1 {B0 b : Nat} {C : Array Value} {e : TypeId} {w : World} {v : Value} {l : List UInt8} {wr : World} (H : Hid (OutB B0 b C e w v l wr)) (y : UInt8) (hl : l.length < 900) {i0 : TypeInfo} (hi : Tryz.prog.info? 5 = some i0) (hz0 : i0.zero = some (.int .u8 0)) (hz1 : i0.size = 1) (hz2 : i0.bytes = 1)
    {ops : Array Oper} {rest : List Oper} {o : Oper} {a : Act} {Q : Exit → Act → World → Prop} (S X : Nat) (hgd : o.guard = none) (ho : o.op = .call { callee := .builtin .append, args := #[.tmp S, .tmp X], argTypes := #[92, 92] }) (hs : a.eval (.tmp S) = v) {c : Nat} {news : Value} (hx : a.eval (.tmp X) = .slice (some ⟨wr.heap.size, 0, none⟩) 1 c) (hn : news = .int .u8 y.toNat)
    (k : ∀ v' w' l', Hid (l' = l ++ [y]) → l'.length ≤ l.length + 1 → Hid (OutB B0 b C e w v' l' w') → wpList Tryz.prog ops Q rest (a.put o.dst v') w') : wpList Tryz.prog ops Q (o :: rest) a (wr.alloc (.cells #[news] 5)) := by
  subst hn
  exact wpList_append1_at _ [_] 5 hgd (.tmp S) (.tmp X) 92 ho B0 i0 (.int .u8 0) 1 1 Tryz.underlying92 hi hz0 hz1 hz2 rfl (by decide) _ _ _ hs H.out.own _ c hx rfl rfl (fun u hu => by simp at hu; subst hu; rfl) (by omega) (by unfold maxLen; omega) H.out.size (fun v' w' h2 h3 h4 => k v' w' _ (Lib.hid rfl) (by simp) (Lib.hid (H.out.step y (by omega) h2 h3 h4)))
theorem bytes_one (l : List UInt8) : ∀ u ∈ Lib.byteCells l, u.oneCell' = true := by
  intro u hu
  unfold Lib.byteCells at hu
  obtain ⟨x, _, rfl⟩ := List.mem_map.1 hu
  rfl
/-- Several bytes more, all of one array. -/
theorem outN {B0 b : Nat} {C : Array Value} {e : TypeId} {w : World} {v : Value} {l : List UInt8} {wr : World} (H : Hid (OutB B0 b C e w v l wr)) (ys : List UInt8) (m : Nat) (hm : ys.length = m) (hl : l.length + m ≤ 900) {i0 : TypeInfo} (hi : Tryz.prog.info? 5 = some i0) (hz0 : i0.zero = some (.int .u8 0)) (hz1 : i0.size = 1) (hz2 : i0.bytes = 1)
    {ops : Array Oper} {rest : List Oper} {o : Oper} {a : Act} {Q : Exit → Act → World → Prop} (S X : Nat) (hgd : o.guard = none) (ho : o.op = .call { callee := .builtin .append, args := #[.tmp S, .tmp X], argTypes := #[92, 92] }) (hs : a.eval (.tmp S) = v) {c : Nat} {f : Nat × Nat} {news : List Value} (hx : a.eval (.tmp X) = .slice (some ⟨wr.heap.size, 0, none⟩) m c) (hn : news = Lib.byteCells ys)
    (k : ∀ v' w', Hid (OutB B0 b C e w v' (l ++ ys) w') → wpList Tryz.prog ops Q rest (a.put o.dst v') w') : wpList Tryz.prog ops Q (o :: rest) a (wr.alloc (.cells news.toArray 5 f)) := by
  subst hn
  subst hm
  exact wpList_appendN_at _ _ 5 hgd (.tmp S) (.tmp X) 92 ho B0 i0 (.int .u8 0) 1 Tryz.underlying92 hi hz0 hz1 hz2 rfl _ _ _ hs H.out.own ys.length _ c f hx rfl (by simp [Lib.byteCells]) (bytes_one ys) (by omega) (by unfold maxLen; omega) H.out.size (fun v' w' h2 h3 h4 => k v' w' (Lib.hid (H.out.stepN ys (by omega) h2 h3 (by rcases h4 with h4 | ⟨g', h4, h5⟩; exact .inl h4; exact .inr ⟨g', h4, Nat.le_of_lt h5⟩))))
theorem xx_len1 (e : Nat) (h : e < 10) : (xx e).length = 2 := by unfold xx; rw [if_pos h]; rfl
theorem xx_len2 (e : Nat) (h : 10 ≤ e) (h2 : e < 100) : (xx e).length = 2 := by unfold xx; rw [if_neg (by omega), if_pos h2]; rfl
theorem xx_len3 (e : Nat) (h : 100 ≤ e) (h2 : e < 1000) : (xx e).length = 3 := by unfold xx; rw [if_neg (by omega), if_neg (by omega)]; rfl
theorem xx_cells1 (e : Nat) (h : e < 10) : ([.int .u8 48, .int .u8 ((e : Int) + 48)] : List Value) = Lib.byteCells (xx e) := by
  unfold xx
  rw [if_pos h]
  simp only [Lib.byteCells, List.map_cons, List.map_nil]
  repeat rw [dgt_nat _ (by omega)]
  first | rfl | (congr <;> omega)
theorem xx_cells2 (e : Nat) (h : 10 ≤ e) (h2 : e < 100) : ([.int .u8 ((e : Int) / 10 + 48), .int .u8 ((e : Int) % 10 + 48)] : List Value) = Lib.byteCells (xx e) := by
  unfold xx
  rw [if_neg (by omega), if_pos h2]
  simp only [Lib.byteCells, List.map_cons, List.map_nil]
  repeat rw [dgt_nat _ (by omega)]
  first | rfl | (congr <;> omega)
theorem xx_cells3 (e : Nat) (h : 100 ≤ e) (h2 : e < 1000) : ([.int .u8 ((e : Int) / 100 + 48), .int .u8 ((e : Int) / 10 % 10 + 48), .int .u8 ((e : Int) % 10 + 48)] : List Value) = Lib.byteCells (xx e) := by
  unfold xx
  rw [if_neg (by omega), if_neg (by omega)]
  simp only [Lib.byteCells, List.map_cons, List.map_nil]
  repeat rw [dgt_nat _ (by omega)]
  first | rfl | (congr <;> omega)
theorem wpList_sl {ops : Array Oper} {rest : List Oper} {o : Oper} {a : Act} {Q : Exit → Act → World → Prop} (w : World) (hgd : o.guard = none) (s i j : Operand) (ho : o.op = .slice 92 s (some i) (some j) none)
    (b z : Nat) (hs : a.eval s = .slice (some ⟨b, 0, none⟩) 32 32) (hi : a.eval i = .int .i64 1) (hj : a.eval j = .int .i64 z) (h1 : 1 ≤ z) (h2 : z ≤ 32)
    (h : wpList Tryz.prog ops Q rest (a.put o.dst (.slice (some ⟨b, 1, none⟩) (z - 1) 31)) w) : wpList Tryz.prog ops Q (o :: rest) a w := by
  refine wpList_plain hgd fun K hK => ?_
  have hu := Tryz.underlying92
  unfold Oper.wp execOp
  simp only [ho, hs, Option.map, hi, hj]
  simp [go_sem, hu]
  rw [if_pos (by omega), if_pos (by omega)]
  exact hK _ _ h
theorem cells_at {wr : World} {b z : Nat} {C : Array Value} {e : TypeId} {L : List UInt8} (hB : Bytes0 C L) (hd : wr.heap[b]? = some (.cells C e (0, 0))) (hz : z ≤ L.length) : ∀ j u, (Lib.byteCells ((L.take z).drop 1))[j]? = some u → wr.cell? ((⟨b, 1, none⟩ : Addr).add j) = some u := by
  intro j u hj
  unfold Lib.byteCells at hj
  rw [List.getElem?_map, List.getElem?_drop, List.getElem?_take] at hj
  split at hj
  · rename_i hlt
    rw [List.getElem?_eq_getElem (by omega)] at hj
    have hx := Option.some.inj hj
    have h1 := hB (1 + j) _ (List.getElem?_eq_getElem (show 1 + j < L.length by omega))
    have ha : (⟨b, 1, none⟩ : Addr).add j = ⟨b, 1 + j, none⟩ := by
      unfold Addr.add
      split
      · rename_i h; subst h; rfl
      · rfl
    rw [ha, ← hx]
    simp [World.cell?, hd, h1]
  · cases hj
theorem cells_one (l : List UInt8) : ∀ u ∈ Lib.byteCells l, u.oneCell' = true := by
  intro u hu
  unfold Lib.byteCells at hu
  obtain ⟨x, _, rfl⟩ := List.mem_map.1 hu
  rfl
end Go.Proofs.YtghajgdiaopioaaGreatDoor

/- What reading a number's text makes of its digits: the plain law. -/
namespace Go.Proofs.YtghajgdiaopioaaGreatDoor

theorem snoc_ind {α : Type} {P : List α → Prop} (nil : P []) (snoc : ∀ l c, P l → P (l ++ [c])) : ∀ l, P l := by
  intro l
  rw [← List.reverse_reverse l]
  induction l.reverse with
  | nil => exact nil
  | cons c l ih => rw [List.reverse_cons]; exact snoc _ _ ih
/-- What is known of the digits so far: their number, how many count, where the point stands, whether it was seen. -/
structure RfSt where
  mant : Nat
  nd : Nat
  dp : Int
  dot : Bool
def mstep (r : RfSt) (c : UInt8) : RfSt :=
  if c = 46 then ⟨r.mant, r.nd, r.nd, true⟩
  else if c = 48 ∧ r.nd = 0 then ⟨r.mant, 0, r.dp - 1, r.dot⟩
  else ⟨r.mant * 10 + (c.toNat - 48), r.nd + 1, r.dp, r.dot⟩
def mrun (l : List UInt8) : RfSt := l.foldl mstep ⟨0, 0, 0, false⟩
theorem mrun_snoc (l : List UInt8) (c : UInt8) : mrun (l ++ [c]) = mstep (mrun l) c := by unfold mrun; rw [List.foldl_append]; rfl
/-- Whether there is a digit. -/
def sawD (l : List UInt8) : Bool := l.any fun c => c != 46
theorem sawD_snoc (l : List UInt8) (c : UInt8) : sawD (l ++ [c]) = (sawD l || c != 46) := by unfold sawD; rw [List.any_append]; simp
/-- Digits, and a point at most once. -/
def NumL (l : List UInt8) : Prop := (∀ c ∈ l, isDg c ∨ c = 46) ∧ ∀ k, k < l.length → l[k]? = some 46 → (mrun (l.take k)).dot = false
theorem mrun_bounds (l : List UInt8) (hl : ∀ c ∈ l, isDg c ∨ c = 46) : (mrun l).mant < 10 ^ (mrun l).nd ∧ (mrun l).nd ≤ l.length ∧ -(l.length : Int) ≤ (mrun l).dp ∧ (mrun l).dp ≤ l.length := by
  induction l using snoc_ind with
  | nil => exact ⟨by decide, by decide, by decide, by decide⟩
  | snoc l c ih =>
    obtain ⟨h1, h2, h3, h4⟩ := ih fun c hc => hl c (by simp [hc])
    have hc := hl c (by simp)
    rw [mrun_snoc, List.length_append, List.length_singleton]
    unfold mstep
    split
    · exact ⟨h1, by simp only; omega, by simp only; omega, by simp only; omega⟩
    · rename_i hn
      split
      · rename_i h0
        refine ⟨?_, by simp only; omega, by simp only; omega, by simp only; omega⟩
        simp only
        rw [h0.2] at h1
        exact h1
      · refine ⟨?_, by simp only; omega, by simp only; omega, by simp only; omega⟩
        simp only
        rw [Nat.pow_succ]
        have : c.toNat ≤ 57 := by
          rcases hc with hc | hc
          · exact hc.2
          · exact absurd hc hn
        omega
theorem mstep_nd (r : RfSt) (c : UInt8) : r.nd ≤ (mstep r c).nd := by
  unfold mstep
  split
  · exact Nat.le_refl _
  · split
    · rename_i h; rw [h.2]; exact Nat.le_refl _
    · exact Nat.le_succ _
theorem mrun_nd_le (l m : List UInt8) : (mrun l).nd ≤ (mrun (l ++ m)).nd := by
  induction m using snoc_ind with
  | nil => simp
  | snoc m c ih => rw [← List.append_assoc, mrun_snoc]; exact Nat.le_trans ih (mstep_nd _ _)
theorem mrun_take_nd (l : List UInt8) (k : Nat) : (mrun (l.take k)).nd ≤ (mrun l).nd := by
  have := mrun_nd_le (l.take k) (l.drop k)
  rwa [List.take_append_drop] at this
end Go.Proofs.YtghajgdiaopioaaGreatDoor

/- Words for the reading of a number's text. -/
namespace Go.Proofs.YtghajgdiaopioaaGreatDoor
open Go.RowKit

theorem lower_calls (c : Int) (w : World) : Calls Tryz.prog 176 #[.int .u8 c] w fun e w' => e = .returned (.int .u8 (bits BinOp.or IntKind.u8 c 32)) ∧ w = w' := by
  go_enter Tryz.func176, Tryz.ntmps176
  go_wp2
  go_ret
  exact ⟨rfl, rfl⟩
theorem lower_small (c : UInt8) (h : c.toNat ≤ 57 ∨ c = 101) : (bits BinOp.or IntKind.u8 (c.toNat : Int) 32 == 120) = false := by
  have key : ∀ k : Fin 256, k.val ≤ 57 ∨ k.val = 101 → (bits BinOp.or IntKind.u8 (k.val : Int) 32 == 120) = false := by decide +kernel
  exact key ⟨c.toNat, c.toNat_lt⟩ (by
    rcases h with h | h
    · exact .inl h
    · exact .inr (by rw [h]; rfl))
theorem vald_lt (l : List UInt8) (h : ∀ c ∈ l, isDg c) : vald l < 10 ^ l.length := by
  induction l using snoc_ind with
  | nil => decide
  | snoc l c ih =>
    have h1 := ih fun c hc => h c (by simp [hc])
    have h2 := (h c (by simp)).2
    rw [vald_snoc, List.length_append, List.length_singleton, Nat.pow_succ]
    omega
end Go.Proofs.YtghajgdiaopioaaGreatDoor

/- Digits: their value, what reading makes of them: the plain law. -/
namespace Go.Proofs.YtghajgdiaopioaaGreatDoor

def Dgs (l : List UInt8) : Prop := ∀ c ∈ l, isDg c
theorem dg_nat (u j : Nat) : (Lib.dg u j).toNat = 48 + u / 10 ^ j % 10 := by
  unfold Lib.dg
  rw [UInt8.toNat_ofNat']
  have := Nat.mod_lt (u / 10 ^ j) (show 0 < 10 by decide)
  omega
theorem dg_isDg (u j : Nat) : isDg (Lib.dg u j) := by
  have := Nat.mod_lt (u / 10 ^ j) (show 0 < 10 by decide)
  unfold isDg
  rw [dg_nat]
  omega
theorem digs_dgs (k d : Nat) : Dgs (digs k d) := by
  intro c hc
  unfold digs at hc
  obtain ⟨t, _, rfl⟩ := List.mem_map.1 hc
  exact dg_isDg _ _
theorem digs_lenG (k d : Nat) : (digs k d).length = k := by simp [digs]
theorem digs_succ (k d : Nat) : digs (k + 1) d = digs k (d / 10) ++ [Lib.dg d 0] := by
  unfold digs
  rw [List.range_succ, List.map_append, List.map_singleton]
  congr 1
  · apply List.map_congr_left
    intro t ht
    have htk := List.mem_range.1 ht
    unfold Lib.dg
    rw [show k + 1 - 1 - t = (k - 1 - t) + 1 by omega, Nat.pow_succ, Nat.mul_comm, Nat.div_div_eq_div_mul]
  · congr 2
    omega
theorem vald_digs (k : Nat) : ∀ d, d < 10 ^ k → vald (digs k d) = d := by
  induction k with
  | zero => intro d h; have : d = 0 := by simpa using h
            subst this; rfl
  | succ k ih =>
    intro d h
    rw [digs_succ, vald_snoc, ih (d / 10) (by rw [Nat.pow_succ] at h; omega), dg_nat]
    simp
    omega
theorem digs_head (k d : Nat) (h0 : 1 ≤ k) (h1 : 10 ^ (k - 1) ≤ d) (h2 : d < 10 ^ k) : ∃ c, (digs k d)[0]? = some c ∧ isDg c ∧ c ≠ 48 := by
  refine ⟨Lib.dg d (k - 1), ?_, dg_isDg _ _, ?_⟩
  · unfold digs
    rw [List.getElem?_map, List.getElem?_range (by omega)]
    rfl
  · intro hc
    have h3 := congrArg UInt8.toNat hc
    rw [dg_nat] at h3
    have h4 : d / 10 ^ (k - 1) < 10 := by
      refine (Nat.div_lt_iff_lt_mul (Nat.pow_pos (by decide))).2 ?_
      rw [Nat.mul_comm, ← Nat.pow_succ, show (k - 1).succ = k by omega]
      exact h2
    have h5 : 1 ≤ d / 10 ^ (k - 1) := (Nat.le_div_iff_mul_le (Nat.pow_pos (by decide))).2 (by omega)
    have h6 : (48 : UInt8).toNat = 48 := rfl
    omega
theorem zs_spec (l : List UInt8) (h0 : l[0]? ≠ some 48) : ∀ n, 1 ≤ n → 1 ≤ zs l n ∧ zs l n ≤ n ∧ ∀ j, zs l n ≤ j → j < n → l[j]? = some 48 := by
  intro n
  induction n with
  | zero => intro h; omega
  | succ n ih =>
    intro _
    unfold zs
    by_cases h : l[n]? = some 48
    · rw [if_pos h]
      have hn : n ≠ 0 := by rintro rfl; exact h0 h
      obtain ⟨h1, h2, h3⟩ := ih (by omega)
      refine ⟨h1, by omega, fun j hj1 hj2 => ?_⟩
      by_cases hjn : j = n
      · subst hjn; exact h
      · exact h3 j hj1 (by omega)
    · rw [if_neg h]
      exact ⟨by omega, Nat.le_refl _, fun j hj1 hj2 => by omega⟩
theorem vald_app (a b : List UInt8) : vald (a ++ b) = vald a * 10 ^ b.length + vald b := by
  induction b using snoc_ind with
  | nil => simp [vald]
  | snoc b c ih =>
    rw [← List.append_assoc, vald_snoc, vald_snoc, ih, List.length_append, List.length_singleton, Nat.pow_succ]
    rw [Nat.add_mul, Nat.mul_assoc]
    omega
theorem vald_zeros (n : Nat) : vald (List.replicate n 48) = 0 := by
  induction n with
  | zero => rfl
  | succ n ih => rw [List.replicate_succ', vald_snoc, ih]; rfl
theorem take_zs (l : List UInt8) (h0 : l[0]? ≠ some 48) (hl : 1 ≤ l.length) : l = l.take (zs l l.length) ++ List.replicate (l.length - zs l l.length) 48 := by
  obtain ⟨h1, h2, h3⟩ := zs_spec l h0 l.length hl
  apply List.ext_getElem?
  intro i
  by_cases hi : i < zs l l.length
  · rw [List.getElem?_append_left (by rw [List.length_take]; omega), List.getElem?_take, if_pos hi]
  · rw [List.getElem?_append_right (by rw [List.length_take]; omega), List.length_take, Nat.min_eq_left h2]
    by_cases hi2 : i < l.length
    · rw [h3 i (by omega) hi2, List.getElem?_replicate, if_pos (by omega)]
    · rw [List.getElem?_eq_none (by omega), List.getElem?_eq_none (by rw [List.length_replicate]; omega)]

/-! What reading makes of digits. -/
theorem isDg_ne46 {c : UInt8} (h : isDg c) : c ≠ 46 := by rintro rfl; exact absurd h.1 (by decide)
theorem fold_more (r : List UInt8) (hr : Dgs r) : ∀ (a : List UInt8) (n : Nat) (dp : Int) (dot : Bool), n ≠ 0 → r.foldl mstep ⟨vald a, n, dp, dot⟩ = ⟨vald (a ++ r), n + r.length, dp, dot⟩ := by
  induction r with
  | nil => intro a n dp dot _; simp
  | cons c r ih =>
    intro a n dp dot hn
    have hc := isDg_ne46 (hr c (by simp))
    rw [List.foldl_cons]
    have hs : mstep ⟨vald a, n, dp, dot⟩ c = ⟨vald (a ++ [c]), n + 1, dp, dot⟩ := by
      unfold mstep
      rw [if_neg hc, if_neg (by simp [hn]), vald_snoc]
    rw [hs, ih (fun x hx => hr x (by simp [hx])) (a ++ [c]) (n + 1) dp dot (by omega)]
    simp only [List.append_assoc, List.singleton_append, List.length_cons]
    congr 1
    omega
theorem fold_first (c : UInt8) (r : List UInt8) (hc : isDg c) (h48 : c ≠ 48) (hr : Dgs r) (dp : Int) (dot : Bool) : (c :: r).foldl mstep ⟨0, 0, dp, dot⟩ = ⟨vald (c :: r), (c :: r).length, dp, dot⟩ := by
  rw [List.foldl_cons]
  have hs : mstep ⟨0, 0, dp, dot⟩ c = ⟨vald [c], 1, dp, dot⟩ := by
    unfold mstep
    rw [if_neg (isDg_ne46 hc), if_neg (by simp [h48])]
    simp [vald]
  rw [hs, fold_more r hr [c] 1 dp dot (by decide)]
  simp only [List.singleton_append, List.length_cons]
  congr 1
  omega
theorem fold_zeros (q : Nat) : ∀ (dp : Int) (dot : Bool), (List.replicate q 48).foldl mstep ⟨0, 0, dp, dot⟩ = ⟨0, 0, dp - q, dot⟩ := by
  induction q with
  | zero => intro dp dot; simp
  | succ q ih =>
    intro dp dot
    rw [List.replicate_succ, List.foldl_cons]
    have hs : mstep ⟨0, 0, dp, dot⟩ 48 = ⟨0, 0, dp - 1, dot⟩ := by unfold mstep; rw [if_neg (by decide), if_pos ⟨rfl, rfl⟩]
    rw [hs, ih]
    congr 1
    omega
theorem mrun_dig (c : UInt8) (r : List UInt8) (hc : isDg c) (h48 : c ≠ 48) (hr : Dgs r) : mrun (c :: r) = ⟨vald (c :: r), (c :: r).length, 0, false⟩ := fold_first c r hc h48 hr 0 false
theorem mrun_dot (c : UInt8) (a r : List UInt8) (hc : isDg c) (h48 : c ≠ 48) (ha : Dgs a) (hr : Dgs r) : mrun (c :: a ++ 46 :: r) = ⟨vald (c :: a ++ r), (c :: a).length + r.length, (c :: a).length, true⟩ := by
  have h1 := mrun_dig c a hc h48 ha
  unfold mrun at h1 ⊢
  rw [List.foldl_append, h1, List.foldl_cons]
  have hs : mstep ⟨vald (c :: a), (c :: a).length, 0, false⟩ 46 = ⟨vald (c :: a), (c :: a).length, (c :: a).length, true⟩ := by unfold mstep; rw [if_pos rfl]
  rw [hs, fold_more r hr (c :: a) _ _ _ (by simp)]
theorem mrun_zero (q : Nat) (c : UInt8) (r : List UInt8) (hc : isDg c) (h48 : c ≠ 48) (hr : Dgs r) : mrun ([48] ++ 46 :: (List.replicate q 48 ++ (c :: r))) = ⟨vald (c :: r), (c :: r).length, -(q : Int), true⟩ := by
  unfold mrun
  rw [List.foldl_append, List.foldl_cons, List.foldl_append]
  have h1 : mstep (List.foldl mstep ⟨0, 0, 0, false⟩ [48]) 46 = ⟨0, 0, 0, true⟩ := rfl
  rw [h1, fold_zeros, fold_first c r hc h48 hr]
  congr 1
  omega
theorem dot_false (l : List UInt8) (h : Dgs l) : (mrun l).dot = false := by
  induction l using snoc_ind with
  | nil => rfl
  | snoc l c ih =>
    have h1 := ih fun x hx => h x (by simp [hx])
    have h2 := isDg_ne46 (h c (by simp))
    rw [mrun_snoc]
    unfold mstep
    rw [if_neg h2]
    split <;> exact h1
theorem numL_dig (l : List UInt8) (h : Dgs l) : NumL l := by
  refine ⟨fun c hc => .inl (h c hc), fun k hk h46 => ?_⟩
  exact absurd rfl (isDg_ne46 (h 46 (List.mem_of_getElem? h46)))
theorem numL_dot (a r : List UInt8) (ha : Dgs a) (hr : Dgs r) : NumL (a ++ 46 :: r) := by
  refine ⟨fun c hc => ?_, fun k hk h46 => ?_⟩
  · rcases List.mem_append.1 hc with h | h
    · exact .inl (ha c h)
    · rcases List.mem_cons.1 h with rfl | h
      · exact .inr rfl
      · exact .inl (hr c h)
  · have hka : k = a.length := by
      rcases Nat.lt_trichotomy k a.length with h | h | h
      · rw [List.getElem?_append_left h] at h46
        exact absurd rfl (isDg_ne46 (ha 46 (List.mem_of_getElem? h46)))
      · exact h
      · rw [List.getElem?_append_right (by omega), show k - a.length = (k - a.length - 1) + 1 by omega, List.getElem?_cons_succ] at h46
        exact absurd rfl (isDg_ne46 (hr 46 (List.mem_of_getElem? h46)))
    rw [hka, List.take_left]
    exact dot_false a ha
theorem sawD_of (l : List UInt8) {c : UInt8} (hm : c ∈ l) (hc : isDg c) : sawD l = true := by
  unfold sawD
  rw [List.any_eq_true]
  exact ⟨c, hm, by simpa using isDg_ne46 hc⟩
end Go.Proofs.YtghajgdiaopioaaGreatDoor
