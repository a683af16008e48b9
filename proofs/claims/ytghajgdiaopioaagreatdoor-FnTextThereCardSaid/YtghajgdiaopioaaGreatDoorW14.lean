/- Walks: collections (59), and Unmarshal by depth (32). -/
import Derived.Maps.AppendAt
import Derived.Test.YtghajgdiaopioaaGreatDoorW13
set_option linter.unusedVariables false
set_option linter.unusedSimpArgs false

namespace Go.Proofs.YtghajgdiaopioaaGreatDoor
open Go.RowKit
attribute [local go_sem] run_store_float run_store_iface run_store_nilIface

inductive Geo
  | pt (p : Pt)
  | line (l : List Pt)
  | poly (l : List (List Pt))
  | mpt (l : List Pt)
  | mline (l : List (List Pt))
  | mpoly (l : List (List (List Pt)))
  | coll (l : List Geo)

/-- A collection's row lies in a block of A. -/
def RdGeo (A : Nat → Prop) : Nat → World → Value → Geo → Prop
  | _, _, v, .pt p => v = .iface 61 (.agg #[.float .f64 p.1, .float .f64 p.2])
  | _, w, v, .line l => ∃ x, v = .iface 65 x ∧ RdPts w x l
  | _, w, v, .poly l => ∃ x, v = .iface 69 x ∧ RdRow 117 RdPts w x l
  | _, w, v, .mpt l => ∃ x, v = .iface 72 x ∧ RdPts w x l
  | _, w, v, .mline l => ∃ x, v = .iface 76 x ∧ RdRow 65 RdPts w x l
  | _, w, v, .mpoly l => ∃ x, v = .iface 80 x ∧ RdRow 69 RdRings w x l
  | 0, _, _, .coll _ => False
  | d + 1, w, v, .coll l => ∃ x, v = .iface 84 x ∧ (∀ g, x.ownBlock = some g → A g) ∧ RdRow 52 (RdGeo A d) w x l

/-- What may not turn, that a geometry be read as it was. -/
def GKept (A : Nat → Prop) (w w' : World) : Prop := ∀ (g : Nat) (cur : Array Value) (e : TypeId), (e ≠ 52 ∨ A g) → w.heap[g]? = some (Obj.cells cur e (0, 0)) → w'.heap[g]? = some (Obj.cells cur e (0, 0))
theorem GKept.of_bel {A : Nat → Prop} {w w' : World} (h : Bel w w') : GKept A w w' := fun _ _ _ _ hg => h.heap hg
theorem GKept.t {A : Nat → Prop} {w w' : World} (h : GKept A w w') (K : TypeId → Prop) (hK : ¬ K 52) : TKept K w w' := fun g cur e he hg => h g cur e (.inl fun hc => hK (hc ▸ he)) hg
theorem rdRow_keep {δ : Type} {Te : TypeId} {R : World → Value → δ → Prop} {w w' : World} (hR : ∀ x d, R w x d → R w' x d) (hT : TKept (fun e => e = Te) w w') {x : Value} {ds : List δ} (h : RdRow Te R w x ds) : RdRow Te R w' x ds := by
  obtain ⟨xs, h1, h2⟩ := h
  exact ⟨xs, ownsRow_tkept h1 hT rfl, h2.keep hR⟩
theorem Each.mono {δ : Type} {R R' : World → Value → δ → Prop} {w w' : World} {xs : List Value} {ds : List δ} (h : Each R w xs ds) (hR : ∀ x d, R w x d → R' w' x d) : Each R' w' xs ds := by
  induction h with
  | nil => exact .nil
  | snoc _ h2 ih => exact .snoc ih (hR _ _ h2)
theorem RdGeo.keep {A : Nat → Prop} {w w' : World} (k : GKept A w w') : ∀ (d : Nat) (v : Value) (g : Geo), RdGeo A d w v g → RdGeo A d w' v g := by
  have k1 : TKept K61 w w' := k.t _ (by unfold K61; decide)
  have k2 : TKept K117 w w' := k.t _ (by unfold K117; decide)
  intro d
  induction d with
  | zero =>
    intro v g h
    cases g with
    | pt p => exact h
    | line l => obtain ⟨x, h1, h2⟩ := h; exact ⟨x, h1, h2.keep k1⟩
    | poly l => obtain ⟨x, h1, h2⟩ := h; exact ⟨x, h1, rdRow_keep (fun x d h => RdPts.keep h k1) (k.t _ (by decide)) h2⟩
    | mpt l => obtain ⟨x, h1, h2⟩ := h; exact ⟨x, h1, h2.keep k1⟩
    | mline l => obtain ⟨x, h1, h2⟩ := h; exact ⟨x, h1, rdRow_keep (fun x d h => RdPts.keep h k1) (k.t _ (by decide)) h2⟩
    | mpoly l => obtain ⟨x, h1, h2⟩ := h; exact ⟨x, h1, rdRow_keep (fun x d h => RdRings.keep h k2) (k.t _ (by decide)) h2⟩
    | coll l => exact h.elim
  | succ d ih =>
    intro v g h
    cases g with
    | pt p => exact h
    | line l => obtain ⟨x, h1, h2⟩ := h; exact ⟨x, h1, h2.keep k1⟩
    | poly l => obtain ⟨x, h1, h2⟩ := h; exact ⟨x, h1, rdRow_keep (fun x d h => RdPts.keep h k1) (k.t _ (by decide)) h2⟩
    | mpt l => obtain ⟨x, h1, h2⟩ := h; exact ⟨x, h1, h2.keep k1⟩
    | mline l => obtain ⟨x, h1, h2⟩ := h; exact ⟨x, h1, rdRow_keep (fun x d h => RdPts.keep h k1) (k.t _ (by decide)) h2⟩
    | mpoly l => obtain ⟨x, h1, h2⟩ := h; exact ⟨x, h1, rdRow_keep (fun x d h => RdRings.keep h k2) (k.t _ (by decide)) h2⟩
    | coll l =>
      obtain ⟨x, h1, hA, xs, h2, h3⟩ := h
      refine ⟨x, h1, hA, xs, ?_, h3.mono fun x d h => ih x d h⟩
      obtain ⟨h4, h5⟩ := h2
      refine ⟨h4, ?_⟩
      rcases h5 with h5 | ⟨g, cap, cur, hv, hg, hh, r⟩
      · exact Or.inl h5
      · exact Or.inr ⟨g, cap, cur, hv, hg, k _ _ _ (.inr (hA g (by rw [hv]; rfl))) hh, r⟩
theorem RdGeo.mono {A A' : Nat → Prop} {w : World} (hA : ∀ g, g < w.heap.size → A g → A' g) : ∀ (d : Nat) (v : Value) (g : Geo), RdGeo A d w v g → RdGeo A' d w v g := by
  intro d
  induction d with
  | zero => intro v g h; cases g <;> exact h
  | succ d ih =>
    intro v g h
    cases g with
    | coll l =>
      obtain ⟨x, h1, hB, xs, h2, h3⟩ := h
      exact ⟨x, h1, fun g hg => hA g (h2.lt g hg).2 (hB g hg), xs, h2, h3.mono fun x d h => ih x d h⟩
    | _ => exact h

theorem wpList_append1_at {P : Program} {ops : Array Oper} {rest : List Oper} {o : Oper} {a : Act} {Q : Exit → Act → World → Prop} (w0 : World) (news : List Value) (e : TypeId) (hgd : o.guard = none) (s x : Operand) (t : TypeId)
    (ho : o.op = .call { callee := .builtin .append, args := #[s, x], argTypes := #[t, t] })
    (base : Nat) (i : TypeInfo) (z : Value) (size bytes : Nat) (ht : P.underlying t = some (.slice e)) (hi : P.info? e = some i) (hz : i.zero = some z)
    (hsize : i.size = size) (hby : i.bytes = bytes) (hzs : z.cells.size = size) (hsz : 0 < size)
    (v : Value) (n : Nat) (xs : List Value) (hs : a.eval s = v) (hown : w0.ownsRow base e size v n xs)
    (g c : Nat) (hx : a.eval x = .slice (some ⟨g, 0, none⟩) 1 c) (hg : w0.heap.size = g) (hl : news.length = size) (h1 : ∀ u ∈ news, u.oneCell' = true)
    (hb : (n + 1) * bytes ≤ 140737488355328) (h63 : n + 1 ≤ maxLen) (hbase : base ≤ w0.heap.size)
    (h : ∀ v' w', w'.ownsRow base e size v' (n + 1) (xs ++ news) → w0.grownBy w' v.ownBlock → (v'.ownBlock = v.ownBlock ∨ ∃ g', v'.ownBlock = some g' ∧ w0.heap.size < g') → wpList P ops Q rest (a.put o.dst v') w') :
    wpList P ops Q (o :: rest) a (w0.alloc (.cells news.toArray e)) := by
  subst hg
  refine wpList_append_own_at _ hgd s x t ho base e i z size bytes ht hi hz hsize hby hzs hsz v n xs hs (hown.alloc _) ⟨w0.heap.size, 0, none⟩ 1 c news hx (by rw [hl, Nat.one_mul]) ?_ h1 h63 hb (by simp; omega) ?_
  · intro j u hj
    have : (w0.alloc (.cells news.toArray e)).heap[w0.heap.size]? = some (.cells news.toArray e (0, 0)) := heap_alloc_new w0 _
    unfold World.cell?
    have hb : ((⟨w0.heap.size, 0, none⟩ : Addr).add j).block = w0.heap.size := by unfold Addr.add; split <;> rfl
    have ho : ((⟨w0.heap.size, 0, none⟩ : Addr).add j).off = j := by unfold Addr.add; split <;> simp_all
    have hsp : ((⟨w0.heap.size, 0, none⟩ : Addr).add j).spot = none := by unfold Addr.add; split <;> rfl
    rw [hb, this]
    simp [ho, hsp, hj]
  · intro v' w' h2 h3 _ h5
    refine h v' w' h2 ?_ ?_
    · exact ⟨h3.os, h3.tape, h3.output, Nat.le_trans (by simp) h3.size, fun k hk hr => by rw [h3.block k (by simp; omega) hr]; exact Below.heap_alloc _ _ _ hk⟩
    · rcases h5 with h5 | h5
      · exact .inl h5
      · exact .inr ⟨_, h5, by simp⟩

/-- A list of texts, as it lies in memory. -/
def RdS (w : World) (ao : Option Addr) (ls : List (List UInt8)) : Prop := ∀ (i : Nat) (l : List UInt8), ls[i]? = some l → ∃ (g : Nat) (cur : Array Value), ao = some ⟨g, 0, none⟩ ∧ w.heap[g]? = some (Obj.cells cur 9 (0, 0)) ∧ cur[i]? = some (.string (ofL l))
theorem RdS.keep {w w' : World} {ao : Option Addr} {ls : List (List UInt8)} (h : RdS w ao ls) (k : ∀ (g : Nat) (cur : Array Value), w.heap[g]? = some (Obj.cells cur 9 (0, 0)) → w'.heap[g]? = some (Obj.cells cur 9 (0, 0))) : RdS w' ao ls := fun i l hl => by
  obtain ⟨g, cur, h1, h2, h3⟩ := h i l hl
  exact ⟨g, cur, h1, k _ _ h2, h3⟩
theorem own_rdS {w : World} {B : Nat} {v : Value} {ls : List (List UInt8)} (h : w.ownsRow B 9 1 v ls.length (strs ls)) : ∃ ao cap, v = .slice ao ls.length cap ∧ RdS w ao ls := by
  rcases h.2 with ⟨rfl, hn⟩ | ⟨g, cap, cur, rfl, _, hg, _, _, _, htake⟩
  · refine ⟨none, 0, by rw [hn], ?_⟩
    intro i q hq
    rw [List.getElem?_eq_none (by omega)] at hq; cases hq
  · refine ⟨some ⟨g, 0, none⟩, cap, rfl, ?_⟩
    intro i l hl
    have hlt : i < ls.length := by
      rcases Nat.lt_or_ge i ls.length with h | h
      · exact h
      · rw [List.getElem?_eq_none h] at hl; cases hl
    refine ⟨g, cur, rfl, hg, ?_⟩
    have hx : (strs ls)[i]? = some (.string (ofL l)) := by rw [strs, List.getElem?_map, hl]; rfl
    rw [← htake, List.getElem?_take, if_pos (by omega)] at hx
    simpa using hx

theorem info52 : (Tryz.prog.info? 52).map (fun i => (i.zero, i.size, i.bytes)) = some (some .nilIface, 1, 16) := by kernel_rfl

/-- How Unmarshal ends. -/
def GivesG (RV : World → Value → Geo → Prop) (o : Option Geo) (e : Ending) (w : World) : Prop :=
  match o with
  | some g => ∃ v, e = .returned (.tuple #[v, .nilIface]) ∧ RV w v g
  | none => ∃ a, e = .returned (.tuple #[.nilIface, errV a])
end Go.Proofs.YtghajgdiaopioaaGreatDoor

/- Walks: a collection's text is read (fn 59). -/
namespace Go.Proofs.YtghajgdiaopioaaGreatDoor
open Go.RowKit
attribute [local go_sem] run_store_float run_store_iface run_store_nilIface

theorem RdGeo.iface {A : Nat → Prop} {w : World} : ∀ {d : Nat} {v : Value} {g : Geo}, RdGeo A d w v g → ∃ T x, v = .iface T x := by
  intro d v g h
  cases d <;> cases g <;> first | exact ⟨_, _, h⟩ | (obtain ⟨x, h1, _⟩ := h; exact ⟨_, x, h1⟩) | exact h.elim

theorem geoRow_snoc {base d : Nat} {wr w3 w4 : World} {s6 v' v : Value} {acc : List Geo} {g : Geo} {xs : List Value} (hown : wr.ownsRow base 52 1 s6 acc.length xs) (heach : Each (RdGeo (fun g => base ≤ g ∧ some g ≠ s6.ownBlock) d) wr xs acc) (hb : Bel wr w3)
    (hv : RdGeo (fun g => wr.heap.size ≤ g) d w3 v g) (hbase : base ≤ wr.heap.size) (hg : w3.grownBy w4 s6.ownBlock) (h5 : v'.ownBlock = s6.ownBlock ∨ ∃ g', v'.ownBlock = some g' ∧ w3.heap.size < g') :
    Each (RdGeo (fun g => base ≤ g ∧ some g ≠ v'.ownBlock) d) w4 (xs ++ [v]) (acc ++ [g]) := by
  have hk : GKept (fun g => base ≤ g ∧ some g ≠ s6.ownBlock ∧ g < w3.heap.size) w3 w4 := by
    intro k cur e he hh
    refine grown_heap hg hh ?_
    by_cases h52 : e = 52
    · rcases he with he | he
      · exact absurd h52 he
      · exact he.2.1
    · exact own_ne (ownsRow_bel hown hb) hh h52
  have hm : ∀ k, k < w4.heap.size → (base ≤ k ∧ some k ≠ s6.ownBlock ∧ k < w3.heap.size) → base ≤ k ∧ some k ≠ v'.ownBlock := by
    intro k _ h
    refine ⟨h.1, ?_⟩
    rcases h5 with h5 | ⟨g', h5, h6⟩
    · rw [h5]; exact h.2.1
    · rw [h5]; intro hc; cases hc; omega
  refine .snoc (heach.mono fun x dd h => ?_) ?_
  · have h1 := RdGeo.keep (GKept.of_bel hb) d x dd h
    have h2 := RdGeo.mono (A' := fun g => base ≤ g ∧ some g ≠ s6.ownBlock ∧ g < w3.heap.size) (fun k hk h => ⟨h.1, h.2, hk⟩) d x dd h1
    exact RdGeo.mono hm d x dd (RdGeo.keep hk d x dd h2)
  · have h2 := RdGeo.mono (A' := fun g => base ≤ g ∧ some g ≠ s6.ownBlock ∧ g < w3.heap.size) (fun k hk h => ⟨by omega, fun hc => ?_, hk⟩) d v g hv
    · exact RdGeo.mono hm d v g (RdGeo.keep hk d v g h2)
    · have := (hown.lt k hc.symm).2
      omega

def wColl : List UInt8 := [71, 69, 79, 77, 69, 84, 82, 89, 67, 79, 76, 76, 69, 67, 84, 73, 79, 78, 32, 69, 77, 80, 84, 89]
theorem asc_wColl : Asc wColl := by unfold Asc; decide
def GStep (R : List UInt8 → Option Geo → Prop) (acc : List Geo) (p : List UInt8) (r : Option (List Geo)) : Prop := acc.length < 1000000 ∧ ∃ o, R p o ∧ r = o.map fun g => acc ++ [g]
def CollReads (R : List UInt8 → Option Geo → Prop) (l : List UInt8) (o : Option (List Geo)) : Prop :=
  (Lib.equalFold l wColl = true ∧ o = some []) ∨ (Lib.equalFold l wColl = false ∧ l.length ≠ 18 ∧ ((brkL (l.drop 18) = none ∧ o = none) ∨ ∃ q, brkL (l.drop 18) = some q ∧ Run (GStep R) [] (gcGo [] 0 q) o))
def GivesC (b d : Nat) (o : Option (List Geo)) (e : Ending) (w : World) : Prop :=
  match o with
  | some gs => ∃ v, e = .returned (.tuple #[v, .nilIface]) ∧ (∀ g, v.ownBlock = some g → b ≤ g) ∧ RdRow 52 (RdGeo (fun g => b ≤ g) d) w v gs
  | none => ∃ v a, e = .returned (.tuple #[v, errV a])

theorem gcGo_len : ∀ (l cur : List UInt8) (n : Int), (gcGo cur n l).length ≤ l.length + 1 := by
  intro l
  induction l with
  | nil => intro cur n; simp [gcGo]
  | cons c r ih =>
    intro cur n
    rw [gcGo]
    split
    · have := ih (cur ++ [c]) (n + 1); simp; omega
    · split
      · have := ih (cur ++ [c]) (n - 1); simp; omega
      · split
        · split
          · have := ih [] n; simp; omega
          · have := ih (cur ++ [c]) n; simp; omega
        · have := ih (cur ++ [c]) n; simp; omega

set_option maxRecDepth 4096 in
set_option maxHeartbeats 8000000 in
theorem coll59_calls (G : Errs) (d : Nat) (R : List UInt8 → Option Geo → Prop)
    (hR : ∀ (p : List UInt8) (o : Option Geo) (wx : World), Env G wx → R p o → Calls Tryz.prog 32 #[.string (ofL p)] wx fun e w' => GivesG (RdGeo (fun g => wx.heap.size ≤ g) d) o e w' ∧ Bel wx w')
    (l : List UInt8) (o : Option (List Geo)) (w : World) (hE : Env G w) (hs : l.length ≤ 1000000000) (hn : 18 ≤ l.length) (hA : Asc l) (h : CollReads R l o) :
    Calls Tryz.prog 59 #[.string (ofL l)] w fun e w' => GivesC w.heap.size d o e w' ∧ Bel w w' := by
  obtain ⟨i0, hi, hz0, hz1, hz2⟩ := info_parts info52
  have HF := Lib.hid (fold_calls l wColl w hs (asc_at hA) (asc_at asc_wColl))
  rcases h with ⟨hw, rfl⟩ | ⟨hw, h18, hr⟩
  · have hf := HF.out
    rw [hw] at hf
    clear hw
    go_enter Tryz.func59, Tryz.ntmps59
    go_wp2_with (go_at_call 77; refine hf.mono ?_; rintro e w1 ⟨rfl, rfl⟩)
    go_ret2
    refine ⟨⟨_, rfl, ?_, [], own_empty w 52 1, .nil⟩, Bel.al _ _⟩
    intro g hg; simp [Value.ownBlock] at hg; omega
  · have hf := HF.out
    rw [hw] at hf
    clear hw
    have hsz := ofL_size l
    have hex := ofL_from l 18
    have hd : (l.drop 18).length ≤ l.length := by rw [List.length_drop]; omega
    have h18' : (((ofL l).size : Int) == 18) = false := by rw [ofL_size]; simp; omega
    rcases hr with ⟨hbk, rfl⟩ | ⟨q, hbk, hrun⟩
    · have HB := Lib.hid (splitGC_err (ofL (l.drop 18)) w (by rw [ofL_size]; omega) (errV G.n) G.n rfl hE.eN (by rw [toL_ofL]; exact hbk))
      clear hbk
      have hle : (18 : Int) ≤ ((ofL l).size : Int) := by omega
      rw [← hsz] at hex
      generalize ofL (l.drop 18) = y at *
      generalize ofL l = s at *
      clear hsz
      go_enter Tryz.func59, Tryz.ntmps59
      go_wp2_with (first | (go_at_call 77; refine hf.mono ?_; rintro e w1 ⟨rfl, rfl⟩) | (go_at_call 94; refine HB.out.mono ?_; rintro e w1 ⟨rfl, n, rfl⟩))
      go_ret2
      exact ⟨⟨_, _, rfl⟩, Bel.dr _ _⟩
    · have hql := brkL_le hbk
      have HB := Lib.hid (splitGC_calls (ofL (l.drop 18)) w (by rw [ofL_size]; omega) q (by rw [toL_ofL]; exact hbk) (by omega))
      have hgl := gcGo_len q [] 0
      have HRUN := Lib.hid hrun
      have HE := Lib.hid hE
      have HHR := Lib.hid hR
      have hle : (18 : Int) ≤ ((ofL l).size : Int) := by omega
      rw [← hsz] at hex
      generalize ofL (l.drop 18) = y at *
      generalize ofL l = s at *
      generalize gcGo [] 0 q = ls at *
      clear hsz hE hbk hrun hR
      go_enter Tryz.func59, Tryz.ntmps59
      go_wp2_with (first | (go_at_call 77; refine hf.mono ?_; rintro e w1 ⟨rfl, rfl⟩) | fail)
      refine HB.out.mono ?_
      rintro e w1 ⟨v, rfl, hown, hbel⟩
      obtain ⟨ao, cap, rfl, hrd⟩ := own_rdS hown
      have HRD := Lib.hid hrd
      have HBEL := Lib.hid hbel
      clear hrd hown hbel
      go_wp2_with (at_make; refine wpList_make_own _ rfl _ _ 84 rfl w1.heap.size 52 i0 .nilIface 1 Tryz.underlying84 hi hz0 hz1 .i64 .i64 _ ls.length rfl rfl (by omega) (by rw [hz2]; omega) (by unfold maxLen; omega) (Nat.le_refl _) ?_)
      intro w2 how hgw
      have hb2 : Bel w1 w2 := ⟨hgw.os, hgw.tape, hgw.output, hgw.size, fun k hk => hgw.block k hk (by simp)⟩
      have HOW := Lib.hid how
      have HB2 := Lib.hid hb2
      clear how hgw hb2
      go_wp2_with fail
      go_loopg [6, 32] ls.length (fun g s6 s32 wr => ∃ (i : Nat) (acc : List Geo) (xs : List Value), i ≤ ls.length ∧ g = ls.length - i ∧ s32 = .int .i64 i ∧ Hid (acc.length = i ∧ wr.ownsRow w.heap.size 52 1 s6 acc.length xs ∧ Each (RdGeo (fun g => w.heap.size ≤ g ∧ some g ≠ s6.ownBlock) d) wr xs acc ∧ RdS wr ao ls ∧ Bel w wr ∧ Run (GStep R) acc (ls.drop i) o))
      case atStart => exact ⟨0, [], [], by omega, rfl, rfl, rfl, ownsRow_base HOW.out HBEL.out.size, .nil, HRD.out.keep (fun g cur hg => HB2.out.heap hg), HBEL.out.tr HB2.out, HRUN.out⟩
      case round =>
        obtain ⟨i, acc, xs, hil, rfl, rfl, HI⟩ := hrel
        by_cases hlt : i < ls.length
        · obtain ⟨p, hp⟩ : ∃ p, ls[i]? = some p := ⟨_, List.getElem?_eq_getElem hlt⟩
          obtain ⟨hacc, hown, heach, hrd, hbel, hrun⟩ := HI.out
          obtain ⟨g, cur, rfl, hg, hcur⟩ := hrd i p hp
          have c0 : wr.cell? ⟨g, i, none⟩ = some (.string (ofL p)) := by simp [World.cell?, hg, hcur]
          have hdr : ls.drop i = p :: ls.drop (i + 1) := by
            rw [List.drop_eq_getElem_cons hlt]; congr 1
            rw [List.getElem?_eq_getElem hlt] at hp; exact Option.some.inj hp
          rw [hdr] at hrun
          have HOWN := Lib.hid hown
          have HEACH := Lib.hid heach
          have HRDI := Lib.hid hrd
          have HBI := Lib.hid hbel
          have HRI := Lib.hid hrun
          clear hown heach hrd hbel hrun hg hcur hp hdr HI
          have hexx := HE.out.bel HBI.out
          have HEX := Lib.hid hexx
          clear hexx
          go_wp2_with fail
          have hr3 := HRI.out
          cases hr3 with
          | ok hs1 hs2 =>
            obtain ⟨hl6, oo, ho, heq⟩ := hs1
            cases oo with
            | none => cases heq
            | some gg =>
              cases heq
              refine (HHR.out p _ wr HEX.out ho).mono ?_
              rintro e w3 ⟨⟨v, rfl, hv⟩, hb3⟩
              obtain ⟨T, x, rfl⟩ := hv.iface
              have HV := Lib.hid hv
              have HB3 := Lib.hid hb3
              have HS2 := Lib.hid hs2
              clear hv hb3 hs2 ho
              go_wp2_with (at_builtin; refine wpList_append1_at _ [_] 52 rfl (.tmp 44) (.tmp 46) 84 rfl w.heap.size i0 .nilIface 1 16 Tryz.underlying84 hi hz0 hz1 hz2 rfl (by decide) _ acc.length xs rfl (ownsRow_bel HOWN.out HB3.out) _ _ rfl rfl rfl ?_ ?_ ?_ ?_ ?_)
              · exact fun u hu => by simp at hu; subst hu; rfl
              · omega
              · unfold maxLen; omega
              · exact Nat.le_trans HBI.out.size HB3.out.size
              · intro v' w4 h2 h3 h5
                have H2 := Lib.hid h2
                have H3 := Lib.hid h3
                have H5 := Lib.hid h5
                clear h2 h3 h5
                go_wp2
                go_roundg (ls.length - (i + 1))
                case measure => omega
                case rel =>
                  refine ⟨i + 1, acc ++ [gg], xs ++ [_], by omega, rfl, by go_num, ?_, ?_, geoRow_snoc HOWN.out HEACH.out HB3.out HV.out HBI.out.size H3.out H5.out, ?_, ?_, HS2.out⟩
                  · rw [List.length_append]; simp; exact hacc
                  · rw [List.length_append, hacc]; exact H2.out
                  · exact (HRDI.out.keep (fun g cur hg => HB3.out.heap hg)).keep fun g cur hg => grown_heap H3.out hg (own_ne (ownsRow_bel HOWN.out HB3.out) hg (by decide))
                  · refine (HBI.out.tr HB3.out).trans (Below.grown (Below.refl _ _) H3.out (Nat.le_trans HBI.out.size HB3.out.size) ?_)
                    intro k hk
                    exact (HOWN.out.lt k hk).1
          | err hs1 =>
            obtain ⟨hl6, oo, ho, heq⟩ := hs1
            cases oo with
            | some gg => cases heq
            | none =>
              refine (HHR.out p _ wr HEX.out ho).mono ?_
              rintro e w3 ⟨⟨a, rfl⟩, hb3⟩
              have HB3 := Lib.hid hb3
              clear hb3 ho heq
              go_wp2
              go_ret2
              exact ⟨⟨_, a, rfl⟩, HBI.out.tr HB3.out⟩
        · obtain rfl : i = ls.length := by omega
          have hkz : ¬ ((ls.length : Int) < (ls.length : Int)) := by omega
          go_wp2
          go_ret2
          obtain ⟨hacc, hown, heach, hrd, hbel, hrun⟩ := HI.out
          rw [List.drop_length] at hrun
          cases hrun
          exact ⟨⟨_, rfl, fun g hg => (hown.lt g hg).1, xs, ownsRow_base hown (Nat.zero_le _), heach.mono fun x dd h => RdGeo.mono (fun k hk h => h.1) d x dd h⟩, hbel⟩
end Go.Proofs.YtghajgdiaopioaaGreatDoor
