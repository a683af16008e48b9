/- Walks: a text cut at its brackets, each piece handed to a function value. -/
import Derived.Test.YtghajgdiaopioaaGreatDoorW03
import Derived.Test.YtghajgdiaopioaaGreatDoorW08
import Derived.Test.YtghajgdiaopioaaGreatDoorW09
set_option linter.unusedVariables false
set_option linter.unusedSimpArgs false

namespace Go.Proofs.YtghajgdiaopioaaGreatDoor
open Go.RowKit

def rx (l : List UInt8) : Nat → List Q4 → List (List UInt8)
  | st, [] => [l.drop st]
  | st, q :: qs => (l.take q.2.1).drop st :: rx l q.2.2.1 qs
def rxPieces (l : List UInt8) (d : Bool) : List (List UInt8) := rx l 0 (findP l d)

/-- The matches stand one behind the other. -/
def Chain (n : Nat) : Nat → List Q4 → Prop
  | st, [] => st ≤ n
  | st, q :: qs => st ≤ q.2.1 ∧ q.2.1 ≤ n ∧ Chain n q.2.2.1 qs
theorem chain_go (l : List UInt8) (d : Bool) : ∀ (n st i : Nat), st ≤ i → i ≤ l.length → Chain l.length st (findGo l d n i) := by
  intro n
  induction n with
  | zero => intro st i h1 h2; exact Nat.le_trans h1 h2
  | succ n ih =>
    intro st i h1 h2
    rw [findGo]
    split
    · cases hm : matchP l i d with
      | none => exact ih st (i + 1) (by omega) (by omega)
      | some q =>
        have h := match_le hm
        exact ⟨by omega, by omega, ih q.2.2.1 q.2.2.2 (by omega) (by omega)⟩
    · exact Nat.le_trans h1 h2

theorem findP_len (l : List UInt8) (d : Bool) : (findP l d).length ≤ l.length := by
  have : ∀ (n i : Nat), i ≤ l.length → (findGo l d n i).length ≤ l.length - i := by
    intro n
    induction n with
    | zero => intro i _; exact Nat.zero_le _
    | succ n ih =>
      intro i hi
      rw [findGo]
      split
      · cases hm : matchP l i d with
        | none => have := ih (i + 1) (by omega); show (findGo l d n (i + 1)).length ≤ _; omega
        | some q =>
          have h := match_le hm
          have := ih q.2.2.2 (by omega)
          show (findGo l d n q.2.2.2).length + 1 ≤ _; omega
      · exact Nat.zero_le _
  have := this (l.length + 1) 0 (Nat.zero_le _)
  rw [findP]; omega

/-- Rows of numbers, and rows of such rows, stand as they stood. -/
def IntsKept (w w' : World) : Prop := ∀ (g : Nat) (cur : Array Value) (e : TypeId), e = 3 ∨ e = 144 → w.heap[g]? = some (Obj.cells cur e (0, 0)) → w'.heap[g]? = some (Obj.cells cur e (0, 0))
theorem IntsKept.of_bel {w w' : World} (h : Bel w w') : IntsKept w w' := fun _ _ _ _ hg => h.heap hg
theorem IntsKept.refl (w : World) : IntsKept w w := fun _ _ _ _ hg => hg
theorem IntsKept.tr {a b c : World} (h : IntsKept a b) (k : IntsKept b c) : IntsKept a c := fun g cur e he hg => k g cur e he (h g cur e he hg)

def RdQ (w : World) (ao : Option Addr) (qs : List Q4) : Prop := ∀ (i : Nat) (q : Q4), qs[i]? = some q → ∃ (g gi : Nat) (cur : Array Value),
  ao = some ⟨g, 0, none⟩ ∧ w.heap[g]? = some (Obj.cells cur 144 (0, 0)) ∧ cur[i]? = some (.slice (some ⟨gi, 0, none⟩) 4 4) ∧ w.heap[gi]? = some (Obj.cells #[.int .i64 q.1, .int .i64 q.2.2.2, .int .i64 q.2.1, .int .i64 q.2.2.1] 3 (0, 0))
theorem RdQ.keep {w w' : World} {ao : Option Addr} {qs : List Q4} (h : RdQ w ao qs) (k : IntsKept w w') : RdQ w' ao qs := fun i q hq => by
  obtain ⟨g, gi, cur, h1, h2, h3, h4⟩ := h i q hq
  exact ⟨g, gi, cur, h1, k _ _ _ (.inr rfl) h2, h3, k _ _ _ (.inl rfl) h4⟩
theorem Fours.at {w : World} {qs : List Q4} {xs : List Value} (h : Fours w qs xs) : ∀ (i : Nat) (q : Q4), qs[i]? = some q → ∃ x, xs[i]? = some x ∧ Four w q x := by
  induction h with
  | nil => intro i q hq; simp at hq
  | @snoc qs xs q0 x0 h1 h2 ih =>
    intro i q hq
    have hl := h1.len
    rcases Nat.lt_or_ge i qs.length with hi | hi
    · rw [List.getElem?_append_left hi] at hq
      obtain ⟨x, hx, hf⟩ := ih i q hq
      exact ⟨x, by rw [List.getElem?_append_left (by omega)]; exact hx, hf⟩
    · rw [List.getElem?_append_right hi] at hq
      have : i - qs.length = 0 := by
        rcases Nat.eq_zero_or_pos (i - qs.length) with h | h
        · exact h
        · rw [List.getElem?_eq_none (by simp; omega)] at hq; cases hq
      rw [this] at hq
      simp at hq
      subst hq
      exact ⟨x0, by rw [List.getElem?_append_right (by omega), show i - xs.length = 0 from by omega]; rfl, h2⟩
theorem Parens.rd {w : World} {B : Nat} {v : Value} {qs : List Q4} (h : Parens w B v qs) : ∃ ao cap, v = .slice ao qs.length cap ∧ RdQ w ao qs := by
  obtain ⟨xs, hown, hfs⟩ := h
  rcases hown.2 with ⟨rfl, hn⟩ | ⟨g, cap, cur, rfl, _, hg, _, _, _, htake⟩
  · refine ⟨none, 0, by rw [hn], ?_⟩
    intro i q hq
    rw [List.getElem?_eq_none (by omega)] at hq; cases hq
  · refine ⟨some ⟨g, 0, none⟩, cap, rfl, ?_⟩
    intro i q hq
    obtain ⟨x, hx, gi, rfl, h4⟩ := hfs.at i q hq
    have hlt : i < qs.length := by
      rcases Nat.lt_or_ge i qs.length with h | h
      · exact h
      · rw [List.getElem?_eq_none h] at hq; cases hq
    refine ⟨g, gi, cur, rfl, hg, ?_, h4⟩
    rw [← htake, List.getElem?_take, if_pos (by omega)] at hx
    simpa using hx

set_option maxHeartbeats 2000000 in
theorem splitRx_calls {α : Type} (S : α → List UInt8 → Option α → Prop) (I0 : World → Prop) (a0 : α) (I : α → World → Prop) (E : World → Prop) (aN : Addr) (kS kY : FuncId) (b : Nat)
    (hkS : ∀ args w, (callFunc kS args).run Tryz.prog w = .ok (.enter kS args) w) (hkY : ∀ args w, (callFunc kY args).run Tryz.prog w = .ok (.enter kY args) w)
    (hI0 : ∀ w w', I0 w → Bel w w' → I0 w')
    (hset : ∀ (n : Nat) (w : World), I0 w → n ≤ 1000000001 → Calls Tryz.prog kS #[.int .i64 n, .pointer (some ⟨b, 0, none⟩)] w fun e w' => e = .returned (.tuple #[]) ∧ I a0 w' ∧ IntsKept w w')
    (hstep : ∀ (a : α) (p : List UInt8) (r : Option α) (w : World), S a p r → I a w → p.length ≤ 1000000000 → Calls Tryz.prog kY #[.string (ofL p), .pointer (some ⟨b, 0, none⟩)] w fun e w' => Ends aN I E r e w' ∧ IntsKept w w')
    (s : ByteArray) (hs : s.size ≤ 1000000000) (d : Bool) (r : Option α) (w : World) (hr : Run S a0 (rxPieces (toL s) d) r) (hI : I0 w) :
    Calls Tryz.prog 81 #[.string s, .bool d, .func (.func kS) #[] #[.pointer (some ⟨b, 0, none⟩)], .func (.func kY) #[] #[.pointer (some ⟨b, 0, none⟩)]] w (Ends aN I E r) := by
  have HSTEP := Lib.hid hstep; clear hstep
  have HSET := Lib.hid hset; clear hset
  have HI0 := Lib.hid hI0; clear hI0
  have HR := Lib.hid hr; clear hr
  have HI := Lib.hid hI; clear hI
  have HP := Lib.hid (findParens_calls s d w hs)
  have hql := findP_len (toL s) d
  rw [toL_length] at hql
  obtain ⟨qs, HQS⟩ : ∃ qs, Hid (findP (toL s) d = qs) := ⟨_, rfl⟩
  have hqs := HQS.out
  rw [hqs] at hql
  clear hqs
  go_enter Tryz.func81, Tryz.ntmps81
  go_wp2_with fail
  refine HP.out.mono ?_
  rintro e w1 ⟨v, rfl, hpar, hbel⟩
  have hqs := HQS.out
  rw [hqs] at hpar
  clear hqs
  obtain ⟨ao, cap, rfl, hrd⟩ := hpar.rd
  have HRD := Lib.hid hrd
  have HBEL := Lib.hid hbel
  clear hrd hpar hbel
  go_wp2_with fail
  refine (HSET.out (qs.length + 1) w1 (HI0.out _ _ HI.out HBEL.out) (by omega)).mono ?_
  rintro e w2 ⟨rfl, hi2, hk2⟩
  have HRD2 := Lib.hid (HRD.out.keep hk2)
  have HI2 := Lib.hid hi2
  clear hi2 hk2
  go_wp2_with fail
  go_loopg [10, 24] qs.length (fun g s10 s24 wr => ∃ (i st : Nat) (a' : α), i ≤ qs.length ∧ g = qs.length - i ∧ s24 = .int .i64 i ∧ s10 = .int .i64 st ∧ st ≤ s.size ∧ Hid (RdQ wr ao qs ∧ Run S a' (rx (toL s) st (qs.drop i)) r ∧ I a' wr ∧ Chain s.size st (qs.drop i)))
  case atStart =>
    refine ⟨0, 0, a0, by omega, rfl, rfl, rfl, by omega, HRD2.out, ?_, HI2.out, ?_⟩
    · have := HR.out; rw [rxPieces, HQS.out] at this; exact this
    · have := chain_go (toL s) d ((toL s).length + 1) 0 0 (by omega) (by omega)
      rw [← findP, HQS.out, toL_length] at this; exact this
  case round =>
    obtain ⟨i, st, a', hi, rfl, rfl, rfl, hst, hh⟩ := hrel
    by_cases hlt : i < qs.length
    · obtain ⟨q, hq⟩ : ∃ q, qs[i]? = some q := ⟨_, List.getElem?_eq_getElem hlt⟩
      obtain ⟨hrd, hrun, hinv, hch⟩ := hh
      obtain ⟨g, gi, cur, rfl, hg, hcur, hgi⟩ := hrd i q hq
      have c0 : wr.cell? ⟨g, i, none⟩ = some (.slice (some ⟨gi, 0, none⟩) 4 4) := by simp [World.cell?, hg, hcur]
      have c2 : wr.cell? ⟨gi, 2, none⟩ = some (.int .i64 q.2.1) := by simp [World.cell?, hgi]
      have c3 : wr.cell? ⟨gi, 3, none⟩ = some (.int .i64 q.2.2.1) := by simp [World.cell?, hgi]
      have hdr : qs.drop i = q :: qs.drop (i + 1) := by
        rw [List.drop_eq_getElem_cons hlt]; congr 1
        rw [List.getElem?_eq_getElem hlt] at hq; exact Option.some.inj hq
      rw [hdr] at hrun hch
      rw [rx] at hrun
      obtain ⟨l1, l2, l3⟩ := hch
      generalize q.2.1 = f at *
      generalize q.2.2.1 = tt at *
      obtain ⟨y, hy, HY⟩ : ∃ y, s.extract st f = y ∧ Hid (y = ofL (((toL s).take f).drop st)) := by
        refine ⟨_, rfl, ?_⟩
        have := ofL_extract (toL s) st f
        rw [ofL_toL, ← List.drop_take] at this
        exact this
      have c4 : (st : Int) ≤ (f : Int) := by omega
      have c5 : (f : Int) ≤ (s.size : Int) := by omega
      have HLEN : Hid ((((toL s).take f).drop st).length ≤ 1000000000) := by show _ ≤ _; rw [List.length_drop, List.length_take, toL_length]; omega
      have HRUN := Lib.hid hrun
      have HINV := Lib.hid hinv
      have HRDI := Lib.hid hrd
      have HCH := Lib.hid l3
      have HG := Lib.hid hgi
      clear hrun hinv hrd l3 hdr hq hg hcur hgi
      go_wp2_with fail
      rw [HY.out]
      have hr3 := HRUN.out
      cases hr3 with
      | ok hs1 hs2 =>
        refine (HSTEP.out _ _ _ _ hs1 HINV.out HLEN.out).mono ?_
        rintro e w3 ⟨⟨rfl, hI1⟩, hk⟩
        have HI1 := Lib.hid hI1
        have HS2 := Lib.hid hs2
        have HRD3 := Lib.hid (HRDI.out.keep hk)
        have hg3 := hk _ _ _ (.inl rfl) HG.out
        have c3' : w3.cell? ⟨gi, 3, none⟩ = some (.int .i64 tt) := by simp [World.cell?, hg3]
        clear hI1 hs2 hs1 hk hg3
        have ht : tt ≤ s.size := by
          have := HCH.out
          generalize qs.drop (i + 1) = qq at this
          cases qq with
          | nil => exact this
          | cons a b => exact Nat.le_trans this.1 this.2.1
        go_wp2_with fail
        go_roundg (qs.length - (i + 1))
        case measure => omega
        case rel => exact ⟨i + 1, tt, _, by omega, rfl, by go_num, rfl, ht, HRD3.out, HS2.out, HI1.out, HCH.out⟩
      | err hs1 =>
        refine (HSTEP.out _ _ _ _ hs1 HINV.out HLEN.out).mono ?_
        rintro e w3 ⟨⟨rfl, hI1⟩, hk⟩
        have HI1 := Lib.hid hI1
        clear hI1 hs1 hk
        go_wp2
        go_ret
        exact ⟨rfl, HI1.out⟩
    · obtain rfl : i = qs.length := by omega
      have hkz : ¬ ((qs.length : Int) < (qs.length : Int)) := by omega
      obtain ⟨hrd, hrun, hinv, hch⟩ := hh
      rw [List.drop_length, rx] at hrun
      obtain ⟨y, hy, HY⟩ : ∃ y, s.extract st s.size = y ∧ Hid (y = ofL ((toL s).drop st)) := by
        have := ofL_from (toL s) st
        rw [ofL_toL, toL_length] at this
        exact ⟨_, rfl, this⟩
      have c4 : (st : Int) ≤ (s.size : Int) := by omega
      have HLEN : Hid (((toL s).drop st).length ≤ 1000000000) := by show _ ≤ _; rw [List.length_drop, toL_length]; omega
      have HRUN := Lib.hid hrun
      have HINV := Lib.hid hinv
      clear hrun hinv hrd hch
      go_wp2_with fail
      rw [HY.out]
      have hr3 := HRUN.out
      cases hr3 with
      | ok hs1 hs2 =>
        cases hs2
        refine (HSTEP.out _ _ _ _ hs1 HINV.out HLEN.out).mono ?_
        rintro e w3 ⟨⟨rfl, hI1⟩, hk⟩
        have HI1 := Lib.hid hI1
        clear hI1 hs1 hk
        go_wp2
        go_ret
        exact ⟨rfl, HI1.out⟩
      | err hs1 =>
        refine (HSTEP.out _ _ _ _ hs1 HINV.out HLEN.out).mono ?_
        rintro e w3 ⟨⟨rfl, hI1⟩, hk⟩
        have HI1 := Lib.hid hI1
        clear hI1 hs1 hk
        go_wp2
        go_ret
        exact ⟨rfl, HI1.out⟩
end Go.Proofs.YtghajgdiaopioaaGreatDoor

/- Walks: a ring's text is read, and the ring appended to a captured row. -/
namespace Go.Proofs.YtghajgdiaopioaaGreatDoor
open Go.RowKit
attribute [local go_sem] run_store_float run_store_iface run_store_nilIface

/-- Values that read, one by one, as data. -/
inductive Each {δ : Type} (R : World → Value → δ → Prop) (w : World) : List Value → List δ → Prop
  | nil : Each R w [] []
  | snoc {xs : List Value} {ds : List δ} {x : Value} {d : δ} : Each R w xs ds → R w x d → Each R w (xs ++ [x]) (ds ++ [d])

/-- Rows of these types stand as they stood. -/
def TKept (K : TypeId → Prop) (w w' : World) : Prop := ∀ (g : Nat) (cur : Array Value) (e : TypeId), K e → w.heap[g]? = some (Obj.cells cur e (0, 0)) → w'.heap[g]? = some (Obj.cells cur e (0, 0))
theorem TKept.of_bel {K : TypeId → Prop} {w w' : World} (h : Bel w w') : TKept K w w' := fun _ _ _ _ hg => h.heap hg
theorem TKept.tr {K : TypeId → Prop} {a b c : World} (h : TKept K a b) (k : TKept K b c) : TKept K a c := fun g cur e he hg => k g cur e he (h g cur e he hg)
theorem TKept.mono {K K' : TypeId → Prop} {w w' : World} (h : TKept K w w') (hk : ∀ e, K' e → K e) : TKept K' w w' := fun g cur e he hg => h g cur e (hk e he) hg
theorem Each.keep {δ : Type} {R : World → Value → δ → Prop} {w w' : World} (hR : ∀ x d, R w x d → R w' x d) {xs : List Value} {ds : List δ} (h : Each R w xs ds) : Each R w' xs ds := by
  induction h with
  | nil => exact .nil
  | snoc _ h2 ih => exact .snoc ih (hR _ _ h2)

/-- A slice of points, as it is read. -/
def RdPts (w : World) (x : Value) (pts : List Pt) : Prop := w.ownsRow 0 61 2 x pts.length (ptsCells pts)
def K61 (e : TypeId) : Prop := e = 61
theorem ownsRow_tkept {K : TypeId → Prop} {w w' : World} {base : Nat} {e : TypeId} {size : Nat} {v : Value} {n : Nat} {xs : List Value} (h : w.ownsRow base e size v n xs) (k : TKept K w w') (he : K e) : w'.ownsRow base e size v n xs := by
  obtain ⟨h1, h2⟩ := h
  refine ⟨h1, ?_⟩
  rcases h2 with h2 | ⟨g, cap, cur, hv, hg, hh, r⟩
  · exact Or.inl h2
  · exact Or.inr ⟨g, cap, cur, hv, hg, k _ _ _ he hh, r⟩
theorem RdPts.keep {w w' : World} {x : Value} {pts : List Pt} (h : RdPts w x pts) (k : TKept K61 w w') : RdPts w' x pts := ownsRow_tkept h k rfl
theorem ownsRow_base {w : World} {base base' : Nat} {e : TypeId} {size : Nat} {v : Value} {n : Nat} {xs : List Value} (h : w.ownsRow base e size v n xs) (hb : base' ≤ base) : w.ownsRow base' e size v n xs := by
  obtain ⟨h1, h2⟩ := h
  refine ⟨h1, ?_⟩
  rcases h2 with h2 | ⟨g, cap, cur, hv, hg, r⟩
  · exact Or.inl h2
  · exact Or.inr ⟨g, cap, cur, hv, Nat.le_trans hb hg, r⟩
theorem ownsRow_bel {w w' : World} {base : Nat} {e : TypeId} {size : Nat} {v : Value} {n : Nat} {xs : List Value} (h : w.ownsRow base e size v n xs) (k : Bel w w') : w'.ownsRow base e size v n xs :=
  ownsRow_tkept (K := fun _ => True) h (TKept.of_bel k) trivial

/-- The captured row (block b, type To, elements of type Te) holds these data; of what there was nothing has turned. -/
def RowInv {δ : Type} (G : Errs) (w0 : World) (b : Nat) (To Te : TypeId) (R : World → Value → δ → Prop) (ds : List δ) (w : World) : Prop :=
  Env G w0 ∧ Bel w0 w ∧ w0.heap.size ≤ b ∧ ∃ v xs, w.heap[b]? = some (Obj.cells #[v] To (0, 0)) ∧ w.ownsRow w0.heap.size Te 1 v ds.length xs ∧ Each R w xs ds

/-- One ring more, or (none) an error. -/
def RingStep (G : Errs) (rings : List (List Pt)) (l : List UInt8) (r : Option (List (List Pt))) : Prop :=
  rings.length < 1000000 ∧ ((brkL l = none ∧ r = none) ∨ ∃ q o, brkL l = some q ∧ Run (PtStep G) [] (pieces q) o ∧ r = o.map fun pts => rings ++ [pts])

theorem brkL_le {l q : List UInt8} (h : brkL l = some q) : q.length ≤ l.length := by
  unfold brkL at h
  split at h
  · cases h; simp
  · rename_i c t e
    have h1 := trimL_le l
    rw [e] at h1
    split at h
    · split at h
      · cases h
        have := trimL_le t.dropLast
        rw [List.length_dropLast] at this
        simp at h1; omega
      · cases h
    · cases h
theorem makeFunc_run : ∀ (fn : Fn) (first cap : Array Value) (w : World), (Instr.makeFunc fn first cap).run Tryz.prog w = .ok (.func fn first cap) w := fun _ _ _ _ => rfl
theorem info117 : (Tryz.prog.info? 117).map (fun i => (i.zero, i.size, i.bytes)) = some (some (.slice none 0 0), 1, 24) := by kernel_rfl
theorem info65 : (Tryz.prog.info? 65).map (fun i => (i.zero, i.size, i.bytes)) = some (some (.slice none 0 0), 1, 24) := by kernel_rfl
theorem info69 : (Tryz.prog.info? 69).map (fun i => (i.zero, i.size, i.bytes)) = some (some (.slice none 0 0), 1, 24) := by kernel_rfl
theorem enter84 : ∀ args w, (callFunc 84 args).run Tryz.prog w = .ok (.enter 84 args) w := fun _ _ => by simp [go_sem]
theorem enter88 : ∀ args w, (callFunc 88 args).run Tryz.prog w = .ok (.enter 88 args) w := fun _ _ => by simp [go_sem]
theorem enter93 : ∀ args w, (callFunc 93 args).run Tryz.prog w = .ok (.enter 93 args) w := fun _ _ => by simp [go_sem]
theorem commas_le (s : ByteArray) : cntC (toL s) ≤ s.size := by rw [← toL_length]; exact cntC_le _

set_option maxHeartbeats 4000000 in
theorem ringStep83_calls (G : Errs) (w0 : World) (b : Nat) (rings : List (List Pt)) (l : List UInt8) (r : Option (List (List Pt))) (w : World) (hr : RingStep G rings l r) (hI : RowInv G w0 b 69 117 RdPts rings w) (hs : l.length ≤ 1000000000) :
    Calls Tryz.prog 83 #[.string (ofL l), .pointer (some ⟨b, 0, none⟩)] w fun e w' => Ends G.n (RowInv G w0 b 69 117 RdPts) (Bel w0) r e w' ∧ IntsKept w w' := by
  obtain ⟨i0, hi, hz0, hz1, hz2⟩ := info_parts info117
  obtain ⟨j0, hj, hy0, hy1, hy2⟩ := info_parts info61
  obtain ⟨hlen, hr⟩ := hr
  obtain ⟨hE, hbel, hb, v, xs, hv, hown, heach⟩ := hI
  rcases hr with ⟨hbk, rfl⟩ | ⟨q, o, hbk, hrun, rfl⟩
  · have HB := Lib.hid (brk_err (ofL l) w (by rw [ofL_size]; exact hs) (errV G.n) (hE.bel hbel).eN (by rw [toL_ofL]; exact hbk))
    have HBEL := Lib.hid hbel
    clear hbel hE hown hv heach hbk
    go_enter Tryz.func83, Tryz.ntmps83
    go_wp2_with (go_at_call 75; refine HB.out.mono ?_; rintro e w1 ⟨rfl, n, rfl⟩)
    go_ret
    exact ⟨⟨rfl, HBEL.out.tr (Bel.dr _ _)⟩, IntsKept.of_bel (Bel.dr _ _)⟩
  · have hql := brkL_le hbk
    have HB := Lib.hid (brk_ok (ofL l) w (by rw [ofL_size]; exact hs) q (by rw [toL_ofL]; exact hbk))
    have hcl := commas_le (ofL q)
    rw [ofL_size] at hcl
    have HC := Lib.hid (commas_calls (ofL q) w (by rw [ofL_size]; omega))
    have HBEL := Lib.hid hbel
    have HOWN := Lib.hid hown
    have HV := Lib.hid hv
    have HE := Lib.hid hE
    have HEACH := Lib.hid heach
    have HRUN := Lib.hid hrun
    have hmf := makeFunc_run
    clear hbel hE hown hv hbk heach hrun
    generalize cntC (toL (ofL q)) = cn at *
    have hbw := lt_heap HV.out
    go_enter Tryz.func83, Tryz.ntmps83
    go_wp2_with (first | (go_at_call 75; refine HB.out.mono ?_; rintro e w1 ⟨rfl, rfl⟩) | (go_at_call 78; refine HC.out.mono ?_; rintro e w1 ⟨rfl, rfl⟩) | (at_make; refine wpList_make_own _ rfl _ _ 117 rfl w.heap.size 61 j0 (.agg #[.float .f64 0, .float .f64 0]) 2 Tryz.underlying117 hj hy0 hy1 .i64 .i64 _ (cn + 1) rfl rfl (by omega) (by rw [hy2]; omega) (by unfold maxLen; omega) (Nat.le_refl _) ?_))
    intro w1 how hgw
    have hb1 : Bel w w1 := ⟨hgw.os, hgw.tape, hgw.output, hgw.size, fun k hk => hgw.block k hk (by simp)⟩
    have HOW := Lib.hid how
    have HB1 := Lib.hid hb1
    clear how hgw hb1
    go_wp2_with fail
    have hrun := HRUN.out
    refine (splitComma_calls (PtStep G) (PtInv G w w1.heap.size 117) (Bel w) G.n 84 w1.heap.size enter84 (fun a p r wx hS hI hl => ptStep84_calls G w w1.heap.size a p r wx hS hI hl) (ofL q) (by rw [ofL_size]; omega) [] o _ (by rw [toL_ofL]; exact hrun) ⟨HE.out.bel HBEL.out, HB1.out.tr (Bel.al _ _), HB1.out.size, _, heap_alloc_new w1 _, HOW.out.alloc _⟩).mono ?_
    clear hrun
    cases o with
    | none =>
      rintro e w2 ⟨rfl, b2⟩
      have B2 := Lib.hid b2
      clear b2
      go_wp2
      go_ret
      exact ⟨⟨rfl, HBEL.out.tr B2.out⟩, IntsKept.of_bel B2.out⟩
    | some pts =>
      rintro e w2 ⟨rfl, hE2, b2, hsz2, v6, hv6, hown6⟩
      obtain ⟨ao6, cap6, rfl⟩ := own_slice hown6
      have hv2 := b2.heap HV.out
      have hown2 := ownsRow_bel HOWN.out b2
      have heach2 := HEACH.out.keep (fun x d h => RdPts.keep h (TKept.of_bel b2))
      have c1 : w2.cell? ⟨b, 0, none⟩ = some v := by simp [World.cell?, hv2]
      have f1 : w2.frozen? ⟨b, 0, none⟩ = false := by simp [World.frozen?, hv2]
      have c6 : w2.cell? ⟨w1.heap.size, 0, none⟩ = some (.slice ao6 pts.length cap6) := by simp [World.cell?, hv6]
      have hbw2 := lt_heap hv2
      have B2 := Lib.hid b2
      have HV2 := Lib.hid hv2
      have HOWN2 := Lib.hid hown2
      have HEACH2 := Lib.hid heach2
      have HOWN6 := Lib.hid hown6
      clear b2 hv2 hown2 heach2 hown6 hE2 hv6
      go_wp2_with (at_builtin; refine wpList_append1 _ [.slice ao6 pts.length cap6] 117 rfl (.tmp 26) (.tmp 28) 69 rfl w0.heap.size i0 (.slice none 0 0) 1 24 Tryz.underlying69 hi hz0 hz1 hz2 rfl (by decide) _ rings.length xs rfl HOWN2.out _ _ rfl rfl rfl ?_ ?_ ?_ ?_ ?_)
      · intro u hu
        simp at hu
        subst hu
        rfl
      · omega
      · unfold maxLen; omega
      · have := HBEL.out.size; have := B2.out.size; omega
      · intro v' w3 h2 h3
        have hv3 := grown_heap h3 HV2.out (own_ne HOWN2.out HV2.out (by decide))
        have H2 := Lib.hid h2
        have B3 := Lib.hid (show Bel w0 w3 from (HBEL.out.tr B2.out).trans (Below.grown (Below.refl _ _) h3 (by have := HBEL.out.size; have := B2.out.size; omega) (fun k hk => (HOWN2.out.lt k hk).1)))
        have HK := Lib.hid (show ∀ (g : Nat) (cur : Array Value) (e : TypeId), e ≠ 117 → w2.heap[g]? = some (Obj.cells cur e (0, 0)) → w3.heap[g]? = some (Obj.cells cur e (0, 0)) from fun g cur e he hg => grown_heap h3 hg (own_ne HOWN2.out hg he))
        have HV3 := Lib.hid hv3
        have c3 : w3.cell? ⟨b, 0, none⟩ = some v := by simp [World.cell?, hv3]
        have f3 : w3.frozen? ⟨b, 0, none⟩ = false := by simp [World.frozen?, hv3]
        have hbw3 := lt_heap hv3
        obtain ⟨ao, cap, rfl⟩ := own_slice h2
        clear h2 h3 hv3 c1 f1 c6
        go_wp2
        go_ret
        have hset : ∀ (u : Value) (g : Nat) (cur : Array Value) (e : TypeId), e ≠ 117 → e ≠ 69 → w2.heap[g]? = some (Obj.cells cur e (0, 0)) → (w3.setCell ⟨b, 0, none⟩ u).heap[g]? = some (Obj.cells cur e (0, 0)) := fun u g cur e h1 h2 hg => by
          have hg3 := HK.out g cur e h1 hg
          rw [Below.heap_setCell _ _ _ _ (fun hc => ?_)]
          · exact hg3
          · rw [show g = b from hc, HV3.out] at hg3; cases hg3; exact h2 rfl
        refine ⟨⟨rfl, HE.out, B3.out.setCell hb _, hb, _, xs ++ [.slice ao6 pts.length cap6], heap_setOne HV3.out, ?_, ?_⟩, ?_⟩
        · rw [List.length_append]
          exact ownsRow_setOther H2.out (own_ne H2.out HV3.out (by decide)) _
        · refine .snoc (HEACH2.out.keep (fun x d h => RdPts.keep h (fun g cur e he hg => hset _ g cur e (by rw [he]; decide) (by rw [he]; decide) hg))) (RdPts.keep (ownsRow_base HOWN6.out (Nat.zero_le _)) (fun g cur e he hg => hset _ g cur e (by rw [he]; decide) (by rw [he]; decide) hg))
        · exact fun g cur e he hg => hset _ g cur e (by rcases he with rfl | rfl <;> decide) (by rcases he with rfl | rfl <;> decide) (B2.out.heap hg)

set_option maxHeartbeats 4000000 in
theorem ringStep87_calls (G : Errs) (w0 : World) (b : Nat) (rings : List (List Pt)) (l : List UInt8) (r : Option (List (List Pt))) (w : World) (hr : RingStep G rings l r) (hI : RowInv G w0 b 76 65 RdPts rings w) (hs : l.length ≤ 1000000000) :
    Calls Tryz.prog 87 #[.string (ofL l), .pointer (some ⟨b, 0, none⟩)] w fun e w' => Ends G.n (RowInv G w0 b 76 65 RdPts) (Bel w0) r e w' ∧ IntsKept w w' := by
  obtain ⟨i0, hi, hz0, hz1, hz2⟩ := info_parts info65
  obtain ⟨j0, hj, hy0, hy1, hy2⟩ := info_parts info61
  obtain ⟨hlen, hr⟩ := hr
  obtain ⟨hE, hbel, hb, v, xs, hv, hown, heach⟩ := hI
  rcases hr with ⟨hbk, rfl⟩ | ⟨q, o, hbk, hrun, rfl⟩
  · have HB := Lib.hid (brk_err (ofL l) w (by rw [ofL_size]; exact hs) (errV G.n) (hE.bel hbel).eN (by rw [toL_ofL]; exact hbk))
    have HBEL := Lib.hid hbel
    clear hbel hE hown hv heach hbk
    go_enter Tryz.func87, Tryz.ntmps87
    go_wp2_with (go_at_call 75; refine HB.out.mono ?_; rintro e w1 ⟨rfl, n, rfl⟩)
    go_ret
    exact ⟨⟨rfl, HBEL.out.tr (Bel.dr _ _)⟩, IntsKept.of_bel (Bel.dr _ _)⟩
  · have hql := brkL_le hbk
    have HB := Lib.hid (brk_ok (ofL l) w (by rw [ofL_size]; exact hs) q (by rw [toL_ofL]; exact hbk))
    have hcl := commas_le (ofL q)
    rw [ofL_size] at hcl
    have HC := Lib.hid (commas_calls (ofL q) w (by rw [ofL_size]; omega))
    have HBEL := Lib.hid hbel
    have HOWN := Lib.hid hown
    have HV := Lib.hid hv
    have HE := Lib.hid hE
    have HEACH := Lib.hid heach
    have HRUN := Lib.hid hrun
    have hmf := makeFunc_run
    clear hbel hE hown hv hbk heach hrun
    generalize cntC (toL (ofL q)) = cn at *
    have hbw := lt_heap HV.out
    go_enter Tryz.func87, Tryz.ntmps87
    go_wp2_with (first | (go_at_call 75; refine HB.out.mono ?_; rintro e w1 ⟨rfl, rfl⟩) | (go_at_call 78; refine HC.out.mono ?_; rintro e w1 ⟨rfl, rfl⟩) | (at_make; refine wpList_make_own _ rfl _ _ 65 rfl w.heap.size 61 j0 (.agg #[.float .f64 0, .float .f64 0]) 2 Tryz.underlying65 hj hy0 hy1 .i64 .i64 _ (cn + 1) rfl rfl (by omega) (by rw [hy2]; omega) (by unfold maxLen; omega) (Nat.le_refl _) ?_))
    intro w1 how hgw
    have hb1 : Bel w w1 := ⟨hgw.os, hgw.tape, hgw.output, hgw.size, fun k hk => hgw.block k hk (by simp)⟩
    have HOW := Lib.hid how
    have HB1 := Lib.hid hb1
    clear how hgw hb1
    go_wp2_with fail
    have hrun := HRUN.out
    refine (splitComma_calls (PtStep G) (PtInv G w w1.heap.size 65) (Bel w) G.n 88 w1.heap.size enter88 (fun a p r wx hS hI hl => ptStep88_calls G w w1.heap.size a p r wx hS hI hl) (ofL q) (by rw [ofL_size]; omega) [] o _ (by rw [toL_ofL]; exact hrun) ⟨HE.out.bel HBEL.out, HB1.out.tr (Bel.al _ _), HB1.out.size, _, heap_alloc_new w1 _, HOW.out.alloc _⟩).mono ?_
    clear hrun
    cases o with
    | none =>
      rintro e w2 ⟨rfl, b2⟩
      have B2 := Lib.hid b2
      clear b2
      go_wp2
      go_ret
      exact ⟨⟨rfl, HBEL.out.tr B2.out⟩, IntsKept.of_bel B2.out⟩
    | some pts =>
      rintro e w2 ⟨rfl, hE2, b2, hsz2, v6, hv6, hown6⟩
      obtain ⟨ao6, cap6, rfl⟩ := own_slice hown6
      have hv2 := b2.heap HV.out
      have hown2 := ownsRow_bel HOWN.out b2
      have heach2 := HEACH.out.keep (fun x d h => RdPts.keep h (TKept.of_bel b2))
      have c1 : w2.cell? ⟨b, 0, none⟩ = some v := by simp [World.cell?, hv2]
      have f1 : w2.frozen? ⟨b, 0, none⟩ = false := by simp [World.frozen?, hv2]
      have c6 : w2.cell? ⟨w1.heap.size, 0, none⟩ = some (.slice ao6 pts.length cap6) := by simp [World.cell?, hv6]
      have hbw2 := lt_heap hv2
      have B2 := Lib.hid b2
      have HV2 := Lib.hid hv2
      have HOWN2 := Lib.hid hown2
      have HEACH2 := Lib.hid heach2
      have HOWN6 := Lib.hid hown6
      clear b2 hv2 hown2 heach2 hown6 hE2 hv6
      go_wp2_with (at_builtin; refine wpList_append1 _ [.slice ao6 pts.length cap6] 65 rfl (.tmp 26) (.tmp 28) 76 rfl w0.heap.size i0 (.slice none 0 0) 1 24 Tryz.underlying76 hi hz0 hz1 hz2 rfl (by decide) _ rings.length xs rfl HOWN2.out _ _ rfl rfl rfl ?_ ?_ ?_ ?_ ?_)
      · intro u hu
        simp at hu
        subst hu
        rfl
      · omega
      · unfold maxLen; omega
      · have := HBEL.out.size; have := B2.out.size; omega
      · intro v' w3 h2 h3
        have hv3 := grown_heap h3 HV2.out (own_ne HOWN2.out HV2.out (by decide))
        have H2 := Lib.hid h2
        have B3 := Lib.hid (show Bel w0 w3 from (HBEL.out.tr B2.out).trans (Below.grown (Below.refl _ _) h3 (by have := HBEL.out.size; have := B2.out.size; omega) (fun k hk => (HOWN2.out.lt k hk).1)))
        have HK := Lib.hid (show ∀ (g : Nat) (cur : Array Value) (e : TypeId), e ≠ 65 → w2.heap[g]? = some (Obj.cells cur e (0, 0)) → w3.heap[g]? = some (Obj.cells cur e (0, 0)) from fun g cur e he hg => grown_heap h3 hg (own_ne HOWN2.out hg he))
        have HV3 := Lib.hid hv3
        have c3 : w3.cell? ⟨b, 0, none⟩ = some v := by simp [World.cell?, hv3]
        have f3 : w3.frozen? ⟨b, 0, none⟩ = false := by simp [World.frozen?, hv3]
        have hbw3 := lt_heap hv3
        obtain ⟨ao, cap, rfl⟩ := own_slice h2
        clear h2 h3 hv3 c1 f1 c6
        go_wp2
        go_ret
        have hset : ∀ (u : Value) (g : Nat) (cur : Array Value) (e : TypeId), e ≠ 65 → e ≠ 76 → w2.heap[g]? = some (Obj.cells cur e (0, 0)) → (w3.setCell ⟨b, 0, none⟩ u).heap[g]? = some (Obj.cells cur e (0, 0)) := fun u g cur e h1 h2 hg => by
          have hg3 := HK.out g cur e h1 hg
          rw [Below.heap_setCell _ _ _ _ (fun hc => ?_)]
          · exact hg3
          · rw [show g = b from hc, HV3.out] at hg3; cases hg3; exact h2 rfl
        refine ⟨⟨rfl, HE.out, B3.out.setCell hb _, hb, _, xs ++ [.slice ao6 pts.length cap6], heap_setOne HV3.out, ?_, ?_⟩, ?_⟩
        · rw [List.length_append]
          exact ownsRow_setOther H2.out (own_ne H2.out HV3.out (by decide)) _
        · refine .snoc (HEACH2.out.keep (fun x d h => RdPts.keep h (fun g cur e he hg => hset _ g cur e (by rw [he]; decide) (by rw [he]; decide) hg))) (RdPts.keep (ownsRow_base HOWN6.out (Nat.zero_le _)) (fun g cur e he hg => hset _ g cur e (by rw [he]; decide) (by rw [he]; decide) hg))
        · exact fun g cur e he hg => hset _ g cur e (by rcases he with rfl | rfl <;> decide) (by rcases he with rfl | rfl <;> decide) (B2.out.heap hg)

set_option maxHeartbeats 4000000 in
theorem ringStep92_calls (G : Errs) (w0 : World) (b : Nat) (rings : List (List Pt)) (l : List UInt8) (r : Option (List (List Pt))) (w : World) (hr : RingStep G rings l r) (hI : RowInv G w0 b 69 117 RdPts rings w) (hs : l.length ≤ 1000000000) :
    Calls Tryz.prog 92 #[.string (ofL l), .pointer (some ⟨b, 0, none⟩)] w fun e w' => Ends G.n (RowInv G w0 b 69 117 RdPts) (Bel w0) r e w' ∧ IntsKept w w' := by
  obtain ⟨i0, hi, hz0, hz1, hz2⟩ := info_parts info117
  obtain ⟨j0, hj, hy0, hy1, hy2⟩ := info_parts info61
  obtain ⟨hlen, hr⟩ := hr
  obtain ⟨hE, hbel, hb, v, xs, hv, hown, heach⟩ := hI
  rcases hr with ⟨hbk, rfl⟩ | ⟨q, o, hbk, hrun, rfl⟩
  · have HB := Lib.hid (brk_err (ofL l) w (by rw [ofL_size]; exact hs) (errV G.n) (hE.bel hbel).eN (by rw [toL_ofL]; exact hbk))
    have HBEL := Lib.hid hbel
    clear hbel hE hown hv heach hbk
    go_enter Tryz.func92, Tryz.ntmps92
    go_wp2_with (go_at_call 75; refine HB.out.mono ?_; rintro e w1 ⟨rfl, n, rfl⟩)
    go_ret
    exact ⟨⟨rfl, HBEL.out.tr (Bel.dr _ _)⟩, IntsKept.of_bel (Bel.dr _ _)⟩
  · have hql := brkL_le hbk
    have HB := Lib.hid (brk_ok (ofL l) w (by rw [ofL_size]; exact hs) q (by rw [toL_ofL]; exact hbk))
    have hcl := commas_le (ofL q)
    rw [ofL_size] at hcl
    have HC := Lib.hid (commas_calls (ofL q) w (by rw [ofL_size]; omega))
    have HBEL := Lib.hid hbel
    have HOWN := Lib.hid hown
    have HV := Lib.hid hv
    have HE := Lib.hid hE
    have HEACH := Lib.hid heach
    have HRUN := Lib.hid hrun
    have hmf := makeFunc_run
    clear hbel hE hown hv hbk heach hrun
    generalize cntC (toL (ofL q)) = cn at *
    have hbw := lt_heap HV.out
    go_enter Tryz.func92, Tryz.ntmps92
    go_wp2_with (first | (go_at_call 75; refine HB.out.mono ?_; rintro e w1 ⟨rfl, rfl⟩) | (go_at_call 78; refine HC.out.mono ?_; rintro e w1 ⟨rfl, rfl⟩) | (at_make; refine wpList_make_own _ rfl _ _ 117 rfl w.heap.size 61 j0 (.agg #[.float .f64 0, .float .f64 0]) 2 Tryz.underlying117 hj hy0 hy1 .i64 .i64 _ (cn + 1) rfl rfl (by omega) (by rw [hy2]; omega) (by unfold maxLen; omega) (Nat.le_refl _) ?_))
    intro w1 how hgw
    have hb1 : Bel w w1 := ⟨hgw.os, hgw.tape, hgw.output, hgw.size, fun k hk => hgw.block k hk (by simp)⟩
    have HOW := Lib.hid how
    have HB1 := Lib.hid hb1
    clear how hgw hb1
    go_wp2_with fail
    have hrun := HRUN.out
    refine (splitComma_calls (PtStep G) (PtInv G w w1.heap.size 117) (Bel w) G.n 93 w1.heap.size enter93 (fun a p r wx hS hI hl => ptStep93_calls G w w1.heap.size a p r wx hS hI hl) (ofL q) (by rw [ofL_size]; omega) [] o _ (by rw [toL_ofL]; exact hrun) ⟨HE.out.bel HBEL.out, HB1.out.tr (Bel.al _ _), HB1.out.size, _, heap_alloc_new w1 _, HOW.out.alloc _⟩).mono ?_
    clear hrun
    cases o with
    | none =>
      rintro e w2 ⟨rfl, b2⟩
      have B2 := Lib.hid b2
      clear b2
      go_wp2
      go_ret
      exact ⟨⟨rfl, HBEL.out.tr B2.out⟩, IntsKept.of_bel B2.out⟩
    | some pts =>
      rintro e w2 ⟨rfl, hE2, b2, hsz2, v6, hv6, hown6⟩
      obtain ⟨ao6, cap6, rfl⟩ := own_slice hown6
      have hv2 := b2.heap HV.out
      have hown2 := ownsRow_bel HOWN.out b2
      have heach2 := HEACH.out.keep (fun x d h => RdPts.keep h (TKept.of_bel b2))
      have c1 : w2.cell? ⟨b, 0, none⟩ = some v := by simp [World.cell?, hv2]
      have f1 : w2.frozen? ⟨b, 0, none⟩ = false := by simp [World.frozen?, hv2]
      have c6 : w2.cell? ⟨w1.heap.size, 0, none⟩ = some (.slice ao6 pts.length cap6) := by simp [World.cell?, hv6]
      have hbw2 := lt_heap hv2
      have B2 := Lib.hid b2
      have HV2 := Lib.hid hv2
      have HOWN2 := Lib.hid hown2
      have HEACH2 := Lib.hid heach2
      have HOWN6 := Lib.hid hown6
      clear b2 hv2 hown2 heach2 hown6 hE2 hv6
      go_wp2_with (at_builtin; refine wpList_append1 _ [.slice ao6 pts.length cap6] 117 rfl (.tmp 26) (.tmp 28) 69 rfl w0.heap.size i0 (.slice none 0 0) 1 24 Tryz.underlying69 hi hz0 hz1 hz2 rfl (by decide) _ rings.length xs rfl HOWN2.out _ _ rfl rfl rfl ?_ ?_ ?_ ?_ ?_)
      · intro u hu
        simp at hu
        subst hu
        rfl
      · omega
      · unfold maxLen; omega
      · have := HBEL.out.size; have := B2.out.size; omega
      · intro v' w3 h2 h3
        have hv3 := grown_heap h3 HV2.out (own_ne HOWN2.out HV2.out (by decide))
        have H2 := Lib.hid h2
        have B3 := Lib.hid (show Bel w0 w3 from (HBEL.out.tr B2.out).trans (Below.grown (Below.refl _ _) h3 (by have := HBEL.out.size; have := B2.out.size; omega) (fun k hk => (HOWN2.out.lt k hk).1)))
        have HK := Lib.hid (show ∀ (g : Nat) (cur : Array Value) (e : TypeId), e ≠ 117 → w2.heap[g]? = some (Obj.cells cur e (0, 0)) → w3.heap[g]? = some (Obj.cells cur e (0, 0)) from fun g cur e he hg => grown_heap h3 hg (own_ne HOWN2.out hg he))
        have HV3 := Lib.hid hv3
        have c3 : w3.cell? ⟨b, 0, none⟩ = some v := by simp [World.cell?, hv3]
        have f3 : w3.frozen? ⟨b, 0, none⟩ = false := by simp [World.frozen?, hv3]
        have hbw3 := lt_heap hv3
        obtain ⟨ao, cap, rfl⟩ := own_slice h2
        clear h2 h3 hv3 c1 f1 c6
        go_wp2
        go_ret
        have hset : ∀ (u : Value) (g : Nat) (cur : Array Value) (e : TypeId), e ≠ 117 → e ≠ 69 → w2.heap[g]? = some (Obj.cells cur e (0, 0)) → (w3.setCell ⟨b, 0, none⟩ u).heap[g]? = some (Obj.cells cur e (0, 0)) := fun u g cur e h1 h2 hg => by
          have hg3 := HK.out g cur e h1 hg
          rw [Below.heap_setCell _ _ _ _ (fun hc => ?_)]
          · exact hg3
          · rw [show g = b from hc, HV3.out] at hg3; cases hg3; exact h2 rfl
        refine ⟨⟨rfl, HE.out, B3.out.setCell hb _, hb, _, xs ++ [.slice ao6 pts.length cap6], heap_setOne HV3.out, ?_, ?_⟩, ?_⟩
        · rw [List.length_append]
          exact ownsRow_setOther H2.out (own_ne H2.out HV3.out (by decide)) _
        · refine .snoc (HEACH2.out.keep (fun x d h => RdPts.keep h (fun g cur e he hg => hset _ g cur e (by rw [he]; decide) (by rw [he]; decide) hg))) (RdPts.keep (ownsRow_base HOWN6.out (Nat.zero_le _)) (fun g cur e he hg => hset _ g cur e (by rw [he]; decide) (by rw [he]; decide) hg))
        · exact fun g cur e he hg => hset _ g cur e (by rcases he with rfl | rfl <;> decide) (by rcases he with rfl | rfl <;> decide) (B2.out.heap hg)
end Go.Proofs.YtghajgdiaopioaaGreatDoor
