/- Walks: the digits laid (126, 153). -/
import Derived.Lib.ItoaLen
import Derived.Test.YtghajgdiaopioaaGreatDoorW04
import Derived.Test.YtghajgdiaopioaaGreatDoorW07
set_option linter.unusedVariables false
set_option linter.unusedSimpArgs false

namespace Go.Proofs.YtghajgdiaopioaaGreatDoor
open Go.RowKit Go.Lib Go.Sort

theorem below_putRow (w : World) (b : Nat) (d : Array UInt8) (n : Nat) : Below b w ((putRow (fun (b : UInt8) => Value.int .u8 (b.toNat : Int)) w b 0 d).drewN n) := by
  refine ⟨rfl, rfl, rfl, ?_, fun k hk => ?_⟩
  · show w.heap.size ≤ (w.heap.modify b _).size
    simp
  · show (w.heap.modify b _)[k]? = _
    rw [Array.getElem?_modify, if_neg (by omega)]
theorem heap_putRow {w : World} {b : Nat} {c : Array Value} {e : TypeId} (h : w.heap[b]? = some (.cells c e (0, 0))) (d : Array UInt8) (n : Nat) :
    ((putRow (fun (b : UInt8) => Value.int .u8 (b.toNat : Int)) w b 0 d).drewN n).heap[b]? = some (.cells (putCells (fun (b : UInt8) => Value.int .u8 (b.toNat : Int)) 0 d c) e (0, 0)) := by
  show (w.heap.modify b _)[b]? = _
  rw [Array.getElem?_modify, if_pos rfl, h]
  rfl
/-- These cells hold these bytes, from place 0 on. -/
def Bytes0 (C : Array Value) (l : List UInt8) : Prop := ∀ (j : Nat) (x : UInt8), l[j]? = some x → C[j]? = some (.int .u8 x.toNat)
theorem fmt10_calls (b cap u : Nat) (w : World) (c : Array Value) (e : TypeId) (hb : w.heap[b]? = some (.cells c e (0, 0))) (hu : u < 18446744073709551616) (hc : ∀ j, j < nDigits u → c[j]? = some (.int .u8 0)) :
    Calls Tryz.prog 126 #[.slice (some ⟨b, 0, none⟩) (nDigits u) cap, .int .u64 u] w fun e' w' => e' = .returned (.tuple #[]) ∧ Below b w w' ∧ ∃ C, w'.heap[b]? = some (.cells C e (0, 0)) ∧ C.size = c.size ∧ Bytes0 C (decDigits u) := by
  have hsz : (Array.replicate (nDigits u) (0 : UInt8)).size = nDigits u := by simp
  have hH : Holds (fun (b : UInt8) => Value.int .u8 (b.toNat : Int)) w b 0 (Array.replicate (nDigits u) (0 : UInt8)) := fun j hj => by
    have hj' : j < nDigits u := by simpa using hj
    refine ⟨?_, by simp [World.frozen?, hb]⟩
    rw [getElem!_pos _ j hj]
    have := hc j hj'
    simp [World.cell?, hb, this]
  have h := Tryz.internal_strconv_formatBase10 b 0 cap u (Array.replicate (nDigits u) (0 : UInt8)) w hH (by rw [hsz]; exact lt_pow_nDigits u) hu (by rw [hsz]; have := nDigits_le20 u hu; omega)
  rw [hsz] at h
  refine h.mono ?_
  rintro e' w' ⟨rfl, n, v', dk, rfl, hI⟩
  refine ⟨rfl, below_putRow _ _ _ _, _, heap_putRow hb dk n, by simp [putCells], fun j x hx => ?_⟩
  have hj : j < (decDigits u).length := by
    rcases Nat.lt_or_ge j (decDigits u).length with h' | h'
    · exact h'
    · rw [List.getElem?_eq_none h'] at hx; cases hx
  have hjn : j < nDigits u := by rw [decDigits_length] at hj; exact hj
  have hcj := hc j hjn
  have hcl : j < c.size := by
    rcases Nat.lt_or_ge j c.size with h' | h'
    · exact h'
    · rw [Array.getElem?_eq_none h'] at hcj; cases hcj
  have hr := row_is_numeral hI j hj
  rw [List.getElem?_eq_getElem hj] at hx
  obtain rfl := Option.some.inj hx
  rw [hr]
  simp [putCells, hI.size, hjn, hcl]

/-- How many digits there are without the zeros at the end. -/
def zs (l : List UInt8) : Nat → Nat
  | 0 => 0
  | n + 1 => if l[n]? = some 48 then zs l n else n + 1
set_option maxRecDepth 10000 in
set_option maxHeartbeats 1000000 in
theorem setDigits_calls (b u : Nat) (p : Int) (w : World) (c : Array Value) (e : TypeId) (hb : w.heap[b]? = some (.cells c e (0, 0))) (hu : u < 18446744073709551616) (hcs : c.size = 32) (hc : ∀ j, j < 32 → c[j]? = some (.int .u8 0)) (hp0 : -100000 ≤ p) (hp1 : p ≤ 100000) :
    Calls Tryz.prog 153 #[.slice (some ⟨b, 0, none⟩) 32 32, .int .u64 u, .int .i64 p, .int .i64 (nDigits u)] w fun e' w' => e' = .returned (.tuple #[.int .i64 (nDigits u + p), .int .i64 (zs (decDigits u) (nDigits u))]) ∧ Below b w w' ∧ ∃ C, w'.heap[b]? = some (.cells C e (0, 0)) ∧ Bytes0 C (decDigits u) := by
  have hn20 := nDigits_le20 u hu
  have hlen := decDigits_length u
  have HF := Lib.hid (fmt10_calls b 32 u w c e hb hu fun j hj => hc j (by omega))
  generalize nDigits u = n at *
  generalize decDigits u = L at *
  clear hc hb
  have hn32 : decide ((n : Int) ≤ 32) = true := by simp; omega
  go_enter Tryz.func153, Tryz.ntmps153
  go_wp2_with (first | (go_at_call 126; refine HF.out.mono ?_; rintro e' w2 ⟨rfl, hbw, C, hC, hCs, hB⟩))
  have HB := Lib.hid hB
  have HC := Lib.hid hC
  have HBW := Lib.hid hbw
  clear hB hC hbw
  go_loopg [3] n (fun g j wx => w2 = wx ∧ ∃ k : Nat, k ≤ n ∧ k = g ∧ j = .int .i64 k ∧ Hid (zs L n = zs L k))
  case atStart => exact ⟨rfl, n, Nat.le_refl _, rfl, rfl, Lib.hid rfl⟩
  case round =>
    obtain ⟨rfl, k, hk, hg, rfl, hl⟩ := hrel
    subst hg
    cases k with
    | zero =>
      have hz : zs L 0 = 0 := rfl
      have hl' := hl.out
      rw [hz] at hl'
      go_wp2
      go_ret2
      rw [hl']
      exact ⟨rfl, HBW.out, C, HC.out, HB.out⟩
    | succ k =>
      have hkl : k < L.length := by omega
      obtain ⟨x, hx⟩ : ∃ x : UInt8, L[k]? = some x := ⟨L[k], List.getElem?_eq_getElem hkl⟩
      have hcell : w2.cell? ⟨b, k, none⟩ = some (.int .u8 x.toNat) := by
        have := HB.out k x hx
        simp [World.cell?, HC.out, this]
      by_cases h48 : x = 48
      · subst h48
        have hz : zs L (k + 1) = zs L k := by rw [zs, if_pos hx]
        have hl' := hl.out
        rw [hz] at hl'
        have HL' := Lib.hid hl'
        clear hl hl' hz hx
        go_wp2
        go_roundg k
        case measure => omega
        case rel => exact ⟨rfl, k, by omega, rfl, by go_num, HL'⟩
      · have hz : zs L (k + 1) = k + 1 := by rw [zs, if_neg (by rw [hx]; simpa using h48)]
        have hl' := hl.out
        rw [hz] at hl'
        have hne : ((x.toNat : Int) == 48) = false := eq_i 48 h48
        clear hl hz hx
        go_wp2
        go_ret2
        rw [hl']
        exact ⟨rfl, HBW.out, C, HC.out, HB.out⟩
end Go.Proofs.YtghajgdiaopioaaGreatDoor

/- Walks: a point's text is read, and the point appended to a captured line. -/
namespace Go.Proofs.YtghajgdiaopioaaGreatDoor
open Go.RowKit
attribute [local go_sem] run_store_float run_store_iface run_store_nilIface

def ptCells (p : Pt) : List Value := [.float .f64 p.1, .float .f64 p.2]
def ptsCells (l : List Pt) : List Value := l.flatMap ptCells
theorem ptsCells_snoc (l : List Pt) (p : Pt) : ptsCells (l ++ [p]) = ptsCells l ++ ptCells p := by simp [ptsCells]
theorem info61 : (Tryz.prog.info? 61).map (fun i => (i.zero, i.size, i.bytes)) = some (some (.agg #[.float .f64 0, .float .f64 0]), 2, 16) := by kernel_rfl

theorem own_slice {w : World} {base : Nat} {e : TypeId} {size : Nat} {v : Value} {n : Nat} {xs : List Value} (h : w.ownsRow base e size v n xs) : ∃ ao cap, v = .slice ao n cap := by
  rcases h.2 with ⟨rfl, rfl⟩ | ⟨g, cap, cu, rfl, _⟩
  · exact ⟨none, 0, rfl⟩
  · exact ⟨_, cap, rfl⟩

/-- One point more, or (none) an error. -/
def PtStep (G : Errs) (pts : List Pt) (p : List UInt8) (r : Option (List Pt)) : Prop := pts.length < 1000000 ∧ ∃ o, PtReads G p o ∧ r = o.map fun q => pts ++ [q]

/-- The captured line (block b, type T) holds these points; of what there was nothing has turned. -/
def PtInv (G : Errs) (w0 : World) (b : Nat) (T : TypeId) (pts : List Pt) (w : World) : Prop :=
  Env G w0 ∧ Bel w0 w ∧ w0.heap.size ≤ b ∧ ∃ v, w.heap[b]? = some (Obj.cells #[v] T (0, 0)) ∧ w.ownsRow w0.heap.size 61 2 v pts.length (ptsCells pts)

theorem ownsRow_setOther {w : World} {base : Nat} {e : TypeId} {size : Nat} {v : Value} {n : Nat} {xs : List Value} (h : w.ownsRow base e size v n xs) {a : Addr} (ha : some a.block ≠ v.ownBlock) (u : Value) : (w.setCell a u).ownsRow base e size v n xs := by
  obtain ⟨h1, h2⟩ := h
  refine ⟨h1, ?_⟩
  rcases h2 with h2 | ⟨g, cap, cur, rfl, hg, hh, r⟩
  · exact Or.inl h2
  · exact Or.inr ⟨g, cap, cur, rfl, hg, by rw [Below.heap_setCell _ _ _ _ (fun e => ha (by rw [e]; rfl))]; exact hh, r⟩
theorem heap_setOne {w : World} {b : Nat} {v u : Value} {T : TypeId} (h : w.heap[b]? = some (Obj.cells #[v] T (0, 0))) : (w.setCell ⟨b, 0, none⟩ u).heap[b]? = some (Obj.cells #[u] T (0, 0)) := by
  simp [World.setCell, Array.getElem?_modify, h]

set_option maxHeartbeats 2000000 in
theorem ptStep80_calls (G : Errs) (w0 : World) (b : Nat) (pts : List Pt) (l : List UInt8) (r : Option (List Pt)) (w : World) (hr : PtStep G pts l r) (hI : PtInv G w0 b 65 pts w) (hs : l.length ≤ 1000000000) :
    Calls Tryz.prog 80 #[.string (ofL l), .pointer (some ⟨b, 0, none⟩)] w (Ends G.n (PtInv G w0 b 65) (Bel w0) r) := by
  obtain ⟨i0, hi, hz0, hz1, hz2⟩ := info_parts info61
  obtain ⟨hlen, o, ho, rfl⟩ := hr
  obtain ⟨hE, hbel, hb, v, hv, hown⟩ := hI
  have hpp := pp_calls G l o w hs (hE.bel hbel) ho
  cases o with
  | none =>
    simp only [ppV] at hpp
    have HPP := Lib.hid hpp
    have HBEL := Lib.hid hbel
    clear hpp hbel hE hown hv ho
    show Calls Tryz.prog 80 _ w (Ends G.n (PtInv G w0 b 65) (Bel w0) none)
    go_enter Tryz.func80, Tryz.ntmps80
    go_wp2_with (go_at_call 76; refine HPP.out.mono ?_; rintro e w1 ⟨rfl, b1⟩; refine Hid.out ?_)
    refine Lib.hid ?_
    have B1 := Lib.hid b1
    clear b1
    go_wp2
    go_ret
    exact ⟨rfl, HBEL.out.tr (B1.out.tr (Bel.al _ _))⟩
  | some q =>
    obtain ⟨x, y⟩ := q
    simp only [ppV] at hpp
    have HPP := Lib.hid hpp
    have HBEL := Lib.hid hbel
    have HOWN := Lib.hid hown
    have HV := Lib.hid hv
    have HE := Lib.hid hE
    clear hpp hbel hE hown hv ho
    show Calls Tryz.prog 80 _ w (Ends G.n (PtInv G w0 b 65) (Bel w0) (some (pts ++ [(x, y)])))
    have hbw := lt_heap HV.out
    go_enter Tryz.func80, Tryz.ntmps80
    go_wp2_with (go_at_call 76; refine HPP.out.mono ?_; rintro e w1 ⟨rfl, b1⟩; refine Hid.out ?_)
    refine Lib.hid ?_
    have hsz := b1.size
    have HV1 := Lib.hid (b1.heap HV.out)
    have HOWN1 := Lib.hid (show w1.ownsRow w0.heap.size 61 2 v pts.length (ptsCells pts) from HOWN.out.kept (row := none) ⟨b1.os, b1.tape, b1.output, b1.size, fun k hk _ => b1.block k hk⟩ (by
      rcases v with _ | _ | _ | _ | _ | _ | ⟨a, _, _⟩ | _ | _ | _ | _ | _ | _ | _ | _ <;> first | exact Or.inl rfl | (cases a <;> first | exact Or.inl rfl | exact Or.inr (by simp [Value.ownBlock]))))
    have B1 := Lib.hid (HBEL.out.tr b1)
    clear b1
    have c1 : w1.cell? ⟨b, 0, none⟩ = some v := by simp [World.cell?, HV1.out]
    have f1 : w1.frozen? ⟨b, 0, none⟩ = false := by simp [World.frozen?, HV1.out]
    have hbw1 := lt_heap HV1.out
    go_wp2_with (at_builtin; refine wpList_append1 _ [.float .f64 x, .float .f64 y] 61 rfl (.tmp 14) (.tmp 16) 65 rfl w0.heap.size i0 (.agg #[.float .f64 0, .float .f64 0]) 2 16 Tryz.underlying65 hi hz0 hz1 hz2 rfl (by decide) _ pts.length (ptsCells pts) rfl (HOWN1.out.alloc _) _ _ rfl (by simp) rfl ?_ ?_ ?_ ?_ ?_)
    · intro u hu
      simp at hu
      rcases hu with rfl | rfl <;> rfl
    · omega
    · unfold maxLen; omega
    · have := B1.out.size; simp; omega
    · intro v' w2 h2 h3
      have hv2 := grown_heap h3 ((Bel.al _ _).heap HV1.out) (own_ne HOWN1.out HV1.out (by decide))
      have H2 := Lib.hid h2
      have B2 := Lib.hid (show Bel w0 w2 from B1.out.trans (Below.grown ((Below.refl _ _).alloc B1.out.size _) h3 (by have := B1.out.size; simp; omega) (fun k hk => (HOWN1.out.lt k hk).1)))
      have HV2 := Lib.hid hv2
      have c2 : w2.cell? ⟨b, 0, none⟩ = some v := by simp [World.cell?, hv2]
      have f2 : w2.frozen? ⟨b, 0, none⟩ = false := by simp [World.frozen?, hv2]
      have hbw2 := lt_heap hv2
      obtain ⟨ao, cap, rfl⟩ := own_slice h2
      clear h2 h3 hv2 c1 f1
      go_wp2
      go_ret
      refine ⟨rfl, HE.out, B2.out.setCell hb _, hb, _, heap_setOne HV2.out, ?_⟩
      rw [List.length_append, ptsCells_snoc]
      exact ownsRow_setOther H2.out (own_ne H2.out HV2.out (by decide)) _

set_option maxHeartbeats 2000000 in
theorem ptStep84_calls (G : Errs) (w0 : World) (b : Nat) (pts : List Pt) (l : List UInt8) (r : Option (List Pt)) (w : World) (hr : PtStep G pts l r) (hI : PtInv G w0 b 117 pts w) (hs : l.length ≤ 1000000000) :
    Calls Tryz.prog 84 #[.string (ofL l), .pointer (some ⟨b, 0, none⟩)] w (Ends G.n (PtInv G w0 b 117) (Bel w0) r) := by
  obtain ⟨i0, hi, hz0, hz1, hz2⟩ := info_parts info61
  obtain ⟨hlen, o, ho, rfl⟩ := hr
  obtain ⟨hE, hbel, hb, v, hv, hown⟩ := hI
  have hpp := pp_calls G l o w hs (hE.bel hbel) ho
  cases o with
  | none =>
    simp only [ppV] at hpp
    have HPP := Lib.hid hpp
    have HBEL := Lib.hid hbel
    clear hpp hbel hE hown hv ho
    show Calls Tryz.prog 84 _ w (Ends G.n (PtInv G w0 b 117) (Bel w0) none)
    go_enter Tryz.func84, Tryz.ntmps84
    go_wp2_with (go_at_call 76; refine HPP.out.mono ?_; rintro e w1 ⟨rfl, b1⟩; refine Hid.out ?_)
    refine Lib.hid ?_
    have B1 := Lib.hid b1
    clear b1
    go_wp2
    go_ret
    exact ⟨rfl, HBEL.out.tr (B1.out.tr (Bel.al _ _))⟩
  | some q =>
    obtain ⟨x, y⟩ := q
    simp only [ppV] at hpp
    have HPP := Lib.hid hpp
    have HBEL := Lib.hid hbel
    have HOWN := Lib.hid hown
    have HV := Lib.hid hv
    have HE := Lib.hid hE
    clear hpp hbel hE hown hv ho
    show Calls Tryz.prog 84 _ w (Ends G.n (PtInv G w0 b 117) (Bel w0) (some (pts ++ [(x, y)])))
    have hbw := lt_heap HV.out
    go_enter Tryz.func84, Tryz.ntmps84
    go_wp2_with (go_at_call 76; refine HPP.out.mono ?_; rintro e w1 ⟨rfl, b1⟩; refine Hid.out ?_)
    refine Lib.hid ?_
    have hsz := b1.size
    have HV1 := Lib.hid (b1.heap HV.out)
    have HOWN1 := Lib.hid (show w1.ownsRow w0.heap.size 61 2 v pts.length (ptsCells pts) from HOWN.out.kept (row := none) ⟨b1.os, b1.tape, b1.output, b1.size, fun k hk _ => b1.block k hk⟩ (by
      rcases v with _ | _ | _ | _ | _ | _ | ⟨a, _, _⟩ | _ | _ | _ | _ | _ | _ | _ | _ <;> first | exact Or.inl rfl | (cases a <;> first | exact Or.inl rfl | exact Or.inr (by simp [Value.ownBlock]))))
    have B1 := Lib.hid (HBEL.out.tr b1)
    clear b1
    have c1 : w1.cell? ⟨b, 0, none⟩ = some v := by simp [World.cell?, HV1.out]
    have f1 : w1.frozen? ⟨b, 0, none⟩ = false := by simp [World.frozen?, HV1.out]
    have hbw1 := lt_heap HV1.out
    go_wp2_with (at_builtin; refine wpList_append1 _ [.float .f64 x, .float .f64 y] 61 rfl (.tmp 14) (.tmp 16) 117 rfl w0.heap.size i0 (.agg #[.float .f64 0, .float .f64 0]) 2 16 Tryz.underlying117 hi hz0 hz1 hz2 rfl (by decide) _ pts.length (ptsCells pts) rfl (HOWN1.out.alloc _) _ _ rfl (by simp) rfl ?_ ?_ ?_ ?_ ?_)
    · intro u hu
      simp at hu
      rcases hu with rfl | rfl <;> rfl
    · omega
    · unfold maxLen; omega
    · have := B1.out.size; simp; omega
    · intro v' w2 h2 h3
      have hv2 := grown_heap h3 ((Bel.al _ _).heap HV1.out) (own_ne HOWN1.out HV1.out (by decide))
      have H2 := Lib.hid h2
      have B2 := Lib.hid (show Bel w0 w2 from B1.out.trans (Below.grown ((Below.refl _ _).alloc B1.out.size _) h3 (by have := B1.out.size; simp; omega) (fun k hk => (HOWN1.out.lt k hk).1)))
      have HV2 := Lib.hid hv2
      have c2 : w2.cell? ⟨b, 0, none⟩ = some v := by simp [World.cell?, hv2]
      have f2 : w2.frozen? ⟨b, 0, none⟩ = false := by simp [World.frozen?, hv2]
      have hbw2 := lt_heap hv2
      obtain ⟨ao, cap, rfl⟩ := own_slice h2
      clear h2 h3 hv2 c1 f1
      go_wp2
      go_ret
      refine ⟨rfl, HE.out, B2.out.setCell hb _, hb, _, heap_setOne HV2.out, ?_⟩
      rw [List.length_append, ptsCells_snoc]
      exact ownsRow_setOther H2.out (own_ne H2.out HV2.out (by decide)) _

set_option maxHeartbeats 2000000 in
theorem ptStep88_calls (G : Errs) (w0 : World) (b : Nat) (pts : List Pt) (l : List UInt8) (r : Option (List Pt)) (w : World) (hr : PtStep G pts l r) (hI : PtInv G w0 b 65 pts w) (hs : l.length ≤ 1000000000) :
    Calls Tryz.prog 88 #[.string (ofL l), .pointer (some ⟨b, 0, none⟩)] w (Ends G.n (PtInv G w0 b 65) (Bel w0) r) := by
  obtain ⟨i0, hi, hz0, hz1, hz2⟩ := info_parts info61
  obtain ⟨hlen, o, ho, rfl⟩ := hr
  obtain ⟨hE, hbel, hb, v, hv, hown⟩ := hI
  have hpp := pp_calls G l o w hs (hE.bel hbel) ho
  cases o with
  | none =>
    simp only [ppV] at hpp
    have HPP := Lib.hid hpp
    have HBEL := Lib.hid hbel
    clear hpp hbel hE hown hv ho
    show Calls Tryz.prog 88 _ w (Ends G.n (PtInv G w0 b 65) (Bel w0) none)
    go_enter Tryz.func88, Tryz.ntmps88
    go_wp2_with (go_at_call 76; refine HPP.out.mono ?_; rintro e w1 ⟨rfl, b1⟩; refine Hid.out ?_)
    refine Lib.hid ?_
    have B1 := Lib.hid b1
    clear b1
    go_wp2
    go_ret
    exact ⟨rfl, HBEL.out.tr (B1.out.tr (Bel.al _ _))⟩
  | some q =>
    obtain ⟨x, y⟩ := q
    simp only [ppV] at hpp
    have HPP := Lib.hid hpp
    have HBEL := Lib.hid hbel
    have HOWN := Lib.hid hown
    have HV := Lib.hid hv
    have HE := Lib.hid hE
    clear hpp hbel hE hown hv ho
    show Calls Tryz.prog 88 _ w (Ends G.n (PtInv G w0 b 65) (Bel w0) (some (pts ++ [(x, y)])))
    have hbw := lt_heap HV.out
    go_enter Tryz.func88, Tryz.ntmps88
    go_wp2_with (go_at_call 76; refine HPP.out.mono ?_; rintro e w1 ⟨rfl, b1⟩; refine Hid.out ?_)
    refine Lib.hid ?_
    have hsz := b1.size
    have HV1 := Lib.hid (b1.heap HV.out)
    have HOWN1 := Lib.hid (show w1.ownsRow w0.heap.size 61 2 v pts.length (ptsCells pts) from HOWN.out.kept (row := none) ⟨b1.os, b1.tape, b1.output, b1.size, fun k hk _ => b1.block k hk⟩ (by
      rcases v with _ | _ | _ | _ | _ | _ | ⟨a, _, _⟩ | _ | _ | _ | _ | _ | _ | _ | _ <;> first | exact Or.inl rfl | (cases a <;> first | exact Or.inl rfl | exact Or.inr (by simp [Value.ownBlock]))))
    have B1 := Lib.hid (HBEL.out.tr b1)
    clear b1
    have c1 : w1.cell? ⟨b, 0, none⟩ = some v := by simp [World.cell?, HV1.out]
    have f1 : w1.frozen? ⟨b, 0, none⟩ = false := by simp [World.frozen?, HV1.out]
    have hbw1 := lt_heap HV1.out
    go_wp2_with (at_builtin; refine wpList_append1 _ [.float .f64 x, .float .f64 y] 61 rfl (.tmp 14) (.tmp 16) 65 rfl w0.heap.size i0 (.agg #[.float .f64 0, .float .f64 0]) 2 16 Tryz.underlying65 hi hz0 hz1 hz2 rfl (by decide) _ pts.length (ptsCells pts) rfl (HOWN1.out.alloc _) _ _ rfl (by simp) rfl ?_ ?_ ?_ ?_ ?_)
    · intro u hu
      simp at hu
      rcases hu with rfl | rfl <;> rfl
    · omega
    · unfold maxLen; omega
    · have := B1.out.size; simp; omega
    · intro v' w2 h2 h3
      have hv2 := grown_heap h3 ((Bel.al _ _).heap HV1.out) (own_ne HOWN1.out HV1.out (by decide))
      have H2 := Lib.hid h2
      have B2 := Lib.hid (show Bel w0 w2 from B1.out.trans (Below.grown ((Below.refl _ _).alloc B1.out.size _) h3 (by have := B1.out.size; simp; omega) (fun k hk => (HOWN1.out.lt k hk).1)))
      have HV2 := Lib.hid hv2
      have c2 : w2.cell? ⟨b, 0, none⟩ = some v := by simp [World.cell?, hv2]
      have f2 : w2.frozen? ⟨b, 0, none⟩ = false := by simp [World.frozen?, hv2]
      have hbw2 := lt_heap hv2
      obtain ⟨ao, cap, rfl⟩ := own_slice h2
      clear h2 h3 hv2 c1 f1
      go_wp2
      go_ret
      refine ⟨rfl, HE.out, B2.out.setCell hb _, hb, _, heap_setOne HV2.out, ?_⟩
      rw [List.length_append, ptsCells_snoc]
      exact ownsRow_setOther H2.out (own_ne H2.out HV2.out (by decide)) _

set_option maxHeartbeats 2000000 in
theorem ptStep93_calls (G : Errs) (w0 : World) (b : Nat) (pts : List Pt) (l : List UInt8) (r : Option (List Pt)) (w : World) (hr : PtStep G pts l r) (hI : PtInv G w0 b 117 pts w) (hs : l.length ≤ 1000000000) :
    Calls Tryz.prog 93 #[.string (ofL l), .pointer (some ⟨b, 0, none⟩)] w (Ends G.n (PtInv G w0 b 117) (Bel w0) r) := by
  obtain ⟨i0, hi, hz0, hz1, hz2⟩ := info_parts info61
  obtain ⟨hlen, o, ho, rfl⟩ := hr
  obtain ⟨hE, hbel, hb, v, hv, hown⟩ := hI
  have hpp := pp_calls G l o w hs (hE.bel hbel) ho
  cases o with
  | none =>
    simp only [ppV] at hpp
    have HPP := Lib.hid hpp
    have HBEL := Lib.hid hbel
    clear hpp hbel hE hown hv ho
    show Calls Tryz.prog 93 _ w (Ends G.n (PtInv G w0 b 117) (Bel w0) none)
    go_enter Tryz.func93, Tryz.ntmps93
    go_wp2_with (go_at_call 76; refine HPP.out.mono ?_; rintro e w1 ⟨rfl, b1⟩; refine Hid.out ?_)
    refine Lib.hid ?_
    have B1 := Lib.hid b1
    clear b1
    go_wp2
    go_ret
    exact ⟨rfl, HBEL.out.tr (B1.out.tr (Bel.al _ _))⟩
  | some q =>
    obtain ⟨x, y⟩ := q
    simp only [ppV] at hpp
    have HPP := Lib.hid hpp
    have HBEL := Lib.hid hbel
    have HOWN := Lib.hid hown
    have HV := Lib.hid hv
    have HE := Lib.hid hE
    clear hpp hbel hE hown hv ho
    show Calls Tryz.prog 93 _ w (Ends G.n (PtInv G w0 b 117) (Bel w0) (some (pts ++ [(x, y)])))
    have hbw := lt_heap HV.out
    go_enter Tryz.func93, Tryz.ntmps93
    go_wp2_with (go_at_call 76; refine HPP.out.mono ?_; rintro e w1 ⟨rfl, b1⟩; refine Hid.out ?_)
    refine Lib.hid ?_
    have hsz := b1.size
    have HV1 := Lib.hid (b1.heap HV.out)
    have HOWN1 := Lib.hid (show w1.ownsRow w0.heap.size 61 2 v pts.length (ptsCells pts) from HOWN.out.kept (row := none) ⟨b1.os, b1.tape, b1.output, b1.size, fun k hk _ => b1.block k hk⟩ (by
      rcases v with _ | _ | _ | _ | _ | _ | ⟨a, _, _⟩ | _ | _ | _ | _ | _ | _ | _ | _ <;> first | exact Or.inl rfl | (cases a <;> first | exact Or.inl rfl | exact Or.inr (by simp [Value.ownBlock]))))
    have B1 := Lib.hid (HBEL.out.tr b1)
    clear b1
    have c1 : w1.cell? ⟨b, 0, none⟩ = some v := by simp [World.cell?, HV1.out]
    have f1 : w1.frozen? ⟨b, 0, none⟩ = false := by simp [World.frozen?, HV1.out]
    have hbw1 := lt_heap HV1.out
    go_wp2_with (at_builtin; refine wpList_append1 _ [.float .f64 x, .float .f64 y] 61 rfl (.tmp 14) (.tmp 16) 117 rfl w0.heap.size i0 (.agg #[.float .f64 0, .float .f64 0]) 2 16 Tryz.underlying117 hi hz0 hz1 hz2 rfl (by decide) _ pts.length (ptsCells pts) rfl (HOWN1.out.alloc _) _ _ rfl (by simp) rfl ?_ ?_ ?_ ?_ ?_)
    · intro u hu
      simp at hu
      rcases hu with rfl | rfl <;> rfl
    · omega
    · unfold maxLen; omega
    · have := B1.out.size; simp; omega
    · intro v' w2 h2 h3
      have hv2 := grown_heap h3 ((Bel.al _ _).heap HV1.out) (own_ne HOWN1.out HV1.out (by decide))
      have H2 := Lib.hid h2
      have B2 := Lib.hid (show Bel w0 w2 from B1.out.trans (Below.grown ((Below.refl _ _).alloc B1.out.size _) h3 (by have := B1.out.size; simp; omega) (fun k hk => (HOWN1.out.lt k hk).1)))
      have HV2 := Lib.hid hv2
      have c2 : w2.cell? ⟨b, 0, none⟩ = some v := by simp [World.cell?, hv2]
      have f2 : w2.frozen? ⟨b, 0, none⟩ = false := by simp [World.frozen?, hv2]
      have hbw2 := lt_heap hv2
      obtain ⟨ao, cap, rfl⟩ := own_slice h2
      clear h2 h3 hv2 c1 f1
      go_wp2
      go_ret
      refine ⟨rfl, HE.out, B2.out.setCell hb _, hb, _, heap_setOne HV2.out, ?_⟩
      rw [List.length_append, ptsCells_snoc]
      exact ownsRow_setOther H2.out (own_ne H2.out HV2.out (by decide)) _
end Go.Proofs.YtghajgdiaopioaaGreatDoor
