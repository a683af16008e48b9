/- Walks: a point's text with its word; the capital letters of a text's beginning. -/
import Derived.Lib.SlBytesConst
import Derived.Test.YtghajgdiaopioaaGreatDoorW11
set_option linter.unusedVariables false
set_option linter.unusedSimpArgs false

namespace Go.Proofs.YtghajgdiaopioaaGreatDoor
open Go.RowKit
attribute [local go_sem] run_store_float run_store_iface run_store_nilIface

def PointReads (G : Errs) (l : List UInt8) (o : Option Pt) : Prop := (brkL (l.drop 5) = none ∧ o = none) ∨ ∃ q, brkL (l.drop 5) = some q ∧ PtReads G q o

set_option maxHeartbeats 4000000 in
theorem point53_calls (G : Errs) (l : List UInt8) (o : Option Pt) (w : World) (hE : Env G w) (hs : l.length ≤ 1000000000) (hn : 5 ≤ l.length) (h : PointReads G l o) :
    Calls Tryz.prog 53 #[.string (ofL l)] w fun e w' => e = .returned (ppV G.n o) ∧ Bel w w' := by
  have hsz := ofL_size l
  have hex := ofL_from l 5
  have hd : (l.drop 5).length ≤ l.length := by rw [List.length_drop]; omega
  have hle : (5 : Int) ≤ ((ofL l).size : Int) := by omega
  rw [← hsz] at hex
  rcases h with ⟨hbk, rfl⟩ | ⟨q, hbk, hpt⟩
  · have HB := Lib.hid (fun wx hx => brk_err (ofL (l.drop 5)) wx (by rw [ofL_size]; omega) (errV G.n) hx (by rw [toL_ofL]; exact hbk))
    have HE := Lib.hid hE
    clear hbk hE
    generalize ofL (l.drop 5) = y at *
    generalize ofL l = s at *
    clear hsz
    simp only [ppV]
    go_enter Tryz.func53, Tryz.ntmps53
    go_wp2_with fail
    refine (HB.out _ ((Bel.al _ _).cellOf HE.out.eN)).mono ?_
    rintro e w1 ⟨rfl, n, rfl⟩
    have b1 : Bel w ((w.alloc (.cells #[.float .f64 0, .float .f64 0] 61)).drewN n) := (Bel.al _ _).tr (Bel.dr _ _)
    have hb1 : ((w.alloc (.cells #[.float .f64 0, .float .f64 0] 61)).drewN n).heap[w.heap.size]? = some (Obj.cells #[.float .f64 0, .float .f64 0] 61 (0, 0)) := heap_alloc_new w _
    generalize (w.alloc (.cells #[.float .f64 0, .float .f64 0] 61)).drewN n = w1 at *
    have q0 : w1.cell? ⟨w.heap.size, 0, none⟩ = some (.float .f64 0) := by simp [World.cell?, hb1]
    have q1 : w1.cell? ⟨w.heap.size, 1, none⟩ = some (.float .f64 0) := by simp [World.cell?, hb1]
    have f0 : w1.frozen? ⟨w.heap.size, 0, none⟩ = false := by simp [World.frozen?, hb1]
    have f1 : w1.frozen? ⟨w.heap.size, 1, none⟩ = false := by simp [World.frozen?, hb1]
    have B1 := Lib.hid b1
    clear b1 hb1
    go_wp2
    (try simp only [Exit.inBlock, Exit.then])
    refine bodyPost_ret (v := .tuple #[.agg #[.float .f64 0, .float .f64 0], errV G.n]) ?_ rfl ⟨rfl, ?_⟩
    · simp [results, Tryz.results53, go_sem, q0, q1]
    · exact (B1.out.setCell (Nat.le_refl _) _).setCell (Nat.le_refl _) _
  · have hql := brkL_le hbk
    have HB := Lib.hid (fun wx => brk_ok (ofL (l.drop 5)) wx (by rw [ofL_size]; omega) q (by rw [toL_ofL]; exact hbk))
    have HP := Lib.hid (fun wx hx => pp_calls G q o wx (by omega) hx hpt)
    have HE := Lib.hid hE
    clear hbk hE hpt
    generalize ofL (l.drop 5) = y at *
    generalize ofL l = s at *
    clear hsz
    go_enter Tryz.func53, Tryz.ntmps53
    go_wp2_with fail
    refine (HB.out _).mono ?_
    rintro e w1 ⟨rfl, rfl⟩
    have b1 : Bel w (w.alloc (.cells #[.float .f64 0, .float .f64 0] 61)) := Bel.al _ _
    have hb1 : (w.alloc (.cells #[.float .f64 0, .float .f64 0] 61)).heap[w.heap.size]? = some (Obj.cells #[.float .f64 0, .float .f64 0] 61 (0, 0)) := heap_alloc_new w _
    have B1 := Lib.hid b1
    have HB1 := Lib.hid hb1
    clear b1 hb1
    generalize w.alloc (.cells #[.float .f64 0, .float .f64 0] 61) = w1 at *
    go_wp2_with fail
    refine (HP.out w1 (HE.out.bel B1.out)).mono ?_
    rintro e w2 ⟨he, b2⟩
    subst he
    have hb2 := b2.heap HB1.out
    have q0 : w2.cell? ⟨w.heap.size, 0, none⟩ = some (.float .f64 0) := by simp [World.cell?, hb2]
    have q1 : w2.cell? ⟨w.heap.size, 1, none⟩ = some (.float .f64 0) := by simp [World.cell?, hb2]
    have f0 : w2.frozen? ⟨w.heap.size, 0, none⟩ = false := by simp [World.frozen?, hb2]
    have f1 : w2.frozen? ⟨w.heap.size, 1, none⟩ = false := by simp [World.frozen?, hb2]
    have hlt := lt_heap hb2
    have B2 := Lib.hid (B1.out.tr b2)
    clear b2 hb2
    cases o with
    | none =>
      simp only [ppV]
      go_wp2
      (try simp only [Exit.inBlock, Exit.then])
      refine bodyPost_ret (v := .tuple #[.agg #[.float .f64 0, .float .f64 0], errV G.n]) ?_ rfl ⟨rfl, ?_⟩
      · simp [results, Tryz.results53, go_sem, q0, q1, hlt]
      · exact ((B2.out.setCell (Nat.le_refl _) _).setCell (Nat.le_refl _) _).alloc (by simp; omega) _
    | some p =>
      obtain ⟨x, y2⟩ := p
      simp only [ppV]
      go_wp2
      (try simp only [Exit.inBlock, Exit.then])
      refine bodyPost_ret (v := .tuple #[.agg #[.float .f64 x, .float .f64 y2], .nilIface]) ?_ rfl ⟨rfl, ?_⟩
      · simp [results, Tryz.results53, go_sem, q0, q1, hlt]
      · exact ((B2.out.setCell (Nat.le_refl _) _).setCell (Nat.le_refl _) _).alloc (by simp; omega) _

/-- A letter as a capital one. -/
def upI (c : Int) : Int := if 97 ≤ c ∧ c ≤ 122 then c - 32 else c
def ups (l : List UInt8) (k : Nat) : List Int := (l.take (min k 20)).map (fun c => upI c.toNat) ++ List.replicate (20 - min (min k 20) l.length) 0
theorem ups_length (l : List UInt8) (k : Nat) : (ups l k).length = 20 := by
  unfold ups; rw [List.length_append, List.length_map, List.length_take, List.length_replicate]; omega
end Go.Proofs.YtghajgdiaopioaaGreatDoor

/- Walks: the capital letters of a text's beginning, and whether they begin with a word. -/
namespace Go.Proofs.YtghajgdiaopioaaGreatDoor
open Go.RowKit
attribute [local go_sem] run_store_float run_store_iface run_store_nilIface

theorem ups_step (l : List UInt8) (k : Nat) (hk : k < 20) (hl : k < l.length) : ups l (k + 1) = (ups l k).set k (upI (l[k].toNat)) := by
  unfold ups
  rw [Nat.min_eq_left (by omega : k + 1 ≤ 20), Nat.min_eq_left (by omega : k ≤ 20), Nat.min_eq_left (by omega : k + 1 ≤ l.length), Nat.min_eq_left (by omega : k ≤ l.length)]
  rw [List.take_succ_eq_append_getElem hl, List.map_append, List.append_assoc]
  rw [List.set_append_right _ _ (by rw [List.length_map, List.length_take]; omega)]
  congr 1
  rw [List.length_map, List.length_take, Nat.min_eq_left (by omega), Nat.sub_self]
  rw [show 20 - k = (20 - (k + 1)) + 1 from by omega, List.replicate_succ]
  rfl
theorem ups_end (l : List UInt8) (k : Nat) (h : k = 20 ∨ (k ≤ 20 ∧ k = l.length)) : ups l k = ups l 20 := by
  rcases h with rfl | ⟨h1, rfl⟩
  · rfl
  · unfold ups
    rw [Nat.min_eq_left h1, Nat.min_self, Nat.min_self]
    rw [show (l.take 20) = l from List.take_of_length_le h1, show l.take l.length = l from List.take_length]
    rw [Nat.min_eq_right h1]
theorem u8_sub32 (c : UInt8) (h : 97 ≤ (c.toNat : Int)) (h2 : (c.toNat : Int) ≤ 122) : upI c.toNat = (c.toNat : Int) - 32 := by unfold upI; rw [if_pos ⟨h, h2⟩]
theorem u8_same (c : UInt8) (h : ¬ (97 ≤ (c.toNat : Int) ∧ (c.toNat : Int) ≤ 122)) : upI c.toNat = c.toNat := by unfold upI; rw [if_neg h]

set_option maxRecDepth 4096 in
set_option maxHeartbeats 4000000 in
theorem upper_calls (s : ByteArray) (w : World) (hs : s.size ≤ 1000000000) :
    Calls Tryz.prog 51 #[.string s] w fun e w' => e = .returned (.slice (some ⟨w.heap.size, 0, none⟩) 20 20) ∧ w'.heap[w.heap.size]? = some (Obj.cells ((ups (toL s) 20).map (Value.int .u8)).toArray 5 (0, 0)) ∧ Bel w w' := by
  have hmk : ∀ w, (Instr.makeSlice 92 (.int .i64 20) (.int .i64 20)).run Tryz.prog w = .ok (.slice (some ⟨w.heap.size, 0, none⟩) 20 20) (w.alloc (.cells #[.int .u8 0, .int .u8 0, .int .u8 0, .int .u8 0, .int .u8 0, .int .u8 0, .int .u8 0, .int .u8 0, .int .u8 0, .int .u8 0, .int .u8 0, .int .u8 0, .int .u8 0, .int .u8 0, .int .u8 0, .int .u8 0, .int .u8 0, .int .u8 0, .int .u8 0, .int .u8 0] 5)) := fun _ => by kernel_rfl
  go_enter Tryz.func51, Tryz.ntmps51
  go_wp2_with fail
  clear hmk
  go_loopg [4] 20 (fun g i wr => ∃ (k : Nat), k ≤ 20 ∧ k ≤ s.size ∧ g = 20 - k ∧ i = .int .i64 k ∧ wr.heap[w.heap.size]? = some (Obj.cells ((ups (toL s) k).map (Value.int .u8)).toArray 5 (0, 0)) ∧ Bel w wr)
  case atStart => exact ⟨0, by omega, by omega, rfl, rfl, heap_alloc_new w _, Bel.al _ _⟩
  case round =>
    obtain ⟨k, hk1, hk2, rfl, rfl, hb, hbel⟩ := hrel
    by_cases hlt : k < 20 ∧ k < s.size
    · obtain ⟨hl1, hl2⟩ := hlt
      obtain ⟨x, hx⟩ : ∃ x : UInt8, s[k] = x := ⟨_, rfl⟩
      have hst := ups_step (toL s) k hl1 (by rw [toL_length]; exact hl2)
      rw [toL_get s k hl2, hx] at hst
      have hul := ups_length (toL s) k
      generalize ups (toL s) k = U at *
      have c0 : ∃ v, wr.cell? ⟨w.heap.size, k, none⟩ = some v := ⟨.int .u8 (U[k]'(by omega)), by simp [World.cell?, hb, hul, hl1]⟩
      obtain ⟨v0, c0⟩ := c0
      have f0 : wr.frozen? ⟨w.heap.size, k, none⟩ = false := by simp [World.frozen?, hb]
      have HB := Lib.hid hb
      have HBEL := Lib.hid hbel
      have HST := Lib.hid hst
      have hx256 : (x.toNat : Int) < 256 := by have := x.toNat_lt; omega
      have HUL := Lib.hid hul
      clear hb hbel hst hul
      have hend : ∀ z : Int, upI x.toNat = z → (wr.setCell ⟨w.heap.size, k, none⟩ (.int .u8 z)).heap[w.heap.size]? = some (Obj.cells ((ups (toL s) (k + 1)).map (Value.int .u8)).toArray 5 (0, 0)) := by
        intro z hz
        rw [HST.out, hz]
        simp only [World.setCell, Array.getElem?_modify, HB.out]
        simp
      have HEND := Lib.hid hend
      clear hend
      by_cases h97 : 97 ≤ (x.toNat : Int)
      · by_cases h122 : (x.toNat : Int) ≤ 122
        · have HU := Lib.hid (u8_sub32 x h97 h122)
          go_wp2
          go_roundg (20 - (k + 1))
          case measure => omega
          case rel => exact ⟨k + 1, by omega, by omega, rfl, by go_num, HEND.out _ HU.out, HBEL.out.setCell (Nat.le_refl _) _⟩
        · have HU := Lib.hid (u8_same x (fun h => h122 h.2))
          have h3 : decide ((x.toNat : Int) ≤ 122) = false := by simpa using h122
          go_wp2
          go_roundg (20 - (k + 1))
          case measure => omega
          case rel => exact ⟨k + 1, by omega, by omega, rfl, by go_num, HEND.out _ HU.out, HBEL.out.setCell (Nat.le_refl _) _⟩
      · have HU := Lib.hid (u8_same x (fun h => h97 h.1))
        have h3 : decide (97 ≤ (x.toNat : Int)) = false := by simpa using h97
        go_wp2
        go_roundg (20 - (k + 1))
        case measure => omega
        case rel => exact ⟨k + 1, by omega, by omega, rfl, by go_num, HEND.out _ HU.out, HBEL.out.setCell (Nat.le_refl _) _⟩
    · have HE := Lib.hid (ups_end (toL s) k (by rw [toL_length]; omega))
      have HB := Lib.hid hb
      have HBEL := Lib.hid hbel
      clear hb hbel
      by_cases h20 : k < 20
      · obtain rfl : k = s.size := by omega
        have h4 : decide ((s.size : Int) < (s.size : Int)) = false := by simp
        go_wp2
        go_ret
        exact ⟨rfl, by rw [← HE.out]; exact HB.out, HBEL.out⟩
      · have h4 : decide ((k : Int) < 20) = false := by simp; omega
        go_wp2
        go_ret
        exact ⟨rfl, by rw [← HE.out]; exact HB.out, HBEL.out⟩

/-- Do the capital letters begin with this word? -/
def hasW (l : List UInt8) (word : List UInt8) : Bool := Lib.hasPrefix (Lib.bytesOf (ups l 20)) word

theorem hp_calls (l word : List UInt8) (p m : Nat) (wx : World) (C : Array Value) (hC : C = (word.map fun c => Value.int .u8 c.toNat).toArray) (hm : word.length = m)
    (hp : wx.heap[p]? = some (Obj.cells ((ups l 20).map (Value.int .u8)).toArray 5 (0, 0))) :
    Calls Tryz.prog 52 #[.slice (some ⟨p, 0, none⟩) 20 20, .slice (some ⟨wx.heap.size, 0, none⟩) m m] (wx.alloc (.cells C 5 (m, m + 1))) fun e w' => e = .returned (.bool (hasW l word)) ∧ Bel wx w' := by
  have hb : Lib.bytesOf (word.map fun c => (c.toNat : Int)) = word := by
    unfold Lib.bytesOf
    rw [List.map_map]
    conv => rhs; rw [← List.map_id word]
    refine List.map_congr_left fun c _ => ?_
    simp
  have hpl : p < wx.heap.size := lt_heap hp
  have hp' : (wx.alloc (.cells C 5 (m, m + 1))).heap[p]? = some (Obj.cells ((ups l 20).map (Value.int .u8)).toArray 5 (0, 0)) := (Bel.al _ _).heap hp
  have hc' : (wx.alloc (.cells C 5 (m, m + 1))).heap[wx.heap.size]? = some (Obj.cells C 5 (m, m + 1)) := heap_alloc_new wx _
  refine (Tryz.bytes_HasPrefix_all (some ⟨p, 0, none⟩) (some ⟨wx.heap.size, 0, none⟩) 20 20 m m (ups l 20) (word.map fun c => (c.toNat : Int)) _ (ups_length _ _) (by rw [List.length_map]; exact hm) (Nat.le_refl _) (Lib.BytesIn.of_cells fun i hi => ?_) (Lib.BytesIn.of_cells fun i hi => ?_)).mono ?_
  · rw [show (⟨p, 0, none⟩ : Addr).add i = ⟨p, i, none⟩ from by rw [Lib.addr_add, Nat.zero_add]]
    have := ups_length l 20
    simp [World.cell?, hp', this, hi]
  · rw [show (⟨wx.heap.size, 0, none⟩ : Addr).add i = ⟨wx.heap.size, i, none⟩ from by rw [Lib.addr_add, Nat.zero_add]]
    have hi' : i < word.length := by omega
    subst hC
    unfold World.cell?
    simp only [hc']
    simp [hi']
  · rintro e w' ⟨rfl, rfl⟩
    rw [hb]
    exact ⟨rfl, Bel.al _ _⟩
end Go.Proofs.YtghajgdiaopioaaGreatDoor
