/- Walks: SamePoints, SameShape of two that are the same. -/
import Derived.Test.YtghajgdiaopioaaGreatDoorW22
import Derived.Test.YtghajgdiaopioaaGreatDoorW25
set_option linter.unusedVariables false
set_option linter.unusedSimpArgs false

namespace Go.Proofs.YtghajgdiaopioaaGreatDoor
open Go.RowKit
attribute [local go_sem] run_store_float run_store_iface run_store_nilIface

theorem fb71 (x : Nat) (w : World) : (callFunc 71 #[.float .f64 x]).run Tryz.prog w = .ok (.value (.int .u64 x)) w := by
  rw [run_callFunc_extern (e := Extern.MathFloatBits.float64bits) Tryz.func71 (by kernel_rfl) (by kernel_rfl) (by kernel_rfl) (by kernel_rfl)]
  rfl
set_option maxRecDepth 10000 in
set_option maxHeartbeats 4000000 in
theorem sameBits_calls (x : Nat) (w : World) : Calls Tryz.prog 72 #[.float .f64 x, .float .f64 x] w fun e w' => e = .returned (.bool true) ∧ w = w' := by
  have hf := fb71 x
  go_enter Tryz.func72, Tryz.ntmps72
  go_wp2
  go_ret
  exact ⟨by simp, rfl⟩

set_option maxRecDepth 10000 in
set_option maxHeartbeats 8000000 in
theorem samePoints_calls (x y : Value) (l : List Pt) (w : World) (hx : PtsAt w x l) (hy : PtsAt w y l) (hs : l.length ≤ 1000000000) : Calls Tryz.prog 48 #[x, y] w fun e w' => e = .returned (.bool true) ∧ Bel w w' := by
  obtain ⟨ao, cap, rfl, -, hxc⟩ := hx
  obtain ⟨bo, cap2, rfl, -, hyc⟩ := hy
  have HX := Lib.hid hxc
  have HY := Lib.hid hyc
  clear hxc hyc
  go_enter Tryz.func48, Tryz.ntmps48
  go_wp2_with fail
  go_loopg [13] l.length (fun g s13 wr => ∃ (i : Nat), i ≤ l.length ∧ g = l.length - i ∧ s13 = .int .i64 i ∧ Bel w wr)
  case atStart => exact ⟨0, by omega, rfl, rfl, Below.refl _ _⟩
  case round =>
    obtain ⟨i, hi1, rfl, rfl, hbel⟩ := hrel
    by_cases hlt : i < l.length
    · obtain ⟨p, hp⟩ : ∃ p, l[i]? = some p := ⟨_, List.getElem?_eq_getElem hlt⟩
      obtain ⟨a, rfl, c0, c1⟩ := HX.out i p hp
      obtain ⟨b, rfl, d0, d1⟩ := HY.out i p hp
      have c0' := hbel.cellOf c0
      have c1' := hbel.cellOf c1
      have d0' := hbel.cellOf d0
      have d1' := hbel.cellOf d1
      obtain ⟨x1, x2⟩ := p
      have HBEL := Lib.hid hbel
      have hi0 : (0 : Int) ≤ (i : Int) := by omega
      have hi2 : (i : Int) < (l.length : Int) := by omega
      clear hbel c0 c1 d0 d1 hp
      go_wp2_with fail
      go_quiet (first | (go_at_call 72; exact Calls.quiet_of_same ((sameBits_calls _ _).mono fun _ _ h => ⟨h.1, h.2.symm⟩)))
      go_wp2
      go_roundg (l.length - (i + 1))
      case measure => omega
      case rel => exact ⟨i + 1, by omega, rfl, by go_num, HBEL.out.tr (Bel.dr _ _)⟩
    · obtain rfl : i = l.length := by omega
      have hkz : ¬ ((l.length : Int) < (l.length : Int)) := by omega
      go_wp2
      go_ret
      exact ⟨rfl, hbel⟩
end Go.Proofs.YtghajgdiaopioaaGreatDoor

/- Walks: the text of a float that is a whole number (136, 123, 110, 96). -/
namespace Go.Proofs.YtghajgdiaopioaaGreatDoor
open Go.RowKit

theorem fb148 (x : Nat) (w : World) : (callFunc 148 #[.float .f64 x]).run Tryz.prog w = .ok (.value (.int .u64 x)) w := by
  rw [run_callFunc_extern (e := Extern.MathFloatBits.float64bits) Tryz.func148 (by kernel_rfl) (by kernel_rfl) (by kernel_rfl) (by kernel_rfl)]
  rfl
def buf32 : Array Value := #[.int .u8 0, .int .u8 0, .int .u8 0, .int .u8 0, .int .u8 0, .int .u8 0, .int .u8 0, .int .u8 0, .int .u8 0, .int .u8 0, .int .u8 0, .int .u8 0, .int .u8 0, .int .u8 0, .int .u8 0, .int .u8 0, .int .u8 0, .int .u8 0, .int .u8 0, .int .u8 0, .int .u8 0, .int .u8 0, .int .u8 0, .int .u8 0, .int .u8 0, .int .u8 0, .int .u8 0, .int .u8 0, .int .u8 0, .int .u8 0, .int .u8 0, .int .u8 0]
theorem buf32_at : ∀ j, j < 32 → buf32[j]? = some (.int .u8 0) := by
  have : buf32 = Array.replicate 32 (.int .u8 0) := rfl
  intro j hj
  rw [this, Array.getElem?_replicate, if_pos hj]
theorem own_bel {w w' : World} {base : Nat} {e : TypeId} {size : Nat} {v : Value} {n : Nat} {xs : List Value} (h : w.ownsRow base e size v n xs) (hb : Bel w w') : w'.ownsRow base e size v n xs := by
  obtain ⟨h1, h2⟩ := h
  refine ⟨h1, ?_⟩
  rcases h2 with h2 | ⟨g, cap, cur, hv, hg, hh, r⟩
  · exact Or.inl h2
  · exact Or.inr ⟨g, cap, cur, hv, hg, hb.heap hh, r⟩
theorem own_lt {w : World} {base : Nat} {e : TypeId} {size : Nat} {v : Value} {n : Nat} {xs : List Value} (h : w.ownsRow base e size v n xs) : v.ownBlock ≠ some w.heap.size := by
  intro hc
  have := (h.lt _ hc).2
  omega
theorem numDigits_calls (u : Nat) (h1 : 1 ≤ u) (h2 : u < 18446744073709551616) (w : World) (htab : Lib.TabIs Tryz.prog w "internal/strconv.uint64pow10" .u64 Lib.pow10Tab) :
    Calls Tryz.prog 125 #[.int .u64 u] w fun e w' => e = .returned (.int .i64 (Lib.nDigits u)) ∧ w = w' := (Tryz.internal_strconv_numDigits u h1 h2 w htab).mono fun _ _ h => ⟨h.1, h.2.symm⟩
theorem tab_bel {w w' : World} {name : String} {k : IntKind} {zs : List Int} (h : Lib.TabIs Tryz.prog w name k zs) (hb : Bel w w') : Lib.TabIs Tryz.prog w' name k zs := by
  unfold Lib.TabIs World.var? at h ⊢
  cases hg : Tryz.prog.globalNamed name with
  | none => rw [hg] at h; cases h
  | some g =>
    rw [hg] at h
    simp only [Option.bind_some] at h ⊢
    cases ho : w.heap[g]? with
    | none => rw [ho] at h; cases h
    | some o => rw [ho] at h; rw [hb.heap ho]; exact h
set_option maxRecDepth 10000 in
set_option maxHeartbeats 1000000 in
theorem ftoa_norm (x E M M1 m d : Nat) (neg : Bool) (p : Int) (T : List UInt8) (B0 : Nat) (dst : Value) (w : World)
    (hn : ((x : Int) / 9223372036854775808 != 0) = neg)
    (hE : bits BinOp.and IntKind.i64 (wrap64 ((x : Int) / 4503599627370496)) 2047 = (E : Int)) (hE1 : ((E : Int) == 2047) = false) (hE2 : ((E : Int) == 0) = false) (hE3 : E < 2047)
    (hM : bits BinOp.and IntKind.u64 (x : Int) 4503599627370495 = (M : Int)) (hM1 : bits BinOp.or IntKind.u64 (M : Int) 4503599627370496 = (M1 : Int)) (hM2 : ((M1 : Int) == 0) = false)
    (hM3 : M1 ≤ 18446744073709551615) (hlen : Lib.bitLen M1 = 53) (hm : IntKind.u64.wrap ((M1 : Int) * 2048) = (m : Int))
    (htab : Lib.TabIs Tryz.prog w "internal/strconv.uint64pow10" .u64 Lib.pow10Tab)
    (hd1 : 1 ≤ d) (hd2 : d < 18446744073709551616) (hp0 : -100000 ≤ p) (hp1 : p ≤ 100000)
    (hown : w.ownsRow B0 5 1 dst 0 []) (hB0 : B0 ≤ w.heap.size)
    (hshort : ∀ wx, Bel w wx → Calls Tryz.prog 158 #[.int .u64 m, .int .i64 ((E : Int) + -1023 - 11 - 52)] wx fun e' w' => e' = .returned (.tuple #[.int .u64 d, .int .i64 p]) ∧ Bel wx w')
    (hefg : ∀ wx C, Bytes0 C (Lib.decDigits d) → OutB B0 w.heap.size C 205 wx dst [] wx → Calls Tryz.prog 151 #[dst, .bool neg, .slice (some ⟨w.heap.size, 0, none⟩) 32 32, .int .i64 (Lib.nDigits d + p), .int .i64 (zs (Lib.decDigits d) (Lib.nDigits d)), .int .i64 (zs (Lib.decDigits d) (Lib.nDigits d)), .int .u8 103, .bool true] wx fun e' w' => ∃ v, e' = .returned v ∧ OutB B0 w.heap.size C 205 wx v T w') :
    Calls Tryz.prog 136 #[dst, .float .f64 x, .int .u8 103, .int .i64 (-1)] w fun e' w' => ∃ v, e' = .returned v ∧ w'.ownsRow B0 5 1 v T.length (Lib.byteCells T) ∧ Below B0 w w' := by
  have hf := fb148 x
  have HL := fun w => (Tryz.bits_Len64 (M1 : Int) w (by omega) (by omega)).mono (fun _ _ h => (⟨h.1, h.2.symm⟩ : _ ∧ w = _))
  rw [show (M1 : Int).toNat = M1 from by simp, hlen] at HL
  have HL := Lib.hid HL
  have HSH := Lib.hid hshort
  have HEFG := Lib.hid hefg
  have HTAB := Lib.hid htab
  have HOWN := Lib.hid hown
  have hbz : Bel w (w.alloc (.cells buf32 205)).drew := (Bel.al _ _).tr (Bel.dr1 _)
  have hbufz : (w.alloc (.cells buf32 205)).drew.heap[w.heap.size]? = some (.cells buf32 205 (0, 0)) := heap_alloc_new w _
  have HBZ := Lib.hid hbz
  have HBUFZ := Lib.hid hbufz
  clear hshort hefg htab hown hbz hbufz
  go_enter Tryz.func136, Tryz.ntmps136
  go_wp2_with fail
  go_region
  all_goals (try simp only [Exit.then])
  go_wp2_with (first | (go_at_call 138; refine (HL.out _).mono ?_; rintro e' w' ⟨rfl, rfl⟩) | (go_at_call 158; refine (HSH.out _ HBZ.out).mono ?_; rintro e' w2 ⟨rfl, hb2⟩; have HB2 := Lib.hid (HBZ.out.tr hb2); have HBUF2 := Lib.hid (hb2.heap HBUFZ.out); clear hb2))
  go_region_held3 (fun _ => True) (trivial) (first | (go_at_call 125; refine (numDigits_calls d hd1 hd2 _ (tab_bel HTAB.out (by first | exact HB2.out | exact HB2.out.tr (Bel.dr1 _)))).mono ?_; rintro e' w' ⟨rfl, rfl⟩) | (go_at_call 153; refine (setDigits_calls w.heap.size d p w2.drew buf32 205 HBUF2.out hd2 rfl buf32_at hp0 hp1).mono ?_; rintro e' w3 ⟨rfl, hb3, C, hC, hBy⟩))
  all_goals
    (try simp only [Exit.then])
    have hbelf : Bel w w3 := Below.trans (HB2.out.tr (Bel.dr1 _)) hb3
    have HO := Lib.hid (show OutB B0 w.heap.size C 205 w3 dst [] w3 from ⟨own_bel HOWN.out hbelf, own_lt HOWN.out, Below.refl _ _, hC, Nat.le_trans hB0 hbelf.size, by simp⟩)
    have HBY := Lib.hid hBy
    have HBF := Lib.hid hbelf
    clear hb3 hC hBy hbelf
    go_wp2_with (first | (go_at_call 151; refine (HEFG.out _ C HBY.out HO.out).mono ?_; rintro e' w4 ⟨v, rfl, ho⟩))
    go_ret
    exact ⟨v, rfl, ho.own, (Below.mono HBF.out hB0).trans ho.bel⟩
set_option maxRecDepth 10000 in
set_option maxHeartbeats 1000000 in
theorem ftoa_zero (B0 : Nat) (dst : Value) (w : World) (hown : w.ownsRow B0 5 1 dst 0 []) (hB0 : B0 ≤ w.heap.size) :
    Calls Tryz.prog 136 #[dst, .float .f64 0, .int .u8 103, .int .i64 (-1)] w fun e' w' => ∃ v, e' = .returned v ∧ w'.ownsRow B0 5 1 v 1 (Lib.byteCells [48]) ∧ Below B0 w w' := by
  have hf := fb148 0
  have HOWN := Lib.hid hown
  clear hown
  have z1 : bits BinOp.and IntKind.i64 0 2047 = 0 := by decide +kernel
  have z2 : bits BinOp.and IntKind.u64 0 4503599627370495 = 0 := by decide +kernel
  go_enter Tryz.func136, Tryz.ntmps136
  go_wp2_with fail
  go_region
  all_goals (try simp only [Exit.then])
  go_wp2_with (first | (go_at_call 151; refine (efg_zero B0 dst w.drew HOWN.out hB0).mono ?_; rintro e' w4 ⟨v, rfl, h1, h2⟩))
  go_ret
  exact ⟨v, rfl, h1, (⟨rfl, rfl, rfl, Nat.le_refl _, fun _ _ => rfl⟩ : Below B0 w w.drew).trans h2⟩
/-- What ftoa writes of a float. -/
def Ftoa (K : World → Prop) (x : Nat) (T : List UInt8) : Prop := ∀ (B0 : Nat) (dst : Value) (w : World), K w → w.ownsRow B0 5 1 dst 0 [] → B0 ≤ w.heap.size → Calls Tryz.prog 136 #[dst, .float .f64 x, .int .u8 103, .int .i64 (-1)] w fun e' w' => ∃ v, e' = .returned v ∧ w'.ownsRow B0 5 1 v T.length (Lib.byteCells T) ∧ Below B0 w w'
theorem own_string {w : World} {B : Nat} {v : Value} {T : List UInt8} (h : w.ownsRow B 5 1 v T.length (Lib.byteCells T)) (h0 : T ≠ []) : (convert 92 9 v).run Tryz.prog w = .ok (.string (ofL T)) w := by
  rcases h.2 with ⟨rfl, hn⟩ | ⟨g, cap, cur, rfl, _, hg, h1, h2, h3, h4⟩
  · exact absurd (List.length_eq_zero_iff.1 hn) h0
  · refine run_convert_bytes_back (P := Tryz.prog) w 92 9 5 ⟨g, 0, none⟩ cap T Tryz.underlying92 Tryz.underlying5 Tryz.underlying9 fun j hj => ?_
    rw [Lib.addr_add, Nat.zero_add]
    have h5 : (Lib.byteCells T)[j]? = some (.int .u8 (T[j].toNat : Int)) := by simp [Lib.byteCells, hj]
    rw [← h4, Nat.mul_one, List.getElem?_take_of_lt hj] at h5
    have h6 : cur[j]? = some (.int .u8 (T[j].toNat : Int)) := by rw [← h5]; simp
    simp [World.cell?, hg, h6]
def buf24 : Array Value := #[.int .u8 0, .int .u8 0, .int .u8 0, .int .u8 0, .int .u8 0, .int .u8 0, .int .u8 0, .int .u8 0, .int .u8 0, .int .u8 0, .int .u8 0, .int .u8 0, .int .u8 0, .int .u8 0, .int .u8 0, .int .u8 0, .int .u8 0, .int .u8 0, .int .u8 0, .int .u8 0, .int .u8 0, .int .u8 0, .int .u8 0, .int .u8 0]
set_option maxRecDepth 10000 in
set_option maxHeartbeats 1000000 in
theorem format123 (K : World → Prop) (x : Nat) (T : List UInt8) (h0 : T ≠ []) (h : Ftoa K x T) (w : World) (hK : ∀ w', Bel w w' → K w') :
    Calls Tryz.prog 123 #[.float .f64 x, .int .u8 103, .int .i64 (-1), .int .i64 64] w fun e' w' => e' = .returned (.string (ofL T)) ∧ Bel w w' := by
  have hmk : ∀ w, (Instr.makeSlice 92 (.int .i64 0) (.int .i64 (max 3 24))).run Tryz.prog w = .ok (.slice (some ⟨w.heap.size, 0, none⟩) 0 24) (w.alloc (.cells buf24 5)) := fun _ => by kernel_rfl
  obtain ⟨w1, hw1⟩ : ∃ w1, w.alloc (.cells buf24 5) = w1 := ⟨_, rfl⟩
  have hbel : Bel w w1 := by rw [← hw1]; exact Bel.al _ _
  have hbf : w1.heap[w.heap.size]? = some (.cells buf24 5 (0, 0)) := by rw [← hw1]; exact heap_alloc_new w _
  have hown : w1.ownsRow w.heap.size 5 1 (.slice (some ⟨w.heap.size, 0, none⟩) 0 24) 0 [] := ⟨rfl, .inr ⟨w.heap.size, 24, buf24, rfl, Nat.le_refl _, hbf, by omega, by unfold maxLen; omega, rfl, rfl⟩⟩
  have HF := Lib.hid (h w.heap.size (.slice (some ⟨w.heap.size, 0, none⟩) 0 24) w1 (hK _ hbel) hown hbel.size)
  have HB := Lib.hid hbel
  have hmk2 := hmk w
  rw [hw1] at hmk2
  clear h hK hmk hbf hown hbel hw1
  go_enter Tryz.func123, Tryz.ntmps123
  go_wp2_with (first | (go_at_call 136; refine HF.out.mono ?_; rintro e' w4 ⟨v, rfl, h1, h2⟩; have hcv := own_string h1 h0; have HB4 := Lib.hid (Below.trans HB.out h2); clear h1 h2))
  go_ret
  exact ⟨rfl, HB4.out⟩
theorem format110 (x : Nat) (T : List UInt8) (w : World) (h : ∀ wx, wx = w → Calls Tryz.prog 123 #[.float .f64 x, .int .u8 103, .int .i64 (-1), .int .i64 64] wx fun e' w' => e' = .returned (.string (ofL T)) ∧ Bel w w') :
    Calls Tryz.prog 110 #[.float .f64 x, .int .u8 103, .int .i64 (-1), .int .i64 64] w fun e' w' => e' = .returned (.string (ofL T)) ∧ Bel w w' := by
  have HF := Lib.hid (h w rfl)
  clear h
  go_enter Tryz.func110, Tryz.ntmps110
  go_wp2_with (first | (go_at_call 123; refine HF.out.mono ?_; rintro e' w4 ⟨rfl, h2⟩))
  go_ret
  exact ⟨rfl, h2⟩
theorem number96 (x : Nat) (T : List UInt8) (w : World) (h : ∀ wx, wx = w → Calls Tryz.prog 110 #[.float .f64 x, .int .u8 103, .int .i64 (-1), .int .i64 64] wx fun e' w' => e' = .returned (.string (ofL T)) ∧ Bel w w') :
    Calls Tryz.prog 96 #[.float .f64 x] w fun e' w' => e' = .returned (.string (ofL T)) ∧ Bel w w' := by
  have HF := Lib.hid (h w rfl)
  clear h
  go_enter Tryz.func96, Tryz.ntmps96
  go_wp2_with (first | (go_at_call 110; refine HF.out.mono ?_; rintro e' w4 ⟨rfl, h2⟩))
  go_ret
  exact ⟨rfl, h2⟩
theorem number_calls (K : World → Prop) (x : Nat) (T : List UInt8) (h0 : T ≠ []) (h : Ftoa K x T) (w : World) (hK : ∀ w', Bel w w' → K w') :
    Calls Tryz.prog 96 #[.float .f64 x] w fun e' w' => e' = .returned (.string (ofL T)) ∧ Bel w w' :=
  number96 x T w fun wx hx => by subst hx; exact format110 x T wx fun wy hy => by subst hy; exact format123 K x T h0 h wy hK
end Go.Proofs.YtghajgdiaopioaaGreatDoor
