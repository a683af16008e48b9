/- Walks: the text of a whole number (151). -/
import Derived.Test.YtghajgdiaopioaaGreatDoorW08
import Derived.Test.YtghajgdiaopioaaGreatDoorW21
set_option linter.unusedVariables false
set_option linter.unusedSimpArgs false

namespace Go.Proofs.YtghajgdiaopioaaGreatDoor
open Go.RowKit

/-- What is written so far (v), beside the digits (block b). -/
structure OutB (B0 b : Nat) (C : Array Value) (e : TypeId) (w : World) (v : Value) (l : List UInt8) (wr : World) : Prop where
  own : wr.ownsRow B0 5 1 v l.length (Lib.byteCells l)
  ne : v.ownBlock ≠ some b
  bel : Below B0 w wr
  dig : wr.heap[b]? = some (.cells C e (0, 0))
  size : B0 ≤ wr.heap.size
  len : l.length ≤ 1000
theorem OutB.step {B0 b : Nat} {C : Array Value} {e : TypeId} {w : World} {v : Value} {l : List UInt8} {wr : World} (h : OutB B0 b C e w v l wr) (x : UInt8) (hl : l.length < 1000) {v' : Value} {w' : World}
    (h2 : w'.ownsRow B0 5 1 v' (l.length + 1) (Lib.byteCells l ++ [.int .u8 x.toNat])) (h3 : wr.grownBy w' v.ownBlock) (h4 : v'.ownBlock = v.ownBlock ∨ ∃ g', v'.ownBlock = some g' ∧ wr.heap.size < g') : OutB B0 b C e w v' (l ++ [x]) w' := by
  have hb := lt_heap h.dig
  refine ⟨?_, ?_, h.bel.trans (Below.grown (Below.refl _ _) h3 h.size fun k hk => (h.own.lt k hk).1), grown_heap h3 h.dig (fun hc => h.ne hc.symm), Nat.le_trans h.size h3.size, by rw [List.length_append]; simp; omega⟩
  · rw [List.length_append, byteCells_app]
    exact h2
  · rcases h4 with h4 | ⟨g', h4, h5⟩
    · rw [h4]; exact h.ne
    · rw [h4]; intro hc; cases hc; omega
theorem info5 : (Tryz.prog.info? 5).map (fun i => (i.zero, i.size, i.bytes)) = some (some (.int .u8 0), 1, 1) := by kernel_rfl

set_option maxRecDepth 10000 in
set_option maxHeartbeats 1000000 in
theorem efg_whole (neg : Bool) (sgn : List UInt8) (hsgn : sgn = if neg then [45] else []) (B0 b n dp : Nat) (dst : Value) (C : Array Value) (e : TypeId) (L : List UInt8) (w : World) (hw : OutB B0 b C e w dst [] w) (hB : Bytes0 C L) (hn1 : 1 ≤ n) (hnd : n ≤ dp) (hdp : dp ≤ 6) (hnL : n ≤ L.length) :
    Calls Tryz.prog 151 #[dst, .bool neg, .slice (some ⟨b, 0, none⟩) 32 32, .int .i64 dp, .int .i64 n, .int .i64 n, .int .u8 103, .bool true] w fun e' w' => ∃ v, e' = .returned v ∧ OutB B0 b C e w v (sgn ++ L.take n ++ List.replicate (dp - n) 48) w' := by
  obtain ⟨i0, hi, hz0, hz1, hz2⟩ := info_parts info5
  have HW := Lib.hid hw
  have HBY := Lib.hid hB
  clear hw hB
  have d1 : decide (dp < n) = false := by simp; omega
  have d2 : decide (0 < dp) = true := by simp; omega
  have d3 : decide ((dp : Int) - 1 < -4) = false := by simp; omega
  have d4 : decide ((6 : Int) ≤ (dp : Int) - 1) = false := by simp; omega
  have t2 : min (n : Int) dp = n := by omega
  have t3 : max ((n : Int) - dp) 0 = 0 := by omega
  cases neg
  · have HS : Hid (sgn = []) := Lib.hid hsgn
    clear hsgn
    have hsl : sgn.length ≤ 1 := by rw [HS.out]; decide
    have HW : Hid (OutB B0 b C e w dst sgn w) := by rw [HS.out]; exact HW
    go_enter Tryz.func151, Tryz.ntmps151
    go_wp2_with fail
    go_loopg [0, 191] n (fun g s0 s191 wr => ∃ i : Nat, i ≤ n ∧ i + g = n ∧ s191 = .int .i64 i ∧ Hid (OutB B0 b C e w s0 (sgn ++ L.take i) wr))
    case atStart => exact ⟨0, Nat.zero_le _, by omega, rfl, Lib.hid (by simpa using HW.out)⟩
    case round =>
      obtain ⟨i, hi1, hg, rfl, ho⟩ := hrel
      by_cases hlt : i < n
      · obtain ⟨x, hx⟩ : ∃ x : UInt8, L[i]? = some x := ⟨L[i], List.getElem?_eq_getElem (by omega)⟩
        have hcell : wr.cell? ⟨b, i, none⟩ = some (.int .u8 x.toNat) := by
          have := HBY.out i x hx
          simp [World.cell?, ho.out.dig, this]
        have htk : L.take (i + 1) = L.take i ++ [x] := by rw [List.take_add_one, hx]; rfl
        have HTK := Lib.hid htk
        clear hx htk
        have hll : (sgn ++ L.take i).length ≤ 7 := by rw [List.length_append, List.length_take]; omega
        obtain ⟨l, hl⟩ : ∃ l, sgn ++ L.take i = l := ⟨_, rfl⟩
        have HL := Lib.hid hl
        rw [hl] at hll ho
        clear hl
        go_wp2_with (at_builtin; refine wpList_append1_at _ [_] 5 rfl (.tmp 195) (.tmp 197) 92 rfl B0 i0 (.int .u8 0) 1 1 Tryz.underlying92 hi hz0 hz1 hz2 rfl (by decide) _ l.length (Lib.byteCells l) rfl ho.out.own _ _ rfl rfl rfl ?_ ?_ ?_ ?_ ?_)
        · exact fun u hu => by simp at hu; subst hu; rfl
        · omega
        · unfold maxLen; omega
        · exact ho.out.size
        · intro v' w' h2 h3 h4
          have HN := Lib.hid (ho.out.step x (by omega) h2 h3 h4)
          clear h2 h3 h4
          go_wp2
          go_roundg (n - (i + 1))
          case measure => omega
          case rel => exact ⟨i + 1, by omega, by omega, by go_num, by rw [HTK.out, ← List.append_assoc, HL.out]; exact HN⟩
      · obtain rfl : i = n := by omega
        have hkz : ¬ ((i : Int) < (i : Int)) := by omega
        have HO := ho
        clear ho
        obtain ⟨l0, hl0⟩ : ∃ l, sgn ++ L.take i = l := ⟨_, rfl⟩
        have hll0 : l0.length ≤ 7 := by rw [← hl0, List.length_append, List.length_take]; omega
        rw [hl0] at HO
        have HL0 := Lib.hid hl0
        clear hl0
        go_wp2_with fail
        go_loopg [0, 203] (dp - i) (fun g s0 s203 wr => ∃ j : Nat, j ≤ dp - i ∧ j + g = dp - i ∧ s203 = .int .i64 j ∧ Hid (OutB B0 b C e w s0 (l0 ++ List.replicate j 48) wr))
        case atStart => exact ⟨0, Nat.zero_le _, by omega, rfl, Lib.hid (by simpa using HO.out)⟩
        case round =>
          obtain ⟨j, hj1, hg, rfl, ho⟩ := hrel
          by_cases hlt : j < dp - i
          · have hll : (l0 ++ List.replicate j (48 : UInt8)).length ≤ 14 := by rw [List.length_append, List.length_replicate]; omega
            obtain ⟨l, hl⟩ : ∃ l, l0 ++ List.replicate j (48 : UInt8) = l := ⟨_, rfl⟩
            have HL := Lib.hid hl
            rw [hl] at hll ho
            clear hl
            have hjt : ((j : Int) < (dp : Int) - (i : Int)) := by omega
            go_wp2_with (at_builtin; refine wpList_append1_at _ [_] 5 rfl (.tmp 205) (.tmp 206) 92 rfl B0 i0 (.int .u8 0) 1 1 Tryz.underlying92 hi hz0 hz1 hz2 rfl (by decide) _ l.length (Lib.byteCells l) rfl ho.out.own _ _ rfl rfl rfl ?_ ?_ ?_ ?_ ?_)
            · exact fun u hu => by simp at hu; subst hu; rfl
            · omega
            · unfold maxLen; omega
            · exact ho.out.size
            · intro v' w' h2 h3 h4
              have HN := Lib.hid (ho.out.step 48 (by omega) h2 h3 h4)
              clear h2 h3 h4
              go_wp2
              go_roundg (dp - i - (j + 1))
              case measure => omega
              case rel => exact ⟨j + 1, by omega, by omega, by go_num, by rw [List.replicate_succ', ← List.append_assoc, HL.out]; exact HN⟩
          · obtain rfl : j = dp - i := by omega
            have hjt : ¬ (((dp - i : Nat) : Int) < (dp : Int) - (i : Int)) := by omega
            go_wp2
            go_ret
            refine ⟨_, rfl, ?_⟩
            have h := ho.out
            rw [← HL0.out, List.append_assoc] at h
            exact h
  · have HS : Hid (sgn = [45]) := Lib.hid hsgn
    clear hsgn
    have hsl : sgn.length ≤ 1 := by rw [HS.out]; decide
    go_enter Tryz.func151, Tryz.ntmps151
    go_wp2_with (at_builtin; refine wpList_append1_at _ [_] 5 rfl (.tmp 179) (.tmp 180) 92 rfl B0 i0 (.int .u8 0) 1 1 Tryz.underlying92 hi hz0 hz1 hz2 rfl (by decide) _ 0 (Lib.byteCells []) rfl HW.out.own _ _ rfl rfl rfl ?_ ?_ ?_ ?_ ?_)
    · exact fun u hu => by simp at hu; subst hu; rfl
    · omega
    · unfold maxLen; omega
    · exact HW.out.size
    intro v' w' h2 h3 h4
    have HW2 : Hid (OutB B0 b C e w v' sgn w') := by rw [HS.out]; exact Lib.hid (HW.out.step 45 (by decide) h2 h3 h4)
    clear h2 h3 h4
    go_wp2_with fail
    go_loopg [0, 191] n (fun g s0 s191 wr => ∃ i : Nat, i ≤ n ∧ i + g = n ∧ s191 = .int .i64 i ∧ Hid (OutB B0 b C e w s0 (sgn ++ L.take i) wr))
    case atStart => exact ⟨0, Nat.zero_le _, by omega, rfl, Lib.hid (by simpa using HW2.out)⟩
    case round =>
      obtain ⟨i, hi1, hg, rfl, ho⟩ := hrel
      by_cases hlt : i < n
      · obtain ⟨x, hx⟩ : ∃ x : UInt8, L[i]? = some x := ⟨L[i], List.getElem?_eq_getElem (by omega)⟩
        have hcell : wr.cell? ⟨b, i, none⟩ = some (.int .u8 x.toNat) := by
          have := HBY.out i x hx
          simp [World.cell?, ho.out.dig, this]
        have htk : L.take (i + 1) = L.take i ++ [x] := by rw [List.take_add_one, hx]; rfl
        have HTK := Lib.hid htk
        clear hx htk
        have hll : (sgn ++ L.take i).length ≤ 7 := by rw [List.length_append, List.length_take]; omega
        obtain ⟨l, hl⟩ : ∃ l, sgn ++ L.take i = l := ⟨_, rfl⟩
        have HL := Lib.hid hl
        rw [hl] at hll ho
        clear hl
        go_wp2_with (at_builtin; refine wpList_append1_at _ [_] 5 rfl (.tmp 195) (.tmp 197) 92 rfl B0 i0 (.int .u8 0) 1 1 Tryz.underlying92 hi hz0 hz1 hz2 rfl (by decide) _ l.length (Lib.byteCells l) rfl ho.out.own _ _ rfl rfl rfl ?_ ?_ ?_ ?_ ?_)
        · exact fun u hu => by simp at hu; subst hu; rfl
        · omega
        · unfold maxLen; omega
        · exact ho.out.size
        · intro v' w' h2 h3 h4
          have HN := Lib.hid (ho.out.step x (by omega) h2 h3 h4)
          clear h2 h3 h4
          go_wp2
          go_roundg (n - (i + 1))
          case measure => omega
          case rel => exact ⟨i + 1, by omega, by omega, by go_num, by rw [HTK.out, ← List.append_assoc, HL.out]; exact HN⟩
      · obtain rfl : i = n := by omega
        have hkz : ¬ ((i : Int) < (i : Int)) := by omega
        have HO := ho
        clear ho
        obtain ⟨l0, hl0⟩ : ∃ l, sgn ++ L.take i = l := ⟨_, rfl⟩
        have hll0 : l0.length ≤ 7 := by rw [← hl0, List.length_append, List.length_take]; omega
        rw [hl0] at HO
        have HL0 := Lib.hid hl0
        clear hl0
        go_wp2_with fail
        go_loopg [0, 203] (dp - i) (fun g s0 s203 wr => ∃ j : Nat, j ≤ dp - i ∧ j + g = dp - i ∧ s203 = .int .i64 j ∧ Hid (OutB B0 b C e w s0 (l0 ++ List.replicate j 48) wr))
        case atStart => exact ⟨0, Nat.zero_le _, by omega, rfl, Lib.hid (by simpa using HO.out)⟩
        case round =>
          obtain ⟨j, hj1, hg, rfl, ho⟩ := hrel
          by_cases hlt : j < dp - i
          · have hll : (l0 ++ List.replicate j (48 : UInt8)).length ≤ 14 := by rw [List.length_append, List.length_replicate]; omega
            obtain ⟨l, hl⟩ : ∃ l, l0 ++ List.replicate j (48 : UInt8) = l := ⟨_, rfl⟩
            have HL := Lib.hid hl
            rw [hl] at hll ho
            clear hl
            have hjt : ((j : Int) < (dp : Int) - (i : Int)) := by omega
            go_wp2_with (at_builtin; refine wpList_append1_at _ [_] 5 rfl (.tmp 205) (.tmp 206) 92 rfl B0 i0 (.int .u8 0) 1 1 Tryz.underlying92 hi hz0 hz1 hz2 rfl (by decide) _ l.length (Lib.byteCells l) rfl ho.out.own _ _ rfl rfl rfl ?_ ?_ ?_ ?_ ?_)
            · exact fun u hu => by simp at hu; subst hu; rfl
            · omega
            · unfold maxLen; omega
            · exact ho.out.size
            · intro v' w' h2 h3 h4
              have HN := Lib.hid (ho.out.step 48 (by omega) h2 h3 h4)
              clear h2 h3 h4
              go_wp2
              go_roundg (dp - i - (j + 1))
              case measure => omega
              case rel => exact ⟨j + 1, by omega, by omega, by go_num, by rw [List.replicate_succ', ← List.append_assoc, HL.out]; exact HN⟩
          · obtain rfl : j = dp - i := by omega
            have hjt : ¬ (((dp - i : Nat) : Int) < (dp : Int) - (i : Int)) := by omega
            go_wp2
            go_ret
            refine ⟨_, rfl, ?_⟩
            have h := ho.out
            rw [← HL0.out, List.append_assoc] at h
            exact h
set_option maxRecDepth 10000 in
set_option maxHeartbeats 1000000 in
theorem efg_zero (B0 : Nat) (dst : Value) (w : World) (hown : w.ownsRow B0 5 1 dst 0 []) (hB0 : B0 ≤ w.heap.size) :
    Calls Tryz.prog 151 #[dst, .bool false, .slice none 0 0, .int .i64 0, .int .i64 0, .int .i64 (-1), .int .u8 103, .bool true] w fun e' w' => ∃ v, e' = .returned v ∧ w'.ownsRow B0 5 1 v 1 (Lib.byteCells [48]) ∧ Below B0 w w' := by
  obtain ⟨i0, hi, hz0, hz1, hz2⟩ := info_parts info5
  have HW := Lib.hid hown
  clear hown
  go_enter Tryz.func151, Tryz.ntmps151
  go_wp2_with (at_builtin; refine wpList_append1 _ [_] 5 rfl (.tmp 209) (.tmp 210) 92 rfl B0 i0 (.int .u8 0) 1 1 Tryz.underlying92 hi hz0 hz1 hz2 rfl (by decide) _ 0 [] rfl HW.out _ _ rfl rfl rfl ?_ ?_ ?_ ?_ ?_)
  · exact fun u hu => by simp at hu; subst hu; rfl
  · omega
  · unfold maxLen; omega
  · exact hB0
  intro v' w' h2 h3
  have H2 := Lib.hid h2
  have H3 := Lib.hid (Below.grown (Below.refl _ _) h3 hB0 fun k hk => (HW.out.lt k hk).1)
  clear h2 h3
  go_wp2_with fail
  go_ret
  exact ⟨_, rfl, H2.out, H3.out⟩
end Go.Proofs.YtghajgdiaopioaaGreatDoor

/- Walks: wkt, kind by kind: lines. -/
namespace Go.Proofs.YtghajgdiaopioaaGreatDoor
open Go.RowKit
attribute [local go_sem] run_store_float run_store_iface run_store_nilIface
attribute [local go_sem ↓] Go.wp_at_zero Go.wp_at_succ

theorem wConst_calls (w0 : World) (bs word : List UInt8) (m : Nat) (wx : World) (C : Array Value) (hC : C = (word.map fun c => Value.int .u8 c.toNat).toArray) (hm : word.length = m) (h : Buf w0 bs wx) (hl : bs.length + m ≤ 1000000000) :
    Calls Tryz.prog 97 #[.pointer (some ⟨w0.heap.size, 0, none⟩), .slice (some ⟨wx.heap.size, 0, none⟩) m m] (wx.alloc (.cells C 5 (m, m + 1))) fun e w' => (∃ v, e = .returned v) ∧ Buf w0 (bs ++ word) w' := by
  have hb := h.old (Bel.al wx (.cells C 5 (m, m + 1)))
  have hlt := h.2.lt
  have hc : (wx.alloc (.cells C 5 (m, m + 1))).heap[wx.heap.size]? = some (Obj.cells C 5 (m, m + 1)) := heap_alloc_new _ _
  refine (Tryz.Buffer_Write_any w0.heap.size w0.heap.size (Lib.byteCells bs) (Lib.byteCells word) ⟨wx.heap.size, 0, none⟩ m m _ hb.2 hb.1.size (byteCells_one _) (by rw [byteCells_length]; exact hm) (by show wx.heap.size ≠ w0.heap.size; omega) ?_ (byteCells_one _) (by rw [byteCells_length]; omega)).mono ?_
  · intro j v hj
    rw [Lib.addr_add, Nat.zero_add]
    subst hC
    unfold World.cell?
    simp only [hc]
    simpa [Lib.byteCells] using hj
  · rintro e w' ⟨h1, h2, h3, -⟩
    exact ⟨⟨_, h1⟩, hb.1.trans h3, by rw [byteCells_app]; exact h2⟩

theorem ta_not117 (t' : TypeId) (hne : ¬ t' = 117) (v : Value) (w : World) : (Instr.typeAssert (.iface t' v) 52 117 true).run Tryz.prog w = .ok (.tuple #[.slice none 0 0, .bool false]) w :=
  ta_not Tryz.underlying117 (by kernel_rfl) t' hne v w

theorem jn_take_le (sp : List UInt8) (ts : List (List UInt8)) (k : Nat) : (jn sp (ts.take k)).length ≤ (jn sp ts).length := by
  have h : ∀ (l : List (List UInt8)) (k : Nat), ((l.take k).flatMap fun u => 44 :: sp ++ u).length ≤ (l.flatMap fun u => 44 :: sp ++ u).length := by
    intro l k
    conv => rhs; rw [← List.take_append_drop k l]
    rw [List.flatMap_append, List.length_append]
    omega
  cases ts with
  | nil => simp
  | cons t ts =>
    cases k with
    | zero => simp [jn]
    | succ k =>
      rw [List.take_succ_cons, jn, jn, List.length_append, List.length_append]
      have := h ts k
      omega
theorem jn_step {δ : Type} (sp : List UInt8) (ds : List δ) (T : δ → List UInt8) (i : Nat) (p : δ) (hp : ds[i]? = some p) : jn sp ((ds.take (i + 1)).map T) = if i = 0 then T p else jn sp ((ds.take i).map T) ++ (44 :: sp ++ T p) := by
  have hlt : i < ds.length := by
    rcases Nat.lt_or_ge i ds.length with h | h
    · exact h
    · rw [List.getElem?_eq_none h] at hp; cases hp
  rw [List.take_add_one, hp, List.map_append, show (some p).toList.map T = [T p] from rfl, jn_snoc]
  by_cases h0 : i = 0
  · subst h0; simp
  · rw [if_neg (fun hc => ?_), if_neg h0]
    have := congrArg List.length hc
    simp only [List.length_map, List.length_take, List.length_nil] at this
    omega
theorem jn_fit0 {δ : Type} (pre : List UInt8) (ds : List δ) (T : δ → List UInt8) (p : δ) (hp : ds[0]? = some p) : (pre ++ 40 :: jn [] ((ds.take 0).map T) ++ T p).length ≤ (pre ++ 40 :: jn [] (ds.map T) ++ [41]).length := by
  have h1 := jn_step [] ds T 0 p hp
  rw [if_pos rfl] at h1
  have h2 := jn_take_le [] (ds.map T) 1
  rw [← List.map_take, h1] at h2
  have h3 : (jn [] ((ds.take 0).map T)).length = 0 := by simp [jn]
  simp only [List.length_append, List.length_cons, List.length_nil, h3]
  omega
theorem jn_fit {δ : Type} (pre : List UInt8) (ds : List δ) (T : δ → List UInt8) (i : Nat) (p : δ) (hp : ds[i]? = some p) (h0 : i ≠ 0) : (pre ++ 40 :: jn [] ((ds.take i).map T) ++ [44] ++ T p).length ≤ (pre ++ 40 :: jn [] (ds.map T) ++ [41]).length := by
  have h1 := jn_step [] ds T i p hp
  rw [if_neg h0] at h1
  have h2 := jn_take_le [] (ds.map T) (i + 1)
  rw [← List.map_take, h1] at h2
  simp only [List.length_append, List.length_cons, List.length_nil] at *
  omega

set_option maxRecDepth 100000 in
set_option maxHeartbeats 8000000 in
theorem wkt_mpt0 (w0 : World) (bs : List UInt8) (ao : Option Addr) (cap : Nat) (w : World) (hb : Buf w0 bs w) (hbs : bs.length ≤ 100000000) :
    Calls Tryz.prog 66 #[.pointer (some ⟨w0.heap.size, 0, none⟩), .iface 72 (.slice ao 0 cap)] w fun e w' => e = .returned (.tuple #[]) ∧ Buf w0 (bs ++ wMPoint) w' := by
  have kc := fun (w : World) (C : Array Value) (n c : Nat) => Lib.run_convert_bytes_const (P := Tryz.prog) w 92 5 C n c Tryz.underlying92 Tryz.underlying5
  have n61 := ta_not61 72 (by decide)
  have a1 := ta_is Tryz.underlying72
  have HB := Lib.hid hb
  clear hb
  go_enter Tryz.func66, Tryz.ntmps66
  go_wp2_with (go_at_call 97; refine (wConst_calls w0 bs wMPoint 16 _ _ rfl rfl HB.out (by omega)).mono ?_; rintro e w1 ⟨⟨v, rfl⟩, hb1⟩; have HB1 := Lib.hid hb1; clear hb1)
  first | go_end0 | (refine bodyPost_ret (results_none rfl _ _ _) rfl ?_)
  exact ⟨rfl, HB1.out⟩

set_option maxRecDepth 100000 in
set_option maxHeartbeats 8000000 in
theorem wkt_line0 (w0 : World) (bs : List UInt8) (ao : Option Addr) (cap : Nat) (w : World) (hb : Buf w0 bs w) (hbs : bs.length ≤ 100000000) :
    Calls Tryz.prog 66 #[.pointer (some ⟨w0.heap.size, 0, none⟩), .iface 65 (.slice ao 0 cap)] w fun e w' => e = .returned (.tuple #[]) ∧ Buf w0 (bs ++ wLine) w' := by
  have kc := fun (w : World) (C : Array Value) (n c : Nat) => Lib.run_convert_bytes_const (P := Tryz.prog) w 92 5 C n c Tryz.underlying92 Tryz.underlying5
  have n61 := ta_not61 65 (by decide)
  have n72 := ta_not Tryz.underlying72 z72 65 (by decide)
  have a1 := ta_is Tryz.underlying65
  have HB := Lib.hid hb
  clear hb
  go_enter Tryz.func66, Tryz.ntmps66
  go_wp2_with (go_at_call 97; refine (wConst_calls w0 bs wLine 16 _ _ rfl rfl HB.out (by omega)).mono ?_; rintro e w1 ⟨⟨v, rfl⟩, hb1⟩; have HB1 := Lib.hid hb1; clear hb1)
  first | go_end0 | (refine bodyPost_ret (results_none rfl _ _ _) rfl ?_)
  exact ⟨rfl, HB1.out⟩

set_option maxRecDepth 100000 in
set_option maxHeartbeats 8000000 in
theorem wkt_mline0 (w0 : World) (bs : List UInt8) (ao : Option Addr) (cap : Nat) (w : World) (hb : Buf w0 bs w) (hbs : bs.length ≤ 100000000) :
    Calls Tryz.prog 66 #[.pointer (some ⟨w0.heap.size, 0, none⟩), .iface 76 (.slice ao 0 cap)] w fun e w' => e = .returned (.tuple #[]) ∧ Buf w0 (bs ++ wMLine) w' := by
  have kc := fun (w : World) (C : Array Value) (n c : Nat) => Lib.run_convert_bytes_const (P := Tryz.prog) w 92 5 C n c Tryz.underlying92 Tryz.underlying5
  have n61 := ta_not61 76 (by decide)
  have n72 := ta_not Tryz.underlying72 z72 76 (by decide)
  have n65 := ta_not Tryz.underlying65 z65 76 (by decide)
  have a1 := ta_is Tryz.underlying76
  have HB := Lib.hid hb
  clear hb
  go_enter Tryz.func66, Tryz.ntmps66
  go_wp2_with (go_at_call 97; refine (wConst_calls w0 bs wMLine 21 _ _ rfl rfl HB.out (by omega)).mono ?_; rintro e w1 ⟨⟨v, rfl⟩, hb1⟩; have HB1 := Lib.hid hb1; clear hb1)
  first | go_end0 | (refine bodyPost_ret (results_none rfl _ _ _) rfl ?_)
  exact ⟨rfl, HB1.out⟩

set_option maxRecDepth 100000 in
set_option maxHeartbeats 8000000 in
theorem wkt_poly0 (w0 : World) (bs : List UInt8) (ao : Option Addr) (cap : Nat) (w : World) (hb : Buf w0 bs w) (hbs : bs.length ≤ 100000000) :
    Calls Tryz.prog 66 #[.pointer (some ⟨w0.heap.size, 0, none⟩), .iface 69 (.slice ao 0 cap)] w fun e w' => e = .returned (.tuple #[]) ∧ Buf w0 (bs ++ wPoly) w' := by
  have kc := fun (w : World) (C : Array Value) (n c : Nat) => Lib.run_convert_bytes_const (P := Tryz.prog) w 92 5 C n c Tryz.underlying92 Tryz.underlying5
  have n61 := ta_not61 69 (by decide)
  have n72 := ta_not Tryz.underlying72 z72 69 (by decide)
  have n65 := ta_not Tryz.underlying65 z65 69 (by decide)
  have n76 := ta_not Tryz.underlying76 z76 69 (by decide)
  have n117 := ta_not117 69 (by decide)
  have a1 := ta_is Tryz.underlying69
  have HB := Lib.hid hb
  clear hb
  go_enter Tryz.func66, Tryz.ntmps66
  go_wp2_with (go_at_call 97; refine (wConst_calls w0 bs wPoly 13 _ _ rfl rfl HB.out (by omega)).mono ?_; rintro e w1 ⟨⟨v, rfl⟩, hb1⟩; have HB1 := Lib.hid hb1; clear hb1)
  first | go_end0 | (refine bodyPost_ret (results_none rfl _ _ _) rfl ?_)
  exact ⟨rfl, HB1.out⟩

set_option maxRecDepth 100000 in
set_option maxHeartbeats 8000000 in
theorem wkt_mpoly0 (w0 : World) (bs : List UInt8) (ao : Option Addr) (cap : Nat) (w : World) (hb : Buf w0 bs w) (hbs : bs.length ≤ 100000000) :
    Calls Tryz.prog 66 #[.pointer (some ⟨w0.heap.size, 0, none⟩), .iface 80 (.slice ao 0 cap)] w fun e w' => e = .returned (.tuple #[]) ∧ Buf w0 (bs ++ wMPoly) w' := by
  have kc := fun (w : World) (C : Array Value) (n c : Nat) => Lib.run_convert_bytes_const (P := Tryz.prog) w 92 5 C n c Tryz.underlying92 Tryz.underlying5
  have n61 := ta_not61 80 (by decide)
  have n72 := ta_not Tryz.underlying72 z72 80 (by decide)
  have n65 := ta_not Tryz.underlying65 z65 80 (by decide)
  have n76 := ta_not Tryz.underlying76 z76 80 (by decide)
  have n117 := ta_not117 80 (by decide)
  have n69 := ta_not Tryz.underlying69 z69 80 (by decide)
  have a1 := ta_is Tryz.underlying80
  have HB := Lib.hid hb
  clear hb
  go_enter Tryz.func66, Tryz.ntmps66
  go_wp2_with (go_at_call 97; refine (wConst_calls w0 bs wMPoly 18 _ _ rfl rfl HB.out (by omega)).mono ?_; rintro e w1 ⟨⟨v, rfl⟩, hb1⟩; have HB1 := Lib.hid hb1; clear hb1)
  first | go_end0 | (refine bodyPost_ret (results_none rfl _ _ _) rfl ?_)
  exact ⟨rfl, HB1.out⟩

set_option maxRecDepth 100000 in
set_option maxHeartbeats 8000000 in
theorem wkt_coll0 (w0 : World) (bs : List UInt8) (ao : Option Addr) (cap : Nat) (w : World) (hb : Buf w0 bs w) (hbs : bs.length ≤ 100000000) :
    Calls Tryz.prog 66 #[.pointer (some ⟨w0.heap.size, 0, none⟩), .iface 84 (.slice ao 0 cap)] w fun e w' => e = .returned (.tuple #[]) ∧ Buf w0 (bs ++ wColl) w' := by
  have kc := fun (w : World) (C : Array Value) (n c : Nat) => Lib.run_convert_bytes_const (P := Tryz.prog) w 92 5 C n c Tryz.underlying92 Tryz.underlying5
  have n61 := ta_not61 84 (by decide)
  have n72 := ta_not Tryz.underlying72 z72 84 (by decide)
  have n65 := ta_not Tryz.underlying65 z65 84 (by decide)
  have n76 := ta_not Tryz.underlying76 z76 84 (by decide)
  have n117 := ta_not117 84 (by decide)
  have n69 := ta_not Tryz.underlying69 z69 84 (by decide)
  have n80 := ta_not Tryz.underlying80 z80 84 (by decide)
  have a1 := ta_is Tryz.underlying84
  have HB := Lib.hid hb
  clear hb
  go_enter Tryz.func66, Tryz.ntmps66
  go_wp2_with (go_at_call 97; refine (wConst_calls w0 bs wColl 24 _ _ rfl rfl HB.out (by omega)).mono ?_; rintro e w1 ⟨⟨v, rfl⟩, hb1⟩; have HB1 := Lib.hid hb1; clear hb1)
  first | go_end0 | (refine bodyPost_ret (results_none rfl _ _ _) rfl ?_)
  exact ⟨rfl, HB1.out⟩

set_option maxRecDepth 100000 in
set_option maxHeartbeats 8000000 in
theorem wkt_line1 (G : Errs) (nt : Nat → List UInt8) (w0 : World) (hE : Env G w0) (bs : List UInt8) (x : Value) (l : List Pt) (w : World) (hx : PtsAt w0 x l) (hne : l ≠ []) (hn : ∀ p ∈ l, NumWrites G p.1 (nt p.1) ∧ NumWrites G p.2 (nt p.2)) (hs : l.length ≤ 100000) (hb : Buf w0 bs w) (hbs : bs.length + 10 ≤ 100000000) :
    Calls Tryz.prog 66 #[.pointer (some ⟨w0.heap.size, 0, none⟩), .iface 65 x] w fun e w' => e = .returned (.tuple #[]) ∧ Buf w0 (bs ++ kwLine ++ lineT [] nt l) w' := by
  have HL := Lib.hid (fun bs' wx hbx hl => writeLine_calls G nt w0 hE bs' x l wx hx hn hs hbx hl)
  obtain ⟨ao, cap, rfl⟩ := hx.slice
  have h0 : ((l.length : Int) == 0) = false := by cases l with | nil => exact absurd rfl hne | cons a b => simp; omega
  have kc := fun (w : World) (C : Array Value) (n c : Nat) => Lib.run_convert_bytes_const (P := Tryz.prog) w 92 5 C n c Tryz.underlying92 Tryz.underlying5
  have n61 := ta_not61 65 (by decide)
  have n72 := ta_not Tryz.underlying72 z72 65 (by decide)
  have a1 := ta_is Tryz.underlying65
  have HB := Lib.hid hb
  clear hb hx hn hne
  generalize l.length = n at *
  go_enter Tryz.func66, Tryz.ntmps66
  go_wp2_with (first | (go_at_call 97; refine (wConst_calls w0 bs kwLine 10 _ _ rfl rfl HB.out (by omega)).mono ?_; rintro e w1 ⟨⟨v, rfl⟩, hb1⟩; have HB1 := Lib.hid hb1; clear hb1) | (go_at_call 99; refine (HL.out _ _ HB1.out (by rw [List.length_append]; exact hbs)).mono ?_; rintro e w2 ⟨rfl, hb2⟩; have HB2 := Lib.hid hb2; clear hb2))
  first | go_end0 | (refine bodyPost_ret (results_none rfl _ _ _) rfl ?_)
  exact ⟨rfl, HB2.out⟩

set_option maxRecDepth 100000 in
set_option maxHeartbeats 8000000 in
theorem wkt_mline1 {δ : Type} (R : Value → δ → Prop) (T : δ → List UInt8) (w0 : World) (bs : List UInt8) (x : Value) (ds : List δ) (w : World) (hx : RowAt (fun _ => R) w0 x ds) (hne : ds ≠ []) (hv : ∀ (v : Value) (g : δ), R v g → ∃ ao n cap, v = .slice ao n cap) (hs : ds.length ≤ 100000) (hb : Buf w0 bs w) (hbs : (bs ++ kwMLine ++ 40 :: jn [] (ds.map T) ++ [41]).length ≤ 100000000)
    (hcall : ∀ g ∈ ds, ∀ (v : Value) (bs' : List UInt8) (wx : World), R v g → Buf w0 bs' wx → (bs' ++ T g).length ≤ 100000000 → Calls Tryz.prog 99 #[.pointer (some ⟨w0.heap.size, 0, none⟩), v] wx fun e w' => e = .returned (.tuple #[]) ∧ Buf w0 (bs' ++ T g) w') :
    Calls Tryz.prog 66 #[.pointer (some ⟨w0.heap.size, 0, none⟩), .iface 76 x] w fun e w' => e = .returned (.tuple #[]) ∧ Buf w0 (bs ++ kwMLine ++ 40 :: jn [] (ds.map T) ++ [41]) w' := by
  obtain ⟨ao, cap, rfl, -, hc⟩ := hx
  have h0 : ((ds.length : Int) == 0) = false := by cases ds with | nil => exact absurd rfl hne | cons a b => simp; omega
  have HC := Lib.hid hc
  have HCALL := Lib.hid hcall
  have HV := Lib.hid hv
  have HLB := Lib.hid hbs
  have hbl : bs.length ≤ 100000000 := by simp only [List.length_append] at hbs; omega
  have kc := fun (w : World) (C : Array Value) (n c : Nat) => Lib.run_convert_bytes_const (P := Tryz.prog) w 92 5 C n c Tryz.underlying92 Tryz.underlying5
  have n61 := ta_not61 76 (by decide)
  have n72 := ta_not Tryz.underlying72 z72 76 (by decide)
  have n65 := ta_not Tryz.underlying65 z65 76 (by decide)
  have a1 := ta_is Tryz.underlying76
  have HB := Lib.hid hb
  clear hb hc hcall hv hbs hne
  go_enter Tryz.func66, Tryz.ntmps66
  go_wp2_with (first | (go_at_call 97; refine (wConst_calls w0 bs (kwMLine ++ [40]) 16 _ _ rfl rfl HB.out (by omega)).mono ?_; rintro e w1 ⟨⟨v, rfl⟩, hb1⟩; have HB1 := Lib.hid hb1; clear hb1))
  clear n61 n72 n65 a1 kc
  clear h0
  go_loopg [116] ds.length (fun g s10 wr => ∃ (i : Nat), i ≤ ds.length ∧ g = ds.length - i ∧ s10 = .int .i64 i ∧ Hid (Buf w0 (bs ++ kwMLine ++ 40 :: jn [] ((ds.take i).map T)) wr))
  case atStart => exact ⟨0, by omega, rfl, rfl, by have := HB1.out; rw [show bs ++ (kwMLine ++ [40]) = bs ++ kwMLine ++ 40 :: jn [] ((ds.take 0).map T) from by simp [jn]] at this; exact this⟩
  case round =>
    obtain ⟨i, hi1, rfl, rfl, hh⟩ := hrel
    by_cases hlt : i < ds.length
    · obtain ⟨p, hp⟩ : ∃ p, ds[i]? = some p := ⟨_, List.getElem?_eq_getElem hlt⟩
      obtain ⟨a, y, rfl, c0, hy⟩ := HC.out i p hp
      have c0' := hh.out.1.cellOf c0
      have HX := Lib.hid (fun bs' wx hbx hl => HCALL.out p (List.mem_of_getElem? hp) y bs' wx hy hbx hl)
      obtain ⟨ao1, nn1, cap1, rfl⟩ := HV.out _ _ hy
      have HPP := Lib.hid hp
      clear c0 hp hy
      by_cases h0 : i = 0
      · subst h0
        rw [show a.add 0 = a from rfl] at c0'
        have HGO := Lib.hid ((jn_step [] ds T 0 p HPP.out).trans (if_pos rfl))
        have HFIT := Lib.hid (Nat.le_trans (jn_fit0 (bs ++ kwMLine) ds T p HPP.out) HLB.out)
        go_wp2_with (go_at_call 99; refine (HX.out _ _ hh.out HFIT.out).mono ?_; rintro e w2 ⟨rfl, hb2⟩; have HB2 := Lib.hid hb2; clear hb2)
        go_roundg (ds.length - (0 + 1))
        case measure => omega
        case rel =>
          refine ⟨0 + 1, by omega, rfl, by go_num, ?_⟩
          rw [HGO.out]
          have := HB2.out
          show Buf w0 _ w2
          simpa [jn] using this
      · have h0' : ((i : Int) == 0) = false := by simp [h0]
        have HGO := Lib.hid ((jn_step [] ds T i p HPP.out).trans (if_neg h0))
        have HFIT := Lib.hid (Nat.le_trans (jn_fit (bs ++ kwMLine) ds T i p HPP.out h0) HLB.out)
        go_wp2_with (first | (go_at_call 98; refine (wByte_calls w0 _ 44 _ hh.out (by have := HFIT.out; rw [List.length_append, List.length_append] at this; omega)).mono ?_; rintro e w3 ⟨rfl, hb3, -⟩; have HB3 := Lib.hid hb3; clear hb3) | (go_at_call 99; refine (HX.out _ _ HB3.out HFIT.out).mono ?_; rintro e w2 ⟨rfl, hb2⟩; have HB2 := Lib.hid hb2; clear hb2))
        go_roundg (ds.length - (i + 1))
        case measure => omega
        case rel =>
          refine ⟨i + 1, by omega, rfl, by go_num, ?_⟩
          rw [HGO.out]
          have := HB2.out
          show Buf w0 _ w2
          simpa using this
    · obtain rfl : i = ds.length := by omega
      have hkz : ¬ ((ds.length : Int) < (ds.length : Int)) := by omega
      have hb := hh.out
      rw [List.take_length] at hb
      have HBU := Lib.hid hb
      clear hb hh
      go_wp2_with (go_at_call 98; refine (wByte_calls w0 _ 41 _ HBU.out (by have := HLB.out; simp only [List.length_append, List.length_cons, List.length_nil] at *; omega)).mono ?_; rintro e w2 ⟨rfl, hb2, -⟩; have HB2 := Lib.hid hb2; clear hb2)
      first | go_end0 | (refine bodyPost_ret (results_none rfl _ _ _) rfl ?_)
      exact ⟨rfl, HB2.out⟩

set_option maxRecDepth 100000 in
set_option maxHeartbeats 8000000 in
theorem wkt_poly1 {δ : Type} (R : Value → δ → Prop) (T : δ → List UInt8) (w0 : World) (bs : List UInt8) (x : Value) (ds : List δ) (w : World) (hx : RowAt (fun _ => R) w0 x ds) (hne : ds ≠ []) (hv : ∀ (v : Value) (g : δ), R v g → ∃ ao n cap, v = .slice ao n cap) (hs : ds.length ≤ 100000) (hb : Buf w0 bs w) (hbs : (bs ++ kwPoly ++ 40 :: jn [] (ds.map T) ++ [41]).length ≤ 100000000)
    (hcall : ∀ g ∈ ds, ∀ (v : Value) (bs' : List UInt8) (wx : World), R v g → Buf w0 bs' wx → (bs' ++ T g).length ≤ 100000000 → Calls Tryz.prog 99 #[.pointer (some ⟨w0.heap.size, 0, none⟩), v] wx fun e w' => e = .returned (.tuple #[]) ∧ Buf w0 (bs' ++ T g) w') :
    Calls Tryz.prog 66 #[.pointer (some ⟨w0.heap.size, 0, none⟩), .iface 69 x] w fun e w' => e = .returned (.tuple #[]) ∧ Buf w0 (bs ++ kwPoly ++ 40 :: jn [] (ds.map T) ++ [41]) w' := by
  obtain ⟨ao, cap, rfl, -, hc⟩ := hx
  have h0 : ((ds.length : Int) == 0) = false := by cases ds with | nil => exact absurd rfl hne | cons a b => simp; omega
  have HC := Lib.hid hc
  have HCALL := Lib.hid hcall
  have HV := Lib.hid hv
  have HLB := Lib.hid hbs
  have hbl : bs.length ≤ 100000000 := by simp only [List.length_append] at hbs; omega
  have kc := fun (w : World) (C : Array Value) (n c : Nat) => Lib.run_convert_bytes_const (P := Tryz.prog) w 92 5 C n c Tryz.underlying92 Tryz.underlying5
  have n61 := ta_not61 69 (by decide)
  have n72 := ta_not Tryz.underlying72 z72 69 (by decide)
  have n65 := ta_not Tryz.underlying65 z65 69 (by decide)
  have n76 := ta_not Tryz.underlying76 z76 69 (by decide)
  have n117 := ta_not117 69 (by decide)
  have a1 := ta_is Tryz.underlying69
  have HB := Lib.hid hb
  clear hb hc hcall hv hbs hne
  go_enter Tryz.func66, Tryz.ntmps66
  go_wp2_with (first | (go_at_call 97; refine (wConst_calls w0 bs (kwPoly ++ [40]) 8 _ _ rfl rfl HB.out (by omega)).mono ?_; rintro e w1 ⟨⟨v, rfl⟩, hb1⟩; have HB1 := Lib.hid hb1; clear hb1))
  clear n61 n72 n65 n76 n117 a1 kc
  clear h0
  go_loopg [155] ds.length (fun g s10 wr => ∃ (i : Nat), i ≤ ds.length ∧ g = ds.length - i ∧ s10 = .int .i64 i ∧ Hid (Buf w0 (bs ++ kwPoly ++ 40 :: jn [] ((ds.take i).map T)) wr))
  case atStart => exact ⟨0, by omega, rfl, rfl, by have := HB1.out; rw [show bs ++ (kwPoly ++ [40]) = bs ++ kwPoly ++ 40 :: jn [] ((ds.take 0).map T) from by simp [jn]] at this; exact this⟩
  case round =>
    obtain ⟨i, hi1, rfl, rfl, hh⟩ := hrel
    by_cases hlt : i < ds.length
    · obtain ⟨p, hp⟩ : ∃ p, ds[i]? = some p := ⟨_, List.getElem?_eq_getElem hlt⟩
      obtain ⟨a, y, rfl, c0, hy⟩ := HC.out i p hp
      have c0' := hh.out.1.cellOf c0
      have HX := Lib.hid (fun bs' wx hbx hl => HCALL.out p (List.mem_of_getElem? hp) y bs' wx hy hbx hl)
      obtain ⟨ao1, nn1, cap1, rfl⟩ := HV.out _ _ hy
      have HPP := Lib.hid hp
      clear c0 hp hy
      by_cases h0 : i = 0
      · subst h0
        rw [show a.add 0 = a from rfl] at c0'
        have HGO := Lib.hid ((jn_step [] ds T 0 p HPP.out).trans (if_pos rfl))
        have HFIT := Lib.hid (Nat.le_trans (jn_fit0 (bs ++ kwPoly) ds T p HPP.out) HLB.out)
        go_wp2_with (go_at_call 99; refine (HX.out _ _ hh.out HFIT.out).mono ?_; rintro e w2 ⟨rfl, hb2⟩; have HB2 := Lib.hid hb2; clear hb2)
        go_roundg (ds.length - (0 + 1))
        case measure => omega
        case rel =>
          refine ⟨0 + 1, by omega, rfl, by go_num, ?_⟩
          rw [HGO.out]
          have := HB2.out
          show Buf w0 _ w2
          simpa [jn] using this
      · have h0' : ((i : Int) == 0) = false := by simp [h0]
        have HGO := Lib.hid ((jn_step [] ds T i p HPP.out).trans (if_neg h0))
        have HFIT := Lib.hid (Nat.le_trans (jn_fit (bs ++ kwPoly) ds T i p HPP.out h0) HLB.out)
        go_wp2_with (first | (go_at_call 98; refine (wByte_calls w0 _ 44 _ hh.out (by have := HFIT.out; rw [List.length_append, List.length_append] at this; omega)).mono ?_; rintro e w3 ⟨rfl, hb3, -⟩; have HB3 := Lib.hid hb3; clear hb3) | (go_at_call 99; refine (HX.out _ _ HB3.out HFIT.out).mono ?_; rintro e w2 ⟨rfl, hb2⟩; have HB2 := Lib.hid hb2; clear hb2))
        go_roundg (ds.length - (i + 1))
        case measure => omega
        case rel =>
          refine ⟨i + 1, by omega, rfl, by go_num, ?_⟩
          rw [HGO.out]
          have := HB2.out
          show Buf w0 _ w2
          simpa using this
    · obtain rfl : i = ds.length := by omega
      have hkz : ¬ ((ds.length : Int) < (ds.length : Int)) := by omega
      have hb := hh.out
      rw [List.take_length] at hb
      have HBU := Lib.hid hb
      clear hb hh
      go_wp2_with (go_at_call 98; refine (wByte_calls w0 _ 41 _ HBU.out (by have := HLB.out; simp only [List.length_append, List.length_cons, List.length_nil] at *; omega)).mono ?_; rintro e w2 ⟨rfl, hb2, -⟩; have HB2 := Lib.hid hb2; clear hb2)
      first | go_end0 | (refine bodyPost_ret (results_none rfl _ _ _) rfl ?_)
      exact ⟨rfl, HB2.out⟩

set_option maxRecDepth 100000 in
set_option maxHeartbeats 8000000 in
theorem wkt_coll1 {δ : Type} (R : Value → δ → Prop) (T : δ → List UInt8) (w0 : World) (bs : List UInt8) (x : Value) (ds : List δ) (w : World) (hx : RowAt (fun _ => R) w0 x ds) (hne : ds ≠ []) (hv : ∀ (v : Value) (g : δ), R v g → ∃ T y, v = .iface T y) (hs : ds.length ≤ 100000) (hb : Buf w0 bs w) (hbs : (bs ++ kwColl ++ 40 :: jn [] (ds.map T) ++ [41]).length ≤ 100000000)
    (hcall : ∀ g ∈ ds, ∀ (v : Value) (bs' : List UInt8) (wx : World), R v g → Buf w0 bs' wx → (bs' ++ T g).length ≤ 100000000 → Calls Tryz.prog 66 #[.pointer (some ⟨w0.heap.size, 0, none⟩), v] wx fun e w' => e = .returned (.tuple #[]) ∧ Buf w0 (bs' ++ T g) w') :
    Calls Tryz.prog 66 #[.pointer (some ⟨w0.heap.size, 0, none⟩), .iface 84 x] w fun e w' => e = .returned (.tuple #[]) ∧ Buf w0 (bs ++ kwColl ++ 40 :: jn [] (ds.map T) ++ [41]) w' := by
  obtain ⟨ao, cap, rfl, -, hc⟩ := hx
  have h0 : ((ds.length : Int) == 0) = false := by cases ds with | nil => exact absurd rfl hne | cons a b => simp; omega
  have HC := Lib.hid hc
  have HCALL := Lib.hid hcall
  have HV := Lib.hid hv
  have HLB := Lib.hid hbs
  have hbl : bs.length ≤ 100000000 := by simp only [List.length_append] at hbs; omega
  have kc := fun (w : World) (C : Array Value) (n c : Nat) => Lib.run_convert_bytes_const (P := Tryz.prog) w 92 5 C n c Tryz.underlying92 Tryz.underlying5
  have n61 := ta_not61 84 (by decide)
  have n72 := ta_not Tryz.underlying72 z72 84 (by decide)
  have n65 := ta_not Tryz.underlying65 z65 84 (by decide)
  have n76 := ta_not Tryz.underlying76 z76 84 (by decide)
  have n117 := ta_not117 84 (by decide)
  have n69 := ta_not Tryz.underlying69 z69 84 (by decide)
  have n80 := ta_not Tryz.underlying80 z80 84 (by decide)
  have a1 := ta_is Tryz.underlying84
  have HB := Lib.hid hb
  clear hb hc hcall hv hbs hne
  go_enter Tryz.func66, Tryz.ntmps66
  go_wp2_with (first | (go_at_call 97; refine (wConst_calls w0 bs (kwColl ++ [40]) 19 _ _ rfl rfl HB.out (by omega)).mono ?_; rintro e w1 ⟨⟨v, rfl⟩, hb1⟩; have HB1 := Lib.hid hb1; clear hb1))
  clear n61 n72 n65 n76 n117 n69 n80 a1 kc
  clear h0
  go_loopg [233] ds.length (fun g s10 wr => ∃ (i : Nat), i ≤ ds.length ∧ g = ds.length - i ∧ s10 = .int .i64 i ∧ Hid (Buf w0 (bs ++ kwColl ++ 40 :: jn [] ((ds.take i).map T)) wr))
  case atStart => exact ⟨0, by omega, rfl, rfl, by have := HB1.out; rw [show bs ++ (kwColl ++ [40]) = bs ++ kwColl ++ 40 :: jn [] ((ds.take 0).map T) from by simp [jn]] at this; exact this⟩
  case round =>
    obtain ⟨i, hi1, rfl, rfl, hh⟩ := hrel
    by_cases hlt : i < ds.length
    · obtain ⟨p, hp⟩ : ∃ p, ds[i]? = some p := ⟨_, List.getElem?_eq_getElem hlt⟩
      obtain ⟨a, y, rfl, c0, hy⟩ := HC.out i p hp
      have c0' := hh.out.1.cellOf c0
      have HX := Lib.hid (fun bs' wx hbx hl => HCALL.out p (List.mem_of_getElem? hp) y bs' wx hy hbx hl)
      obtain ⟨TT, yy, rfl⟩ := HV.out _ _ hy
      have HPP := Lib.hid hp
      clear c0 hp hy
      by_cases h0 : i = 0
      · subst h0
        rw [show a.add 0 = a from rfl] at c0'
        have HGO := Lib.hid ((jn_step [] ds T 0 p HPP.out).trans (if_pos rfl))
        have HFIT := Lib.hid (Nat.le_trans (jn_fit0 (bs ++ kwColl) ds T p HPP.out) HLB.out)
        go_wp2_with (go_at_call 66; refine (HX.out _ _ hh.out HFIT.out).mono ?_; rintro e w2 ⟨rfl, hb2⟩; have HB2 := Lib.hid hb2; clear hb2)
        go_roundg (ds.length - (0 + 1))
        case measure => omega
        case rel =>
          refine ⟨0 + 1, by omega, rfl, by go_num, ?_⟩
          rw [HGO.out]
          have := HB2.out
          show Buf w0 _ w2
          simpa [jn] using this
      · have h0' : ((i : Int) == 0) = false := by simp [h0]
        have HGO := Lib.hid ((jn_step [] ds T i p HPP.out).trans (if_neg h0))
        have HFIT := Lib.hid (Nat.le_trans (jn_fit (bs ++ kwColl) ds T i p HPP.out h0) HLB.out)
        go_wp2_with (first | (go_at_call 98; refine (wByte_calls w0 _ 44 _ hh.out (by have := HFIT.out; rw [List.length_append, List.length_append] at this; omega)).mono ?_; rintro e w3 ⟨rfl, hb3, -⟩; have HB3 := Lib.hid hb3; clear hb3) | (go_at_call 66; refine (HX.out _ _ HB3.out HFIT.out).mono ?_; rintro e w2 ⟨rfl, hb2⟩; have HB2 := Lib.hid hb2; clear hb2))
        go_roundg (ds.length - (i + 1))
        case measure => omega
        case rel =>
          refine ⟨i + 1, by omega, rfl, by go_num, ?_⟩
          rw [HGO.out]
          have := HB2.out
          show Buf w0 _ w2
          simpa using this
    · obtain rfl : i = ds.length := by omega
      have hkz : ¬ ((ds.length : Int) < (ds.length : Int)) := by omega
      have hb := hh.out
      rw [List.take_length] at hb
      have HBU := Lib.hid hb
      clear hb hh
      go_wp2_with (go_at_call 98; refine (wByte_calls w0 _ 41 _ HBU.out (by have := HLB.out; simp only [List.length_append, List.length_cons, List.length_nil] at *; omega)).mono ?_; rintro e w2 ⟨rfl, hb2, -⟩; have HB2 := Lib.hid hb2; clear hb2)
      first | go_end0 | (refine bodyPost_ret (results_none rfl _ _ _) rfl ?_)
      exact ⟨rfl, HB2.out⟩
end Go.Proofs.YtghajgdiaopioaaGreatDoor
