/- Walks: impl.Read. -/
import Derived.Lib.BufferOld
import Derived.Test.YtghajgdiaopioaaGreatDoorW20
set_option linter.unusedVariables false
set_option linter.unusedSimpArgs false

namespace Go.Proofs.YtghajgdiaopioaaGreatDoor
open Go.RowKit
attribute [local go_sem] run_store_float run_store_iface run_store_nilIface

set_option maxRecDepth 10000 in
set_option maxHeartbeats 4000000 in
theorem read_err (G : Errs) (d : Nat) (l : List UInt8) (w : World) (hE : Env G w) (h : GeoReads G d l none) :
    Calls Tryz.prog 15 #[.string (ofL l)] w fun e w' => (∃ v, e = .returned (.tuple #[v, .bool false])) ∧ Bel w w' := by
  have HU := Lib.hid (fun wx (hb : Bel w wx) => unm_calls G d l none wx (hE.bel hb) h)
  clear h hE
  generalize ofL l = s at *
  go_enter Tryz.func15, Tryz.ntmps15
  go_wp2_with fail
  have hres : (w.alloc (.cells #[.int .i64 0, .slice none 0 0, .slice none 0 0] 25)).heap[w.heap.size]? = some (.cells #[.int .i64 0, .slice none 0 0, .slice none 0 0] 25) := heap_alloc_new _ _
  have hb0 : Bel w (w.alloc (.cells #[.int .i64 0, .slice none 0 0, .slice none 0 0] 25)) := Bel.al _ _
  generalize w.alloc (.cells #[.int .i64 0, .slice none 0 0, .slice none 0 0] 25) = w0 at *
  refine (HU.out w0 hb0).mono ?_
  rintro e w1 ⟨⟨a, rfl⟩, hb1⟩
  have hres1 := hb1.heap hres
  have p0 : w1.cell? ⟨w.heap.size, 0, none⟩ = some (.int .i64 0) := by simp [World.cell?, hres1]
  have p1 : w1.cell? ⟨w.heap.size, 1, none⟩ = some (.slice none 0 0) := by simp [World.cell?, hres1]
  have p2 : w1.cell? ⟨w.heap.size, 2, none⟩ = some (.slice none 0 0) := by simp [World.cell?, hres1]
  have r0 : w1.frozen? ⟨w.heap.size, 0, none⟩ = false := by simp [World.frozen?, hres1]
  have r1 : w1.frozen? ⟨w.heap.size, 1, none⟩ = false := by simp [World.frozen?, hres1]
  have r2 : w1.frozen? ⟨w.heap.size, 2, none⟩ = false := by simp [World.frozen?, hres1]
  have HB1 := Lib.hid (hb0.tr hb1)
  clear hres1 hres hb1 hb0
  go_wp2
  (try simp only [Exit.inBlock, Exit.then])
  refine bodyPost_ret (v := .tuple #[.agg #[.int .i64 0, .slice none 0 0, .slice none 0 0], .bool false]) ?_ rfl ⟨⟨_, rfl⟩, ?_⟩
  · simp [results, Tryz.results15, go_sem, p0, p1, p2]
  · exact set3_bel HB1.out (Nat.le_refl _)

set_option maxRecDepth 10000 in
set_option maxHeartbeats 4000000 in
theorem read_ok (G : Errs) (d : Nat) (l : List UInt8) (g : Geo) (w : World) (hE : Env G w) (h : GeoReads G d l (some g)) (hs : Small d g) :
    Calls Tryz.prog 15 #[.string (ofL l)] w fun e w' => (∃ v, e = .returned (.tuple #[v, .bool true]) ∧ ShpAt (d + 2) w' v (toShp d g)) ∧ Bel w w' := by
  have HU := Lib.hid (fun wx (hb : Bel w wx) => unm_calls G d l (some g) wx (hE.bel hb) h)
  clear h hE
  generalize ofL l = s at *
  go_enter Tryz.func15, Tryz.ntmps15
  go_wp2_with fail
  have hres : (w.alloc (.cells #[.int .i64 0, .slice none 0 0, .slice none 0 0] 25)).heap[w.heap.size]? = some (.cells #[.int .i64 0, .slice none 0 0, .slice none 0 0] 25) := heap_alloc_new _ _
  have hb0 : Bel w (w.alloc (.cells #[.int .i64 0, .slice none 0 0, .slice none 0 0] 25)) := Bel.al _ _
  generalize w.alloc (.cells #[.int .i64 0, .slice none 0 0, .slice none 0 0] 25) = w0 at *
  refine (HU.out w0 hb0).mono ?_
  rintro e w1 ⟨⟨v, rfl, hv⟩, hb1⟩
  obtain ⟨T, x, rfl⟩ := hv.iface
  have hres1 := hb1.heap hres
  have HS := Lib.hid (shapeOf_calls d (.iface T x) g w1 (RdGeo.at _ _ _ hv) hs)
  have HRES1 := Lib.hid hres1
  have HB1 := Lib.hid (hb0.tr hb1)
  clear hres1 hres hb1 hb0 hv
  go_wp2_with fail
  refine HS.out.mono ?_
  rintro e w2 ⟨⟨c0, c1, c2, rfl, hy⟩, hb2⟩
  obtain ⟨k0, a5, n5, cap5, a6, n6, cap6, rfl, rfl, rfl⟩ := shp_form hy
  have hres1 := hb2.heap HRES1.out
  have p0 : w2.cell? ⟨w.heap.size, 0, none⟩ = some (.int .i64 0) := by simp [World.cell?, hres1]
  have p1 : w2.cell? ⟨w.heap.size, 1, none⟩ = some (.slice none 0 0) := by simp [World.cell?, hres1]
  have p2 : w2.cell? ⟨w.heap.size, 2, none⟩ = some (.slice none 0 0) := by simp [World.cell?, hres1]
  have r0 : w2.frozen? ⟨w.heap.size, 0, none⟩ = false := by simp [World.frozen?, hres1]
  have r1 : w2.frozen? ⟨w.heap.size, 1, none⟩ = false := by simp [World.frozen?, hres1]
  have r2 : w2.frozen? ⟨w.heap.size, 2, none⟩ = false := by simp [World.frozen?, hres1]
  have HB2 := Lib.hid (HB1.out.tr hb2)
  have HY := Lib.hid hy
  have HRES2 := Lib.hid hres1
  have hlt1 := lt_heap HRES1.out
  clear hres1 hb2 hy
  go_wp2
  (try simp only [Exit.inBlock, Exit.then])
  refine bodyPost_ret (v := .tuple #[.agg #[.int .i64 k0, .slice a5 n5 cap5, .slice a6 n6 cap6], .bool true]) ?_ rfl ⟨⟨_, rfl, ?_⟩, ?_⟩
  · simp [results, Tryz.results15, go_sem, p0, p1, p2]
  · exact RdShp.at _ _ _ (RdShp.keep (set3_skept HRES2.out (fun k h => by omega)) _ _ _ HY.out)
  · exact set3_bel HB2.out (Nat.le_refl _)
end Go.Proofs.YtghajgdiaopioaaGreatDoor

/- Walks: a line is written to a buffer. -/
namespace Go.Proofs.YtghajgdiaopioaaGreatDoor
open Go.RowKit
attribute [local go_sem] run_store_float run_store_iface run_store_nilIface
attribute [local go_sem ↓] Go.wp_at_zero Go.wp_at_succ

/-- Behind w0 a buffer was made (its block is the first new one), and it holds these bytes. -/
def Buf (w0 : World) (bs : List UInt8) (w : World) : Prop := Bel w0 w ∧ Lib.IsBuffer 123 5 w0.heap.size w0.heap.size (Lib.byteCells bs) w
theorem Buf.old {w0 w w' : World} {bs : List UInt8} (h : Buf w0 bs w) (hb : Bel w w') : Buf w0 bs w' := ⟨h.1.tr hb, h.2.old hb⟩
theorem byteCells_app (a b : List UInt8) : Lib.byteCells (a ++ b) = Lib.byteCells a ++ Lib.byteCells b := by simp [Lib.byteCells]
theorem byteCells_one (l : List UInt8) : ∀ v ∈ Lib.byteCells l, v.oneCell' = true := by
  intro v hv
  simp only [Lib.byteCells, List.mem_map] at hv
  obtain ⟨a, _, rfl⟩ := hv
  rfl
theorem byteCells_length (l : List UInt8) : (Lib.byteCells l).length = l.length := by simp [Lib.byteCells]
/-- A byte, a text, is written. -/
theorem wByte_calls (w0 : World) (bs : List UInt8) (c : UInt8) (w : World) (h : Buf w0 bs w) (hl : bs.length ≤ 1000000000) :
    Calls Tryz.prog 98 #[.pointer (some ⟨w0.heap.size, 0, none⟩), .int .u8 c.toNat] w fun e w' => e = .returned .nilIface ∧ Buf w0 (bs ++ [c]) w' ∧ Lib.OthersKept 5 (some w0.heap.size) w w' :=
  (Tryz.Buffer_WriteByte_k w0.heap.size w0.heap.size (Lib.byteCells bs) c.toNat w h.2 h.1.size (byteCells_one _) (by rw [byteCells_length]; omega)).mono fun e w' ⟨h1, h2, h3, h4⟩ => ⟨h1, ⟨h.1.trans h3, by rw [byteCells_app]; exact h2⟩, h4⟩
theorem wStr_calls (w0 : World) (bs : List UInt8) (s : ByteArray) (w : World) (h : Buf w0 bs w) (hl : bs.length + s.size ≤ 1000000000) :
    Calls Tryz.prog 95 #[.pointer (some ⟨w0.heap.size, 0, none⟩), .string s] w fun e w' => (∃ v, e = .returned v) ∧ Buf w0 (bs ++ toL s) w' ∧ Lib.OthersKept 5 (some w0.heap.size) w w' :=
  (Tryz.Buffer_WriteString_k w0.heap.size w0.heap.size (Lib.byteCells bs) s w h.2 h.1.size (byteCells_one _) (by rw [byteCells_length]; omega)).mono fun e w' ⟨h1, h2, h3, h4⟩ => ⟨⟨_, h1⟩, ⟨h.1.trans h3, by rw [byteCells_app]; exact h2⟩, h4⟩

/-- Texts with commas between them. -/
def jn (sp : List UInt8) : List (List UInt8) → List UInt8
  | [] => []
  | t :: ts => t ++ ts.flatMap fun u => 44 :: sp ++ u
theorem jn_snoc (sp : List UInt8) (ts : List (List UInt8)) (u : List UInt8) : jn sp (ts ++ [u]) = if ts = [] then u else jn sp ts ++ (44 :: sp ++ u) := by
  cases ts with
  | nil => simp [jn]
  | cons t ts => simp [jn]
def NumWrites (G : Errs) (x : Nat) (t : List UInt8) : Prop := t.length ≤ 1000 ∧ ∀ w, Env G w → Calls Tryz.prog 96 #[.float .f64 x] w fun e w' => e = .returned (.string (ofL t)) ∧ Bel w w'
def ptT (nt : Nat → List UInt8) (p : Pt) : List UInt8 := nt p.1 ++ 32 :: nt p.2
def lineT (sp : List UInt8) (nt : Nat → List UInt8) (l : List Pt) : List UInt8 := 40 :: jn sp (l.map (ptT nt)) ++ [41]
theorem keep2 {w w' : World} {a b : Addr} {v u : Value} (hb : Bel w w') (h : w.cell? a = some v ∧ w.cell? b = some u) : w'.cell? a = some v ∧ w'.cell? b = some u := ⟨hb.cellOf h.1, hb.cellOf h.2⟩
theorem keepBox {w : World} {k : Nat} {u v : Value} {e : TypeId} {fz : Nat × Nat} (h : w.heap[k]? = some (.cells #[u, v] e fz)) : w.cell? ⟨k, 0, none⟩ = some u ∧ w.cell? ⟨k, 1, none⟩ = some v := ⟨by simp [World.cell?, h], by simp [World.cell?, h]⟩
theorem toL_app (a b : ByteArray) : toL (a ++ b) = toL a ++ toL b := by simp [toL]

theorem strSize (t1 t2 : ByteArray) (h1 : t1.size ≤ 1000) (h2 : t2.size ≤ 1000) : (({ data := #[] } : ByteArray) ++ t1 ++ { data := #[32] } ++ t2 ++ { data := #[] }).size ≤ 2001 := by
  have z0 : ({ data := #[] } : ByteArray).size = 0 := rfl
  have z1 : ({ data := #[32] } : ByteArray).size = 1 := rfl
  simp only [ByteArray.size_append, z0, z1]
  omega
theorem strText (t1 t2 : ByteArray) (a b : List UInt8) (h1 : ofL a = t1) (h2 : ofL b = t2) : toL (({ data := #[] } : ByteArray) ++ t1 ++ { data := #[32] } ++ t2 ++ { data := #[] }) = a ++ 32 :: b := by
  subst h1 h2
  simp only [toL_app, toL_ofL]
  rw [show toL ({ data := #[] } : ByteArray) = [] from rfl, show toL ({ data := #[32] } : ByteArray) = [32] from rfl]
  simp

set_option maxRecDepth 100000 in
set_option maxHeartbeats 8000000 in
theorem writeLine_calls (G : Errs) (nt : Nat → List UInt8) (w0 : World) (hE : Env G w0) (bs : List UInt8) (x : Value) (l : List Pt) (w : World) (hx : PtsAt w0 x l) (hn : ∀ p ∈ l, NumWrites G p.1 (nt p.1) ∧ NumWrites G p.2 (nt p.2)) (hs : l.length ≤ 100000) (hb : Buf w0 bs w) (hbs : bs.length ≤ 100000000) :
    Calls Tryz.prog 99 #[.pointer (some ⟨w0.heap.size, 0, none⟩), x] w fun e w' => e = .returned (.tuple #[]) ∧ Buf w0 (bs ++ lineT [] nt l) w' := by
  obtain ⟨ao, cap, rfl, -, hc⟩ := hx
  have HC := Lib.hid hc
  have HN := Lib.hid hn
  have HE := Lib.hid hE
  have HB := Lib.hid hb
  clear hc hn hE hb
  go_enter Tryz.func99, Tryz.ntmps99
  go_wp2_with (go_at_call 98; refine (wByte_calls w0 bs 40 _ HB.out (by omega)).mono ?_; rintro e w1 ⟨rfl, hb1, -⟩; have HB1 := Lib.hid hb1; clear hb1)
  go_loopg [10] l.length (fun g s10 wr => ∃ (i : Nat), i ≤ l.length ∧ g = l.length - i ∧ s10 = .int .i64 i ∧ Hid (Buf w0 (bs ++ 40 :: jn [] ((l.take i).map (ptT nt))) wr ∧ (bs ++ 40 :: jn [] ((l.take i).map (ptT nt))).length ≤ 100000001 + i * 2002))
  case atStart => exact ⟨0, by omega, rfl, rfl, HB1.out, by simp [jn]; omega⟩
  case round =>
    obtain ⟨i, hi1, rfl, rfl, hh⟩ := hrel
    by_cases hlt : i < l.length
    · obtain ⟨hb, hlen⟩ := hh.out
      obtain ⟨p, hp⟩ : ∃ p, l[i]? = some p := ⟨_, List.getElem?_eq_getElem hlt⟩
      obtain ⟨a, rfl, c0, c1⟩ := HC.out i p hp
      have c0' := hb.1.cellOf c0
      have c1' := hb.1.cellOf c1
      obtain ⟨⟨hl1, hn1⟩, hl2, hn2⟩ := HN.out p (List.mem_of_getElem? hp)
      obtain ⟨x1, x2⟩ := p
      have HN1 := Lib.hid (fun wx (hb : Bel w0 wx) => hn1 wx (HE.out.bel hb))
      have HN2 := Lib.hid (fun wx (hb : Bel w0 wx) => hn2 wx (HE.out.bel hb))
      have HPA := Lib.hid hp
      have HBU := Lib.hid hb
      have hz1 : (ofL (nt x1)).size ≤ 1000 := by rw [ofL_size]; exact hl1
      have hz2 : (ofL (nt x2)).size ≤ 1000 := by rw [ofL_size]; exact hl2
      have HLEN := Lib.hid hlen
      clear hn1 hn2 hp c0 c1 hb hlen hh hl1 hl2
      by_cases h0 : i = 0
      · subst h0
        rw [show a.add (0 * 2) = a from rfl] at c0' c1'
        go_wp2_with fail
        have hbw : Buf w0 (bs ++ 40 :: jn [] ((l.take 0).map (ptT nt))) (wr.alloc (.cells #[.float .f64 x1, .float .f64 x2] 61)) := HBU.out.old (Bel.al _ _)
        have hbox : (wr.alloc (.cells #[.float .f64 x1, .float .f64 x2] 61)).heap[wr.heap.size]? = some (.cells #[.float .f64 x1, .float .f64 x2] 61 (0, 0)) := heap_alloc_new _ _
        generalize wr.alloc (.cells #[.float .f64 x1, .float .f64 x2] 61) = w2 at *
        have q0 : w2.cell? ⟨wr.heap.size, 0, none⟩ = some (.float .f64 x1) := by simp [World.cell?, hbox]
        have q1 : w2.cell? ⟨wr.heap.size, 1, none⟩ = some (.float .f64 x2) := by simp [World.cell?, hbox]
        have HBW := Lib.hid hbw
        have HBOX := Lib.hid hbox
        have hne2 : some wr.heap.size ≠ some w0.heap.size := fun hc => by have := Option.some.inj hc; have := HBU.out.2.lt; omega
        clear hbw
        clear c0' c1' hbox
        have n1 : ¬ (9223372036854775807 < (ofL (nt x1)).size) := by omega
        have n2 : ¬ (9223372036854775807 < (ofL (nt x1)).size + 1) := by omega
        have n3 : ¬ (9223372036854775807 < (ofL (nt x1)).size + 1 + (ofL (nt x2)).size) := by omega
        generalize hT1 : ofL (nt x1) = t1 at *
        generalize hT2 : ofL (nt x2) = t2 at *
        have HT1 := Lib.hid hT1
        have HT2 := Lib.hid hT2
        clear hT1 hT2
        go_region_held3 (fun w' => w'.cell? ⟨wr.heap.size, 0, none⟩ = some (.float .f64 x1) ∧ w'.cell? ⟨wr.heap.size, 1, none⟩ = some (.float .f64 x2)) (first | exact keep2 hc (by assumption) | exact keepBox hbx5 | go_keep)
          (first | (go_at_call 96; refine (HN1.out _ (HBW.out.1.tr (by first | exact hbb | exact Bel.dr1 _))).mono ?_; rintro e w3 ⟨rfl, hc⟩; have hbb : Bel w2 w3 := (by first | exact hbb.tr hc | exact (Bel.dr1 _).tr hc)) | (go_at_call 96; refine (HN2.out _ (HBW.out.1.tr (by first | exact hbb | exact Bel.dr1 _))).mono ?_; rintro e w3 ⟨rfl, hc⟩; have hbb : Bel w2 w3 := (by first | exact hbb.tr hc | exact (Bel.dr1 _).tr hc)) | (go_at_call 95; refine (wStr_calls w0 _ _ _ (HBW.out.old hbb) (by have := HLEN.out; have := strSize t1 t2 hz1 hz2; simp only [List.length_append, List.length_cons, List.length_nil] at *; omega)).mono ?_; rintro e w5 ⟨⟨v5, rfl⟩, hb5, hk5⟩; have hbx5 := hk5 _ _ (hbb.heap HBOX.out) hne2 (fun c fz hc => by cases hc)))
        all_goals
          have HB5 := Lib.hid hb5
          clear hb5 hk5 hbx5 hbb hc
          go_wp2
          go_roundg (l.length - (0 + 1))
          case measure => omega
          case rel =>
            have hs5 := strText t1 t2 _ _ HT1.out HT2.out
            have htk : l.take (0 + 1) = l.take 0 ++ [(x1, x2)] := by rw [List.take_add_one, HPA.out]; rfl
            have he : bs ++ 40 :: jn [] ((l.take (0 + 1)).map (ptT nt)) = (bs ++ 40 :: jn [] ((l.take 0).map (ptT nt))) ++ (nt x1 ++ 32 :: nt x2) := by
              rw [htk, List.map_append, show [(x1, x2)].map (ptT nt) = [ptT nt (x1, x2)] from rfl, jn_snoc]
              simp [ptT, jn]
            refine ⟨0 + 1, by omega, rfl, by go_num, ?_, ?_⟩
            · have hb6 := HB5.out
              rw [hs5] at hb6
              rw [he]
              exact hb6
            · have h7 := HLEN.out
              have h8 : (nt x1).length ≤ 1000 := by rw [← ofL_size, HT1.out]; exact hz1
              have h9 : (nt x2).length ≤ 1000 := by rw [← ofL_size, HT2.out]; exact hz2
              rw [he]
              simp only [List.length_append, List.length_cons, List.length_nil] at h7 ⊢
              omega
      · have h0' : ((i : Int) == 0) = false := by simp [h0]
        go_wp2_with fail
        have hbx : (wr.alloc (.cells #[.float .f64 x1, .float .f64 x2] 61)).heap[wr.heap.size]? = some (.cells #[.float .f64 x1, .float .f64 x2] 61 (0, 0)) := heap_alloc_new _ _
        have hbu : Buf w0 (bs ++ 40 :: jn [] ((l.take i).map (ptT nt))) (wr.alloc (.cells #[.float .f64 x1, .float .f64 x2] 61)) := HBU.out.old (Bel.al _ _)
        generalize wr.alloc (.cells #[.float .f64 x1, .float .f64 x2] 61) = w1' at *
        have hne1 : wr.heap.size ≠ w0.heap.size := by have := HBU.out.2.lt; omega
        refine (wByte_calls w0 _ 44 w1' hbu (by have := HLEN.out; omega)).mono ?_
        rintro e w2 ⟨rfl, hbw, hk2⟩
        have hbox := hk2 _ _ hbx (fun hc => hne1 (Option.some.inj hc)) (fun c fz hc => by cases hc)
        clear hk2 hbu hbx
        go_wp2_with fail
        have q0 : w2.cell? ⟨wr.heap.size, 0, none⟩ = some (.float .f64 x1) := by simp [World.cell?, hbox]
        have q1 : w2.cell? ⟨wr.heap.size, 1, none⟩ = some (.float .f64 x2) := by simp [World.cell?, hbox]
        have HBW := Lib.hid hbw
        have HBOX := Lib.hid hbox
        have hne2 : some wr.heap.size ≠ some w0.heap.size := fun hc => by have := Option.some.inj hc; have := HBU.out.2.lt; omega
        clear hbw
        clear c0' c1' hbox
        have n1 : ¬ (9223372036854775807 < (ofL (nt x1)).size) := by omega
        have n2 : ¬ (9223372036854775807 < (ofL (nt x1)).size + 1) := by omega
        have n3 : ¬ (9223372036854775807 < (ofL (nt x1)).size + 1 + (ofL (nt x2)).size) := by omega
        generalize hT1 : ofL (nt x1) = t1 at *
        generalize hT2 : ofL (nt x2) = t2 at *
        have HT1 := Lib.hid hT1
        have HT2 := Lib.hid hT2
        clear hT1 hT2
        go_region_held3 (fun w' => w'.cell? ⟨wr.heap.size, 0, none⟩ = some (.float .f64 x1) ∧ w'.cell? ⟨wr.heap.size, 1, none⟩ = some (.float .f64 x2)) (first | exact keep2 hc (by assumption) | exact keepBox hbx5 | go_keep)
          (first | (go_at_call 96; refine (HN1.out _ (HBW.out.1.tr (by first | exact hbb | exact Bel.dr1 _))).mono ?_; rintro e w3 ⟨rfl, hc⟩; have hbb : Bel w2 w3 := (by first | exact hbb.tr hc | exact (Bel.dr1 _).tr hc)) | (go_at_call 96; refine (HN2.out _ (HBW.out.1.tr (by first | exact hbb | exact Bel.dr1 _))).mono ?_; rintro e w3 ⟨rfl, hc⟩; have hbb : Bel w2 w3 := (by first | exact hbb.tr hc | exact (Bel.dr1 _).tr hc)) | (go_at_call 95; refine (wStr_calls w0 _ _ _ (HBW.out.old hbb) (by have := HLEN.out; have := strSize t1 t2 hz1 hz2; simp only [List.length_append, List.length_cons, List.length_nil] at *; omega)).mono ?_; rintro e w5 ⟨⟨v5, rfl⟩, hb5, hk5⟩; have hbx5 := hk5 _ _ (hbb.heap HBOX.out) hne2 (fun c fz hc => by cases hc)))
        all_goals
          have HB5 := Lib.hid hb5
          clear hb5 hk5 hbx5 hbb hc
          go_wp2
          go_roundg (l.length - (i + 1))
          case measure => omega
          case rel =>
            have hs5 := strText t1 t2 _ _ HT1.out HT2.out
            have htk : l.take (i + 1) = l.take i ++ [(x1, x2)] := by rw [List.take_add_one, HPA.out]; rfl
            have he : bs ++ 40 :: jn [] ((l.take (i + 1)).map (ptT nt)) = (bs ++ 40 :: jn [] ((l.take i).map (ptT nt)) ++ [44]) ++ (nt x1 ++ 32 :: nt x2) := by
              rw [htk, List.map_append, show [(x1, x2)].map (ptT nt) = [ptT nt (x1, x2)] from rfl, jn_snoc]
              have hne3 : (l.take i).map (ptT nt) ≠ [] := by intro hc; have := congrArg List.length hc; simp only [List.length_map, List.length_take, List.length_nil] at this; omega
              rw [if_neg hne3]
              simp [ptT]
            refine ⟨i + 1, by omega, rfl, by go_num, ?_, ?_⟩
            · have hb6 := HB5.out
              rw [hs5] at hb6
              rw [he]
              exact hb6
            · have h7 := HLEN.out
              have h8 : (nt x1).length ≤ 1000 := by rw [← ofL_size, HT1.out]; exact hz1
              have h9 : (nt x2).length ≤ 1000 := by rw [← ofL_size, HT2.out]; exact hz2
              rw [he]
              simp only [List.length_append, List.length_cons, List.length_nil] at h7 ⊢
              omega
    · obtain rfl : i = l.length := by omega
      have hkz : ¬ ((l.length : Int) < (l.length : Int)) := by omega
      obtain ⟨hb, hlen⟩ := hh.out
      rw [List.take_length] at hb hlen
      have HBU := Lib.hid hb
      have HLEN := Lib.hid hlen
      clear hb hlen hh
      go_wp2_with (go_at_call 98; refine (wByte_calls w0 _ 41 _ HBU.out (by have := HLEN.out; omega)).mono ?_; rintro e w2 ⟨rfl, hb2, -⟩; have HB2 := Lib.hid hb2; clear hb2)
      first | go_end0 | (refine bodyPost_ret (results_none rfl _ _ _) rfl ?_)
      refine ⟨rfl, ?_⟩
      have := HB2.out
      rw [List.append_assoc] at this
      exact this
end Go.Proofs.YtghajgdiaopioaaGreatDoor
