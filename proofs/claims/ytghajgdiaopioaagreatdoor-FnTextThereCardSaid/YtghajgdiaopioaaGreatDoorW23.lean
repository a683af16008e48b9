/- Walks: wkt of a point and of points (printed by genAM.py). -/
import Derived.Test.YtghajgdiaopioaaGreatDoorW22
set_option linter.unusedVariables false
set_option linter.unusedSimpArgs false

namespace Go.Proofs.YtghajgdiaopioaaGreatDoor
open Go.RowKit
attribute [local go_sem] run_store_float run_store_iface run_store_nilIface
attribute [local go_sem ↓] Go.wp_at_zero Go.wp_at_succ

theorem strSizeP (t1 t2 : ByteArray) (h1 : t1.size ≤ 1000) (h2 : t2.size ≤ 1000) : (({ data := #[80, 79, 73, 78, 84, 40] } : ByteArray) ++ t1 ++ { data := #[32] } ++ t2 ++ { data := #[41] }).size ≤ 2010 := by
  have z0 : ({ data := #[80, 79, 73, 78, 84, 40] } : ByteArray).size = 6 := rfl
  have z1 : ({ data := #[32] } : ByteArray).size = 1 := rfl
  have z2 : ({ data := #[41] } : ByteArray).size = 1 := rfl
  simp only [ByteArray.size_append, z0, z1, z2]
  omega
theorem strTextP (t1 t2 : ByteArray) (a b : List UInt8) (h1 : ofL a = t1) (h2 : ofL b = t2) : toL (({ data := #[80, 79, 73, 78, 84, 40] } : ByteArray) ++ t1 ++ { data := #[32] } ++ t2 ++ { data := #[41] }) = [80, 79, 73, 78, 84, 40] ++ (a ++ 32 :: b) ++ [41] := by
  subst h1 h2
  simp only [toL_app, toL_ofL]
  rw [show toL ({ data := #[80, 79, 73, 78, 84, 40] } : ByteArray) = [80, 79, 73, 78, 84, 40] from rfl, show toL ({ data := #[32] } : ByteArray) = [32] from rfl, show toL ({ data := #[41] } : ByteArray) = [41] from rfl]
  simp

theorem strSizeB (t1 t2 : ByteArray) (h1 : t1.size ≤ 1000) (h2 : t2.size ≤ 1000) : (({ data := #[40] } : ByteArray) ++ t1 ++ { data := #[32] } ++ t2 ++ { data := #[41] }).size ≤ 2010 := by
  have z0 : ({ data := #[40] } : ByteArray).size = 1 := rfl
  have z1 : ({ data := #[32] } : ByteArray).size = 1 := rfl
  have z2 : ({ data := #[41] } : ByteArray).size = 1 := rfl
  simp only [ByteArray.size_append, z0, z1, z2]
  omega
theorem strTextB (t1 t2 : ByteArray) (a b : List UInt8) (h1 : ofL a = t1) (h2 : ofL b = t2) : toL (({ data := #[40] } : ByteArray) ++ t1 ++ { data := #[32] } ++ t2 ++ { data := #[41] }) = [40] ++ (a ++ 32 :: b) ++ [41] := by
  subst h1 h2
  simp only [toL_app, toL_ofL]
  rw [show toL ({ data := #[40] } : ByteArray) = [40] from rfl, show toL ({ data := #[32] } : ByteArray) = [32] from rfl, show toL ({ data := #[41] } : ByteArray) = [41] from rfl]
  simp

set_option maxRecDepth 100000 in
set_option maxHeartbeats 8000000 in
theorem wkt_pt (G : Errs) (nt : Nat → List UInt8) (w0 : World) (hE : Env G w0) (bs : List UInt8) (x1 x2 : Nat) (w : World) (hn : NumWrites G x1 (nt x1) ∧ NumWrites G x2 (nt x2)) (hb : Buf w0 bs w) (hbs : bs.length ≤ 100000000) :
    Calls Tryz.prog 66 #[.pointer (some ⟨w0.heap.size, 0, none⟩), .iface 61 (.agg #[.float .f64 x1, .float .f64 x2])] w fun e w' => e = .returned (.tuple #[]) ∧ Buf w0 (bs ++ kwPoint ++ 40 :: ptT nt (x1, x2) ++ [41]) w' := by
  have a1 := ta_is61
  obtain ⟨⟨hl1, hn1⟩, hl2, hn2⟩ := hn
  have HN1 := Lib.hid (fun wx (hb : Bel w0 wx) => hn1 wx (hE.bel hb))
  have HN2 := Lib.hid (fun wx (hb : Bel w0 wx) => hn2 wx (hE.bel hb))
  have HB := Lib.hid hb
  have hz1 : (ofL (nt x1)).size ≤ 1000 := by rw [ofL_size]; exact hl1
  have hz2 : (ofL (nt x2)).size ≤ 1000 := by rw [ofL_size]; exact hl2
  clear hn1 hn2 hb hl1 hl2 hE
  go_enter Tryz.func66, Tryz.ntmps66
  go_wp2_with fail
  have hbox : (w.alloc (.cells #[.float .f64 x1, .float .f64 x2] 61)).heap[w.heap.size]? = some (.cells #[.float .f64 x1, .float .f64 x2] 61 (0, 0)) := heap_alloc_new _ _
  have hbw : Buf w0 bs (w.alloc (.cells #[.float .f64 x1, .float .f64 x2] 61)) := HB.out.old (Bel.al _ _)
  generalize w.alloc (.cells #[.float .f64 x1, .float .f64 x2] 61) = w2 at *
  have q0 : w2.cell? ⟨w.heap.size, 0, none⟩ = some (.float .f64 x1) := by simp [World.cell?, hbox]
  have q1 : w2.cell? ⟨w.heap.size, 1, none⟩ = some (.float .f64 x2) := by simp [World.cell?, hbox]
  have HBW := Lib.hid hbw
  have HBOX := Lib.hid hbox
  have hne2 : some w.heap.size ≠ some w0.heap.size := fun hc => by have := Option.some.inj hc; have := HB.out.2.lt; omega
  clear hbw hbox a1
  have n1 : ¬ (9223372036854775807 < 6 + (ofL (nt x1)).size) := by omega
  have n2 : ¬ (9223372036854775807 < 6 + (ofL (nt x1)).size + 1) := by omega
  have n3 : ¬ (9223372036854775807 < 6 + (ofL (nt x1)).size + 1 + (ofL (nt x2)).size) := by omega
  have n4 : ¬ (9223372036854775807 < 6 + (ofL (nt x1)).size + 1 + (ofL (nt x2)).size + 1) := by omega
  generalize hT1 : ofL (nt x1) = t1 at *
  generalize hT2 : ofL (nt x2) = t2 at *
  have HT1 := Lib.hid hT1
  have HT2 := Lib.hid hT2
  clear hT1 hT2
  go_region_held3 (fun w' => w'.cell? ⟨w.heap.size, 0, none⟩ = some (.float .f64 x1) ∧ w'.cell? ⟨w.heap.size, 1, none⟩ = some (.float .f64 x2)) (first | exact keep2 hc (by assumption) | exact keepBox hbx5 | go_keep)
    (first | (go_at_call 96; refine (HN1.out _ (HBW.out.1.tr (by first | exact hbb | exact Bel.dr1 _))).mono ?_; rintro e w3 ⟨rfl, hc⟩; have hbb : Bel w2 w3 := (by first | exact hbb.tr hc | exact (Bel.dr1 _).tr hc)) | (go_at_call 96; refine (HN2.out _ (HBW.out.1.tr (by first | exact hbb | exact Bel.dr1 _))).mono ?_; rintro e w3 ⟨rfl, hc⟩; have hbb : Bel w2 w3 := (by first | exact hbb.tr hc | exact (Bel.dr1 _).tr hc)) | (go_at_call 95; refine (wStr_calls w0 _ _ _ (HBW.out.old hbb) (by have := hbs; have := strSizeP t1 t2 hz1 hz2; omega)).mono ?_; rintro e w5 ⟨⟨v5, rfl⟩, hb5, hk5⟩; have hbx5 := hk5 _ _ (hbb.heap HBOX.out) hne2 (fun c fz hc => by cases hc)))

  all_goals
    have HB5 := Lib.hid hb5
    clear hb5 hk5 hbx5 hbb hc
    go_wp2
    first | go_end0 | (refine bodyPost_ret (results_none rfl _ _ _) rfl ?_)
    refine ⟨rfl, ?_⟩
    have hb6 := HB5.out
    rw [strTextP t1 t2 _ _ HT1.out HT2.out] at hb6
    simpa [kwPoint, ptT] using hb6

set_option maxRecDepth 100000 in
set_option maxHeartbeats 8000000 in
theorem wkt_mpt1 (G : Errs) (nt : Nat → List UInt8) (w0 : World) (hE : Env G w0) (bs : List UInt8) (x : Value) (l : List Pt) (w : World) (hx : PtsAt w0 x l) (hne : l ≠ []) (hn : ∀ p ∈ l, NumWrites G p.1 (nt p.1) ∧ NumWrites G p.2 (nt p.2)) (hs : l.length ≤ 100000) (hb : Buf w0 bs w) (hbs : (bs ++ kwMPoint ++ 40 :: jn [] (l.map fun p => lineT [] nt [p]) ++ [41]).length ≤ 100000000) :
    Calls Tryz.prog 66 #[.pointer (some ⟨w0.heap.size, 0, none⟩), .iface 72 x] w fun e w' => e = .returned (.tuple #[]) ∧ Buf w0 (bs ++ kwMPoint ++ 40 :: jn [] (l.map fun p => lineT [] nt [p]) ++ [41]) w' := by
  obtain ⟨ao, cap, rfl, -, hc⟩ := hx
  have h0 : ((l.length : Int) == 0) = false := by cases l with | nil => exact absurd rfl hne | cons a b => simp; omega
  have HC := Lib.hid hc
  have HN := Lib.hid hn
  have HE := Lib.hid hE
  have HLB := Lib.hid hbs
  have hbl : bs.length ≤ 100000000 := by simp only [List.length_append] at hbs; omega
  have kc := fun (w : World) (C : Array Value) (n c : Nat) => Lib.run_convert_bytes_const (P := Tryz.prog) w 92 5 C n c Tryz.underlying92 Tryz.underlying5
  have n61 := ta_not61 72 (by decide)
  have a1 := ta_is Tryz.underlying72
  have HB := Lib.hid hb
  clear hb hc hn hE hbs hne
  go_enter Tryz.func66, Tryz.ntmps66
  go_wp2_with (first | (go_at_call 97; refine (wConst_calls w0 bs (kwMPoint ++ [40]) 11 _ _ rfl rfl HB.out (by omega)).mono ?_; rintro e w1 ⟨⟨v, rfl⟩, hb1⟩; have HB1 := Lib.hid hb1; clear hb1))
  clear n61 a1 kc
  clear h0
  go_loopg [59] l.length (fun g s10 wr => ∃ (i : Nat), i ≤ l.length ∧ g = l.length - i ∧ s10 = .int .i64 i ∧ Hid (Buf w0 (bs ++ kwMPoint ++ 40 :: jn [] ((l.take i).map fun p => lineT [] nt [p])) wr))
  case atStart => exact ⟨0, by omega, rfl, rfl, by have := HB1.out; rw [show bs ++ (kwMPoint ++ [40]) = bs ++ kwMPoint ++ 40 :: jn [] ((l.take 0).map fun p => lineT [] nt [p]) from by simp [jn]] at this; exact this⟩
  case round =>
    obtain ⟨i, hi1, rfl, rfl, hh⟩ := hrel
    by_cases hlt : i < l.length
    · obtain ⟨p, hp⟩ : ∃ p, l[i]? = some p := ⟨_, List.getElem?_eq_getElem hlt⟩
      obtain ⟨a, rfl, c0, c1⟩ := HC.out i p hp
      have c0' := hh.out.1.cellOf c0
      have c1' := hh.out.1.cellOf c1
      obtain ⟨⟨hl1, hn1⟩, hl2, hn2⟩ := HN.out p (List.mem_of_getElem? hp)
      obtain ⟨x1, x2⟩ := p
      have HN1 := Lib.hid (fun wx (hb : Bel w0 wx) => hn1 wx (HE.out.bel hb))
      have HN2 := Lib.hid (fun wx (hb : Bel w0 wx) => hn2 wx (HE.out.bel hb))
      have HPA := Lib.hid hp
      have hz1 : (ofL (nt x1)).size ≤ 1000 := by rw [ofL_size]; exact hl1
      have hz2 : (ofL (nt x2)).size ≤ 1000 := by rw [ofL_size]; exact hl2
      clear hn1 hn2 hp c0 c1 hl1 hl2
      have HBU := Lib.hid hh.out
      clear hh
      by_cases h0 : i = 0
      · subst h0
        rw [show a.add (0 * 2) = a from rfl] at c0' c1'
        have HGO := Lib.hid ((jn_step [] l (fun p => lineT [] nt [p]) 0 _ HPA.out).trans (if_pos rfl))
        have HFIT := Lib.hid (Nat.le_trans (jn_fit0 (bs ++ kwMPoint) l (fun p => lineT [] nt [p]) _ HPA.out) HLB.out)
        go_wp2_with fail
        have hbw : Buf w0 (bs ++ kwMPoint ++ 40 :: jn [] ((l.take 0).map fun p => lineT [] nt [p])) (wr.alloc (.cells #[.float .f64 x1, .float .f64 x2] 61)) := HBU.out.old (Bel.al _ _)
        have hbox : (wr.alloc (.cells #[.float .f64 x1, .float .f64 x2] 61)).heap[wr.heap.size]? = some (.cells #[.float .f64 x1, .float .f64 x2] 61 (0, 0)) := heap_alloc_new _ _
        generalize wr.alloc (.cells #[.float .f64 x1, .float .f64 x2] 61) = w2 at *
        have q0 : w2.cell? ⟨wr.heap.size, 0, none⟩ = some (.float .f64 x1) := by simp [World.cell?, hbox]
        have q1 : w2.cell? ⟨wr.heap.size, 1, none⟩ = some (.float .f64 x2) := by simp [World.cell?, hbox]
        have HBW := Lib.hid hbw
        have HBOX := Lib.hid hbox
        have hne2 : some wr.heap.size ≠ some w0.heap.size := fun hc => by have := Option.some.inj hc; have := HBU.out.2.lt; omega
        clear hbw
        clear c0' c1' hbox
        have n1 : ¬ (9223372036854775807 < 1 + (ofL (nt x1)).size) := by omega
        have n2 : ¬ (9223372036854775807 < 1 + (ofL (nt x1)).size + 1) := by omega
        have n3 : ¬ (9223372036854775807 < 1 + (ofL (nt x1)).size + 1 + (ofL (nt x2)).size) := by omega
        have n4 : ¬ (9223372036854775807 < 1 + (ofL (nt x1)).size + 1 + (ofL (nt x2)).size + 1) := by omega
        generalize hT1 : ofL (nt x1) = t1 at *
        generalize hT2 : ofL (nt x2) = t2 at *
        have HT1 := Lib.hid hT1
        have HT2 := Lib.hid hT2
        clear hT1 hT2
        go_region_held3 (fun w' => w'.cell? ⟨wr.heap.size, 0, none⟩ = some (.float .f64 x1) ∧ w'.cell? ⟨wr.heap.size, 1, none⟩ = some (.float .f64 x2)) (first | exact keep2 hc (by assumption) | exact keepBox hbx5 | go_keep)
          (first | (go_at_call 96; refine (HN1.out _ (HBW.out.1.tr (by first | exact hbb | exact Bel.dr1 _))).mono ?_; rintro e w3 ⟨rfl, hc⟩; have hbb : Bel w2 w3 := (by first | exact hbb.tr hc | exact (Bel.dr1 _).tr hc)) | (go_at_call 96; refine (HN2.out _ (HBW.out.1.tr (by first | exact hbb | exact Bel.dr1 _))).mono ?_; rintro e w3 ⟨rfl, hc⟩; have hbb : Bel w2 w3 := (by first | exact hbb.tr hc | exact (Bel.dr1 _).tr hc)) | (go_at_call 95; refine (wStr_calls w0 _ _ _ (HBW.out.old hbb) (by have := (show (bs ++ kwMPoint ++ 40 :: jn [] ((l.take 0).map fun p => lineT [] nt [p])).length ≤ 100000000 from by have := HFIT.out; rw [List.length_append] at this; omega); have := strSizeB t1 t2 hz1 hz2; omega)).mono ?_; rintro e w5 ⟨⟨v5, rfl⟩, hb5, hk5⟩; have hbx5 := hk5 _ _ (hbb.heap HBOX.out) hne2 (fun c fz hc => by cases hc)))
        all_goals
          have HB5 := Lib.hid hb5
          clear hb5 hk5 hbx5 hbb hc
          go_wp2
          go_roundg (l.length - (0 + 1))
          case measure => omega
          case rel =>
            refine ⟨0 + 1, by omega, rfl, by go_num, ?_⟩
            rw [HGO.out]
            have hb6 := HB5.out
            rw [strTextB t1 t2 _ _ HT1.out HT2.out] at hb6
            show Buf w0 _ w5
            simpa [jn, lineT, ptT] using hb6
      · have h0' : ((i : Int) == 0) = false := by simp [h0]
        have HGO := Lib.hid ((jn_step [] l (fun p => lineT [] nt [p]) i _ HPA.out).trans (if_neg h0))
        have HFIT := Lib.hid (Nat.le_trans (jn_fit (bs ++ kwMPoint) l (fun p => lineT [] nt [p]) i _ HPA.out h0) HLB.out)
        go_wp2_with fail
        have hbx : (wr.alloc (.cells #[.float .f64 x1, .float .f64 x2] 61)).heap[wr.heap.size]? = some (.cells #[.float .f64 x1, .float .f64 x2] 61 (0, 0)) := heap_alloc_new _ _
        have hbu : Buf w0 (bs ++ kwMPoint ++ 40 :: jn [] ((l.take i).map fun p => lineT [] nt [p])) (wr.alloc (.cells #[.float .f64 x1, .float .f64 x2] 61)) := HBU.out.old (Bel.al _ _)
        generalize wr.alloc (.cells #[.float .f64 x1, .float .f64 x2] 61) = w1' at *
        have hne1 : wr.heap.size ≠ w0.heap.size := by have := HBU.out.2.lt; omega
        refine (wByte_calls w0 _ 44 w1' hbu (by have := HFIT.out; rw [List.length_append, List.length_append] at this; omega)).mono ?_
        rintro e w2 ⟨rfl, hbw, hk2⟩
        have hbox := hk2 _ _ hbx (fun hc => hne1 (Option.some.inj hc)) (fun c fz hc => by cases hc)
        clear hk2 hbu hbx
        go_wp2_with fail
        have q0 : w2.cell? ⟨wr.heap.size, 0, none⟩ = some (.float .f64 x1) := by simp [World.cell?, hbox]
        have q1 : w2.cell? ⟨wr.heap.size, 1, none⟩ = some (.float .f64 x2) := by simp [World.cell?, hbox]
        have HBW := Lib.hid hbw
        have HBOX := Lib.hid hbox
        have hne2 : some wr.heap.size ≠ some w0.heap.size := fun hc => by have := Option.some.inj hc; have := HBU.out.2.lt; omega
        clear hbw
        clear c0' c1' hbox
        have n1 : ¬ (9223372036854775807 < 1 + (ofL (nt x1)).size) := by omega
        have n2 : ¬ (9223372036854775807 < 1 + (ofL (nt x1)).size + 1) := by omega
        have n3 : ¬ (9223372036854775807 < 1 + (ofL (nt x1)).size + 1 + (ofL (nt x2)).size) := by omega
        have n4 : ¬ (9223372036854775807 < 1 + (ofL (nt x1)).size + 1 + (ofL (nt x2)).size + 1) := by omega
        generalize hT1 : ofL (nt x1) = t1 at *
        generalize hT2 : ofL (nt x2) = t2 at *
        have HT1 := Lib.hid hT1
        have HT2 := Lib.hid hT2
        clear hT1 hT2
        go_region_held3 (fun w' => w'.cell? ⟨wr.heap.size, 0, none⟩ = some (.float .f64 x1) ∧ w'.cell? ⟨wr.heap.size, 1, none⟩ = some (.float .f64 x2)) (first | exact keep2 hc (by assumption) | exact keepBox hbx5 | go_keep)
          (first | (go_at_call 96; refine (HN1.out _ (HBW.out.1.tr (by first | exact hbb | exact Bel.dr1 _))).mono ?_; rintro e w3 ⟨rfl, hc⟩; have hbb : Bel w2 w3 := (by first | exact hbb.tr hc | exact (Bel.dr1 _).tr hc)) | (go_at_call 96; refine (HN2.out _ (HBW.out.1.tr (by first | exact hbb | exact Bel.dr1 _))).mono ?_; rintro e w3 ⟨rfl, hc⟩; have hbb : Bel w2 w3 := (by first | exact hbb.tr hc | exact (Bel.dr1 _).tr hc)) | (go_at_call 95; refine (wStr_calls w0 _ _ _ (HBW.out.old hbb) (by have := (show (bs ++ kwMPoint ++ 40 :: jn [] ((l.take i).map fun p => lineT [] nt [p]) ++ [44]).length ≤ 100000000 from by have := HFIT.out; rw [List.length_append] at this; omega); have := strSizeB t1 t2 hz1 hz2; omega)).mono ?_; rintro e w5 ⟨⟨v5, rfl⟩, hb5, hk5⟩; have hbx5 := hk5 _ _ (hbb.heap HBOX.out) hne2 (fun c fz hc => by cases hc)))
        all_goals
          have HB5 := Lib.hid hb5
          clear hb5 hk5 hbx5 hbb hc
          go_wp2
          go_roundg (l.length - (i + 1))
          case measure => omega
          case rel =>
            refine ⟨i + 1, by omega, rfl, by go_num, ?_⟩
            rw [HGO.out]
            have hb6 := HB5.out
            rw [strTextB t1 t2 _ _ HT1.out HT2.out] at hb6
            show Buf w0 _ w5
            simpa [jn, lineT, ptT] using hb6
    · obtain rfl : i = l.length := by omega
      have hkz : ¬ ((l.length : Int) < (l.length : Int)) := by omega
      have hb := hh.out
      rw [List.take_length] at hb
      have HBU := Lib.hid hb
      clear hb hh
      go_wp2_with (go_at_call 98; refine (wByte_calls w0 _ 41 _ HBU.out (by have := HLB.out; simp only [List.length_append, List.length_cons, List.length_nil] at *; omega)).mono ?_; rintro e w2 ⟨rfl, hb2, -⟩; have HB2 := Lib.hid hb2; clear hb2)
      first | go_end0 | (refine bodyPost_ret (results_none rfl _ _ _) rfl ?_)
      exact ⟨rfl, HB2.out⟩
end Go.Proofs.YtghajgdiaopioaaGreatDoor

/- Walks: wkt of polygons (printed by genAN.py). -/
namespace Go.Proofs.YtghajgdiaopioaaGreatDoor
open Go.RowKit
attribute [local go_sem] run_store_float run_store_iface run_store_nilIface
attribute [local go_sem ↓] Go.wp_at_zero Go.wp_at_succ

set_option maxRecDepth 100000 in
set_option maxHeartbeats 8000000 in
theorem wkt_mpoly1 (G : Errs) (nt : Nat → List UInt8) (w0 : World) (hE : Env G w0) (T : List (List Pt) → List UInt8) (hT : T = fun p => 40 :: jn [] (p.map (lineT [] nt)) ++ [41]) (bs : List UInt8) (x : Value) (ds : List (List (List Pt))) (w : World) (hx : RowAt (RowAt PtsAt) w0 x ds) (hne : ds ≠ []) (hs : ds.length ≤ 100000) (hb : Buf w0 bs w) (hbs : (bs ++ kwMPoly ++ 40 :: jn [] (ds.map T) ++ [41]).length ≤ 100000000)
    (hn : ∀ p ∈ ds, ∀ l ∈ p, ∀ q ∈ l, NumWrites G q.1 (nt q.1) ∧ NumWrites G q.2 (nt q.2)) (hsz : ∀ p ∈ ds, p.length ≤ 100000 ∧ ∀ l ∈ p, l.length ≤ 100000) :
    Calls Tryz.prog 66 #[.pointer (some ⟨w0.heap.size, 0, none⟩), .iface 80 x] w fun e w' => e = .returned (.tuple #[]) ∧ Buf w0 (bs ++ kwMPoly ++ 40 :: jn [] (ds.map T) ++ [41]) w' := by
  obtain ⟨ao, cap, rfl, -, hc⟩ := hx
  have h0 : ((ds.length : Int) == 0) = false := by cases ds with | nil => exact absurd rfl hne | cons a b => simp; omega
  have HC := Lib.hid hc
  have HLB := Lib.hid hbs
  have HE := Lib.hid hE
  have HN := Lib.hid hn
  have HSZ := Lib.hid hsz
  have HT := Lib.hid hT
  have hbl : bs.length ≤ 100000000 := by simp only [List.length_append] at hbs; omega
  have kc := fun (w : World) (C : Array Value) (n c : Nat) => Lib.run_convert_bytes_const (P := Tryz.prog) w 92 5 C n c Tryz.underlying92 Tryz.underlying5
  have n61 := ta_not61 80 (by decide)
  have n72 := ta_not Tryz.underlying72 z72 80 (by decide)
  have n65 := ta_not Tryz.underlying65 z65 80 (by decide)
  have n76 := ta_not Tryz.underlying76 z76 80 (by decide)
  have n117 := ta_not117 80 (by decide)
  have n69 := ta_not Tryz.underlying69 z69 80 (by decide)
  have a1 := ta_is Tryz.underlying80
  have HB := Lib.hid hb
  clear hb hc hbs hne hE hn hsz hT
  go_enter Tryz.func66, Tryz.ntmps66
  go_wp2_with (first | (go_at_call 97; refine (wConst_calls w0 bs (kwMPoly ++ [40]) 13 _ _ rfl rfl HB.out (by omega)).mono ?_; rintro e w1 ⟨⟨v, rfl⟩, hb1⟩; have HB1 := Lib.hid hb1; clear hb1))
  clear n61 n72 n65 n76 n117 n69 a1 kc
  clear h0
  go_loopg [186] ds.length (fun g s10 wr => ∃ (i : Nat), i ≤ ds.length ∧ g = ds.length - i ∧ s10 = .int .i64 i ∧ Hid (Buf w0 (bs ++ kwMPoly ++ 40 :: jn [] ((ds.take i).map T)) wr))
  case atStart => exact ⟨0, by omega, rfl, rfl, by have := HB1.out; rw [show bs ++ (kwMPoly ++ [40]) = bs ++ kwMPoly ++ 40 :: jn [] ((ds.take 0).map T) from by simp [jn]] at this; exact this⟩
  case round =>
    obtain ⟨i, hi1, rfl, rfl, hh⟩ := hrel
    by_cases hlt : i < ds.length
    · obtain ⟨p, hp⟩ : ∃ p, ds[i]? = some p := ⟨_, List.getElem?_eq_getElem hlt⟩
      obtain ⟨a, y, rfl, c0, hy⟩ := HC.out i p hp
      have c0' := hh.out.1.cellOf c0
      have hpm := List.mem_of_getElem? hp
      have HNP := Lib.hid (HN.out p hpm)
      have hps := (HSZ.out p hpm).1
      have HSP := Lib.hid (HSZ.out p hpm).2
      obtain ⟨ao1, cap1, rfl, -, hpc⟩ := hy
      have HPC := Lib.hid hpc
      have HPP := Lib.hid hp
      have hT := congrFun HT.out p
      clear c0 hp hpc hpm
      by_cases h0 : i = 0
      · subst h0
        rw [show a.add 0 = a from rfl] at c0'
        have HGO := Lib.hid ((jn_step [] ds T 0 p HPP.out).trans (if_pos rfl))
        have HFIT := Lib.hid (Nat.le_trans (jn_fit0 (bs ++ kwMPoly) ds T p HPP.out) HLB.out)
        go_wp2_with (go_at_call 98; refine (wByte_calls w0 _ 40 _ hh.out (by have := HFIT.out; rw [List.length_append] at this; omega)).mono ?_; rintro e w3 ⟨rfl, hb3, -⟩; have HBS := Lib.hid hb3; clear hb3)
        have HLB2 := Lib.hid (show ((bs ++ kwMPoly ++ 40 :: jn [] ((ds.take 0).map T)) ++ 40 :: jn [] (p.map (lineT [] nt)) ++ [41]).length ≤ 100000000 from by have := HFIT.out; simpa [hT] using this)
        go_loopg [199] p.length (fun g s10 wq => ∃ (j : Nat), j ≤ p.length ∧ g = p.length - j ∧ s10 = .int .i64 j ∧ Hid (Buf w0 ((bs ++ kwMPoly ++ 40 :: jn [] ((ds.take 0).map T)) ++ 40 :: jn [] ((p.take j).map (lineT [] nt))) wq))
        case atStart => exact ⟨0, by omega, rfl, rfl, by have := HBS.out; show Buf w0 _ _; simpa [jn] using this⟩
        case round =>
          obtain ⟨j, hj1, rfl, rfl, hq⟩ := hrel
          by_cases hjlt : j < p.length
          · obtain ⟨l, hpl⟩ : ∃ l, p[j]? = some l := ⟨_, List.getElem?_eq_getElem hjlt⟩
            obtain ⟨a2, y2, rfl, d0, hy2⟩ := HPC.out j l hpl
            have d0' := hq.out.1.cellOf d0
            have hlm := List.mem_of_getElem? hpl
            have HX := Lib.hid (fun bs' wx hbx hl => writeLine_calls G nt w0 HE.out bs' y2 l wx hy2 (HNP.out l hlm) (HSP.out l hlm) hbx hl)
            obtain ⟨ao3, cap3, rfl⟩ := hy2.slice
            have HPL := Lib.hid hpl
            clear d0 hpl hy2 hlm
            by_cases hj0 : j = 0
            · subst hj0
              rw [show a2.add 0 = a2 from rfl] at d0'
              have HG2 := Lib.hid ((jn_step [] p (lineT [] nt) 0 l HPL.out).trans (if_pos rfl))
              have HF2 := Lib.hid (Nat.le_trans (jn_fit0 (bs ++ kwMPoly ++ 40 :: jn [] ((ds.take 0).map T)) p (lineT [] nt) l HPL.out) HLB2.out)
              go_wp2_with (go_at_call 99; refine (HX.out _ _ hq.out (by have := HF2.out; rw [List.length_append] at this; omega)).mono ?_; rintro e w2 ⟨rfl, hb2⟩; have HB2 := Lib.hid hb2; clear hb2)
              go_roundg (p.length - (0 + 1))
              case measure => omega
              case rel =>
                refine ⟨0 + 1, by omega, rfl, by go_num, ?_⟩
                rw [HG2.out]
                have := HB2.out
                show Buf w0 _ w2
                simpa [jn] using this
            · have hj0' : ((j : Int) == 0) = false := by simp [hj0]
              have HG2 := Lib.hid ((jn_step [] p (lineT [] nt) j l HPL.out).trans (if_neg hj0))
              have HF2 := Lib.hid (Nat.le_trans (jn_fit (bs ++ kwMPoly ++ 40 :: jn [] ((ds.take 0).map T)) p (lineT [] nt) j l HPL.out hj0) HLB2.out)
              go_wp2_with (first | (go_at_call 98; refine (wByte_calls w0 _ 44 _ hq.out (by have := HF2.out; rw [List.length_append, List.length_append] at this; omega)).mono ?_; rintro e w3 ⟨rfl, hb3, -⟩; have HB3 := Lib.hid hb3; clear hb3) | (go_at_call 99; refine (HX.out _ _ HB3.out (by have := HF2.out; rw [List.length_append] at this; omega)).mono ?_; rintro e w2 ⟨rfl, hb2⟩; have HB2 := Lib.hid hb2; clear hb2))
              go_roundg (p.length - (j + 1))
              case measure => omega
              case rel =>
                refine ⟨j + 1, by omega, rfl, by go_num, ?_⟩
                rw [HG2.out]
                have := HB2.out
                show Buf w0 _ w2
                simpa using this
          · obtain rfl : j = p.length := by omega
            have hkz : ¬ ((p.length : Int) < (p.length : Int)) := by omega
            have hbq := hq.out
            rw [List.take_length] at hbq
            have HBQ := Lib.hid hbq
            clear hbq hq
            go_wp2_with (go_at_call 98; refine (wByte_calls w0 _ 41 _ HBQ.out (by have := HLB2.out; rw [List.length_append] at this; omega)).mono ?_; rintro e w2 ⟨rfl, hb2, -⟩; have HB2 := Lib.hid hb2; clear hb2)
            go_roundg (ds.length - (0 + 1))
            case measure => omega
            case rel =>
              refine ⟨0 + 1, by omega, rfl, by go_num, ?_⟩
              rw [HGO.out]
              have := HB2.out
              show Buf w0 _ w2
              simpa [jn, hT] using this
      · have h0' : ((i : Int) == 0) = false := by simp [h0]
        have HGO := Lib.hid ((jn_step [] ds T i p HPP.out).trans (if_neg h0))
        have HFIT := Lib.hid (Nat.le_trans (jn_fit (bs ++ kwMPoly) ds T i p HPP.out h0) HLB.out)
        go_wp2_with fail
        refine (wByte_calls w0 _ 44 _ hh.out (by have := HFIT.out; rw [List.length_append, List.length_append] at this; omega)).mono ?_
        rintro e w3 ⟨rfl, hb3, -⟩
        have HB3 := Lib.hid hb3
        clear hb3
        go_wp2_with fail
        refine (wByte_calls w0 _ 40 _ HB3.out (by have := HFIT.out; rw [List.length_append] at this; omega)).mono ?_
        rintro e w4 ⟨rfl, hb4, -⟩
        have HBS := Lib.hid hb4
        clear hb4
        go_wp2_with fail
        have HLB2 := Lib.hid (show ((bs ++ kwMPoly ++ 40 :: jn [] ((ds.take i).map T) ++ [44]) ++ 40 :: jn [] (p.map (lineT [] nt)) ++ [41]).length ≤ 100000000 from by have := HFIT.out; simpa [hT] using this)
        go_loopg [199] p.length (fun g s10 wq => ∃ (j : Nat), j ≤ p.length ∧ g = p.length - j ∧ s10 = .int .i64 j ∧ Hid (Buf w0 ((bs ++ kwMPoly ++ 40 :: jn [] ((ds.take i).map T) ++ [44]) ++ 40 :: jn [] ((p.take j).map (lineT [] nt))) wq))
        case atStart => exact ⟨0, by omega, rfl, rfl, by have := HBS.out; show Buf w0 _ _; simpa [jn] using this⟩
        case round =>
          obtain ⟨j, hj1, rfl, rfl, hq⟩ := hrel
          by_cases hjlt : j < p.length
          · obtain ⟨l, hpl⟩ : ∃ l, p[j]? = some l := ⟨_, List.getElem?_eq_getElem hjlt⟩
            obtain ⟨a2, y2, rfl, d0, hy2⟩ := HPC.out j l hpl
            have d0' := hq.out.1.cellOf d0
            have hlm := List.mem_of_getElem? hpl
            have HX := Lib.hid (fun bs' wx hbx hl => writeLine_calls G nt w0 HE.out bs' y2 l wx hy2 (HNP.out l hlm) (HSP.out l hlm) hbx hl)
            obtain ⟨ao3, cap3, rfl⟩ := hy2.slice
            have HPL := Lib.hid hpl
            clear d0 hpl hy2 hlm
            by_cases hj0 : j = 0
            · subst hj0
              rw [show a2.add 0 = a2 from rfl] at d0'
              have HG2 := Lib.hid ((jn_step [] p (lineT [] nt) 0 l HPL.out).trans (if_pos rfl))
              have HF2 := Lib.hid (Nat.le_trans (jn_fit0 (bs ++ kwMPoly ++ 40 :: jn [] ((ds.take i).map T) ++ [44]) p (lineT [] nt) l HPL.out) HLB2.out)
              go_wp2_with (go_at_call 99; refine (HX.out _ _ hq.out (by have := HF2.out; rw [List.length_append] at this; omega)).mono ?_; rintro e w2 ⟨rfl, hb2⟩; have HB2 := Lib.hid hb2; clear hb2)
              go_roundg (p.length - (0 + 1))
              case measure => omega
              case rel =>
                refine ⟨0 + 1, by omega, rfl, by go_num, ?_⟩
                rw [HG2.out]
                have := HB2.out
                show Buf w0 _ w2
                simpa [jn] using this
            · have hj0' : ((j : Int) == 0) = false := by simp [hj0]
              have HG2 := Lib.hid ((jn_step [] p (lineT [] nt) j l HPL.out).trans (if_neg hj0))
              have HF2 := Lib.hid (Nat.le_trans (jn_fit (bs ++ kwMPoly ++ 40 :: jn [] ((ds.take i).map T) ++ [44]) p (lineT [] nt) j l HPL.out hj0) HLB2.out)
              go_wp2_with (first | (go_at_call 98; refine (wByte_calls w0 _ 44 _ hq.out (by have := HF2.out; rw [List.length_append, List.length_append] at this; omega)).mono ?_; rintro e w3 ⟨rfl, hb3, -⟩; have HB3 := Lib.hid hb3; clear hb3) | (go_at_call 99; refine (HX.out _ _ HB3.out (by have := HF2.out; rw [List.length_append] at this; omega)).mono ?_; rintro e w2 ⟨rfl, hb2⟩; have HB2 := Lib.hid hb2; clear hb2))
              go_roundg (p.length - (j + 1))
              case measure => omega
              case rel =>
                refine ⟨j + 1, by omega, rfl, by go_num, ?_⟩
                rw [HG2.out]
                have := HB2.out
                show Buf w0 _ w2
                simpa using this
          · obtain rfl : j = p.length := by omega
            have hkz : ¬ ((p.length : Int) < (p.length : Int)) := by omega
            have hbq := hq.out
            rw [List.take_length] at hbq
            have HBQ := Lib.hid hbq
            clear hbq hq
            go_wp2_with (go_at_call 98; refine (wByte_calls w0 _ 41 _ HBQ.out (by have := HLB2.out; rw [List.length_append] at this; omega)).mono ?_; rintro e w2 ⟨rfl, hb2, -⟩; have HB2 := Lib.hid hb2; clear hb2)
            go_roundg (ds.length - (i + 1))
            case measure => omega
            case rel =>
              refine ⟨i + 1, by omega, rfl, by go_num, ?_⟩
              rw [HGO.out]
              have := HB2.out
              show Buf w0 _ w2
              simpa [jn, hT] using this
    · obtain rfl : i = ds.length := by omega
      have hkz : ¬ ((ds.length : Int) < (ds.length : Int)) := by omega
      have hb := hh.out
      rw [List.take_length] at hb
      have HBU := Lib.hid hb
      clear hb hh
      go_wp2_with (go_at_call 98; refine (wByte_calls w0 _ 41 _ HBU.out (by have := HLB.out; simp only [List.length_append, List.length_cons, List.length_nil] at *; omega)).mono ?_; rintro e w2 ⟨rfl, hb2, -⟩; have HB2 := Lib.hid hb2; clear hb2)
      first | go_end0 | (refine bodyPost_ret (results_none rfl _ _ _) rfl ?_)
      exact ⟨rfl, HB2.out⟩
end Go.Proofs.YtghajgdiaopioaaGreatDoor
