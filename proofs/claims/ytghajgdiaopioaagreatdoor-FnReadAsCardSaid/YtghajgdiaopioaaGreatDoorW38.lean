/- Walks: spec.Text by depth. -/
import Derived.Test.YtghajgdiaopioaaGreatDoorW29
import Derived.Test.YtghajgdiaopioaaGreatDoorW37
set_option linter.unusedVariables false
set_option linter.unusedSimpArgs false

namespace Go.Proofs.YtghajgdiaopioaaGreatDoor
open Go.RowKit

theorem jn_mem_le (sp : List UInt8) (ts : List (List UInt8)) (t : List UInt8) (h : t ∈ ts) : t.length ≤ (jn sp ts).length := by
  cases ts with
  | nil => cases h
  | cons a ts =>
    rw [jn, List.length_append]
    rcases List.mem_cons.1 h with rfl | h
    · omega
    · have : ∀ l : List (List UInt8), t ∈ l → t.length ≤ (l.flatMap fun u => 44 :: sp ++ u).length := by
        intro l
        induction l with
        | nil => intro h; cases h
        | cons a l ih =>
          intro h
          rw [List.flatMap_cons, List.length_append]
          rcases List.mem_cons.1 h with rfl | h
          · simp; omega
          · have := ih h; omega
      have := this ts h
      omega

theorem text_flat (K : World → Prop) (hK : ∀ w w', K w → Bel w w' → K w') (nt : Nat → List UInt8) (P : Nat → Prop) (hPair : ∀ p : Pt, P p.1 → P p.2 → Pairs K nt p) (low : Bool) (sp : List UInt8) (hsp : sp.length ≤ 100) (d dd : Nat) (g : Geo) (v : Value) (w : World) (hf : FullG d g) (hs : Small d g) (hn : AllN P d g) (hl : (geoT low sp nt d g).length ≤ 100000000) (hb : (ptsOf (d + 2) (toShp d g)).length ≤ 1000000) (hk : K w) (hw : WEnv w) (h : ShpAt dd w v (toShp d g)) (hg : ∀ l, g ≠ .coll l) :
    Calls Tryz.prog 14 #[styV low sp, v] w fun e w' => e = .returned (.string (ofL (geoT low sp nt d g))) ∧ Bel w w' := by
  have hpos := full_pos d g hf
  have hlen := small_lenS d g hs
  cases g with
  | coll l => exact absurd rfl (hg l)
  | pt p =>
    have he : toShp d (.pt p) = .mk 1 [[p]] [] := by cases d <;> rfl
    have ht : geoT low sp nt d (.pt p) = wd low (kwOf 1) ++ (sp ++ lineT sp nt [p]) := by cases d <;> rfl
    have hn' : P p.1 ∧ P p.2 := by cases d <;> exact hn
    rw [he] at hpos hlen hb h
    rw [ht] at hl ⊢
    exact text_line1 K hK nt low sp (d + 2) dd v [p] [] w hk hw hlen hpos hb h (fun q hq => by simp at hq; subst hq; exact hPair _ hn'.1 hn'.2) (by simp) (by simp only [List.length_append] at hl; omega) hsp
  | line l =>
    have he : toShp d (.line l) = .mk 2 [l] [] := by cases d <;> rfl
    have hne : l ≠ [] := by cases d <;> exact hf
    have ht : geoT low sp nt d (.line l) = wd low (kwOf 2) ++ (sp ++ lineT sp nt l) := by cases l with | nil => exact absurd rfl hne | cons a b => cases d <;> rfl
    have hn' : ∀ p ∈ l, P p.1 ∧ P p.2 := by cases d <;> exact hn
    have hs' : l.length ≤ 100000 := by cases d <;> exact hs
    rw [he] at hpos hlen hb h
    rw [ht] at hl ⊢
    exact text_line2 K hK nt low sp (d + 2) dd v l [] w hk hw hlen hpos hb h (fun q hq => hPair _ (hn' q hq).1 (hn' q hq).2) (by omega) (by simp only [List.length_append] at hl; omega) hsp
  | mpt l =>
    have he : toShp d (.mpt l) = .mk 4 [l] [] := by cases d <;> rfl
    have hne : l ≠ [] := by cases d <;> exact hf
    have ht : geoT low sp nt d (.mpt l) = wd low (kwOf 4) ++ (sp ++ brs sp (l.map fun p => lineT sp nt [p])) := by cases l with | nil => exact absurd rfl hne | cons a b => cases d <;> rfl
    have hn' : ∀ p ∈ l, P p.1 ∧ P p.2 := by cases d <;> exact hn
    have hs' : l.length ≤ 100000 := by cases d <;> exact hs
    rw [he] at hpos hlen hb h
    rw [ht] at hl ⊢
    exact text_mpt K hK nt low sp (d + 2) dd v l [] w hk hw hlen hpos hb h (fun q hq => hPair _ (hn' q hq).1 (hn' q hq).2) (by omega) (by simp only [List.length_append] at hl; omega) hsp
  | poly ls =>
    have he : toShp d (.poly ls) = .mk 3 ls [] := by cases d <;> rfl
    have hne : fullL ls := by cases d <;> exact hf
    have ht : geoT low sp nt d (.poly ls) = wd low (kwOf 3) ++ (sp ++ brs sp (ls.map (lineT sp nt))) := by cases ls with | nil => exact absurd rfl hne.1 | cons a b => cases d <;> rfl
    have hn' : ∀ y ∈ ls, ∀ p ∈ y, P p.1 ∧ P p.2 := by cases d <;> exact hn
    have hs' : sml ls := by cases d <;> exact hs
    rw [he] at hpos hlen hb h
    rw [ht] at hl ⊢
    exact text_rows3 K hK nt low sp (d + 2) dd v ls [] w hk hw hlen hpos hb h (fun y hy q hq => hPair _ (hn' y hy q hq).1 (hn' y hy q hq).2) (fun y hy => by have := hs'.2 y hy; omega) (by have := hs'.1; omega) (by simp only [List.length_append] at hl; omega) hsp
  | mline ls =>
    have he : toShp d (.mline ls) = .mk 5 ls [] := by cases d <;> rfl
    have hne : fullL ls := by cases d <;> exact hf
    have ht : geoT low sp nt d (.mline ls) = wd low (kwOf 5) ++ (sp ++ brs sp (ls.map (lineT sp nt))) := by cases ls with | nil => exact absurd rfl hne.1 | cons a b => cases d <;> rfl
    have hn' : ∀ y ∈ ls, ∀ p ∈ y, P p.1 ∧ P p.2 := by cases d <;> exact hn
    have hs' : sml ls := by cases d <;> exact hs
    rw [he] at hpos hlen hb h
    rw [ht] at hl ⊢
    exact text_rows5 K hK nt low sp (d + 2) dd v ls [] w hk hw hlen hpos hb h (fun y hy q hq => hPair _ (hn' y hy q hq).1 (hn' y hy q hq).2) (fun y hy => by have := hs'.2 y hy; omega) (by have := hs'.1; omega) (by simp only [List.length_append] at hl; omega) hsp
  | mpoly ps =>
    have he : toShp d (.mpoly ps) = .mk 6 [] (ps.map fun ls => .mk 3 ls []) := by cases d <;> rfl
    have hne : ps ≠ [] ∧ ∀ ls ∈ ps, fullL ls := by cases d <;> exact hf
    have ht : geoT low sp nt d (.mpoly ps) = wd low (kwOf 6) ++ (sp ++ brs sp (ps.map fun ls => brs sp (ls.map (lineT sp nt)))) := by cases ps with | nil => exact absurd rfl hne.1 | cons a b => cases d <;> rfl
    have hn' : ∀ ls ∈ ps, ∀ y ∈ ls, ∀ p ∈ y, P p.1 ∧ P p.2 := by cases d <;> exact hn
    have hs' : ps.length ≤ 100000 ∧ ∀ ls ∈ ps, sml ls := by cases d <;> exact hs
    rw [he] at hpos hlen hb h
    rw [ht] at hl ⊢
    have hbl : (brs sp (ps.map fun ls => brs sp (ls.map (lineT sp nt)))).length ≤ 100000000 := by simp only [List.length_append] at hl; omega
    refine text_parts6 K hK (fun ls => brs sp (ls.map (lineT sp nt))) (fun ls => .mk 3 ls []) low sp (d + 2) dd v [] ps w hk hw hlen hpos hb h (fun ls hls => ⟨3, ls, [], rfl, fun v wx hkx hv => ?_⟩) (by have := hs'.1; omega) hbl hsp
    have h1 := jn_mem_le sp (ps.map fun ls => brs sp (ls.map (lineT sp nt))) (brs sp (ls.map (lineT sp nt))) (List.mem_map.2 ⟨ls, hls, rfl⟩)
    exact listsText_calls K hK nt low sp v ls wx hkx hv (fun y hy q hq => hPair _ (hn' ls hls y hy q hq).1 (hn' ls hls y hy q hq).2) (fun y hy => by have := (hs'.2 ls hls).2 y hy; omega) (by have := (hs'.2 ls hls).1; omega) (by rw [brs, List.length_append, List.length_cons] at hbl; simp at hbl; omega) hsp

/-- Text, of a full shape. -/
theorem text_calls (K : World → Prop) (hK : ∀ w w', K w → Bel w w' → K w') (nt : Nat → List UInt8) (P : Nat → Prop) (hPair : ∀ p : Pt, P p.1 → P p.2 → Pairs K nt p) (low : Bool) (sp : List UInt8) (hsp : sp.length ≤ 100) :
    ∀ (d dd : Nat) (g : Geo) (v : Value) (w : World), FullG d g → Small d g → AllN P d g → (geoT low sp nt d g).length ≤ 100000000 → (ptsOf (d + 2) (toShp d g)).length ≤ 1000000 → K w → WEnv w → ShpAt dd w v (toShp d g) →
    Calls Tryz.prog 14 #[styV low sp, v] w fun e w' => e = .returned (.string (ofL (geoT low sp nt d g))) ∧ Bel w w' := by
  intro d
  induction d with
  | zero =>
    intro dd g v w hf hs hn hl hb hk hw h
    exact text_flat K hK nt P hPair low sp hsp 0 dd g v w hf hs hn hl hb hk hw h (fun l hg => by subst hg; exact hs.elim)
  | succ d ih =>
    intro dd g v w hf hs hn hl hb hk hw h
    by_cases hg : ∃ l, g = .coll l
    · obtain ⟨gs, rfl⟩ := hg
      have hpos := full_pos _ _ hf
      have hlen := small_lenS _ _ hs
      obtain ⟨hne, hf2⟩ := hf
      have ht : geoT low sp nt (d + 1) (.coll gs) = wd low (kwOf 7) ++ (sp ++ brs sp (gs.map (geoT low sp nt d))) := by cases gs with | nil => exact absurd rfl hne | cons a b => rfl
      rw [ht] at hl ⊢
      have hbl : (brs sp (gs.map (geoT low sp nt d))).length ≤ 100000000 := by simp only [List.length_append] at hl; omega
      refine text_parts7 K hK (geoT low sp nt d) (toShp d) low sp (d + 3) dd v [] gs w hk hw hlen hpos hb h (fun g hg dd v wx hkx hwx hv => ?_) (by have := hs.1; omega) hbl hsp
      have h1 := jn_mem_le sp (gs.map (geoT low sp nt d)) (geoT low sp nt d g) (List.mem_map.2 ⟨g, hg, rfl⟩)
      have h2 := part_pts_le (d + 2) 7 [] (gs.map (toShp d)) (toShp d g) (List.mem_map.2 ⟨g, hg, rfl⟩)
      exact ih dd g v wx (hf2 g hg) (hs.2 g hg) (hn g hg) (by rw [brs, List.length_append, List.length_cons] at hbl; simp at hbl; omega) (Nat.le_trans h2 hb) hkx hwx hv
    · exact text_flat K hK nt P hPair low sp hsp (d + 1) dd g v w hf hs hn hl hb hk hw h (fun l hl' => hg ⟨l, hl'⟩)
end Go.Proofs.YtghajgdiaopioaaGreatDoor

/- Walks: all (22), with IsWhole. -/
namespace Go.Proofs.YtghajgdiaopioaaGreatDoor
open Go.RowKit
attribute [local go_sem] run_store_float run_store_iface run_store_nilIface

/-- Every coordinate of a shape is such a one. -/
def AllS (Q : Nat → Prop) : Nat → Shp → Prop
  | 0, _ => True
  | d + 1, .mk _ ls ps => (∀ l ∈ ls, ∀ p ∈ l, Q p.1 ∧ Q p.2) ∧ ∀ s ∈ ps, AllS Q d s
/-- What a test of coordinates tells. -/
def Tells (F : Nat) (V Q : Nat → Prop) : Prop := ∀ x, V x → ∀ w, Calls Tryz.prog F #[.float .f64 x] w fun e w' => ∃ b, e = .returned (.bool b) ∧ Bel w w' ∧ (b = true → Q x)

set_option maxRecDepth 10000 in
set_option maxHeartbeats 4000000 in
theorem all_step23 (V Q : Nat → Prop) (d dd : Nat) (k : Int) (ls : List (List Pt)) (ps : List Shp) (L P : Value) (w : World) (hL : RowAt PtsAt w L ls) (hP : PartsAt (ShpAt dd) w P ps) (h3 : ls.length ≤ 40) (h4 : ps.length ≤ 40) (h5 : ∀ l ∈ ls, l.length ≤ 1000000000)
    (hF : Tells 23 V Q) (hV : ∀ l ∈ ls, ∀ p ∈ l, V p.1 ∧ V p.2)
    (ih : ∀ p ∈ ps, ∀ (v : Value) (wx : World), ShpAt dd wx v p → Calls Tryz.prog 22 #[v, .func (.func 23) #[] #[]] wx fun e w' => ∃ b, e = .returned (.bool b) ∧ Bel wx w' ∧ (b = true → AllS Q d p)) :
    Calls Tryz.prog 22 #[.agg #[.int .i64 k, L, P], .func (.func 23) #[] #[]] w fun e w' => ∃ b, e = .returned (.bool b) ∧ Bel w w' ∧ (b = true → AllS Q (d + 1) (.mk k ls ps)) := by
  obtain ⟨ao, cap, rfl, -, hlc⟩ := hL
  obtain ⟨bo, cap2, rfl, -, hpc⟩ := hP
  have HLC := Lib.hid hlc
  have HPC := Lib.hid hpc
  have HIH := Lib.hid ih
  have HF := Lib.hid hF
  have HV := Lib.hid hV
  have H5 := Lib.hid h5
  clear hlc hpc ih hF hV h5
  go_enter Tryz.func22, Tryz.ntmps22
  go_wp2_with fail
  have hbox : (w.alloc (.cells #[.int .i64 k, .slice ao ls.length cap, .slice bo ps.length cap2] 25)).heap[w.heap.size]? = some (.cells #[.int .i64 k, .slice ao ls.length cap, .slice bo ps.length cap2] 25) := heap_alloc_new _ _
  have hb0 : Bel w (w.alloc (.cells #[.int .i64 k, .slice ao ls.length cap, .slice bo ps.length cap2] 25)) := Bel.al _ _
  have HBOX := Lib.hid hbox
  have HB0 := Lib.hid hb0
  clear hbox hb0
  generalize w.alloc (.cells #[.int .i64 k, .slice ao ls.length cap, .slice bo ps.length cap2] 25) = w1 at *
  go_loopg [14] ls.length (fun g s14 wr => ∃ (i : Nat), i ≤ ls.length ∧ g = ls.length - i ∧ s14 = .int .i64 i ∧ Hid ((∀ l ∈ ls.take i, ∀ p ∈ l, Q p.1 ∧ Q p.2) ∧ Bel w1 wr))
  case atStart => exact ⟨0, by omega, rfl, rfl, ⟨by simp, Below.refl _ _⟩⟩
  case round =>
    obtain ⟨i, hi1, rfl, rfl, hz⟩ := hrel
    by_cases hlt : i < ls.length
    · obtain ⟨l, hl⟩ : ∃ l, ls[i]? = some l := ⟨_, List.getElem?_eq_getElem hlt⟩
      obtain ⟨a, x, rfl, c0, hx⟩ := HLC.out i l hl
      have c0' := (HB0.out.tr hz.out.2).cellOf c0
      obtain ⟨ao1, cap1, rfl, -, hc⟩ := hx
      have hll := H5.out l (List.mem_of_getElem? hl)
      have HLL := Lib.hid hl
      have HC := Lib.hid hc
      clear c0 hl hc
      go_wp2_with fail
      go_loopg [20] l.length (fun g s20 wr2 => ∃ (j : Nat), j ≤ l.length ∧ g = l.length - j ∧ s20 = .int .i64 j ∧ Hid ((∀ p ∈ l.take j, Q p.1 ∧ Q p.2) ∧ Bel wr wr2))
      case atStart => exact ⟨0, by omega, rfl, rfl, ⟨by simp, Below.refl _ _⟩⟩
      case round =>
        obtain ⟨j, hj1, rfl, rfl, hz2⟩ := hrel
        by_cases hlt2 : j < l.length
        · obtain ⟨p, hp⟩ : ∃ p, l[j]? = some p := ⟨_, List.getElem?_eq_getElem hlt2⟩
          obtain ⟨a2, rfl, p0, p1⟩ := HC.out j p hp
          have hbw := HB0.out.tr (hz.out.2.tr hz2.out.2)
          have p0' := hbw.cellOf p0
          have p1' := hbw.cellOf p1
          clear p0 p1
          have hvp := HV.out l (List.mem_of_getElem? HLL.out) p (List.mem_of_getElem? hp)
          have HX := Lib.hid (HF.out p.1 hvp.1)
          have HY := Lib.hid (HF.out p.2 hvp.2)
          have HPP := Lib.hid hp
          clear hp hvp
          go_wp2_with fail
          obtain ⟨w2, hw2⟩ : ∃ w2, wr.alloc (.cells #[.float .f64 p.1, .float .f64 p.2] 49) = w2 := ⟨_, rfl⟩
          have hb2 : Bel wr w2 := by rw [← hw2]; exact Bel.al _ _
          have hbx : w2.heap[wr.heap.size]? = some (.cells #[.float .f64 p.1, .float .f64 p.2] 49 (0, 0)) := by rw [← hw2]; exact heap_alloc_new _ _
          rw [hw2]
          have HB2 := Lib.hid hb2
          have HBX := Lib.hid hbx
          clear hb2 hbx hw2
          refine (HX.out _).mono ?_
          rintro e w3 ⟨b1, rfl, hb3, hq1⟩
          have HB3 := Lib.hid (HB2.out.tr hb3)
          have hbx3 := hb3.heap HBX.out
          have r1 : w3.cell? ⟨wr.heap.size, 1, none⟩ = some (.float .f64 p.2) := by simp [World.cell?, hbx3]
          clear hb3 hbx3
          cases b1
          · clear hq1
            go_wp2
            go_ret
            exact ⟨false, rfl, HB0.out.tr (hz.out.2.tr (hz2.out.2.tr HB3.out)), fun h => absurd h (by decide)⟩
          · have HQ1 := Lib.hid (hq1 rfl)
            clear hq1
            go_wp2_with fail
            refine (HY.out _).mono ?_
            rintro e w4 ⟨b2, rfl, hb4, hq2⟩
            have HB4 := Lib.hid (HB3.out.tr hb4)
            clear hb4
            cases b2
            · clear hq2
              go_wp2
              go_ret
              exact ⟨false, rfl, HB0.out.tr (hz.out.2.tr (hz2.out.2.tr HB4.out)), fun h => absurd h (by decide)⟩
            · have HQ2 := Lib.hid (hq2 rfl)
              clear hq2
              go_wp2
              go_roundg (l.length - (j + 1))
              case measure => omega
              case rel =>
                refine ⟨j + 1, by omega, rfl, by go_num, ?_, hz2.out.2.tr HB4.out⟩
                intro p' hp'
                rw [List.take_add_one, HPP.out] at hp'
                rcases List.mem_append.1 hp' with h | h
                · exact hz2.out.1 p' h
                · have : p' = p := by simpa using h
                  rw [this]; exact ⟨HQ1.out, HQ2.out⟩
        · obtain rfl : j = l.length := by omega
          have hkz : ¬ ((l.length : Int) < (l.length : Int)) := by omega
          have hz3 := hz2.out.1
          rw [List.take_length] at hz3
          have HZ3 := Lib.hid hz3
          clear hz3
          go_wp2
          go_roundg (ls.length - (i + 1))
          case measure => omega
          case rel =>
            refine ⟨i + 1, by omega, rfl, by go_num, ?_, hz.out.2.tr hz2.out.2⟩
            intro l' hl'
            rw [List.take_add_one, HLL.out] at hl'
            rcases List.mem_append.1 hl' with h | h
            · exact hz.out.1 l' h
            · have : l' = l := by simpa using h
              rw [this]; exact HZ3.out
    · obtain rfl : i = ls.length := by omega
      have hkz : ¬ ((ls.length : Int) < (ls.length : Int)) := by omega
      have hz0 := hz.out.1
      have hzb := hz.out.2
      rw [List.take_length] at hz0
      have HZ0 := Lib.hid hz0
      have HZB := Lib.hid hzb
      clear hz hz0
      have q2 : wr.cell? ⟨w.heap.size, 2, none⟩ = some (.slice bo ps.length cap2) := by simp [World.cell?, hzb.heap HBOX.out]
      clear hzb
      go_wp2_with fail
      clear q2
      go_loopg [41] ps.length (fun g s41 wr2 => ∃ (i : Nat), i ≤ ps.length ∧ g = ps.length - i ∧ s41 = .int .i64 i ∧ Hid ((∀ s ∈ ps.take i, AllS Q d s) ∧ Bel w1 wr2))
      case atStart => exact ⟨0, by omega, rfl, rfl, by simp, HZB.out⟩
      case round =>
        obtain ⟨i, hi2, rfl, rfl, hz⟩ := hrel
        by_cases hlt2 : i < ps.length
        · obtain ⟨s, hs⟩ : ∃ s, ps[i]? = some s := ⟨_, List.getElem?_eq_getElem hlt2⟩
          obtain ⟨a, c0, c1, c2, rfl, q0, q1, q2, hx⟩ := HPC.out i s hs
          have hbel := HB0.out.tr hz.out.2
          have q0' := hbel.cellOf q0
          have q1' := hbel.cellOf q1
          have q2' := hbel.cellOf q2
          have HX := Lib.hid (fun wx (hb : Bel w wx) => HIH.out s (List.mem_of_getElem? hs) (.agg #[c0, c1, c2]) wx (ShpAt.bel hb dd _ _ hx))
          obtain ⟨k2, a1, n1, k1, a2, n2, k3, rfl, rfl, rfl⟩ : ∃ k2 a1 n1 k1 a2 n2 k3, c0 = .int .i64 k2 ∧ c1 = .slice a1 n1 k1 ∧ c2 = .slice a2 n2 k3 := by
            cases dd with
            | zero => exact hx.elim
            | succ dd =>
              obtain ⟨kk, lls, pps⟩ := s
              obtain ⟨L', P', he, ⟨a1, k1, h1, _⟩, a2, k2, h2, _⟩ := hx
              cases he
              exact ⟨kk, _, _, _, _, _, _, rfl, h1, h2⟩
          have HSS := Lib.hid hs
          have HBEL := Lib.hid hbel
          clear q0 q1 q2 hx hs hbel
          go_wp2_with fail
          obtain ⟨w0, hw0⟩ : ∃ u, u = wr := ⟨_, rfl⟩
          subst hw0
          have hb2 : Bel w0 (w0.alloc (.cells #[.int .i64 k2, .slice a1 n1 k1, .slice a2 n2 k3] 25)) := Bel.al _ _
          have HB2 := Lib.hid hb2
          clear hb2
          generalize w0.alloc (.cells #[.int .i64 k2, .slice a1 n1 k1, .slice a2 n2 k3] 25) = w2 at *
          refine (HX.out w2 (HBEL.out.tr HB2.out)).mono ?_
          rintro e w3 ⟨b, rfl, hb3, hq⟩
          have HB3 := Lib.hid (HB2.out.tr hb3)
          clear hb3
          cases b with
          | false =>
            clear hq
            go_wp2
            go_ret
            exact ⟨false, rfl, HB0.out.tr (hz.out.2.tr HB3.out), fun h => absurd h (by decide)⟩
          | true =>
            have HQ := Lib.hid (hq rfl)
            clear hq
            go_wp2
            go_roundg (ps.length - (i + 1))
            case measure => omega
            case rel =>
              refine ⟨i + 1, by omega, rfl, by go_num, ?_, hz.out.2.tr HB3.out⟩
              intro s' hs'
              rw [List.take_add_one, HSS.out] at hs'
              rcases List.mem_append.1 hs' with h | h
              · exact hz.out.1 s' h
              · have : s' = s := by simpa using h
                rw [this]; exact HQ.out
        · obtain rfl : i = ps.length := by omega
          have hkz2 : ¬ ((ps.length : Int) < (ps.length : Int)) := by omega
          obtain ⟨hz1, hz2⟩ := hz.out
          rw [List.take_length] at hz1
          have HFIN := Lib.hid (show Bel w wr ∧ AllS Q (d + 1) (.mk k ls ps) from ⟨HB0.out.tr hz2, HZ0.out, hz1⟩)
          clear hz hz1 hz2
          go_wp2
          go_ret
          first | exact ⟨true, rfl, HFIN.out.1, fun _ => HFIN.out.2⟩ | exact .inr ⟨rfl, HFIN.out.1, HFIN.out.2⟩
theorem all_calls23 (V Q : Nat → Prop) (hF : Tells 23 V Q) : ∀ (d dd : Nat) (v : Value) (s : Shp) (w : World), okS d s = true → LenS d s → AllS V d s → ShpAt dd w v s → Calls Tryz.prog 22 #[v, .func (.func 23) #[] #[]] w fun e w' => ∃ b, e = .returned (.bool b) ∧ Bel w w' ∧ (b = true → AllS Q d s) := by
  intro d
  induction d with
  | zero => intro dd v s w h; simp [okS] at h
  | succ d ih =>
    intro dd v s w hok hl hv h
    obtain ⟨d', k, ls, ps, L, P, rfl, rfl, rfl, hL, hP⟩ := shpAt_slices h
    obtain ⟨_, _, h3, h4, h5, _⟩ := okS_parts hok
    exact all_step23 V Q d d' k ls ps L P w hL hP h3 h4 (fun l hm => Nat.le_trans (hl.2.2.1 l hm) (by decide)) hF hv.1 fun p hp v wx hx => ih d' v p wx (h5 p hp).1 (hl.2.2.2 p hp) (hv.2 p hp) hx
end Go.Proofs.YtghajgdiaopioaaGreatDoor
