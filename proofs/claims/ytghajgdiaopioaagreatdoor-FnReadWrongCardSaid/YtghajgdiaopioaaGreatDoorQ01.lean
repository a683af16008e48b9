/- The row of FnWrite, lifted: there is an input that fits, and from every one the law returns true. -/
import Derived.OpenVars
import Derived.Lay
import Derived.Deep.DeepHandedRow
import Derived.Deep.DeepWitnessRowRef
import Derived.MakeChecks
import Derived.Test.YtghajgdiaopioaaGreatDoorW46
import Derived.Test.YtghajgdiaopioaaGreatDoorW47
set_option linter.unusedVariables false
set_option linter.unusedSimpArgs false

namespace Go.Proofs.YtghajgdiaopioaaGreatDoor
open Go.ChangeShapes Go.WideShapes Go.ChangeAt Go.RowKit
set_option maxRecDepth 100000

theorem ownZ : ownKnob Tryz.prog.godebug = none := by kernel_rfl
theorem laidOutZ : laidOutB Tryz.prog = true := by kernel_rfl
def zeroShp : Value := .agg #[.int .i64 0, .slice none 0 0, .slice none 0 0]
theorem shapedW (os : Os) (args : Array Value) : ((World.laidAll Tryz.prog os Rows.fnWriteRow.laid).forCall (fun _ _ => 0) ⟨#[], args, []⟩).Shaped Tryz.prog := World.shaped_of_ZipB (by kernel_rfl) (by kernel_rfl)
theorem metW (os : Os) (args : Array Value) : laidMet Tryz.prog Rows.fnWriteRow.laid ((World.laidAll Tryz.prog os Rows.fnWriteRow.laid).forCall (fun _ _ => 0) ⟨#[], args, []⟩).memory := laidMet_laidAll _ (by kernel_rfl) (by kernel_rfl)
end Go.Proofs.YtghajgdiaopioaaGreatDoor

/- The row of FnWrite: from every input that fits the law returns true. -/
namespace Go.Proofs.YtghajgdiaopioaaGreatDoor
open Go.ChangeShapes Go.WideShapes Go.ChangeAt Go.RowKit
set_option maxRecDepth 100000

/-- A list of three. -/
theorem vars3 {H : Type} {enc : TypeId × Value → H} {P : Program} {w : World} {spare : Nat → Bool} {a b c : String} {gs : List (DataW H)} {q : List MemPlace} (h : DataW.TrodVars enc P w spare [a, b, c] gs q) : ∃ x y z, gs = [x, y, z] := by
  match gs, h with
  | [], h => exact h.elim
  | [_], h => obtain ⟨_, _, _, _, _, _, _, _, _, _, h, _⟩ := h; exact h.elim
  | [_, _], h => obtain ⟨_, _, _, _, _, _, _, _, _, _, h, _⟩ := h; obtain ⟨_, _, _, _, _, _, _, _, _, _, h, _⟩ := h; exact h.elim
  | [x, y, z], _ => exact ⟨x, y, z, rfl⟩
  | _ :: _ :: _ :: _ :: _, h =>
    obtain ⟨_, _, _, _, _, _, _, _, _, _, h, _⟩ := h; obtain ⟨_, _, _, _, _, _, _, _, _, _, h, _⟩ := h; obtain ⟨_, _, _, _, _, _, _, _, _, _, h, _⟩ := h; exact h.elim

theorem witness_write (os : Os) {H : Type} (enc : TypeId × Value → H) : ∃ (w : World) (tape : Tape) (i : Input), w.os = os ∧ (w.forCall tape i).Shaped Tryz.checked.prog ∧ i.vars = [] ∧ Input.okWide Tryz.checked.prog (w.forCall tape i) .any w.heap.size 4 i ∧
      (OpenSpec.ofChange Rows.fnWriteSpec).preRow enc Tryz.checked.prog Tryz.f4 Rows.fnWriteRow.domain false Rows.fnWriteRow.laid (w.forCall tape i).memory i.args ∧ ({} : Assume).holds Tryz.checked.prog (lone (Frame.enter Tryz.checked.prog 4 i.args .normal) [] (w.forCall tape i)) :=
  ChangeSpec.witness_shaped (enc := enc) (C := Tryz.checked) (os := os) (X := fun w _ => laidMetH Tryz.prog Rows.fnWriteRow.laid w) false (World.laidAll Tryz.prog os Rows.fnWriteRow.laid) #[zeroShp] 16 (World.laidAll_os _ _ _)
      (shapedW os _) (by kernel_rfl) (by kernel_rfl) (by kernel_rfl)
      (by rw [MakeChecks.laidMetH_plain _ _ _ (by kernel_rfl)]; exact metW os _)
theorem write_lifted (os : Os) (started : os.Started) (H : Type) (enc : TypeId × Value → H) (F : Stop.Interp) :
    ReturnsInHanded {} Tryz.checked os 4 .any ((OpenSpec.ofChange Rows.fnWriteSpec).preRow enc Tryz.prog Tryz.f4 Rows.fnWriteRow.domain false Rows.fnWriteRow.laid) (((OpenSpec.ofChange Rows.fnWriteSpec).at F).post enc Tryz.prog Tryz.f4 false true false false) := by
  refine returnsInHanded_of_row (C := Tryz.checked) (s := OpenSpec.ofChange Rows.fnWriteSpec) ownZ started (by kernel_rfl) Tryz.func4 (witness_write os enc) ?_
  intro W base args ds gs before hval0 hW _ _ hsz hL _ _
  have hval : ∀ (j : Nat) t v, Tryz.f4.params[j]? = some t → args[j]? = some v → Value.okWide Tryz.prog W .any base t v := hval0
  have hW' := hW
  have hblk := fun x (hx : x ∈ before) => hW'.lt x hx
  obtain ⟨p, q, hA0, hV0, hpq, _, _⟩ := hW
  have hA : DataW.TrodAll enc Tryz.prog W 0 (fun _ => true) true Tryz.f4.params.toList args.toList ds p := hA0
  have hV : DataW.TrodVars enc Tryz.prog W (fun _ => true) ["loop.example/pub-g01503/pub/orbwkt.ErrUnsupportedGeometry", "loop.example/pub-g01503/pub/orbwkt.ErrNotWKT", "loop.example/pub-g01503/spec.words"] gs q := hV0
  rw [Tryz.params4] at hA hval
  obtain ⟨v0, d0, rfl, rfl, h0⟩ := trodAll_one hA
  obtain ⟨g1, g2, g3, rfl⟩ := vars3 hV
  obtain ⟨dd, s, ha⟩ := arg_of (hval 0 25 v0 rfl rfl) h0 (fun b hb => by
    have h1 : (DataW.weightsEach Tryz.prog (Tryz.f4.params.toList ++ (OpenSpec.ofChange Rows.fnWriteSpec).bare.plain.varTypes Tryz.prog) ([d0] ++ [g1, g2, g3])).all (· ≤ reachBytes) = true := hsz
    rw [Tryz.params4] at h1
    have h2 := List.all_eq_true.1 h1 b (by
      show b ∈ DataW.weightsEach Tryz.prog (25 :: _) (d0 :: _)
      unfold DataW.weightsEach
      exact List.mem_append_left _ hb)
    simpa using h2)
  have hL' : laidMet Tryz.prog Rows.fnWriteRow.laid W := by
    have h1 : laidMetH Tryz.prog Rows.fnWriteRow.laid W := hL
    rwa [MakeChecks.laidMetH_plain _ _ _ (by kernel_rfl)] at h1
  obtain ⟨G, hG, hE⟩ := env_of hL'
  refine (fnWrite_calls G hG dd v0 s W hE ha).mono ?_
  rintro e W' ⟨rfl, hb⟩
  have hb' : Below W.heap.size W W' := hb
  have e1 : (((OpenSpec.ofChange Rows.fnWriteSpec).at F).fn H ([d0] ++ [g1, g2, g3])) = { results := [.lit (.bool true)], args := [d0], vars := [g1, g2, g3] } := rfl
  refine ⟨_, rfl, _, _, _, [], p, q, hW', ?_, ?_, ?_, hb'.frame _, fun h => by cases h⟩
  · rw [e1]; exact trodAll_mk1 (shut_bool Tryz.underlying4 _)
  · rw [e1]; exact trodAll_mk1 (Below.trod laidOutZ (by kernel_rfl) (of_decide_eq_true (by kernel_rfl)) h0 hb' (fun x hx => by simpa using hblk x (by rw [hpq]; exact List.mem_append_left _ hx)))
  · rw [e1]; exact hb'.trodVars laidOutZ (by kernel_rfl) hV
end Go.Proofs.YtghajgdiaopioaaGreatDoor

/- Walks: FnReadWrong (3). -/
namespace Go.Proofs.YtghajgdiaopioaaGreatDoor
open Go.RowKit
attribute [local go_sem] run_store_float run_store_iface run_store_nilIface

theorem empty_pts (g : Geo) (h : EmptyG g) : (ptsOf 4 (toShp 4 g)).length = 0 := by
  obtain ⟨_, _, _, _, _, _, _, h5⟩ := empty_text false [] g h
  exact h5
/-- The wrong texts that are made of a right one. -/
theorem wrong_reads {G : Errs} (hG : HasAll G) (g : Geo) (h : Good g) (hf : FullG 4 g) : 2 ≤ (geoT false [] ntW 4 g).length ∧ (geoT false [] ntW 4 g).length ≤ 1000000 ∧ GeoReads G 4 (geoT false [] ntW 4 g).dropLast none ∧ GeoReads G 4 (88 :: geoT false [] ntW 4 g) none := by
  have hn := AllN.mono (fun _ hx => ntW_ok hG hx) 4 g h.whole
  have hlen := good_len false (sp := []) (by decide) g h
  obtain ⟨_, ht, h2⟩ := geo_texts (G := G) (nt := ntW) (low := false) (sp := []) (.inl rfl) (d := 4) (gs := [g]) (by simpa using hf) (by simpa using hn) (geoT false [] ntW 4 g) (by simp)
  exact ⟨h2, hlen, geo_cut G ntW false (.inl rfl) 4 g hf h.small hn (by omega), geo_x G 4 _ ht.2 (by omega)⟩
theorem three_reads {G : Errs} (hG : HasAll G) : GeoReads G 4 [76, 73, 78, 69, 83, 84, 82, 73, 78, 71, 40, 49, 32, 50, 44, 51, 41] none := by
  have h1 := num_reads G (fun w hE => ⟨(hG w hE).tabs, (hG w hE).info, (hG w hE).opt⟩) (neg := false) (n := 1) (by unfold Wh; decide)
  have h2 := num_reads G (fun w hE => ⟨(hG w hE).tabs, (hG w hE).info, (hG w hE).opt⟩) (neg := false) (n := 2) (by unfold Wh; decide)
  exact geo_three G 4 _ _ h1 h2
theorem how_cases (how : Int) : how = 0 ∨ how = 1 ∨ how = 2 ∨ how = 3 ∨ how = 4 ∨ ((how == 0) = false ∧ (how == 1) = false ∧ (how == 2) = false ∧ (how == 3) = false ∧ (how == 4) = false) := by
  by_cases h0 : how = 0
  · exact .inl h0
  by_cases h1 : how = 1
  · exact .inr (.inl h1)
  by_cases h2 : how = 2
  · exact .inr (.inr (.inl h2))
  by_cases h3 : how = 3
  · exact .inr (.inr (.inr (.inl h3)))
  by_cases h4 : how = 4
  · exact .inr (.inr (.inr (.inr (.inl h4))))
  exact .inr (.inr (.inr (.inr (.inr ⟨by simpa using h0, by simpa using h1, by simpa using h2, by simpa using h3, by simpa using h4⟩))))

set_option maxRecDepth 10000 in
set_option maxHeartbeats 4000000 in
theorem fnReadWrong_calls (G : Errs) (hG : HasAll G) (dd : Nat) (v : Value) (s : Shp) (how : Int) (w : World) (hE : Env G w) (h : Arg dd w v s) : Calls Tryz.prog 3 #[v, .int .i64 how] w fun e w' => e = .returned (.bool true) ∧ Bel w w' := by
  have HZ := Lib.hid (fun wx (hb : Bel w wx) => zz1_calls dd v s wx (ShpAt.bel hb _ _ _ h.at'))
  have HWH := Lib.hid (fun wx (hb : Bel w wx) => h.whole wx hb)
  have HFU := Lib.hid (fun wx (hb : Bel w wx) (hi : isShp s = true) => h.isFull wx hb hi)
  have HWR := Lib.hid (fun wx (hb : Bel w wx) => writes_calls G hG wx (hE.bel hb))
  have HGO := Lib.hid (fun (hi : isShp s = true) (hf : (emptyS 4 s || fullS 4 s) = true) (ha : AllS IsWh 4 s) => good_of s hi h.len hf ha)
  have HR := Lib.hid (fun (l : List UInt8) (hr : GeoReads G 4 l none) wx (hb : Bel w wx) => read_err0 G 4 l wx (hE.bel hb) hr)
  have HPO := Lib.hid (fun wx (hl : LenS 4 s) (hp : (ptsOf 4 s).length ≤ 1000000) (hb : Bel w wx) => pointsOf_len 4 dd v s wx hl hp (ShpAt.bel hb _ _ _ h.at'))
  have HT := Lib.hid (fun g (hg : Good g) (e : s = toShp 4 g) (hl : LenS 4 s) wx (hb : Bel w wx) => good_text hG false (sp := []) (.inl rfl) g hg (by rw [← e]; exact hl) dd v wx (hE.bel hb) (by rw [← e]; exact ShpAt.bel hb _ _ _ h.at'))
  have HWG := Lib.hid (fun g (hg : Good g) (hf : FullG 4 g) => wrong_reads hG g hg hf)
  have HO := Lib.hid (geo_one G 4)
  have H3 := Lib.hid (three_reads hG)
  have HN := Lib.hid (geo_nil G 4)
  obtain ⟨k, ao, n, c, bo, m, c', rfl⟩ : ∃ k ao n c bo m c', v = .agg #[.int .i64 k, .slice ao n c, .slice bo m c'] := by
    obtain ⟨d', k, ls, ps, L, P, _, _, rfl, hL, hP⟩ := shpAt_slices h.at'
    obtain ⟨ao, cap, rfl⟩ := hL.slice
    obtain ⟨bo, cap2, rfl⟩ := partsAt_slice hP
    exact ⟨k, ao, _, cap, bo, _, cap2, rfl⟩
  clear h hE
  go_enter Tryz.func3, Tryz.ntmps3
  go_wp2_with fail
  have hbx := box3_new w k ao n c bo m c'
  have hb0 : Bel w (w.alloc (.cells #[.int .i64 k, .slice ao n c, .slice bo m c'] 25)) := Bel.al _ _
  generalize w.alloc (.cells #[.int .i64 k, .slice ao n c, .slice bo m c'] 25) = w1 at *
  refine (HZ.out w1 hb0).mono ?_
  rintro e w2 ⟨⟨b, rfl⟩, hb2⟩
  have HB2 := Lib.hid (hb0.tr hb2)
  have HX2 := Lib.hid (hbx.bel hb2)
  clear hb0 hb2 hbx
  cases b with
  | false =>
    go_wp2
    go_ret
    exact ⟨rfl, HB2.out⟩
  | true =>
    obtain ⟨c0, c1, c2⟩ := HX2.out
    go_wp2_with fail
    clear c0 c1 c2
    refine (HWH.out w2 HB2.out).mono ?_
    rintro e w3 ⟨b, rfl, hb3, hq⟩
    have HB3 := Lib.hid (HB2.out.tr hb3)
    have HX3 := Lib.hid (HX2.out.bel hb3)
    have HQ := Lib.hid hq
    clear hb3 hq
    cases b with
    | false =>
      go_wp2_with fail
      refine (HWR.out w3 HB3.out).mono ?_
      rintro e w4 ⟨rfl, hb4⟩
      have HB4 := Lib.hid (HB3.out.tr hb4)
      clear hb4
      go_wp2
      go_ret
      exact ⟨rfl, HB4.out⟩
    | true =>
      obtain ⟨hi, ha⟩ := HQ.out rfl
      have HI := Lib.hid hi
      have HA := Lib.hid ha
      clear hi ha
      obtain ⟨c0, c1, c2⟩ := HX3.out
      go_wp2_with fail
      clear c0 c1 c2
      refine (HFU.out w3 HB3.out HI.out).mono ?_
      rintro e w4 ⟨rfl, hb4⟩
      have HB4 := Lib.hid (HB3.out.tr hb4)
      have HX4 := Lib.hid (HX3.out.bel hb4)
      clear hb4
      cases hf : (emptyS 4 s || fullS 4 s) with
      | false =>
        clear hf
        go_wp2_with fail
        refine (HWR.out w4 HB4.out).mono ?_
        rintro e w5 ⟨rfl, hb5⟩
        have HB5 := Lib.hid (HB4.out.tr hb5)
        clear hb5
        go_wp2
        go_ret
        exact ⟨rfl, HB5.out⟩
      | true =>
        obtain ⟨hl, hp, g, hs, hg, hfg, heg⟩ := HGO.out HI.out hf HA.out
        have HT2 := Lib.hid (fun wx hb => HT.out g hg hs hl wx hb)
        have HPO2 := Lib.hid (fun wx hb => HPO.out wx hl hp hb)
        have HFG : (ptsOf 4 s).length ≠ 0 → FullG 4 g := fun hne => by
          cases hee : emptyS 4 s with
          | true => exact absurd (by have := empty_pts g (heg hee); rwa [← hs] at this) hne
          | false => rw [hee] at hf; exact hfg (by simpa using hf)
        have HFG2 := Lib.hid (fun hne => HWG.out g hg (HFG hne))
        clear HFG HT HPO hf hl hp hs hg hfg heg HGO HWH HFU HZ HWG
        obtain ⟨c0, c1, c2⟩ := HX4.out
        go_wp2_with fail
        clear c0 c1 c2
        refine (HPO2.out w4 HB4.out).mono ?_
        rintro e w5 ⟨⟨po, pc, rfl⟩, hb5⟩
        have HB5 := Lib.hid (HB4.out.tr hb5)
        have HX5 := Lib.hid (HX4.out.bel hb5)
        clear hb5 HX4 HB4 HPO2
        generalize (ptsOf 4 s).length = n5 at *
        cases hz : ((n5 : Int) == 0) with
        | true =>
          have hz2 : decide ((n5 : Int) = 0) = true := hz
          go_wp2_with fail
          refine (HWR.out w5 HB5.out).mono ?_
          rintro e w6 ⟨rfl, hb6⟩
          have HB6 := Lib.hid (HB5.out.tr hb6)
          clear hb6
          go_wp2
          go_ret
          exact ⟨rfl, HB6.out⟩
        | false =>
          have hz2 : decide ((n5 : Int) = 0) = false := hz
          obtain ⟨ht2, htb, hcut, hx⟩ := HFG2.out (by intro e; rw [e] at hz; simp at hz)
          have hsty : styV false [] = .agg #[.bool false, .string ⟨#[]⟩] := rfl
          rw [hsty] at HT2
          clear hsty HFG2
          have HCUT := Lib.hid hcut
          have HXX := Lib.hid hx
          clear hcut hx
          generalize geoT false [] ntW 4 g = t at *
          obtain ⟨c0, c1, c2⟩ := HX5.out
          go_wp2_with fail
          clear c0 c1 c2
          refine (HT2.out w5 HB5.out).mono ?_
          rintro e w6 ⟨rfl, hb6⟩
          have HB6 := Lib.hid (HB5.out.tr hb6)
          clear hb6 HX5 HB5 HT2
          clear hz hz2
          rcases how_cases how with rfl | rfl | rfl | rfl | rfl | ⟨z0, z1, z2, z3, z4⟩
          · have HRR := Lib.hid (fun wx hb => HR.out t.dropLast HCUT.out wx hb)
            have hsz : (ofL t).size = t.length := ofL_size t
            have hex : (ofL t).extract 0 (t.length - 1) = ofL t.dropLast := by rw [ofL_extract, List.dropLast_eq_take]; rfl
            generalize ofL t = T at *
            generalize ofL t.dropLast = T' at *
            go_wp2_with fail
            (try rw [hex])
            clear hex hsz
            with_reducible refine (HRR.out w6 HB6.out).mono ?_
            rintro e w7 ⟨rfl, hb7⟩
            have HB7 := Lib.hid (HB6.out.tr hb7)
            clear hb7 HRR
            go_wp2_with fail
            have HB8 := Lib.hid (HB7.out.tr (Bel.al w7 (.cells #[.int .i64 0, .slice none 0 0, .slice none 0 0] 25)))
            generalize w7.alloc (.cells #[.int .i64 0, .slice none 0 0, .slice none 0 0] 25) = w8 at *
            refine (HWR.out w8 HB8.out).mono ?_
            rintro e w9 ⟨rfl, hb9⟩
            have HB9 := Lib.hid (HB8.out.tr hb9)
            clear hb9
            go_wp2
            go_ret
            exact ⟨rfl, HB9.out⟩
          · have HRR := Lib.hid (fun wx hb => HR.out (88 :: t) HXX.out wx hb)
            have hap : (⟨#[88]⟩ : ByteArray) ++ ofL t = ofL (88 :: t) := ofL_app [88] t
            have hsz : (ofL t).size = t.length := ofL_size t
            generalize ofL t = T at *
            generalize ofL (88 :: t) = T' at *
            have n1 : ¬ (9223372036854775807 < 1 + T.size) := by omega
            clear hsz
            go_wp2_with fail
            (try rw [hap])
            clear hap
            with_reducible refine (HRR.out w6 HB6.out).mono ?_
            rintro e w7 ⟨rfl, hb7⟩
            have HB7 := Lib.hid (HB6.out.tr hb7)
            clear hb7 HRR
            go_wp2_with fail
            have HB8 := Lib.hid (HB7.out.tr (Bel.al w7 (.cells #[.int .i64 0, .slice none 0 0, .slice none 0 0] 25)))
            generalize w7.alloc (.cells #[.int .i64 0, .slice none 0 0, .slice none 0 0] 25) = w8 at *
            refine (HWR.out w8 HB8.out).mono ?_
            rintro e w9 ⟨rfl, hb9⟩
            have HB9 := Lib.hid (HB8.out.tr hb9)
            clear hb9
            go_wp2
            go_ret
            exact ⟨rfl, HB9.out⟩
          · have HRR := Lib.hid (fun wx hb => HR.out [80, 79, 73, 78, 84, 40, 49, 41] HO.out wx hb)
            have hll : ofL [80, 79, 73, 78, 84, 40, 49, 41] = ⟨#[80, 79, 73, 78, 84, 40, 49, 41]⟩ := rfl
            rw [hll] at HRR
            clear hll
            go_wp2_with fail
            with_reducible refine (HRR.out w6 HB6.out).mono ?_
            rintro e w7 ⟨rfl, hb7⟩
            have HB7 := Lib.hid (HB6.out.tr hb7)
            clear hb7 HRR
            go_wp2_with fail
            have HB8 := Lib.hid (HB7.out.tr (Bel.al w7 (.cells #[.int .i64 0, .slice none 0 0, .slice none 0 0] 25)))
            generalize w7.alloc (.cells #[.int .i64 0, .slice none 0 0, .slice none 0 0] 25) = w8 at *
            refine (HWR.out w8 HB8.out).mono ?_
            rintro e w9 ⟨rfl, hb9⟩
            have HB9 := Lib.hid (HB8.out.tr hb9)
            clear hb9
            go_wp2
            go_ret
            exact ⟨rfl, HB9.out⟩
          · have HRR := Lib.hid (fun wx hb => HR.out [76, 73, 78, 69, 83, 84, 82, 73, 78, 71, 40, 49, 32, 50, 44, 51, 41] H3.out wx hb)
            have hll : ofL [76, 73, 78, 69, 83, 84, 82, 73, 78, 71, 40, 49, 32, 50, 44, 51, 41] = ⟨#[76, 73, 78, 69, 83, 84, 82, 73, 78, 71, 40, 49, 32, 50, 44, 51, 41]⟩ := rfl
            rw [hll] at HRR
            clear hll
            go_wp2_with fail
            with_reducible refine (HRR.out w6 HB6.out).mono ?_
            rintro e w7 ⟨rfl, hb7⟩
            have HB7 := Lib.hid (HB6.out.tr hb7)
            clear hb7 HRR
            go_wp2_with fail
            have HB8 := Lib.hid (HB7.out.tr (Bel.al w7 (.cells #[.int .i64 0, .slice none 0 0, .slice none 0 0] 25)))
            generalize w7.alloc (.cells #[.int .i64 0, .slice none 0 0, .slice none 0 0] 25) = w8 at *
            refine (HWR.out w8 HB8.out).mono ?_
            rintro e w9 ⟨rfl, hb9⟩
            have HB9 := Lib.hid (HB8.out.tr hb9)
            clear hb9
            go_wp2
            go_ret
            exact ⟨rfl, HB9.out⟩
          · have HRR := Lib.hid (fun wx hb => HR.out [] HN.out wx hb)
            have hll : ofL [] = ⟨#[]⟩ := rfl
            rw [hll] at HRR
            clear hll
            go_wp2_with fail
            with_reducible refine (HRR.out w6 HB6.out).mono ?_
            rintro e w7 ⟨rfl, hb7⟩
            have HB7 := Lib.hid (HB6.out.tr hb7)
            clear hb7 HRR
            go_wp2_with fail
            have HB8 := Lib.hid (HB7.out.tr (Bel.al w7 (.cells #[.int .i64 0, .slice none 0 0, .slice none 0 0] 25)))
            generalize w7.alloc (.cells #[.int .i64 0, .slice none 0 0, .slice none 0 0] 25) = w8 at *
            refine (HWR.out w8 HB8.out).mono ?_
            rintro e w9 ⟨rfl, hb9⟩
            have HB9 := Lib.hid (HB8.out.tr hb9)
            clear hb9
            go_wp2
            go_ret
            exact ⟨rfl, HB9.out⟩
          · go_wp2_with fail
            refine (HWR.out w6 HB6.out).mono ?_
            rintro e w7 ⟨rfl, hb7⟩
            have HB7 := Lib.hid (HB6.out.tr hb7)
            clear hb7
            go_wp2
            go_ret
            exact ⟨rfl, HB7.out⟩
end Go.Proofs.YtghajgdiaopioaaGreatDoor

/- The row of FnReadWrong: from every input that fits the law returns true. -/
namespace Go.Proofs.YtghajgdiaopioaaGreatDoor
open Go.ChangeShapes Go.WideShapes Go.ChangeAt Go.RowKit
set_option maxRecDepth 100000

theorem witness_readWrong (os : Os) {H : Type} (enc : TypeId × Value → H) : ∃ (w : World) (tape : Tape) (i : Input), w.os = os ∧ (w.forCall tape i).Shaped Tryz.checked.prog ∧ i.vars = [] ∧ Input.okWide Tryz.checked.prog (w.forCall tape i) .any w.heap.size 3 i ∧
      (OpenSpec.ofChange Rows.fnReadWrongSpec).preRow enc Tryz.checked.prog Tryz.f3 Rows.fnReadWrongRow.domain false Rows.fnReadWrongRow.laid (w.forCall tape i).memory i.args ∧ ({} : Assume).holds Tryz.checked.prog (lone (Frame.enter Tryz.checked.prog 3 i.args .normal) [] (w.forCall tape i)) :=
  ChangeSpec.witness_shaped (enc := enc) (C := Tryz.checked) (os := os) (X := fun w _ => laidMetH Tryz.prog Rows.fnReadWrongRow.laid w) false (World.laidAll Tryz.prog os Rows.fnWriteRow.laid) #[zeroShp, .int .i64 0] 16 (World.laidAll_os _ _ _)
      (shapedW os _) (by kernel_rfl) (by kernel_rfl) (by kernel_rfl)
      (by rw [MakeChecks.laidMetH_plain _ _ _ (by kernel_rfl)]; exact metW os _)
theorem readWrong_lifted (os : Os) (started : os.Started) (H : Type) (enc : TypeId × Value → H) (F : Stop.Interp) :
    ReturnsInHanded {} Tryz.checked os 3 .any ((OpenSpec.ofChange Rows.fnReadWrongSpec).preRow enc Tryz.prog Tryz.f3 Rows.fnReadWrongRow.domain false Rows.fnReadWrongRow.laid) (((OpenSpec.ofChange Rows.fnReadWrongSpec).at F).post enc Tryz.prog Tryz.f3 false true false false) := by
  refine returnsInHanded_of_row (C := Tryz.checked) (s := OpenSpec.ofChange Rows.fnReadWrongSpec) ownZ started (by kernel_rfl) Tryz.func3 (witness_readWrong os enc) ?_
  intro W base args ds gs before hval0 hW _ _ hsz hL _ _
  have hval : ∀ (j : Nat) t v, Tryz.f3.params[j]? = some t → args[j]? = some v → Value.okWide Tryz.prog W .any base t v := hval0
  have hW' := hW
  have hblk := fun x (hx : x ∈ before) => hW'.lt x hx
  obtain ⟨p, q, hA0, hV0, hpq, _, _⟩ := hW
  have hA : DataW.TrodAll enc Tryz.prog W 0 (fun _ => true) true Tryz.f3.params.toList args.toList ds p := hA0
  have hV : DataW.TrodVars enc Tryz.prog W (fun _ => true) ["loop.example/pub-g01503/pub/orbwkt.ErrUnsupportedGeometry", "loop.example/pub-g01503/pub/orbwkt.ErrNotWKT", "loop.example/pub-g01503/spec.words"] gs q := hV0
  rw [Tryz.params3] at hA hval
  clear hA0 hval0
  obtain ⟨v0, v1, d0, d1, p0, p1, rfl, rfl, rfl, h0, h1⟩ := trodAll_two hA
  obtain ⟨g1, g2, g3, rfl⟩ := vars3 hV
  obtain ⟨dd, s, ha⟩ := arg_of (hval 0 25 v0 rfl rfl) h0 (fun b hb => by
    have h1 : (DataW.weightsEach Tryz.prog (Tryz.f3.params.toList ++ (OpenSpec.ofChange Rows.fnReadWrongSpec).bare.plain.varTypes Tryz.prog) ([d0, d1] ++ [g1, g2, g3])).all (· ≤ reachBytes) = true := hsz
    rw [Tryz.params3] at h1
    have h2 := List.all_eq_true.1 h1 b (by
      show b ∈ DataW.weightsEach Tryz.prog (25 :: _) (d0 :: _)
      unfold DataW.weightsEach
      exact List.mem_append_left _ hb)
    simpa using h2)
  have hlt : ∀ x ∈ p0, x.block < W.heap.size := fun x hx => by
    have := hblk x (by rw [hpq]; simp [hx])
    simpa using this
  obtain ⟨x1, rfl, rfl, rfl, wx1⟩ := open_int Tryz.underlying3 (hval 1 3 v1 rfl rfl) h1
  have hL' : laidMet Tryz.prog Rows.fnWriteRow.laid W := by
    have h1 : laidMetH Tryz.prog Rows.fnWriteRow.laid W := hL
    rwa [MakeChecks.laidMetH_plain _ _ _ (by kernel_rfl)] at h1
  obtain ⟨G, hG, hE⟩ := env_of hL'
  refine (fnReadWrong_calls G hG dd v0 s x1 W hE ha).mono ?_
  rintro e W' ⟨rfl, hb⟩
  have hb' : Below W.heap.size W W' := hb
  exact ⟨_, rfl, _, _, _, [], _, q, hW', trodAll_mk1 (shut_bool Tryz.underlying4 _), trodAll_mk2 (Below.trod laidOutZ (by kernel_rfl) (of_decide_eq_true (by kernel_rfl)) h0 hb' hlt) (shut_int Tryz.underlying3 wx1), hb'.trodVars laidOutZ (by kernel_rfl) hV, hb'.frame _, fun h => by cases h⟩
end Go.Proofs.YtghajgdiaopioaaGreatDoor
