/- The row of FnWrite, lifted: there is an input that fits, and from every one the law returns true. -/
import Derived.OpenVars
import Derived.Lay
import Derived.Deep.DeepHandedRow
import Derived.Deep.DeepWitnessRowRef
import Derived.MakeChecks
import Derived.Test.YtghajgdiaopioaaGreatDoorW46
import Derived.Test.YtghajgdiaopioaaGreatDoorW47
set_option linter.unusedVariables false
set_option linter.unusedSimpArgs false

namespace Go.Proofs.YtghajgdiaopioaaGreatDoor
open Go.ChangeShapes Go.WideShapes Go.ChangeAt Go.RowKit
set_option maxRecDepth 100000

theorem ownZ : ownKnob Tryz.prog.godebug = none := by kernel_rfl
theorem laidOutZ : laidOutB Tryz.prog = true := by kernel_rfl
def zeroShp : Value := .agg #[.int .i64 0, .slice none 0 0, .slice none 0 0]
theorem shapedW (os : Os) (args : Array Value) : ((World.laidAll Tryz.prog os Rows.fnWriteRow.laid).forCall (fun _ _ => 0) ⟨#[], args, []⟩).Shaped Tryz.prog := World.shaped_of_ZipB (by kernel_rfl) (by kernel_rfl)
theorem metW (os : Os) (args : Array Value) : laidMet Tryz.prog Rows.fnWriteRow.laid ((World.laidAll Tryz.prog os Rows.fnWriteRow.laid).forCall (fun _ _ => 0) ⟨#[], args, []⟩).memory := laidMet_laidAll _ (by kernel_rfl) (by kernel_rfl)
end Go.Proofs.YtghajgdiaopioaaGreatDoor

/- The row of FnWrite: from every input that fits the law returns true. -/
namespace Go.Proofs.YtghajgdiaopioaaGreatDoor
open Go.ChangeShapes Go.WideShapes Go.ChangeAt Go.RowKit
set_option maxRecDepth 100000

/-- A list of three. -/
theorem vars3 {H : Type} {enc : TypeId × Value → H} {P : Program} {w : World} {spare : Nat → Bool} {a b c : String} {gs : List (DataW H)} {q : List MemPlace} (h : DataW.TrodVars enc P w spare [a, b, c] gs q) : ∃ x y z, gs = [x, y, z] := by
  match gs, h with
  | [], h => exact h.elim
  | [_], h => obtain ⟨_, _, _, _, _, _, _, _, _, _, h, _⟩ := h; exact h.elim
  | [_, _], h => obtain ⟨_, _, _, _, _, _, _, _, _, _, h, _⟩ := h; obtain ⟨_, _, _, _, _, _, _, _, _, _, h, _⟩ := h; exact h.elim
  | [x, y, z], _ => exact ⟨x, y, z, rfl⟩
  | _ :: _ :: _ :: _ :: _, h =>
    obtain ⟨_, _, _, _, _, _, _, _, _, _, h, _⟩ := h; obtain ⟨_, _, _, _, _, _, _, _, _, _, h, _⟩ := h; obtain ⟨_, _, _, _, _, _, _, _, _, _, h, _⟩ := h; exact h.elim

theorem witness_write (os : Os) {H : Type} (enc : TypeId × Value → H) : ∃ (w : World) (tape : Tape) (i : Input), w.os = os ∧ (w.forCall tape i).Shaped Tryz.checked.prog ∧ i.vars = [] ∧ Input.okWide Tryz.checked.prog (w.forCall tape i) .any w.heap.size 4 i ∧
      (OpenSpec.ofChange Rows.fnWriteSpec).preRow enc Tryz.checked.prog Tryz.f4 Rows.fnWriteRow.domain false Rows.fnWriteRow.laid (w.forCall tape i).memory i.args ∧ ({} : Assume).holds Tryz.checked.prog (lone (Frame.enter Tryz.checked.prog 4 i.args .normal) [] (w.forCall tape i)) :=
  ChangeSpec.witness_shaped (enc := enc) (C := Tryz.checked) (os := os) (X := fun w _ => laidMetH Tryz.prog Rows.fnWriteRow.laid w) false (World.laidAll Tryz.prog os Rows.fnWriteRow.laid) #[zeroShp] 16 (World.laidAll_os _ _ _)
      (shapedW os _) (by kernel_rfl) (by kernel_rfl) (by kernel_rfl)
      (by rw [MakeChecks.laidMetH_plain _ _ _ (by kernel_rfl)]; exact metW os _)
theorem write_lifted (os : Os) (started : os.Started) (H : Type) (enc : TypeId × Value → H) (F : Stop.Interp) :
    ReturnsInHanded {} Tryz.checked os 4 .any ((OpenSpec.ofChange Rows.fnWriteSpec).preRow enc Tryz.prog Tryz.f4 Rows.fnWriteRow.domain false Rows.fnWriteRow.laid) (((OpenSpec.ofChange Rows.fnWriteSpec).at F).post enc Tryz.prog Tryz.f4 false true false false) := by
  refine returnsInHanded_of_row (C := Tryz.checked) (s := OpenSpec.ofChange Rows.fnWriteSpec) ownZ started (by kernel_rfl) Tryz.func4 (witness_write os enc) ?_
  intro W base args ds gs before hval0 hW _ _ hsz hL _ _
  have hval : ∀ (j : Nat) t v, Tryz.f4.params[j]? = some t → args[j]? = some v → Value.okWide Tryz.prog W .any base t v := hval0
  have hW' := hW
  have hblk := fun x (hx : x ∈ before) => hW'.lt x hx
  obtain ⟨p, q, hA0, hV0, hpq, _, _⟩ := hW
  have hA : DataW.TrodAll enc Tryz.prog W 0 (fun _ => true) true Tryz.f4.params.toList args.toList ds p := hA0
  have hV : DataW.TrodVars enc Tryz.prog W (fun _ => true) ["loop.example/pub-g01503/pub/orbwkt.ErrUnsupportedGeometry", "loop.example/pub-g01503/pub/orbwkt.ErrNotWKT", "loop.example/pub-g01503/spec.words"] gs q := hV0
  rw [Tryz.params4] at hA hval
  obtain ⟨v0, d0, rfl, rfl, h0⟩ := trodAll_one hA
  obtain ⟨g1, g2, g3, rfl⟩ := vars3 hV
  obtain ⟨dd, s, ha⟩ := arg_of (hval 0 25 v0 rfl rfl) h0 (fun b hb => by
    have h1 : (DataW.weightsEach Tryz.prog (Tryz.f4.params.toList ++ (OpenSpec.ofChange Rows.fnWriteSpec).bare.plain.varTypes Tryz.prog) ([d0] ++ [g1, g2, g3])).all (· ≤ reachBytes) = true := hsz
    rw [Tryz.params4] at h1
    have h2 := List.all_eq_true.1 h1 b (by
      show b ∈ DataW.weightsEach Tryz.prog (25 :: _) (d0 :: _)
      unfold DataW.weightsEach
      exact List.mem_append_left _ hb)
    simpa using h2)
  have hL' : laidMet Tryz.prog Rows.fnWriteRow.laid W := by
    have h1 : laidMetH Tryz.prog Rows.fnWriteRow.laid W := hL
    rwa [MakeChecks.laidMetH_plain _ _ _ (by kernel_rfl)] at h1
  obtain ⟨G, hG, hE⟩ := env_of hL'
  refine (fnWrite_calls G hG dd v0 s W hE ha).mono ?_
  rintro e W' ⟨rfl, hb⟩
  have hb' : Below W.heap.size W W' := hb
  have e1 : (((OpenSpec.ofChange Rows.fnWriteSpec).at F).fn H ([d0] ++ [g1, g2, g3])) = { results := [.lit (.bool true)], args := [d0], vars := [g1, g2, g3] } := rfl
  refine ⟨_, rfl, _, _, _, [], p, q, hW', ?_, ?_, ?_, hb'.frame _, fun h => by cases h⟩
  · rw [e1]; exact trodAll_mk1 (shut_bool Tryz.underlying4 _)
  · rw [e1]; exact trodAll_mk1 (Below.trod laidOutZ (by kernel_rfl) (of_decide_eq_true (by kernel_rfl)) h0 hb' (fun x hx => by simpa using hblk x (by rw [hpq]; exact List.mem_append_left _ hx)))
  · rw [e1]; exact hb'.trodVars laidOutZ (by kernel_rfl) hV
end Go.Proofs.YtghajgdiaopioaaGreatDoor

/- Walks: FnRead (7). -/
namespace Go.Proofs.YtghajgdiaopioaaGreatDoor
open Go.RowKit
attribute [local go_sem] run_store_float run_store_iface run_store_nilIface

set_option maxRecDepth 10000 in
set_option maxHeartbeats 4000000 in
theorem fnRead_calls (G : Errs) (hG : HasAll G) (dd : Nat) (v : Value) (s : Shp) (w : World) (hE : Env G w) (h : Arg dd w v s) : Calls Tryz.prog 7 #[v] w fun e w' => e = .returned (.bool true) ∧ Bel w w' := by
  have HZ := Lib.hid (fun wx (hb : Bel w wx) => zz1_calls dd v s wx (ShpAt.bel hb _ _ _ h.at'))
  have HWH := Lib.hid (fun wx (hb : Bel w wx) => h.whole wx hb)
  have HFU := Lib.hid (fun wx (hb : Bel w wx) (hi : isShp s = true) => h.isFull wx hb hi)
  have HWR := Lib.hid (fun wx (hb : Bel w wx) => writes_calls G hG wx (hE.bel hb))
  have HGO := Lib.hid (fun (hi : isShp s = true) (hf : (emptyS 4 s || fullS 4 s) = true) (ha : AllS IsWh 4 s) => good_of s hi h.len hf ha)
  have HR := Lib.hid (fun g (hg : Good g) (e : s = toShp 4 g) wx (hb : Bel w wx) => (by rw [e]; exact good_read hG false (sp := []) (.inl rfl) g hg wx (hE.bel hb) : Calls Tryz.prog 15 #[.string (ofL (geoT false [] ntW 4 g))] wx fun e w' => (∃ v, e = .returned (.tuple #[v, .bool true]) ∧ ShpAt 6 w' v s) ∧ Bel wx w'))
  have HS := Lib.hid (fun (u : Value) wx (hl : LenS 4 s) (hp : (ptsOf 4 s).length ≤ 1000000) (hb : Bel w wx) (hu : ShpAt 6 wx u s) => same_calls 4 6 dd u v s wx hl hp hu (ShpAt.bel hb _ _ _ h.at'))
  have HT := Lib.hid (fun g (hg : Good g) (e : s = toShp 4 g) (hl : LenS 4 s) wx (hb : Bel w wx) => good_text hG false (sp := []) (.inl rfl) g hg (by rw [← e]; exact hl) dd v wx (hE.bel hb) (by rw [← e]; exact ShpAt.bel hb _ _ _ h.at'))
  obtain ⟨k, ao, n, c, bo, m, c', rfl⟩ : ∃ k ao n c bo m c', v = .agg #[.int .i64 k, .slice ao n c, .slice bo m c'] := by
    obtain ⟨d', k, ls, ps, L, P, _, _, rfl, hL, hP⟩ := shpAt_slices h.at'
    obtain ⟨ao, cap, rfl⟩ := hL.slice
    obtain ⟨bo, cap2, rfl⟩ := partsAt_slice hP
    exact ⟨k, ao, _, cap, bo, _, cap2, rfl⟩
  clear h hE
  go_enter Tryz.func7, Tryz.ntmps7
  go_wp2_with fail
  have hbx := box3_new w k ao n c bo m c'
  have hb0 : Bel w (w.alloc (.cells #[.int .i64 k, .slice ao n c, .slice bo m c'] 25)) := Bel.al _ _
  generalize w.alloc (.cells #[.int .i64 k, .slice ao n c, .slice bo m c'] 25) = w1 at *
  refine (HZ.out w1 hb0).mono ?_
  rintro e w2 ⟨⟨b, rfl⟩, hb2⟩
  have HB2 := Lib.hid (hb0.tr hb2)
  have HX2 := Lib.hid (hbx.bel hb2)
  clear hb0 hb2 hbx
  cases b with
  | false =>
    go_wp2
    go_ret
    exact ⟨rfl, HB2.out⟩
  | true =>
    obtain ⟨c0, c1, c2⟩ := HX2.out
    go_wp2_with fail
    clear c0 c1 c2
    refine (HWH.out w2 HB2.out).mono ?_
    rintro e w3 ⟨b, rfl, hb3, hq⟩
    have HB3 := Lib.hid (HB2.out.tr hb3)
    have HX3 := Lib.hid (HX2.out.bel hb3)
    have HQ := Lib.hid hq
    clear hb3 hq
    cases b with
    | false =>
      go_wp2_with fail
      refine (HWR.out w3 HB3.out).mono ?_
      rintro e w4 ⟨rfl, hb4⟩
      have HB4 := Lib.hid (HB3.out.tr hb4)
      clear hb4
      go_wp2
      go_ret
      exact ⟨rfl, HB4.out⟩
    | true =>
      obtain ⟨hi, ha⟩ := HQ.out rfl
      have HI := Lib.hid hi
      have HA := Lib.hid ha
      clear hi ha
      obtain ⟨c0, c1, c2⟩ := HX3.out
      go_wp2_with fail
      clear c0 c1 c2
      refine (HFU.out w3 HB3.out HI.out).mono ?_
      rintro e w4 ⟨rfl, hb4⟩
      have HB4 := Lib.hid (HB3.out.tr hb4)
      have HX4 := Lib.hid (HX3.out.bel hb4)
      clear hb4
      cases hf : (emptyS 4 s || fullS 4 s) with
      | false =>
        clear hf
        go_wp2_with fail
        refine (HWR.out w4 HB4.out).mono ?_
        rintro e w5 ⟨rfl, hb5⟩
        have HB5 := Lib.hid (HB4.out.tr hb5)
        clear hb5
        go_wp2
        go_ret
        exact ⟨rfl, HB5.out⟩
      | true =>
        obtain ⟨hl, hp, g, hs, hg, _, _⟩ := HGO.out HI.out hf HA.out
        have HR2 := Lib.hid (fun wx hb => HR.out g hg hs wx hb)
        have HT2 := Lib.hid (fun wx hb => HT.out g hg hs hl wx hb)
        have HS2 := Lib.hid (fun u wx hb hu => HS.out u wx hl hp hb hu)
        generalize ofL (geoT false [] ntW 4 g) = t at *
        clear hf hl hp hs hg
        obtain ⟨c0, c1, c2⟩ := HX4.out
        have hsty : styV false [] = .agg #[.bool false, .string ⟨#[]⟩] := rfl
        rw [hsty] at HT2
        clear hsty HT HR HS HGO HWH HFU HZ
        go_wp2_with fail
        clear c0 c1 c2
        refine (HT2.out w4 HB4.out).mono ?_
        rintro e w5 ⟨rfl, hb5⟩
        have HB5 := Lib.hid (HB4.out.tr hb5)
        have HX5 := Lib.hid (HX4.out.bel hb5)
        clear hb5 HX4
        go_wp2_with fail
        refine (HR2.out w5 HB5.out).mono ?_
        rintro e w6 ⟨⟨u, rfl, hu⟩, hb6⟩
        obtain ⟨k2, a2, n2, d2, a3, n3, d3, rfl⟩ : ∃ k a n c a' n' c', u = .agg #[.int .i64 k, .slice a n c, .slice a' n' c'] := by
          obtain ⟨d', k, ls, ps, L, P, _, _, rfl, hL, hP⟩ := shpAt_slices hu
          obtain ⟨ao, cap, rfl⟩ := hL.slice
          obtain ⟨bo, cap2, rfl⟩ := partsAt_slice hP
          exact ⟨k, ao, _, cap, bo, _, cap2, rfl⟩
        have HU := Lib.hid hu
        have HB6 := Lib.hid (HB5.out.tr hb6)
        have HX6 := Lib.hid (HX5.out.bel hb6)
        clear hb6 hu HX5
        go_wp2_with fail
        have HX7 := Lib.hid (HX6.out.bel (Bel.al w6 (.cells #[.int .i64 k2, .slice a2 n2 d2, .slice a3 n3 d3] 25)))
        have HU7 := Lib.hid (ShpAt.bel (Bel.al w6 (.cells #[.int .i64 k2, .slice a2 n2 d2, .slice a3 n3 d3] 25)) _ _ _ HU.out)
        have HY7 := Lib.hid (box3_new w6 k2 a2 n2 d2 a3 n3 d3)
        have HB7 := Lib.hid (HB6.out.tr (Bel.al w6 (.cells #[.int .i64 k2, .slice a2 n2 d2, .slice a3 n3 d3] 25)))
        generalize w6.alloc (.cells #[.int .i64 k2, .slice a2 n2 d2, .slice a3 n3 d3] 25) = w7 at *
        clear HX6 HU
        refine (HWR.out w7 HB7.out).mono ?_
        rintro e w8 ⟨rfl, hb8⟩
        have HB8 := Lib.hid (HB7.out.tr hb8)
        have HX8 := Lib.hid (HX7.out.bel hb8)
        have HY8 := Lib.hid (HY7.out.bel hb8)
        have HU8 := Lib.hid (ShpAt.bel hb8 _ _ _ HU7.out)
        clear hb8 HX7 HY7 HU7
        obtain ⟨c0, c1, c2⟩ := HX8.out
        obtain ⟨y0, y1, y2⟩ := HY8.out
        go_wp2_with fail
        clear c0 c1 c2 y0 y1 y2
        refine (HS2.out _ w8 HB8.out HU8.out).mono ?_
        rintro e w9 ⟨rfl, hb9⟩
        have HB9 := Lib.hid (HB8.out.tr hb9)
        clear hb9
        go_wp2
        go_ret
        exact ⟨rfl, HB9.out⟩
end Go.Proofs.YtghajgdiaopioaaGreatDoor

/- Walks: FnReadStyle (8). -/
namespace Go.Proofs.YtghajgdiaopioaaGreatDoor
open Go.RowKit
attribute [local go_sem] run_store_float run_store_iface run_store_nilIface

set_option maxRecDepth 10000 in
set_option maxHeartbeats 4000000 in
theorem fnReadStyle_calls (G : Errs) (hG : HasAll G) (dd : Nat) (v : Value) (s : Shp) (small blank : Bool) (w : World) (hE : Env G w) (h : Arg dd w v s) : Calls Tryz.prog 8 #[v, .bool small, .bool blank] w fun e w' => e = .returned (.bool true) ∧ Bel w w' := by
  have HZ := Lib.hid (fun wx (hb : Bel w wx) => zz1_calls dd v s wx (ShpAt.bel hb _ _ _ h.at'))
  have HWH := Lib.hid (fun wx (hb : Bel w wx) => h.whole wx hb)
  have HFU := Lib.hid (fun wx (hb : Bel w wx) (hi : isShp s = true) => h.isFull wx hb hi)
  have HWR := Lib.hid (fun wx (hb : Bel w wx) => writes_calls G hG wx (hE.bel hb))
  have HGO := Lib.hid (fun (hi : isShp s = true) (hf : (emptyS 4 s || fullS 4 s) = true) (ha : AllS IsWh 4 s) => good_of s hi h.len hf ha)
  have HR := Lib.hid (fun (sp : List UInt8) (hsp : Spc sp) g (hg : Good g) (e : s = toShp 4 g) wx (hb : Bel w wx) => (by rw [e]; exact good_read hG small hsp g hg wx (hE.bel hb) : Calls Tryz.prog 15 #[.string (ofL (geoT small sp ntW 4 g))] wx fun e w' => (∃ v, e = .returned (.tuple #[v, .bool true]) ∧ ShpAt 6 w' v s) ∧ Bel wx w'))
  have HPO := Lib.hid (fun wx (hl : LenS 4 s) (hp : (ptsOf 4 s).length ≤ 1000000) (hb : Bel w wx) => pointsOf_len 4 dd v s wx hl hp (ShpAt.bel hb _ _ _ h.at'))
  have HS := Lib.hid (fun (u : Value) wx (hl : LenS 4 s) (hp : (ptsOf 4 s).length ≤ 1000000) (hb : Bel w wx) (hu : ShpAt 6 wx u s) => same_calls 4 6 dd u v s wx hl hp hu (ShpAt.bel hb _ _ _ h.at'))
  have HT := Lib.hid (fun (sp : List UInt8) (hsp : Spc sp) g (hg : Good g) (e : s = toShp 4 g) (hl : LenS 4 s) wx (hb : Bel w wx) => good_text hG small hsp g hg (by rw [← e]; exact hl) dd v wx (hE.bel hb) (by rw [← e]; exact ShpAt.bel hb _ _ _ h.at'))
  obtain ⟨k, ao, n, c, bo, m, c', rfl⟩ : ∃ k ao n c bo m c', v = .agg #[.int .i64 k, .slice ao n c, .slice bo m c'] := by
    obtain ⟨d', k, ls, ps, L, P, _, _, rfl, hL, hP⟩ := shpAt_slices h.at'
    obtain ⟨ao, cap, rfl⟩ := hL.slice
    obtain ⟨bo, cap2, rfl⟩ := partsAt_slice hP
    exact ⟨k, ao, _, cap, bo, _, cap2, rfl⟩
  clear h hE
  go_enter Tryz.func8, Tryz.ntmps8
  go_wp2_with fail
  have hbx := box3_new w k ao n c bo m c'
  have hb0 : Bel w (w.alloc (.cells #[.int .i64 k, .slice ao n c, .slice bo m c'] 25)) := Bel.al _ _
  generalize w.alloc (.cells #[.int .i64 k, .slice ao n c, .slice bo m c'] 25) = w1 at *
  refine (HZ.out w1 hb0).mono ?_
  rintro e w2 ⟨⟨b, rfl⟩, hb2⟩
  have HB2 := Lib.hid (hb0.tr hb2)
  have HX2 := Lib.hid (hbx.bel hb2)
  clear hb0 hb2 hbx
  cases b with
  | false =>
    go_wp2
    go_ret
    exact ⟨rfl, HB2.out⟩
  | true =>
    obtain ⟨c0, c1, c2⟩ := HX2.out
    go_wp2_with fail
    clear c0 c1 c2
    refine (HWH.out w2 HB2.out).mono ?_
    rintro e w3 ⟨b, rfl, hb3, hq⟩
    have HB3 := Lib.hid (HB2.out.tr hb3)
    have HX3 := Lib.hid (HX2.out.bel hb3)
    have HQ := Lib.hid hq
    clear hb3 hq
    cases b with
    | false =>
      go_wp2_with fail
      refine (HWR.out w3 HB3.out).mono ?_
      rintro e w4 ⟨rfl, hb4⟩
      have HB4 := Lib.hid (HB3.out.tr hb4)
      clear hb4
      go_wp2
      go_ret
      exact ⟨rfl, HB4.out⟩
    | true =>
      obtain ⟨hi, ha⟩ := HQ.out rfl
      have HI := Lib.hid hi
      have HA := Lib.hid ha
      clear hi ha
      obtain ⟨c0, c1, c2⟩ := HX3.out
      go_wp2_with fail
      clear c0 c1 c2
      refine (HFU.out w3 HB3.out HI.out).mono ?_
      rintro e w4 ⟨rfl, hb4⟩
      have HB4 := Lib.hid (HB3.out.tr hb4)
      have HX4 := Lib.hid (HX3.out.bel hb4)
      clear hb4
      cases hf : (emptyS 4 s || fullS 4 s) with
      | false =>
        clear hf
        go_wp2_with fail
        refine (HWR.out w4 HB4.out).mono ?_
        rintro e w5 ⟨rfl, hb5⟩
        have HB5 := Lib.hid (HB4.out.tr hb5)
        clear hb5
        go_wp2
        go_ret
        exact ⟨rfl, HB5.out⟩
      | true =>
        obtain ⟨hl, hp, g, hs, hg, _, _⟩ := HGO.out HI.out hf HA.out
        have HR2 := Lib.hid (fun sp hsp wx hb => HR.out sp hsp g hg hs wx hb)
        have HT2 := Lib.hid (fun sp hsp wx hb => HT.out sp hsp g hg hs hl wx hb)
        have HS2 := Lib.hid (fun u wx hb hu => HS.out u wx hl hp hb hu)
        have HPO2 := Lib.hid (fun wx hb => HPO.out wx hl hp hb)
        clear HR HT HS HPO hf hl hp hs hg HGO HWH HFU HZ
        obtain ⟨c0, c1, c2⟩ := HX4.out
        go_wp2_with fail
        clear c0 c1 c2
        refine (HPO2.out w4 HB4.out).mono ?_
        rintro e w5 ⟨⟨po, pc, rfl⟩, hb5⟩
        have HB5 := Lib.hid (HB4.out.tr hb5)
        have HX5 := Lib.hid (HX4.out.bel hb5)
        clear hb5 HX4 HB4 HPO2
        generalize (ptsOf 4 s).length = n5 at *
        cases hz : ((n5 : Int) == 0) with
        | true =>
          have hz2 : decide ((n5 : Int) = 0) = true := hz
          go_wp2_with fail
          refine (HWR.out w5 HB5.out).mono ?_
          rintro e w6 ⟨rfl, hb6⟩
          have HB6 := Lib.hid (HB5.out.tr hb6)
          clear hb6
          go_wp2
          go_ret
          exact ⟨rfl, HB6.out⟩
        | false =>
          have hz2 : decide ((n5 : Int) = 0) = false := hz
          cases blank with
          | false =>
            have HR3 := Lib.hid (fun wx hb => HR2.out [] (.inl rfl) wx hb)
            have HT3 := Lib.hid (fun wx hb => HT2.out [] (.inl rfl) wx hb)
            generalize ofL (geoT small [] ntW 4 g) = t at *
            have hsty : styV small [] = .agg #[.bool small, .string ⟨#[]⟩] := rfl
            rw [hsty] at HT3
            clear hsty HT2 HR2
            have HT2 := HT3
            have HR2 := HR3
            clear HT3 HR3
            have HX4' := Lib.hid (HX5.out.bel (Bel.al w5 (.cells #[.bool small, .string ⟨#[]⟩] 31)))
            have HB4' := Lib.hid (HB5.out.tr (Bel.al w5 (.cells #[.bool small, .string ⟨#[]⟩] 31)))
            obtain ⟨c0, c1, c2⟩ := HX4'.out
            go_wp2_with fail
            clear c0 c1 c2
            generalize w5.alloc (.cells #[.bool small, .string ⟨#[]⟩] 31) = w4' at *
            clear hz hz2 HX5 HB5
            refine (HT2.out w4' HB4'.out).mono ?_
            rintro e v5 ⟨rfl, hb5⟩
            have HB5 := Lib.hid (HB4'.out.tr hb5)
            have HX5 := Lib.hid (HX4'.out.bel hb5)
            clear hb5 HX4'
            go_wp2_with fail
            refine (HR2.out v5 HB5.out).mono ?_
            rintro e w6 ⟨⟨u, rfl, hu⟩, hb6⟩
            obtain ⟨k2, a2, n2, d2, a3, n3, d3, rfl⟩ : ∃ k a n c a' n' c', u = .agg #[.int .i64 k, .slice a n c, .slice a' n' c'] := by
              obtain ⟨d', k, ls, ps, L, P, _, _, rfl, hL, hP⟩ := shpAt_slices hu
              obtain ⟨ao, cap, rfl⟩ := hL.slice
              obtain ⟨bo, cap2, rfl⟩ := partsAt_slice hP
              exact ⟨k, ao, _, cap, bo, _, cap2, rfl⟩
            have HU := Lib.hid hu
            have HB6 := Lib.hid (HB5.out.tr hb6)
            have HX6 := Lib.hid (HX5.out.bel hb6)
            clear hb6 hu HX5
            go_wp2_with fail
            have HX7 := Lib.hid (HX6.out.bel (Bel.al w6 (.cells #[.int .i64 k2, .slice a2 n2 d2, .slice a3 n3 d3] 25)))
            have HU7 := Lib.hid (ShpAt.bel (Bel.al w6 (.cells #[.int .i64 k2, .slice a2 n2 d2, .slice a3 n3 d3] 25)) _ _ _ HU.out)
            have HY7 := Lib.hid (box3_new w6 k2 a2 n2 d2 a3 n3 d3)
            have HB7 := Lib.hid (HB6.out.tr (Bel.al w6 (.cells #[.int .i64 k2, .slice a2 n2 d2, .slice a3 n3 d3] 25)))
            generalize w6.alloc (.cells #[.int .i64 k2, .slice a2 n2 d2, .slice a3 n3 d3] 25) = w7 at *
            clear HX6 HU
            refine (HWR.out w7 HB7.out).mono ?_
            rintro e w8 ⟨rfl, hb8⟩
            have HB8 := Lib.hid (HB7.out.tr hb8)
            have HX8 := Lib.hid (HX7.out.bel hb8)
            have HY8 := Lib.hid (HY7.out.bel hb8)
            have HU8 := Lib.hid (ShpAt.bel hb8 _ _ _ HU7.out)
            clear hb8 HX7 HY7 HU7
            obtain ⟨c0, c1, c2⟩ := HX8.out
            obtain ⟨y0, y1, y2⟩ := HY8.out
            go_wp2_with fail
            clear c0 c1 c2 y0 y1 y2
            refine (HS2.out _ w8 HB8.out HU8.out).mono ?_
            rintro e w9 ⟨rfl, hb9⟩
            have HB9 := Lib.hid (HB8.out.tr hb9)
            clear hb9
            go_wp2
            go_ret
            exact ⟨rfl, HB9.out⟩
          | true =>
            have HR3 := Lib.hid (fun wx hb => HR2.out [32] (.inr rfl) wx hb)
            have HT3 := Lib.hid (fun wx hb => HT2.out [32] (.inr rfl) wx hb)
            generalize ofL (geoT small [32] ntW 4 g) = t at *
            have hsty : styV small [32] = .agg #[.bool small, .string ⟨#[32]⟩] := rfl
            rw [hsty] at HT3
            clear hsty HT2 HR2
            have HT2 := HT3
            have HR2 := HR3
            clear HT3 HR3
            have HX4' := Lib.hid (HX5.out.bel (Bel.al w5 (.cells #[.bool small, .string ⟨#[32]⟩] 31)))
            have HB4' := Lib.hid (HB5.out.tr (Bel.al w5 (.cells #[.bool small, .string ⟨#[32]⟩] 31)))
            obtain ⟨c0, c1, c2⟩ := HX4'.out
            go_wp2_with fail
            clear c0 c1 c2
            generalize w5.alloc (.cells #[.bool small, .string ⟨#[32]⟩] 31) = w4' at *
            clear hz hz2 HX5 HB5
            refine (HT2.out w4' HB4'.out).mono ?_
            rintro e v5 ⟨rfl, hb5⟩
            have HB5 := Lib.hid (HB4'.out.tr hb5)
            have HX5 := Lib.hid (HX4'.out.bel hb5)
            clear hb5 HX4'
            go_wp2_with fail
            refine (HR2.out v5 HB5.out).mono ?_
            rintro e w6 ⟨⟨u, rfl, hu⟩, hb6⟩
            obtain ⟨k2, a2, n2, d2, a3, n3, d3, rfl⟩ : ∃ k a n c a' n' c', u = .agg #[.int .i64 k, .slice a n c, .slice a' n' c'] := by
              obtain ⟨d', k, ls, ps, L, P, _, _, rfl, hL, hP⟩ := shpAt_slices hu
              obtain ⟨ao, cap, rfl⟩ := hL.slice
              obtain ⟨bo, cap2, rfl⟩ := partsAt_slice hP
              exact ⟨k, ao, _, cap, bo, _, cap2, rfl⟩
            have HU := Lib.hid hu
            have HB6 := Lib.hid (HB5.out.tr hb6)
            have HX6 := Lib.hid (HX5.out.bel hb6)
            clear hb6 hu HX5
            go_wp2_with fail
            have HX7 := Lib.hid (HX6.out.bel (Bel.al w6 (.cells #[.int .i64 k2, .slice a2 n2 d2, .slice a3 n3 d3] 25)))
            have HU7 := Lib.hid (ShpAt.bel (Bel.al w6 (.cells #[.int .i64 k2, .slice a2 n2 d2, .slice a3 n3 d3] 25)) _ _ _ HU.out)
            have HY7 := Lib.hid (box3_new w6 k2 a2 n2 d2 a3 n3 d3)
            have HB7 := Lib.hid (HB6.out.tr (Bel.al w6 (.cells #[.int .i64 k2, .slice a2 n2 d2, .slice a3 n3 d3] 25)))
            generalize w6.alloc (.cells #[.int .i64 k2, .slice a2 n2 d2, .slice a3 n3 d3] 25) = w7 at *
            clear HX6 HU
            refine (HWR.out w7 HB7.out).mono ?_
            rintro e w8 ⟨rfl, hb8⟩
            have HB8 := Lib.hid (HB7.out.tr hb8)
            have HX8 := Lib.hid (HX7.out.bel hb8)
            have HY8 := Lib.hid (HY7.out.bel hb8)
            have HU8 := Lib.hid (ShpAt.bel hb8 _ _ _ HU7.out)
            clear hb8 HX7 HY7 HU7
            obtain ⟨c0, c1, c2⟩ := HX8.out
            obtain ⟨y0, y1, y2⟩ := HY8.out
            go_wp2_with fail
            clear c0 c1 c2 y0 y1 y2
            refine (HS2.out _ w8 HB8.out HU8.out).mono ?_
            rintro e w9 ⟨rfl, hb9⟩
            have HB9 := Lib.hid (HB8.out.tr hb9)
            clear hb9
            go_wp2
            go_ret
            exact ⟨rfl, HB9.out⟩
end Go.Proofs.YtghajgdiaopioaaGreatDoor

/- The row of FnReadStyle: from every input that fits the law returns true. -/
namespace Go.Proofs.YtghajgdiaopioaaGreatDoor
open Go.ChangeShapes Go.WideShapes Go.ChangeAt Go.RowKit
set_option maxRecDepth 100000

theorem witness_readStyle (os : Os) {H : Type} (enc : TypeId × Value → H) : ∃ (w : World) (tape : Tape) (i : Input), w.os = os ∧ (w.forCall tape i).Shaped Tryz.checked.prog ∧ i.vars = [] ∧ Input.okWide Tryz.checked.prog (w.forCall tape i) .any w.heap.size 8 i ∧
      (OpenSpec.ofChange Rows.fnReadStyleSpec).preRow enc Tryz.checked.prog Tryz.f8 Rows.fnReadStyleRow.domain false Rows.fnReadStyleRow.laid (w.forCall tape i).memory i.args ∧ ({} : Assume).holds Tryz.checked.prog (lone (Frame.enter Tryz.checked.prog 8 i.args .normal) [] (w.forCall tape i)) :=
  ChangeSpec.witness_shaped (enc := enc) (C := Tryz.checked) (os := os) (X := fun w _ => laidMetH Tryz.prog Rows.fnReadStyleRow.laid w) false (World.laidAll Tryz.prog os Rows.fnWriteRow.laid) #[zeroShp, .bool false, .bool false] 16 (World.laidAll_os _ _ _)
      (shapedW os _) (by kernel_rfl) (by kernel_rfl) (by kernel_rfl)
      (by rw [MakeChecks.laidMetH_plain _ _ _ (by kernel_rfl)]; exact metW os _)
theorem readStyle_lifted (os : Os) (started : os.Started) (H : Type) (enc : TypeId × Value → H) (F : Stop.Interp) :
    ReturnsInHanded {} Tryz.checked os 8 .any ((OpenSpec.ofChange Rows.fnReadStyleSpec).preRow enc Tryz.prog Tryz.f8 Rows.fnReadStyleRow.domain false Rows.fnReadStyleRow.laid) (((OpenSpec.ofChange Rows.fnReadStyleSpec).at F).post enc Tryz.prog Tryz.f8 false true false false) := by
  refine returnsInHanded_of_row (C := Tryz.checked) (s := OpenSpec.ofChange Rows.fnReadStyleSpec) ownZ started (by kernel_rfl) Tryz.func8 (witness_readStyle os enc) ?_
  intro W base args ds gs before hval0 hW _ _ hsz hL _ _
  have hval : ∀ (j : Nat) t v, Tryz.f8.params[j]? = some t → args[j]? = some v → Value.okWide Tryz.prog W .any base t v := hval0
  have hW' := hW
  have hblk := fun x (hx : x ∈ before) => hW'.lt x hx
  obtain ⟨p, q, hA0, hV0, hpq, _, _⟩ := hW
  have hA : DataW.TrodAll enc Tryz.prog W 0 (fun _ => true) true Tryz.f8.params.toList args.toList ds p := hA0
  have hV : DataW.TrodVars enc Tryz.prog W (fun _ => true) ["loop.example/pub-g01503/pub/orbwkt.ErrUnsupportedGeometry", "loop.example/pub-g01503/pub/orbwkt.ErrNotWKT", "loop.example/pub-g01503/spec.words"] gs q := hV0
  rw [Tryz.params8] at hA hval
  clear hA0 hval0
  obtain ⟨v0, v1, v2, d0, d1, d2, p0, p1, p2, rfl, rfl, rfl, h0, h1, h2⟩ := trodAll_three hA
  obtain ⟨g1, g2, g3, rfl⟩ := vars3 hV
  obtain ⟨dd, s, ha⟩ := arg_of (hval 0 25 v0 rfl rfl) h0 (fun b hb => by
    have h1 : (DataW.weightsEach Tryz.prog (Tryz.f8.params.toList ++ (OpenSpec.ofChange Rows.fnReadStyleSpec).bare.plain.varTypes Tryz.prog) ([d0, d1, d2] ++ [g1, g2, g3])).all (· ≤ reachBytes) = true := hsz
    rw [Tryz.params8] at h1
    have h2 := List.all_eq_true.1 h1 b (by
      show b ∈ DataW.weightsEach Tryz.prog (25 :: _) (d0 :: _)
      unfold DataW.weightsEach
      exact List.mem_append_left _ hb)
    simpa using h2)
  have hlt : ∀ x ∈ p0, x.block < W.heap.size := fun x hx => by
    have := hblk x (by rw [hpq]; simp [hx])
    simpa using this
  obtain ⟨x1, rfl, rfl, rfl⟩ := open_bool Tryz.underlying4 (hval 1 4 v1 rfl rfl) h1
  obtain ⟨x2, rfl, rfl, rfl⟩ := open_bool Tryz.underlying4 (hval 2 4 v2 rfl rfl) h2
  have hL' : laidMet Tryz.prog Rows.fnWriteRow.laid W := by
    have h1 : laidMetH Tryz.prog Rows.fnWriteRow.laid W := hL
    rwa [MakeChecks.laidMetH_plain _ _ _ (by kernel_rfl)] at h1
  obtain ⟨G, hG, hE⟩ := env_of hL'
  refine (fnReadStyle_calls G hG dd v0 s x1 x2 W hE ha).mono ?_
  rintro e W' ⟨rfl, hb⟩
  have hb' : Below W.heap.size W W' := hb
  exact ⟨_, rfl, _, _, _, [], _, q, hW', trodAll_mk1 (shut_bool Tryz.underlying4 _), trodAll_mk3 (Below.trod laidOutZ (by kernel_rfl) (of_decide_eq_true (by kernel_rfl)) h0 hb' hlt) (shut_bool Tryz.underlying4 _) (shut_bool Tryz.underlying4 _), hb'.trodVars laidOutZ (by kernel_rfl) hV, hb'.frame _, fun h => by cases h⟩
end Go.Proofs.YtghajgdiaopioaaGreatDoor
