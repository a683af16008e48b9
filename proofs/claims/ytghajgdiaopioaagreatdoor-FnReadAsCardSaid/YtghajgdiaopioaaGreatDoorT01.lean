/- The row of FnWrite, lifted: there is an input that fits, and from every one the law returns true. -/
import Derived.OpenVars
import Derived.Lay
import Derived.Deep.DeepHandedRow
import Derived.Deep.DeepWitnessRowRef
import Derived.MakeChecks
import Derived.Test.YtghajgdiaopioaaGreatDoorW46
import Derived.Test.YtghajgdiaopioaaGreatDoorW47
set_option linter.unusedVariables false
set_option linter.unusedSimpArgs false

namespace Go.Proofs.YtghajgdiaopioaaGreatDoor
open Go.ChangeShapes Go.WideShapes Go.ChangeAt Go.RowKit
set_option maxRecDepth 100000

theorem ownZ : ownKnob Tryz.prog.godebug = none := by kernel_rfl
theorem laidOutZ : laidOutB Tryz.prog = true := by kernel_rfl
def zeroShp : Value := .agg #[.int .i64 0, .slice none 0 0, .slice none 0 0]
theorem shapedW (os : Os) (args : Array Value) : ((World.laidAll Tryz.prog os Rows.fnWriteRow.laid).forCall (fun _ _ => 0) ⟨#[], args, []⟩).Shaped Tryz.prog := World.shaped_of_ZipB (by kernel_rfl) (by kernel_rfl)
theorem metW (os : Os) (args : Array Value) : laidMet Tryz.prog Rows.fnWriteRow.laid ((World.laidAll Tryz.prog os Rows.fnWriteRow.laid).forCall (fun _ _ => 0) ⟨#[], args, []⟩).memory := laidMet_laidAll _ (by kernel_rfl) (by kernel_rfl)
end Go.Proofs.YtghajgdiaopioaaGreatDoor

/- The row of FnWrite: from every input that fits the law returns true. -/
namespace Go.Proofs.YtghajgdiaopioaaGreatDoor
open Go.ChangeShapes Go.WideShapes Go.ChangeAt Go.RowKit
set_option maxRecDepth 100000

/-- A list of three. -/
theorem vars3 {H : Type} {enc : TypeId × Value → H} {P : Program} {w : World} {spare : Nat → Bool} {a b c : String} {gs : List (DataW H)} {q : List MemPlace} (h : DataW.TrodVars enc P w spare [a, b, c] gs q) : ∃ x y z, gs = [x, y, z] := by
  match gs, h with
  | [], h => exact h.elim
  | [_], h => obtain ⟨_, _, _, _, _, _, _, _, _, _, h, _⟩ := h; exact h.elim
  | [_, _], h => obtain ⟨_, _, _, _, _, _, _, _, _, _, h, _⟩ := h; obtain ⟨_, _, _, _, _, _, _, _, _, _, h, _⟩ := h; exact h.elim
  | [x, y, z], _ => exact ⟨x, y, z, rfl⟩
  | _ :: _ :: _ :: _ :: _, h =>
    obtain ⟨_, _, _, _, _, _, _, _, _, _, h, _⟩ := h; obtain ⟨_, _, _, _, _, _, _, _, _, _, h, _⟩ := h; obtain ⟨_, _, _, _, _, _, _, _, _, _, h, _⟩ := h; exact h.elim

theorem witness_write (os : Os) {H : Type} (enc : TypeId × Value → H) : ∃ (w : World) (tape : Tape) (i : Input), w.os = os ∧ (w.forCall tape i).Shaped Tryz.checked.prog ∧ i.vars = [] ∧ Input.okWide Tryz.checked.prog (w.forCall tape i) .any w.heap.size 4 i ∧
      (OpenSpec.ofChange Rows.fnWriteSpec).preRow enc Tryz.checked.prog Tryz.f4 Rows.fnWriteRow.domain false Rows.fnWriteRow.laid (w.forCall tape i).memory i.args ∧ ({} : Assume).holds Tryz.checked.prog (lone (Frame.enter Tryz.checked.prog 4 i.args .normal) [] (w.forCall tape i)) :=
  ChangeSpec.witness_shaped (enc := enc) (C := Tryz.checked) (os := os) (X := fun w _ => laidMetH Tryz.prog Rows.fnWriteRow.laid w) false (World.laidAll Tryz.prog os Rows.fnWriteRow.laid) #[zeroShp] 16 (World.laidAll_os _ _ _)
      (shapedW os _) (by kernel_rfl) (by kernel_rfl) (by kernel_rfl)
      (by rw [MakeChecks.laidMetH_plain _ _ _ (by kernel_rfl)]; exact metW os _)
theorem write_lifted (os : Os) (started : os.Started) (H : Type) (enc : TypeId × Value → H) (F : Stop.Interp) :
    ReturnsInHanded {} Tryz.checked os 4 .any ((OpenSpec.ofChange Rows.fnWriteSpec).preRow enc Tryz.prog Tryz.f4 Rows.fnWriteRow.domain false Rows.fnWriteRow.laid) (((OpenSpec.ofChange Rows.fnWriteSpec).at F).post enc Tryz.prog Tryz.f4 false true false false) := by
  refine returnsInHanded_of_row (C := Tryz.checked) (s := OpenSpec.ofChange Rows.fnWriteSpec) ownZ started (by kernel_rfl) Tryz.func4 (witness_write os enc) ?_
  intro W base args ds gs before hval0 hW _ _ hsz hL _ _
  have hval : ∀ (j : Nat) t v, Tryz.f4.params[j]? = some t → args[j]? = some v → Value.okWide Tryz.prog W .any base t v := hval0
  have hW' := hW
  have hblk := fun x (hx : x ∈ before) => hW'.lt x hx
  obtain ⟨p, q, hA0, hV0, hpq, _, _⟩ := hW
  have hA : DataW.TrodAll enc Tryz.prog W 0 (fun _ => true) true Tryz.f4.params.toList args.toList ds p := hA0
  have hV : DataW.TrodVars enc Tryz.prog W (fun _ => true) ["loop.example/pub-g01503/pub/orbwkt.ErrUnsupportedGeometry", "loop.example/pub-g01503/pub/orbwkt.ErrNotWKT", "loop.example/pub-g01503/spec.words"] gs q := hV0
  rw [Tryz.params4] at hA hval
  obtain ⟨v0, d0, rfl, rfl, h0⟩ := trodAll_one hA
  obtain ⟨g1, g2, g3, rfl⟩ := vars3 hV
  obtain ⟨dd, s, ha⟩ := arg_of (hval 0 25 v0 rfl rfl) h0 (fun b hb => by
    have h1 : (DataW.weightsEach Tryz.prog (Tryz.f4.params.toList ++ (OpenSpec.ofChange Rows.fnWriteSpec).bare.plain.varTypes Tryz.prog) ([d0] ++ [g1, g2, g3])).all (· ≤ reachBytes) = true := hsz
    rw [Tryz.params4] at h1
    have h2 := List.all_eq_true.1 h1 b (by
      show b ∈ DataW.weightsEach Tryz.prog (25 :: _) (d0 :: _)
      unfold DataW.weightsEach
      exact List.mem_append_left _ hb)
    simpa using h2)
  have hL' : laidMet Tryz.prog Rows.fnWriteRow.laid W := by
    have h1 : laidMetH Tryz.prog Rows.fnWriteRow.laid W := hL
    rwa [MakeChecks.laidMetH_plain _ _ _ (by kernel_rfl)] at h1
  obtain ⟨G, hG, hE⟩ := env_of hL'
  refine (fnWrite_calls G hG dd v0 s W hE ha).mono ?_
  rintro e W' ⟨rfl, hb⟩
  have hb' : Below W.heap.size W W' := hb
  have e1 : (((OpenSpec.ofChange Rows.fnWriteSpec).at F).fn H ([d0] ++ [g1, g2, g3])) = { results := [.lit (.bool true)], args := [d0], vars := [g1, g2, g3] } := rfl
  refine ⟨_, rfl, _, _, _, [], p, q, hW', ?_, ?_, ?_, hb'.frame _, fun h => by cases h⟩
  · rw [e1]; exact trodAll_mk1 (shut_bool Tryz.underlying4 _)
  · rw [e1]; exact trodAll_mk1 (Below.trod laidOutZ (by kernel_rfl) (of_decide_eq_true (by kernel_rfl)) h0 hb' (fun x hx => by simpa using hblk x (by rw [hpq]; exact List.mem_append_left _ hx)))
  · rw [e1]; exact hb'.trodVars laidOutZ (by kernel_rfl) hV
end Go.Proofs.YtghajgdiaopioaaGreatDoor

/- Walks: UnmarshalPoint .. UnmarshalCollection (36 .. 42), of a text of their kind and of another (printed by genDD.py). -/
namespace Go.Proofs.YtghajgdiaopioaaGreatDoor
open Go.RowKit
attribute [local go_sem] run_store_float run_store_iface run_store_nilIface

theorem set2_bel {w0 w : World} {b : Nat} {v0 v1 : Value} (h : Bel w0 w) (hb : w0.heap.size ≤ b) : Bel w0 ((w.setCell ⟨b, 0, none⟩ v0).setCell ⟨b, 1, none⟩ v1) := (h.setCell hb _).setCell hb _

set_option maxRecDepth 4096 in
set_option maxHeartbeats 8000000 in
theorem ua0_ok (x y : Nat) (l0 l : List UInt8) (w : World) (hs : l0.length ≤ 1000000000) (hs' : l.length ≤ 1000000000) (hl : trimL l0 = l) (h : hasW l kwPoint = true)
    (hk : ∀ wx, Bel w wx → Calls Tryz.prog 53 #[.string (ofL l)] wx fun e w' => e = .returned (.tuple #[.agg #[.float .f64 x, .float .f64 y], .nilIface]) ∧ Bel wx w') :
    Calls Tryz.prog 36 #[.string (ofL l0)] w fun e w' => e = .returned (.tuple #[.agg #[.float .f64 x, .float .f64 y], .nilIface]) ∧ Bel w w' := by
  have HK := Lib.hid hk
  clear hk
  have hres : (w.alloc (.cells #[.float .f64 0, .float .f64 0] 61)).heap[w.heap.size]? = some (Obj.cells #[.float .f64 0, .float .f64 0] 61 (0, 0)) := heap_alloc_new w _
  have hb0 : Bel w (w.alloc (.cells #[.float .f64 0, .float .f64 0] 61)) := Bel.al _ _
  have kc := fun (w : World) (C : Array Value) (n c : Nat) => Lib.run_convert_bytes_const (P := Tryz.prog) w 92 5 C n c Tryz.underlying92 Tryz.underlying5
  have HT := Lib.hid (fun wx => trimSpace_calls (ofL l0) wx (by rw [ofL_size]; exact hs))
  rw [toL_ofL, hl] at HT
  have HU := Lib.hid (fun wx => upper_calls (ofL l) wx (by rw [ofL_size]; omega))
  rw [toL_ofL] at HU
  have HP := Lib.hid (fun (p : Nat) (wx : World) hp => hp_calls l kwPoint p 5 wx #[.int .u8 80, .int .u8 79, .int .u8 73, .int .u8 78, .int .u8 84] rfl rfl hp)
  rw [h] at HP
  clear hl h
  generalize ofL l0 = s0 at *
  generalize hss : ofL l = s at *
  clear hss
  go_enter Tryz.func36, Tryz.ntmps36
  go_wp2_with fail
  generalize w.alloc (.cells #[.float .f64 0, .float .f64 0] 61) = w0 at *
  refine (HT.out w0).mono ?_
  rintro e w1 ⟨rfl, rfl⟩
  go_wp2_with fail
  refine (HU.out _).mono ?_
  rintro e w1 ⟨rfl, hb, b1⟩
  have HB := Lib.hid hb
  have HRES := Lib.hid (b1.heap hres)
  have C0 := Lib.hid (hb0.tr b1)
  clear hb b1 hres hb0
  go_wp2_with fail
  refine (HP.out _ _ HB.out).mono ?_
  rintro e w2 ⟨rfl, b2⟩
  have HRES2 := Lib.hid (b2.heap HRES.out)
  have C1 := Lib.hid (C0.out.tr b2)
  clear b2 HRES C0 HB
  go_wp2_with fail
  refine (HK.out _ C1.out).mono ?_
  rintro e w3 ⟨rfl, b3⟩
  have hres := b3.heap HRES2.out
  have C2 := Lib.hid (C1.out.tr b3)
  have p0 : w3.cell? ⟨w.heap.size, 0, none⟩ = some (.float .f64 0) := by simp [World.cell?, hres]
  have p1 : w3.cell? ⟨w.heap.size, 1, none⟩ = some (.float .f64 0) := by simp [World.cell?, hres]
  have r0 : w3.frozen? ⟨w.heap.size, 0, none⟩ = false := by simp [World.frozen?, hres]
  have r1 : w3.frozen? ⟨w.heap.size, 1, none⟩ = false := by simp [World.frozen?, hres]
  clear hres b3
  go_wp2
  (try simp only [Exit.inBlock, Exit.then])
  refine bodyPost_ret (v := .tuple #[.agg #[.float .f64 x, .float .f64 y], .nilIface]) ?_ rfl ⟨rfl, ?_⟩
  · simp [results, Tryz.results36, go_sem, p0, p1]
  · exact set2_bel C2.out (Nat.le_refl _)

set_option maxRecDepth 4096 in
set_option maxHeartbeats 8000000 in
theorem ua0_no (aI : Addr) (l0 l : List UInt8) (w : World) (hs : l0.length ≤ 1000000000) (hs' : l.length ≤ 1000000000) (hl : trimL l0 = l) (h : hasW l kwPoint = false) (hI : w.cell? ⟨2, 0, none⟩ = some (errV aI)) :
    Calls Tryz.prog 36 #[.string (ofL l0)] w fun e w' => (∃ v, e = .returned (.tuple #[v, errV aI])) ∧ Bel w w' := by
  have h2 : 2 < w.heap.size := World.block_lt_of_cell? w _ hI
  have hres : (w.alloc (.cells #[.float .f64 0, .float .f64 0] 61)).heap[w.heap.size]? = some (Obj.cells #[.float .f64 0, .float .f64 0] 61 (0, 0)) := heap_alloc_new w _
  have hb0 : Bel w (w.alloc (.cells #[.float .f64 0, .float .f64 0] 61)) := Bel.al _ _
  have kc := fun (w : World) (C : Array Value) (n c : Nat) => Lib.run_convert_bytes_const (P := Tryz.prog) w 92 5 C n c Tryz.underlying92 Tryz.underlying5
  have HT := Lib.hid (fun wx => trimSpace_calls (ofL l0) wx (by rw [ofL_size]; exact hs))
  rw [toL_ofL, hl] at HT
  have HU := Lib.hid (fun wx => upper_calls (ofL l) wx (by rw [ofL_size]; omega))
  rw [toL_ofL] at HU
  have HP := Lib.hid (fun (p : Nat) (wx : World) hp => hp_calls l kwPoint p 5 wx #[.int .u8 80, .int .u8 79, .int .u8 73, .int .u8 78, .int .u8 84] rfl rfl hp)
  rw [h] at HP
  clear hl h
  generalize ofL l0 = s0 at *
  generalize hss : ofL l = s at *
  clear hss
  go_enter Tryz.func36, Tryz.ntmps36
  go_wp2_with fail
  generalize w.alloc (.cells #[.float .f64 0, .float .f64 0] 61) = w0 at *
  refine (HT.out w0).mono ?_
  rintro e w1 ⟨rfl, rfl⟩
  go_wp2_with fail
  refine (HU.out _).mono ?_
  rintro e w1 ⟨rfl, hb, b1⟩
  have HB := Lib.hid hb
  have HRES := Lib.hid (b1.heap hres)
  have C0 := Lib.hid (hb0.tr b1)
  clear hb b1 hres hb0
  go_wp2_with fail
  refine (HP.out _ _ HB.out).mono ?_
  rintro e w2 ⟨rfl, b2⟩
  have HRES2 := Lib.hid (b2.heap HRES.out)
  have C1 := Lib.hid (C0.out.tr b2)
  clear b2 HRES C0 HB
  have hres := HRES2.out
  have hI2 := C1.out.cellOf hI
  have p0 : w2.cell? ⟨w.heap.size, 0, none⟩ = some (.float .f64 0) := by simp [World.cell?, hres]
  have p1 : w2.cell? ⟨w.heap.size, 1, none⟩ = some (.float .f64 0) := by simp [World.cell?, hres]
  have r0 : w2.frozen? ⟨w.heap.size, 0, none⟩ = false := by simp [World.frozen?, hres]
  have r1 : w2.frozen? ⟨w.heap.size, 1, none⟩ = false := by simp [World.frozen?, hres]
  clear hres HRES2
  go_wp2_with fail
  go_region
  all_goals (try go_wp2)
  all_goals
    (try simp only [Exit.inBlock, Exit.then])
    refine bodyPost_ret (v := .tuple #[.agg #[.float .f64 0, .float .f64 0], errV aI]) ?_ rfl ⟨⟨_, rfl⟩, ?_⟩
    · simp [results, Tryz.results36, go_sem, p0, p1]
    · exact (set2_bel C1.out (Nat.le_refl _)).drew

set_option maxRecDepth 4096 in
set_option maxHeartbeats 8000000 in
theorem ua1_ok (R : World → Value → Prop) (l0 l : List UInt8) (w : World) (hs : l0.length ≤ 1000000000) (hs' : l.length ≤ 1000000000) (hl : trimL l0 = l) (h : hasW l kwLine = true)
    (hk : ∀ wx, Bel w wx → Calls Tryz.prog 54 #[.string (ofL l)] wx fun e w' => (∃ v, e = .returned (.tuple #[v, .nilIface]) ∧ R w' v) ∧ Bel wx w') :
    Calls Tryz.prog 37 #[.string (ofL l0)] w fun e w' => (∃ v, e = .returned (.tuple #[v, .nilIface]) ∧ R w' v) ∧ Bel w w' := by
  have HK := Lib.hid hk
  clear hk
  have kc := fun (w : World) (C : Array Value) (n c : Nat) => Lib.run_convert_bytes_const (P := Tryz.prog) w 92 5 C n c Tryz.underlying92 Tryz.underlying5
  have HT := Lib.hid (fun wx => trimSpace_calls (ofL l0) wx (by rw [ofL_size]; exact hs))
  rw [toL_ofL, hl] at HT
  have HU := Lib.hid (fun wx => upper_calls (ofL l) wx (by rw [ofL_size]; omega))
  rw [toL_ofL] at HU
  have HP := Lib.hid (fun (p : Nat) (wx : World) hp => hp_calls l kwLine p 10 wx #[.int .u8 76, .int .u8 73, .int .u8 78, .int .u8 69, .int .u8 83, .int .u8 84, .int .u8 82, .int .u8 73, .int .u8 78, .int .u8 71] rfl rfl hp)
  rw [h] at HP
  clear hl h
  generalize ofL l0 = s0 at *
  generalize hss : ofL l = s at *
  clear hss
  go_enter Tryz.func37, Tryz.ntmps37
  go_wp2_with fail
  refine (HT.out w).mono ?_
  rintro e w1 ⟨rfl, rfl⟩
  go_wp2_with fail
  refine (HU.out _).mono ?_
  rintro e w1 ⟨rfl, hb, b1⟩
  have HB := Lib.hid hb
  have C0 := Lib.hid b1
  clear hb b1
  go_wp2_with fail
  refine (HP.out _ _ HB.out).mono ?_
  rintro e w2 ⟨rfl, b2⟩
  have C1 := Lib.hid (C0.out.tr b2)
  clear b2 C0 HB
  go_wp2_with fail
  refine (HK.out _ C1.out).mono ?_
  rintro e w3 ⟨⟨v, rfl, hR⟩, b3⟩
  have C2 := Lib.hid (C1.out.tr b3)
  have HR := Lib.hid hR
  clear b3 hR
  go_wp2
  go_ret2
  exact ⟨⟨_, rfl, HR.out⟩, C2.out⟩

set_option maxRecDepth 4096 in
set_option maxHeartbeats 8000000 in
theorem ua1_no (aI : Addr) (l0 l : List UInt8) (w : World) (hs : l0.length ≤ 1000000000) (hs' : l.length ≤ 1000000000) (hl : trimL l0 = l) (h : hasW l kwLine = false) (hI : w.cell? ⟨2, 0, none⟩ = some (errV aI)) :
    Calls Tryz.prog 37 #[.string (ofL l0)] w fun e w' => (∃ v, e = .returned (.tuple #[v, errV aI])) ∧ Bel w w' := by
  have kc := fun (w : World) (C : Array Value) (n c : Nat) => Lib.run_convert_bytes_const (P := Tryz.prog) w 92 5 C n c Tryz.underlying92 Tryz.underlying5
  have HT := Lib.hid (fun wx => trimSpace_calls (ofL l0) wx (by rw [ofL_size]; exact hs))
  rw [toL_ofL, hl] at HT
  have HU := Lib.hid (fun wx => upper_calls (ofL l) wx (by rw [ofL_size]; omega))
  rw [toL_ofL] at HU
  have HP := Lib.hid (fun (p : Nat) (wx : World) hp => hp_calls l kwLine p 10 wx #[.int .u8 76, .int .u8 73, .int .u8 78, .int .u8 69, .int .u8 83, .int .u8 84, .int .u8 82, .int .u8 73, .int .u8 78, .int .u8 71] rfl rfl hp)
  rw [h] at HP
  clear hl h
  generalize ofL l0 = s0 at *
  generalize hss : ofL l = s at *
  clear hss
  go_enter Tryz.func37, Tryz.ntmps37
  go_wp2_with fail
  refine (HT.out w).mono ?_
  rintro e w1 ⟨rfl, rfl⟩
  go_wp2_with fail
  refine (HU.out _).mono ?_
  rintro e w1 ⟨rfl, hb, b1⟩
  have HB := Lib.hid hb
  have C0 := Lib.hid b1
  clear hb b1
  go_wp2_with fail
  refine (HP.out _ _ HB.out).mono ?_
  rintro e w2 ⟨rfl, b2⟩
  have C1 := Lib.hid (C0.out.tr b2)
  clear b2 C0 HB
  have hI2 := C1.out.cellOf hI
  go_wp2_with fail
  go_region
  all_goals (try go_wp2)
  all_goals
    go_ret2
    exact ⟨⟨_, rfl⟩, C1.out.drew⟩

set_option maxRecDepth 4096 in
set_option maxHeartbeats 8000000 in
theorem ua2_ok (R : World → Value → Prop) (l0 l : List UInt8) (w : World) (hs : l0.length ≤ 1000000000) (hs' : l.length ≤ 1000000000) (hl : trimL l0 = l) (h : hasW l kwPoly = true)
    (hk : ∀ wx, Bel w wx → Calls Tryz.prog 55 #[.string (ofL l)] wx fun e w' => (∃ v, e = .returned (.tuple #[v, .nilIface]) ∧ R w' v) ∧ Bel wx w') :
    Calls Tryz.prog 38 #[.string (ofL l0)] w fun e w' => (∃ v, e = .returned (.tuple #[v, .nilIface]) ∧ R w' v) ∧ Bel w w' := by
  have HK := Lib.hid hk
  clear hk
  have kc := fun (w : World) (C : Array Value) (n c : Nat) => Lib.run_convert_bytes_const (P := Tryz.prog) w 92 5 C n c Tryz.underlying92 Tryz.underlying5
  have HT := Lib.hid (fun wx => trimSpace_calls (ofL l0) wx (by rw [ofL_size]; exact hs))
  rw [toL_ofL, hl] at HT
  have HU := Lib.hid (fun wx => upper_calls (ofL l) wx (by rw [ofL_size]; omega))
  rw [toL_ofL] at HU
  have HP := Lib.hid (fun (p : Nat) (wx : World) hp => hp_calls l kwPoly p 7 wx #[.int .u8 80, .int .u8 79, .int .u8 76, .int .u8 89, .int .u8 71, .int .u8 79, .int .u8 78] rfl rfl hp)
  rw [h] at HP
  clear hl h
  generalize ofL l0 = s0 at *
  generalize hss : ofL l = s at *
  clear hss
  go_enter Tryz.func38, Tryz.ntmps38
  go_wp2_with fail
  refine (HT.out w).mono ?_
  rintro e w1 ⟨rfl, rfl⟩
  go_wp2_with fail
  refine (HU.out _).mono ?_
  rintro e w1 ⟨rfl, hb, b1⟩
  have HB := Lib.hid hb
  have C0 := Lib.hid b1
  clear hb b1
  go_wp2_with fail
  refine (HP.out _ _ HB.out).mono ?_
  rintro e w2 ⟨rfl, b2⟩
  have C1 := Lib.hid (C0.out.tr b2)
  clear b2 C0 HB
  go_wp2_with fail
  refine (HK.out _ C1.out).mono ?_
  rintro e w3 ⟨⟨v, rfl, hR⟩, b3⟩
  have C2 := Lib.hid (C1.out.tr b3)
  have HR := Lib.hid hR
  clear b3 hR
  go_wp2
  go_ret2
  exact ⟨⟨_, rfl, HR.out⟩, C2.out⟩

set_option maxRecDepth 4096 in
set_option maxHeartbeats 8000000 in
theorem ua2_no (aI : Addr) (l0 l : List UInt8) (w : World) (hs : l0.length ≤ 1000000000) (hs' : l.length ≤ 1000000000) (hl : trimL l0 = l) (h : hasW l kwPoly = false) (hI : w.cell? ⟨2, 0, none⟩ = some (errV aI)) :
    Calls Tryz.prog 38 #[.string (ofL l0)] w fun e w' => (∃ v, e = .returned (.tuple #[v, errV aI])) ∧ Bel w w' := by
  have kc := fun (w : World) (C : Array Value) (n c : Nat) => Lib.run_convert_bytes_const (P := Tryz.prog) w 92 5 C n c Tryz.underlying92 Tryz.underlying5
  have HT := Lib.hid (fun wx => trimSpace_calls (ofL l0) wx (by rw [ofL_size]; exact hs))
  rw [toL_ofL, hl] at HT
  have HU := Lib.hid (fun wx => upper_calls (ofL l) wx (by rw [ofL_size]; omega))
  rw [toL_ofL] at HU
  have HP := Lib.hid (fun (p : Nat) (wx : World) hp => hp_calls l kwPoly p 7 wx #[.int .u8 80, .int .u8 79, .int .u8 76, .int .u8 89, .int .u8 71, .int .u8 79, .int .u8 78] rfl rfl hp)
  rw [h] at HP
  clear hl h
  generalize ofL l0 = s0 at *
  generalize hss : ofL l = s at *
  clear hss
  go_enter Tryz.func38, Tryz.ntmps38
  go_wp2_with fail
  refine (HT.out w).mono ?_
  rintro e w1 ⟨rfl, rfl⟩
  go_wp2_with fail
  refine (HU.out _).mono ?_
  rintro e w1 ⟨rfl, hb, b1⟩
  have HB := Lib.hid hb
  have C0 := Lib.hid b1
  clear hb b1
  go_wp2_with fail
  refine (HP.out _ _ HB.out).mono ?_
  rintro e w2 ⟨rfl, b2⟩
  have C1 := Lib.hid (C0.out.tr b2)
  clear b2 C0 HB
  have hI2 := C1.out.cellOf hI
  go_wp2_with fail
  go_region
  all_goals (try go_wp2)
  all_goals
    go_ret2
    exact ⟨⟨_, rfl⟩, C1.out.drew⟩

set_option maxRecDepth 4096 in
set_option maxHeartbeats 8000000 in
theorem ua3_ok (R : World → Value → Prop) (l0 l : List UInt8) (w : World) (hs : l0.length ≤ 1000000000) (hs' : l.length ≤ 1000000000) (hl : trimL l0 = l) (h : hasW l kwMPoint = true)
    (hk : ∀ wx, Bel w wx → Calls Tryz.prog 56 #[.string (ofL l)] wx fun e w' => (∃ v, e = .returned (.tuple #[v, .nilIface]) ∧ R w' v) ∧ Bel wx w') :
    Calls Tryz.prog 39 #[.string (ofL l0)] w fun e w' => (∃ v, e = .returned (.tuple #[v, .nilIface]) ∧ R w' v) ∧ Bel w w' := by
  have HK := Lib.hid hk
  clear hk
  have kc := fun (w : World) (C : Array Value) (n c : Nat) => Lib.run_convert_bytes_const (P := Tryz.prog) w 92 5 C n c Tryz.underlying92 Tryz.underlying5
  have HT := Lib.hid (fun wx => trimSpace_calls (ofL l0) wx (by rw [ofL_size]; exact hs))
  rw [toL_ofL, hl] at HT
  have HU := Lib.hid (fun wx => upper_calls (ofL l) wx (by rw [ofL_size]; omega))
  rw [toL_ofL] at HU
  have HP := Lib.hid (fun (p : Nat) (wx : World) hp => hp_calls l kwMPoint p 10 wx #[.int .u8 77, .int .u8 85, .int .u8 76, .int .u8 84, .int .u8 73, .int .u8 80, .int .u8 79, .int .u8 73, .int .u8 78, .int .u8 84] rfl rfl hp)
  rw [h] at HP
  clear hl h
  generalize ofL l0 = s0 at *
  generalize hss : ofL l = s at *
  clear hss
  go_enter Tryz.func39, Tryz.ntmps39
  go_wp2_with fail
  refine (HT.out w).mono ?_
  rintro e w1 ⟨rfl, rfl⟩
  go_wp2_with fail
  refine (HU.out _).mono ?_
  rintro e w1 ⟨rfl, hb, b1⟩
  have HB := Lib.hid hb
  have C0 := Lib.hid b1
  clear hb b1
  go_wp2_with fail
  refine (HP.out _ _ HB.out).mono ?_
  rintro e w2 ⟨rfl, b2⟩
  have C1 := Lib.hid (C0.out.tr b2)
  clear b2 C0 HB
  go_wp2_with fail
  refine (HK.out _ C1.out).mono ?_
  rintro e w3 ⟨⟨v, rfl, hR⟩, b3⟩
  have C2 := Lib.hid (C1.out.tr b3)
  have HR := Lib.hid hR
  clear b3 hR
  go_wp2
  go_ret2
  exact ⟨⟨_, rfl, HR.out⟩, C2.out⟩

set_option maxRecDepth 4096 in
set_option maxHeartbeats 8000000 in
theorem ua3_no (aI : Addr) (l0 l : List UInt8) (w : World) (hs : l0.length ≤ 1000000000) (hs' : l.length ≤ 1000000000) (hl : trimL l0 = l) (h : hasW l kwMPoint = false) (hI : w.cell? ⟨2, 0, none⟩ = some (errV aI)) :
    Calls Tryz.prog 39 #[.string (ofL l0)] w fun e w' => (∃ v, e = .returned (.tuple #[v, errV aI])) ∧ Bel w w' := by
  have kc := fun (w : World) (C : Array Value) (n c : Nat) => Lib.run_convert_bytes_const (P := Tryz.prog) w 92 5 C n c Tryz.underlying92 Tryz.underlying5
  have HT := Lib.hid (fun wx => trimSpace_calls (ofL l0) wx (by rw [ofL_size]; exact hs))
  rw [toL_ofL, hl] at HT
  have HU := Lib.hid (fun wx => upper_calls (ofL l) wx (by rw [ofL_size]; omega))
  rw [toL_ofL] at HU
  have HP := Lib.hid (fun (p : Nat) (wx : World) hp => hp_calls l kwMPoint p 10 wx #[.int .u8 77, .int .u8 85, .int .u8 76, .int .u8 84, .int .u8 73, .int .u8 80, .int .u8 79, .int .u8 73, .int .u8 78, .int .u8 84] rfl rfl hp)
  rw [h] at HP
  clear hl h
  generalize ofL l0 = s0 at *
  generalize hss : ofL l = s at *
  clear hss
  go_enter Tryz.func39, Tryz.ntmps39
  go_wp2_with fail
  refine (HT.out w).mono ?_
  rintro e w1 ⟨rfl, rfl⟩
  go_wp2_with fail
  refine (HU.out _).mono ?_
  rintro e w1 ⟨rfl, hb, b1⟩
  have HB := Lib.hid hb
  have C0 := Lib.hid b1
  clear hb b1
  go_wp2_with fail
  refine (HP.out _ _ HB.out).mono ?_
  rintro e w2 ⟨rfl, b2⟩
  have C1 := Lib.hid (C0.out.tr b2)
  clear b2 C0 HB
  have hI2 := C1.out.cellOf hI
  go_wp2_with fail
  go_region
  all_goals (try go_wp2)
  all_goals
    go_ret2
    exact ⟨⟨_, rfl⟩, C1.out.drew⟩

set_option maxRecDepth 4096 in
set_option maxHeartbeats 8000000 in
theorem ua4_ok (R : World → Value → Prop) (l0 l : List UInt8) (w : World) (hs : l0.length ≤ 1000000000) (hs' : l.length ≤ 1000000000) (hl : trimL l0 = l) (h : hasW l kwMLine = true)
    (hk : ∀ wx, Bel w wx → Calls Tryz.prog 57 #[.string (ofL l)] wx fun e w' => (∃ v, e = .returned (.tuple #[v, .nilIface]) ∧ R w' v) ∧ Bel wx w') :
    Calls Tryz.prog 40 #[.string (ofL l0)] w fun e w' => (∃ v, e = .returned (.tuple #[v, .nilIface]) ∧ R w' v) ∧ Bel w w' := by
  have HK := Lib.hid hk
  clear hk
  have kc := fun (w : World) (C : Array Value) (n c : Nat) => Lib.run_convert_bytes_const (P := Tryz.prog) w 92 5 C n c Tryz.underlying92 Tryz.underlying5
  have HT := Lib.hid (fun wx => trimSpace_calls (ofL l0) wx (by rw [ofL_size]; exact hs))
  rw [toL_ofL, hl] at HT
  have HU := Lib.hid (fun wx => upper_calls (ofL l) wx (by rw [ofL_size]; omega))
  rw [toL_ofL] at HU
  have HP := Lib.hid (fun (p : Nat) (wx : World) hp => hp_calls l kwMLine p 15 wx #[.int .u8 77, .int .u8 85, .int .u8 76, .int .u8 84, .int .u8 73, .int .u8 76, .int .u8 73, .int .u8 78, .int .u8 69, .int .u8 83, .int .u8 84, .int .u8 82, .int .u8 73, .int .u8 78, .int .u8 71] rfl rfl hp)
  rw [h] at HP
  clear hl h
  generalize ofL l0 = s0 at *
  generalize hss : ofL l = s at *
  clear hss
  go_enter Tryz.func40, Tryz.ntmps40
  go_wp2_with fail
  refine (HT.out w).mono ?_
  rintro e w1 ⟨rfl, rfl⟩
  go_wp2_with fail
  refine (HU.out _).mono ?_
  rintro e w1 ⟨rfl, hb, b1⟩
  have HB := Lib.hid hb
  have C0 := Lib.hid b1
  clear hb b1
  go_wp2_with fail
  refine (HP.out _ _ HB.out).mono ?_
  rintro e w2 ⟨rfl, b2⟩
  have C1 := Lib.hid (C0.out.tr b2)
  clear b2 C0 HB
  go_wp2_with fail
  refine (HK.out _ C1.out).mono ?_
  rintro e w3 ⟨⟨v, rfl, hR⟩, b3⟩
  have C2 := Lib.hid (C1.out.tr b3)
  have HR := Lib.hid hR
  clear b3 hR
  go_wp2
  go_ret2
  exact ⟨⟨_, rfl, HR.out⟩, C2.out⟩

set_option maxRecDepth 4096 in
set_option maxHeartbeats 8000000 in
theorem ua4_no (aI : Addr) (l0 l : List UInt8) (w : World) (hs : l0.length ≤ 1000000000) (hs' : l.length ≤ 1000000000) (hl : trimL l0 = l) (h : hasW l kwMLine = false) (hI : w.cell? ⟨2, 0, none⟩ = some (errV aI)) :
    Calls Tryz.prog 40 #[.string (ofL l0)] w fun e w' => (∃ v, e = .returned (.tuple #[v, errV aI])) ∧ Bel w w' := by
  have kc := fun (w : World) (C : Array Value) (n c : Nat) => Lib.run_convert_bytes_const (P := Tryz.prog) w 92 5 C n c Tryz.underlying92 Tryz.underlying5
  have HT := Lib.hid (fun wx => trimSpace_calls (ofL l0) wx (by rw [ofL_size]; exact hs))
  rw [toL_ofL, hl] at HT
  have HU := Lib.hid (fun wx => upper_calls (ofL l) wx (by rw [ofL_size]; omega))
  rw [toL_ofL] at HU
  have HP := Lib.hid (fun (p : Nat) (wx : World) hp => hp_calls l kwMLine p 15 wx #[.int .u8 77, .int .u8 85, .int .u8 76, .int .u8 84, .int .u8 73, .int .u8 76, .int .u8 73, .int .u8 78, .int .u8 69, .int .u8 83, .int .u8 84, .int .u8 82, .int .u8 73, .int .u8 78, .int .u8 71] rfl rfl hp)
  rw [h] at HP
  clear hl h
  generalize ofL l0 = s0 at *
  generalize hss : ofL l = s at *
  clear hss
  go_enter Tryz.func40, Tryz.ntmps40
  go_wp2_with fail
  refine (HT.out w).mono ?_
  rintro e w1 ⟨rfl, rfl⟩
  go_wp2_with fail
  refine (HU.out _).mono ?_
  rintro e w1 ⟨rfl, hb, b1⟩
  have HB := Lib.hid hb
  have C0 := Lib.hid b1
  clear hb b1
  go_wp2_with fail
  refine (HP.out _ _ HB.out).mono ?_
  rintro e w2 ⟨rfl, b2⟩
  have C1 := Lib.hid (C0.out.tr b2)
  clear b2 C0 HB
  have hI2 := C1.out.cellOf hI
  go_wp2_with fail
  go_region
  all_goals (try go_wp2)
  all_goals
    go_ret2
    exact ⟨⟨_, rfl⟩, C1.out.drew⟩

set_option maxRecDepth 4096 in
set_option maxHeartbeats 8000000 in
theorem ua5_ok (R : World → Value → Prop) (l0 l : List UInt8) (w : World) (hs : l0.length ≤ 1000000000) (hs' : l.length ≤ 1000000000) (hl : trimL l0 = l) (h : hasW l kwMPoly = true)
    (hk : ∀ wx, Bel w wx → Calls Tryz.prog 58 #[.string (ofL l)] wx fun e w' => (∃ v, e = .returned (.tuple #[v, .nilIface]) ∧ R w' v) ∧ Bel wx w') :
    Calls Tryz.prog 41 #[.string (ofL l0)] w fun e w' => (∃ v, e = .returned (.tuple #[v, .nilIface]) ∧ R w' v) ∧ Bel w w' := by
  have HK := Lib.hid hk
  clear hk
  have kc := fun (w : World) (C : Array Value) (n c : Nat) => Lib.run_convert_bytes_const (P := Tryz.prog) w 92 5 C n c Tryz.underlying92 Tryz.underlying5
  have HT := Lib.hid (fun wx => trimSpace_calls (ofL l0) wx (by rw [ofL_size]; exact hs))
  rw [toL_ofL, hl] at HT
  have HU := Lib.hid (fun wx => upper_calls (ofL l) wx (by rw [ofL_size]; omega))
  rw [toL_ofL] at HU
  have HP := Lib.hid (fun (p : Nat) (wx : World) hp => hp_calls l kwMPoly p 12 wx #[.int .u8 77, .int .u8 85, .int .u8 76, .int .u8 84, .int .u8 73, .int .u8 80, .int .u8 79, .int .u8 76, .int .u8 89, .int .u8 71, .int .u8 79, .int .u8 78] rfl rfl hp)
  rw [h] at HP
  clear hl h
  generalize ofL l0 = s0 at *
  generalize hss : ofL l = s at *
  clear hss
  go_enter Tryz.func41, Tryz.ntmps41
  go_wp2_with fail
  refine (HT.out w).mono ?_
  rintro e w1 ⟨rfl, rfl⟩
  go_wp2_with fail
  refine (HU.out _).mono ?_
  rintro e w1 ⟨rfl, hb, b1⟩
  have HB := Lib.hid hb
  have C0 := Lib.hid b1
  clear hb b1
  go_wp2_with fail
  refine (HP.out _ _ HB.out).mono ?_
  rintro e w2 ⟨rfl, b2⟩
  have C1 := Lib.hid (C0.out.tr b2)
  clear b2 C0 HB
  go_wp2_with fail
  refine (HK.out _ C1.out).mono ?_
  rintro e w3 ⟨⟨v, rfl, hR⟩, b3⟩
  have C2 := Lib.hid (C1.out.tr b3)
  have HR := Lib.hid hR
  clear b3 hR
  go_wp2
  go_ret2
  exact ⟨⟨_, rfl, HR.out⟩, C2.out⟩

set_option maxRecDepth 4096 in
set_option maxHeartbeats 8000000 in
theorem ua5_no (aI : Addr) (l0 l : List UInt8) (w : World) (hs : l0.length ≤ 1000000000) (hs' : l.length ≤ 1000000000) (hl : trimL l0 = l) (h : hasW l kwMPoly = false) (hI : w.cell? ⟨2, 0, none⟩ = some (errV aI)) :
    Calls Tryz.prog 41 #[.string (ofL l0)] w fun e w' => (∃ v, e = .returned (.tuple #[v, errV aI])) ∧ Bel w w' := by
  have kc := fun (w : World) (C : Array Value) (n c : Nat) => Lib.run_convert_bytes_const (P := Tryz.prog) w 92 5 C n c Tryz.underlying92 Tryz.underlying5
  have HT := Lib.hid (fun wx => trimSpace_calls (ofL l0) wx (by rw [ofL_size]; exact hs))
  rw [toL_ofL, hl] at HT
  have HU := Lib.hid (fun wx => upper_calls (ofL l) wx (by rw [ofL_size]; omega))
  rw [toL_ofL] at HU
  have HP := Lib.hid (fun (p : Nat) (wx : World) hp => hp_calls l kwMPoly p 12 wx #[.int .u8 77, .int .u8 85, .int .u8 76, .int .u8 84, .int .u8 73, .int .u8 80, .int .u8 79, .int .u8 76, .int .u8 89, .int .u8 71, .int .u8 79, .int .u8 78] rfl rfl hp)
  rw [h] at HP
  clear hl h
  generalize ofL l0 = s0 at *
  generalize hss : ofL l = s at *
  clear hss
  go_enter Tryz.func41, Tryz.ntmps41
  go_wp2_with fail
  refine (HT.out w).mono ?_
  rintro e w1 ⟨rfl, rfl⟩
  go_wp2_with fail
  refine (HU.out _).mono ?_
  rintro e w1 ⟨rfl, hb, b1⟩
  have HB := Lib.hid hb
  have C0 := Lib.hid b1
  clear hb b1
  go_wp2_with fail
  refine (HP.out _ _ HB.out).mono ?_
  rintro e w2 ⟨rfl, b2⟩
  have C1 := Lib.hid (C0.out.tr b2)
  clear b2 C0 HB
  have hI2 := C1.out.cellOf hI
  go_wp2_with fail
  go_region
  all_goals (try go_wp2)
  all_goals
    go_ret2
    exact ⟨⟨_, rfl⟩, C1.out.drew⟩

set_option maxRecDepth 4096 in
set_option maxHeartbeats 8000000 in
theorem ua6_ok (R : World → Value → Prop) (l0 l : List UInt8) (w : World) (hs : l0.length ≤ 1000000000) (hs' : l.length ≤ 1000000000) (hl : trimL l0 = l) (h : hasW l kwColl = true)
    (hk : ∀ wx, Bel w wx → Calls Tryz.prog 59 #[.string (ofL l)] wx fun e w' => (∃ v, e = .returned (.tuple #[v, .nilIface]) ∧ R w' v) ∧ Bel wx w') :
    Calls Tryz.prog 42 #[.string (ofL l0)] w fun e w' => (∃ v, e = .returned (.tuple #[v, .nilIface]) ∧ R w' v) ∧ Bel w w' := by
  have HK := Lib.hid hk
  clear hk
  have kc := fun (w : World) (C : Array Value) (n c : Nat) => Lib.run_convert_bytes_const (P := Tryz.prog) w 92 5 C n c Tryz.underlying92 Tryz.underlying5
  have HT := Lib.hid (fun wx => trimSpace_calls (ofL l0) wx (by rw [ofL_size]; exact hs))
  rw [toL_ofL, hl] at HT
  have HU := Lib.hid (fun wx => upper_calls (ofL l) wx (by rw [ofL_size]; omega))
  rw [toL_ofL] at HU
  have HP := Lib.hid (fun (p : Nat) (wx : World) hp => hp_calls l kwColl p 18 wx #[.int .u8 71, .int .u8 69, .int .u8 79, .int .u8 77, .int .u8 69, .int .u8 84, .int .u8 82, .int .u8 89, .int .u8 67, .int .u8 79, .int .u8 76, .int .u8 76, .int .u8 69, .int .u8 67, .int .u8 84, .int .u8 73, .int .u8 79, .int .u8 78] rfl rfl hp)
  rw [h] at HP
  clear hl h
  generalize ofL l0 = s0 at *
  generalize hss : ofL l = s at *
  clear hss
  go_enter Tryz.func42, Tryz.ntmps42
  go_wp2_with fail
  refine (HT.out w).mono ?_
  rintro e w1 ⟨rfl, rfl⟩
  go_wp2_with fail
  refine (HU.out _).mono ?_
  rintro e w1 ⟨rfl, hb, b1⟩
  have HB := Lib.hid hb
  have C0 := Lib.hid b1
  clear hb b1
  go_wp2_with fail
  refine (HP.out _ _ HB.out).mono ?_
  rintro e w2 ⟨rfl, b2⟩
  have C1 := Lib.hid (C0.out.tr b2)
  clear b2 C0 HB
  go_wp2_with fail
  refine (HK.out _ C1.out).mono ?_
  rintro e w3 ⟨⟨v, rfl, hR⟩, b3⟩
  have C2 := Lib.hid (C1.out.tr b3)
  have HR := Lib.hid hR
  clear b3 hR
  go_wp2
  go_ret2
  exact ⟨⟨_, rfl, HR.out⟩, C2.out⟩

set_option maxRecDepth 4096 in
set_option maxHeartbeats 8000000 in
theorem ua6_no (aI : Addr) (l0 l : List UInt8) (w : World) (hs : l0.length ≤ 1000000000) (hs' : l.length ≤ 1000000000) (hl : trimL l0 = l) (h : hasW l kwColl = false) (hI : w.cell? ⟨2, 0, none⟩ = some (errV aI)) :
    Calls Tryz.prog 42 #[.string (ofL l0)] w fun e w' => (∃ v, e = .returned (.tuple #[v, errV aI])) ∧ Bel w w' := by
  have kc := fun (w : World) (C : Array Value) (n c : Nat) => Lib.run_convert_bytes_const (P := Tryz.prog) w 92 5 C n c Tryz.underlying92 Tryz.underlying5
  have HT := Lib.hid (fun wx => trimSpace_calls (ofL l0) wx (by rw [ofL_size]; exact hs))
  rw [toL_ofL, hl] at HT
  have HU := Lib.hid (fun wx => upper_calls (ofL l) wx (by rw [ofL_size]; omega))
  rw [toL_ofL] at HU
  have HP := Lib.hid (fun (p : Nat) (wx : World) hp => hp_calls l kwColl p 18 wx #[.int .u8 71, .int .u8 69, .int .u8 79, .int .u8 77, .int .u8 69, .int .u8 84, .int .u8 82, .int .u8 89, .int .u8 67, .int .u8 79, .int .u8 76, .int .u8 76, .int .u8 69, .int .u8 67, .int .u8 84, .int .u8 73, .int .u8 79, .int .u8 78] rfl rfl hp)
  rw [h] at HP
  clear hl h
  generalize ofL l0 = s0 at *
  generalize hss : ofL l = s at *
  clear hss
  go_enter Tryz.func42, Tryz.ntmps42
  go_wp2_with fail
  refine (HT.out w).mono ?_
  rintro e w1 ⟨rfl, rfl⟩
  go_wp2_with fail
  refine (HU.out _).mono ?_
  rintro e w1 ⟨rfl, hb, b1⟩
  have HB := Lib.hid hb
  have C0 := Lib.hid b1
  clear hb b1
  go_wp2_with fail
  refine (HP.out _ _ HB.out).mono ?_
  rintro e w2 ⟨rfl, b2⟩
  have C1 := Lib.hid (C0.out.tr b2)
  clear b2 C0 HB
  have hI2 := C1.out.cellOf hI
  go_wp2_with fail
  go_region
  all_goals (try go_wp2)
  all_goals
    go_ret2
    exact ⟨⟨_, rfl⟩, C1.out.drew⟩
end Go.Proofs.YtghajgdiaopioaaGreatDoor

/- Walks: impl.ReadAs (17), kind by kind (printed by genDE.py). -/
namespace Go.Proofs.YtghajgdiaopioaaGreatDoor
open Go.RowKit
attribute [local go_sem] run_store_float run_store_iface run_store_nilIface


set_option maxRecDepth 10000 in
set_option maxHeartbeats 4000000 in
theorem ra0_err (s : ByteArray) (w : World)
    (hU : ∀ wx, Bel w wx → Calls Tryz.prog 36 #[.string s] wx fun e w' => (∃ v a, e = .returned (.tuple #[v, errV a])) ∧ Bel wx w') :
    Calls Tryz.prog 17 #[.int .i64 1, .string s] w fun e w' => e = .returned (.tuple #[.agg #[.int .i64 0, .slice none 0 0, .slice none 0 0], .bool false]) ∧ Bel w w' := by
  have HU := Lib.hid hU
  clear hU
  go_enter Tryz.func17, Tryz.ntmps17
  go_wp2_with fail
  have hres : (w.alloc (.cells #[.int .i64 0, .slice none 0 0, .slice none 0 0] 25)).heap[w.heap.size]? = some (.cells #[.int .i64 0, .slice none 0 0, .slice none 0 0] 25) := heap_alloc_new _ _
  have hb0 : Bel w (w.alloc (.cells #[.int .i64 0, .slice none 0 0, .slice none 0 0] 25)) := Bel.al _ _
  generalize w.alloc (.cells #[.int .i64 0, .slice none 0 0, .slice none 0 0] 25) = w0 at *
  refine (HU.out w0 hb0).mono ?_
  rintro e w1 ⟨⟨v, a, rfl⟩, hb1⟩
  have hres1 := hb1.heap hres
  have p0 : w1.cell? ⟨w.heap.size, 0, none⟩ = some (.int .i64 0) := by simp [World.cell?, hres1]
  have p1 : w1.cell? ⟨w.heap.size, 1, none⟩ = some (.slice none 0 0) := by simp [World.cell?, hres1]
  have p2 : w1.cell? ⟨w.heap.size, 2, none⟩ = some (.slice none 0 0) := by simp [World.cell?, hres1]
  have r0 : w1.frozen? ⟨w.heap.size, 0, none⟩ = false := by simp [World.frozen?, hres1]
  have r1 : w1.frozen? ⟨w.heap.size, 1, none⟩ = false := by simp [World.frozen?, hres1]
  have r2 : w1.frozen? ⟨w.heap.size, 2, none⟩ = false := by simp [World.frozen?, hres1]
  have HB1 := Lib.hid (hb0.tr hb1)
  clear hres1 hres hb1 hb0
  go_wp2
  (try simp only [Exit.inBlock, Exit.then])
  refine bodyPost_ret (v := .tuple #[.agg #[.int .i64 0, .slice none 0 0, .slice none 0 0], .bool false]) ?_ rfl ⟨rfl, ?_⟩
  · simp [results, Tryz.results17, go_sem, p0, p1, p2]
  · exact set3_bel HB1.out (Nat.le_refl _)

set_option maxRecDepth 10000 in
set_option maxHeartbeats 4000000 in
theorem ra0_ok (d : Nat) (s : ByteArray) (g : Geo) (w : World) (hs : Small d g)
    (hU : ∀ wx, Bel w wx → Calls Tryz.prog 36 #[.string s] wx fun e w' => (∃ v, e = .returned (.tuple #[v, .nilIface]) ∧ RdGeo (fun b => wx.heap.size ≤ b) d w' (.iface 61 v) g) ∧ Bel wx w') :
    Calls Tryz.prog 17 #[.int .i64 1, .string s] w fun e w' => (∃ v, e = .returned (.tuple #[v, .bool true]) ∧ ShpAt (d + 2) w' v (toShp d g)) ∧ Bel w w' := by
  have HU := Lib.hid hU
  clear hU
  go_enter Tryz.func17, Tryz.ntmps17
  go_wp2_with fail
  have hres : (w.alloc (.cells #[.int .i64 0, .slice none 0 0, .slice none 0 0] 25)).heap[w.heap.size]? = some (.cells #[.int .i64 0, .slice none 0 0, .slice none 0 0] 25) := heap_alloc_new _ _
  have hb0 : Bel w (w.alloc (.cells #[.int .i64 0, .slice none 0 0, .slice none 0 0] 25)) := Bel.al _ _
  generalize w.alloc (.cells #[.int .i64 0, .slice none 0 0, .slice none 0 0] 25) = w0 at *
  refine (HU.out w0 hb0).mono ?_
  rintro e w1 ⟨⟨v, rfl, hv⟩, hb1⟩
  have hres1 := hb1.heap hres
  have HS := Lib.hid (shapeOf_calls d (.iface 61 v) g w1 (RdGeo.at _ _ _ hv) hs)
  have HRES1 := Lib.hid hres1
  have HB1 := Lib.hid (hb0.tr hb1)
  clear hres1 hres hb1 hb0 hv
  go_wp2_with fail
  refine HS.out.mono ?_
  rintro e w2 ⟨⟨c0, c1, c2, rfl, hy⟩, hb2⟩
  obtain ⟨k0, a5, n5, cap5, a6, n6, cap6, rfl, rfl, rfl⟩ := shp_form hy
  have hres1 := hb2.heap HRES1.out
  have p0 : w2.cell? ⟨w.heap.size, 0, none⟩ = some (.int .i64 0) := by simp [World.cell?, hres1]
  have p1 : w2.cell? ⟨w.heap.size, 1, none⟩ = some (.slice none 0 0) := by simp [World.cell?, hres1]
  have p2 : w2.cell? ⟨w.heap.size, 2, none⟩ = some (.slice none 0 0) := by simp [World.cell?, hres1]
  have r0 : w2.frozen? ⟨w.heap.size, 0, none⟩ = false := by simp [World.frozen?, hres1]
  have r1 : w2.frozen? ⟨w.heap.size, 1, none⟩ = false := by simp [World.frozen?, hres1]
  have r2 : w2.frozen? ⟨w.heap.size, 2, none⟩ = false := by simp [World.frozen?, hres1]
  have HB2 := Lib.hid (HB1.out.tr hb2)
  have HY := Lib.hid hy
  have HRES2 := Lib.hid hres1
  have hlt1 := lt_heap HRES1.out
  clear hres1 hb2 hy
  go_wp2
  (try simp only [Exit.inBlock, Exit.then])
  refine bodyPost_ret (v := .tuple #[.agg #[.int .i64 k0, .slice a5 n5 cap5, .slice a6 n6 cap6], .bool true]) ?_ rfl ⟨⟨_, rfl, ?_⟩, ?_⟩
  · simp [results, Tryz.results17, go_sem, p0, p1, p2]
  · exact RdShp.at _ _ _ (RdShp.keep (set3_skept HRES2.out (fun k h => by omega)) _ _ _ HY.out)
  · exact set3_bel HB2.out (Nat.le_refl _)

set_option maxRecDepth 10000 in
set_option maxHeartbeats 4000000 in
theorem ra1_err (s : ByteArray) (w : World)
    (hU : ∀ wx, Bel w wx → Calls Tryz.prog 37 #[.string s] wx fun e w' => (∃ v a, e = .returned (.tuple #[v, errV a])) ∧ Bel wx w') :
    Calls Tryz.prog 17 #[.int .i64 2, .string s] w fun e w' => e = .returned (.tuple #[.agg #[.int .i64 0, .slice none 0 0, .slice none 0 0], .bool false]) ∧ Bel w w' := by
  have HU := Lib.hid hU
  clear hU
  go_enter Tryz.func17, Tryz.ntmps17
  go_wp2_with fail
  have hres : (w.alloc (.cells #[.int .i64 0, .slice none 0 0, .slice none 0 0] 25)).heap[w.heap.size]? = some (.cells #[.int .i64 0, .slice none 0 0, .slice none 0 0] 25) := heap_alloc_new _ _
  have hb0 : Bel w (w.alloc (.cells #[.int .i64 0, .slice none 0 0, .slice none 0 0] 25)) := Bel.al _ _
  generalize w.alloc (.cells #[.int .i64 0, .slice none 0 0, .slice none 0 0] 25) = w0 at *
  refine (HU.out w0 hb0).mono ?_
  rintro e w1 ⟨⟨v, a, rfl⟩, hb1⟩
  have hres1 := hb1.heap hres
  have p0 : w1.cell? ⟨w.heap.size, 0, none⟩ = some (.int .i64 0) := by simp [World.cell?, hres1]
  have p1 : w1.cell? ⟨w.heap.size, 1, none⟩ = some (.slice none 0 0) := by simp [World.cell?, hres1]
  have p2 : w1.cell? ⟨w.heap.size, 2, none⟩ = some (.slice none 0 0) := by simp [World.cell?, hres1]
  have r0 : w1.frozen? ⟨w.heap.size, 0, none⟩ = false := by simp [World.frozen?, hres1]
  have r1 : w1.frozen? ⟨w.heap.size, 1, none⟩ = false := by simp [World.frozen?, hres1]
  have r2 : w1.frozen? ⟨w.heap.size, 2, none⟩ = false := by simp [World.frozen?, hres1]
  have HB1 := Lib.hid (hb0.tr hb1)
  clear hres1 hres hb1 hb0
  go_wp2
  (try simp only [Exit.inBlock, Exit.then])
  refine bodyPost_ret (v := .tuple #[.agg #[.int .i64 0, .slice none 0 0, .slice none 0 0], .bool false]) ?_ rfl ⟨rfl, ?_⟩
  · simp [results, Tryz.results17, go_sem, p0, p1, p2]
  · exact set3_bel HB1.out (Nat.le_refl _)

set_option maxRecDepth 10000 in
set_option maxHeartbeats 4000000 in
theorem ra1_ok (d : Nat) (s : ByteArray) (g : Geo) (w : World) (hs : Small d g)
    (hU : ∀ wx, Bel w wx → Calls Tryz.prog 37 #[.string s] wx fun e w' => (∃ v, e = .returned (.tuple #[v, .nilIface]) ∧ RdGeo (fun b => wx.heap.size ≤ b) d w' (.iface 65 v) g) ∧ Bel wx w') :
    Calls Tryz.prog 17 #[.int .i64 2, .string s] w fun e w' => (∃ v, e = .returned (.tuple #[v, .bool true]) ∧ ShpAt (d + 2) w' v (toShp d g)) ∧ Bel w w' := by
  have HU := Lib.hid hU
  clear hU
  go_enter Tryz.func17, Tryz.ntmps17
  go_wp2_with fail
  have hres : (w.alloc (.cells #[.int .i64 0, .slice none 0 0, .slice none 0 0] 25)).heap[w.heap.size]? = some (.cells #[.int .i64 0, .slice none 0 0, .slice none 0 0] 25) := heap_alloc_new _ _
  have hb0 : Bel w (w.alloc (.cells #[.int .i64 0, .slice none 0 0, .slice none 0 0] 25)) := Bel.al _ _
  generalize w.alloc (.cells #[.int .i64 0, .slice none 0 0, .slice none 0 0] 25) = w0 at *
  refine (HU.out w0 hb0).mono ?_
  rintro e w1 ⟨⟨v, rfl, hv⟩, hb1⟩
  have hres1 := hb1.heap hres
  have HS := Lib.hid (shapeOf_calls d (.iface 65 v) g w1 (RdGeo.at _ _ _ hv) hs)
  have HRES1 := Lib.hid hres1
  have HB1 := Lib.hid (hb0.tr hb1)
  clear hres1 hres hb1 hb0 hv
  go_wp2_with fail
  refine HS.out.mono ?_
  rintro e w2 ⟨⟨c0, c1, c2, rfl, hy⟩, hb2⟩
  obtain ⟨k0, a5, n5, cap5, a6, n6, cap6, rfl, rfl, rfl⟩ := shp_form hy
  have hres1 := hb2.heap HRES1.out
  have p0 : w2.cell? ⟨w.heap.size, 0, none⟩ = some (.int .i64 0) := by simp [World.cell?, hres1]
  have p1 : w2.cell? ⟨w.heap.size, 1, none⟩ = some (.slice none 0 0) := by simp [World.cell?, hres1]
  have p2 : w2.cell? ⟨w.heap.size, 2, none⟩ = some (.slice none 0 0) := by simp [World.cell?, hres1]
  have r0 : w2.frozen? ⟨w.heap.size, 0, none⟩ = false := by simp [World.frozen?, hres1]
  have r1 : w2.frozen? ⟨w.heap.size, 1, none⟩ = false := by simp [World.frozen?, hres1]
  have r2 : w2.frozen? ⟨w.heap.size, 2, none⟩ = false := by simp [World.frozen?, hres1]
  have HB2 := Lib.hid (HB1.out.tr hb2)
  have HY := Lib.hid hy
  have HRES2 := Lib.hid hres1
  have hlt1 := lt_heap HRES1.out
  clear hres1 hb2 hy
  go_wp2
  (try simp only [Exit.inBlock, Exit.then])
  refine bodyPost_ret (v := .tuple #[.agg #[.int .i64 k0, .slice a5 n5 cap5, .slice a6 n6 cap6], .bool true]) ?_ rfl ⟨⟨_, rfl, ?_⟩, ?_⟩
  · simp [results, Tryz.results17, go_sem, p0, p1, p2]
  · exact RdShp.at _ _ _ (RdShp.keep (set3_skept HRES2.out (fun k h => by omega)) _ _ _ HY.out)
  · exact set3_bel HB2.out (Nat.le_refl _)

set_option maxRecDepth 10000 in
set_option maxHeartbeats 4000000 in
theorem ra2_err (s : ByteArray) (w : World)
    (hU : ∀ wx, Bel w wx → Calls Tryz.prog 38 #[.string s] wx fun e w' => (∃ v a, e = .returned (.tuple #[v, errV a])) ∧ Bel wx w') :
    Calls Tryz.prog 17 #[.int .i64 3, .string s] w fun e w' => e = .returned (.tuple #[.agg #[.int .i64 0, .slice none 0 0, .slice none 0 0], .bool false]) ∧ Bel w w' := by
  have HU := Lib.hid hU
  clear hU
  go_enter Tryz.func17, Tryz.ntmps17
  go_wp2_with fail
  have hres : (w.alloc (.cells #[.int .i64 0, .slice none 0 0, .slice none 0 0] 25)).heap[w.heap.size]? = some (.cells #[.int .i64 0, .slice none 0 0, .slice none 0 0] 25) := heap_alloc_new _ _
  have hb0 : Bel w (w.alloc (.cells #[.int .i64 0, .slice none 0 0, .slice none 0 0] 25)) := Bel.al _ _
  generalize w.alloc (.cells #[.int .i64 0, .slice none 0 0, .slice none 0 0] 25) = w0 at *
  refine (HU.out w0 hb0).mono ?_
  rintro e w1 ⟨⟨v, a, rfl⟩, hb1⟩
  have hres1 := hb1.heap hres
  have p0 : w1.cell? ⟨w.heap.size, 0, none⟩ = some (.int .i64 0) := by simp [World.cell?, hres1]
  have p1 : w1.cell? ⟨w.heap.size, 1, none⟩ = some (.slice none 0 0) := by simp [World.cell?, hres1]
  have p2 : w1.cell? ⟨w.heap.size, 2, none⟩ = some (.slice none 0 0) := by simp [World.cell?, hres1]
  have r0 : w1.frozen? ⟨w.heap.size, 0, none⟩ = false := by simp [World.frozen?, hres1]
  have r1 : w1.frozen? ⟨w.heap.size, 1, none⟩ = false := by simp [World.frozen?, hres1]
  have r2 : w1.frozen? ⟨w.heap.size, 2, none⟩ = false := by simp [World.frozen?, hres1]
  have HB1 := Lib.hid (hb0.tr hb1)
  clear hres1 hres hb1 hb0
  go_wp2
  (try simp only [Exit.inBlock, Exit.then])
  refine bodyPost_ret (v := .tuple #[.agg #[.int .i64 0, .slice none 0 0, .slice none 0 0], .bool false]) ?_ rfl ⟨rfl, ?_⟩
  · simp [results, Tryz.results17, go_sem, p0, p1, p2]
  · exact set3_bel HB1.out (Nat.le_refl _)

set_option maxRecDepth 10000 in
set_option maxHeartbeats 4000000 in
theorem ra2_ok (d : Nat) (s : ByteArray) (g : Geo) (w : World) (hs : Small d g)
    (hU : ∀ wx, Bel w wx → Calls Tryz.prog 38 #[.string s] wx fun e w' => (∃ v, e = .returned (.tuple #[v, .nilIface]) ∧ RdGeo (fun b => wx.heap.size ≤ b) d w' (.iface 69 v) g) ∧ Bel wx w') :
    Calls Tryz.prog 17 #[.int .i64 3, .string s] w fun e w' => (∃ v, e = .returned (.tuple #[v, .bool true]) ∧ ShpAt (d + 2) w' v (toShp d g)) ∧ Bel w w' := by
  have HU := Lib.hid hU
  clear hU
  go_enter Tryz.func17, Tryz.ntmps17
  go_wp2_with fail
  have hres : (w.alloc (.cells #[.int .i64 0, .slice none 0 0, .slice none 0 0] 25)).heap[w.heap.size]? = some (.cells #[.int .i64 0, .slice none 0 0, .slice none 0 0] 25) := heap_alloc_new _ _
  have hb0 : Bel w (w.alloc (.cells #[.int .i64 0, .slice none 0 0, .slice none 0 0] 25)) := Bel.al _ _
  generalize w.alloc (.cells #[.int .i64 0, .slice none 0 0, .slice none 0 0] 25) = w0 at *
  refine (HU.out w0 hb0).mono ?_
  rintro e w1 ⟨⟨v, rfl, hv⟩, hb1⟩
  have hres1 := hb1.heap hres
  have HS := Lib.hid (shapeOf_calls d (.iface 69 v) g w1 (RdGeo.at _ _ _ hv) hs)
  have HRES1 := Lib.hid hres1
  have HB1 := Lib.hid (hb0.tr hb1)
  clear hres1 hres hb1 hb0 hv
  go_wp2_with fail
  refine HS.out.mono ?_
  rintro e w2 ⟨⟨c0, c1, c2, rfl, hy⟩, hb2⟩
  obtain ⟨k0, a5, n5, cap5, a6, n6, cap6, rfl, rfl, rfl⟩ := shp_form hy
  have hres1 := hb2.heap HRES1.out
  have p0 : w2.cell? ⟨w.heap.size, 0, none⟩ = some (.int .i64 0) := by simp [World.cell?, hres1]
  have p1 : w2.cell? ⟨w.heap.size, 1, none⟩ = some (.slice none 0 0) := by simp [World.cell?, hres1]
  have p2 : w2.cell? ⟨w.heap.size, 2, none⟩ = some (.slice none 0 0) := by simp [World.cell?, hres1]
  have r0 : w2.frozen? ⟨w.heap.size, 0, none⟩ = false := by simp [World.frozen?, hres1]
  have r1 : w2.frozen? ⟨w.heap.size, 1, none⟩ = false := by simp [World.frozen?, hres1]
  have r2 : w2.frozen? ⟨w.heap.size, 2, none⟩ = false := by simp [World.frozen?, hres1]
  have HB2 := Lib.hid (HB1.out.tr hb2)
  have HY := Lib.hid hy
  have HRES2 := Lib.hid hres1
  have hlt1 := lt_heap HRES1.out
  clear hres1 hb2 hy
  go_wp2
  (try simp only [Exit.inBlock, Exit.then])
  refine bodyPost_ret (v := .tuple #[.agg #[.int .i64 k0, .slice a5 n5 cap5, .slice a6 n6 cap6], .bool true]) ?_ rfl ⟨⟨_, rfl, ?_⟩, ?_⟩
  · simp [results, Tryz.results17, go_sem, p0, p1, p2]
  · exact RdShp.at _ _ _ (RdShp.keep (set3_skept HRES2.out (fun k h => by omega)) _ _ _ HY.out)
  · exact set3_bel HB2.out (Nat.le_refl _)

set_option maxRecDepth 10000 in
set_option maxHeartbeats 4000000 in
theorem ra3_err (s : ByteArray) (w : World)
    (hU : ∀ wx, Bel w wx → Calls Tryz.prog 39 #[.string s] wx fun e w' => (∃ v a, e = .returned (.tuple #[v, errV a])) ∧ Bel wx w') :
    Calls Tryz.prog 17 #[.int .i64 4, .string s] w fun e w' => e = .returned (.tuple #[.agg #[.int .i64 0, .slice none 0 0, .slice none 0 0], .bool false]) ∧ Bel w w' := by
  have HU := Lib.hid hU
  clear hU
  go_enter Tryz.func17, Tryz.ntmps17
  go_wp2_with fail
  have hres : (w.alloc (.cells #[.int .i64 0, .slice none 0 0, .slice none 0 0] 25)).heap[w.heap.size]? = some (.cells #[.int .i64 0, .slice none 0 0, .slice none 0 0] 25) := heap_alloc_new _ _
  have hb0 : Bel w (w.alloc (.cells #[.int .i64 0, .slice none 0 0, .slice none 0 0] 25)) := Bel.al _ _
  generalize w.alloc (.cells #[.int .i64 0, .slice none 0 0, .slice none 0 0] 25) = w0 at *
  refine (HU.out w0 hb0).mono ?_
  rintro e w1 ⟨⟨v, a, rfl⟩, hb1⟩
  have hres1 := hb1.heap hres
  have p0 : w1.cell? ⟨w.heap.size, 0, none⟩ = some (.int .i64 0) := by simp [World.cell?, hres1]
  have p1 : w1.cell? ⟨w.heap.size, 1, none⟩ = some (.slice none 0 0) := by simp [World.cell?, hres1]
  have p2 : w1.cell? ⟨w.heap.size, 2, none⟩ = some (.slice none 0 0) := by simp [World.cell?, hres1]
  have r0 : w1.frozen? ⟨w.heap.size, 0, none⟩ = false := by simp [World.frozen?, hres1]
  have r1 : w1.frozen? ⟨w.heap.size, 1, none⟩ = false := by simp [World.frozen?, hres1]
  have r2 : w1.frozen? ⟨w.heap.size, 2, none⟩ = false := by simp [World.frozen?, hres1]
  have HB1 := Lib.hid (hb0.tr hb1)
  clear hres1 hres hb1 hb0
  go_wp2
  (try simp only [Exit.inBlock, Exit.then])
  refine bodyPost_ret (v := .tuple #[.agg #[.int .i64 0, .slice none 0 0, .slice none 0 0], .bool false]) ?_ rfl ⟨rfl, ?_⟩
  · simp [results, Tryz.results17, go_sem, p0, p1, p2]
  · exact set3_bel HB1.out (Nat.le_refl _)

set_option maxRecDepth 10000 in
set_option maxHeartbeats 4000000 in
theorem ra3_ok (d : Nat) (s : ByteArray) (g : Geo) (w : World) (hs : Small d g)
    (hU : ∀ wx, Bel w wx → Calls Tryz.prog 39 #[.string s] wx fun e w' => (∃ v, e = .returned (.tuple #[v, .nilIface]) ∧ RdGeo (fun b => wx.heap.size ≤ b) d w' (.iface 72 v) g) ∧ Bel wx w') :
    Calls Tryz.prog 17 #[.int .i64 4, .string s] w fun e w' => (∃ v, e = .returned (.tuple #[v, .bool true]) ∧ ShpAt (d + 2) w' v (toShp d g)) ∧ Bel w w' := by
  have HU := Lib.hid hU
  clear hU
  go_enter Tryz.func17, Tryz.ntmps17
  go_wp2_with fail
  have hres : (w.alloc (.cells #[.int .i64 0, .slice none 0 0, .slice none 0 0] 25)).heap[w.heap.size]? = some (.cells #[.int .i64 0, .slice none 0 0, .slice none 0 0] 25) := heap_alloc_new _ _
  have hb0 : Bel w (w.alloc (.cells #[.int .i64 0, .slice none 0 0, .slice none 0 0] 25)) := Bel.al _ _
  generalize w.alloc (.cells #[.int .i64 0, .slice none 0 0, .slice none 0 0] 25) = w0 at *
  refine (HU.out w0 hb0).mono ?_
  rintro e w1 ⟨⟨v, rfl, hv⟩, hb1⟩
  have hres1 := hb1.heap hres
  have HS := Lib.hid (shapeOf_calls d (.iface 72 v) g w1 (RdGeo.at _ _ _ hv) hs)
  have HRES1 := Lib.hid hres1
  have HB1 := Lib.hid (hb0.tr hb1)
  clear hres1 hres hb1 hb0 hv
  go_wp2_with fail
  refine HS.out.mono ?_
  rintro e w2 ⟨⟨c0, c1, c2, rfl, hy⟩, hb2⟩
  obtain ⟨k0, a5, n5, cap5, a6, n6, cap6, rfl, rfl, rfl⟩ := shp_form hy
  have hres1 := hb2.heap HRES1.out
  have p0 : w2.cell? ⟨w.heap.size, 0, none⟩ = some (.int .i64 0) := by simp [World.cell?, hres1]
  have p1 : w2.cell? ⟨w.heap.size, 1, none⟩ = some (.slice none 0 0) := by simp [World.cell?, hres1]
  have p2 : w2.cell? ⟨w.heap.size, 2, none⟩ = some (.slice none 0 0) := by simp [World.cell?, hres1]
  have r0 : w2.frozen? ⟨w.heap.size, 0, none⟩ = false := by simp [World.frozen?, hres1]
  have r1 : w2.frozen? ⟨w.heap.size, 1, none⟩ = false := by simp [World.frozen?, hres1]
  have r2 : w2.frozen? ⟨w.heap.size, 2, none⟩ = false := by simp [World.frozen?, hres1]
  have HB2 := Lib.hid (HB1.out.tr hb2)
  have HY := Lib.hid hy
  have HRES2 := Lib.hid hres1
  have hlt1 := lt_heap HRES1.out
  clear hres1 hb2 hy
  go_wp2
  (try simp only [Exit.inBlock, Exit.then])
  refine bodyPost_ret (v := .tuple #[.agg #[.int .i64 k0, .slice a5 n5 cap5, .slice a6 n6 cap6], .bool true]) ?_ rfl ⟨⟨_, rfl, ?_⟩, ?_⟩
  · simp [results, Tryz.results17, go_sem, p0, p1, p2]
  · exact RdShp.at _ _ _ (RdShp.keep (set3_skept HRES2.out (fun k h => by omega)) _ _ _ HY.out)
  · exact set3_bel HB2.out (Nat.le_refl _)

set_option maxRecDepth 10000 in
set_option maxHeartbeats 4000000 in
theorem ra4_err (s : ByteArray) (w : World)
    (hU : ∀ wx, Bel w wx → Calls Tryz.prog 40 #[.string s] wx fun e w' => (∃ v a, e = .returned (.tuple #[v, errV a])) ∧ Bel wx w') :
    Calls Tryz.prog 17 #[.int .i64 5, .string s] w fun e w' => e = .returned (.tuple #[.agg #[.int .i64 0, .slice none 0 0, .slice none 0 0], .bool false]) ∧ Bel w w' := by
  have HU := Lib.hid hU
  clear hU
  go_enter Tryz.func17, Tryz.ntmps17
  go_wp2_with fail
  have hres : (w.alloc (.cells #[.int .i64 0, .slice none 0 0, .slice none 0 0] 25)).heap[w.heap.size]? = some (.cells #[.int .i64 0, .slice none 0 0, .slice none 0 0] 25) := heap_alloc_new _ _
  have hb0 : Bel w (w.alloc (.cells #[.int .i64 0, .slice none 0 0, .slice none 0 0] 25)) := Bel.al _ _
  generalize w.alloc (.cells #[.int .i64 0, .slice none 0 0, .slice none 0 0] 25) = w0 at *
  refine (HU.out w0 hb0).mono ?_
  rintro e w1 ⟨⟨v, a, rfl⟩, hb1⟩
  have hres1 := hb1.heap hres
  have p0 : w1.cell? ⟨w.heap.size, 0, none⟩ = some (.int .i64 0) := by simp [World.cell?, hres1]
  have p1 : w1.cell? ⟨w.heap.size, 1, none⟩ = some (.slice none 0 0) := by simp [World.cell?, hres1]
  have p2 : w1.cell? ⟨w.heap.size, 2, none⟩ = some (.slice none 0 0) := by simp [World.cell?, hres1]
  have r0 : w1.frozen? ⟨w.heap.size, 0, none⟩ = false := by simp [World.frozen?, hres1]
  have r1 : w1.frozen? ⟨w.heap.size, 1, none⟩ = false := by simp [World.frozen?, hres1]
  have r2 : w1.frozen? ⟨w.heap.size, 2, none⟩ = false := by simp [World.frozen?, hres1]
  have HB1 := Lib.hid (hb0.tr hb1)
  clear hres1 hres hb1 hb0
  go_wp2
  (try simp only [Exit.inBlock, Exit.then])
  refine bodyPost_ret (v := .tuple #[.agg #[.int .i64 0, .slice none 0 0, .slice none 0 0], .bool false]) ?_ rfl ⟨rfl, ?_⟩
  · simp [results, Tryz.results17, go_sem, p0, p1, p2]
  · exact set3_bel HB1.out (Nat.le_refl _)

set_option maxRecDepth 10000 in
set_option maxHeartbeats 4000000 in
theorem ra4_ok (d : Nat) (s : ByteArray) (g : Geo) (w : World) (hs : Small d g)
    (hU : ∀ wx, Bel w wx → Calls Tryz.prog 40 #[.string s] wx fun e w' => (∃ v, e = .returned (.tuple #[v, .nilIface]) ∧ RdGeo (fun b => wx.heap.size ≤ b) d w' (.iface 76 v) g) ∧ Bel wx w') :
    Calls Tryz.prog 17 #[.int .i64 5, .string s] w fun e w' => (∃ v, e = .returned (.tuple #[v, .bool true]) ∧ ShpAt (d + 2) w' v (toShp d g)) ∧ Bel w w' := by
  have HU := Lib.hid hU
  clear hU
  go_enter Tryz.func17, Tryz.ntmps17
  go_wp2_with fail
  have hres : (w.alloc (.cells #[.int .i64 0, .slice none 0 0, .slice none 0 0] 25)).heap[w.heap.size]? = some (.cells #[.int .i64 0, .slice none 0 0, .slice none 0 0] 25) := heap_alloc_new _ _
  have hb0 : Bel w (w.alloc (.cells #[.int .i64 0, .slice none 0 0, .slice none 0 0] 25)) := Bel.al _ _
  generalize w.alloc (.cells #[.int .i64 0, .slice none 0 0, .slice none 0 0] 25) = w0 at *
  refine (HU.out w0 hb0).mono ?_
  rintro e w1 ⟨⟨v, rfl, hv⟩, hb1⟩
  have hres1 := hb1.heap hres
  have HS := Lib.hid (shapeOf_calls d (.iface 76 v) g w1 (RdGeo.at _ _ _ hv) hs)
  have HRES1 := Lib.hid hres1
  have HB1 := Lib.hid (hb0.tr hb1)
  clear hres1 hres hb1 hb0 hv
  go_wp2_with fail
  refine HS.out.mono ?_
  rintro e w2 ⟨⟨c0, c1, c2, rfl, hy⟩, hb2⟩
  obtain ⟨k0, a5, n5, cap5, a6, n6, cap6, rfl, rfl, rfl⟩ := shp_form hy
  have hres1 := hb2.heap HRES1.out
  have p0 : w2.cell? ⟨w.heap.size, 0, none⟩ = some (.int .i64 0) := by simp [World.cell?, hres1]
  have p1 : w2.cell? ⟨w.heap.size, 1, none⟩ = some (.slice none 0 0) := by simp [World.cell?, hres1]
  have p2 : w2.cell? ⟨w.heap.size, 2, none⟩ = some (.slice none 0 0) := by simp [World.cell?, hres1]
  have r0 : w2.frozen? ⟨w.heap.size, 0, none⟩ = false := by simp [World.frozen?, hres1]
  have r1 : w2.frozen? ⟨w.heap.size, 1, none⟩ = false := by simp [World.frozen?, hres1]
  have r2 : w2.frozen? ⟨w.heap.size, 2, none⟩ = false := by simp [World.frozen?, hres1]
  have HB2 := Lib.hid (HB1.out.tr hb2)
  have HY := Lib.hid hy
  have HRES2 := Lib.hid hres1
  have hlt1 := lt_heap HRES1.out
  clear hres1 hb2 hy
  go_wp2
  (try simp only [Exit.inBlock, Exit.then])
  refine bodyPost_ret (v := .tuple #[.agg #[.int .i64 k0, .slice a5 n5 cap5, .slice a6 n6 cap6], .bool true]) ?_ rfl ⟨⟨_, rfl, ?_⟩, ?_⟩
  · simp [results, Tryz.results17, go_sem, p0, p1, p2]
  · exact RdShp.at _ _ _ (RdShp.keep (set3_skept HRES2.out (fun k h => by omega)) _ _ _ HY.out)
  · exact set3_bel HB2.out (Nat.le_refl _)

set_option maxRecDepth 10000 in
set_option maxHeartbeats 4000000 in
theorem ra5_err (s : ByteArray) (w : World)
    (hU : ∀ wx, Bel w wx → Calls Tryz.prog 41 #[.string s] wx fun e w' => (∃ v a, e = .returned (.tuple #[v, errV a])) ∧ Bel wx w') :
    Calls Tryz.prog 17 #[.int .i64 6, .string s] w fun e w' => e = .returned (.tuple #[.agg #[.int .i64 0, .slice none 0 0, .slice none 0 0], .bool false]) ∧ Bel w w' := by
  have HU := Lib.hid hU
  clear hU
  go_enter Tryz.func17, Tryz.ntmps17
  go_wp2_with fail
  have hres : (w.alloc (.cells #[.int .i64 0, .slice none 0 0, .slice none 0 0] 25)).heap[w.heap.size]? = some (.cells #[.int .i64 0, .slice none 0 0, .slice none 0 0] 25) := heap_alloc_new _ _
  have hb0 : Bel w (w.alloc (.cells #[.int .i64 0, .slice none 0 0, .slice none 0 0] 25)) := Bel.al _ _
  generalize w.alloc (.cells #[.int .i64 0, .slice none 0 0, .slice none 0 0] 25) = w0 at *
  refine (HU.out w0 hb0).mono ?_
  rintro e w1 ⟨⟨v, a, rfl⟩, hb1⟩
  have hres1 := hb1.heap hres
  have p0 : w1.cell? ⟨w.heap.size, 0, none⟩ = some (.int .i64 0) := by simp [World.cell?, hres1]
  have p1 : w1.cell? ⟨w.heap.size, 1, none⟩ = some (.slice none 0 0) := by simp [World.cell?, hres1]
  have p2 : w1.cell? ⟨w.heap.size, 2, none⟩ = some (.slice none 0 0) := by simp [World.cell?, hres1]
  have r0 : w1.frozen? ⟨w.heap.size, 0, none⟩ = false := by simp [World.frozen?, hres1]
  have r1 : w1.frozen? ⟨w.heap.size, 1, none⟩ = false := by simp [World.frozen?, hres1]
  have r2 : w1.frozen? ⟨w.heap.size, 2, none⟩ = false := by simp [World.frozen?, hres1]
  have HB1 := Lib.hid (hb0.tr hb1)
  clear hres1 hres hb1 hb0
  go_wp2
  (try simp only [Exit.inBlock, Exit.then])
  refine bodyPost_ret (v := .tuple #[.agg #[.int .i64 0, .slice none 0 0, .slice none 0 0], .bool false]) ?_ rfl ⟨rfl, ?_⟩
  · simp [results, Tryz.results17, go_sem, p0, p1, p2]
  · exact set3_bel HB1.out (Nat.le_refl _)

set_option maxRecDepth 10000 in
set_option maxHeartbeats 4000000 in
theorem ra5_ok (d : Nat) (s : ByteArray) (g : Geo) (w : World) (hs : Small d g)
    (hU : ∀ wx, Bel w wx → Calls Tryz.prog 41 #[.string s] wx fun e w' => (∃ v, e = .returned (.tuple #[v, .nilIface]) ∧ RdGeo (fun b => wx.heap.size ≤ b) d w' (.iface 80 v) g) ∧ Bel wx w') :
    Calls Tryz.prog 17 #[.int .i64 6, .string s] w fun e w' => (∃ v, e = .returned (.tuple #[v, .bool true]) ∧ ShpAt (d + 2) w' v (toShp d g)) ∧ Bel w w' := by
  have HU := Lib.hid hU
  clear hU
  go_enter Tryz.func17, Tryz.ntmps17
  go_wp2_with fail
  have hres : (w.alloc (.cells #[.int .i64 0, .slice none 0 0, .slice none 0 0] 25)).heap[w.heap.size]? = some (.cells #[.int .i64 0, .slice none 0 0, .slice none 0 0] 25) := heap_alloc_new _ _
  have hb0 : Bel w (w.alloc (.cells #[.int .i64 0, .slice none 0 0, .slice none 0 0] 25)) := Bel.al _ _
  generalize w.alloc (.cells #[.int .i64 0, .slice none 0 0, .slice none 0 0] 25) = w0 at *
  refine (HU.out w0 hb0).mono ?_
  rintro e w1 ⟨⟨v, rfl, hv⟩, hb1⟩
  have hres1 := hb1.heap hres
  have HS := Lib.hid (shapeOf_calls d (.iface 80 v) g w1 (RdGeo.at _ _ _ hv) hs)
  have HRES1 := Lib.hid hres1
  have HB1 := Lib.hid (hb0.tr hb1)
  clear hres1 hres hb1 hb0 hv
  go_wp2_with fail
  refine HS.out.mono ?_
  rintro e w2 ⟨⟨c0, c1, c2, rfl, hy⟩, hb2⟩
  obtain ⟨k0, a5, n5, cap5, a6, n6, cap6, rfl, rfl, rfl⟩ := shp_form hy
  have hres1 := hb2.heap HRES1.out
  have p0 : w2.cell? ⟨w.heap.size, 0, none⟩ = some (.int .i64 0) := by simp [World.cell?, hres1]
  have p1 : w2.cell? ⟨w.heap.size, 1, none⟩ = some (.slice none 0 0) := by simp [World.cell?, hres1]
  have p2 : w2.cell? ⟨w.heap.size, 2, none⟩ = some (.slice none 0 0) := by simp [World.cell?, hres1]
  have r0 : w2.frozen? ⟨w.heap.size, 0, none⟩ = false := by simp [World.frozen?, hres1]
  have r1 : w2.frozen? ⟨w.heap.size, 1, none⟩ = false := by simp [World.frozen?, hres1]
  have r2 : w2.frozen? ⟨w.heap.size, 2, none⟩ = false := by simp [World.frozen?, hres1]
  have HB2 := Lib.hid (HB1.out.tr hb2)
  have HY := Lib.hid hy
  have HRES2 := Lib.hid hres1
  have hlt1 := lt_heap HRES1.out
  clear hres1 hb2 hy
  go_wp2
  (try simp only [Exit.inBlock, Exit.then])
  refine bodyPost_ret (v := .tuple #[.agg #[.int .i64 k0, .slice a5 n5 cap5, .slice a6 n6 cap6], .bool true]) ?_ rfl ⟨⟨_, rfl, ?_⟩, ?_⟩
  · simp [results, Tryz.results17, go_sem, p0, p1, p2]
  · exact RdShp.at _ _ _ (RdShp.keep (set3_skept HRES2.out (fun k h => by omega)) _ _ _ HY.out)
  · exact set3_bel HB2.out (Nat.le_refl _)

set_option maxRecDepth 10000 in
set_option maxHeartbeats 4000000 in
theorem ra6_err (s : ByteArray) (w : World)
    (hU : ∀ wx, Bel w wx → Calls Tryz.prog 42 #[.string s] wx fun e w' => (∃ v a, e = .returned (.tuple #[v, errV a])) ∧ Bel wx w') :
    Calls Tryz.prog 17 #[.int .i64 7, .string s] w fun e w' => e = .returned (.tuple #[.agg #[.int .i64 0, .slice none 0 0, .slice none 0 0], .bool false]) ∧ Bel w w' := by
  have HU := Lib.hid hU
  clear hU
  go_enter Tryz.func17, Tryz.ntmps17
  go_wp2_with fail
  have hres : (w.alloc (.cells #[.int .i64 0, .slice none 0 0, .slice none 0 0] 25)).heap[w.heap.size]? = some (.cells #[.int .i64 0, .slice none 0 0, .slice none 0 0] 25) := heap_alloc_new _ _
  have hb0 : Bel w (w.alloc (.cells #[.int .i64 0, .slice none 0 0, .slice none 0 0] 25)) := Bel.al _ _
  generalize w.alloc (.cells #[.int .i64 0, .slice none 0 0, .slice none 0 0] 25) = w0 at *
  refine (HU.out w0 hb0).mono ?_
  rintro e w1 ⟨⟨v, a, rfl⟩, hb1⟩
  have hres1 := hb1.heap hres
  have p0 : w1.cell? ⟨w.heap.size, 0, none⟩ = some (.int .i64 0) := by simp [World.cell?, hres1]
  have p1 : w1.cell? ⟨w.heap.size, 1, none⟩ = some (.slice none 0 0) := by simp [World.cell?, hres1]
  have p2 : w1.cell? ⟨w.heap.size, 2, none⟩ = some (.slice none 0 0) := by simp [World.cell?, hres1]
  have r0 : w1.frozen? ⟨w.heap.size, 0, none⟩ = false := by simp [World.frozen?, hres1]
  have r1 : w1.frozen? ⟨w.heap.size, 1, none⟩ = false := by simp [World.frozen?, hres1]
  have r2 : w1.frozen? ⟨w.heap.size, 2, none⟩ = false := by simp [World.frozen?, hres1]
  have HB1 := Lib.hid (hb0.tr hb1)
  clear hres1 hres hb1 hb0
  go_wp2
  (try simp only [Exit.inBlock, Exit.then])
  refine bodyPost_ret (v := .tuple #[.agg #[.int .i64 0, .slice none 0 0, .slice none 0 0], .bool false]) ?_ rfl ⟨rfl, ?_⟩
  · simp [results, Tryz.results17, go_sem, p0, p1, p2]
  · exact set3_bel HB1.out (Nat.le_refl _)

set_option maxRecDepth 10000 in
set_option maxHeartbeats 4000000 in
theorem ra6_ok (d : Nat) (s : ByteArray) (g : Geo) (w : World) (hs : Small d g)
    (hU : ∀ wx, Bel w wx → Calls Tryz.prog 42 #[.string s] wx fun e w' => (∃ v, e = .returned (.tuple #[v, .nilIface]) ∧ RdGeo (fun b => wx.heap.size ≤ b) d w' (.iface 84 v) g) ∧ Bel wx w') :
    Calls Tryz.prog 17 #[.int .i64 7, .string s] w fun e w' => (∃ v, e = .returned (.tuple #[v, .bool true]) ∧ ShpAt (d + 2) w' v (toShp d g)) ∧ Bel w w' := by
  have HU := Lib.hid hU
  clear hU
  go_enter Tryz.func17, Tryz.ntmps17
  go_wp2_with fail
  have hres : (w.alloc (.cells #[.int .i64 0, .slice none 0 0, .slice none 0 0] 25)).heap[w.heap.size]? = some (.cells #[.int .i64 0, .slice none 0 0, .slice none 0 0] 25) := heap_alloc_new _ _
  have hb0 : Bel w (w.alloc (.cells #[.int .i64 0, .slice none 0 0, .slice none 0 0] 25)) := Bel.al _ _
  generalize w.alloc (.cells #[.int .i64 0, .slice none 0 0, .slice none 0 0] 25) = w0 at *
  refine (HU.out w0 hb0).mono ?_
  rintro e w1 ⟨⟨v, rfl, hv⟩, hb1⟩
  have hres1 := hb1.heap hres
  have HS := Lib.hid (shapeOf_calls d (.iface 84 v) g w1 (RdGeo.at _ _ _ hv) hs)
  have HRES1 := Lib.hid hres1
  have HB1 := Lib.hid (hb0.tr hb1)
  clear hres1 hres hb1 hb0 hv
  go_wp2_with fail
  refine HS.out.mono ?_
  rintro e w2 ⟨⟨c0, c1, c2, rfl, hy⟩, hb2⟩
  obtain ⟨k0, a5, n5, cap5, a6, n6, cap6, rfl, rfl, rfl⟩ := shp_form hy
  have hres1 := hb2.heap HRES1.out
  have p0 : w2.cell? ⟨w.heap.size, 0, none⟩ = some (.int .i64 0) := by simp [World.cell?, hres1]
  have p1 : w2.cell? ⟨w.heap.size, 1, none⟩ = some (.slice none 0 0) := by simp [World.cell?, hres1]
  have p2 : w2.cell? ⟨w.heap.size, 2, none⟩ = some (.slice none 0 0) := by simp [World.cell?, hres1]
  have r0 : w2.frozen? ⟨w.heap.size, 0, none⟩ = false := by simp [World.frozen?, hres1]
  have r1 : w2.frozen? ⟨w.heap.size, 1, none⟩ = false := by simp [World.frozen?, hres1]
  have r2 : w2.frozen? ⟨w.heap.size, 2, none⟩ = false := by simp [World.frozen?, hres1]
  have HB2 := Lib.hid (HB1.out.tr hb2)
  have HY := Lib.hid hy
  have HRES2 := Lib.hid hres1
  have hlt1 := lt_heap HRES1.out
  clear hres1 hb2 hy
  go_wp2
  (try simp only [Exit.inBlock, Exit.then])
  refine bodyPost_ret (v := .tuple #[.agg #[.int .i64 k0, .slice a5 n5 cap5, .slice a6 n6 cap6], .bool true]) ?_ rfl ⟨⟨_, rfl, ?_⟩, ?_⟩
  · simp [results, Tryz.results17, go_sem, p0, p1, p2]
  · exact RdShp.at _ _ _ (RdShp.keep (set3_skept HRES2.out (fun k h => by omega)) _ _ _ HY.out)
  · exact set3_bel HB2.out (Nat.le_refl _)
end Go.Proofs.YtghajgdiaopioaaGreatDoor

/- A text is read as a shape of its own kind, and is an error as one of another kind. -/
namespace Go.Proofs.YtghajgdiaopioaaGreatDoor
open Go.RowKit

theorem prefix_take {a x : List UInt8} (h : a.isPrefixOf x = true) (m : Nat) (hm : m ≤ a.length) : a.take m = x.take m := by
  obtain ⟨t, rfl⟩ := List.isPrefixOf_iff_prefix.1 h
  rw [List.take_append_of_le_length hm]
/-- A text that begins with a word does not begin with a word that differs from it. -/
theorem hasW_other {l a b : List UInt8} (m : Nat) (ha : m ≤ a.length) (hb : m ≤ b.length) (h : a.take m ≠ b.take m) (h1 : hasW l a = true) : hasW l b = false := by
  cases h2 : hasW l b with
  | false => rfl
  | true =>
    exfalso
    unfold hasW Lib.hasPrefix at h1 h2
    exact h ((prefix_take h1 m ha).trans (prefix_take h2 m hb).symm)
/-- The number of a geometry's kind. -/
def kindG : Geo → Nat
  | .pt _ => 1
  | .line _ => 2
  | .poly _ => 3
  | .mpt _ => 4
  | .mline _ => 5
  | .mpoly _ => 6
  | .coll _ => 7
theorem toShp_kind (d : Nat) (g : Geo) : ∃ ls ps, toShp (d + 1) g = .mk (kindG g) ls ps := by
  cases g <;> exact ⟨_, _, rfl⟩
/-- The word of the kind. -/
theorem reads_word {G : Errs} {d : Nat} {l0 : List UInt8} {g : Geo} (h : GeoReads G d l0 (some g)) : l0.length ≤ 1000000000 ∧ ∃ l, trimL l0 = l ∧ hasW l (kwOf (kindG g)) = true := by
  have key : ∀ C, GeoStep G C l0 (some g) → ∃ l, trimL l0 = l ∧ hasW l (kwOf (kindG g)) = true := by
    intro C hC
    generalize hr : some g = r at hC
    cases hC with
    | pt l o hl _ h0 _ => obtain ⟨x, _, rfl⟩ := Option.map_eq_some_iff.1 hr.symm; exact ⟨l, hl, h0⟩
    | line l o hl _ _ _ h0 _ => obtain ⟨x, _, rfl⟩ := Option.map_eq_some_iff.1 hr.symm; exact ⟨l, hl, h0⟩
    | poly l o hl _ _ _ _ h0 _ => obtain ⟨x, _, rfl⟩ := Option.map_eq_some_iff.1 hr.symm; exact ⟨l, hl, h0⟩
    | mpt l o hl _ _ _ _ _ h0 _ => obtain ⟨x, _, rfl⟩ := Option.map_eq_some_iff.1 hr.symm; exact ⟨l, hl, h0⟩
    | mline l o hl _ _ _ _ _ _ h0 _ => obtain ⟨x, _, rfl⟩ := Option.map_eq_some_iff.1 hr.symm; exact ⟨l, hl, h0⟩
    | mpoly l o hl _ _ _ _ _ _ _ h0 _ => obtain ⟨x, _, rfl⟩ := Option.map_eq_some_iff.1 hr.symm; exact ⟨l, hl, h0⟩
    | coll l o R _ hl _ _ _ _ _ _ _ _ h0 _ => obtain ⟨x, _, rfl⟩ := Option.map_eq_some_iff.1 hr.symm; exact ⟨l, hl, h0⟩
    | none l => cases hr
  cases d with
  | zero => exact ⟨h.1, key _ h.2⟩
  | succ d => exact ⟨h.1, key _ h.2⟩
theorem words_differ : ∀ i, 1 ≤ i → i ≤ 7 → ∀ j, 1 ≤ j → j ≤ 7 → i ≠ j → ∃ m, m ≤ (kwOf i).length ∧ m ≤ (kwOf j).length ∧ (kwOf i).take m ≠ (kwOf j).take m := by
  have h : ∀ i : Fin 7, ∀ j : Fin 7, i ≠ j → ∃ m : Fin 9, m.val ≤ (kwOf (i.val + 1)).length ∧ m.val ≤ (kwOf (j.val + 1)).length ∧ (kwOf (i.val + 1)).take m.val ≠ (kwOf (j.val + 1)).take m.val := by decide +kernel
  intro i h1 h2 j h3 h4 h5
  obtain ⟨m, k1, k2, k3⟩ := h ⟨i - 1, by omega⟩ ⟨j - 1, by omega⟩ (by intro hc; have := congrArg Fin.val hc; simp at this; omega)
  rw [show i - 1 + 1 = i by omega] at k1 k3
  rw [show j - 1 + 1 = j by omega] at k2 k3
  exact ⟨m.val, k1, k2, k3⟩
theorem kindG_range (g : Geo) : 1 ≤ kindG g ∧ kindG g ≤ 7 := by cases g <;> simp [kindG]
/-- One of another kind is an error. -/
theorem readAs_err (G : Errs) (d : Nat) (l0 : List UInt8) (g : Geo) (aI : Addr) (k : Nat) (w : World) (h1 : 1 ≤ k) (h7 : k ≤ 7) (hne : k ≠ kindG g) (h : GeoReads G d l0 (some g)) (hI : w.cell? ⟨2, 0, none⟩ = some (errV aI)) :
    Calls Tryz.prog 17 #[.int .i64 k, .string (ofL l0)] w fun e w' => e = .returned (.tuple #[.agg #[.int .i64 0, .slice none 0 0, .slice none 0 0], .bool false]) ∧ Bel w w' := by
  obtain ⟨hs, l, hl, hw⟩ := reads_word h
  have ht := trimL_le l0
  rw [hl] at ht
  obtain ⟨g1, g7⟩ := kindG_range g
  obtain ⟨m, m1, m2, m3⟩ := words_differ _ g1 g7 k h1 h7 (Ne.symm hne)
  have hno : hasW l (kwOf k) = false := hasW_other m m1 m2 m3 hw
  match k, h1, h7, hno with
  | 1, _, _, hno => exact ra0_err _ w fun wx hb => (ua0_no aI l0 l wx hs (by omega) hl hno (hb.cellOf hI)).mono fun e w' ⟨⟨v, h⟩, hb⟩ => ⟨⟨v, aI, h⟩, hb⟩
  | 2, _, _, hno => exact ra1_err _ w fun wx hb => (ua1_no aI l0 l wx hs (by omega) hl hno (hb.cellOf hI)).mono fun e w' ⟨⟨v, h⟩, hb⟩ => ⟨⟨v, aI, h⟩, hb⟩
  | 3, _, _, hno => exact ra2_err _ w fun wx hb => (ua2_no aI l0 l wx hs (by omega) hl hno (hb.cellOf hI)).mono fun e w' ⟨⟨v, h⟩, hb⟩ => ⟨⟨v, aI, h⟩, hb⟩
  | 4, _, _, hno => exact ra3_err _ w fun wx hb => (ua3_no aI l0 l wx hs (by omega) hl hno (hb.cellOf hI)).mono fun e w' ⟨⟨v, h⟩, hb⟩ => ⟨⟨v, aI, h⟩, hb⟩
  | 5, _, _, hno => exact ra4_err _ w fun wx hb => (ua4_no aI l0 l wx hs (by omega) hl hno (hb.cellOf hI)).mono fun e w' ⟨⟨v, h⟩, hb⟩ => ⟨⟨v, aI, h⟩, hb⟩
  | 6, _, _, hno => exact ra5_err _ w fun wx hb => (ua5_no aI l0 l wx hs (by omega) hl hno (hb.cellOf hI)).mono fun e w' ⟨⟨v, h⟩, hb⟩ => ⟨⟨v, aI, h⟩, hb⟩
  | 7, _, _, hno => exact ra6_err _ w fun wx hb => (ua6_no aI l0 l wx hs (by omega) hl hno (hb.cellOf hI)).mono fun e w' ⟨⟨v, h⟩, hb⟩ => ⟨⟨v, aI, h⟩, hb⟩
/-- One of its own kind is the shape. -/
theorem readAs_step (G : Errs) (d : Nat) (C : Option (List UInt8 → Option Geo → Prop)) (hC : ∀ R, C = some R → ∃ d', d = d' + 1 ∧ ∀ (p : List UInt8) (o : Option Geo) (wx : World), Env G wx → R p o → Calls Tryz.prog 32 #[.string (ofL p)] wx fun e w' => GivesG (RdGeo (fun g => wx.heap.size ≤ g) d') o e w' ∧ Bel wx w')
    (l0 : List UInt8) (g : Geo) (w : World) (hE : Env G w) (hs : l0.length ≤ 1000000000) (h : GeoStep G C l0 (some g)) (hsm : Small d g) :
    Calls Tryz.prog 17 #[.int .i64 (kindG g), .string (ofL l0)] w fun e w' => (∃ v, e = .returned (.tuple #[v, .bool true]) ∧ ShpAt (d + 2) w' v (toShp d g)) ∧ Bel w w' := by
  have ht := trimL_le l0
  generalize hr : some g = r at h
  cases h with
  | pt l o hl hn h0 hp =>
    obtain ⟨⟨x, y⟩, rfl, rfl⟩ := Option.map_eq_some_iff.1 hr.symm
    rw [hl] at ht
    refine ra0_ok d _ _ w hsm fun wx hb => (ua0_ok x y l0 l wx hs (by omega) hl h0 fun wy hc => (point53_calls G l _ wy (hE.bel (hb.tr hc)) (by omega) hn hp).mono fun e w' h => h).mono ?_
    rintro e w' ⟨rfl, hb'⟩
    refine ⟨⟨_, rfl, ?_⟩, hb'⟩
    cases d <;> rfl
  | line l o hl hA hn _ h0 hp =>
    obtain ⟨p, rfl, rfl⟩ := Option.map_eq_some_iff.1 hr.symm
    rw [hl] at ht
    refine ra1_ok d _ _ w hsm fun wx hb => (ua1_ok (fun w' v => RdPts w' v p) l0 l wx hs (by omega) hl h0 fun wy hc => (line54_calls G l _ wy (hE.bel (hb.tr hc)) (by omega) hn hA hp).mono fun e w' h => ?_).mono ?_
    · obtain ⟨⟨v, rfl, hv⟩, hb⟩ := h
      exact ⟨⟨_, rfl, hv⟩, hb⟩
    · rintro e w' ⟨⟨v, rfl, hv⟩, hb'⟩
      refine ⟨⟨_, rfl, ?_⟩, hb'⟩
      cases d <;> exact ⟨v, rfl, hv⟩
  | poly l o hl hA hn _ _ h0 hp =>
    obtain ⟨p, rfl, rfl⟩ := Option.map_eq_some_iff.1 hr.symm
    rw [hl] at ht
    refine ra2_ok d _ _ w hsm fun wx hb => (ua2_ok (fun w' v => RdRow 117 RdPts w' v p) l0 l wx hs (by omega) hl h0 fun wy hc => (rows55_calls G l _ wy (hE.bel (hb.tr hc)) (by omega) hn hA hp).mono fun e w' h => ?_).mono ?_
    · obtain ⟨⟨v, rfl, hv⟩, hb⟩ := h
      exact ⟨⟨_, rfl, hv⟩, hb⟩
    · rintro e w' ⟨⟨v, rfl, hv⟩, hb'⟩
      refine ⟨⟨_, rfl, ?_⟩, hb'⟩
      cases d <;> exact ⟨v, rfl, hv⟩
  | mpt l o hl hA hn _ _ _ h0 hp =>
    obtain ⟨p, rfl, rfl⟩ := Option.map_eq_some_iff.1 hr.symm
    rw [hl] at ht
    refine ra3_ok d _ _ w hsm fun wx hb => (ua3_ok (fun w' v => RdPts w' v p) l0 l wx hs (by omega) hl h0 fun wy hc => (line56_calls G l _ wy (hE.bel (hb.tr hc)) (by omega) hn hA hp).mono fun e w' h => ?_).mono ?_
    · obtain ⟨⟨v, rfl, hv⟩, hb⟩ := h
      exact ⟨⟨_, rfl, hv⟩, hb⟩
    · rintro e w' ⟨⟨v, rfl, hv⟩, hb'⟩
      refine ⟨⟨_, rfl, ?_⟩, hb'⟩
      cases d <;> exact ⟨v, rfl, hv⟩
  | mline l o hl hA hn _ _ _ _ h0 hp =>
    obtain ⟨p, rfl, rfl⟩ := Option.map_eq_some_iff.1 hr.symm
    rw [hl] at ht
    refine ra4_ok d _ _ w hsm fun wx hb => (ua4_ok (fun w' v => RdRow 65 RdPts w' v p) l0 l wx hs (by omega) hl h0 fun wy hc => (rows57_calls G l _ wy (hE.bel (hb.tr hc)) (by omega) hn hA hp).mono fun e w' h => ?_).mono ?_
    · obtain ⟨⟨v, rfl, hv⟩, hb⟩ := h
      exact ⟨⟨_, rfl, hv⟩, hb⟩
    · rintro e w' ⟨⟨v, rfl, hv⟩, hb'⟩
      refine ⟨⟨_, rfl, ?_⟩, hb'⟩
      cases d <;> exact ⟨v, rfl, hv⟩
  | mpoly l o hl hA hn _ _ _ _ _ h0 hp =>
    obtain ⟨p, rfl, rfl⟩ := Option.map_eq_some_iff.1 hr.symm
    rw [hl] at ht
    refine ra5_ok d _ _ w hsm fun wx hb => (ua5_ok (fun w' v => RdRow 69 RdRings w' v p) l0 l wx hs (by omega) hl h0 fun wy hc => (rows58_calls G l _ wy (hE.bel (hb.tr hc)) (by omega) hn hA hp).mono fun e w' h => ?_).mono ?_
    · obtain ⟨⟨v, rfl, hv⟩, hb⟩ := h
      exact ⟨⟨_, rfl, hv⟩, hb⟩
    · rintro e w' ⟨⟨v, rfl, hv⟩, hb'⟩
      refine ⟨⟨_, rfl, ?_⟩, hb'⟩
      cases d <;> exact ⟨v, rfl, hv⟩
  | coll l o R hR hl hA hn _ _ _ _ _ _ h0 hp =>
    obtain ⟨p, rfl, rfl⟩ := Option.map_eq_some_iff.1 hr.symm
    obtain ⟨d', rfl, hR⟩ := hC R hR
    rw [hl] at ht
    refine ra6_ok (d' + 1) _ _ w hsm fun wx hb => (ua6_ok (fun w' v => (∀ g, v.ownBlock = some g → wx.heap.size ≤ g) ∧ RdRow 52 (RdGeo (fun g => wx.heap.size ≤ g) d') w' v p) l0 l wx hs (by omega) hl h0 fun wy hc => (coll59_calls G d' R hR l _ wy (hE.bel (hb.tr hc)) (by omega) hn hA hp).mono fun e w' h => ?_).mono ?_
    · obtain ⟨⟨v, rfl, hg, xs, hv1, hv2⟩, hb'⟩ := h
      have := hc.size
      exact ⟨⟨_, rfl, fun g h => by have := hg g h; omega, xs, hv1, hv2.mono fun x dd h => RdGeo.mono (fun k _ h => by omega) d' x dd h⟩, hb'⟩
    · rintro e w' ⟨⟨v, rfl, hv⟩, hb'⟩
      exact ⟨⟨_, rfl, v, rfl, hv⟩, hb'⟩
  | none l => cases hr
theorem readAs_ok (G : Errs) (d : Nat) (l0 : List UInt8) (g : Geo) (w : World) (hE : Env G w) (h : GeoReads G d l0 (some g)) (hs : Small d g) :
    Calls Tryz.prog 17 #[.int .i64 (kindG g), .string (ofL l0)] w fun e w' => (∃ v, e = .returned (.tuple #[v, .bool true]) ∧ ShpAt (d + 2) w' v (toShp d g)) ∧ Bel w w' := by
  cases d with
  | zero => exact readAs_step G 0 .none (fun R hR => by cases hR) l0 g w hE h.1 h.2 hs
  | succ d => exact readAs_step G (d + 1) _ (fun R hR => by cases hR; exact ⟨d, rfl, fun p o wx hx hp => unm_calls G d p o wx hx hp⟩) l0 g w hE h.1 h.2 hs
end Go.Proofs.YtghajgdiaopioaaGreatDoor

/- Walks: FnReadAs (5). -/
namespace Go.Proofs.YtghajgdiaopioaaGreatDoor
open Go.RowKit
attribute [local go_sem] run_store_float run_store_iface run_store_nilIface

theorem toShp_kindI (g : Geo) {k : Int} {ls : List (List Pt)} {ps : List Shp} (h : Shp.mk k ls ps = toShp 4 g) : k = (kindG g : Int) := by
  obtain ⟨ls', ps', e⟩ := toShp_kind 3 g
  rw [e] at h
  injection h
set_option maxRecDepth 10000 in
set_option maxHeartbeats 4000000 in
theorem fnReadAs_calls (G : Errs) (hG : HasAll G) (aI : Addr) (dd : Nat) (v : Value) (s : Shp) (kd : Int) (w : World) (hE : Env G w) (hI : w.cell? ⟨2, 0, none⟩ = some (errV aI)) (h : Arg dd w v s) : Calls Tryz.prog 5 #[v, .int .i64 kd] w fun e w' => e = .returned (.bool true) ∧ Bel w w' := by
  have HZ := Lib.hid (fun wx (hb : Bel w wx) => zz1_calls dd v s wx (ShpAt.bel hb _ _ _ h.at'))
  have HWH := Lib.hid (fun wx (hb : Bel w wx) => h.whole wx hb)
  have HFU := Lib.hid (fun wx (hb : Bel w wx) (hi : isShp s = true) => h.isFull wx hb hi)
  have HWR := Lib.hid (fun wx (hb : Bel w wx) => writes_calls G hG wx (hE.bel hb))
  have HGO := Lib.hid (fun (hi : isShp s = true) (hf : (emptyS 4 s || fullS 4 s) = true) (ha : AllS IsWh 4 s) => good_of s hi h.len hf ha)
  have HRO := Lib.hid (fun g (hg : Good g) (e : s = toShp 4 g) wx (hb : Bel w wx) => (by rw [e]; exact readAs_ok G 4 _ g wx (hE.bel hb) (good_reads hG false (sp := []) (.inl rfl) g hg) hg.small : Calls Tryz.prog 17 #[.int .i64 (kindG g), .string (ofL (geoT false [] ntW 4 g))] wx fun e w' => (∃ v, e = .returned (.tuple #[v, .bool true]) ∧ ShpAt 6 w' v s) ∧ Bel wx w'))
  have HRN := Lib.hid (fun g (hg : Good g) (k : Nat) (h1 : 1 ≤ k) (h7 : k ≤ 7) (hne : k ≠ kindG g) wx (hb : Bel w wx) => readAs_err G 4 _ g aI k wx h1 h7 hne (good_reads hG false (sp := []) (.inl rfl) g hg) (hb.cellOf hI))
  have HS := Lib.hid (fun (u : Value) wx (hl : LenS 4 s) (hp : (ptsOf 4 s).length ≤ 1000000) (hb : Bel w wx) (hu : ShpAt 6 wx u s) => same_calls 4 6 dd u v s wx hl hp hu (ShpAt.bel hb _ _ _ h.at'))
  have HT := Lib.hid (fun g (hg : Good g) (e : s = toShp 4 g) (hl : LenS 4 s) wx (hb : Bel w wx) => good_text hG false (sp := []) (.inl rfl) g hg (by rw [← e]; exact hl) dd v wx (hE.bel hb) (by rw [← e]; exact ShpAt.bel hb _ _ _ h.at'))
  obtain ⟨k, ao, n, c, bo, m, c', ls, ps, hsk, rfl⟩ : ∃ k ao n c bo m c' ls ps, s = .mk k ls ps ∧ v = .agg #[.int .i64 k, .slice ao n c, .slice bo m c'] := by
    obtain ⟨d', k, ls, ps, L, P, _, hs, rfl, hL, hP⟩ := shpAt_slices h.at'
    obtain ⟨ao, cap, rfl⟩ := hL.slice
    obtain ⟨bo, cap2, rfl⟩ := partsAt_slice hP
    exact ⟨k, ao, _, cap, bo, _, cap2, ls, ps, hs, rfl⟩
  have HSK := Lib.hid hsk
  clear h hE hI hsk
  go_enter Tryz.func5, Tryz.ntmps5
  go_wp2_with fail
  have hbx := box3_new w k ao n c bo m c'
  have hb0 : Bel w (w.alloc (.cells #[.int .i64 k, .slice ao n c, .slice bo m c'] 25)) := Bel.al _ _
  generalize w.alloc (.cells #[.int .i64 k, .slice ao n c, .slice bo m c'] 25) = w1 at *
  refine (HZ.out w1 hb0).mono ?_
  rintro e w2 ⟨⟨b, rfl⟩, hb2⟩
  have HB2 := Lib.hid (hb0.tr hb2)
  have HX2 := Lib.hid (hbx.bel hb2)
  clear hb0 hb2 hbx
  cases b with
  | false =>
    go_wp2
    go_ret
    exact ⟨rfl, HB2.out⟩
  | true =>
    obtain ⟨c0, c1, c2⟩ := HX2.out
    go_wp2_with fail
    clear c0 c1 c2
    refine (HWH.out w2 HB2.out).mono ?_
    rintro e w3 ⟨b, rfl, hb3, hq⟩
    have HB3 := Lib.hid (HB2.out.tr hb3)
    have HX3 := Lib.hid (HX2.out.bel hb3)
    have HQ := Lib.hid hq
    clear hb3 hq
    cases b with
    | false =>
      go_wp2_with fail
      refine (HWR.out w3 HB3.out).mono ?_
      rintro e w4 ⟨rfl, hb4⟩
      have HB4 := Lib.hid (HB3.out.tr hb4)
      clear hb4
      go_wp2
      go_ret
      exact ⟨rfl, HB4.out⟩
    | true =>
      obtain ⟨hi, ha⟩ := HQ.out rfl
      have HI := Lib.hid hi
      have HA := Lib.hid ha
      clear hi ha
      obtain ⟨c0, c1, c2⟩ := HX3.out
      go_wp2_with fail
      clear c0 c1 c2
      refine (HFU.out w3 HB3.out HI.out).mono ?_
      rintro e w4 ⟨rfl, hb4⟩
      have HB4 := Lib.hid (HB3.out.tr hb4)
      have HX4 := Lib.hid (HX3.out.bel hb4)
      clear hb4
      cases hf : (emptyS 4 s || fullS 4 s) with
      | false =>
        clear hf
        go_wp2_with fail
        refine (HWR.out w4 HB4.out).mono ?_
        rintro e w5 ⟨rfl, hb5⟩
        have HB5 := Lib.hid (HB4.out.tr hb5)
        clear hb5
        go_wp2
        go_ret
        exact ⟨rfl, HB5.out⟩
      | true =>
        by_cases hr : 1 ≤ kd ∧ kd ≤ 7
        · obtain ⟨hr1, hr7⟩ := hr
          have t1 : decide (kd < 1) = false := decide_eq_false (by omega)
          have t7 : decide (7 < kd) = false := decide_eq_false (by omega)
          obtain ⟨kn, hkn⟩ : ∃ kn : Nat, kd = kn := ⟨kd.toNat, by omega⟩
          obtain ⟨hl, hp, g, hs, hg, _, _⟩ := HGO.out HI.out hf HA.out
          have HKG : Hid (k = (kindG g : Int)) := Lib.hid (toShp_kindI g (by rw [← HSK.out]; exact hs))
          have HT2 := Lib.hid (fun wx hb => HT.out g hg hs hl wx hb)
          have HRO2 := Lib.hid (fun wx hb => HRO.out g hg hs wx hb)
          have HRN2 := Lib.hid (fun wx hne hb => HRN.out g hg kn (by omega) (by omega) hne wx hb)
          have HS2 := Lib.hid (fun u wx hb hu => HS.out u wx hl hp hb hu)
          generalize ofL (geoT false [] ntW 4 g) = t at *
          clear hf hl hp hs hg
          obtain ⟨c0, c1, c2⟩ := HX4.out
          have hsty : styV false [] = .agg #[.bool false, .string ⟨#[]⟩] := rfl
          rw [hsty] at HT2
          clear hsty HT HS HGO HWH HFU HZ HRO HRN
          subst hkn
          go_wp2_with fail
          clear c0 c1 c2 t1 t7
          refine (HT2.out w4 HB4.out).mono ?_
          rintro e w5 ⟨rfl, hb5⟩
          have HB5 := Lib.hid (HB4.out.tr hb5)
          have HX5 := Lib.hid (HX4.out.bel hb5)
          clear hb5 HX4 HT2
          go_wp2_with fail
          by_cases hne : kn = kindG g
          · subst hne
            refine (HRO2.out w5 HB5.out).mono ?_
            rintro e w6 ⟨⟨u, rfl, hu⟩, hb6⟩
            obtain ⟨k2, a2, n2, d2, a3, n3, d3, rfl⟩ : ∃ k a n c a' n' c', u = .agg #[.int .i64 k, .slice a n c, .slice a' n' c'] := by
              obtain ⟨d', k, ls, ps, L, P, _, _, rfl, hL, hP⟩ := shpAt_slices hu
              obtain ⟨ao, cap, rfl⟩ := hL.slice
              obtain ⟨bo, cap2, rfl⟩ := partsAt_slice hP
              exact ⟨k, ao, _, cap, bo, _, cap2, rfl⟩
            have HU := Lib.hid hu
            have HB6 := Lib.hid (HB5.out.tr hb6)
            have HX6 := Lib.hid (HX5.out.bel hb6)
            clear hb6 hu HX5
            have hkk : (((kindG g : Nat) : Int) == k) = true := by rw [HKG.out]; simp
            have hkk2 : decide (((kindG g : Nat) : Int) = k) = true := hkk
            go_wp2_with fail
            have HX7 := Lib.hid (HX6.out.bel (Bel.al w6 (.cells #[.int .i64 k2, .slice a2 n2 d2, .slice a3 n3 d3] 25)))
            have HU7 := Lib.hid (ShpAt.bel (Bel.al w6 (.cells #[.int .i64 k2, .slice a2 n2 d2, .slice a3 n3 d3] 25)) _ _ _ HU.out)
            have HY7 := Lib.hid (box3_new w6 k2 a2 n2 d2 a3 n3 d3)
            have HB7 := Lib.hid (HB6.out.tr (Bel.al w6 (.cells #[.int .i64 k2, .slice a2 n2 d2, .slice a3 n3 d3] 25)))
            generalize w6.alloc (.cells #[.int .i64 k2, .slice a2 n2 d2, .slice a3 n3 d3] 25) = w7 at *
            clear HX6 HU
            refine (HWR.out w7 HB7.out).mono ?_
            rintro e w8 ⟨rfl, hb8⟩
            have HB8 := Lib.hid (HB7.out.tr hb8)
            have HX8 := Lib.hid (HX7.out.bel hb8)
            have HY8 := Lib.hid (HY7.out.bel hb8)
            have HU8 := Lib.hid (ShpAt.bel hb8 _ _ _ HU7.out)
            clear hb8 HX7 HY7 HU7
            obtain ⟨c0, c1, c2⟩ := HX8.out
            obtain ⟨y0, y1, y2⟩ := HY8.out
            go_wp2_with fail
            clear c0 c1 c2 y0 y1 y2
            refine (HS2.out _ w8 HB8.out HU8.out).mono ?_
            rintro e w9 ⟨rfl, hb9⟩
            have HB9 := Lib.hid (HB8.out.tr hb9)
            clear hb9
            go_wp2
            go_ret
            exact ⟨rfl, HB9.out⟩
          · have hkk : ((kn : Int) == k) = false := by rw [beq_eq_false_iff_ne, HKG.out]; omega
            have hkk2 : decide ((kn : Int) = k) = false := decide_eq_false (by rw [HKG.out]; omega)
            refine (HRN2.out w5 hne HB5.out).mono ?_
            rintro e w6 ⟨rfl, hb6⟩
            have HB6 := Lib.hid (HB5.out.tr hb6)
            have HX6 := Lib.hid (HX5.out.bel hb6)
            clear hb6 HX5
            go_wp2_with fail
            have HX7 := Lib.hid (HX6.out.bel (Bel.al w6 (.cells #[.int .i64 0, .slice none 0 0, .slice none 0 0] 25)))
            have HB7 := Lib.hid (HB6.out.tr (Bel.al w6 (.cells #[.int .i64 0, .slice none 0 0, .slice none 0 0] 25)))
            generalize w6.alloc (.cells #[.int .i64 0, .slice none 0 0, .slice none 0 0] 25) = w7 at *
            clear HX6
            refine (HWR.out w7 HB7.out).mono ?_
            rintro e w8 ⟨rfl, hb8⟩
            have HB8 := Lib.hid (HB7.out.tr hb8)
            have HX8 := Lib.hid (HX7.out.bel hb8)
            clear hb8 HX7
            obtain ⟨c0, c1, c2⟩ := HX8.out
            go_wp2
            go_ret
            exact ⟨rfl, HB8.out⟩
        · have ht : decide (kd < 1) = true ∨ (decide (kd < 1) = false ∧ decide (7 < kd) = true) := by
            by_cases h1 : kd < 1
            · exact .inl (decide_eq_true h1)
            · exact .inr ⟨decide_eq_false h1, decide_eq_true (by omega)⟩
          clear hr hf
          rcases ht with t1 | ⟨t1, t7⟩
          · go_wp2_with fail
            refine (HWR.out w4 HB4.out).mono ?_
            rintro e w5 ⟨rfl, hb5⟩
            have HB5 := Lib.hid (HB4.out.tr hb5)
            clear hb5
            go_wp2
            go_ret
            exact ⟨rfl, HB5.out⟩
          · go_wp2_with fail
            refine (HWR.out w4 HB4.out).mono ?_
            rintro e w5 ⟨rfl, hb5⟩
            have HB5 := Lib.hid (HB4.out.tr hb5)
            clear hb5
            go_wp2
            go_ret
            exact ⟨rfl, HB5.out⟩
end Go.Proofs.YtghajgdiaopioaaGreatDoor

/- The row of FnReadAs: from every input that fits the law returns true. -/
namespace Go.Proofs.YtghajgdiaopioaaGreatDoor
open Go.ChangeShapes Go.WideShapes Go.ChangeAt Go.RowKit
set_option maxRecDepth 100000

theorem vars4 {H : Type} {enc : TypeId × Value → H} {P : Program} {w : World} {spare : Nat → Bool} {a b c d : String} {gs : List (DataW H)} {q : List MemPlace} (h : DataW.TrodVars enc P w spare [a, b, c, d] gs q) : ∃ x y z u, gs = [x, y, z, u] := by
  match gs, h with
  | [], h => exact h.elim
  | x :: gs, h =>
    obtain ⟨_, _, _, _, _, _, _, _, _, _, h, _⟩ := h
    obtain ⟨y, z, u, rfl⟩ := vars3 h
    exact ⟨x, y, z, u, rfl⟩
theorem env_ofA {W : World} (hL : laidMet Tryz.prog Rows.fnReadAsRow.laid W) : ∃ G aI, HasAll G ∧ Env G W ∧ W.cell? ⟨2, 0, none⟩ = some (errV aI) := by
  have hw := words_of (Lib.laidMet.reads hL (List.mem_of_getElem? (i := 18) rfl))
  have h22 := t22_of (Lib.laidMet.reads hL (List.mem_of_getElem? (i := 20) rfl))
  have hi := info_of (Lib.laidMet.reads hL (List.mem_of_getElem? (i := 3) rfl))
  have ho := opt_of (Lib.laidMet.reads hL (List.mem_of_getElem? (i := 4) rfl))
  have hp := p10_of (Lib.laidMet.reads hL (List.mem_of_getElem? (i := 8) rfl))
  have hL15 : laidMet Tryz.prog (Rows.fnReadAsRow.laid.drop 15) W := hL.tail.tail.tail.tail.tail.tail.tail.tail.tail.tail.tail.tail.tail.tail.tail
  obtain ⟨a, t0, hv0, _⟩ := laid_sentinel (g := 4) hL15 (by kernel_rfl) (by kernel_rfl) Tryz.underlying54 row239 Tryz.underlying239 Tryz.underlying241 rfl rfl Tryz.underlying9 (by kernel_rfl) (by kernel_rfl)
  obtain ⟨c, t2, hv2, _⟩ := laid_sentinel (g := 2) hL15.tail (by kernel_rfl) (by kernel_rfl) Tryz.underlying54 row239 Tryz.underlying239 Tryz.underlying241 rfl rfl Tryz.underlying9 (by kernel_rfl) (by kernel_rfl)
  obtain ⟨b, t1, hv1, _⟩ := laid_sentinel (g := 1) hL15.tail.tail (by kernel_rfl) (by kernel_rfl) Tryz.underlying54 row239 Tryz.underlying239 Tryz.underlying241 rfl rfl Tryz.underlying9 (by kernel_rfl) (by kernel_rfl)
  have e0 := World.var?_cell (g := 4) (by kernel_rfl) hv0 0
  have e1 := World.var?_cell (g := 1) (by kernel_rfl) hv1 0
  have e2 := World.var?_cell (g := 2) (by kernel_rfl) hv2 0
  refine ⟨⟨a, b, b, fun g cs => ∃ t fz, W.heap[g]? = some (.cells cs t fz)⟩, c, fun w hE => ?_, ⟨e0, e1, fun g cs h => h⟩, e2⟩
  have ht := hE.tab
  exact ⟨⟨tab_same ht hp, fun i hi => ⟨cell_same ht (h22 i hi).1, cell_same ht (h22 i hi).2⟩⟩, cell_same ht hi, cell_same ht ho, fun k h1 h7 => cell_same ht (hw k h1 h7)⟩
theorem shapedA (os : Os) (args : Array Value) : ((World.laidAll Tryz.prog os Rows.fnReadAsRow.laid).forCall (fun _ _ => 0) ⟨#[], args, []⟩).Shaped Tryz.prog := World.shaped_of_ZipB (by kernel_rfl) (by kernel_rfl)
theorem metA (os : Os) (args : Array Value) : laidMet Tryz.prog Rows.fnReadAsRow.laid ((World.laidAll Tryz.prog os Rows.fnReadAsRow.laid).forCall (fun _ _ => 0) ⟨#[], args, []⟩).memory := laidMet_laidAll _ (by kernel_rfl) (by kernel_rfl)

theorem witness_readAs (os : Os) {H : Type} (enc : TypeId × Value → H) : ∃ (w : World) (tape : Tape) (i : Input), w.os = os ∧ (w.forCall tape i).Shaped Tryz.checked.prog ∧ i.vars = [] ∧ Input.okWide Tryz.checked.prog (w.forCall tape i) .any w.heap.size 5 i ∧
      (OpenSpec.ofChange Rows.fnReadAsSpec).preRow enc Tryz.checked.prog Tryz.f5 Rows.fnReadAsRow.domain false Rows.fnReadAsRow.laid (w.forCall tape i).memory i.args ∧ ({} : Assume).holds Tryz.checked.prog (lone (Frame.enter Tryz.checked.prog 5 i.args .normal) [] (w.forCall tape i)) :=
  ChangeSpec.witness_shaped (enc := enc) (C := Tryz.checked) (os := os) (X := fun w _ => laidMetH Tryz.prog Rows.fnReadAsRow.laid w) false (World.laidAll Tryz.prog os Rows.fnReadAsRow.laid) #[zeroShp, .int .i64 0] 16 (World.laidAll_os _ _ _)
      (shapedA os _) (by kernel_rfl) (by kernel_rfl) (by kernel_rfl)
      (by rw [MakeChecks.laidMetH_plain _ _ _ (by kernel_rfl)]; exact metA os _)
theorem readAs_lifted (os : Os) (started : os.Started) (H : Type) (enc : TypeId × Value → H) (F : Stop.Interp) :
    ReturnsInHanded {} Tryz.checked os 5 .any ((OpenSpec.ofChange Rows.fnReadAsSpec).preRow enc Tryz.prog Tryz.f5 Rows.fnReadAsRow.domain false Rows.fnReadAsRow.laid) (((OpenSpec.ofChange Rows.fnReadAsSpec).at F).post enc Tryz.prog Tryz.f5 false true false false) := by
  refine returnsInHanded_of_row (C := Tryz.checked) (s := OpenSpec.ofChange Rows.fnReadAsSpec) ownZ started (by kernel_rfl) Tryz.func5 (witness_readAs os enc) ?_
  intro W base args ds gs before hval0 hW _ _ hsz hL _ _
  have hval : ∀ (j : Nat) t v, Tryz.f5.params[j]? = some t → args[j]? = some v → Value.okWide Tryz.prog W .any base t v := hval0
  have hW' := hW
  have hblk := fun x (hx : x ∈ before) => hW'.lt x hx
  obtain ⟨p, q, hA0, hV0, hpq, _, _⟩ := hW
  have hA : DataW.TrodAll enc Tryz.prog W 0 (fun _ => true) true Tryz.f5.params.toList args.toList ds p := hA0
  have hV : DataW.TrodVars enc Tryz.prog W (fun _ => true) ["loop.example/pub-g01503/pub/orbwkt.ErrUnsupportedGeometry", "loop.example/pub-g01503/pub/orbwkt.ErrNotWKT", "loop.example/pub-g01503/spec.words", "loop.example/pub-g01503/pub/orbwkt.ErrIncorrectGeometry"] gs q := hV0
  rw [Tryz.params5] at hA hval
  clear hA0 hval0
  obtain ⟨v0, v1, d0, d1, p0, p1, rfl, rfl, rfl, h0, h1⟩ := trodAll_two hA
  obtain ⟨g1, g2, g3, g4, rfl⟩ := vars4 hV
  obtain ⟨dd, s, ha⟩ := arg_of (hval 0 25 v0 rfl rfl) h0 (fun b hb => by
    have h1 : (DataW.weightsEach Tryz.prog (Tryz.f5.params.toList ++ (OpenSpec.ofChange Rows.fnReadAsSpec).bare.plain.varTypes Tryz.prog) ([d0, d1] ++ [g1, g2, g3, g4])).all (· ≤ reachBytes) = true := hsz
    rw [Tryz.params5] at h1
    have h2 := List.all_eq_true.1 h1 b (by
      show b ∈ DataW.weightsEach Tryz.prog (25 :: _) (d0 :: _)
      unfold DataW.weightsEach
      exact List.mem_append_left _ hb)
    simpa using h2)
  have hlt : ∀ x ∈ p0, x.block < W.heap.size := fun x hx => by
    have := hblk x (by rw [hpq]; simp [hx])
    simpa using this
  obtain ⟨x1, rfl, rfl, rfl, wx1⟩ := open_int Tryz.underlying3 (hval 1 3 v1 rfl rfl) h1
  have hL' : laidMet Tryz.prog Rows.fnReadAsRow.laid W := by
    have h1 : laidMetH Tryz.prog Rows.fnReadAsRow.laid W := hL
    rwa [MakeChecks.laidMetH_plain _ _ _ (by kernel_rfl)] at h1
  obtain ⟨G, aI, hG, hE, hI⟩ := env_ofA hL'
  refine (fnReadAs_calls G hG aI dd v0 s x1 W hE hI ha).mono ?_
  rintro e W' ⟨rfl, hb⟩
  have hb' : Below W.heap.size W W' := hb
  exact ⟨_, rfl, _, _, _, [], _, q, hW', trodAll_mk1 (shut_bool Tryz.underlying4 _), trodAll_mk2 (Below.trod laidOutZ (by kernel_rfl) (of_decide_eq_true (by kernel_rfl)) h0 hb' hlt) (shut_int Tryz.underlying3 wx1), hb'.trodVars laidOutZ (by kernel_rfl) hV, hb'.frame _, fun h => by cases h⟩
end Go.Proofs.YtghajgdiaopioaaGreatDoor
