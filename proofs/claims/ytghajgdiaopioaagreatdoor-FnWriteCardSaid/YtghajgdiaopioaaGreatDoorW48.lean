/- The row of FnWrite, lifted: there is an input that fits, and from every one the law returns true. -/
import Derived.OpenVars
import Derived.Lay
import Derived.Deep.DeepHandedRow
import Derived.Deep.DeepWitnessRowRef
import Derived.MakeChecks
import Derived.Test.YtghajgdiaopioaaGreatDoorTie
import Derived.Test.YtghajgdiaopioaaGreatDoorCards
import Derived.SevenTiedAt
import Derived.Test.YtghajgdiaopioaaGreatDoorW47
set_option linter.unusedVariables false
set_option linter.unusedSimpArgs false

namespace Go.Proofs.YtghajgdiaopioaaGreatDoor
open Go.ChangeShapes Go.WideShapes Go.ChangeAt Go.RowKit
set_option maxRecDepth 100000

theorem ownZ : ownKnob Tryz.prog.godebug = none := by kernel_rfl
theorem laidOutZ : laidOutB Tryz.prog = true := by kernel_rfl
def zeroShp : Value := .agg #[.int .i64 0, .slice none 0 0, .slice none 0 0]
theorem shapedW (os : Os) (args : Array Value) : ((World.laidAll Tryz.prog os Rows.fnWriteRow.laid).forCall (fun _ _ => 0) ⟨#[], args, []⟩).Shaped Tryz.prog := World.shaped_of_ZipB (by kernel_rfl) (by kernel_rfl)
theorem metW (os : Os) (args : Array Value) : laidMet Tryz.prog Rows.fnWriteRow.laid ((World.laidAll Tryz.prog os Rows.fnWriteRow.laid).forCall (fun _ _ => 0) ⟨#[], args, []⟩).memory := laidMet_laidAll _ (by kernel_rfl) (by kernel_rfl)
end Go.Proofs.YtghajgdiaopioaaGreatDoor

/- The row of FnWrite: from every input that fits the law returns true. -/
namespace Go.Proofs.YtghajgdiaopioaaGreatDoor
open Go.ChangeShapes Go.WideShapes Go.ChangeAt Go.RowKit
set_option maxRecDepth 100000

/-- A list of three. -/
theorem vars3 {H : Type} {enc : TypeId × Value → H} {P : Program} {w : World} {spare : Nat → Bool} {a b c : String} {gs : List (DataW H)} {q : List MemPlace} (h : DataW.TrodVars enc P w spare [a, b, c] gs q) : ∃ x y z, gs = [x, y, z] := by
  match gs, h with
  | [], h => exact h.elim
  | [_], h => obtain ⟨_, _, _, _, _, _, _, _, _, _, h, _⟩ := h; exact h.elim
  | [_, _], h => obtain ⟨_, _, _, _, _, _, _, _, _, _, h, _⟩ := h; obtain ⟨_, _, _, _, _, _, _, _, _, _, h, _⟩ := h; exact h.elim
  | [x, y, z], _ => exact ⟨x, y, z, rfl⟩
  | _ :: _ :: _ :: _ :: _, h =>
    obtain ⟨_, _, _, _, _, _, _, _, _, _, h, _⟩ := h; obtain ⟨_, _, _, _, _, _, _, _, _, _, h, _⟩ := h; obtain ⟨_, _, _, _, _, _, _, _, _, _, h, _⟩ := h; exact h.elim

theorem witness_write (os : Os) {H : Type} (enc : TypeId × Value → H) : ∃ (w : World) (tape : Tape) (i : Input), w.os = os ∧ (w.forCall tape i).Shaped Tryz.checked.prog ∧ i.vars = [] ∧ Input.okWide Tryz.checked.prog (w.forCall tape i) .any w.heap.size 4 i ∧
      (OpenSpec.ofChange Rows.fnWriteSpec).preRow enc Tryz.checked.prog Tryz.f4 Rows.fnWriteRow.domain false Rows.fnWriteRow.laid (w.forCall tape i).memory i.args ∧ ({} : Assume).holds Tryz.checked.prog (lone (Frame.enter Tryz.checked.prog 4 i.args .normal) [] (w.forCall tape i)) :=
  ChangeSpec.witness_shaped (enc := enc) (C := Tryz.checked) (os := os) (X := fun w _ => laidMetH Tryz.prog Rows.fnWriteRow.laid w) false (World.laidAll Tryz.prog os Rows.fnWriteRow.laid) #[zeroShp] 16 (World.laidAll_os _ _ _)
      (shapedW os _) (by kernel_rfl) (by kernel_rfl) (by kernel_rfl)
      (by rw [MakeChecks.laidMetH_plain _ _ _ (by kernel_rfl)]; exact metW os _)
theorem write_lifted (os : Os) (started : os.Started) (H : Type) (enc : TypeId × Value → H) (F : Stop.Interp) :
    ReturnsInHanded {} Tryz.checked os 4 .any ((OpenSpec.ofChange Rows.fnWriteSpec).preRow enc Tryz.prog Tryz.f4 Rows.fnWriteRow.domain false Rows.fnWriteRow.laid) (((OpenSpec.ofChange Rows.fnWriteSpec).at F).post enc Tryz.prog Tryz.f4 false true false false) := by
  refine returnsInHanded_of_row (C := Tryz.checked) (s := OpenSpec.ofChange Rows.fnWriteSpec) ownZ started (by kernel_rfl) Tryz.func4 (witness_write os enc) ?_
  intro W base args ds gs before hval0 hW _ _ hsz hL _ _
  have hval : ∀ (j : Nat) t v, Tryz.f4.params[j]? = some t → args[j]? = some v → Value.okWide Tryz.prog W .any base t v := hval0
  have hW' := hW
  have hblk := fun x (hx : x ∈ before) => hW'.lt x hx
  obtain ⟨p, q, hA0, hV0, hpq, _, _⟩ := hW
  have hA : DataW.TrodAll enc Tryz.prog W 0 (fun _ => true) true Tryz.f4.params.toList args.toList ds p := hA0
  have hV : DataW.TrodVars enc Tryz.prog W (fun _ => true) ["loop.example/pub-g01503/pub/orbwkt.ErrUnsupportedGeometry", "loop.example/pub-g01503/pub/orbwkt.ErrNotWKT", "loop.example/pub-g01503/spec.words"] gs q := hV0
  rw [Tryz.params4] at hA hval
  obtain ⟨v0, d0, rfl, rfl, h0⟩ := trodAll_one hA
  obtain ⟨g1, g2, g3, rfl⟩ := vars3 hV
  obtain ⟨dd, s, ha⟩ := arg_of (hval 0 25 v0 rfl rfl) h0 (fun b hb => by
    have h1 : (DataW.weightsEach Tryz.prog (Tryz.f4.params.toList ++ (OpenSpec.ofChange Rows.fnWriteSpec).bare.plain.varTypes Tryz.prog) ([d0] ++ [g1, g2, g3])).all (· ≤ reachBytes) = true := hsz
    rw [Tryz.params4] at h1
    have h2 := List.all_eq_true.1 h1 b (by
      show b ∈ DataW.weightsEach Tryz.prog (25 :: _) (d0 :: _)
      unfold DataW.weightsEach
      exact List.mem_append_left _ hb)
    simpa using h2)
  have hL' : laidMet Tryz.prog Rows.fnWriteRow.laid W := by
    have h1 : laidMetH Tryz.prog Rows.fnWriteRow.laid W := hL
    rwa [MakeChecks.laidMetH_plain _ _ _ (by kernel_rfl)] at h1
  obtain ⟨G, hG, hE⟩ := env_of hL'
  refine (fnWrite_calls G hG dd v0 s W hE ha).mono ?_
  rintro e W' ⟨rfl, hb⟩
  have hb' : Below W.heap.size W W' := hb
  have e1 : (((OpenSpec.ofChange Rows.fnWriteSpec).at F).fn H ([d0] ++ [g1, g2, g3])) = { results := [.lit (.bool true)], args := [d0], vars := [g1, g2, g3] } := rfl
  refine ⟨_, rfl, _, _, _, [], p, q, hW', ?_, ?_, ?_, hb'.frame _, fun h => by cases h⟩
  · rw [e1]; exact trodAll_mk1 (shut_bool Tryz.underlying4 _)
  · rw [e1]; exact trodAll_mk1 (Below.trod laidOutZ (by kernel_rfl) (of_decide_eq_true (by kernel_rfl)) h0 hb' (fun x hx => by simpa using hblk x (by rw [hpq]; exact List.mem_append_left _ hx)))
  · rw [e1]; exact hb'.trodVars laidOutZ (by kernel_rfl) hV
end Go.Proofs.YtghajgdiaopioaaGreatDoor

/- The statement FnWrite: its tied card holds. -/
namespace Go.Proofs.YtghajgdiaopioaaGreatDoor
open Go.ChangeShapes Go.WideShapes Go.ChangeAt Go.RowKit
set_option maxRecDepth 100000

theorem andI {a b : Bool} (ha : a = true) (hb : b = true) : (a && b) = true := by rw [ha, hb]; rfl
set_option maxHeartbeats 4000000 in
theorem write_closed : joinedFacts Tryz.prog 4 Tryz.f4 (OpenSpec.ofChange Rows.fnWriteSpec).bare Rows.fnWriteRow = true := by
  unfold joinedFacts
  repeat' (with_reducible apply andI)
  all_goals as_aux_lemma => kernel_rfl
theorem write_named : Tryz.prog.funcNamed Rows.fnWriteRow.func = some 4 := by kernel_rfl
theorem write_inst : Func.isInstance Tryz.prog Tryz.f4 Rows.fnWriteRow.origin Rows.fnWriteRow.targs := of_decide_eq_true (by kernel_rfl)
theorem write_wrap : Func.isWrapper Tryz.prog Tryz.f4 Rows.fnWriteRow.wrapper Rows.fnWriteRow.mainSum := by unfold Func.isWrapper; first | (rw [if_pos (by decide +kernel)]; kernel_rfl) | (rw [if_neg (by decide +kernel)]; exact ⟨rfl, rfl⟩)
theorem write_holds : Rows.FnWriteSaid :=
  OpenClaim.holds_of_cond 4 Tryz.f4 rfl rfl rfl rfl rfl rfl rfl ⟨rfl, rfl, rfl, rfl, rfl⟩ rfl rfl rfl rfl rfl write_named Tryz.func4 write_closed write_inst write_wrap
    (fun os started H enc _ F => by rw [OpenClaim.pre_eq_preRow]; exact write_lifted os started H enc F)
theorem fnWrite_card : Rows.FnWriteCardSaid :=
  Claim7.holds_tied_plain_at .later [] [.data, .data, .widerDeep, .widerDeep, .data, .data, .data, .data, .data, .data, .sentinel, .sentinel, .data, .data, .sentinel, .sentinel, .sentinel, .data, .pinned, .pinned, .pinned, .pinned] true (true, "709fda3d83bd93bf4f39926ad088f34f13377043fad0f27cd99caab4cd8ff96a") true write_holds (fun _ h => by cases h) (by kernel_rfl) (fun _ h => by cases h) fnWrite_row_tie rfl ⟨rfl, rfl⟩ (by kernel_rfl) rfl
    (fun f fn hf hfn => by
      obtain rfl : f = 4 := Option.some.inj ((show Tryz.prog.funcNamed "loop.example/pub-g01503/laws.FnWrite" = some 4 by kernel_rfl).symm.trans hf) |>.symm
      obtain rfl : fn = Tryz.f4 := (Option.some.inj (Tryz.func4.symm.trans hfn)).symm
      exact ⟨by kernel_rfl, fun j t ht => by
        rw [Tryz.params4] at ht
        have hm : t ∈ [25] := by simpa using Array.mem_of_getElem? ht
        have hall : ([25].all fun u => !Tryz.prog.wantsStandIn u) = true := by kernel_rfl
        exact (show Tryz.prog.wantsStandIn t = false by simpa using List.all_eq_true.1 hall t hm)⟩)
    (by kernel_rfl)
#print axioms fnWrite_card
end Go.Proofs.YtghajgdiaopioaaGreatDoor
