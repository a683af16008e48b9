/- The statement FnReadStyle: its tied card holds. -/
import Derived.Test.YtghajgdiaopioaaGreatDoorTie
import Derived.Test.YtghajgdiaopioaaGreatDoorCards
import Derived.SevenTiedAt
import Derived.Test.YtghajgdiaopioaaGreatDoorS01
set_option linter.unusedVariables false
set_option linter.unusedSimpArgs false

namespace Go.Proofs.YtghajgdiaopioaaGreatDoor
open Go.ChangeShapes Go.WideShapes Go.ChangeAt Go.RowKit
set_option maxRecDepth 100000

theorem readStyle_and {a b : Bool} (ha : a = true) (hb : b = true) : (a && b) = true := by rw [ha, hb]; rfl
set_option maxHeartbeats 4000000 in
theorem readStyle_closed : joinedFacts Tryz.prog 8 Tryz.f8 (OpenSpec.ofChange Rows.fnReadStyleSpec).bare Rows.fnReadStyleRow = true := by
  unfold joinedFacts
  repeat' (with_reducible apply readStyle_and)
  all_goals as_aux_lemma => kernel_rfl
theorem readStyle_named : Tryz.prog.funcNamed Rows.fnReadStyleRow.func = some 8 := by kernel_rfl
theorem readStyle_inst : Func.isInstance Tryz.prog Tryz.f8 Rows.fnReadStyleRow.origin Rows.fnReadStyleRow.targs := of_decide_eq_true (by kernel_rfl)
theorem readStyle_wrap : Func.isWrapper Tryz.prog Tryz.f8 Rows.fnReadStyleRow.wrapper Rows.fnReadStyleRow.mainSum := by unfold Func.isWrapper; first | (rw [if_pos (by decide +kernel)]; kernel_rfl) | (rw [if_neg (by decide +kernel)]; exact ⟨rfl, rfl⟩)
theorem readStyle_holds : Rows.FnReadStyleSaid :=
  OpenClaim.holds_of_cond 8 Tryz.f8 rfl rfl rfl rfl rfl rfl rfl ⟨rfl, rfl, rfl, rfl, rfl⟩ rfl rfl rfl rfl rfl readStyle_named Tryz.func8 readStyle_closed readStyle_inst readStyle_wrap
    (fun os started H enc _ F => by rw [OpenClaim.pre_eq_preRow]; exact readStyle_lifted os started H enc F)
theorem fnReadStyle_card : Rows.FnReadStyleCardSaid :=
  Claim7.holds_tied_plain_at .later [] [.data, .data, .widerDeep, .widerDeep, .data, .data, .data, .data, .data, .data, .sentinel, .sentinel, .data, .data, .sentinel, .sentinel, .sentinel, .data, .pinned, .pinned, .pinned, .pinned] true (true, "709fda3d83bd93bf4f39926ad088f34f13377043fad0f27cd99caab4cd8ff96a") true readStyle_holds (fun _ h => by cases h) (by kernel_rfl) (fun _ h => by cases h) fnReadStyle_row_tie rfl ⟨rfl, rfl⟩ (by kernel_rfl) rfl
    (fun f fn hf hfn => by
      obtain rfl : f = 8 := Option.some.inj (readStyle_named.symm.trans hf) |>.symm
      obtain rfl : fn = Tryz.f8 := (Option.some.inj (Tryz.func8.symm.trans hfn)).symm
      exact ⟨by kernel_rfl, fun j t ht => by
        rw [Tryz.params8] at ht
        have hm : t ∈ [25, 4, 4] := by simpa using Array.mem_of_getElem? ht
        have hall : ([25, 4, 4].all fun u => !Tryz.prog.wantsStandIn u) = true := by kernel_rfl
        exact (show Tryz.prog.wantsStandIn t = false by simpa using List.all_eq_true.1 hall t hm)⟩)
    (by kernel_rfl)
#print axioms fnReadStyle_card
end Go.Proofs.YtghajgdiaopioaaGreatDoor
