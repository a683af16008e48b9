/- The statement FnReadAs: its tied card holds. -/
import Derived.Test.YtghajgdiaopioaaGreatDoorTie
import Derived.Test.YtghajgdiaopioaaGreatDoorCards
import Derived.SevenTiedAt
import Derived.Test.YtghajgdiaopioaaGreatDoorT01
set_option linter.unusedVariables false
set_option linter.unusedSimpArgs false

namespace Go.Proofs.YtghajgdiaopioaaGreatDoor
open Go.ChangeShapes Go.WideShapes Go.ChangeAt Go.RowKit
set_option maxRecDepth 100000

theorem readAs_and {a b : Bool} (ha : a = true) (hb : b = true) : (a && b) = true := by rw [ha, hb]; rfl
set_option maxHeartbeats 4000000 in
theorem readAs_closed : joinedFacts Tryz.prog 5 Tryz.f5 (OpenSpec.ofChange Rows.fnReadAsSpec).bare Rows.fnReadAsRow = true := by
  unfold joinedFacts
  repeat' (with_reducible apply readAs_and)
  all_goals as_aux_lemma => kernel_rfl
theorem readAs_named : Tryz.prog.funcNamed Rows.fnReadAsRow.func = some 5 := by kernel_rfl
theorem readAs_inst : Func.isInstance Tryz.prog Tryz.f5 Rows.fnReadAsRow.origin Rows.fnReadAsRow.targs := of_decide_eq_true (by kernel_rfl)
theorem readAs_wrap : Func.isWrapper Tryz.prog Tryz.f5 Rows.fnReadAsRow.wrapper Rows.fnReadAsRow.mainSum := by unfold Func.isWrapper; first | (rw [if_pos (by decide +kernel)]; kernel_rfl) | (rw [if_neg (by decide +kernel)]; exact ⟨rfl, rfl⟩)
theorem readAs_holds : Rows.FnReadAsSaid :=
  OpenClaim.holds_of_cond 5 Tryz.f5 rfl rfl rfl rfl rfl rfl rfl ⟨rfl, rfl, rfl, rfl, rfl⟩ rfl rfl rfl rfl rfl readAs_named Tryz.func5 readAs_closed readAs_inst readAs_wrap
    (fun os started H enc _ F => by rw [OpenClaim.pre_eq_preRow]; exact readAs_lifted os started H enc F)
theorem fnReadAs_card : Rows.FnReadAsCardSaid :=
  Claim7.holds_tied_plain_at .later [] [.data, .data, .widerDeep, .widerDeep, .data, .data, .data, .data, .data, .data, .sentinel, .sentinel, .data, .data, .sentinel, .sentinel, .sentinel, .sentinel, .data, .pinned, .pinned, .pinned, .pinned] true (true, "709fda3d83bd93bf4f39926ad088f34f13377043fad0f27cd99caab4cd8ff96a") true readAs_holds (fun _ h => by cases h) (by kernel_rfl) (fun _ h => by cases h) fnReadAs_row_tie rfl ⟨rfl, rfl⟩ (by kernel_rfl) rfl
    (fun f fn hf hfn => by
      obtain rfl : f = 5 := Option.some.inj (readAs_named.symm.trans hf) |>.symm
      obtain rfl : fn = Tryz.f5 := (Option.some.inj (Tryz.func5.symm.trans hfn)).symm
      exact ⟨by kernel_rfl, fun j t ht => by
        rw [Tryz.params5] at ht
        have hm : t ∈ [25, 3] := by simpa using Array.mem_of_getElem? ht
        have hall : ([25, 3].all fun u => !Tryz.prog.wantsStandIn u) = true := by kernel_rfl
        exact (show Tryz.prog.wantsStandIn t = false by simpa using List.all_eq_true.1 hall t hm)⟩)
    (by kernel_rfl)
#print axioms fnReadAs_card
end Go.Proofs.YtghajgdiaopioaaGreatDoor
