/- The statement FnTextThere: its tied card holds. -/
import Derived.Test.YtghajgdiaopioaaGreatDoorTie
import Derived.Test.YtghajgdiaopioaaGreatDoorCards
import Derived.SevenTiedAt
import Derived.Test.YtghajgdiaopioaaGreatDoorV18
set_option linter.unusedVariables false
set_option linter.unusedSimpArgs false

namespace Go.Proofs.YtghajgdiaopioaaGreatDoor
open Go.ChangeShapes Go.WideShapes Go.ChangeAt Go.RowKit
set_option maxRecDepth 100000

theorem textThere_and {a b : Bool} (ha : a = true) (hb : b = true) : (a && b) = true := by rw [ha, hb]; rfl
set_option maxHeartbeats 4000000 in
theorem textThere_closed : joinedFacts Tryz.prog 6 Tryz.f6 (OpenSpec.ofChange Rows.fnTextThereSpec).bare Rows.fnTextThereRow = true := by
  unfold joinedFacts
  repeat' (with_reducible apply textThere_and)
  all_goals as_aux_lemma => kernel_rfl
theorem textThere_named : Tryz.prog.funcNamed Rows.fnTextThereRow.func = some 6 := by kernel_rfl
theorem textThere_inst : Func.isInstance Tryz.prog Tryz.f6 Rows.fnTextThereRow.origin Rows.fnTextThereRow.targs := of_decide_eq_true (by kernel_rfl)
theorem textThere_wrap : Func.isWrapper Tryz.prog Tryz.f6 Rows.fnTextThereRow.wrapper Rows.fnTextThereRow.mainSum := by unfold Func.isWrapper; first | (rw [if_pos (by decide +kernel)]; kernel_rfl) | (rw [if_neg (by decide +kernel)]; exact ⟨rfl, rfl⟩)
theorem textThere_holds : Rows.FnTextThereSaid :=
  OpenClaim.holds_of_cond 6 Tryz.f6 rfl rfl rfl rfl rfl rfl rfl ⟨rfl, rfl, rfl, rfl, rfl⟩ rfl rfl rfl rfl rfl textThere_named Tryz.func6 textThere_closed textThere_inst textThere_wrap
    (fun os started H enc _ F => by rw [OpenClaim.pre_eq_preRow]; exact textThere_lifted os started H enc F)
theorem fnTextThere_card : Rows.FnTextThereCardSaid :=
  Claim7.holds_tied_plain_at .later [] [.data, .data, .widerDeep, .widerDeep, .data, .data, .data, .data, .data, .data, .sentinel, .sentinel, .data, .data, .sentinel, .sentinel, .sentinel, .pinned, .pinned, .pinned, .pinned] true (true, "709fda3d83bd93bf4f39926ad088f34f13377043fad0f27cd99caab4cd8ff96a") true textThere_holds (fun _ h => by cases h) (by kernel_rfl) (fun _ h => by cases h) fnTextThere_row_tie rfl ⟨rfl, rfl⟩ (by kernel_rfl) rfl
    (fun f fn hf hfn => by
      obtain rfl : f = 6 := Option.some.inj (textThere_named.symm.trans hf) |>.symm
      obtain rfl : fn = Tryz.f6 := (Option.some.inj (Tryz.func6.symm.trans hfn)).symm
      exact ⟨by kernel_rfl, fun j t ht => by
        rw [Tryz.params6] at ht
        have hm : t ∈ [25] := by simpa using Array.mem_of_getElem? ht
        have hall : ([25].all fun u => !Tryz.prog.wantsStandIn u) = true := by kernel_rfl
        exact (show Tryz.prog.wantsStandIn t = false by simpa using List.all_eq_true.1 hall t hm)⟩)
    (by kernel_rfl)
#print axioms fnTextThere_card
end Go.Proofs.YtghajgdiaopioaaGreatDoor
