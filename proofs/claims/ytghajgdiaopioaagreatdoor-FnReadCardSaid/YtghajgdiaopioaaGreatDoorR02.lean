/- The statement FnRead: its tied card holds. -/
import Derived.Test.YtghajgdiaopioaaGreatDoorTie
import Derived.Test.YtghajgdiaopioaaGreatDoorCards
import Derived.SevenTiedAt
import Derived.Test.YtghajgdiaopioaaGreatDoorR01
set_option linter.unusedVariables false
set_option linter.unusedSimpArgs false

namespace Go.Proofs.YtghajgdiaopioaaGreatDoor
open Go.ChangeShapes Go.WideShapes Go.ChangeAt Go.RowKit
set_option maxRecDepth 100000

theorem read_and {a b : Bool} (ha : a = true) (hb : b = true) : (a && b) = true := by rw [ha, hb]; rfl
set_option maxHeartbeats 4000000 in
theorem read_closed : joinedFacts Tryz.prog 7 Tryz.f7 (OpenSpec.ofChange Rows.fnReadSpec).bare Rows.fnReadRow = true := by
  unfold joinedFacts
  repeat' (with_reducible apply read_and)
  all_goals as_aux_lemma => kernel_rfl
theorem read_named : Tryz.prog.funcNamed Rows.fnReadRow.func = some 7 := by kernel_rfl
theorem read_inst : Func.isInstance Tryz.prog Tryz.f7 Rows.fnReadRow.origin Rows.fnReadRow.targs := of_decide_eq_true (by kernel_rfl)
theorem read_wrap : Func.isWrapper Tryz.prog Tryz.f7 Rows.fnReadRow.wrapper Rows.fnReadRow.mainSum := by unfold Func.isWrapper; first | (rw [if_pos (by decide +kernel)]; kernel_rfl) | (rw [if_neg (by decide +kernel)]; exact ⟨rfl, rfl⟩)
theorem read_holds : Rows.FnReadSaid :=
  OpenClaim.holds_of_cond 7 Tryz.f7 rfl rfl rfl rfl rfl rfl rfl ⟨rfl, rfl, rfl, rfl, rfl⟩ rfl rfl rfl rfl rfl read_named Tryz.func7 read_closed read_inst read_wrap
    (fun os started H enc _ F => by rw [OpenClaim.pre_eq_preRow]; exact read_lifted os started H enc F)
theorem fnRead_card : Rows.FnReadCardSaid :=
  Claim7.holds_tied_plain_at .later [] [.data, .data, .widerDeep, .widerDeep, .data, .data, .data, .data, .data, .data, .sentinel, .sentinel, .data, .data, .sentinel, .sentinel, .sentinel, .data, .pinned, .pinned, .pinned, .pinned] true (true, "709fda3d83bd93bf4f39926ad088f34f13377043fad0f27cd99caab4cd8ff96a") true read_holds (fun _ h => by cases h) (by kernel_rfl) (fun _ h => by cases h) fnRead_row_tie rfl ⟨rfl, rfl⟩ (by kernel_rfl) rfl
    (fun f fn hf hfn => by
      obtain rfl : f = 7 := Option.some.inj (read_named.symm.trans hf) |>.symm
      obtain rfl : fn = Tryz.f7 := (Option.some.inj (Tryz.func7.symm.trans hfn)).symm
      exact ⟨by kernel_rfl, fun j t ht => by
        rw [Tryz.params7] at ht
        have hm : t ∈ [25] := by simpa using Array.mem_of_getElem? ht
        have hall : ([25].all fun u => !Tryz.prog.wantsStandIn u) = true := by kernel_rfl
        exact (show Tryz.prog.wantsStandIn t = false by simpa using List.all_eq_true.1 hall t hm)⟩)
    (by kernel_rfl)
#print axioms fnRead_card
end Go.Proofs.YtghajgdiaopioaaGreatDoor
