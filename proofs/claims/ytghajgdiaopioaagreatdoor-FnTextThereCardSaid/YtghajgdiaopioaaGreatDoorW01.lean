/- Plain lists of bytes: the pieces into which a text is cut, no program in sight. -/
import Derived.Lib.Strings
import Derived.Deep.LoopGhost
import Derived.Test.YtghajgdiaopioaaGreatDoorProg
import Derived.WalkKit
import Derived.WalkLawsBesides
import Derived.WalkSpells
import Derived.Lib.Hide
import Derived.Deep.DeepCutAuto
import Derived.Deep.CutBlock
import Derived.Deep.QuietTactic
import Derived.BigQuiet
set_option linter.unusedVariables false
set_option linter.unusedSimpArgs false

namespace Go.Proofs.YtghajgdiaopioaaGreatDoor

abbrev toL (s : ByteArray) : List UInt8 := s.data.toList
def ofL (l : List UInt8) : ByteArray := ⟨l.toArray⟩

theorem toL_length (s : ByteArray) : (toL s).length = s.size := by simp [toL]
theorem toL_get (s : ByteArray) (k : Nat) (h : k < s.size) : (toL s)[k]'(by rw [toL_length]; exact h) = s[k] := by simp [toL]; rfl
theorem drop_at (s : ByteArray) (k : Nat) (h : k < s.size) {x : UInt8} (hx : s[k] = x) : (toL s).drop k = x :: (toL s).drop (k + 1) := by
  rw [List.drop_eq_getElem_cons (by rw [toL_length]; exact h), toL_get s k h, hx]
theorem take_at (s : ByteArray) (k : Nat) (h : k < s.size) {x : UInt8} (hx : s[k] = x) : (toL s).take (k + 1) = (toL s).take k ++ [x] := by
  rw [List.take_succ_eq_append_getElem (by rw [toL_length]; exact h), toL_get s k h, hx]

theorem ne_i {c : UInt8} (n : UInt8) (h : c ≠ n) : ((c.toNat : Int) != (n.toNat : Int)) = true := by
  rw [bne_iff_ne]; intro e; exact h (UInt8.toNat_inj.1 (by omega))
def isSp (c : UInt8) : Bool := c == 32 || c == 9 || c == 10
theorem isSp_yes {c : UInt8} (h : isSp c = true) : c = 32 ∨ c = 9 ∨ c = 10 := by simpa [isSp, or_assoc] using h
theorem isSp_no {c : UInt8} (h : isSp c = false) : ((c.toNat : Int) != 32) = true ∧ ((c.toNat : Int) != 9) = true ∧ ((c.toNat : Int) != 10) = true := by
  simp only [isSp, Bool.or_eq_false_iff, beq_eq_false_iff_ne] at h
  exact ⟨ne_i 32 h.1.1, ne_i 9 h.1.2, ne_i 10 h.2⟩

def rstrip (l : List UInt8) : List UInt8 := (l.reverse.dropWhile isSp).reverse
def lead (l : List UInt8) : Nat := (l.takeWhile isSp).length
def trimL (l : List UInt8) : List UInt8 := if (rstrip l).length ≤ lead l + 1 then [] else (rstrip l).drop (lead l)
theorem rstrip_snoc_sp (l : List UInt8) {c : UInt8} (h : isSp c = true) : rstrip (l ++ [c]) = rstrip l := by simp [rstrip, h]
theorem rstrip_snoc_no (l : List UInt8) {c : UInt8} (h : isSp c = false) : rstrip (l ++ [c]) = l ++ [c] := by simp [rstrip, h]
theorem rstrip_nil : rstrip [] = [] := rfl
theorem lead_cons_sp (l : List UInt8) {c : UInt8} (h : isSp c = true) : lead (c :: l) = lead l + 1 := by simp [lead, h]
theorem lead_cons_no (l : List UInt8) {c : UInt8} (h : isSp c = false) : lead (c :: l) = 0 := by simp [lead, h]
theorem lead_le (l : List UInt8) : lead l ≤ l.length := (List.takeWhile_sublist _).length_le
theorem ret_str {a b : ByteArray} (h : a = b) : Ending.returned (.string a) = .returned (.string b) := by rw [h]

theorem trim_end (s : ByteArray) (j : Nat) (hj : j ≤ s.size) (hr : rstrip (toL s) = (toL s).take j) (h : ¬ j ≤ lead (toL s) + 1) : s.extract (lead (toL s)) j = ofL (trimL (toL s)) := by
  have hl : (rstrip (toL s)).length = j := by rw [hr, List.length_take, toL_length]; omega
  unfold trimL
  rw [hl, if_neg h, hr]
  rw [Lib.extract_eq, ofL, List.drop_take]
theorem trim_nil (s : ByteArray) (j : Nat) (hj : j ≤ s.size) (hr : rstrip (toL s) = (toL s).take j) (h : j ≤ lead (toL s) + 1) : ofL (trimL (toL s)) = ⟨#[]⟩ := by
  have hl : (rstrip (toL s)).length = j := by rw [hr, List.length_take, toL_length]; omega
  unfold trimL
  rw [hl, if_pos h]
  rfl

end Go.Proofs.YtghajgdiaopioaaGreatDoor

/- Walks: what the small functions of reading a text compute. -/
namespace Go.Proofs.YtghajgdiaopioaaGreatDoor
open Go.RowKit

set_option maxHeartbeats 1000000 in
theorem trimSpace_calls (s : ByteArray) (w : World) (hs : s.size ≤ 1000000000) : Calls Tryz.prog 50 #[.string s] w fun e w' => e = .returned (.string (ofL (trimL (toL s)))) ∧ w = w' := by
  by_cases h0 : s.size = 0
  · have h0' : s = ⟨#[]⟩ := by
      apply ByteArray.ext; apply Array.eq_empty_of_size_eq_zero; exact h0
    subst h0'
    go_enter Tryz.func50, Tryz.ntmps50
    go_wp2
    go_ret
    exact ⟨rfl, rfl⟩
  · have h00 : ((s.size : Int) == 0) = false := by rw [beq_eq_false_iff_ne]; omega
    have hL := lead_le (toL s)
    rw [toL_length] at hL
    go_enter Tryz.func50, Tryz.ntmps50
    go_upto_block 0 with fail
    go_cut [3] (fun i wx => w = wx ∧ i = .int .i64 (lead (toL s)))
    case first =>
      go_wp2_with fail
      go_loopg [3] s.size (fun g i wx => w = wx ∧ ∃ k : Nat, k ≤ s.size ∧ g = s.size - k ∧ i = .int .i64 k ∧ lead (toL s) = k + lead ((toL s).drop k))
      case atStart => exact ⟨rfl, 0, Nat.zero_le _, rfl, rfl, by simp⟩
      case round =>
        obtain ⟨rfl, k, hk, rfl, rfl, hl⟩ := hrel
        have HL : Aside _ := hl; clear hl
        by_cases hlt : k < s.size
        · obtain ⟨x, hx⟩ : ∃ x : UInt8, s[k] = x := ⟨_, rfl⟩
          have HX : Aside _ := drop_at s k hlt hx
          cases hsx : isSp x
          · obtain ⟨n1, n2, n3⟩ := isSp_no hsx
            have HS : Aside _ := hsx; clear hsx
            go_wp2
            go_meet
            exact ⟨rfl, by rw [HL.out, HX.out, lead_cons_no _ HS.out]; rfl⟩
          · rcases isSp_yes hsx with rfl | rfl | rfl
            all_goals
              have HS : Aside _ := hsx; clear hsx
              go_wp2
              go_roundg (s.size - (k + 1))
              case measure => omega
              case rel => exact ⟨rfl, k + 1, by omega, rfl, by go_num, by rw [HL.out, HX.out, lead_cons_sp _ HS.out]; omega⟩
        · obtain rfl : k = s.size := by omega
          have hkz : ¬ ((s.size : Int) < (s.size : Int)) := by omega
          go_wp2
          go_meet
          exact ⟨rfl, by rw [HL.out, List.drop_of_length_le (by rw [toL_length]; exact Nat.le_refl _)]; rfl⟩
    case rest =>
      obtain ⟨rfl, rfl⟩ := hcut
      go_upto_block 2 with fail
      go_cut [4] (fun i wx => w = wx ∧ ∃ j : Nat, j ≤ s.size ∧ i = .int .i64 ((j : Int) - 1) ∧ rstrip (toL s) = (toL s).take j)
      case first =>
        go_wp2_with fail
        go_loopg [4] s.size (fun g i wx => w = wx ∧ ∃ j : Nat, j ≤ s.size ∧ g = j ∧ i = .int .i64 ((j : Int) - 1) ∧ rstrip (toL s) = rstrip ((toL s).take j))
        case atStart => exact ⟨rfl, s.size, Nat.le_refl _, rfl, rfl, by rw [← toL_length, List.take_length]⟩
        case round =>
          obtain ⟨rfl, j, hj, rfl, rfl, hl⟩ := hrel
          have HL : Aside _ := hl; clear hl
          by_cases hlt : 0 < gk
          · obtain ⟨k, rfl⟩ : ∃ k, gk = k + 1 := ⟨gk - 1, by omega⟩
            have e1 : (((k + 1 : Nat) : Int) - 1) = (k : Int) := by omega
            have hk : k < s.size := by omega
            rw [e1]
            clear e1
            obtain ⟨x, hx⟩ : ∃ x : UInt8, s[k] = x := ⟨_, rfl⟩
            have HX : Aside _ := take_at s k hk hx
            cases hsx : isSp x
            · obtain ⟨n1, n2, n3⟩ := isSp_no hsx
              have HS : Aside _ := hsx; clear hsx
              go_wp2
              go_meet
              exact ⟨rfl, k + 1, by omega, by go_num, by rw [HL.out, HX.out, rstrip_snoc_no _ HS.out]⟩
            · rcases isSp_yes hsx with rfl | rfl | rfl
              all_goals
                have HS : Aside _ := hsx; clear hsx
                go_wp2
                go_roundg k
                case measure => omega
                case rel => exact ⟨rfl, k, by omega, rfl, by go_num, by rw [HL.out, HX.out, rstrip_snoc_sp _ HS.out]⟩
          · obtain rfl : gk = 0 := by omega
            go_wp2
            go_meet
            exact ⟨rfl, 0, by omega, rfl, by rw [HL.out]; simp [rstrip]⟩
      case rest =>
        obtain ⟨rfl, j, hj, rfl, hr⟩ := hcut
        have HR : Aside _ := hr; clear hr
        by_cases hc : j ≤ lead (toL s) + 1
        · go_wp2
          go_ret
          exact ⟨ret_str (trim_nil s j hj HR.out hc).symm, rfl⟩
        · go_wp2
          go_ret
          exact ⟨ret_str (trim_end s j hj HR.out hc), rfl⟩
end Go.Proofs.YtghajgdiaopioaaGreatDoor
