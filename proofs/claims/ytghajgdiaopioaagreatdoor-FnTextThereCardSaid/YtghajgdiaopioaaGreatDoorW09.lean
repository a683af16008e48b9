/- Walks: the places that match ")( , )(". -/
import Derived.Test.YtghajgdiaopioaaGreatDoorW03
import Derived.Test.YtghajgdiaopioaaGreatDoorW04
set_option linter.unusedVariables false
set_option linter.unusedSimpArgs false

namespace Go.Proofs.YtghajgdiaopioaaGreatDoor
open Go.RowKit

/-- Is there this byte at place i? -/
def isAt (l : List UInt8) (i : Nat) (c : UInt8) : Bool := l[i]? == some c

/-- Over the class, and over one byte behind it. -/
def step1 (l : List UInt8) (i : Nat) (c : UInt8) : Option Nat := if isAt l (over l i) c then some (over l i + 1) else none

def matchP (l : List UInt8) (i : Nat) (dbl : Bool) : Option (Nat × Nat × Nat × Nat) :=
  if isAt l i 41 then
    match (if dbl then step1 l (i + 1) 41 else some (i + 1)) with
    | none => none
    | some f =>
      match step1 l f 44 with
      | none => none
      | some g =>
        match step1 l g 40 with
        | none => none
        | some h =>
          match (if dbl then step1 l h 40 else some h) with
          | none => none
          | some e => some (i, f, h - 1, e)
  else none

def matchV : Option (Nat × Nat × Nat × Nat) → Value
  | some (b, f, t, e) => .tuple #[.int .i64 b, .int .i64 f, .int .i64 t, .int .i64 e, .bool true]
  | none => .tuple #[.int .i64 0, .int .i64 0, .int .i64 0, .int .i64 0, .bool false]

theorem isAt_lt {l : List UInt8} {i : Nat} {c : UInt8} (h : isAt l i c = true) : i < l.length := by
  unfold isAt at h
  rcases Nat.lt_or_ge i l.length with h' | h'
  · exact h'
  · rw [List.getElem?_eq_none h'] at h; simp at h

theorem isAt_at {s : ByteArray} {i : Nat} (h : i < s.size) {x : UInt8} (hx : s[i] = x) (c : UInt8) : isAt (toL s) i c = (x == c) := by
  unfold isAt
  rw [List.getElem?_eq_getElem (by rw [toL_length]; exact h), toL_get s i h, hx]
  simp

theorem step1_le {l : List UInt8} {i j : Nat} {c : UInt8} (h : step1 l i c = some j) : j ≤ l.length ∧ i < j := by
  unfold step1 at h
  split at h
  · rename_i hh; cases h; have := isAt_lt hh; have := over_ge l i; omega
  · cases h

theorem results_tmp5 {fn : Func} {t u v x y : Tmp} (h : fn.results = #[.tmp t, .tmp u, .tmp v, .tmp x, .tmp y]) (tmps : Array Value) (P : Program) (w : World) :
    (results fn tmps).run P w = .ok (.tuple #[tmps.getD t undef, tmps.getD u undef, tmps.getD v undef, tmps.getD x undef, tmps.getD y undef]) w := by
  simp [results, h]

theorem step1_no {l : List UInt8} {i : Nat} {c : UInt8} (h : isAt l (over l i) c = false) : step1 l i c = none := by unfold step1; rw [h]; rfl
theorem step1_yes {l : List UInt8} {i : Nat} {c : UInt8} (h : isAt l (over l i) c = true) : step1 l i c = some (over l i + 1) := by unfold step1; rw [h]; rfl


set_option maxHeartbeats 4000000 in
theorem match_single (s : ByteArray) (i : Nat) (w : World) (hs : s.size ≤ 1000000000) (hi : i < s.size) :
    Calls Tryz.prog 119 #[.string s, .int .i64 i, .bool false] w fun e w' => e = .returned (matchV (matchP (toL s) i false)) ∧ w = w' := by
  obtain ⟨x, hx⟩ : ∃ x : UInt8, s[i] = x := ⟨_, rfl⟩
  have hat := isAt_at hi hx 41
  by_cases h41 : x = 41
  · subst h41
    have hm : matchP (toL s) i false = matchP (toL s) i false := rfl
    conv at hm => rhs; unfold matchP; rw [hat]; simp only [beq_self_eq_true, if_true, Bool.false_eq_true, if_false]
    have HM := Lib.hid hm; clear hm hat
    go_enter Tryz.func119, Tryz.ntmps119
    have ho0 := overClass_calls s (i + 1) w hs (by omega)
    have hle0 := over_le (toL s) (i + 1) (by rw [toL_length]; omega)
    have hge0 := over_ge (toL s) (i + 1)
    rw [toL_length] at hle0
    have hy0 := @step1_yes (toL s) (i + 1) 44
    have hn0 := @step1_no (toL s) (i + 1) 44
    obtain ⟨j0, HJ0⟩ : ∃ j, over (toL s) (i + 1) = j := ⟨_, rfl⟩
    rw [HJ0] at ho0 hle0 hge0 hy0 hn0
    clear HJ0
    go_wp2_with (go_at_call 133; refine ho0.mono ?_; rintro e w' ⟨rfl, rfl⟩; refine Hid.out ?_)
    refine Lib.hid ?_
    clear ho0
    by_cases hlt0 : j0 < s.size
    · obtain ⟨x0, hx0⟩ : ∃ x : UInt8, s[j0] = x := ⟨_, rfl⟩
      have hat0 := isAt_at hlt0 hx0 44
      by_cases hc0 : x0 = 44
      · subst hc0
        have hy := hy0 (by rw [hat0]; rfl)
        have hm := HM.out
        rw [hy] at hm
        simp only [] at hm
        clear HM hat0 hy0 hn0 hy
        have HM := Lib.hid hm; clear hm
        have ho1 := overClass_calls s (j0 + 1) w hs (by omega)
        have hle1 := over_le (toL s) (j0 + 1) (by rw [toL_length]; omega)
        have hge1 := over_ge (toL s) (j0 + 1)
        rw [toL_length] at hle1
        have hy1 := @step1_yes (toL s) (j0 + 1) 40
        have hn1 := @step1_no (toL s) (j0 + 1) 40
        obtain ⟨j1, HJ1⟩ : ∃ j, over (toL s) (j0 + 1) = j := ⟨_, rfl⟩
        rw [HJ1] at ho1 hle1 hge1 hy1 hn1
        clear HJ1
        go_wp2_with (go_at_call 133; refine ho1.mono ?_; rintro e w' ⟨rfl, rfl⟩; refine Hid.out ?_)
        refine Lib.hid ?_
        clear ho1
        by_cases hlt1 : j1 < s.size
        · obtain ⟨x1, hx1⟩ : ∃ x : UInt8, s[j1] = x := ⟨_, rfl⟩
          have hat1 := isAt_at hlt1 hx1 40
          by_cases hc1 : x1 = 40
          · subst hc1
            have hy := hy1 (by rw [hat1]; rfl)
            have hm := HM.out
            rw [hy] at hm
            simp only [] at hm
            clear HM hat1 hy1 hn1 hy
            have HM := Lib.hid hm; clear hm
            go_wp2_with fail
            (try simp only [Exit.inBlock, Exit.then])
            refine bodyPost_ret (results_tmp5 rfl _ _ _) rfl ?_
            exact ⟨by rw [HM.out]; unfold matchV; simp, rfl⟩
          · have n1 : ((x1.toNat : Int) != 40) = true := ne_i 40 hc1
            have hn := hn1 (by rw [hat1]; simpa using hc1)
            have hm := HM.out
            rw [hn] at hm
            simp only [] at hm
            clear HM hat1 hy1 hn1 hn hc1
            have HM := Lib.hid hm; clear hm
            go_wp2_with fail
            (try simp only [Exit.inBlock, Exit.then])
            refine bodyPost_ret (results_tmp5 rfl _ _ _) rfl ?_
            exact ⟨by rw [HM.out]; rfl, rfl⟩
        · have hn := hn1 (by
            cases hq : isAt (toL s) j1 40
            · rfl
            · have := isAt_lt hq; rw [toL_length] at this; omega)
          have hz : (s.size : Int) ≤ (j1 : Int) := by omega
          have hm := HM.out
          rw [hn] at hm
          simp only [] at hm
          clear HM hy1 hn1 hn
          have HM := Lib.hid hm; clear hm
          go_wp2_with fail
          (try simp only [Exit.inBlock, Exit.then])
          refine bodyPost_ret (results_tmp5 rfl _ _ _) rfl ?_
          exact ⟨by rw [HM.out]; rfl, rfl⟩
      · have n0 : ((x0.toNat : Int) != 44) = true := ne_i 44 hc0
        have hn := hn0 (by rw [hat0]; simpa using hc0)
        have hm := HM.out
        rw [hn] at hm
        simp only [] at hm
        clear HM hat0 hy0 hn0 hn hc0
        have HM := Lib.hid hm; clear hm
        go_wp2_with fail
        (try simp only [Exit.inBlock, Exit.then])
        refine bodyPost_ret (results_tmp5 rfl _ _ _) rfl ?_
        exact ⟨by rw [HM.out]; rfl, rfl⟩
    · have hn := hn0 (by
        cases hq : isAt (toL s) j0 44
        · rfl
        · have := isAt_lt hq; rw [toL_length] at this; omega)
      have hz : (s.size : Int) ≤ (j0 : Int) := by omega
      have hm := HM.out
      rw [hn] at hm
      simp only [] at hm
      clear HM hy0 hn0 hn
      have HM := Lib.hid hm; clear hm
      go_wp2_with fail
      (try simp only [Exit.inBlock, Exit.then])
      refine bodyPost_ret (results_tmp5 rfl _ _ _) rfl ?_
      exact ⟨by rw [HM.out]; rfl, rfl⟩
  · have n41 : ((x.toNat : Int) != 41) = true := ne_i 41 h41
    have hm : matchP (toL s) i false = none := by unfold matchP; rw [hat]; simp [h41]
    rw [hm]
    clear hm hat h41
    go_enter Tryz.func119, Tryz.ntmps119
    go_wp2
    (try simp only [Exit.inBlock, Exit.then])
    refine bodyPost_ret (results_tmp5 rfl _ _ _) rfl ?_
    exact ⟨rfl, rfl⟩

set_option maxHeartbeats 4000000 in
theorem match_double (s : ByteArray) (i : Nat) (w : World) (hs : s.size ≤ 1000000000) (hi : i < s.size) :
    Calls Tryz.prog 119 #[.string s, .int .i64 i, .bool true] w fun e w' => e = .returned (matchV (matchP (toL s) i true)) ∧ w = w' := by
  obtain ⟨x, hx⟩ : ∃ x : UInt8, s[i] = x := ⟨_, rfl⟩
  have hat := isAt_at hi hx 41
  by_cases h41 : x = 41
  · subst h41
    have hm : matchP (toL s) i true = matchP (toL s) i true := rfl
    conv at hm => rhs; unfold matchP; rw [hat]; simp only [beq_self_eq_true, if_true, Bool.false_eq_true, if_false]
    have HM := Lib.hid hm; clear hm hat
    go_enter Tryz.func119, Tryz.ntmps119
    have ho0 := overClass_calls s (i + 1) w hs (by omega)
    have hle0 := over_le (toL s) (i + 1) (by rw [toL_length]; omega)
    have hge0 := over_ge (toL s) (i + 1)
    rw [toL_length] at hle0
    have hy0 := @step1_yes (toL s) (i + 1) 41
    have hn0 := @step1_no (toL s) (i + 1) 41
    obtain ⟨j0, HJ0⟩ : ∃ j, over (toL s) (i + 1) = j := ⟨_, rfl⟩
    rw [HJ0] at ho0 hle0 hge0 hy0 hn0
    clear HJ0
    go_wp2_with (go_at_call 133; refine ho0.mono ?_; rintro e w' ⟨rfl, rfl⟩; refine Hid.out ?_)
    refine Lib.hid ?_
    clear ho0
    by_cases hlt0 : j0 < s.size
    · obtain ⟨x0, hx0⟩ : ∃ x : UInt8, s[j0] = x := ⟨_, rfl⟩
      have hat0 := isAt_at hlt0 hx0 41
      by_cases hc0 : x0 = 41
      · subst hc0
        have hy := hy0 (by rw [hat0]; rfl)
        have hm := HM.out
        rw [hy] at hm
        simp only [] at hm
        clear HM hat0 hy0 hn0 hy
        have HM := Lib.hid hm; clear hm
        have ho1 := overClass_calls s (j0 + 1) w hs (by omega)
        have hle1 := over_le (toL s) (j0 + 1) (by rw [toL_length]; omega)
        have hge1 := over_ge (toL s) (j0 + 1)
        rw [toL_length] at hle1
        have hy1 := @step1_yes (toL s) (j0 + 1) 44
        have hn1 := @step1_no (toL s) (j0 + 1) 44
        obtain ⟨j1, HJ1⟩ : ∃ j, over (toL s) (j0 + 1) = j := ⟨_, rfl⟩
        rw [HJ1] at ho1 hle1 hge1 hy1 hn1
        clear HJ1
        go_wp2_with (go_at_call 133; refine ho1.mono ?_; rintro e w' ⟨rfl, rfl⟩; refine Hid.out ?_)
        refine Lib.hid ?_
        clear ho1
        by_cases hlt1 : j1 < s.size
        · obtain ⟨x1, hx1⟩ : ∃ x : UInt8, s[j1] = x := ⟨_, rfl⟩
          have hat1 := isAt_at hlt1 hx1 44
          by_cases hc1 : x1 = 44
          · subst hc1
            have hy := hy1 (by rw [hat1]; rfl)
            have hm := HM.out
            rw [hy] at hm
            simp only [] at hm
            clear HM hat1 hy1 hn1 hy
            have HM := Lib.hid hm; clear hm
            have ho2 := overClass_calls s (j1 + 1) w hs (by omega)
            have hle2 := over_le (toL s) (j1 + 1) (by rw [toL_length]; omega)
            have hge2 := over_ge (toL s) (j1 + 1)
            rw [toL_length] at hle2
            have hy2 := @step1_yes (toL s) (j1 + 1) 40
            have hn2 := @step1_no (toL s) (j1 + 1) 40
            obtain ⟨j2, HJ2⟩ : ∃ j, over (toL s) (j1 + 1) = j := ⟨_, rfl⟩
            rw [HJ2] at ho2 hle2 hge2 hy2 hn2
            clear HJ2
            go_wp2_with (go_at_call 133; refine ho2.mono ?_; rintro e w' ⟨rfl, rfl⟩; refine Hid.out ?_)
            refine Lib.hid ?_
            clear ho2
            by_cases hlt2 : j2 < s.size
            · obtain ⟨x2, hx2⟩ : ∃ x : UInt8, s[j2] = x := ⟨_, rfl⟩
              have hat2 := isAt_at hlt2 hx2 40
              by_cases hc2 : x2 = 40
              · subst hc2
                have hy := hy2 (by rw [hat2]; rfl)
                have hm := HM.out
                rw [hy] at hm
                simp only [] at hm
                clear HM hat2 hy2 hn2 hy
                have HM := Lib.hid hm; clear hm
                have ho3 := overClass_calls s (j2 + 1) w hs (by omega)
                have hle3 := over_le (toL s) (j2 + 1) (by rw [toL_length]; omega)
                have hge3 := over_ge (toL s) (j2 + 1)
                rw [toL_length] at hle3
                have hy3 := @step1_yes (toL s) (j2 + 1) 40
                have hn3 := @step1_no (toL s) (j2 + 1) 40
                obtain ⟨j3, HJ3⟩ : ∃ j, over (toL s) (j2 + 1) = j := ⟨_, rfl⟩
                rw [HJ3] at ho3 hle3 hge3 hy3 hn3
                clear HJ3
                go_wp2_with (go_at_call 133; refine ho3.mono ?_; rintro e w' ⟨rfl, rfl⟩; refine Hid.out ?_)
                refine Lib.hid ?_
                clear ho3
                by_cases hlt3 : j3 < s.size
                · obtain ⟨x3, hx3⟩ : ∃ x : UInt8, s[j3] = x := ⟨_, rfl⟩
                  have hat3 := isAt_at hlt3 hx3 40
                  by_cases hc3 : x3 = 40
                  · subst hc3
                    have hy := hy3 (by rw [hat3]; rfl)
                    have hm := HM.out
                    rw [hy] at hm
                    simp only [] at hm
                    clear HM hat3 hy3 hn3 hy
                    have HM := Lib.hid hm; clear hm
                    go_wp2_with fail
                    (try simp only [Exit.inBlock, Exit.then])
                    refine bodyPost_ret (results_tmp5 rfl _ _ _) rfl ?_
                    exact ⟨by rw [HM.out]; unfold matchV; simp, rfl⟩
                  · have n3 : ((x3.toNat : Int) != 40) = true := ne_i 40 hc3
                    have hn := hn3 (by rw [hat3]; simpa using hc3)
                    have hm := HM.out
                    rw [hn] at hm
                    simp only [] at hm
                    clear HM hat3 hy3 hn3 hn hc3
                    have HM := Lib.hid hm; clear hm
                    go_wp2_with fail
                    (try simp only [Exit.inBlock, Exit.then])
                    refine bodyPost_ret (results_tmp5 rfl _ _ _) rfl ?_
                    exact ⟨by rw [HM.out]; rfl, rfl⟩
                · have hn := hn3 (by
                    cases hq : isAt (toL s) j3 40
                    · rfl
                    · have := isAt_lt hq; rw [toL_length] at this; omega)
                  have hz : (s.size : Int) ≤ (j3 : Int) := by omega
                  have hm := HM.out
                  rw [hn] at hm
                  simp only [] at hm
                  clear HM hy3 hn3 hn
                  have HM := Lib.hid hm; clear hm
                  go_wp2_with fail
                  (try simp only [Exit.inBlock, Exit.then])
                  refine bodyPost_ret (results_tmp5 rfl _ _ _) rfl ?_
                  exact ⟨by rw [HM.out]; rfl, rfl⟩
              · have n2 : ((x2.toNat : Int) != 40) = true := ne_i 40 hc2
                have hn := hn2 (by rw [hat2]; simpa using hc2)
                have hm := HM.out
                rw [hn] at hm
                simp only [] at hm
                clear HM hat2 hy2 hn2 hn hc2
                have HM := Lib.hid hm; clear hm
                go_wp2_with fail
                (try simp only [Exit.inBlock, Exit.then])
                refine bodyPost_ret (results_tmp5 rfl _ _ _) rfl ?_
                exact ⟨by rw [HM.out]; rfl, rfl⟩
            · have hn := hn2 (by
                cases hq : isAt (toL s) j2 40
                · rfl
                · have := isAt_lt hq; rw [toL_length] at this; omega)
              have hz : (s.size : Int) ≤ (j2 : Int) := by omega
              have hm := HM.out
              rw [hn] at hm
              simp only [] at hm
              clear HM hy2 hn2 hn
              have HM := Lib.hid hm; clear hm
              go_wp2_with fail
              (try simp only [Exit.inBlock, Exit.then])
              refine bodyPost_ret (results_tmp5 rfl _ _ _) rfl ?_
              exact ⟨by rw [HM.out]; rfl, rfl⟩
          · have n1 : ((x1.toNat : Int) != 44) = true := ne_i 44 hc1
            have hn := hn1 (by rw [hat1]; simpa using hc1)
            have hm := HM.out
            rw [hn] at hm
            simp only [] at hm
            clear HM hat1 hy1 hn1 hn hc1
            have HM := Lib.hid hm; clear hm
            go_wp2_with fail
            (try simp only [Exit.inBlock, Exit.then])
            refine bodyPost_ret (results_tmp5 rfl _ _ _) rfl ?_
            exact ⟨by rw [HM.out]; rfl, rfl⟩
        · have hn := hn1 (by
            cases hq : isAt (toL s) j1 44
            · rfl
            · have := isAt_lt hq; rw [toL_length] at this; omega)
          have hz : (s.size : Int) ≤ (j1 : Int) := by omega
          have hm := HM.out
          rw [hn] at hm
          simp only [] at hm
          clear HM hy1 hn1 hn
          have HM := Lib.hid hm; clear hm
          go_wp2_with fail
          (try simp only [Exit.inBlock, Exit.then])
          refine bodyPost_ret (results_tmp5 rfl _ _ _) rfl ?_
          exact ⟨by rw [HM.out]; rfl, rfl⟩
      · have n0 : ((x0.toNat : Int) != 41) = true := ne_i 41 hc0
        have hn := hn0 (by rw [hat0]; simpa using hc0)
        have hm := HM.out
        rw [hn] at hm
        simp only [] at hm
        clear HM hat0 hy0 hn0 hn hc0
        have HM := Lib.hid hm; clear hm
        go_wp2_with fail
        (try simp only [Exit.inBlock, Exit.then])
        refine bodyPost_ret (results_tmp5 rfl _ _ _) rfl ?_
        exact ⟨by rw [HM.out]; rfl, rfl⟩
    · have hn := hn0 (by
        cases hq : isAt (toL s) j0 41
        · rfl
        · have := isAt_lt hq; rw [toL_length] at this; omega)
      have hz : (s.size : Int) ≤ (j0 : Int) := by omega
      have hm := HM.out
      rw [hn] at hm
      simp only [] at hm
      clear HM hy0 hn0 hn
      have HM := Lib.hid hm; clear hm
      go_wp2_with fail
      (try simp only [Exit.inBlock, Exit.then])
      refine bodyPost_ret (results_tmp5 rfl _ _ _) rfl ?_
      exact ⟨by rw [HM.out]; rfl, rfl⟩
  · have n41 : ((x.toNat : Int) != 41) = true := ne_i 41 h41
    have hm : matchP (toL s) i true = none := by unfold matchP; rw [hat]; simp [h41]
    rw [hm]
    clear hm hat h41
    go_enter Tryz.func119, Tryz.ntmps119
    go_wp2
    (try simp only [Exit.inBlock, Exit.then])
    refine bodyPost_ret (results_tmp5 rfl _ _ _) rfl ?_
    exact ⟨rfl, rfl⟩
end Go.Proofs.YtghajgdiaopioaaGreatDoor

/- Walks: all the places that match ")( , )(". -/
namespace Go.Proofs.YtghajgdiaopioaaGreatDoor
open Go.RowKit

abbrev Q4 : Type := Nat × Nat × Nat × Nat
theorem match_le {l : List UInt8} {i : Nat} {d : Bool} {q : Q4} (h : matchP l i d = some q) : q.1 = i ∧ i < q.2.1 ∧ q.2.1 ≤ q.2.2.1 ∧ q.2.2.1 < q.2.2.2 ∧ q.2.2.2 ≤ l.length := by
  unfold matchP at h
  split at h
  · rename_i hat
    have := isAt_lt hat
    split at h
    · cases h
    · rename_i f hf
      split at h
      · cases h
      · rename_i g hg
        split at h
        · cases h
        · rename_i hh hhh
          split at h
          · cases h
          · rename_i e he
            cases h
            have h1 := step1_le hg
            have h2 := step1_le hhh
            have h0 : i < f := by
              cases d
              · simp at hf; omega
              · simp at hf; have := step1_le hf; omega
            have h3 : hh ≤ e ∧ e ≤ l.length := by
              cases d
              · simp at he; omega
              · simp at he; have := step1_le he; omega
            refine ⟨rfl, h0, ?_, ?_, h3.2⟩
            · show f ≤ hh - 1; omega
            · show hh - 1 < e; omega
  · cases h

def findGo (l : List UInt8) (d : Bool) : Nat → Nat → List Q4
  | 0, _ => []
  | n + 1, i => if i < l.length then (match matchP l i d with | some q => q :: findGo l d n q.2.2.2 | none => findGo l d n (i + 1)) else []
def findP (l : List UInt8) (d : Bool) : List Q4 := findGo l d (l.length + 1) 0

/-- One match, as a row of four numbers. -/
def Four (w : World) (q : Q4) (x : Value) : Prop :=
  ∃ g, x = .slice (some ⟨g, 0, none⟩) 4 4 ∧ w.heap[g]? = some (.cells #[.int .i64 q.1, .int .i64 q.2.2.2, .int .i64 q.2.1, .int .i64 q.2.2.1] 3 (0, 0))

inductive Fours (w : World) : List Q4 → List Value → Prop
  | nil : Fours w [] []
  | snoc {qs : List Q4} {xs : List Value} {q : Q4} {x : Value} : Fours w qs xs → Four w q x → Fours w (qs ++ [q]) (xs ++ [x])

theorem Fours.keep {w w' : World} (hk : ∀ (g : Nat) (cur : Array Value), w.heap[g]? = some (Obj.cells cur 3 (0, 0)) → w'.heap[g]? = some (Obj.cells cur 3 (0, 0))) {qs : List Q4} {xs : List Value} (h : Fours w qs xs) : Fours w' qs xs := by
  induction h with
  | nil => exact .nil
  | snoc _ h2 ih => obtain ⟨g, h3, h4⟩ := h2; exact .snoc ih ⟨g, h3, hk _ _ h4⟩
theorem Fours.len {w : World} {qs : List Q4} {xs : List Value} (h : Fours w qs xs) : qs.length = xs.length := by
  induction h with
  | nil => rfl
  | snoc _ _ ih => simp [ih]

/-- The list of the matches, as it lies in memory. -/
def Parens (w : World) (B : Nat) (v : Value) (qs : List Q4) : Prop := ∃ xs, w.ownsRow B 144 1 v qs.length xs ∧ Fours w qs xs

theorem info144 : (Tryz.prog.info? 144).map (fun i => (i.zero, i.size, i.bytes)) = some (some (.slice none 0 0), 1, 24) := by kernel_rfl

theorem match_any (s : ByteArray) (i : Nat) (d : Bool) (w : World) (hs : s.size ≤ 1000000000) (hi : i < s.size) :
    Calls Tryz.prog 119 #[.string s, .int .i64 i, .bool d] w fun e w' => e = .returned (matchV (matchP (toL s) i d)) ∧ w = w' := by
  cases d
  · exact match_single s i w hs hi
  · exact match_double s i w hs hi

theorem findGo_more (l : List UInt8) (d : Bool) : ∀ (n m i : Nat), l.length < n + i → l.length < m + i → findGo l d n i = findGo l d m i := by
  intro n
  induction n with
  | zero =>
    intro m i h1 h2
    cases m with
    | zero => rfl
    | succ m => rw [findGo, findGo, if_neg (by omega)]
  | succ n ih =>
    intro m i h1 h2
    cases m with
    | zero => rw [findGo, findGo, if_neg (by omega)]
    | succ m =>
      rw [findGo, findGo]
      split
      · cases hq : matchP l i d with
        | none => exact ih m (i + 1) (by omega) (by omega)
        | some q =>
          have := match_le hq
          show q :: _ = q :: _
          rw [ih m q.2.2.2 (by omega) (by omega)]
      · rfl

set_option maxHeartbeats 2000000 in
theorem findParens_calls (s : ByteArray) (d : Bool) (w : World) (hs : s.size ≤ 1000000000) :
    Calls Tryz.prog 107 #[.string s, .bool d] w fun e w' => ∃ v, e = .returned v ∧ Parens w' w.heap.size v (findP (toL s) d) ∧ Bel w w' := by
  obtain ⟨i0, hi, hz0, hz1, hz2⟩ := info_parts info144
  go_enter Tryz.func107, Tryz.ntmps107
  go_wp2_with fail
  go_loopg [5, 6] (s.size + 1) (fun g v j wr => ∃ (i : Nat) (qs : List Q4) (xs : List Value), i ≤ s.size ∧ g = s.size + 1 - i ∧ j = .int .i64 i ∧ wr.ownsRow w.heap.size 144 1 v qs.length xs ∧ Fours wr qs xs ∧ Hid (qs ++ findGo (toL s) d (s.size + 1) i = findP (toL s) d) ∧ Bel w wr ∧ qs.length ≤ i)
  case atStart => exact ⟨0, [], [], by omega, rfl, rfl, World.ownsRow_nil _ _ _ _, .nil, by show _ = _; rw [findP, toL_length]; rfl, Below.refl _ _, by simp⟩
  case round =>
    obtain ⟨i, qs, xs, hle, rfl, rfl, hown, hfs, HQ, hbel, hql⟩ := hrel
    by_cases hlt : i < s.size
    · cases hm : matchP (toL s) i d with
      | none =>
        have hc := fun wx => match_any s i d wx hs hlt
        rw [hm] at hc
        simp only [matchV] at hc
        have HC := Lib.hid hc; clear hc
        have HM := Lib.hid hm; clear hm
        go_wp2_with (go_at_call 119; refine (HC.out _).mono ?_; rintro e w' ⟨rfl, rfl⟩)
        go_roundg (s.size + 1 - (i + 1))
        case measure => omega
        case rel => exact ⟨i + 1, qs, xs, by omega, rfl, by go_num, hown, hfs, by
          show _ = _
          rw [← HQ.out, show findGo (toL s) d (s.size + 1) i = findGo (toL s) d s.size (i + 1) from by rw [findGo, if_pos (by rw [toL_length]; exact hlt), HM.out]]
          rw [findGo_more (toL s) d (s.size + 1) s.size (i + 1) (by rw [toL_length]; omega) (by rw [toL_length]; omega)], hbel, by omega⟩
      | some q =>
        obtain ⟨b, f, tt, e⟩ := q
        have hml := match_le hm
        rw [toL_length] at hml
        simp only [] at hml
        obtain ⟨rfl, l1, l2, l3, l4⟩ := hml
        have hc := fun wx => match_any s b d wx hs hlt
        rw [hm] at hc
        simp only [matchV] at hc
        have HC := Lib.hid hc; clear hc
        have HM := Lib.hid hm; clear hm
        have HOWN := Lib.hid hown
        have HFS := Lib.hid hfs
        have HBEL := Lib.hid hbel
        clear hown hfs hbel
        go_wp2_with (first | (go_at_call 119; refine (HC.out _).mono ?_; rintro e w' ⟨rfl, rfl⟩) | (at_builtin; refine wpList_append1 _ [_] 144 rfl (.tmp 30) (.tmp 36) 142 rfl w.heap.size i0 (.slice none 0 0) 1 24 Tryz.underlying142 hi hz0 hz1 hz2 rfl (by decide) _ qs.length xs rfl (HOWN.out.alloc _) _ _ rfl (by simp) rfl ?_ ?_ ?_ ?_ ?_))
        · exact fun u hu => by simp at hu; subst hu; rfl
        · omega
        · unfold maxLen; omega
        · have := HBEL.out.size; simp; omega
        · intro v' w' h2 h3
          have H2 := Lib.hid h2
          have H3 := Lib.hid h3
          clear h2 h3
          go_wp2
          go_roundg (s.size + 1 - e)
          case measure => omega
          case rel =>
            have hgb : ∀ (g : Nat) (cur : Array Value), wr.heap[g]? = some (Obj.cells cur 3 (0, 0)) → w'.heap[g]? = some (Obj.cells cur 3 (0, 0)) := fun g cur hg =>
              grown_heap H3.out ((Bel.al _ _).heap hg) (own_ne HOWN.out hg (by decide))
            refine ⟨e, qs ++ [(b, f, tt, e)], xs ++ [_], by omega, rfl, rfl, by rw [List.length_append]; exact H2.out, .snoc (HFS.out.keep hgb) ⟨wr.heap.size, rfl, ?_⟩, ?_, ?_, by simp; omega⟩
            · refine grown_heap H3.out (heap_alloc_new wr _) (own_ne (HOWN.out.alloc (.cells #[.int .i64 b, .int .i64 e, .int .i64 f, .int .i64 tt] 3)) (heap_alloc_new wr _) (by decide))
            · show _ = _
              rw [← HQ.out, List.append_assoc, show findGo (toL s) d (s.size + 1) b = (b, f, tt, e) :: findGo (toL s) d s.size e from by rw [findGo, if_pos (by rw [toL_length]; exact hlt), HM.out]]
              rw [findGo_more (toL s) d (s.size + 1) s.size e (by rw [toL_length]; omega) (by rw [toL_length]; omega)]
              rfl
            · refine HBEL.out.trans (Below.grown ((Below.refl _ _).alloc HBEL.out.size _) H3.out (by have := HBEL.out.size; simp; omega) ?_)
              intro k hk
              exact (HOWN.out.lt k hk).1
    · obtain rfl : i = s.size := by omega
      have hkz : ¬ ((s.size : Int) < (s.size : Int)) := by omega
      go_wp2
      go_ret
      have HQ' := HQ.out
      rw [findGo, if_neg (by rw [toL_length]; omega), List.append_nil] at HQ'
      exact ⟨_, rfl, ⟨xs, by rw [← HQ']; exact hown, by rw [← HQ']; exact hfs⟩, hbel⟩
end Go.Proofs.YtghajgdiaopioaaGreatDoor
