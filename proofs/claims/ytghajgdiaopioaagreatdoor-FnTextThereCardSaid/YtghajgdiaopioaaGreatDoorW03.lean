/- Walks: a text out of its brackets. -/
import Derived.Deep.RegionWith
import Derived.Test.YtghajgdiaopioaaGreatDoorW02
set_option linter.unusedVariables false
set_option linter.unusedSimpArgs false

namespace Go.Proofs.YtghajgdiaopioaaGreatDoor
open Go.RowKit

/-- Out of its brackets; none: an error. -/
def brkL (l : List UInt8) : Option (List UInt8) :=
  match trimL l with
  | [] => some []
  | c :: t => if c = 40 then (if t.getLast? = some 41 then some (trimL t.dropLast) else none) else none

theorem trimL_two (l : List UInt8) (h : trimL l ≠ []) : 2 ≤ (trimL l).length := by
  unfold trimL at h ⊢
  split at h
  · exact absurd rfl h
  · rename_i hh; rw [if_neg hh, List.length_drop]; omega

theorem ofL_size (l : List UInt8) : (ofL l).size = l.length := by simp [ofL, ByteArray.size]
theorem toL_ofL (l : List UInt8) : toL (ofL l) = l := by simp [toL, ofL]
theorem ofL_toL (s : ByteArray) : ofL (toL s) = s := Lib.mk_data s
theorem ofL_get (l : List UInt8) (k : Nat) (h : k < l.length) : (ofL l)[k]'(by rw [ofL_size]; exact h) = l[k] := by
  rw [← toL_get (ofL l) k (by rw [ofL_size]; exact h)]
  simp [toL_ofL]
theorem ofL_extract (l : List UInt8) (a b : Nat) : (ofL l).extract a b = ofL ((l.drop a).take (b - a)) := by
  rw [Lib.extract_eq]; rw [show (ofL l).data.toList = l from toL_ofL l]; rfl
theorem ofL_from (l : List UInt8) (a : Nat) : (ofL l).extract a l.length = ofL (l.drop a) := by
  rw [ofL_extract, List.take_of_length_le]; rw [List.length_drop]; exact Nat.le_refl _

set_option maxHeartbeats 1000000 in
theorem brk_nil (s : ByteArray) (w : World) (hs : s.size ≤ 1000000000) (h : trimL (toL s) = []) :
    Calls Tryz.prog 75 #[.string s] w fun e w' => e = .returned (.tuple #[.string ⟨#[]⟩, .nilIface]) ∧ w = w' := by
  have hc := trimSpace_calls s w hs
  rw [h] at hc
  clear h
  go_enter Tryz.func75, Tryz.ntmps75
  go_wp2_with (go_at_call 50; refine hc.mono ?_; rintro e w' ⟨rfl, rfl⟩)
  go_ret2
  exact ⟨rfl, rfl⟩

set_option maxHeartbeats 1000000 in
theorem brk_head (s : ByteArray) (w : World) (hs : s.size ≤ 1000000000) (eN : Value) (hN : w.cell? ⟨4, 0, none⟩ = some eN) (c : UInt8) (t : List UInt8) (h : trimL (toL s) = c :: t) (hc40 : c ≠ 40) :
    Calls Tryz.prog 75 #[.string s] w fun e w' => e = .returned (.tuple #[.string ⟨#[]⟩, eN]) ∧ ∃ n, w' = w.drewN n := by
  have hc := trimSpace_calls s w hs
  rw [h] at hc
  obtain ⟨u, hu, hp, hg⟩ : ∃ (u : ByteArray) (_ : ofL (c :: t) = u) (hp : 0 < u.size), u[0] = c := ⟨_, rfl, by rw [ofL_size]; simp, by rw [ofL_get _ _ (by simp)]; rfl⟩
  rw [hu] at hc
  have h1 : ((c.toNat : Int) == 40) = false := eq_i 40 hc40
  clear h hc40 hu
  go_enter Tryz.func75, Tryz.ntmps75
  go_wp2_with (go_at_call 50; refine hc.mono ?_; rintro e w' ⟨rfl, rfl⟩)
  go_quiet (fail)
  go_wp2
  go_ret2
  exact ⟨rfl, _, rfl⟩

theorem last_get (t : List UInt8) (c : UInt8) : (ofL (t ++ [c]))[(ofL (t ++ [c])).size - 1]'(by rw [ofL_size]; simp) = c := by
  have e : (ofL (t ++ [c])).size - 1 = t.length := by rw [ofL_size]; simp
  have := ofL_get (t ++ [c]) t.length (by simp)
  simp only [e]
  rw [this]
  simp

set_option maxHeartbeats 1000000 in
theorem brk_last (s : ByteArray) (w : World) (hs : s.size ≤ 1000000000) (eN : Value) (hN : w.cell? ⟨4, 0, none⟩ = some eN) (t : List UInt8) (c : UInt8) (h : trimL (toL s) = 40 :: (t ++ [c])) (hc41 : c ≠ 41) :
    Calls Tryz.prog 75 #[.string s] w fun e w' => e = .returned (.tuple #[.string ⟨#[]⟩, eN]) ∧ ∃ n, w' = w.drewN n := by
  have hc := trimSpace_calls s w hs
  have hlen : (trimL (toL s)).length ≤ s.size := by
    rw [← toL_length]; unfold trimL; split
    · simp
    · rw [List.length_drop]; have : (rstrip (toL s)).length ≤ (toL s).length := by unfold rstrip; rw [List.length_reverse]; exact Nat.le_trans (List.dropWhile_sublist _).length_le (by rw [List.length_reverse]; exact Nat.le_refl _)
      omega
  rw [h] at hc hlen
  obtain ⟨u, hu, hp, hg⟩ : ∃ (u : ByteArray) (_ : ofL (40 :: (t ++ [c])) = u) (hp : 0 < u.size), u[0] = 40 := ⟨_, rfl, by rw [ofL_size]; simp, by rw [ofL_get _ _ (by simp)]; rfl⟩
  have hsz : u.size = (40 :: (t ++ [c])).length := by rw [← hu, ofL_size]
  obtain ⟨v, hv, hq, hl⟩ : ∃ (v : ByteArray) (_ : u.extract 1 u.size = v) (hq : 0 < v.size), v[v.size - 1] = c := by
    have e : u.extract 1 u.size = ofL (t ++ [c]) := by rw [hsz, ← hu, ofL_from]; rfl
    refine ⟨_, e, by rw [ofL_size]; simp, last_get t c⟩
  have hvs : v.size ≤ 1000000000 := by rw [← hv, ByteArray.size_extract]; omega
  have hus : 1 ≤ u.size := by omega
  rw [hu] at hc
  have h1 : ((c.toNat : Int) == 41) = false := eq_i 41 hc41
  clear h hc41 hu hsz hlen
  go_enter Tryz.func75, Tryz.ntmps75
  go_wp2_with (go_at_call 50; refine hc.mono ?_; rintro e w' ⟨rfl, rfl⟩)
  go_quiet (fail)
  go_wp2
  go_ret2
  exact ⟨rfl, _, rfl⟩

theorem trimL_le (l : List UInt8) : (trimL l).length ≤ l.length := by
  unfold trimL; split
  · simp
  · rw [List.length_drop]
    have : (rstrip l).length ≤ l.length := by unfold rstrip; rw [List.length_reverse]; exact Nat.le_trans (List.dropWhile_sublist _).length_le (by rw [List.length_reverse]; exact Nat.le_refl _)
    omega

set_option maxHeartbeats 1000000 in
theorem brk_yes (s : ByteArray) (w : World) (hs : s.size ≤ 1000000000) (t : List UInt8) (h : trimL (toL s) = 40 :: (t ++ [41])) :
    Calls Tryz.prog 75 #[.string s] w fun e w' => e = .returned (.tuple #[.string (ofL (trimL t)), .nilIface]) ∧ w = w' := by
  have hc := trimSpace_calls s w hs
  have hlen := trimL_le (toL s)
  rw [toL_length, h] at hlen
  have hc2 := trimSpace_calls (ofL t) w (by rw [ofL_size]; simp at hlen; omega)
  rw [toL_ofL] at hc2
  rw [h] at hc
  obtain ⟨u, hu, hp, hg⟩ : ∃ (u : ByteArray) (_ : ofL (40 :: (t ++ [41])) = u) (hp : 0 < u.size), u[0] = 40 := ⟨_, rfl, by rw [ofL_size]; simp, by rw [ofL_get _ _ (by simp)]; rfl⟩
  have hsz : u.size = (40 :: (t ++ [41])).length := by rw [← hu, ofL_size]
  obtain ⟨v, hv, hq, hl, hx⟩ : ∃ (v : ByteArray) (_ : u.extract 1 u.size = v) (hq : 0 < v.size) (_ : v[v.size - 1] = 41), v.extract 0 (v.size - 1) = ofL t := by
    have e : u.extract 1 u.size = ofL (t ++ [41]) := by rw [hsz, ← hu, ofL_from]; rfl
    refine ⟨_, e, by rw [ofL_size]; simp, last_get t 41, ?_⟩
    rw [ofL_size, ofL_extract]
    simp
  have hvs : v.size ≤ 1000000000 := by rw [← hv, ByteArray.size_extract]; omega
  have hus : 1 ≤ u.size := by omega
  rw [hu] at hc
  generalize ofL t = x at *
  generalize ofL (trimL t) = y at *
  clear h hu hsz hlen
  go_enter Tryz.func75, Tryz.ntmps75
  go_wp2_with (first | (go_at_call_of 50 (Value.string s); refine hc.mono ?_; rintro e w' ⟨rfl, rfl⟩) | (go_at_call_of 50 (Value.string x); refine hc2.mono ?_; rintro e w' ⟨rfl, rfl⟩))
  go_ret2
  exact ⟨rfl, rfl⟩

theorem brk_ok (s : ByteArray) (w : World) (hs : s.size ≤ 1000000000) (r : List UInt8) (h : brkL (toL s) = some r) :
    Calls Tryz.prog 75 #[.string s] w fun e w' => e = .returned (.tuple #[.string (ofL r), .nilIface]) ∧ w = w' := by
  unfold brkL at h
  split at h
  · rename_i e; cases h; exact brk_nil s w hs e
  · rename_i c t e
    split at h
    · rename_i hc; subst hc
      split at h
      · rename_i hl
        cases h
        obtain ⟨t', rfl⟩ : ∃ t', t = t' ++ [41] := by
          rcases List.eq_nil_or_concat t with rfl | ⟨t', x, rfl⟩
          · simp at hl
          · simp at hl; subst hl; exact ⟨t', by simp⟩
        rw [List.dropLast_concat]
        exact brk_yes s w hs t' e
      · cases h
    · cases h

theorem brk_err (s : ByteArray) (w : World) (hs : s.size ≤ 1000000000) (eN : Value) (hN : w.cell? ⟨4, 0, none⟩ = some eN) (h : brkL (toL s) = none) :
    Calls Tryz.prog 75 #[.string s] w fun e w' => e = .returned (.tuple #[.string ⟨#[]⟩, eN]) ∧ ∃ n, w' = w.drewN n := by
  unfold brkL at h
  split at h
  · cases h
  · rename_i c t e
    split at h
    · rename_i hc; subst hc
      split at h
      · cases h
      · rename_i hl
        have h2 := trimL_two (toL s) (by rw [e]; simp)
        rw [e] at h2
        rcases List.eq_nil_or_concat t with rfl | ⟨t', x, rfl⟩
        · simp at h2
        · refine brk_last s w hs eN hN t' x (by rw [e]; simp) ?_
          intro hx; subst hx; simp at hl
    · rename_i hc
      exact brk_head s w hs eN hN c t e hc
end Go.Proofs.YtghajgdiaopioaaGreatDoor

/- Walks: a text cut at its commas, each piece handed to a function value. -/
namespace Go.Proofs.YtghajgdiaopioaaGreatDoor
open Go.RowKit

/-- The error of invalid data, as its variable holds it. -/
abbrev errV (a : Addr) : Value := .iface 239 (.pointer (some a))

/-- The pieces between commas, with the blanks around the commas left out. -/
def piecesGo (cur pend : List UInt8) (saw : Bool) : List UInt8 → List (List UInt8)
  | [] => [cur ++ pend]
  | c :: r =>
    if c = 44 then piecesGo cur (pend ++ [c]) true r
    else if isSp c then piecesGo cur (pend ++ [c]) saw r
    else if saw then cur :: piecesGo [c] [] false r
    else piecesGo (cur ++ pend ++ [c]) [] false r
def pieces (l : List UInt8) : List (List UInt8) := piecesGo [] [] false l

/-- A state handed on from piece to piece, till one is an error (none). -/
inductive Run {α : Type} (S : α → List UInt8 → Option α → Prop) : α → List (List UInt8) → Option α → Prop
  | nil (a : α) : Run S a [] (some a)
  | ok {a a' : α} {p : List UInt8} {ps : List (List UInt8)} {r : Option α} : S a p (some a') → Run S a' ps r → Run S a (p :: ps) r
  | err {a : α} {p : List UInt8} {ps : List (List UInt8)} : S a p none → Run S a (p :: ps) none

/-- How a call that hands a state on ends. -/
def Ends {α : Type} (aN : Addr) (I : α → World → Prop) (E : World → Prop) (r : Option α) (e : Ending) (w : World) : Prop :=
  match r with
  | some a => e = .returned .nilIface ∧ I a w
  | none => e = .returned (errV aN) ∧ E w

theorem drop_take_split (l : List UInt8) (a b c : Nat) (h1 : a ≤ b) (h2 : b ≤ c) : (l.take c).drop a = (l.take b).drop a ++ (l.take c).drop b := by
  rw [← List.take_append_drop (b - a) ((l.take c).drop a), List.drop_drop]
  congr 1
  · rw [← List.drop_take, List.take_take]
    rw [Nat.min_eq_left h2]
  · rw [show a + (b - a) = b from by omega]

set_option maxHeartbeats 1000000 in
theorem splitComma_calls {α : Type} (S : α → List UInt8 → Option α → Prop) (I : α → World → Prop) (E : World → Prop) (aN : Addr) (k : FuncId) (b : Nat) (hk : ∀ args w, (callFunc k args).run Tryz.prog w = .ok (.enter k args) w)
    (hstep : ∀ (a : α) (p : List UInt8) (r : Option α) (w : World), S a p r → I a w → p.length ≤ 1000000000 → Calls Tryz.prog k #[.string (ofL p), .pointer (some ⟨b, 0, none⟩)] w (Ends aN I E r))
    (s : ByteArray) (hs : s.size ≤ 1000000000) (a : α) (r : Option α) (w : World) (hr : Run S a (pieces (toL s)) r) (hI : I a w) :
    Calls Tryz.prog 79 #[.string s, .func (.func k) #[] #[.pointer (some ⟨b, 0, none⟩)]] w (Ends aN I E r) := by
  have HS := Lib.hid hstep; clear hstep
  have HR := Lib.hid hr; clear hr
  have HI := Lib.hid hI; clear hI
  go_enter Tryz.func79, Tryz.ntmps79
  go_wp2_with fail
  go_loopg [5, 6, 7, 8, 9] s.size (fun g s5 s6 s7 s8 s9 wx => ∃ (at' st i : Nat) (s6n : Int) (saw : Bool) (a' : α), at' ≤ st ∧ st ≤ i ∧ i ≤ s.size ∧ g = s.size - i ∧ s5 = .int .i64 at' ∧ s6 = .int .i64 s6n ∧ (st < i → s6n = st) ∧ s7 = .bool (decide (st < i)) ∧ s8 = .bool saw ∧ s9 = .int .i64 i ∧ (saw = true → st < i) ∧
    Hid (Run S a' (piecesGo (((toL s).take st).drop at') (((toL s).take i).drop st) saw ((toL s).drop i)) r ∧ I a' wx))
  case atStart => exact ⟨0, 0, 0, 0, false, a, by omega, by omega, by omega, rfl, rfl, rfl, by omega, by simp, rfl, rfl, by simp, HR.out, HI.out⟩
  case round =>
    obtain ⟨at', st, i, s6n, saw, a', h1, h2, h3, rfl, rfl, rfl, h6, rfl, rfl, rfl, hsaw, hrun⟩ := hrel
    have hil : i ≤ (toL s).length := by rw [toL_length]; exact h3
    by_cases hlt : i < s.size
    · obtain ⟨x, hx⟩ : ∃ x : UInt8, s[i] = x := ⟨_, rfl⟩
      have hdrop := drop_at s i hlt hx
      have htake := take_at s i hlt hx
      rw [hdrop] at hrun
      have hone : ((toL s).take (i + 1)).drop i = [x] := by
        rw [htake, List.drop_append_of_le_length (by rw [List.length_take]; omega), List.drop_of_length_le (by rw [List.length_take]; omega)]; rfl
      have hpend : ((toL s).take (i + 1)).drop st = ((toL s).take i).drop st ++ [x] := by
        rw [drop_take_split (toL s) st i (i + 1) h2 (by omega), hone]
      have hcur : ((toL s).take (i + 1)).drop at' = ((toL s).take st).drop at' ++ ((toL s).take i).drop st ++ [x] := by
        rw [drop_take_split (toL s) at' st (i + 1) h1 (by omega), hpend, List.append_assoc]
      have hnil : ((toL s).take (i + 1)).drop (i + 1) = [] := List.drop_of_length_le (by rw [List.length_take]; omega)
      have hat : ((toL s).take st).drop at' = ((toL s).drop at').take (st - at') := by rw [List.drop_take]
      obtain ⟨y, hy, HY⟩ : ∃ y, s.extract at' st = y ∧ Hid (y = ofL (((toL s).take st).drop at')) := by
        refine ⟨_, rfl, ?_⟩
        have := ofL_extract (toL s) at' st
        rw [ofL_toL, ← hat] at this
        exact this
      have hlenc : (((toL s).take st).drop at').length ≤ 1000000000 := by rw [List.length_drop, List.length_take]; omega
      obtain ⟨hrun1, hinv⟩ : Run S a' (piecesGo (((toL s).take st).drop at') (((toL s).take i).drop st) saw (x :: (toL s).drop (i + 1))) r ∧ I a' wr := hrun
      generalize hC : ((toL s).take st).drop at' = cur at *
      generalize hP : ((toL s).take i).drop st = pend at *
      have HFACTS : Hid (((toL s).take (i + 1)).drop i = [x] ∧ ((toL s).take (i + 1)).drop st = pend ++ [x] ∧ ((toL s).take (i + 1)).drop at' = cur ++ pend ++ [x] ∧ ((toL s).take (i + 1)).drop (i + 1) = [] ∧ cur.length ≤ 1000000000 ∧ ((toL s).take st).drop at' = cur ∧ ((toL s).take i).drop st = pend) := ⟨hone, hpend, hcur, hnil, hlenc, hC, hP⟩
      have H6 : Aside _ := h6
      have HI' : Aside _ := hinv
      have HR1 : Aside _ := hrun1
      have HSAW : Aside _ := hsaw
      clear hone hpend hcur hnil hat hlenc hC hP h6 hinv hrun1 hsaw htake hdrop hil
      have c1 : (at' : Int) ≤ (st : Int) := by omega
      have c2 : (st : Int) ≤ (s.size : Int) := by omega
      by_cases hc44 : x = 44
      · subst hc44
        by_cases hst : st < i
        · obtain rfl := H6.out hst
          have d1 : decide (st < i) = true := by simp [hst]
          rw [d1]; clear d1
          go_wp2_with fail
          go_roundg (s.size - (i + 1))
          case measure => omega
          case rel =>
            obtain ⟨f1, f2, f3, f4, f5, f6, f7⟩ := HFACTS.out
            exact ⟨at', st, i + 1, st, true, a', by omega, by omega, by omega, rfl, rfl, rfl, fun _ => rfl, by simp; omega, rfl, by go_num, fun _ => by omega, by
              refine ⟨?_, HI'.out⟩; rw [f6, f2]; have := HR1.out; unfold piecesGo at this; rw [if_pos rfl] at this; exact this⟩
        · obtain rfl : st = i := by omega
          have d1 : decide (st < st) = false := by simp
          rw [d1]; clear d1
          go_wp2_with fail
          go_roundg (s.size - (st + 1))
          case measure => omega
          case rel =>
            obtain ⟨f1, f2, f3, f4, f5, f6, f7⟩ := HFACTS.out
            exact ⟨at', st, st + 1, st, true, a', by omega, by omega, by omega, rfl, rfl, rfl, fun _ => rfl, by simp, rfl, by go_num, fun _ => by omega, by
              refine ⟨?_, HI'.out⟩; rw [f6, f2]; have := HR1.out; unfold piecesGo at this; rw [if_pos rfl] at this; exact this⟩
      · have n44 : ((x.toNat : Int) == 44) = false := eq_i 44 hc44
        have H44 : Aside _ := hc44; clear hc44
        cases hsp : isSp x
        · have b1 := isSp_no hsp
          have HSP : Aside _ := hsp; clear hsp
          obtain ⟨b1, b2, b3⟩ := b1
          have n1 : ((x.toNat : Int) == 32) = false := by simpa using b1
          have n2 : ((x.toNat : Int) == 9) = false := by simpa using b2
          have n3 : ((x.toNat : Int) == 10) = false := by simpa using b3
          clear b1 b2 b3
          cases saw
          · go_wp2_with fail
            go_roundg (s.size - (i + 1))
            case measure => omega
            case rel =>
              obtain ⟨f1, f2, f3, f4, f5, f6, f7⟩ := HFACTS.out
              exact ⟨at', i + 1, i + 1, s6n, false, a', by omega, by omega, by omega, rfl, rfl, rfl, by omega, by simp, rfl, by go_num, by simp, by
                refine ⟨?_, HI'.out⟩; rw [f3, f4]; have := HR1.out; unfold piecesGo at this; rw [if_neg H44.out, HSP.out] at this; exact this⟩
          · have hst : st < i := HSAW.out rfl
            obtain rfl := H6.out hst
            have d1 : decide (st < i) = true := by simp [hst]
            rw [d1]; clear d1
            have hr2 := HR1.out
            unfold piecesGo at hr2
            rw [if_neg H44.out, HSP.out] at hr2
            have HR2 : Hid (Run S a' (cur :: piecesGo [x] [] false ((toL s).drop (i + 1))) r) := hr2
            clear hr2
            have HLEN : Hid (cur.length ≤ 1000000000) := HFACTS.out.2.2.2.2.1
            go_wp2_with fail
            rw [HY.out]
            obtain hr3 := HR2.out
            cases hr3 with
            | ok hs1 hs2 =>
              refine (HS.out _ _ _ _ hs1 HI'.out HLEN.out).mono ?_
              rintro e w1 ⟨rfl, hI1⟩
              have HI1 := Lib.hid hI1; clear hI1
              have HS2 := Lib.hid hs2; clear hs2
              clear hs1
              go_wp2_with fail
              go_roundg (s.size - (i + 1))
              case measure => omega
              case rel =>
                obtain ⟨f1, f2, f3, f4, f5, f6, f7⟩ := HFACTS.out
                exact ⟨i, i + 1, i + 1, st, false, _, by omega, by omega, by omega, rfl, rfl, rfl, by omega, by simp, rfl, by go_num, by simp, by
                  refine ⟨?_, HI1.out⟩; rw [f1, f4]; exact HS2.out⟩
            | err hs1 =>
              refine (HS.out _ _ _ _ hs1 HI'.out HLEN.out).mono ?_
              rintro e w1 ⟨rfl, hI1⟩
              have HI1 := Lib.hid hI1; clear hI1
              clear hs1
              go_wp2
              go_ret
              exact ⟨rfl, HI1.out⟩
        · rcases isSp_yes hsp with rfl | rfl | rfl
          all_goals
            clear n44
            have HSP : Aside _ := hsp; clear hsp

            by_cases hst : st < i
            · obtain rfl := H6.out hst
              have d1 : decide (st < i) = true := by simp [hst]
              rw [d1]; clear d1
              go_wp2_with fail
              go_roundg (s.size - (i + 1))
              case measure => omega
              case rel =>
                obtain ⟨f1, f2, f3, f4, f5, f6, f7⟩ := HFACTS.out
                exact ⟨at', st, i + 1, st, saw, a', by omega, by omega, by omega, rfl, rfl, rfl, fun _ => rfl, by simp; omega, rfl, by go_num, fun h => by have := HSAW.out h; omega, by
                  refine ⟨?_, HI'.out⟩; rw [f6, f2]; have := HR1.out; unfold piecesGo at this; rw [if_neg H44.out, if_pos HSP.out] at this; exact this⟩
            · obtain rfl : st = i := by omega
              have d1 : decide (st < st) = false := by simp
              rw [d1]; clear d1
              go_wp2_with fail
              go_roundg (s.size - (st + 1))
              case measure => omega
              case rel =>
                obtain ⟨f1, f2, f3, f4, f5, f6, f7⟩ := HFACTS.out
                exact ⟨at', st, st + 1, st, saw, a', by omega, by omega, by omega, rfl, rfl, rfl, fun _ => rfl, by simp, rfl, by go_num, fun h => by have := HSAW.out h; omega, by
                  refine ⟨?_, HI'.out⟩; rw [f6, f2]; have := HR1.out; unfold piecesGo at this; rw [if_neg H44.out, if_pos HSP.out] at this; exact this⟩
    · obtain rfl : i = s.size := by omega
      have hkz : ¬ ((s.size : Int) < (s.size : Int)) := by omega
      obtain ⟨y, hx, HY⟩ : ∃ y, s.extract at' s.size = y ∧ Hid (y = ofL ((toL s).drop at')) := by
        have := ofL_from (toL s) at'
        rw [ofL_toL, toL_length] at this
        exact ⟨_, rfl, this⟩
      have ha : (at' : Int) ≤ (s.size : Int) := by omega
      have HF : Hid (((toL s).take st).drop at' ++ ((toL s).take s.size).drop st = (toL s).drop at') := by
        show _ = _
        rw [← drop_take_split (toL s) at' st s.size h1 h2, ← toL_length, List.take_length]
      have HLEN : Hid (((toL s).drop at').length ≤ 1000000000) := by rw [List.length_drop, toL_length]; show _ - _ ≤ _; omega
      generalize decide (st < s.size) = q
      clear h6 hsaw hil
      have HRUN : Hid _ := hrun; clear hrun
      go_wp2_with fail
      obtain ⟨g1, g2⟩ := HRUN.out
      rw [List.drop_of_length_le (l := toL s) (by rw [toL_length]; exact Nat.le_refl _)] at g1
      unfold piecesGo at g1
      rw [HF.out] at g1
      rw [HY.out]
      cases g1 with
      | ok hs1 hs2 =>
        cases hs2
        refine (HS.out _ _ _ _ hs1 g2 HLEN.out).mono ?_
        rintro e w1 ⟨rfl, hI1⟩
        go_wp2
        go_ret
        exact ⟨rfl, hI1⟩
      | err hs1 =>
        refine (HS.out _ _ _ _ hs1 g2 HLEN.out).mono ?_
        rintro e w1 ⟨rfl, hI1⟩
        go_wp2
        go_ret
        exact ⟨rfl, hI1⟩
end Go.Proofs.YtghajgdiaopioaaGreatDoor
