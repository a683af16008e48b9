/- Walks: Unmarshal, kind by kind (printed by genS.py). -/
import Derived.Test.YtghajgdiaopioaaGreatDoorW11
import Derived.Test.YtghajgdiaopioaaGreatDoorW12
set_option linter.unusedVariables false
set_option linter.unusedSimpArgs false

namespace Go.Proofs.YtghajgdiaopioaaGreatDoor
open Go.RowKit
attribute [local go_sem] run_store_float run_store_iface run_store_nilIface

def kwPoint : List UInt8 := [80, 79, 73, 78, 84]
def kwLine : List UInt8 := [76, 73, 78, 69, 83, 84, 82, 73, 78, 71]
def kwPoly : List UInt8 := [80, 79, 76, 89, 71, 79, 78]
def kwMPoint : List UInt8 := [77, 85, 76, 84, 73, 80, 79, 73, 78, 84]
def kwMLine : List UInt8 := [77, 85, 76, 84, 73, 76, 73, 78, 69, 83, 84, 82, 73, 78, 71]
def kwMPoly : List UInt8 := [77, 85, 76, 84, 73, 80, 79, 76, 89, 71, 79, 78]
def kwColl : List UInt8 := [71, 69, 79, 77, 69, 84, 82, 89, 67, 79, 76, 76, 69, 67, 84, 73, 79, 78]

set_option maxRecDepth 4096 in
set_option maxHeartbeats 8000000 in
theorem un0_ok (G : Errs) (R : World → Value → Prop) (l0 l : List UInt8) (w : World) (hE : Env G w) (hs : l0.length ≤ 1000000000) (hs' : l.length ≤ 1000000000) (hl : trimL l0 = l) (h0 : hasW l kwPoint = true)
    (hk : ∀ wx, Bel w wx → Calls Tryz.prog 53 #[.string (ofL l)] wx fun e w' => (∃ v, e = .returned (.tuple #[v, .nilIface]) ∧ R w' v) ∧ Bel wx w') :
    Calls Tryz.prog 32 #[.string (ofL l0)] w fun e w' => (∃ v, e = .returned (.tuple #[.iface 61 v, .nilIface]) ∧ R w' v) ∧ Bel w w' := by
  have HK := Lib.hid hk
  clear hk
  have kc := fun (w : World) (C : Array Value) (n c : Nat) => Lib.run_convert_bytes_const (P := Tryz.prog) w 92 5 C n c Tryz.underlying92 Tryz.underlying5
  have HT := Lib.hid (trimSpace_calls (ofL l0) w (by rw [ofL_size]; exact hs))
  rw [toL_ofL, hl] at HT
  have HU := Lib.hid (upper_calls (ofL l) w (by rw [ofL_size]; omega))
  rw [toL_ofL] at HU
  have HP0 := Lib.hid (fun (p : Nat) (wx : World) hp => hp_calls l kwPoint p 5 wx #[.int .u8 80, .int .u8 79, .int .u8 73, .int .u8 78, .int .u8 84] rfl rfl hp)
  rw [h0] at HP0
  have HE := Lib.hid hE
  clear hE hl h0
  generalize ofL l0 = s0 at *
  generalize hss : ofL l = s at *
  clear hss
  go_enter Tryz.func32, Tryz.ntmps32
  go_wp2_with (first | (go_at_call 50; refine HT.out.mono ?_; rintro e w1 ⟨rfl, rfl⟩) | (go_at_call 51; refine HU.out.mono ?_; rintro e w1 ⟨rfl, hb, b1⟩; have HB := Lib.hid hb; have B1 := Lib.hid b1; clear hb b1) | fail)
  refine (HP0.out _ _ HB.out).mono ?_
  rintro e v0 ⟨rfl, b2⟩
  have HB1 := Lib.hid (b2.heap HB.out)
  have C1 := Lib.hid ((B1.out).tr b2)
  clear b2
  clear HB
  go_wp2_with fail
  refine (HK.out _ C1.out).mono ?_
  rintro e w2 ⟨⟨v, rfl, hR⟩, b2⟩
  have B2 := Lib.hid (C1.out.tr b2)
  have HR := Lib.hid hR
  clear b2 hR
  go_wp2
  go_ret2
  exact ⟨⟨_, rfl, HR.out⟩, B2.out⟩

set_option maxRecDepth 4096 in
set_option maxHeartbeats 8000000 in
theorem un0_err (G : Errs) (l0 l : List UInt8) (w : World) (hE : Env G w) (hs : l0.length ≤ 1000000000) (hs' : l.length ≤ 1000000000) (hl : trimL l0 = l) (h0 : hasW l kwPoint = true)
    (hk : ∀ wx, Bel w wx → Calls Tryz.prog 53 #[.string (ofL l)] wx fun e w' => (∃ v a, e = .returned (.tuple #[v, errV a])) ∧ Bel wx w') :
    Calls Tryz.prog 32 #[.string (ofL l0)] w fun e w' => (∃ a, e = .returned (.tuple #[.nilIface, errV a])) ∧ Bel w w' := by
  have HK := Lib.hid hk
  clear hk
  have kc := fun (w : World) (C : Array Value) (n c : Nat) => Lib.run_convert_bytes_const (P := Tryz.prog) w 92 5 C n c Tryz.underlying92 Tryz.underlying5
  have HT := Lib.hid (trimSpace_calls (ofL l0) w (by rw [ofL_size]; exact hs))
  rw [toL_ofL, hl] at HT
  have HU := Lib.hid (upper_calls (ofL l) w (by rw [ofL_size]; omega))
  rw [toL_ofL] at HU
  have HP0 := Lib.hid (fun (p : Nat) (wx : World) hp => hp_calls l kwPoint p 5 wx #[.int .u8 80, .int .u8 79, .int .u8 73, .int .u8 78, .int .u8 84] rfl rfl hp)
  rw [h0] at HP0
  have HE := Lib.hid hE
  clear hE hl h0
  generalize ofL l0 = s0 at *
  generalize hss : ofL l = s at *
  clear hss
  go_enter Tryz.func32, Tryz.ntmps32
  go_wp2_with (first | (go_at_call 50; refine HT.out.mono ?_; rintro e w1 ⟨rfl, rfl⟩) | (go_at_call 51; refine HU.out.mono ?_; rintro e w1 ⟨rfl, hb, b1⟩; have HB := Lib.hid hb; have B1 := Lib.hid b1; clear hb b1) | fail)
  refine (HP0.out _ _ HB.out).mono ?_
  rintro e v0 ⟨rfl, b2⟩
  have HB1 := Lib.hid (b2.heap HB.out)
  have C1 := Lib.hid ((B1.out).tr b2)
  clear b2
  clear HB
  go_wp2_with fail
  refine (HK.out _ C1.out).mono ?_
  rintro e w2 ⟨⟨v, a, rfl⟩, b2⟩
  have B2 := Lib.hid (C1.out.tr b2)
  clear b2
  go_wp2
  go_ret2
  exact ⟨⟨a, rfl⟩, B2.out⟩

set_option maxRecDepth 4096 in
set_option maxHeartbeats 8000000 in
theorem un1_ok (G : Errs) (R : World → Value → Prop) (l0 l : List UInt8) (w : World) (hE : Env G w) (hs : l0.length ≤ 1000000000) (hs' : l.length ≤ 1000000000) (hl : trimL l0 = l) (h0 : hasW l kwPoint = false) (h1 : hasW l kwLine = true)
    (hk : ∀ wx, Bel w wx → Calls Tryz.prog 54 #[.string (ofL l)] wx fun e w' => (∃ v, e = .returned (.tuple #[v, .nilIface]) ∧ R w' v) ∧ Bel wx w') :
    Calls Tryz.prog 32 #[.string (ofL l0)] w fun e w' => (∃ v, e = .returned (.tuple #[.iface 65 v, .nilIface]) ∧ R w' v) ∧ Bel w w' := by
  have HK := Lib.hid hk
  clear hk
  have kc := fun (w : World) (C : Array Value) (n c : Nat) => Lib.run_convert_bytes_const (P := Tryz.prog) w 92 5 C n c Tryz.underlying92 Tryz.underlying5
  have HT := Lib.hid (trimSpace_calls (ofL l0) w (by rw [ofL_size]; exact hs))
  rw [toL_ofL, hl] at HT
  have HU := Lib.hid (upper_calls (ofL l) w (by rw [ofL_size]; omega))
  rw [toL_ofL] at HU
  have HP0 := Lib.hid (fun (p : Nat) (wx : World) hp => hp_calls l kwPoint p 5 wx #[.int .u8 80, .int .u8 79, .int .u8 73, .int .u8 78, .int .u8 84] rfl rfl hp)
  rw [h0] at HP0
  have HP1 := Lib.hid (fun (p : Nat) (wx : World) hp => hp_calls l kwLine p 10 wx #[.int .u8 76, .int .u8 73, .int .u8 78, .int .u8 69, .int .u8 83, .int .u8 84, .int .u8 82, .int .u8 73, .int .u8 78, .int .u8 71] rfl rfl hp)
  rw [h1] at HP1
  have HE := Lib.hid hE
  clear hE hl h0 h1
  generalize ofL l0 = s0 at *
  generalize hss : ofL l = s at *
  clear hss
  go_enter Tryz.func32, Tryz.ntmps32
  go_wp2_with (first | (go_at_call 50; refine HT.out.mono ?_; rintro e w1 ⟨rfl, rfl⟩) | (go_at_call 51; refine HU.out.mono ?_; rintro e w1 ⟨rfl, hb, b1⟩; have HB := Lib.hid hb; have B1 := Lib.hid b1; clear hb b1) | fail)
  refine (HP0.out _ _ HB.out).mono ?_
  rintro e v0 ⟨rfl, b2⟩
  have HB1 := Lib.hid (b2.heap HB.out)
  have C1 := Lib.hid ((B1.out).tr b2)
  clear b2
  clear HB
  go_wp2_with fail
  refine (HP1.out _ _ HB1.out).mono ?_
  rintro e v1 ⟨rfl, b2⟩
  have HB2 := Lib.hid (b2.heap HB1.out)
  have C2 := Lib.hid ((C1.out).tr b2)
  clear b2
  clear HB1
  go_wp2_with fail
  refine (HK.out _ C2.out).mono ?_
  rintro e w2 ⟨⟨v, rfl, hR⟩, b2⟩
  have B2 := Lib.hid (C2.out.tr b2)
  have HR := Lib.hid hR
  clear b2 hR
  go_wp2
  go_ret2
  exact ⟨⟨_, rfl, HR.out⟩, B2.out⟩

set_option maxRecDepth 4096 in
set_option maxHeartbeats 8000000 in
theorem un1_err (G : Errs) (l0 l : List UInt8) (w : World) (hE : Env G w) (hs : l0.length ≤ 1000000000) (hs' : l.length ≤ 1000000000) (hl : trimL l0 = l) (h0 : hasW l kwPoint = false) (h1 : hasW l kwLine = true)
    (hk : ∀ wx, Bel w wx → Calls Tryz.prog 54 #[.string (ofL l)] wx fun e w' => (∃ v a, e = .returned (.tuple #[v, errV a])) ∧ Bel wx w') :
    Calls Tryz.prog 32 #[.string (ofL l0)] w fun e w' => (∃ a, e = .returned (.tuple #[.nilIface, errV a])) ∧ Bel w w' := by
  have HK := Lib.hid hk
  clear hk
  have kc := fun (w : World) (C : Array Value) (n c : Nat) => Lib.run_convert_bytes_const (P := Tryz.prog) w 92 5 C n c Tryz.underlying92 Tryz.underlying5
  have HT := Lib.hid (trimSpace_calls (ofL l0) w (by rw [ofL_size]; exact hs))
  rw [toL_ofL, hl] at HT
  have HU := Lib.hid (upper_calls (ofL l) w (by rw [ofL_size]; omega))
  rw [toL_ofL] at HU
  have HP0 := Lib.hid (fun (p : Nat) (wx : World) hp => hp_calls l kwPoint p 5 wx #[.int .u8 80, .int .u8 79, .int .u8 73, .int .u8 78, .int .u8 84] rfl rfl hp)
  rw [h0] at HP0
  have HP1 := Lib.hid (fun (p : Nat) (wx : World) hp => hp_calls l kwLine p 10 wx #[.int .u8 76, .int .u8 73, .int .u8 78, .int .u8 69, .int .u8 83, .int .u8 84, .int .u8 82, .int .u8 73, .int .u8 78, .int .u8 71] rfl rfl hp)
  rw [h1] at HP1
  have HE := Lib.hid hE
  clear hE hl h0 h1
  generalize ofL l0 = s0 at *
  generalize hss : ofL l = s at *
  clear hss
  go_enter Tryz.func32, Tryz.ntmps32
  go_wp2_with (first | (go_at_call 50; refine HT.out.mono ?_; rintro e w1 ⟨rfl, rfl⟩) | (go_at_call 51; refine HU.out.mono ?_; rintro e w1 ⟨rfl, hb, b1⟩; have HB := Lib.hid hb; have B1 := Lib.hid b1; clear hb b1) | fail)
  refine (HP0.out _ _ HB.out).mono ?_
  rintro e v0 ⟨rfl, b2⟩
  have HB1 := Lib.hid (b2.heap HB.out)
  have C1 := Lib.hid ((B1.out).tr b2)
  clear b2
  clear HB
  go_wp2_with fail
  refine (HP1.out _ _ HB1.out).mono ?_
  rintro e v1 ⟨rfl, b2⟩
  have HB2 := Lib.hid (b2.heap HB1.out)
  have C2 := Lib.hid ((C1.out).tr b2)
  clear b2
  clear HB1
  go_wp2_with fail
  refine (HK.out _ C2.out).mono ?_
  rintro e w2 ⟨⟨v, a, rfl⟩, b2⟩
  have B2 := Lib.hid (C2.out.tr b2)
  clear b2
  go_wp2
  go_ret2
  exact ⟨⟨a, rfl⟩, B2.out⟩

set_option maxRecDepth 4096 in
set_option maxHeartbeats 8000000 in
theorem un2_ok (G : Errs) (R : World → Value → Prop) (l0 l : List UInt8) (w : World) (hE : Env G w) (hs : l0.length ≤ 1000000000) (hs' : l.length ≤ 1000000000) (hl : trimL l0 = l) (h0 : hasW l kwPoint = false) (h1 : hasW l kwLine = false) (h2 : hasW l kwPoly = true)
    (hk : ∀ wx, Bel w wx → Calls Tryz.prog 55 #[.string (ofL l)] wx fun e w' => (∃ v, e = .returned (.tuple #[v, .nilIface]) ∧ R w' v) ∧ Bel wx w') :
    Calls Tryz.prog 32 #[.string (ofL l0)] w fun e w' => (∃ v, e = .returned (.tuple #[.iface 69 v, .nilIface]) ∧ R w' v) ∧ Bel w w' := by
  have HK := Lib.hid hk
  clear hk
  have kc := fun (w : World) (C : Array Value) (n c : Nat) => Lib.run_convert_bytes_const (P := Tryz.prog) w 92 5 C n c Tryz.underlying92 Tryz.underlying5
  have HT := Lib.hid (trimSpace_calls (ofL l0) w (by rw [ofL_size]; exact hs))
  rw [toL_ofL, hl] at HT
  have HU := Lib.hid (upper_calls (ofL l) w (by rw [ofL_size]; omega))
  rw [toL_ofL] at HU
  have HP0 := Lib.hid (fun (p : Nat) (wx : World) hp => hp_calls l kwPoint p 5 wx #[.int .u8 80, .int .u8 79, .int .u8 73, .int .u8 78, .int .u8 84] rfl rfl hp)
  rw [h0] at HP0
  have HP1 := Lib.hid (fun (p : Nat) (wx : World) hp => hp_calls l kwLine p 10 wx #[.int .u8 76, .int .u8 73, .int .u8 78, .int .u8 69, .int .u8 83, .int .u8 84, .int .u8 82, .int .u8 73, .int .u8 78, .int .u8 71] rfl rfl hp)
  rw [h1] at HP1
  have HP2 := Lib.hid (fun (p : Nat) (wx : World) hp => hp_calls l kwPoly p 7 wx #[.int .u8 80, .int .u8 79, .int .u8 76, .int .u8 89, .int .u8 71, .int .u8 79, .int .u8 78] rfl rfl hp)
  rw [h2] at HP2
  have HE := Lib.hid hE
  clear hE hl h0 h1 h2
  generalize ofL l0 = s0 at *
  generalize hss : ofL l = s at *
  clear hss
  go_enter Tryz.func32, Tryz.ntmps32
  go_wp2_with (first | (go_at_call 50; refine HT.out.mono ?_; rintro e w1 ⟨rfl, rfl⟩) | (go_at_call 51; refine HU.out.mono ?_; rintro e w1 ⟨rfl, hb, b1⟩; have HB := Lib.hid hb; have B1 := Lib.hid b1; clear hb b1) | fail)
  refine (HP0.out _ _ HB.out).mono ?_
  rintro e v0 ⟨rfl, b2⟩
  have HB1 := Lib.hid (b2.heap HB.out)
  have C1 := Lib.hid ((B1.out).tr b2)
  clear b2
  clear HB
  go_wp2_with fail
  refine (HP1.out _ _ HB1.out).mono ?_
  rintro e v1 ⟨rfl, b2⟩
  have HB2 := Lib.hid (b2.heap HB1.out)
  have C2 := Lib.hid ((C1.out).tr b2)
  clear b2
  clear HB1
  go_wp2_with fail
  refine (HP2.out _ _ HB2.out).mono ?_
  rintro e v2 ⟨rfl, b2⟩
  have HB3 := Lib.hid (b2.heap HB2.out)
  have C3 := Lib.hid ((C2.out).tr b2)
  clear b2
  clear HB2
  go_wp2_with fail
  refine (HK.out _ C3.out).mono ?_
  rintro e w2 ⟨⟨v, rfl, hR⟩, b2⟩
  have B2 := Lib.hid (C3.out.tr b2)
  have HR := Lib.hid hR
  clear b2 hR
  go_wp2
  go_ret2
  exact ⟨⟨_, rfl, HR.out⟩, B2.out⟩

set_option maxRecDepth 4096 in
set_option maxHeartbeats 8000000 in
theorem un2_err (G : Errs) (l0 l : List UInt8) (w : World) (hE : Env G w) (hs : l0.length ≤ 1000000000) (hs' : l.length ≤ 1000000000) (hl : trimL l0 = l) (h0 : hasW l kwPoint = false) (h1 : hasW l kwLine = false) (h2 : hasW l kwPoly = true)
    (hk : ∀ wx, Bel w wx → Calls Tryz.prog 55 #[.string (ofL l)] wx fun e w' => (∃ v a, e = .returned (.tuple #[v, errV a])) ∧ Bel wx w') :
    Calls Tryz.prog 32 #[.string (ofL l0)] w fun e w' => (∃ a, e = .returned (.tuple #[.nilIface, errV a])) ∧ Bel w w' := by
  have HK := Lib.hid hk
  clear hk
  have kc := fun (w : World) (C : Array Value) (n c : Nat) => Lib.run_convert_bytes_const (P := Tryz.prog) w 92 5 C n c Tryz.underlying92 Tryz.underlying5
  have HT := Lib.hid (trimSpace_calls (ofL l0) w (by rw [ofL_size]; exact hs))
  rw [toL_ofL, hl] at HT
  have HU := Lib.hid (upper_calls (ofL l) w (by rw [ofL_size]; omega))
  rw [toL_ofL] at HU
  have HP0 := Lib.hid (fun (p : Nat) (wx : World) hp => hp_calls l kwPoint p 5 wx #[.int .u8 80, .int .u8 79, .int .u8 73, .int .u8 78, .int .u8 84] rfl rfl hp)
  rw [h0] at HP0
  have HP1 := Lib.hid (fun (p : Nat) (wx : World) hp => hp_calls l kwLine p 10 wx #[.int .u8 76, .int .u8 73, .int .u8 78, .int .u8 69, .int .u8 83, .int .u8 84, .int .u8 82, .int .u8 73, .int .u8 78, .int .u8 71] rfl rfl hp)
  rw [h1] at HP1
  have HP2 := Lib.hid (fun (p : Nat) (wx : World) hp => hp_calls l kwPoly p 7 wx #[.int .u8 80, .int .u8 79, .int .u8 76, .int .u8 89, .int .u8 71, .int .u8 79, .int .u8 78] rfl rfl hp)
  rw [h2] at HP2
  have HE := Lib.hid hE
  clear hE hl h0 h1 h2
  generalize ofL l0 = s0 at *
  generalize hss : ofL l = s at *
  clear hss
  go_enter Tryz.func32, Tryz.ntmps32
  go_wp2_with (first | (go_at_call 50; refine HT.out.mono ?_; rintro e w1 ⟨rfl, rfl⟩) | (go_at_call 51; refine HU.out.mono ?_; rintro e w1 ⟨rfl, hb, b1⟩; have HB := Lib.hid hb; have B1 := Lib.hid b1; clear hb b1) | fail)
  refine (HP0.out _ _ HB.out).mono ?_
  rintro e v0 ⟨rfl, b2⟩
  have HB1 := Lib.hid (b2.heap HB.out)
  have C1 := Lib.hid ((B1.out).tr b2)
  clear b2
  clear HB
  go_wp2_with fail
  refine (HP1.out _ _ HB1.out).mono ?_
  rintro e v1 ⟨rfl, b2⟩
  have HB2 := Lib.hid (b2.heap HB1.out)
  have C2 := Lib.hid ((C1.out).tr b2)
  clear b2
  clear HB1
  go_wp2_with fail
  refine (HP2.out _ _ HB2.out).mono ?_
  rintro e v2 ⟨rfl, b2⟩
  have HB3 := Lib.hid (b2.heap HB2.out)
  have C3 := Lib.hid ((C2.out).tr b2)
  clear b2
  clear HB2
  go_wp2_with fail
  refine (HK.out _ C3.out).mono ?_
  rintro e w2 ⟨⟨v, a, rfl⟩, b2⟩
  have B2 := Lib.hid (C3.out.tr b2)
  clear b2
  go_wp2
  go_ret2
  exact ⟨⟨a, rfl⟩, B2.out⟩

set_option maxRecDepth 4096 in
set_option maxHeartbeats 8000000 in
theorem un3_ok (G : Errs) (R : World → Value → Prop) (l0 l : List UInt8) (w : World) (hE : Env G w) (hs : l0.length ≤ 1000000000) (hs' : l.length ≤ 1000000000) (hl : trimL l0 = l) (h0 : hasW l kwPoint = false) (h1 : hasW l kwLine = false) (h2 : hasW l kwPoly = false) (h3 : hasW l kwMPoint = true)
    (hk : ∀ wx, Bel w wx → Calls Tryz.prog 56 #[.string (ofL l)] wx fun e w' => (∃ v, e = .returned (.tuple #[v, .nilIface]) ∧ R w' v) ∧ Bel wx w') :
    Calls Tryz.prog 32 #[.string (ofL l0)] w fun e w' => (∃ v, e = .returned (.tuple #[.iface 72 v, .nilIface]) ∧ R w' v) ∧ Bel w w' := by
  have HK := Lib.hid hk
  clear hk
  have kc := fun (w : World) (C : Array Value) (n c : Nat) => Lib.run_convert_bytes_const (P := Tryz.prog) w 92 5 C n c Tryz.underlying92 Tryz.underlying5
  have HT := Lib.hid (trimSpace_calls (ofL l0) w (by rw [ofL_size]; exact hs))
  rw [toL_ofL, hl] at HT
  have HU := Lib.hid (upper_calls (ofL l) w (by rw [ofL_size]; omega))
  rw [toL_ofL] at HU
  have HP0 := Lib.hid (fun (p : Nat) (wx : World) hp => hp_calls l kwPoint p 5 wx #[.int .u8 80, .int .u8 79, .int .u8 73, .int .u8 78, .int .u8 84] rfl rfl hp)
  rw [h0] at HP0
  have HP1 := Lib.hid (fun (p : Nat) (wx : World) hp => hp_calls l kwLine p 10 wx #[.int .u8 76, .int .u8 73, .int .u8 78, .int .u8 69, .int .u8 83, .int .u8 84, .int .u8 82, .int .u8 73, .int .u8 78, .int .u8 71] rfl rfl hp)
  rw [h1] at HP1
  have HP2 := Lib.hid (fun (p : Nat) (wx : World) hp => hp_calls l kwPoly p 7 wx #[.int .u8 80, .int .u8 79, .int .u8 76, .int .u8 89, .int .u8 71, .int .u8 79, .int .u8 78] rfl rfl hp)
  rw [h2] at HP2
  have HP3 := Lib.hid (fun (p : Nat) (wx : World) hp => hp_calls l kwMPoint p 10 wx #[.int .u8 77, .int .u8 85, .int .u8 76, .int .u8 84, .int .u8 73, .int .u8 80, .int .u8 79, .int .u8 73, .int .u8 78, .int .u8 84] rfl rfl hp)
  rw [h3] at HP3
  have HE := Lib.hid hE
  clear hE hl h0 h1 h2 h3
  generalize ofL l0 = s0 at *
  generalize hss : ofL l = s at *
  clear hss
  go_enter Tryz.func32, Tryz.ntmps32
  go_wp2_with (first | (go_at_call 50; refine HT.out.mono ?_; rintro e w1 ⟨rfl, rfl⟩) | (go_at_call 51; refine HU.out.mono ?_; rintro e w1 ⟨rfl, hb, b1⟩; have HB := Lib.hid hb; have B1 := Lib.hid b1; clear hb b1) | fail)
  refine (HP0.out _ _ HB.out).mono ?_
  rintro e v0 ⟨rfl, b2⟩
  have HB1 := Lib.hid (b2.heap HB.out)
  have C1 := Lib.hid ((B1.out).tr b2)
  clear b2
  clear HB
  go_wp2_with fail
  refine (HP1.out _ _ HB1.out).mono ?_
  rintro e v1 ⟨rfl, b2⟩
  have HB2 := Lib.hid (b2.heap HB1.out)
  have C2 := Lib.hid ((C1.out).tr b2)
  clear b2
  clear HB1
  go_wp2_with fail
  refine (HP2.out _ _ HB2.out).mono ?_
  rintro e v2 ⟨rfl, b2⟩
  have HB3 := Lib.hid (b2.heap HB2.out)
  have C3 := Lib.hid ((C2.out).tr b2)
  clear b2
  clear HB2
  go_wp2_with fail
  refine (HP3.out _ _ HB3.out).mono ?_
  rintro e v3 ⟨rfl, b2⟩
  have HB4 := Lib.hid (b2.heap HB3.out)
  have C4 := Lib.hid ((C3.out).tr b2)
  clear b2
  clear HB3
  go_wp2_with fail
  refine (HK.out _ C4.out).mono ?_
  rintro e w2 ⟨⟨v, rfl, hR⟩, b2⟩
  have B2 := Lib.hid (C4.out.tr b2)
  have HR := Lib.hid hR
  clear b2 hR
  go_wp2
  go_ret2
  exact ⟨⟨_, rfl, HR.out⟩, B2.out⟩

set_option maxRecDepth 4096 in
set_option maxHeartbeats 8000000 in
theorem un3_err (G : Errs) (l0 l : List UInt8) (w : World) (hE : Env G w) (hs : l0.length ≤ 1000000000) (hs' : l.length ≤ 1000000000) (hl : trimL l0 = l) (h0 : hasW l kwPoint = false) (h1 : hasW l kwLine = false) (h2 : hasW l kwPoly = false) (h3 : hasW l kwMPoint = true)
    (hk : ∀ wx, Bel w wx → Calls Tryz.prog 56 #[.string (ofL l)] wx fun e w' => (∃ v a, e = .returned (.tuple #[v, errV a])) ∧ Bel wx w') :
    Calls Tryz.prog 32 #[.string (ofL l0)] w fun e w' => (∃ a, e = .returned (.tuple #[.nilIface, errV a])) ∧ Bel w w' := by
  have HK := Lib.hid hk
  clear hk
  have kc := fun (w : World) (C : Array Value) (n c : Nat) => Lib.run_convert_bytes_const (P := Tryz.prog) w 92 5 C n c Tryz.underlying92 Tryz.underlying5
  have HT := Lib.hid (trimSpace_calls (ofL l0) w (by rw [ofL_size]; exact hs))
  rw [toL_ofL, hl] at HT
  have HU := Lib.hid (upper_calls (ofL l) w (by rw [ofL_size]; omega))
  rw [toL_ofL] at HU
  have HP0 := Lib.hid (fun (p : Nat) (wx : World) hp => hp_calls l kwPoint p 5 wx #[.int .u8 80, .int .u8 79, .int .u8 73, .int .u8 78, .int .u8 84] rfl rfl hp)
  rw [h0] at HP0
  have HP1 := Lib.hid (fun (p : Nat) (wx : World) hp => hp_calls l kwLine p 10 wx #[.int .u8 76, .int .u8 73, .int .u8 78, .int .u8 69, .int .u8 83, .int .u8 84, .int .u8 82, .int .u8 73, .int .u8 78, .int .u8 71] rfl rfl hp)
  rw [h1] at HP1
  have HP2 := Lib.hid (fun (p : Nat) (wx : World) hp => hp_calls l kwPoly p 7 wx #[.int .u8 80, .int .u8 79, .int .u8 76, .int .u8 89, .int .u8 71, .int .u8 79, .int .u8 78] rfl rfl hp)
  rw [h2] at HP2
  have HP3 := Lib.hid (fun (p : Nat) (wx : World) hp => hp_calls l kwMPoint p 10 wx #[.int .u8 77, .int .u8 85, .int .u8 76, .int .u8 84, .int .u8 73, .int .u8 80, .int .u8 79, .int .u8 73, .int .u8 78, .int .u8 84] rfl rfl hp)
  rw [h3] at HP3
  have HE := Lib.hid hE
  clear hE hl h0 h1 h2 h3
  generalize ofL l0 = s0 at *
  generalize hss : ofL l = s at *
  clear hss
  go_enter Tryz.func32, Tryz.ntmps32
  go_wp2_with (first | (go_at_call 50; refine HT.out.mono ?_; rintro e w1 ⟨rfl, rfl⟩) | (go_at_call 51; refine HU.out.mono ?_; rintro e w1 ⟨rfl, hb, b1⟩; have HB := Lib.hid hb; have B1 := Lib.hid b1; clear hb b1) | fail)
  refine (HP0.out _ _ HB.out).mono ?_
  rintro e v0 ⟨rfl, b2⟩
  have HB1 := Lib.hid (b2.heap HB.out)
  have C1 := Lib.hid ((B1.out).tr b2)
  clear b2
  clear HB
  go_wp2_with fail
  refine (HP1.out _ _ HB1.out).mono ?_
  rintro e v1 ⟨rfl, b2⟩
  have HB2 := Lib.hid (b2.heap HB1.out)
  have C2 := Lib.hid ((C1.out).tr b2)
  clear b2
  clear HB1
  go_wp2_with fail
  refine (HP2.out _ _ HB2.out).mono ?_
  rintro e v2 ⟨rfl, b2⟩
  have HB3 := Lib.hid (b2.heap HB2.out)
  have C3 := Lib.hid ((C2.out).tr b2)
  clear b2
  clear HB2
  go_wp2_with fail
  refine (HP3.out _ _ HB3.out).mono ?_
  rintro e v3 ⟨rfl, b2⟩
  have HB4 := Lib.hid (b2.heap HB3.out)
  have C4 := Lib.hid ((C3.out).tr b2)
  clear b2
  clear HB3
  go_wp2_with fail
  refine (HK.out _ C4.out).mono ?_
  rintro e w2 ⟨⟨v, a, rfl⟩, b2⟩
  have B2 := Lib.hid (C4.out.tr b2)
  clear b2
  go_wp2
  go_ret2
  exact ⟨⟨a, rfl⟩, B2.out⟩

set_option maxRecDepth 4096 in
set_option maxHeartbeats 8000000 in
theorem un4_ok (G : Errs) (R : World → Value → Prop) (l0 l : List UInt8) (w : World) (hE : Env G w) (hs : l0.length ≤ 1000000000) (hs' : l.length ≤ 1000000000) (hl : trimL l0 = l) (h0 : hasW l kwPoint = false) (h1 : hasW l kwLine = false) (h2 : hasW l kwPoly = false) (h3 : hasW l kwMPoint = false) (h4 : hasW l kwMLine = true)
    (hk : ∀ wx, Bel w wx → Calls Tryz.prog 57 #[.string (ofL l)] wx fun e w' => (∃ v, e = .returned (.tuple #[v, .nilIface]) ∧ R w' v) ∧ Bel wx w') :
    Calls Tryz.prog 32 #[.string (ofL l0)] w fun e w' => (∃ v, e = .returned (.tuple #[.iface 76 v, .nilIface]) ∧ R w' v) ∧ Bel w w' := by
  have HK := Lib.hid hk
  clear hk
  have kc := fun (w : World) (C : Array Value) (n c : Nat) => Lib.run_convert_bytes_const (P := Tryz.prog) w 92 5 C n c Tryz.underlying92 Tryz.underlying5
  have HT := Lib.hid (trimSpace_calls (ofL l0) w (by rw [ofL_size]; exact hs))
  rw [toL_ofL, hl] at HT
  have HU := Lib.hid (upper_calls (ofL l) w (by rw [ofL_size]; omega))
  rw [toL_ofL] at HU
  have HP0 := Lib.hid (fun (p : Nat) (wx : World) hp => hp_calls l kwPoint p 5 wx #[.int .u8 80, .int .u8 79, .int .u8 73, .int .u8 78, .int .u8 84] rfl rfl hp)
  rw [h0] at HP0
  have HP1 := Lib.hid (fun (p : Nat) (wx : World) hp => hp_calls l kwLine p 10 wx #[.int .u8 76, .int .u8 73, .int .u8 78, .int .u8 69, .int .u8 83, .int .u8 84, .int .u8 82, .int .u8 73, .int .u8 78, .int .u8 71] rfl rfl hp)
  rw [h1] at HP1
  have HP2 := Lib.hid (fun (p : Nat) (wx : World) hp => hp_calls l kwPoly p 7 wx #[.int .u8 80, .int .u8 79, .int .u8 76, .int .u8 89, .int .u8 71, .int .u8 79, .int .u8 78] rfl rfl hp)
  rw [h2] at HP2
  have HP3 := Lib.hid (fun (p : Nat) (wx : World) hp => hp_calls l kwMPoint p 10 wx #[.int .u8 77, .int .u8 85, .int .u8 76, .int .u8 84, .int .u8 73, .int .u8 80, .int .u8 79, .int .u8 73, .int .u8 78, .int .u8 84] rfl rfl hp)
  rw [h3] at HP3
  have HP4 := Lib.hid (fun (p : Nat) (wx : World) hp => hp_calls l kwMLine p 15 wx #[.int .u8 77, .int .u8 85, .int .u8 76, .int .u8 84, .int .u8 73, .int .u8 76, .int .u8 73, .int .u8 78, .int .u8 69, .int .u8 83, .int .u8 84, .int .u8 82, .int .u8 73, .int .u8 78, .int .u8 71] rfl rfl hp)
  rw [h4] at HP4
  have HE := Lib.hid hE
  clear hE hl h0 h1 h2 h3 h4
  generalize ofL l0 = s0 at *
  generalize hss : ofL l = s at *
  clear hss
  go_enter Tryz.func32, Tryz.ntmps32
  go_wp2_with (first | (go_at_call 50; refine HT.out.mono ?_; rintro e w1 ⟨rfl, rfl⟩) | (go_at_call 51; refine HU.out.mono ?_; rintro e w1 ⟨rfl, hb, b1⟩; have HB := Lib.hid hb; have B1 := Lib.hid b1; clear hb b1) | fail)
  refine (HP0.out _ _ HB.out).mono ?_
  rintro e v0 ⟨rfl, b2⟩
  have HB1 := Lib.hid (b2.heap HB.out)
  have C1 := Lib.hid ((B1.out).tr b2)
  clear b2
  clear HB
  go_wp2_with fail
  refine (HP1.out _ _ HB1.out).mono ?_
  rintro e v1 ⟨rfl, b2⟩
  have HB2 := Lib.hid (b2.heap HB1.out)
  have C2 := Lib.hid ((C1.out).tr b2)
  clear b2
  clear HB1
  go_wp2_with fail
  refine (HP2.out _ _ HB2.out).mono ?_
  rintro e v2 ⟨rfl, b2⟩
  have HB3 := Lib.hid (b2.heap HB2.out)
  have C3 := Lib.hid ((C2.out).tr b2)
  clear b2
  clear HB2
  go_wp2_with fail
  refine (HP3.out _ _ HB3.out).mono ?_
  rintro e v3 ⟨rfl, b2⟩
  have HB4 := Lib.hid (b2.heap HB3.out)
  have C4 := Lib.hid ((C3.out).tr b2)
  clear b2
  clear HB3
  go_wp2_with fail
  refine (HP4.out _ _ HB4.out).mono ?_
  rintro e v4 ⟨rfl, b2⟩
  have HB5 := Lib.hid (b2.heap HB4.out)
  have C5 := Lib.hid ((C4.out).tr b2)
  clear b2
  clear HB4
  go_wp2_with fail
  refine (HK.out _ C5.out).mono ?_
  rintro e w2 ⟨⟨v, rfl, hR⟩, b2⟩
  have B2 := Lib.hid (C5.out.tr b2)
  have HR := Lib.hid hR
  clear b2 hR
  go_wp2
  go_ret2
  exact ⟨⟨_, rfl, HR.out⟩, B2.out⟩

set_option maxRecDepth 4096 in
set_option maxHeartbeats 8000000 in
theorem un4_err (G : Errs) (l0 l : List UInt8) (w : World) (hE : Env G w) (hs : l0.length ≤ 1000000000) (hs' : l.length ≤ 1000000000) (hl : trimL l0 = l) (h0 : hasW l kwPoint = false) (h1 : hasW l kwLine = false) (h2 : hasW l kwPoly = false) (h3 : hasW l kwMPoint = false) (h4 : hasW l kwMLine = true)
    (hk : ∀ wx, Bel w wx → Calls Tryz.prog 57 #[.string (ofL l)] wx fun e w' => (∃ v a, e = .returned (.tuple #[v, errV a])) ∧ Bel wx w') :
    Calls Tryz.prog 32 #[.string (ofL l0)] w fun e w' => (∃ a, e = .returned (.tuple #[.nilIface, errV a])) ∧ Bel w w' := by
  have HK := Lib.hid hk
  clear hk
  have kc := fun (w : World) (C : Array Value) (n c : Nat) => Lib.run_convert_bytes_const (P := Tryz.prog) w 92 5 C n c Tryz.underlying92 Tryz.underlying5
  have HT := Lib.hid (trimSpace_calls (ofL l0) w (by rw [ofL_size]; exact hs))
  rw [toL_ofL, hl] at HT
  have HU := Lib.hid (upper_calls (ofL l) w (by rw [ofL_size]; omega))
  rw [toL_ofL] at HU
  have HP0 := Lib.hid (fun (p : Nat) (wx : World) hp => hp_calls l kwPoint p 5 wx #[.int .u8 80, .int .u8 79, .int .u8 73, .int .u8 78, .int .u8 84] rfl rfl hp)
  rw [h0] at HP0
  have HP1 := Lib.hid (fun (p : Nat) (wx : World) hp => hp_calls l kwLine p 10 wx #[.int .u8 76, .int .u8 73, .int .u8 78, .int .u8 69, .int .u8 83, .int .u8 84, .int .u8 82, .int .u8 73, .int .u8 78, .int .u8 71] rfl rfl hp)
  rw [h1] at HP1
  have HP2 := Lib.hid (fun (p : Nat) (wx : World) hp => hp_calls l kwPoly p 7 wx #[.int .u8 80, .int .u8 79, .int .u8 76, .int .u8 89, .int .u8 71, .int .u8 79, .int .u8 78] rfl rfl hp)
  rw [h2] at HP2
  have HP3 := Lib.hid (fun (p : Nat) (wx : World) hp => hp_calls l kwMPoint p 10 wx #[.int .u8 77, .int .u8 85, .int .u8 76, .int .u8 84, .int .u8 73, .int .u8 80, .int .u8 79, .int .u8 73, .int .u8 78, .int .u8 84] rfl rfl hp)
  rw [h3] at HP3
  have HP4 := Lib.hid (fun (p : Nat) (wx : World) hp => hp_calls l kwMLine p 15 wx #[.int .u8 77, .int .u8 85, .int .u8 76, .int .u8 84, .int .u8 73, .int .u8 76, .int .u8 73, .int .u8 78, .int .u8 69, .int .u8 83, .int .u8 84, .int .u8 82, .int .u8 73, .int .u8 78, .int .u8 71] rfl rfl hp)
  rw [h4] at HP4
  have HE := Lib.hid hE
  clear hE hl h0 h1 h2 h3 h4
  generalize ofL l0 = s0 at *
  generalize hss : ofL l = s at *
  clear hss
  go_enter Tryz.func32, Tryz.ntmps32
  go_wp2_with (first | (go_at_call 50; refine HT.out.mono ?_; rintro e w1 ⟨rfl, rfl⟩) | (go_at_call 51; refine HU.out.mono ?_; rintro e w1 ⟨rfl, hb, b1⟩; have HB := Lib.hid hb; have B1 := Lib.hid b1; clear hb b1) | fail)
  refine (HP0.out _ _ HB.out).mono ?_
  rintro e v0 ⟨rfl, b2⟩
  have HB1 := Lib.hid (b2.heap HB.out)
  have C1 := Lib.hid ((B1.out).tr b2)
  clear b2
  clear HB
  go_wp2_with fail
  refine (HP1.out _ _ HB1.out).mono ?_
  rintro e v1 ⟨rfl, b2⟩
  have HB2 := Lib.hid (b2.heap HB1.out)
  have C2 := Lib.hid ((C1.out).tr b2)
  clear b2
  clear HB1
  go_wp2_with fail
  refine (HP2.out _ _ HB2.out).mono ?_
  rintro e v2 ⟨rfl, b2⟩
  have HB3 := Lib.hid (b2.heap HB2.out)
  have C3 := Lib.hid ((C2.out).tr b2)
  clear b2
  clear HB2
  go_wp2_with fail
  refine (HP3.out _ _ HB3.out).mono ?_
  rintro e v3 ⟨rfl, b2⟩
  have HB4 := Lib.hid (b2.heap HB3.out)
  have C4 := Lib.hid ((C3.out).tr b2)
  clear b2
  clear HB3
  go_wp2_with fail
  refine (HP4.out _ _ HB4.out).mono ?_
  rintro e v4 ⟨rfl, b2⟩
  have HB5 := Lib.hid (b2.heap HB4.out)
  have C5 := Lib.hid ((C4.out).tr b2)
  clear b2
  clear HB4
  go_wp2_with fail
  refine (HK.out _ C5.out).mono ?_
  rintro e w2 ⟨⟨v, a, rfl⟩, b2⟩
  have B2 := Lib.hid (C5.out.tr b2)
  clear b2
  go_wp2
  go_ret2
  exact ⟨⟨a, rfl⟩, B2.out⟩

set_option maxRecDepth 4096 in
set_option maxHeartbeats 8000000 in
theorem un5_ok (G : Errs) (R : World → Value → Prop) (l0 l : List UInt8) (w : World) (hE : Env G w) (hs : l0.length ≤ 1000000000) (hs' : l.length ≤ 1000000000) (hl : trimL l0 = l) (h0 : hasW l kwPoint = false) (h1 : hasW l kwLine = false) (h2 : hasW l kwPoly = false) (h3 : hasW l kwMPoint = false) (h4 : hasW l kwMLine = false) (h5 : hasW l kwMPoly = true)
    (hk : ∀ wx, Bel w wx → Calls Tryz.prog 58 #[.string (ofL l)] wx fun e w' => (∃ v, e = .returned (.tuple #[v, .nilIface]) ∧ R w' v) ∧ Bel wx w') :
    Calls Tryz.prog 32 #[.string (ofL l0)] w fun e w' => (∃ v, e = .returned (.tuple #[.iface 80 v, .nilIface]) ∧ R w' v) ∧ Bel w w' := by
  have HK := Lib.hid hk
  clear hk
  have kc := fun (w : World) (C : Array Value) (n c : Nat) => Lib.run_convert_bytes_const (P := Tryz.prog) w 92 5 C n c Tryz.underlying92 Tryz.underlying5
  have HT := Lib.hid (trimSpace_calls (ofL l0) w (by rw [ofL_size]; exact hs))
  rw [toL_ofL, hl] at HT
  have HU := Lib.hid (upper_calls (ofL l) w (by rw [ofL_size]; omega))
  rw [toL_ofL] at HU
  have HP0 := Lib.hid (fun (p : Nat) (wx : World) hp => hp_calls l kwPoint p 5 wx #[.int .u8 80, .int .u8 79, .int .u8 73, .int .u8 78, .int .u8 84] rfl rfl hp)
  rw [h0] at HP0
  have HP1 := Lib.hid (fun (p : Nat) (wx : World) hp => hp_calls l kwLine p 10 wx #[.int .u8 76, .int .u8 73, .int .u8 78, .int .u8 69, .int .u8 83, .int .u8 84, .int .u8 82, .int .u8 73, .int .u8 78, .int .u8 71] rfl rfl hp)
  rw [h1] at HP1
  have HP2 := Lib.hid (fun (p : Nat) (wx : World) hp => hp_calls l kwPoly p 7 wx #[.int .u8 80, .int .u8 79, .int .u8 76, .int .u8 89, .int .u8 71, .int .u8 79, .int .u8 78] rfl rfl hp)
  rw [h2] at HP2
  have HP3 := Lib.hid (fun (p : Nat) (wx : World) hp => hp_calls l kwMPoint p 10 wx #[.int .u8 77, .int .u8 85, .int .u8 76, .int .u8 84, .int .u8 73, .int .u8 80, .int .u8 79, .int .u8 73, .int .u8 78, .int .u8 84] rfl rfl hp)
  rw [h3] at HP3
  have HP4 := Lib.hid (fun (p : Nat) (wx : World) hp => hp_calls l kwMLine p 15 wx #[.int .u8 77, .int .u8 85, .int .u8 76, .int .u8 84, .int .u8 73, .int .u8 76, .int .u8 73, .int .u8 78, .int .u8 69, .int .u8 83, .int .u8 84, .int .u8 82, .int .u8 73, .int .u8 78, .int .u8 71] rfl rfl hp)
  rw [h4] at HP4
  have HP5 := Lib.hid (fun (p : Nat) (wx : World) hp => hp_calls l kwMPoly p 12 wx #[.int .u8 77, .int .u8 85, .int .u8 76, .int .u8 84, .int .u8 73, .int .u8 80, .int .u8 79, .int .u8 76, .int .u8 89, .int .u8 71, .int .u8 79, .int .u8 78] rfl rfl hp)
  rw [h5] at HP5
  have HE := Lib.hid hE
  clear hE hl h0 h1 h2 h3 h4 h5
  generalize ofL l0 = s0 at *
  generalize hss : ofL l = s at *
  clear hss
  go_enter Tryz.func32, Tryz.ntmps32
  go_wp2_with (first | (go_at_call 50; refine HT.out.mono ?_; rintro e w1 ⟨rfl, rfl⟩) | (go_at_call 51; refine HU.out.mono ?_; rintro e w1 ⟨rfl, hb, b1⟩; have HB := Lib.hid hb; have B1 := Lib.hid b1; clear hb b1) | fail)
  refine (HP0.out _ _ HB.out).mono ?_
  rintro e v0 ⟨rfl, b2⟩
  have HB1 := Lib.hid (b2.heap HB.out)
  have C1 := Lib.hid ((B1.out).tr b2)
  clear b2
  clear HB
  go_wp2_with fail
  refine (HP1.out _ _ HB1.out).mono ?_
  rintro e v1 ⟨rfl, b2⟩
  have HB2 := Lib.hid (b2.heap HB1.out)
  have C2 := Lib.hid ((C1.out).tr b2)
  clear b2
  clear HB1
  go_wp2_with fail
  refine (HP2.out _ _ HB2.out).mono ?_
  rintro e v2 ⟨rfl, b2⟩
  have HB3 := Lib.hid (b2.heap HB2.out)
  have C3 := Lib.hid ((C2.out).tr b2)
  clear b2
  clear HB2
  go_wp2_with fail
  refine (HP3.out _ _ HB3.out).mono ?_
  rintro e v3 ⟨rfl, b2⟩
  have HB4 := Lib.hid (b2.heap HB3.out)
  have C4 := Lib.hid ((C3.out).tr b2)
  clear b2
  clear HB3
  go_wp2_with fail
  refine (HP4.out _ _ HB4.out).mono ?_
  rintro e v4 ⟨rfl, b2⟩
  have HB5 := Lib.hid (b2.heap HB4.out)
  have C5 := Lib.hid ((C4.out).tr b2)
  clear b2
  clear HB4
  go_wp2_with fail
  refine (HP5.out _ _ HB5.out).mono ?_
  rintro e v5 ⟨rfl, b2⟩
  have HB6 := Lib.hid (b2.heap HB5.out)
  have C6 := Lib.hid ((C5.out).tr b2)
  clear b2
  clear HB5
  go_wp2_with fail
  refine (HK.out _ C6.out).mono ?_
  rintro e w2 ⟨⟨v, rfl, hR⟩, b2⟩
  have B2 := Lib.hid (C6.out.tr b2)
  have HR := Lib.hid hR
  clear b2 hR
  go_wp2
  go_ret2
  exact ⟨⟨_, rfl, HR.out⟩, B2.out⟩

set_option maxRecDepth 4096 in
set_option maxHeartbeats 8000000 in
theorem un5_err (G : Errs) (l0 l : List UInt8) (w : World) (hE : Env G w) (hs : l0.length ≤ 1000000000) (hs' : l.length ≤ 1000000000) (hl : trimL l0 = l) (h0 : hasW l kwPoint = false) (h1 : hasW l kwLine = false) (h2 : hasW l kwPoly = false) (h3 : hasW l kwMPoint = false) (h4 : hasW l kwMLine = false) (h5 : hasW l kwMPoly = true)
    (hk : ∀ wx, Bel w wx → Calls Tryz.prog 58 #[.string (ofL l)] wx fun e w' => (∃ v a, e = .returned (.tuple #[v, errV a])) ∧ Bel wx w') :
    Calls Tryz.prog 32 #[.string (ofL l0)] w fun e w' => (∃ a, e = .returned (.tuple #[.nilIface, errV a])) ∧ Bel w w' := by
  have HK := Lib.hid hk
  clear hk
  have kc := fun (w : World) (C : Array Value) (n c : Nat) => Lib.run_convert_bytes_const (P := Tryz.prog) w 92 5 C n c Tryz.underlying92 Tryz.underlying5
  have HT := Lib.hid (trimSpace_calls (ofL l0) w (by rw [ofL_size]; exact hs))
  rw [toL_ofL, hl] at HT
  have HU := Lib.hid (upper_calls (ofL l) w (by rw [ofL_size]; omega))
  rw [toL_ofL] at HU
  have HP0 := Lib.hid (fun (p : Nat) (wx : World) hp => hp_calls l kwPoint p 5 wx #[.int .u8 80, .int .u8 79, .int .u8 73, .int .u8 78, .int .u8 84] rfl rfl hp)
  rw [h0] at HP0
  have HP1 := Lib.hid (fun (p : Nat) (wx : World) hp => hp_calls l kwLine p 10 wx #[.int .u8 76, .int .u8 73, .int .u8 78, .int .u8 69, .int .u8 83, .int .u8 84, .int .u8 82, .int .u8 73, .int .u8 78, .int .u8 71] rfl rfl hp)
  rw [h1] at HP1
  have HP2 := Lib.hid (fun (p : Nat) (wx : World) hp => hp_calls l kwPoly p 7 wx #[.int .u8 80, .int .u8 79, .int .u8 76, .int .u8 89, .int .u8 71, .int .u8 79, .int .u8 78] rfl rfl hp)
  rw [h2] at HP2
  have HP3 := Lib.hid (fun (p : Nat) (wx : World) hp => hp_calls l kwMPoint p 10 wx #[.int .u8 77, .int .u8 85, .int .u8 76, .int .u8 84, .int .u8 73, .int .u8 80, .int .u8 79, .int .u8 73, .int .u8 78, .int .u8 84] rfl rfl hp)
  rw [h3] at HP3
  have HP4 := Lib.hid (fun (p : Nat) (wx : World) hp => hp_calls l kwMLine p 15 wx #[.int .u8 77, .int .u8 85, .int .u8 76, .int .u8 84, .int .u8 73, .int .u8 76, .int .u8 73, .int .u8 78, .int .u8 69, .int .u8 83, .int .u8 84, .int .u8 82, .int .u8 73, .int .u8 78, .int .u8 71] rfl rfl hp)
  rw [h4] at HP4
  have HP5 := Lib.hid (fun (p : Nat) (wx : World) hp => hp_calls l kwMPoly p 12 wx #[.int .u8 77, .int .u8 85, .int .u8 76, .int .u8 84, .int .u8 73, .int .u8 80, .int .u8 79, .int .u8 76, .int .u8 89, .int .u8 71, .int .u8 79, .int .u8 78] rfl rfl hp)
  rw [h5] at HP5
  have HE := Lib.hid hE
  clear hE hl h0 h1 h2 h3 h4 h5
  generalize ofL l0 = s0 at *
  generalize hss : ofL l = s at *
  clear hss
  go_enter Tryz.func32, Tryz.ntmps32
  go_wp2_with (first | (go_at_call 50; refine HT.out.mono ?_; rintro e w1 ⟨rfl, rfl⟩) | (go_at_call 51; refine HU.out.mono ?_; rintro e w1 ⟨rfl, hb, b1⟩; have HB := Lib.hid hb; have B1 := Lib.hid b1; clear hb b1) | fail)
  refine (HP0.out _ _ HB.out).mono ?_
  rintro e v0 ⟨rfl, b2⟩
  have HB1 := Lib.hid (b2.heap HB.out)
  have C1 := Lib.hid ((B1.out).tr b2)
  clear b2
  clear HB
  go_wp2_with fail
  refine (HP1.out _ _ HB1.out).mono ?_
  rintro e v1 ⟨rfl, b2⟩
  have HB2 := Lib.hid (b2.heap HB1.out)
  have C2 := Lib.hid ((C1.out).tr b2)
  clear b2
  clear HB1
  go_wp2_with fail
  refine (HP2.out _ _ HB2.out).mono ?_
  rintro e v2 ⟨rfl, b2⟩
  have HB3 := Lib.hid (b2.heap HB2.out)
  have C3 := Lib.hid ((C2.out).tr b2)
  clear b2
  clear HB2
  go_wp2_with fail
  refine (HP3.out _ _ HB3.out).mono ?_
  rintro e v3 ⟨rfl, b2⟩
  have HB4 := Lib.hid (b2.heap HB3.out)
  have C4 := Lib.hid ((C3.out).tr b2)
  clear b2
  clear HB3
  go_wp2_with fail
  refine (HP4.out _ _ HB4.out).mono ?_
  rintro e v4 ⟨rfl, b2⟩
  have HB5 := Lib.hid (b2.heap HB4.out)
  have C5 := Lib.hid ((C4.out).tr b2)
  clear b2
  clear HB4
  go_wp2_with fail
  refine (HP5.out _ _ HB5.out).mono ?_
  rintro e v5 ⟨rfl, b2⟩
  have HB6 := Lib.hid (b2.heap HB5.out)
  have C6 := Lib.hid ((C5.out).tr b2)
  clear b2
  clear HB5
  go_wp2_with fail
  refine (HK.out _ C6.out).mono ?_
  rintro e w2 ⟨⟨v, a, rfl⟩, b2⟩
  have B2 := Lib.hid (C6.out.tr b2)
  clear b2
  go_wp2
  go_ret2
  exact ⟨⟨a, rfl⟩, B2.out⟩

set_option maxRecDepth 4096 in
set_option maxHeartbeats 8000000 in
theorem un6_ok (G : Errs) (R : World → Value → Prop) (l0 l : List UInt8) (w : World) (hE : Env G w) (hs : l0.length ≤ 1000000000) (hs' : l.length ≤ 1000000000) (hl : trimL l0 = l) (h0 : hasW l kwPoint = false) (h1 : hasW l kwLine = false) (h2 : hasW l kwPoly = false) (h3 : hasW l kwMPoint = false) (h4 : hasW l kwMLine = false) (h5 : hasW l kwMPoly = false) (h6 : hasW l kwColl = true)
    (hk : ∀ wx, Bel w wx → Calls Tryz.prog 59 #[.string (ofL l)] wx fun e w' => (∃ v, e = .returned (.tuple #[v, .nilIface]) ∧ R w' v) ∧ Bel wx w') :
    Calls Tryz.prog 32 #[.string (ofL l0)] w fun e w' => (∃ v, e = .returned (.tuple #[.iface 84 v, .nilIface]) ∧ R w' v) ∧ Bel w w' := by
  have HK := Lib.hid hk
  clear hk
  have kc := fun (w : World) (C : Array Value) (n c : Nat) => Lib.run_convert_bytes_const (P := Tryz.prog) w 92 5 C n c Tryz.underlying92 Tryz.underlying5
  have HT := Lib.hid (trimSpace_calls (ofL l0) w (by rw [ofL_size]; exact hs))
  rw [toL_ofL, hl] at HT
  have HU := Lib.hid (upper_calls (ofL l) w (by rw [ofL_size]; omega))
  rw [toL_ofL] at HU
  have HP0 := Lib.hid (fun (p : Nat) (wx : World) hp => hp_calls l kwPoint p 5 wx #[.int .u8 80, .int .u8 79, .int .u8 73, .int .u8 78, .int .u8 84] rfl rfl hp)
  rw [h0] at HP0
  have HP1 := Lib.hid (fun (p : Nat) (wx : World) hp => hp_calls l kwLine p 10 wx #[.int .u8 76, .int .u8 73, .int .u8 78, .int .u8 69, .int .u8 83, .int .u8 84, .int .u8 82, .int .u8 73, .int .u8 78, .int .u8 71] rfl rfl hp)
  rw [h1] at HP1
  have HP2 := Lib.hid (fun (p : Nat) (wx : World) hp => hp_calls l kwPoly p 7 wx #[.int .u8 80, .int .u8 79, .int .u8 76, .int .u8 89, .int .u8 71, .int .u8 79, .int .u8 78] rfl rfl hp)
  rw [h2] at HP2
  have HP3 := Lib.hid (fun (p : Nat) (wx : World) hp => hp_calls l kwMPoint p 10 wx #[.int .u8 77, .int .u8 85, .int .u8 76, .int .u8 84, .int .u8 73, .int .u8 80, .int .u8 79, .int .u8 73, .int .u8 78, .int .u8 84] rfl rfl hp)
  rw [h3] at HP3
  have HP4 := Lib.hid (fun (p : Nat) (wx : World) hp => hp_calls l kwMLine p 15 wx #[.int .u8 77, .int .u8 85, .int .u8 76, .int .u8 84, .int .u8 73, .int .u8 76, .int .u8 73, .int .u8 78, .int .u8 69, .int .u8 83, .int .u8 84, .int .u8 82, .int .u8 73, .int .u8 78, .int .u8 71] rfl rfl hp)
  rw [h4] at HP4
  have HP5 := Lib.hid (fun (p : Nat) (wx : World) hp => hp_calls l kwMPoly p 12 wx #[.int .u8 77, .int .u8 85, .int .u8 76, .int .u8 84, .int .u8 73, .int .u8 80, .int .u8 79, .int .u8 76, .int .u8 89, .int .u8 71, .int .u8 79, .int .u8 78] rfl rfl hp)
  rw [h5] at HP5
  have HP6 := Lib.hid (fun (p : Nat) (wx : World) hp => hp_calls l kwColl p 18 wx #[.int .u8 71, .int .u8 69, .int .u8 79, .int .u8 77, .int .u8 69, .int .u8 84, .int .u8 82, .int .u8 89, .int .u8 67, .int .u8 79, .int .u8 76, .int .u8 76, .int .u8 69, .int .u8 67, .int .u8 84, .int .u8 73, .int .u8 79, .int .u8 78] rfl rfl hp)
  rw [h6] at HP6
  have HE := Lib.hid hE
  clear hE hl h0 h1 h2 h3 h4 h5 h6
  generalize ofL l0 = s0 at *
  generalize hss : ofL l = s at *
  clear hss
  go_enter Tryz.func32, Tryz.ntmps32
  go_wp2_with (first | (go_at_call 50; refine HT.out.mono ?_; rintro e w1 ⟨rfl, rfl⟩) | (go_at_call 51; refine HU.out.mono ?_; rintro e w1 ⟨rfl, hb, b1⟩; have HB := Lib.hid hb; have B1 := Lib.hid b1; clear hb b1) | fail)
  refine (HP0.out _ _ HB.out).mono ?_
  rintro e v0 ⟨rfl, b2⟩
  have HB1 := Lib.hid (b2.heap HB.out)
  have C1 := Lib.hid ((B1.out).tr b2)
  clear b2
  clear HB
  go_wp2_with fail
  refine (HP1.out _ _ HB1.out).mono ?_
  rintro e v1 ⟨rfl, b2⟩
  have HB2 := Lib.hid (b2.heap HB1.out)
  have C2 := Lib.hid ((C1.out).tr b2)
  clear b2
  clear HB1
  go_wp2_with fail
  refine (HP2.out _ _ HB2.out).mono ?_
  rintro e v2 ⟨rfl, b2⟩
  have HB3 := Lib.hid (b2.heap HB2.out)
  have C3 := Lib.hid ((C2.out).tr b2)
  clear b2
  clear HB2
  go_wp2_with fail
  refine (HP3.out _ _ HB3.out).mono ?_
  rintro e v3 ⟨rfl, b2⟩
  have HB4 := Lib.hid (b2.heap HB3.out)
  have C4 := Lib.hid ((C3.out).tr b2)
  clear b2
  clear HB3
  go_wp2_with fail
  refine (HP4.out _ _ HB4.out).mono ?_
  rintro e v4 ⟨rfl, b2⟩
  have HB5 := Lib.hid (b2.heap HB4.out)
  have C5 := Lib.hid ((C4.out).tr b2)
  clear b2
  clear HB4
  go_wp2_with fail
  refine (HP5.out _ _ HB5.out).mono ?_
  rintro e v5 ⟨rfl, b2⟩
  have HB6 := Lib.hid (b2.heap HB5.out)
  have C6 := Lib.hid ((C5.out).tr b2)
  clear b2
  clear HB5
  go_wp2_with fail
  refine (HP6.out _ _ HB6.out).mono ?_
  rintro e v6 ⟨rfl, b2⟩
  have HB7 := Lib.hid (b2.heap HB6.out)
  have C7 := Lib.hid ((C6.out).tr b2)
  clear b2
  clear HB6
  go_wp2_with fail
  refine (HK.out _ C7.out).mono ?_
  rintro e w2 ⟨⟨v, rfl, hR⟩, b2⟩
  have B2 := Lib.hid (C7.out.tr b2)
  have HR := Lib.hid hR
  clear b2 hR
  go_wp2
  go_ret2
  exact ⟨⟨_, rfl, HR.out⟩, B2.out⟩

set_option maxRecDepth 4096 in
set_option maxHeartbeats 8000000 in
theorem un6_err (G : Errs) (l0 l : List UInt8) (w : World) (hE : Env G w) (hs : l0.length ≤ 1000000000) (hs' : l.length ≤ 1000000000) (hl : trimL l0 = l) (h0 : hasW l kwPoint = false) (h1 : hasW l kwLine = false) (h2 : hasW l kwPoly = false) (h3 : hasW l kwMPoint = false) (h4 : hasW l kwMLine = false) (h5 : hasW l kwMPoly = false) (h6 : hasW l kwColl = true)
    (hk : ∀ wx, Bel w wx → Calls Tryz.prog 59 #[.string (ofL l)] wx fun e w' => (∃ v a, e = .returned (.tuple #[v, errV a])) ∧ Bel wx w') :
    Calls Tryz.prog 32 #[.string (ofL l0)] w fun e w' => (∃ a, e = .returned (.tuple #[.nilIface, errV a])) ∧ Bel w w' := by
  have HK := Lib.hid hk
  clear hk
  have kc := fun (w : World) (C : Array Value) (n c : Nat) => Lib.run_convert_bytes_const (P := Tryz.prog) w 92 5 C n c Tryz.underlying92 Tryz.underlying5
  have HT := Lib.hid (trimSpace_calls (ofL l0) w (by rw [ofL_size]; exact hs))
  rw [toL_ofL, hl] at HT
  have HU := Lib.hid (upper_calls (ofL l) w (by rw [ofL_size]; omega))
  rw [toL_ofL] at HU
  have HP0 := Lib.hid (fun (p : Nat) (wx : World) hp => hp_calls l kwPoint p 5 wx #[.int .u8 80, .int .u8 79, .int .u8 73, .int .u8 78, .int .u8 84] rfl rfl hp)
  rw [h0] at HP0
  have HP1 := Lib.hid (fun (p : Nat) (wx : World) hp => hp_calls l kwLine p 10 wx #[.int .u8 76, .int .u8 73, .int .u8 78, .int .u8 69, .int .u8 83, .int .u8 84, .int .u8 82, .int .u8 73, .int .u8 78, .int .u8 71] rfl rfl hp)
  rw [h1] at HP1
  have HP2 := Lib.hid (fun (p : Nat) (wx : World) hp => hp_calls l kwPoly p 7 wx #[.int .u8 80, .int .u8 79, .int .u8 76, .int .u8 89, .int .u8 71, .int .u8 79, .int .u8 78] rfl rfl hp)
  rw [h2] at HP2
  have HP3 := Lib.hid (fun (p : Nat) (wx : World) hp => hp_calls l kwMPoint p 10 wx #[.int .u8 77, .int .u8 85, .int .u8 76, .int .u8 84, .int .u8 73, .int .u8 80, .int .u8 79, .int .u8 73, .int .u8 78, .int .u8 84] rfl rfl hp)
  rw [h3] at HP3
  have HP4 := Lib.hid (fun (p : Nat) (wx : World) hp => hp_calls l kwMLine p 15 wx #[.int .u8 77, .int .u8 85, .int .u8 76, .int .u8 84, .int .u8 73, .int .u8 76, .int .u8 73, .int .u8 78, .int .u8 69, .int .u8 83, .int .u8 84, .int .u8 82, .int .u8 73, .int .u8 78, .int .u8 71] rfl rfl hp)
  rw [h4] at HP4
  have HP5 := Lib.hid (fun (p : Nat) (wx : World) hp => hp_calls l kwMPoly p 12 wx #[.int .u8 77, .int .u8 85, .int .u8 76, .int .u8 84, .int .u8 73, .int .u8 80, .int .u8 79, .int .u8 76, .int .u8 89, .int .u8 71, .int .u8 79, .int .u8 78] rfl rfl hp)
  rw [h5] at HP5
  have HP6 := Lib.hid (fun (p : Nat) (wx : World) hp => hp_calls l kwColl p 18 wx #[.int .u8 71, .int .u8 69, .int .u8 79, .int .u8 77, .int .u8 69, .int .u8 84, .int .u8 82, .int .u8 89, .int .u8 67, .int .u8 79, .int .u8 76, .int .u8 76, .int .u8 69, .int .u8 67, .int .u8 84, .int .u8 73, .int .u8 79, .int .u8 78] rfl rfl hp)
  rw [h6] at HP6
  have HE := Lib.hid hE
  clear hE hl h0 h1 h2 h3 h4 h5 h6
  generalize ofL l0 = s0 at *
  generalize hss : ofL l = s at *
  clear hss
  go_enter Tryz.func32, Tryz.ntmps32
  go_wp2_with (first | (go_at_call 50; refine HT.out.mono ?_; rintro e w1 ⟨rfl, rfl⟩) | (go_at_call 51; refine HU.out.mono ?_; rintro e w1 ⟨rfl, hb, b1⟩; have HB := Lib.hid hb; have B1 := Lib.hid b1; clear hb b1) | fail)
  refine (HP0.out _ _ HB.out).mono ?_
  rintro e v0 ⟨rfl, b2⟩
  have HB1 := Lib.hid (b2.heap HB.out)
  have C1 := Lib.hid ((B1.out).tr b2)
  clear b2
  clear HB
  go_wp2_with fail
  refine (HP1.out _ _ HB1.out).mono ?_
  rintro e v1 ⟨rfl, b2⟩
  have HB2 := Lib.hid (b2.heap HB1.out)
  have C2 := Lib.hid ((C1.out).tr b2)
  clear b2
  clear HB1
  go_wp2_with fail
  refine (HP2.out _ _ HB2.out).mono ?_
  rintro e v2 ⟨rfl, b2⟩
  have HB3 := Lib.hid (b2.heap HB2.out)
  have C3 := Lib.hid ((C2.out).tr b2)
  clear b2
  clear HB2
  go_wp2_with fail
  refine (HP3.out _ _ HB3.out).mono ?_
  rintro e v3 ⟨rfl, b2⟩
  have HB4 := Lib.hid (b2.heap HB3.out)
  have C4 := Lib.hid ((C3.out).tr b2)
  clear b2
  clear HB3
  go_wp2_with fail
  refine (HP4.out _ _ HB4.out).mono ?_
  rintro e v4 ⟨rfl, b2⟩
  have HB5 := Lib.hid (b2.heap HB4.out)
  have C5 := Lib.hid ((C4.out).tr b2)
  clear b2
  clear HB4
  go_wp2_with fail
  refine (HP5.out _ _ HB5.out).mono ?_
  rintro e v5 ⟨rfl, b2⟩
  have HB6 := Lib.hid (b2.heap HB5.out)
  have C6 := Lib.hid ((C5.out).tr b2)
  clear b2
  clear HB5
  go_wp2_with fail
  refine (HP6.out _ _ HB6.out).mono ?_
  rintro e v6 ⟨rfl, b2⟩
  have HB7 := Lib.hid (b2.heap HB6.out)
  have C7 := Lib.hid ((C6.out).tr b2)
  clear b2
  clear HB6
  go_wp2_with fail
  refine (HK.out _ C7.out).mono ?_
  rintro e w2 ⟨⟨v, a, rfl⟩, b2⟩
  have B2 := Lib.hid (C7.out.tr b2)
  clear b2
  go_wp2
  go_ret2
  exact ⟨⟨a, rfl⟩, B2.out⟩

set_option maxRecDepth 4096 in
set_option maxHeartbeats 8000000 in
theorem un7_none (G : Errs) (l0 l : List UInt8) (w : World) (hE : Env G w) (hs : l0.length ≤ 1000000000) (hs' : l.length ≤ 1000000000) (hl : trimL l0 = l) (h0 : hasW l kwPoint = false) (h1 : hasW l kwLine = false) (h2 : hasW l kwPoly = false) (h3 : hasW l kwMPoint = false) (h4 : hasW l kwMLine = false) (h5 : hasW l kwMPoly = false) (h6 : hasW l kwColl = false) :
    Calls Tryz.prog 32 #[.string (ofL l0)] w fun e w' => (∃ a, e = .returned (.tuple #[.nilIface, errV a])) ∧ Bel w w' := by
  have kc := fun (w : World) (C : Array Value) (n c : Nat) => Lib.run_convert_bytes_const (P := Tryz.prog) w 92 5 C n c Tryz.underlying92 Tryz.underlying5
  have HT := Lib.hid (trimSpace_calls (ofL l0) w (by rw [ofL_size]; exact hs))
  rw [toL_ofL, hl] at HT
  have HU := Lib.hid (upper_calls (ofL l) w (by rw [ofL_size]; omega))
  rw [toL_ofL] at HU
  have HP0 := Lib.hid (fun (p : Nat) (wx : World) hp => hp_calls l kwPoint p 5 wx #[.int .u8 80, .int .u8 79, .int .u8 73, .int .u8 78, .int .u8 84] rfl rfl hp)
  rw [h0] at HP0
  have HP1 := Lib.hid (fun (p : Nat) (wx : World) hp => hp_calls l kwLine p 10 wx #[.int .u8 76, .int .u8 73, .int .u8 78, .int .u8 69, .int .u8 83, .int .u8 84, .int .u8 82, .int .u8 73, .int .u8 78, .int .u8 71] rfl rfl hp)
  rw [h1] at HP1
  have HP2 := Lib.hid (fun (p : Nat) (wx : World) hp => hp_calls l kwPoly p 7 wx #[.int .u8 80, .int .u8 79, .int .u8 76, .int .u8 89, .int .u8 71, .int .u8 79, .int .u8 78] rfl rfl hp)
  rw [h2] at HP2
  have HP3 := Lib.hid (fun (p : Nat) (wx : World) hp => hp_calls l kwMPoint p 10 wx #[.int .u8 77, .int .u8 85, .int .u8 76, .int .u8 84, .int .u8 73, .int .u8 80, .int .u8 79, .int .u8 73, .int .u8 78, .int .u8 84] rfl rfl hp)
  rw [h3] at HP3
  have HP4 := Lib.hid (fun (p : Nat) (wx : World) hp => hp_calls l kwMLine p 15 wx #[.int .u8 77, .int .u8 85, .int .u8 76, .int .u8 84, .int .u8 73, .int .u8 76, .int .u8 73, .int .u8 78, .int .u8 69, .int .u8 83, .int .u8 84, .int .u8 82, .int .u8 73, .int .u8 78, .int .u8 71] rfl rfl hp)
  rw [h4] at HP4
  have HP5 := Lib.hid (fun (p : Nat) (wx : World) hp => hp_calls l kwMPoly p 12 wx #[.int .u8 77, .int .u8 85, .int .u8 76, .int .u8 84, .int .u8 73, .int .u8 80, .int .u8 79, .int .u8 76, .int .u8 89, .int .u8 71, .int .u8 79, .int .u8 78] rfl rfl hp)
  rw [h5] at HP5
  have HP6 := Lib.hid (fun (p : Nat) (wx : World) hp => hp_calls l kwColl p 18 wx #[.int .u8 71, .int .u8 69, .int .u8 79, .int .u8 77, .int .u8 69, .int .u8 84, .int .u8 82, .int .u8 89, .int .u8 67, .int .u8 79, .int .u8 76, .int .u8 76, .int .u8 69, .int .u8 67, .int .u8 84, .int .u8 73, .int .u8 79, .int .u8 78] rfl rfl hp)
  rw [h6] at HP6
  have HE := Lib.hid hE
  clear hE hl h0 h1 h2 h3 h4 h5 h6
  generalize ofL l0 = s0 at *
  generalize hss : ofL l = s at *
  clear hss
  go_enter Tryz.func32, Tryz.ntmps32
  go_wp2_with (first | (go_at_call 50; refine HT.out.mono ?_; rintro e w1 ⟨rfl, rfl⟩) | (go_at_call 51; refine HU.out.mono ?_; rintro e w1 ⟨rfl, hb, b1⟩; have HB := Lib.hid hb; have B1 := Lib.hid b1; clear hb b1) | fail)
  refine (HP0.out _ _ HB.out).mono ?_
  rintro e v0 ⟨rfl, b2⟩
  have HB1 := Lib.hid (b2.heap HB.out)
  have C1 := Lib.hid ((B1.out).tr b2)
  clear b2
  clear HB
  go_wp2_with fail
  refine (HP1.out _ _ HB1.out).mono ?_
  rintro e v1 ⟨rfl, b2⟩
  have HB2 := Lib.hid (b2.heap HB1.out)
  have C2 := Lib.hid ((C1.out).tr b2)
  clear b2
  clear HB1
  go_wp2_with fail
  refine (HP2.out _ _ HB2.out).mono ?_
  rintro e v2 ⟨rfl, b2⟩
  have HB3 := Lib.hid (b2.heap HB2.out)
  have C3 := Lib.hid ((C2.out).tr b2)
  clear b2
  clear HB2
  go_wp2_with fail
  refine (HP3.out _ _ HB3.out).mono ?_
  rintro e v3 ⟨rfl, b2⟩
  have HB4 := Lib.hid (b2.heap HB3.out)
  have C4 := Lib.hid ((C3.out).tr b2)
  clear b2
  clear HB3
  go_wp2_with fail
  refine (HP4.out _ _ HB4.out).mono ?_
  rintro e v4 ⟨rfl, b2⟩
  have HB5 := Lib.hid (b2.heap HB4.out)
  have C5 := Lib.hid ((C4.out).tr b2)
  clear b2
  clear HB4
  go_wp2_with fail
  refine (HP5.out _ _ HB5.out).mono ?_
  rintro e v5 ⟨rfl, b2⟩
  have HB6 := Lib.hid (b2.heap HB5.out)
  have C6 := Lib.hid ((C5.out).tr b2)
  clear b2
  clear HB5
  go_wp2_with fail
  refine (HP6.out _ _ HB6.out).mono ?_
  rintro e v6 ⟨rfl, b2⟩
  have HB7 := Lib.hid (b2.heap HB6.out)
  have C7 := Lib.hid ((C6.out).tr b2)
  clear b2
  clear HB6
  go_wp2_with fail
  have hu := C7.out.cellOf HE.out.eU
  go_quiet (fail)
  go_wp2
  go_ret2
  exact ⟨⟨_, rfl⟩, C7.out.tr (Bel.dr _ _)⟩
end Go.Proofs.YtghajgdiaopioaaGreatDoor

/- Walks: a collection's text cut at its outer commas (fn 94). -/
namespace Go.Proofs.YtghajgdiaopioaaGreatDoor
open Go.RowKit
attribute [local go_sem] run_store_float run_store_iface run_store_nilIface

/-- The parts of a collection's text, cut at the commas that stand in no brackets. -/
def gcGo (cur : List UInt8) (n : Int) : List UInt8 → List (List UInt8)
  | [] => [trimL cur]
  | c :: r =>
    if c = 40 then gcGo (cur ++ [c]) (n + 1) r
    else if c = 41 then gcGo (cur ++ [c]) (n - 1) r
    else if c = 44 then (if n = 0 then trimL cur :: gcGo [] n r else gcGo (cur ++ [c]) n r)
    else gcGo (cur ++ [c]) n r
abbrev strs (ls : List (List UInt8)) : List Value := ls.map fun l => .string (ofL l)

theorem info9 : (Tryz.prog.info? 9).map (fun i => (i.zero, i.size, i.bytes)) = some (some (.string ⟨#[]⟩), 1, 16) := by kernel_rfl

set_option maxHeartbeats 4000000 in
theorem splitGC_err (s : ByteArray) (w : World) (hs : s.size ≤ 1000000000) (eN : Value) (a : Addr) (he : eN = errV a) (hN : w.cell? ⟨4, 0, none⟩ = some eN) (h : brkL (toL s) = none) :
    Calls Tryz.prog 94 #[.string s] w fun e w' => e = .returned (.tuple #[.slice none 0 0, eN]) ∧ ∃ n, w' = w.drewN n := by
  have HB := Lib.hid (brk_err s w hs eN hN h)
  subst he
  clear h
  go_enter Tryz.func94, Tryz.ntmps94
  go_wp2_with (go_at_call 75; refine HB.out.mono ?_; rintro e w1 ⟨rfl, n, rfl⟩)
  go_ret2
  exact ⟨rfl, n, rfl⟩

set_option maxRecDepth 4096 in
set_option maxHeartbeats 8000000 in
theorem splitGC_calls (s : ByteArray) (w : World) (hs : s.size ≤ 1000000000) (q : List UInt8) (h : brkL (toL s) = some q) (hq : q.length ≤ 1000000000) :
    Calls Tryz.prog 94 #[.string s] w fun e w' => ∃ v, e = .returned (.tuple #[v, .nilIface]) ∧ w'.ownsRow w.heap.size 9 1 v (gcGo [] 0 q).length (strs (gcGo [] 0 q)) ∧ Bel w w' := by
  obtain ⟨i0, hi, hz0, hz1, hz2⟩ := info_parts info9
  have HB := Lib.hid (brk_ok s w hs q h)
  clear h
  obtain ⟨u, hu, hul⟩ : ∃ u, ofL q = u ∧ toL u = q := ⟨_, rfl, toL_ofL q⟩
  have husz : u.size = q.length := by rw [← hu, ofL_size]
  rw [hu] at HB
  have hus : u.size ≤ 1000000000 := by omega
  subst hul
  clear hu hq husz
  have hmk : ∀ w, (Instr.makeSlice 46 (.int .i64 0) (.int .i64 0)).run Tryz.prog w = .ok (.slice (some ⟨w.heap.size, 0, none⟩) 0 0) (w.alloc (.cells #[] 9)) := fun _ => by kernel_rfl
  go_enter Tryz.func94, Tryz.ntmps94
  go_wp2_with (go_at_call 75; refine HB.out.mono ?_; rintro e w1 ⟨rfl, rfl⟩)
  clear hmk
  go_loopg [5, 6, 7, 8] u.size (fun g s5 s6 s7 s8 wr => ∃ (st i : Nat) (n : Int) (ls : List (List UInt8)), st ≤ i ∧ i ≤ u.size ∧ g = u.size - i ∧ s6 = .int .i64 n ∧ s7 = .int .i64 st ∧ True ∧ s8 = .int .i64 i ∧ n ≤ i ∧ -(i : Int) ≤ n ∧ wr.ownsRow w.heap.size 9 1 s5 ls.length (strs ls) ∧ Bel w wr ∧ ls.length ≤ i ∧ Hid (ls ++ gcGo (((toL u).take i).drop st) n ((toL u).drop i) = gcGo [] 0 (toL u)))
  case atStart => exact ⟨0, 0, 0, [], by omega, by omega, rfl, rfl, rfl, trivial, rfl, by omega, by omega, ⟨by simp, .inr ⟨w.heap.size, 0, #[], rfl, Nat.le_refl _, heap_alloc_new w _, Nat.le_refl _, Nat.zero_le _, by simp, by simp⟩⟩, Bel.al _ _, by simp, rfl⟩
  case round =>
    obtain ⟨st, i, n, ls, h1, h2, rfl, rfl, rfl, -, rfl, hn1, hn2, hown, hbel, hll, HQ⟩ := hrel
    by_cases hlt : i < u.size
    · obtain ⟨x, hx⟩ : ∃ x : UInt8, u[i] = x := ⟨_, rfl⟩
      have hdrop := drop_at u i hlt hx
      have htake := take_at u i hlt hx
      have hone : ((toL u).take (i + 1)).drop i = [x] := by
        rw [htake, List.drop_append_of_le_length (by rw [List.length_take, toL_length]; omega), List.drop_of_length_le (by rw [List.length_take]; omega)]; rfl
      have hcur : ((toL u).take (i + 1)).drop st = ((toL u).take i).drop st ++ [x] := by
        rw [drop_take_split (toL u) st i (i + 1) h1 (by omega), hone]
      have hnil : ((toL u).take (i + 1)).drop (i + 1) = [] := List.drop_of_length_le (by rw [List.length_take]; omega)
      have hat : ((toL u).take i).drop st = ((toL u).drop st).take (i - st) := by rw [List.drop_take]
      obtain ⟨y, hy, HY⟩ : ∃ y, u.extract st i = y ∧ Hid (y = ofL (((toL u).take i).drop st)) := by
        refine ⟨_, rfl, ?_⟩
        have := ofL_extract (toL u) st i
        rw [ofL_toL, ← hat] at this
        exact this
      have hlenc : (((toL u).take i).drop st).length ≤ 1000000000 := by rw [List.length_drop, List.length_take]; omega
      have HFACTS : Hid (((toL u).take (i + 1)).drop st = ((toL u).take i).drop st ++ [x] ∧ ((toL u).take (i + 1)).drop (i + 1) = []) := ⟨hcur, hnil⟩
      rw [hdrop] at HQ
      have HLENC := Lib.hid hlenc
      have HOWN := Lib.hid hown
      have HBEL := Lib.hid hbel
      clear hcur hnil hone hat hlenc htake hdrop hown hbel
      generalize ((toL u).take i).drop st = cur at *
      have c1 : (st : Int) ≤ (i : Int) := by omega
      have c2 : (i : Int) ≤ (u.size : Int) := by omega
      by_cases h40 : x = 40
      · subst h40
        have HQ2 : gcGo cur n ((40 : UInt8) :: (toL u).drop (i + 1)) = gcGo (cur ++ [40]) (n + 1) ((toL u).drop (i + 1)) := by rw [gcGo, if_pos rfl]
        have HQ3 := Lib.hid HQ2
        clear HQ2
        go_wp2_with fail
        go_roundg (u.size - (i + 1))
        case measure => omega
        case rel =>
          obtain ⟨f1, f2⟩ := HFACTS.out
          exact ⟨st, i + 1, n + 1, ls, by omega, by omega, rfl, by first | rfl | go_num, rfl, trivial, by go_num, by omega, by omega, HOWN.out, HBEL.out, by omega, by
            show _ = _; rw [← HQ.out, f1]; exact congrArg _ HQ3.out.symm⟩
      · have n40 : ((x.toNat : Int) == 40) = false := eq_i 40 h40
        have H40 := Lib.hid h40
        clear h40
        by_cases h41 : x = 41
        · subst h41
          have HQ2 : gcGo cur n ((41 : UInt8) :: (toL u).drop (i + 1)) = gcGo (cur ++ [41]) (n - 1) ((toL u).drop (i + 1)) := by rw [gcGo, if_neg H40.out, if_pos rfl]
          have HQ3 := Lib.hid HQ2
          clear HQ2
          go_wp2_with fail
          go_roundg (u.size - (i + 1))
          case measure => omega
          case rel =>
            obtain ⟨f1, f2⟩ := HFACTS.out
            exact ⟨st, i + 1, n - 1, ls, by omega, by omega, rfl, by first | rfl | go_num, rfl, trivial, by go_num, by omega, by omega, HOWN.out, HBEL.out, by omega, by
              show _ = _; rw [← HQ.out, f1]; exact congrArg _ HQ3.out.symm⟩
        · have n41 : ((x.toNat : Int) == 41) = false := eq_i 41 h41
          have H41 := Lib.hid h41
          clear h41
          by_cases h44 : x = 44
          · subst h44
            by_cases hn0 : n = 0
            · subst hn0
              have HQ2 : gcGo cur 0 ((44 : UInt8) :: (toL u).drop (i + 1)) = trimL cur :: gcGo [] 0 ((toL u).drop (i + 1)) := by rw [gcGo, if_neg H40.out, if_neg H41.out, if_pos rfl, if_pos rfl]
              have HQ3 := Lib.hid HQ2
              clear HQ2
              have HT := Lib.hid (fun wx => trimSpace_calls y wx (by rw [HY.out, ofL_size]; exact HLENC.out))
              rw [HY.out, toL_ofL, ← HY.out] at HT
              go_wp2_with (first | (go_at_call 50; refine (HT.out _).mono ?_; rintro e w' ⟨rfl, rfl⟩) | (at_builtin; refine wpList_append1 _ [_] 9 rfl (.tmp 39) (.tmp 45) 46 rfl w.heap.size i0 (.string ⟨#[]⟩) 1 16 Tryz.underlying46 hi hz0 hz1 hz2 rfl (by decide) _ ls.length (strs ls) rfl HOWN.out _ _ rfl (by simp) rfl ?_ ?_ ?_ ?_ ?_))
              · exact fun u hu => by simp at hu; subst hu; rfl
              · omega
              · unfold maxLen; omega
              · exact HBEL.out.size
              · intro v' w' h2' h3'
                have H2 := Lib.hid h2'
                have H3 := Lib.hid h3'
                clear h2' h3'
                go_wp2
                go_roundg (u.size - (i + 1))
                case measure => omega
                case rel =>
                  refine ⟨i + 1, i + 1, 0, ls ++ [trimL cur], by omega, by omega, rfl, rfl, by go_num, trivial, by go_num, by omega, by omega, ?_, ?_, by simp; omega, ?_⟩
                  · rw [List.length_append, strs, List.map_append]; exact H2.out
                  · refine HBEL.out.trans (Below.grown (Below.refl _ _) H3.out HBEL.out.size ?_)
                    intro k hk
                    exact (HOWN.out.lt k hk).1
                  · show _ = _
                    rw [← HQ.out, HFACTS.out.2, HQ3.out, List.append_assoc]; rfl
            · have n0 : (n == 0) = false := by simpa using hn0
              have HQ2 : gcGo cur n ((44 : UInt8) :: (toL u).drop (i + 1)) = gcGo (cur ++ [44]) n ((toL u).drop (i + 1)) := by rw [gcGo, if_neg H40.out, if_neg H41.out, if_pos rfl, if_neg hn0]
              have HQ3 := Lib.hid HQ2
              clear HQ2 hn0
              go_wp2_with fail
              go_roundg (u.size - (i + 1))
              case measure => omega
              case rel =>
                obtain ⟨f1, f2⟩ := HFACTS.out
                exact ⟨st, i + 1, n, ls, by omega, by omega, rfl, by first | rfl | go_num, rfl, trivial, by go_num, by omega, by omega, HOWN.out, HBEL.out, by omega, by
                  show _ = _; rw [← HQ.out, f1]; exact congrArg _ HQ3.out.symm⟩
          · have n44 : ((x.toNat : Int) == 44) = false := eq_i 44 h44
            have HQ2 : gcGo cur n (x :: (toL u).drop (i + 1)) = gcGo (cur ++ [x]) n ((toL u).drop (i + 1)) := by rw [gcGo, if_neg H40.out, if_neg H41.out, if_neg h44]
            have HQ3 := Lib.hid HQ2
            clear HQ2 h44
            go_wp2_with fail
            go_roundg (u.size - (i + 1))
            case measure => omega
            case rel =>
              obtain ⟨f1, f2⟩ := HFACTS.out
              exact ⟨st, i + 1, n, ls, by omega, by omega, rfl, by first | rfl | go_num, rfl, trivial, by go_num, by omega, by omega, HOWN.out, HBEL.out, by omega, by
                show _ = _; rw [← HQ.out, f1]; exact congrArg _ HQ3.out.symm⟩
    · obtain rfl : i = u.size := by omega
      have hkz : ¬ ((u.size : Int) < (u.size : Int)) := by omega
      have c1 : (st : Int) ≤ (u.size : Int) := by omega
      obtain ⟨y, hy, HY⟩ : ∃ y, u.extract st u.size = y ∧ Hid (y = ofL (((toL u).take u.size).drop st)) := by
        have := ofL_from (toL u) st
        rw [ofL_toL, toL_length] at this
        refine ⟨_, rfl, ?_⟩
        rw [← toL_length u, List.take_length, toL_length]
        exact this
      have hlenc : (((toL u).take u.size).drop st).length ≤ 1000000000 := by rw [List.length_drop, List.length_take]; omega
      rw [List.drop_of_length_le (l := toL u) (by rw [toL_length]; exact Nat.le_refl _)] at HQ
      have HLENC := Lib.hid hlenc
      have HOWN := Lib.hid hown
      have HBEL := Lib.hid hbel
      clear hlenc hown hbel
      generalize ((toL u).take u.size).drop st = cur at *
      have HT := Lib.hid (fun wx => trimSpace_calls y wx (by rw [HY.out, ofL_size]; exact HLENC.out))
      rw [HY.out, toL_ofL, ← HY.out] at HT
      go_wp2_with (first | (go_at_call 50; refine (HT.out _).mono ?_; rintro e w' ⟨rfl, rfl⟩) | (at_builtin; refine wpList_append1 _ [_] 9 rfl (.tmp 49) (.tmp 54) 46 rfl w.heap.size i0 (.string ⟨#[]⟩) 1 16 Tryz.underlying46 hi hz0 hz1 hz2 rfl (by decide) _ ls.length (strs ls) rfl HOWN.out _ _ rfl (by simp) rfl ?_ ?_ ?_ ?_ ?_))
      · exact fun u hu => by simp at hu; subst hu; rfl
      · omega
      · unfold maxLen; omega
      · exact HBEL.out.size
      · intro v' w' h2' h3'
        have H2 := Lib.hid h2'
        have H3 := Lib.hid h3'
        clear h2' h3'
        go_wp2
        go_ret2
        have HQ' := HQ.out
        rw [gcGo] at HQ'
        refine ⟨_, rfl, ?_, ?_⟩
        · rw [← HQ', List.length_append, strs, List.map_append]; exact H2.out
        · refine HBEL.out.trans (Below.grown (Below.refl _ _) H3.out HBEL.out.size ?_)
          intro k hk
          exact (HOWN.out.lt k hk).1
end Go.Proofs.YtghajgdiaopioaaGreatDoor
