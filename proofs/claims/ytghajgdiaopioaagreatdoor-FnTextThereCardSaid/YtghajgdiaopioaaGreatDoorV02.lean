/- Walks: texts in brackets, joined (spec.joined). -/
import Derived.Laws.IdiomStrings
import Derived.Deep.RegionHeld3
import Derived.Test.YtghajgdiaopioaaGreatDoorV01
set_option linter.unusedVariables false
set_option linter.unusedSimpArgs false

namespace Go.Proofs.YtghajgdiaopioaaGreatDoor
open Go.RowKit
attribute [local go_sem] run_store_float run_store_iface run_store_nilIface

end Go.Proofs.YtghajgdiaopioaaGreatDoor

/- Walks: spec.listText. -/
namespace Go.Proofs.YtghajgdiaopioaaGreatDoor
open Go.RowKit
attribute [local go_sem] run_store_float run_store_iface run_store_nilIface

end Go.Proofs.YtghajgdiaopioaaGreatDoor

/- Walks: spec.listsText (printed by genAZ.py). -/
namespace Go.Proofs.YtghajgdiaopioaaGreatDoor
open Go.RowKit
attribute [local go_sem] run_store_float run_store_iface run_store_nilIface

end Go.Proofs.YtghajgdiaopioaaGreatDoor

/- Walks: spec's words (28). -/
namespace Go.Proofs.YtghajgdiaopioaaGreatDoor
open Go.RowKit
attribute [local go_sem] run_store_float run_store_iface run_store_nilIface

def kwOf : Nat → List UInt8
  | 1 => kwPoint
  | 2 => kwLine
  | 3 => kwPoly
  | 4 => kwMPoint
  | 5 => kwMLine
  | 6 => kwMPoly
  | 7 => kwColl
  | _ => []
end Go.Proofs.YtghajgdiaopioaaGreatDoor

/- Walks: spec's small words (28). -/
namespace Go.Proofs.YtghajgdiaopioaaGreatDoor
open Go.RowKit
attribute [local go_sem] run_store_float run_store_iface run_store_nilIface

end Go.Proofs.YtghajgdiaopioaaGreatDoor

/- Walks: spec.Text of an empty shape, of a point, of a line. -/
namespace Go.Proofs.YtghajgdiaopioaaGreatDoor
open Go.RowKit
attribute [local go_sem] run_store_float run_store_iface run_store_nilIface

end Go.Proofs.YtghajgdiaopioaaGreatDoor

/- Walks: spec.Text of a point and of a line (printed by genBD.py). -/
namespace Go.Proofs.YtghajgdiaopioaaGreatDoor
open Go.RowKit
attribute [local go_sem] run_store_float run_store_iface run_store_nilIface
attribute [local go_sem ↓] Go.wp_at_zero Go.wp_at_succ

end Go.Proofs.YtghajgdiaopioaaGreatDoor

/- Walks: spec.Text of a polygon and of lines (printed by genBE.py). -/
namespace Go.Proofs.YtghajgdiaopioaaGreatDoor
open Go.RowKit
attribute [local go_sem] run_store_float run_store_iface run_store_nilIface
attribute [local go_sem ↓] Go.wp_at_zero Go.wp_at_succ

end Go.Proofs.YtghajgdiaopioaaGreatDoor

/- Walks: spec.Text of points (printed by genBF.py). -/
namespace Go.Proofs.YtghajgdiaopioaaGreatDoor
open Go.RowKit
attribute [local go_sem] run_store_float run_store_iface run_store_nilIface

end Go.Proofs.YtghajgdiaopioaaGreatDoor

/- Walks: spec.Text of polygons and of mixed ones (printed by genBG.py). -/
namespace Go.Proofs.YtghajgdiaopioaaGreatDoor
open Go.RowKit
attribute [local go_sem] run_store_float run_store_iface run_store_nilIface


end Go.Proofs.YtghajgdiaopioaaGreatDoor

/- Plain words: full geometries, their points, their shapes. -/
namespace Go.Proofs.YtghajgdiaopioaaGreatDoor
open Go.RowKit

def fullL (ls : List (List Pt)) : Prop := ls ≠ [] ∧ ∀ l ∈ ls, l ≠ []
/-- No list of the geometry is empty. -/
def FullG : Nat → Geo → Prop
  | _, .pt _ => True
  | _, .line l => l ≠ []
  | _, .poly ls => fullL ls
  | _, .mpt l => l ≠ []
  | _, .mline ls => fullL ls
  | _, .mpoly ps => ps ≠ [] ∧ ∀ ls ∈ ps, fullL ls
  | 0, .coll _ => False
  | d + 1, .coll gs => gs ≠ [] ∧ ∀ g ∈ gs, FullG d g
theorem flat_lenS (d : Nat) (k : Int) (ls : List (List Pt)) (h : sml ls) : LenS (d + 1) (.mk k ls []) := ⟨h.1, by simp, h.2, by simp⟩
theorem small_lenS : ∀ (d : Nat) (g : Geo), Small d g → LenS (d + 2) (toShp d g) := by
  have hf : ∀ (d : Nat) (g : Geo), (∀ l, g ≠ .coll l) → Small d g → LenS (d + 2) (toShp d g) := by
    intro d g hg h
    cases g with
    | coll l => exact absurd rfl (hg l)
    | pt p => rw [show toShp d (.pt p) = .mk 1 [[p]] [] from by cases d <;> rfl]; exact flat_lenS _ _ _ ⟨by simp, by simp⟩
    | line l =>
      have h' : l.length ≤ 100000 := by cases d <;> exact h
      rw [show toShp d (.line l) = .mk 2 [l] [] from by cases d <;> rfl]; exact flat_lenS _ _ _ ⟨by simp, by simpa using h'⟩
    | mpt l =>
      have h' : l.length ≤ 100000 := by cases d <;> exact h
      rw [show toShp d (.mpt l) = .mk 4 [l] [] from by cases d <;> rfl]; exact flat_lenS _ _ _ ⟨by simp, by simpa using h'⟩
    | poly ls =>
      have h' : sml ls := by cases d <;> exact h
      rw [show toShp d (.poly ls) = .mk 3 ls [] from by cases d <;> rfl]; exact flat_lenS _ _ _ h'
    | mline ls =>
      have h' : sml ls := by cases d <;> exact h
      rw [show toShp d (.mline ls) = .mk 5 ls [] from by cases d <;> rfl]; exact flat_lenS _ _ _ h'
    | mpoly ps =>
      have h' : ps.length ≤ 100000 ∧ ∀ ls ∈ ps, sml ls := by cases d <;> exact h
      rw [show toShp d (.mpoly ps) = .mk 6 [] (ps.map fun ls => .mk 3 ls []) from by cases d <;> rfl]
      refine ⟨by simp, by simpa using h'.1, by simp, ?_⟩
      intro p hp
      rw [List.mem_map] at hp
      obtain ⟨ls, hls, rfl⟩ := hp
      exact flat_lenS _ _ _ (h'.2 ls hls)
  intro d
  induction d with
  | zero =>
    intro g h
    exact hf 0 g (fun l hl => by subst hl; exact h.elim) h
  | succ d ih =>
    intro g h
    by_cases hg : ∃ l, g = .coll l
    · obtain ⟨l, rfl⟩ := hg
      refine ⟨by simp, by simpa using h.1, by simp, ?_⟩
      intro p hp
      rw [List.mem_map] at hp
      obtain ⟨g, hg, rfl⟩ := hp
      exact ih g (h.2 g hg)
    · exact hf (d + 1) g (fun l hl => hg ⟨l, hl⟩) h
end Go.Proofs.YtghajgdiaopioaaGreatDoor

/- Walks: spec.Text by depth. -/
namespace Go.Proofs.YtghajgdiaopioaaGreatDoor
open Go.RowKit

end Go.Proofs.YtghajgdiaopioaaGreatDoor

/- Walks: spec.Text by depth. -/
namespace Go.Proofs.YtghajgdiaopioaaGreatDoor
open Go.RowKit

end Go.Proofs.YtghajgdiaopioaaGreatDoor

/- Walks: all (22), with IsWhole. -/
namespace Go.Proofs.YtghajgdiaopioaaGreatDoor
open Go.RowKit
attribute [local go_sem] run_store_float run_store_iface run_store_nilIface

/-- Every coordinate of a shape is such a one. -/
def AllS (Q : Nat → Prop) : Nat → Shp → Prop
  | 0, _ => True
  | d + 1, .mk _ ls ps => (∀ l ∈ ls, ∀ p ∈ l, Q p.1 ∧ Q p.2) ∧ ∀ s ∈ ps, AllS Q d s
/-- What a test of coordinates tells. -/
def Tells (F : Nat) (V Q : Nat → Prop) : Prop := ∀ x, V x → ∀ w, Calls Tryz.prog F #[.float .f64 x] w fun e w' => ∃ b, e = .returned (.bool b) ∧ Bel w w' ∧ (b = true → Q x)

end Go.Proofs.YtghajgdiaopioaaGreatDoor

/- Walks: WholeShape (10). -/
namespace Go.Proofs.YtghajgdiaopioaaGreatDoor
open Go.RowKit
attribute [local go_sem] run_store_float run_store_iface run_store_nilIface

end Go.Proofs.YtghajgdiaopioaaGreatDoor

/- Walks: pair (49) of whole numbers. -/
namespace Go.Proofs.YtghajgdiaopioaaGreatDoor
open Go.RowKit
attribute [local go_sem] run_store_float run_store_iface run_store_nilIface

end Go.Proofs.YtghajgdiaopioaaGreatDoor
