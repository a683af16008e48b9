/- Plain words: full geometries, their points, their shapes. -/
import Derived.Test.YtghajgdiaopioaaGreatDoorW36
set_option linter.unusedVariables false
set_option linter.unusedSimpArgs false

namespace Go.Proofs.YtghajgdiaopioaaGreatDoor
open Go.RowKit

def fullL (ls : List (List Pt)) : Prop := ls ≠ [] ∧ ∀ l ∈ ls, l ≠ []
/-- No list of the geometry is empty. -/
def FullG : Nat → Geo → Prop
  | _, .pt _ => True
  | _, .line l => l ≠ []
  | _, .poly ls => fullL ls
  | _, .mpt l => l ≠ []
  | _, .mline ls => fullL ls
  | _, .mpoly ps => ps ≠ [] ∧ ∀ ls ∈ ps, fullL ls
  | 0, .coll _ => False
  | d + 1, .coll gs => gs ≠ [] ∧ ∀ g ∈ gs, FullG d g
theorem flat_lenS (d : Nat) (k : Int) (ls : List (List Pt)) (h : sml ls) : LenS (d + 1) (.mk k ls []) := ⟨h.1, by simp, h.2, by simp⟩
theorem small_lenS : ∀ (d : Nat) (g : Geo), Small d g → LenS (d + 2) (toShp d g) := by
  have hf : ∀ (d : Nat) (g : Geo), (∀ l, g ≠ .coll l) → Small d g → LenS (d + 2) (toShp d g) := by
    intro d g hg h
    cases g with
    | coll l => exact absurd rfl (hg l)
    | pt p => rw [show toShp d (.pt p) = .mk 1 [[p]] [] from by cases d <;> rfl]; exact flat_lenS _ _ _ ⟨by simp, by simp⟩
    | line l =>
      have h' : l.length ≤ 100000 := by cases d <;> exact h
      rw [show toShp d (.line l) = .mk 2 [l] [] from by cases d <;> rfl]; exact flat_lenS _ _ _ ⟨by simp, by simpa using h'⟩
    | mpt l =>
      have h' : l.length ≤ 100000 := by cases d <;> exact h
      rw [show toShp d (.mpt l) = .mk 4 [l] [] from by cases d <;> rfl]; exact flat_lenS _ _ _ ⟨by simp, by simpa using h'⟩
    | poly ls =>
      have h' : sml ls := by cases d <;> exact h
      rw [show toShp d (.poly ls) = .mk 3 ls [] from by cases d <;> rfl]; exact flat_lenS _ _ _ h'
    | mline ls =>
      have h' : sml ls := by cases d <;> exact h
      rw [show toShp d (.mline ls) = .mk 5 ls [] from by cases d <;> rfl]; exact flat_lenS _ _ _ h'
    | mpoly ps =>
      have h' : ps.length ≤ 100000 ∧ ∀ ls ∈ ps, sml ls := by cases d <;> exact h
      rw [show toShp d (.mpoly ps) = .mk 6 [] (ps.map fun ls => .mk 3 ls []) from by cases d <;> rfl]
      refine ⟨by simp, by simpa using h'.1, by simp, ?_⟩
      intro p hp
      rw [List.mem_map] at hp
      obtain ⟨ls, hls, rfl⟩ := hp
      exact flat_lenS _ _ _ (h'.2 ls hls)
  intro d
  induction d with
  | zero =>
    intro g h
    exact hf 0 g (fun l hl => by subst hl; exact h.elim) h
  | succ d ih =>
    intro g h
    by_cases hg : ∃ l, g = .coll l
    · obtain ⟨l, rfl⟩ := hg
      refine ⟨by simp, by simpa using h.1, by simp, ?_⟩
      intro p hp
      rw [List.mem_map] at hp
      obtain ⟨g, hg, rfl⟩ := hp
      exact ih g (h.2 g hg)
    · exact hf (d + 1) g (fun l hl => hg ⟨l, hl⟩) h
/-- A part's points are some of the whole's. -/
theorem part_pts_le (d : Nat) (k : Int) (ls : List (List Pt)) (ps : List Shp) (p : Shp) (hp : p ∈ ps) : (ptsOf d p).length ≤ (ptsOf (d + 1) (.mk k ls ps)).length := by
  rw [ptsOf, List.length_append, List.length_flatten (L := ps.map (ptsOf d)), List.map_map]
  have : ∀ l : List Shp, p ∈ l → (ptsOf d p).length ≤ (l.map (List.length ∘ ptsOf d)).sum := by
    intro l
    induction l with
    | nil => intro h; cases h
    | cons a l ih =>
      intro h
      rw [List.map_cons, List.sum_cons]
      rcases List.mem_cons.1 h with rfl | h
      · simp
      · have := ih h; omega
  have := this ps hp
  omega
end Go.Proofs.YtghajgdiaopioaaGreatDoor

/- Walks: spec.Text by depth. -/
namespace Go.Proofs.YtghajgdiaopioaaGreatDoor
open Go.RowKit

theorem pos_flat {d : Nat} {k : Int} {ls : List (List Pt)} {ps : List Shp} (h : fullL ls) : 0 < (ptsOf (d + 1) (.mk k ls ps)).length := by
  obtain ⟨h1, h2⟩ := h
  cases ls with
  | nil => exact absurd rfl h1
  | cons l ls =>
    have := h2 l (by simp)
    cases l with
    | nil => exact absurd rfl this
    | cons p l => rw [ptsOf]; simp
theorem full_pos : ∀ (d : Nat) (g : Geo), FullG d g → 0 < (ptsOf (d + 2) (toShp d g)).length := by
  have hf : ∀ (d : Nat) (g : Geo), (∀ l, g ≠ .coll l) → FullG d g → 0 < (ptsOf (d + 2) (toShp d g)).length := by
    intro d g hg h
    cases g with
    | coll l => exact absurd rfl (hg l)
    | pt p => rw [show toShp d (.pt p) = .mk 1 [[p]] [] from by cases d <;> rfl]; exact pos_flat ⟨by simp, by simp⟩
    | line l =>
      have h' : l ≠ [] := by cases d <;> exact h
      rw [show toShp d (.line l) = .mk 2 [l] [] from by cases d <;> rfl]; exact pos_flat ⟨by simp, by simpa using h'⟩
    | mpt l =>
      have h' : l ≠ [] := by cases d <;> exact h
      rw [show toShp d (.mpt l) = .mk 4 [l] [] from by cases d <;> rfl]; exact pos_flat ⟨by simp, by simpa using h'⟩
    | poly ls =>
      have h' : fullL ls := by cases d <;> exact h
      rw [show toShp d (.poly ls) = .mk 3 ls [] from by cases d <;> rfl]; exact pos_flat h'
    | mline ls =>
      have h' : fullL ls := by cases d <;> exact h
      rw [show toShp d (.mline ls) = .mk 5 ls [] from by cases d <;> rfl]; exact pos_flat h'
    | mpoly ps =>
      have h' : ps ≠ [] ∧ ∀ ls ∈ ps, fullL ls := by cases d <;> exact h
      rw [show toShp d (.mpoly ps) = .mk 6 [] (ps.map fun ls => .mk 3 ls []) from by cases d <;> rfl]
      cases ps with
      | nil => exact absurd rfl h'.1
      | cons ls ps =>
        have h1 := part_pts_le (d + 1) 6 [] ((ls :: ps).map fun ls => .mk 3 ls []) (.mk 3 ls []) (by simp)
        have h2 := pos_flat (d := d) (k := 3) (ps := []) (h'.2 ls (by simp))
        exact Nat.lt_of_lt_of_le h2 h1
  intro d
  induction d with
  | zero => intro g h; exact hf 0 g (fun l hl => by subst hl; exact h.elim) h
  | succ d ih =>
    intro g h
    by_cases hg : ∃ l, g = .coll l
    · obtain ⟨l, rfl⟩ := hg
      obtain ⟨h1, h2⟩ := h
      cases l with
      | nil => exact absurd rfl h1
      | cons g l =>
        have h3 := part_pts_le (d + 2) 7 [] ((g :: l).map (toShp d)) (toShp d g) (by simp)
        have h4 := ih g (h2 g (by simp))
        exact Nat.lt_of_lt_of_le h4 h3
    · exact hf (d + 1) g (fun l hl => hg ⟨l, hl⟩) h
end Go.Proofs.YtghajgdiaopioaaGreatDoor
