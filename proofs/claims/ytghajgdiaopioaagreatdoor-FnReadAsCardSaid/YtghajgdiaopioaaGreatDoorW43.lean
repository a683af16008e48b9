/- Plain words: a shape that counts is a geometry's. -/
import Derived.Test.YtghajgdiaopioaaGreatDoorW38
set_option linter.unusedVariables false
set_option linter.unusedSimpArgs false

namespace Go.Proofs.YtghajgdiaopioaaGreatDoor
open Go.RowKit

theorem map_of_pick {α β : Type} (f : β → α) (l : List α) (h : ∀ a ∈ l, ∃ b, a = f b) : ∃ m : List β, l = m.map f := by
  induction l with
  | nil => exact ⟨[], rfl⟩
  | cons a l ih =>
    obtain ⟨b, rfl⟩ := h a (by simp)
    obtain ⟨m, rfl⟩ := ih fun x hx => h x (by simp [hx])
    exact ⟨b :: m, rfl⟩
theorem okS_geo : ∀ (d : Nat) (s : Shp), okS d s = true → ∃ g, s = toShp d g := by
  intro d
  induction d with
  | zero => intro s h; simp [okS] at h
  | succ d ih =>
    intro s h
    obtain ⟨k, ls, ps⟩ := s
    obtain ⟨h1, h2, h3, h4, h5, h6⟩ := okS_parts h
    have hk : k = 1 ∨ k = 2 ∨ k = 3 ∨ k = 4 ∨ k = 5 ∨ k = 6 ∨ k = 7 := by omega
    have hone : ∀ l : List (List Pt), l.length = 1 → ∃ x, l = [x] := fun l hl => by
      match l, hl with
      | [x], _ => exact ⟨x, rfl⟩
    have honeP : ∀ l : List Pt, l.length = 1 → ∃ x, l = [x] := fun l hl => by
      match l, hl with
      | [x], _ => exact ⟨x, rfl⟩
    rcases hk with rfl | rfl | rfl | rfl | rfl | rfl | rfl
    · simp [lastB] at h6
      obtain ⟨a, b, c⟩ := h6
      obtain ⟨l, rfl⟩ := hone ls a
      obtain ⟨p, rfl⟩ := honeP l (by simpa using b)
      subst c
      exact ⟨.pt p, rfl⟩
    · simp [lastB] at h6
      obtain ⟨a, c⟩ := h6
      obtain ⟨l, rfl⟩ := hone ls a
      subst c
      exact ⟨.line l, rfl⟩
    · simp [lastB] at h6
      subst h6
      exact ⟨.poly ls, rfl⟩
    · simp [lastB] at h6
      obtain ⟨a, c⟩ := h6
      obtain ⟨l, rfl⟩ := hone ls a
      subst c
      exact ⟨.mpt l, rfl⟩
    · simp [lastB] at h6
      subst h6
      exact ⟨.mline ls, rfl⟩
    · simp [lastB] at h6
      subst h6
      have : ∀ p ∈ ps, ∃ y, p = Shp.mk 3 y [] := by
        intro p hp
        obtain ⟨ho, hk3⟩ := h5 p hp
        obtain ⟨g, rfl⟩ := ih p ho
        have := hk3 rfl
        cases g with
        | poly y => exact ⟨y, by cases d <;> rfl⟩
        | _ => cases d <;> simp [toShp, Shp.kind] at this
      obtain ⟨m, rfl⟩ := map_of_pick _ ps this
      exact ⟨.mpoly m, rfl⟩
    · simp [lastB] at h6
      subst h6
      obtain ⟨m, rfl⟩ := map_of_pick (toShp d) ps fun p hp => ih p (h5 p hp).1
      exact ⟨.coll m, rfl⟩
end Go.Proofs.YtghajgdiaopioaaGreatDoor

/- Walks: laws.plain. -/
namespace Go.Proofs.YtghajgdiaopioaaGreatDoor
open Go.RowKit
attribute [local go_sem] run_store_float run_store_iface run_store_nilIface

def plainL : List Pt := [(4607182418800017408, 4611686018427387904), (4613937818241073152, 4616189618054758400)]
set_option maxRecDepth 10000 in
set_option maxHeartbeats 4000000 in
theorem plain_calls (w : World) : Calls Tryz.prog 27 #[] w fun e w' => (∃ v, e = .returned v ∧ ShpAt 2 w' v (toShp 0 (.line plainL))) ∧ Bel w w' := by
  go_enter Tryz.func27, Tryz.ntmps27
  go_wp2
  (try simp only [Exit.inBlock, Exit.then])
  refine bodyPost_ret (v := .agg #[.int .i64 2, .slice (some ⟨w.heap.size + 1 + 1, 0, none⟩) 1 1, .slice none 0 0]) ?_ rfl ⟨⟨_, rfl, ?_⟩, ((Bel.al _ _).tr (Bel.al _ _)).tr (Bel.al _ _)⟩
  · simp [results, Tryz.results27, go_sem]
  · generalize hu : w.alloc _ = u
    have hus : u.heap.size = w.heap.size + 1 := by rw [← hu]; simp
    have h1 : (u.alloc (.cells (ptsCells plainL).toArray 49)).heap[u.heap.size]? = some (.cells (ptsCells plainL).toArray 49 (0, 0)) := heap_alloc_new _ _
    have hr := row_one (u.alloc (.cells (ptsCells plainL).toArray 49)) (.slice (some ⟨u.heap.size, 0, none⟩) 2 2) plainL ⟨rfl, .inr ⟨_, 2, _, rfl, Nat.zero_le _, h1, Nat.le_refl _, by simp [maxLen], rfl, rfl⟩⟩
    rw [show (u.alloc (.cells (ptsCells plainL).toArray 49)).heap.size = w.heap.size + 1 + 1 from by simp; omega, hus] at hr
    exact RdShp.at (A := fun _ => True) 2 _ _ (flat_shp (k := 2) hr)
end Go.Proofs.YtghajgdiaopioaaGreatDoor
