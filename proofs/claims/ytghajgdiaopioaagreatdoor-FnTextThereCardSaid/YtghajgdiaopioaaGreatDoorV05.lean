/- Plain law: the text of a geometry reads as it. -/
import Derived.Test.YtghajgdiaopioaaGreatDoorV02
import Derived.Test.YtghajgdiaopioaaGreatDoorV04
set_option linter.unusedVariables false
set_option linter.unusedSimpArgs false

namespace Go.Proofs.YtghajgdiaopioaaGreatDoor

theorem AllN.mono {P Q : Nat → Prop} (h : ∀ x, P x → Q x) : ∀ (d : Nat) (g : Geo), AllN P d g → AllN Q d g := by
  have flat : ∀ (d : Nat) (g : Geo), (∀ l, g ≠ .coll l) → AllN P d g → AllN Q d g := by
    intro d g hg hn
    cases g with
    | coll l => exact absurd rfl (hg l)
    | pt p => have hn' : P p.1 ∧ P p.2 := by cases d <;> exact hn
              cases d <;> exact ⟨h _ hn'.1, h _ hn'.2⟩
    | line l => have hn' : ∀ p ∈ l, P p.1 ∧ P p.2 := by cases d <;> exact hn
                cases d <;> exact fun p hp => ⟨h _ (hn' p hp).1, h _ (hn' p hp).2⟩
    | mpt l => have hn' : ∀ p ∈ l, P p.1 ∧ P p.2 := by cases d <;> exact hn
               cases d <;> exact fun p hp => ⟨h _ (hn' p hp).1, h _ (hn' p hp).2⟩
    | poly l => have hn' : ∀ x ∈ l, ∀ p ∈ x, P p.1 ∧ P p.2 := by cases d <;> exact hn
                cases d <;> exact fun x hx p hp => ⟨h _ (hn' x hx p hp).1, h _ (hn' x hx p hp).2⟩
    | mline l => have hn' : ∀ x ∈ l, ∀ p ∈ x, P p.1 ∧ P p.2 := by cases d <;> exact hn
                 cases d <;> exact fun x hx p hp => ⟨h _ (hn' x hx p hp).1, h _ (hn' x hx p hp).2⟩
    | mpoly l => have hn' : ∀ y ∈ l, ∀ x ∈ y, ∀ p ∈ x, P p.1 ∧ P p.2 := by cases d <;> exact hn
                 cases d <;> exact fun y hy x hx p hp => ⟨h _ (hn' y hy x hx p hp).1, h _ (hn' y hy x hx p hp).2⟩
  intro d
  induction d with
  | zero => intro g hn; exact flat 0 g (fun l e => by subst e; exact hn.elim) hn
  | succ d ih =>
    intro g hn
    by_cases hg : ∃ l, g = .coll l
    · obtain ⟨l, rfl⟩ := hg
      exact fun x hx => ih x (hn x hx)
    · exact flat (d + 1) g (fun l e => hg ⟨l, e⟩) hn

theorem wl (low : Bool) (k : List UInt8) : (wd low k).length = k.length := by cases low <;> simp [wd]
theorem drop_wd (low : Bool) (k r : List UInt8) (n : Nat) (h : k.length = n) : (wd low k ++ r).drop n = r := List.drop_left' (by rw [wl, h])
theorem len_wd (low : Bool) (k r : List UInt8) (n : Nat) (h : k.length = n) : n ≤ (wd low k ++ r).length := by rw [List.length_append, wl]; omega

/-- What the text of a geometry that is no collection reads as. -/
theorem geo_flat (G : Errs) (nt : Nat → List UInt8) (low : Bool) {sp : List UInt8} (hs : Spc sp) (C : Option (List UInt8 → Option Geo → Prop)) (d : Nat) (g : Geo) (hg : ∀ l, g ≠ .coll l) (hf : FullG d g) (hm : Small d g) (hn : AllN (NumOk G nt) d g) :
    GeoStep G C (geoT low sp nt d g) (some g) := by
  obtain ⟨k, q, hw⟩ := geo_whole low hs nt d g hf (AllN.mono (fun x h => h.t) d g hn)
  have htr := trim_tidy hw.tidy.1 hw.tidy.2
  have hA := hw.asc hs
  have h40 := hw.has40
  clear hw
  cases g with
  | coll l => exact absurd rfl (hg l)
  | pt p =>
    have hn' : NumOk G nt p.1 ∧ NumOk G nt p.2 := by cases d <;> exact hn
    rw [t_pt] at htr ⊢
    show GeoStep G C _ ((some p).map Geo.pt)
    refine GeoStep.pt _ (some p) htr (len_wd _ _ _ _ rfl) (w_pt low _) (.inr ⟨_, ?_, pt_rd hn'⟩)
    rw [drop_wd low kwPoint _ 5 rfl]; exact brk_tidy hs (pt_ok hn').tidy
  | line l =>
    have hf' : l ≠ [] := by cases d <;> exact hf
    have hm' : l.length ≤ 100000 := by cases d <;> exact hm
    have hn' : PsOk G nt l := by cases d <;> exact hn
    rw [t_line _ _ _ _ hf'] at htr hA h40 ⊢
    show GeoStep G C _ ((some l).map Geo.line)
    obtain ⟨h1, h2⟩ := w_line low (sp ++ (40 :: jn sp (l.map (ptT nt)) ++ [41]))
    refine GeoStep.line _ (some l) htr hA (len_wd _ _ _ _ rfl) h1 h2 (.inr ⟨fold_brk _ _ h40 (by decide), .inr ⟨?_, ?_, ?_⟩⟩)
    · exact jn sp (l.map (ptT nt))
    · rw [drop_wd low kwLine _ 10 rfl]; exact brk_tidy hs (pts_tidy hf' hn')
    · show Run (PtStep G) [] (pieces (jn sp (l.map (ptT nt)))) (some l)
      rw [pts_pieces hs hf' hn']; exact pts_run hm' hn'
  | poly l =>
    have hf' : fullL l := by cases d <;> exact hf
    have hm' : sml l := by cases d <;> exact hm
    have hn0 : ∀ x ∈ l, PsOk G nt x := by cases d <;> exact hn
    have hn' : LsOk G nt l := fun x hx => ⟨hf'.2 x hx, hn0 x hx⟩
    rw [t_poly _ _ _ _ hf'.1] at htr hA h40 ⊢
    show GeoStep G C _ ((some l).map Geo.poly)
    obtain ⟨h1, h2, h3⟩ := w_poly low (sp ++ (40 :: jn sp (l.map (lineT sp nt)) ++ [41]))
    refine GeoStep.poly _ (some l) htr hA (len_wd _ _ _ _ rfl) h1 h2 h3 (.inr ⟨fold_brk _ _ h40 (by decide), .inr ⟨?_, ?_, ?_⟩⟩)
    · exact jn sp (l.map (lineT sp nt))
    · rw [drop_wd low kwPoly _ 7 rfl]; exact brk_tidy hs (lines_tidy hf'.1)
    · show Run (RingStep G) [] (rxPieces (jn sp (l.map (lineT sp nt))) false) (some l)
      rw [lines_pieces hs hf'.1 hn']; exact lines_run hs hm' hn'
  | mpt l =>
    have hf' : l ≠ [] := by cases d <;> exact hf
    have hm' : l.length ≤ 100000 := by cases d <;> exact hm
    have hn' : PsOk G nt l := by cases d <;> exact hn
    rw [t_mpt _ _ _ _ hf'] at htr hA h40 ⊢
    show GeoStep G C _ ((some l).map Geo.mpt)
    obtain ⟨h1, h2, h3, h4⟩ := w_mpt low (sp ++ (40 :: jn sp (l.map fun p => lineT sp nt [p]) ++ [41]))
    refine GeoStep.mpt _ (some l) htr hA (len_wd _ _ _ _ rfl) h1 h2 h3 h4 (.inr ⟨fold_brk _ _ h40 (by decide), .inr ⟨?_, ?_, ?_⟩⟩)
    · exact jn sp (l.map fun p => lineT sp nt [p])
    · rw [drop_wd low kwMPoint _ 10 rfl]; exact brk_tidy hs (mpts_tidy hf')
    · show Run (BrkPtStep G) [] (pieces (jn sp (l.map fun p => lineT sp nt [p]))) (some l)
      rw [mpts_pieces hs hf' hn']; exact mpts_run hm' hn'
  | mline l =>
    have hf' : fullL l := by cases d <;> exact hf
    have hm' : sml l := by cases d <;> exact hm
    have hn0 : ∀ x ∈ l, PsOk G nt x := by cases d <;> exact hn
    have hn' : LsOk G nt l := fun x hx => ⟨hf'.2 x hx, hn0 x hx⟩
    rw [t_mline _ _ _ _ hf'.1] at htr hA h40 ⊢
    show GeoStep G C _ ((some l).map Geo.mline)
    obtain ⟨h1, h2, h3, h4, h5⟩ := w_mline low (sp ++ (40 :: jn sp (l.map (lineT sp nt)) ++ [41]))
    refine GeoStep.mline _ (some l) htr hA (len_wd _ _ _ _ rfl) h1 h2 h3 h4 h5 (.inr ⟨fold_brk _ _ h40 (by decide), .inr ⟨?_, ?_, ?_⟩⟩)
    · exact jn sp (l.map (lineT sp nt))
    · rw [drop_wd low kwMLine _ 15 rfl]; exact brk_tidy hs (lines_tidy hf'.1)
    · show Run (RingStep G) [] (rxPieces (jn sp (l.map (lineT sp nt))) false) (some l)
      rw [lines_pieces hs hf'.1 hn']; exact lines_run hs hm' hn'
  | mpoly l =>
    have hf' : l ≠ [] ∧ ∀ ls ∈ l, fullL ls := by cases d <;> exact hf
    have hm' : l.length ≤ 100000 ∧ ∀ ls ∈ l, sml ls := by cases d <;> exact hm
    have hn0 : ∀ y ∈ l, ∀ x ∈ y, PsOk G nt x := by cases d <;> exact hn
    have hn' : PolysOk G nt l := fun y hy => ⟨(hf'.2 y hy).1, fun x hx => ⟨(hf'.2 y hy).2 x hx, hn0 y hy x hx⟩⟩
    rw [t_mpoly _ _ _ _ hf'.1] at htr hA h40 ⊢
    show GeoStep G C _ ((some l).map Geo.mpoly)
    obtain ⟨h1, h2, h3, h4, h5, h6⟩ := w_mpoly low (sp ++ (40 :: jn sp (l.map fun ls => brs sp (ls.map (lineT sp nt))) ++ [41]))
    refine GeoStep.mpoly _ (some l) htr hA (len_wd _ _ _ _ rfl) h1 h2 h3 h4 h5 h6 (.inr ⟨fold_brk _ _ h40 (by decide), .inr ⟨?_, ?_, ?_⟩⟩)
    · exact jn sp (l.map fun ls => brs sp (ls.map (lineT sp nt)))
    · rw [drop_wd low kwMPoly _ 12 rfl]; exact brk_tidy hs (polys_tidy hf'.1)
    · show Run (PolyStep G) [] (rxPieces (jn sp (l.map fun ls => brs sp (ls.map (lineT sp nt)))) true) (some l)
      rw [polys_pieces hs hf'.1 hn']; exact polys_run hs hm' hn'

theorem geo_texts {G : Errs} {nt : Nat → List UInt8} {low : Bool} {sp : List UInt8} (hs : Spc sp) {d : Nat} {gs : List Geo} (hf : ∀ g ∈ gs, FullG d g) (hn : ∀ g ∈ gs, AllN (NumOk G nt) d g) : ∀ t ∈ gs.map (geoT low sp nt d), Bal 0 t ∧ Tidy t ∧ 2 ≤ t.length := fun t ht => by
  obtain ⟨g, hg, rfl⟩ := List.mem_map.1 ht
  obtain ⟨k, q, hw⟩ := geo_whole low hs nt d g (hf g hg) (AllN.mono (fun x h => h.t) d g (hn g hg))
  exact ⟨hw.bal hs, hw.tidy⟩
theorem part_len (low : Bool) (sp : List UInt8) (nt : Nat → List UInt8) (d : Nat) (gs : List Geo) (h0 : gs ≠ []) (g : Geo) (hg : g ∈ gs) : (geoT low sp nt d g).length ≤ (geoT low sp nt (d + 1) (.coll gs)).length := by
  rw [t_coll _ _ _ _ h0]
  have := jn_mem_leN (sp := sp) (List.mem_map.2 ⟨g, hg, rfl⟩ : geoT low sp nt d g ∈ gs.map (geoT low sp nt d))
  simp only [List.length_append, List.length_cons]
  omega

/-- The text of a full geometry reads as it. -/
theorem geo_reads (G : Errs) (nt : Nat → List UInt8) (low : Bool) {sp : List UInt8} (hs : Spc sp) : ∀ (d : Nat) (g : Geo), FullG d g → Small d g → AllN (NumOk G nt) d g → (geoT low sp nt d g).length ≤ 1000000000 → GeoReads G d (geoT low sp nt d g) (some g) := by
  intro d
  induction d with
  | zero => intro g hf hm hn hl; exact ⟨hl, geo_flat G nt low hs .none 0 g (fun l e => by subst e; exact hf.elim) hf hm hn⟩
  | succ d ih =>
    intro g hf hm hn hl
    refine ⟨hl, ?_⟩
    by_cases hg : ∃ l, g = .coll l
    · obtain ⟨gs, rfl⟩ := hg
      obtain ⟨k, q, hw⟩ := geo_whole low hs nt (d + 1) (.coll gs) hf (AllN.mono (fun x h => h.t) (d + 1) _ hn)
      have htr := trim_tidy hw.tidy.1 hw.tidy.2
      have hA := hw.asc hs
      have h40 := hw.has40
      clear hw
      have hpl := part_len low sp nt d gs hf.1
      rw [t_coll _ _ _ _ hf.1] at htr hA h40 hl hpl ⊢
      show GeoStep G _ _ ((some gs).map Geo.coll)
      obtain ⟨h1, h2, h3, h4, h5, h6, h7⟩ := w_coll low (sp ++ (40 :: jn sp (gs.map (geoT low sp nt d)) ++ [41]))
      have htx := geo_texts (low := low) hs hf.2 hn
      refine GeoStep.coll _ (some gs) (GeoReads G d) rfl htr hA (len_wd _ _ _ _ rfl) h1 h2 h3 h4 h5 h6 h7 (.inr ⟨fold_brk _ _ h40 (by decide), ?_, .inr ⟨jn sp (gs.map (geoT low sp nt d)), ?_, ?_⟩⟩)
      · have : (wd low kwColl).length = 18 := by rw [wl]; rfl
        simp only [List.length_append, List.length_cons]; omega
      · rw [drop_wd low kwColl _ 18 rfl]
        exact brk_tidy hs (jn_tidy _ (by simpa using hf.1) fun t ht => (htx t ht).2)
      · rw [gc_jn hs _ (by simpa using hf.1) htx]
        have := run_all (GStep (GeoReads G d)) (geoT low sp nt d) gs [] (by have := hm.1; simp; omega) fun g hg acc ha => ⟨ha, some g, ih g (hf.2 g hg) (hm.2 g hg) (hn g hg) (Nat.le_trans (hpl g hg) hl), rfl⟩
        exact this
    · exact geo_flat G nt low hs _ (d + 1) g (fun l e => hg ⟨l, e⟩) hf hm hn

/-- An empty geometry. -/
def EmptyG : Geo → Prop
  | .line l => l = []
  | .poly l => l = []
  | .mpt l => l = []
  | .mline l => l = []
  | .mpoly l => l = []
  | .coll l => l = []
  | .pt _ => False
theorem geo_empty (G : Errs) (nt : Nat → List UInt8) (low : Bool) (sp : List UInt8) (d : Nat) (g : Geo) (h : EmptyG g) : GeoReads G (d + 1) (geoT low sp nt (d + 1) g) (some g) := by
  have ha : ∀ l : List UInt8, (l.all fun c => decide (c.toNat < 128)) = true → Asc l := fun l hl c hc => by
    have := List.all_eq_true.1 hl c hc; simpa using this
  cases g with
  | pt p => exact h.elim
  | line l =>
              obtain rfl : l = [] := h
              show GeoReads G (d + 1) (wd low kwLine ++ emp low) (some (.line []))
              refine ⟨by cases low <;> decide, GeoStep.line _ (some []) rfl ?_ ?_ ?_ ?_ (.inl ⟨?_, rfl⟩)⟩ <;> cases low <;> first | exact ha _ (by decide) | decide
  | poly l =>
              obtain rfl : l = [] := h
              show GeoReads G (d + 1) (wd low kwPoly ++ emp low) (some (.poly []))
              refine ⟨by cases low <;> decide, GeoStep.poly _ (some []) rfl ?_ ?_ ?_ ?_ ?_ (.inl ⟨?_, rfl⟩)⟩ <;> cases low <;> first | exact ha _ (by decide) | decide
  | mpt l =>
              obtain rfl : l = [] := h
              show GeoReads G (d + 1) (wd low kwMPoint ++ emp low) (some (.mpt []))
              refine ⟨by cases low <;> decide, GeoStep.mpt _ (some []) rfl ?_ ?_ ?_ ?_ ?_ ?_ (.inl ⟨?_, rfl⟩)⟩ <;> cases low <;> first | exact ha _ (by decide) | decide
  | mline l =>
              obtain rfl : l = [] := h
              show GeoReads G (d + 1) (wd low kwMLine ++ emp low) (some (.mline []))
              refine ⟨by cases low <;> decide, GeoStep.mline _ (some []) rfl ?_ ?_ ?_ ?_ ?_ ?_ ?_ (.inl ⟨?_, rfl⟩)⟩ <;> cases low <;> first | exact ha _ (by decide) | decide
  | mpoly l =>
              obtain rfl : l = [] := h
              show GeoReads G (d + 1) (wd low kwMPoly ++ emp low) (some (.mpoly []))
              refine ⟨by cases low <;> decide, GeoStep.mpoly _ (some []) rfl ?_ ?_ ?_ ?_ ?_ ?_ ?_ ?_ (.inl ⟨?_, rfl⟩)⟩ <;> cases low <;> first | exact ha _ (by decide) | decide
  | coll l =>
              obtain rfl : l = [] := h
              show GeoReads G (d + 1) (wd low kwColl ++ emp low) (some (.coll []))
              refine ⟨by cases low <;> decide, GeoStep.coll _ (some []) _ rfl rfl ?_ ?_ ?_ ?_ ?_ ?_ ?_ ?_ ?_ (.inl ⟨?_, rfl⟩)⟩ <;> cases low <;> first | exact ha _ (by decide) | decide
end Go.Proofs.YtghajgdiaopioaaGreatDoor

/- Plain law: a text without its last bracket, with a word of no kind, or with a point of one number is an error. -/
namespace Go.Proofs.YtghajgdiaopioaaGreatDoor

end Go.Proofs.YtghajgdiaopioaaGreatDoor

/- Plain words: a shape that counts is a geometry's. -/
namespace Go.Proofs.YtghajgdiaopioaaGreatDoor
open Go.RowKit

theorem map_of_pick {α β : Type} (f : β → α) (l : List α) (h : ∀ a ∈ l, ∃ b, a = f b) : ∃ m : List β, l = m.map f := by
  induction l with
  | nil => exact ⟨[], rfl⟩
  | cons a l ih =>
    obtain ⟨b, rfl⟩ := h a (by simp)
    obtain ⟨m, rfl⟩ := ih fun x hx => h x (by simp [hx])
    exact ⟨b :: m, rfl⟩
theorem okS_geo : ∀ (d : Nat) (s : Shp), okS d s = true → ∃ g, s = toShp d g := by
  intro d
  induction d with
  | zero => intro s h; simp [okS] at h
  | succ d ih =>
    intro s h
    obtain ⟨k, ls, ps⟩ := s
    obtain ⟨h1, h2, h3, h4, h5, h6⟩ := okS_parts h
    have hk : k = 1 ∨ k = 2 ∨ k = 3 ∨ k = 4 ∨ k = 5 ∨ k = 6 ∨ k = 7 := by omega
    have hone : ∀ l : List (List Pt), l.length = 1 → ∃ x, l = [x] := fun l hl => by
      match l, hl with
      | [x], _ => exact ⟨x, rfl⟩
    have honeP : ∀ l : List Pt, l.length = 1 → ∃ x, l = [x] := fun l hl => by
      match l, hl with
      | [x], _ => exact ⟨x, rfl⟩
    rcases hk with rfl | rfl | rfl | rfl | rfl | rfl | rfl
    · simp [lastB] at h6
      obtain ⟨a, b, c⟩ := h6
      obtain ⟨l, rfl⟩ := hone ls a
      obtain ⟨p, rfl⟩ := honeP l (by simpa using b)
      subst c
      exact ⟨.pt p, rfl⟩
    · simp [lastB] at h6
      obtain ⟨a, c⟩ := h6
      obtain ⟨l, rfl⟩ := hone ls a
      subst c
      exact ⟨.line l, rfl⟩
    · simp [lastB] at h6
      subst h6
      exact ⟨.poly ls, rfl⟩
    · simp [lastB] at h6
      obtain ⟨a, c⟩ := h6
      obtain ⟨l, rfl⟩ := hone ls a
      subst c
      exact ⟨.mpt l, rfl⟩
    · simp [lastB] at h6
      subst h6
      exact ⟨.mline ls, rfl⟩
    · simp [lastB] at h6
      subst h6
      have : ∀ p ∈ ps, ∃ y, p = Shp.mk 3 y [] := by
        intro p hp
        obtain ⟨ho, hk3⟩ := h5 p hp
        obtain ⟨g, rfl⟩ := ih p ho
        have := hk3 rfl
        cases g with
        | poly y => exact ⟨y, by cases d <;> rfl⟩
        | _ => cases d <;> simp [toShp, Shp.kind] at this
      obtain ⟨m, rfl⟩ := map_of_pick _ ps this
      exact ⟨.mpoly m, rfl⟩
    · simp [lastB] at h6
      subst h6
      obtain ⟨m, rfl⟩ := map_of_pick (toShp d) ps fun p hp => ih p (h5 p hp).1
      exact ⟨.coll m, rfl⟩
end Go.Proofs.YtghajgdiaopioaaGreatDoor

/- Walks: laws.plain. -/
namespace Go.Proofs.YtghajgdiaopioaaGreatDoor
open Go.RowKit
attribute [local go_sem] run_store_float run_store_iface run_store_nilIface

def plainL : List Pt := [(4607182418800017408, 4611686018427387904), (4613937818241073152, 4616189618054758400)]
set_option maxRecDepth 10000 in
set_option maxHeartbeats 4000000 in
theorem plain_calls (w : World) : Calls Tryz.prog 27 #[] w fun e w' => (∃ v, e = .returned v ∧ ShpAt 2 w' v (toShp 0 (.line plainL))) ∧ Bel w w' := by
  go_enter Tryz.func27, Tryz.ntmps27
  go_wp2
  (try simp only [Exit.inBlock, Exit.then])
  refine bodyPost_ret (v := .agg #[.int .i64 2, .slice (some ⟨w.heap.size + 1 + 1, 0, none⟩) 1 1, .slice none 0 0]) ?_ rfl ⟨⟨_, rfl, ?_⟩, ((Bel.al _ _).tr (Bel.al _ _)).tr (Bel.al _ _)⟩
  · simp [results, Tryz.results27, go_sem]
  · generalize hu : w.alloc _ = u
    have hus : u.heap.size = w.heap.size + 1 := by rw [← hu]; simp
    have h1 : (u.alloc (.cells (ptsCells plainL).toArray 49)).heap[u.heap.size]? = some (.cells (ptsCells plainL).toArray 49 (0, 0)) := heap_alloc_new _ _
    have hr := row_one (u.alloc (.cells (ptsCells plainL).toArray 49)) (.slice (some ⟨u.heap.size, 0, none⟩) 2 2) plainL ⟨rfl, .inr ⟨_, 2, _, rfl, Nat.zero_le _, h1, Nat.le_refl _, by simp [maxLen], rfl, rfl⟩⟩
    rw [show (u.alloc (.cells (ptsCells plainL).toArray 49)).heap.size = w.heap.size + 1 + 1 from by simp; omega, hus] at hr
    exact RdShp.at (A := fun _ => True) 2 _ _ (flat_shp (k := 2) hr)
end Go.Proofs.YtghajgdiaopioaaGreatDoor
