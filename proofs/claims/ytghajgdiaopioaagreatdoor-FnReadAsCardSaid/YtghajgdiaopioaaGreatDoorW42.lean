/- Plain law: the text of a geometry reads as it. -/
import Derived.Test.YtghajgdiaopioaaGreatDoorW41
set_option linter.unusedVariables false
set_option linter.unusedSimpArgs false

namespace Go.Proofs.YtghajgdiaopioaaGreatDoor

theorem AllN.mono {P Q : Nat → Prop} (h : ∀ x, P x → Q x) : ∀ (d : Nat) (g : Geo), AllN P d g → AllN Q d g := by
  have flat : ∀ (d : Nat) (g : Geo), (∀ l, g ≠ .coll l) → AllN P d g → AllN Q d g := by
    intro d g hg hn
    cases g with
    | coll l => exact absurd rfl (hg l)
    | pt p => have hn' : P p.1 ∧ P p.2 := by cases d <;> exact hn
              cases d <;> exact ⟨h _ hn'.1, h _ hn'.2⟩
    | line l => have hn' : ∀ p ∈ l, P p.1 ∧ P p.2 := by cases d <;> exact hn
                cases d <;> exact fun p hp => ⟨h _ (hn' p hp).1, h _ (hn' p hp).2⟩
    | mpt l => have hn' : ∀ p ∈ l, P p.1 ∧ P p.2 := by cases d <;> exact hn
               cases d <;> exact fun p hp => ⟨h _ (hn' p hp).1, h _ (hn' p hp).2⟩
    | poly l => have hn' : ∀ x ∈ l, ∀ p ∈ x, P p.1 ∧ P p.2 := by cases d <;> exact hn
                cases d <;> exact fun x hx p hp => ⟨h _ (hn' x hx p hp).1, h _ (hn' x hx p hp).2⟩
    | mline l => have hn' : ∀ x ∈ l, ∀ p ∈ x, P p.1 ∧ P p.2 := by cases d <;> exact hn
                 cases d <;> exact fun x hx p hp => ⟨h _ (hn' x hx p hp).1, h _ (hn' x hx p hp).2⟩
    | mpoly l => have hn' : ∀ y ∈ l, ∀ x ∈ y, ∀ p ∈ x, P p.1 ∧ P p.2 := by cases d <;> exact hn
                 cases d <;> exact fun y hy x hx p hp => ⟨h _ (hn' y hy x hx p hp).1, h _ (hn' y hy x hx p hp).2⟩
  intro d
  induction d with
  | zero => intro g hn; exact flat 0 g (fun l e => by subst e; exact hn.elim) hn
  | succ d ih =>
    intro g hn
    by_cases hg : ∃ l, g = .coll l
    · obtain ⟨l, rfl⟩ := hg
      exact fun x hx => ih x (hn x hx)
    · exact flat (d + 1) g (fun l e => hg ⟨l, e⟩) hn

theorem wl (low : Bool) (k : List UInt8) : (wd low k).length = k.length := by cases low <;> simp [wd]
theorem drop_wd (low : Bool) (k r : List UInt8) (n : Nat) (h : k.length = n) : (wd low k ++ r).drop n = r := List.drop_left' (by rw [wl, h])
theorem len_wd (low : Bool) (k r : List UInt8) (n : Nat) (h : k.length = n) : n ≤ (wd low k ++ r).length := by rw [List.length_append, wl]; omega

/-- What the text of a geometry that is no collection reads as. -/
theorem geo_flat (G : Errs) (nt : Nat → List UInt8) (low : Bool) {sp : List UInt8} (hs : Spc sp) (C : Option (List UInt8 → Option Geo → Prop)) (d : Nat) (g : Geo) (hg : ∀ l, g ≠ .coll l) (hf : FullG d g) (hm : Small d g) (hn : AllN (NumOk G nt) d g) :
    GeoStep G C (geoT low sp nt d g) (some g) := by
  obtain ⟨k, q, hw⟩ := geo_whole low hs nt d g hf (AllN.mono (fun x h => h.t) d g hn)
  have htr := trim_tidy hw.tidy.1 hw.tidy.2
  have hA := hw.asc hs
  have h40 := hw.has40
  clear hw
  cases g with
  | coll l => exact absurd rfl (hg l)
  | pt p =>
    have hn' : NumOk G nt p.1 ∧ NumOk G nt p.2 := by cases d <;> exact hn
    rw [t_pt] at htr ⊢
    show GeoStep G C _ ((some p).map Geo.pt)
    refine GeoStep.pt _ (some p) htr (len_wd _ _ _ _ rfl) (w_pt low _) (.inr ⟨_, ?_, pt_rd hn'⟩)
    rw [drop_wd low kwPoint _ 5 rfl]; exact brk_tidy hs (pt_ok hn').tidy
  | line l =>
    have hf' : l ≠ [] := by cases d <;> exact hf
    have hm' : l.length ≤ 100000 := by cases d <;> exact hm
    have hn' : PsOk G nt l := by cases d <;> exact hn
    rw [t_line _ _ _ _ hf'] at htr hA h40 ⊢
    show GeoStep G C _ ((some l).map Geo.line)
    obtain ⟨h1, h2⟩ := w_line low (sp ++ (40 :: jn sp (l.map (ptT nt)) ++ [41]))
    refine GeoStep.line _ (some l) htr hA (len_wd _ _ _ _ rfl) h1 h2 (.inr ⟨fold_brk _ _ h40 (by decide), .inr ⟨?_, ?_, ?_⟩⟩)
    · exact jn sp (l.map (ptT nt))
    · rw [drop_wd low kwLine _ 10 rfl]; exact brk_tidy hs (pts_tidy hf' hn')
    · show Run (PtStep G) [] (pieces (jn sp (l.map (ptT nt)))) (some l)
      rw [pts_pieces hs hf' hn']; exact pts_run hm' hn'
  | poly l =>
    have hf' : fullL l := by cases d <;> exact hf
    have hm' : sml l := by cases d <;> exact hm
    have hn0 : ∀ x ∈ l, PsOk G nt x := by cases d <;> exact hn
    have hn' : LsOk G nt l := fun x hx => ⟨hf'.2 x hx, hn0 x hx⟩
    rw [t_poly _ _ _ _ hf'.1] at htr hA h40 ⊢
    show GeoStep G C _ ((some l).map Geo.poly)
    obtain ⟨h1, h2, h3⟩ := w_poly low (sp ++ (40 :: jn sp (l.map (lineT sp nt)) ++ [41]))
    refine GeoStep.poly _ (some l) htr hA (len_wd _ _ _ _ rfl) h1 h2 h3 (.inr ⟨fold_brk _ _ h40 (by decide), .inr ⟨?_, ?_, ?_⟩⟩)
    · exact jn sp (l.map (lineT sp nt))
    · rw [drop_wd low kwPoly _ 7 rfl]; exact brk_tidy hs (lines_tidy hf'.1)
    · show Run (RingStep G) [] (rxPieces (jn sp (l.map (lineT sp nt))) false) (some l)
      rw [lines_pieces hs hf'.1 hn']; exact lines_run hs hm' hn'
  | mpt l =>
    have hf' : l ≠ [] := by cases d <;> exact hf
    have hm' : l.length ≤ 100000 := by cases d <;> exact hm
    have hn' : PsOk G nt l := by cases d <;> exact hn
    rw [t_mpt _ _ _ _ hf'] at htr hA h40 ⊢
    show GeoStep G C _ ((some l).map Geo.mpt)
    obtain ⟨h1, h2, h3, h4⟩ := w_mpt low (sp ++ (40 :: jn sp (l.map fun p => lineT sp nt [p]) ++ [41]))
    refine GeoStep.mpt _ (some l) htr hA (len_wd _ _ _ _ rfl) h1 h2 h3 h4 (.inr ⟨fold_brk _ _ h40 (by decide), .inr ⟨?_, ?_, ?_⟩⟩)
    · exact jn sp (l.map fun p => lineT sp nt [p])
    · rw [drop_wd low kwMPoint _ 10 rfl]; exact brk_tidy hs (mpts_tidy hf')
    · show Run (BrkPtStep G) [] (pieces (jn sp (l.map fun p => lineT sp nt [p]))) (some l)
      rw [mpts_pieces hs hf' hn']; exact mpts_run hm' hn'
  | mline l =>
    have hf' : fullL l := by cases d <;> exact hf
    have hm' : sml l := by cases d <;> exact hm
    have hn0 : ∀ x ∈ l, PsOk G nt x := by cases d <;> exact hn
    have hn' : LsOk G nt l := fun x hx => ⟨hf'.2 x hx, hn0 x hx⟩
    rw [t_mline _ _ _ _ hf'.1] at htr hA h40 ⊢
    show GeoStep G C _ ((some l).map Geo.mline)
    obtain ⟨h1, h2, h3, h4, h5⟩ := w_mline low (sp ++ (40 :: jn sp (l.map (lineT sp nt)) ++ [41]))
    refine GeoStep.mline _ (some l) htr hA (len_wd _ _ _ _ rfl) h1 h2 h3 h4 h5 (.inr ⟨fold_brk _ _ h40 (by decide), .inr ⟨?_, ?_, ?_⟩⟩)
    · exact jn sp (l.map (lineT sp nt))
    · rw [drop_wd low kwMLine _ 15 rfl]; exact brk_tidy hs (lines_tidy hf'.1)
    · show Run (RingStep G) [] (rxPieces (jn sp (l.map (lineT sp nt))) false) (some l)
      rw [lines_pieces hs hf'.1 hn']; exact lines_run hs hm' hn'
  | mpoly l =>
    have hf' : l ≠ [] ∧ ∀ ls ∈ l, fullL ls := by cases d <;> exact hf
    have hm' : l.length ≤ 100000 ∧ ∀ ls ∈ l, sml ls := by cases d <;> exact hm
    have hn0 : ∀ y ∈ l, ∀ x ∈ y, PsOk G nt x := by cases d <;> exact hn
    have hn' : PolysOk G nt l := fun y hy => ⟨(hf'.2 y hy).1, fun x hx => ⟨(hf'.2 y hy).2 x hx, hn0 y hy x hx⟩⟩
    rw [t_mpoly _ _ _ _ hf'.1] at htr hA h40 ⊢
    show GeoStep G C _ ((some l).map Geo.mpoly)
    obtain ⟨h1, h2, h3, h4, h5, h6⟩ := w_mpoly low (sp ++ (40 :: jn sp (l.map fun ls => brs sp (ls.map (lineT sp nt))) ++ [41]))
    refine GeoStep.mpoly _ (some l) htr hA (len_wd _ _ _ _ rfl) h1 h2 h3 h4 h5 h6 (.inr ⟨fold_brk _ _ h40 (by decide), .inr ⟨?_, ?_, ?_⟩⟩)
    · exact jn sp (l.map fun ls => brs sp (ls.map (lineT sp nt)))
    · rw [drop_wd low kwMPoly _ 12 rfl]; exact brk_tidy hs (polys_tidy hf'.1)
    · show Run (PolyStep G) [] (rxPieces (jn sp (l.map fun ls => brs sp (ls.map (lineT sp nt)))) true) (some l)
      rw [polys_pieces hs hf'.1 hn']; exact polys_run hs hm' hn'

theorem geo_texts {G : Errs} {nt : Nat → List UInt8} {low : Bool} {sp : List UInt8} (hs : Spc sp) {d : Nat} {gs : List Geo} (hf : ∀ g ∈ gs, FullG d g) (hn : ∀ g ∈ gs, AllN (NumOk G nt) d g) : ∀ t ∈ gs.map (geoT low sp nt d), Bal 0 t ∧ Tidy t ∧ 2 ≤ t.length := fun t ht => by
  obtain ⟨g, hg, rfl⟩ := List.mem_map.1 ht
  obtain ⟨k, q, hw⟩ := geo_whole low hs nt d g (hf g hg) (AllN.mono (fun x h => h.t) d g (hn g hg))
  exact ⟨hw.bal hs, hw.tidy⟩
theorem part_len (low : Bool) (sp : List UInt8) (nt : Nat → List UInt8) (d : Nat) (gs : List Geo) (h0 : gs ≠ []) (g : Geo) (hg : g ∈ gs) : (geoT low sp nt d g).length ≤ (geoT low sp nt (d + 1) (.coll gs)).length := by
  rw [t_coll _ _ _ _ h0]
  have := jn_mem_leN (sp := sp) (List.mem_map.2 ⟨g, hg, rfl⟩ : geoT low sp nt d g ∈ gs.map (geoT low sp nt d))
  simp only [List.length_append, List.length_cons]
  omega

/-- The text of a full geometry reads as it. -/
theorem geo_reads (G : Errs) (nt : Nat → List UInt8) (low : Bool) {sp : List UInt8} (hs : Spc sp) : ∀ (d : Nat) (g : Geo), FullG d g → Small d g → AllN (NumOk G nt) d g → (geoT low sp nt d g).length ≤ 1000000000 → GeoReads G d (geoT low sp nt d g) (some g) := by
  intro d
  induction d with
  | zero => intro g hf hm hn hl; exact ⟨hl, geo_flat G nt low hs .none 0 g (fun l e => by subst e; exact hf.elim) hf hm hn⟩
  | succ d ih =>
    intro g hf hm hn hl
    refine ⟨hl, ?_⟩
    by_cases hg : ∃ l, g = .coll l
    · obtain ⟨gs, rfl⟩ := hg
      obtain ⟨k, q, hw⟩ := geo_whole low hs nt (d + 1) (.coll gs) hf (AllN.mono (fun x h => h.t) (d + 1) _ hn)
      have htr := trim_tidy hw.tidy.1 hw.tidy.2
      have hA := hw.asc hs
      have h40 := hw.has40
      clear hw
      have hpl := part_len low sp nt d gs hf.1
      rw [t_coll _ _ _ _ hf.1] at htr hA h40 hl hpl ⊢
      show GeoStep G _ _ ((some gs).map Geo.coll)
      obtain ⟨h1, h2, h3, h4, h5, h6, h7⟩ := w_coll low (sp ++ (40 :: jn sp (gs.map (geoT low sp nt d)) ++ [41]))
      have htx := geo_texts (low := low) hs hf.2 hn
      refine GeoStep.coll _ (some gs) (GeoReads G d) rfl htr hA (len_wd _ _ _ _ rfl) h1 h2 h3 h4 h5 h6 h7 (.inr ⟨fold_brk _ _ h40 (by decide), ?_, .inr ⟨jn sp (gs.map (geoT low sp nt d)), ?_, ?_⟩⟩)
      · have : (wd low kwColl).length = 18 := by rw [wl]; rfl
        simp only [List.length_append, List.length_cons]; omega
      · rw [drop_wd low kwColl _ 18 rfl]
        exact brk_tidy hs (jn_tidy _ (by simpa using hf.1) fun t ht => (htx t ht).2)
      · rw [gc_jn hs _ (by simpa using hf.1) htx]
        have := run_all (GStep (GeoReads G d)) (geoT low sp nt d) gs [] (by have := hm.1; simp; omega) fun g hg acc ha => ⟨ha, some g, ih g (hf.2 g hg) (hm.2 g hg) (hn g hg) (Nat.le_trans (hpl g hg) hl), rfl⟩
        exact this
    · exact geo_flat G nt low hs _ (d + 1) g (fun l e => hg ⟨l, e⟩) hf hm hn

/-- An empty geometry. -/
def EmptyG : Geo → Prop
  | .line l => l = []
  | .poly l => l = []
  | .mpt l => l = []
  | .mline l => l = []
  | .mpoly l => l = []
  | .coll l => l = []
  | .pt _ => False
theorem geo_empty (G : Errs) (nt : Nat → List UInt8) (low : Bool) (sp : List UInt8) (d : Nat) (g : Geo) (h : EmptyG g) : GeoReads G (d + 1) (geoT low sp nt (d + 1) g) (some g) := by
  have ha : ∀ l : List UInt8, (l.all fun c => decide (c.toNat < 128)) = true → Asc l := fun l hl c hc => by
    have := List.all_eq_true.1 hl c hc; simpa using this
  cases g with
  | pt p => exact h.elim
  | line l =>
              obtain rfl : l = [] := h
              show GeoReads G (d + 1) (wd low kwLine ++ emp low) (some (.line []))
              refine ⟨by cases low <;> decide, GeoStep.line _ (some []) rfl ?_ ?_ ?_ ?_ (.inl ⟨?_, rfl⟩)⟩ <;> cases low <;> first | exact ha _ (by decide) | decide
  | poly l =>
              obtain rfl : l = [] := h
              show GeoReads G (d + 1) (wd low kwPoly ++ emp low) (some (.poly []))
              refine ⟨by cases low <;> decide, GeoStep.poly _ (some []) rfl ?_ ?_ ?_ ?_ ?_ (.inl ⟨?_, rfl⟩)⟩ <;> cases low <;> first | exact ha _ (by decide) | decide
  | mpt l =>
              obtain rfl : l = [] := h
              show GeoReads G (d + 1) (wd low kwMPoint ++ emp low) (some (.mpt []))
              refine ⟨by cases low <;> decide, GeoStep.mpt _ (some []) rfl ?_ ?_ ?_ ?_ ?_ ?_ (.inl ⟨?_, rfl⟩)⟩ <;> cases low <;> first | exact ha _ (by decide) | decide
  | mline l =>
              obtain rfl : l = [] := h
              show GeoReads G (d + 1) (wd low kwMLine ++ emp low) (some (.mline []))
              refine ⟨by cases low <;> decide, GeoStep.mline _ (some []) rfl ?_ ?_ ?_ ?_ ?_ ?_ ?_ (.inl ⟨?_, rfl⟩)⟩ <;> cases low <;> first | exact ha _ (by decide) | decide
  | mpoly l =>
              obtain rfl : l = [] := h
              show GeoReads G (d + 1) (wd low kwMPoly ++ emp low) (some (.mpoly []))
              refine ⟨by cases low <;> decide, GeoStep.mpoly _ (some []) rfl ?_ ?_ ?_ ?_ ?_ ?_ ?_ ?_ (.inl ⟨?_, rfl⟩)⟩ <;> cases low <;> first | exact ha _ (by decide) | decide
  | coll l =>
              obtain rfl : l = [] := h
              show GeoReads G (d + 1) (wd low kwColl ++ emp low) (some (.coll []))
              refine ⟨by cases low <;> decide, GeoStep.coll _ (some []) _ rfl rfl ?_ ?_ ?_ ?_ ?_ ?_ ?_ ?_ ?_ (.inl ⟨?_, rfl⟩)⟩ <;> cases low <;> first | exact ha _ (by decide) | decide
end Go.Proofs.YtghajgdiaopioaaGreatDoor

/- Plain law: a text without its last bracket, with a word of no kind, or with a point of one number is an error. -/
namespace Go.Proofs.YtghajgdiaopioaaGreatDoor

/-- What is left of a text in brackets without its last bracket. -/
theorem cut_last (w sp q : List UInt8) : (w ++ (sp ++ (40 :: q ++ [41]))).dropLast = w ++ (sp ++ 40 :: q) := by
  rw [show w ++ (sp ++ (40 :: q ++ [41])) = (w ++ (sp ++ 40 :: q)) ++ [41] from by simp, List.dropLast_concat]
theorem jn_last (sp : List UInt8) (ts : List (List UInt8)) (z : List UInt8) (c : UInt8) : jn sp (ts ++ [z ++ [c]]) = jn sp (ts ++ [z]) ++ [c] := by
  cases ts with
  | nil => simp [jn]
  | cons t ts => simp [jn]
theorem map_last {α β : Type} (f : α → β) {l : List α} (h : l ≠ []) : ∃ l' a, l = l' ++ [a] ∧ l.map f = l'.map f ++ [f a] := by
  rcases List.eq_nil_or_concat l with rfl | ⟨l', a, rfl⟩
  · exact absurd rfl h
  · exact ⟨l', a, by simp, by simp⟩

/-- Ends in no blank and no bracket. -/
def LastN (q : List UInt8) : Prop := ∃ q' c, q = q' ++ [c] ∧ isSp c = false ∧ c ≠ 41
theorem pt_last {nt : Nat → List UInt8} {p : Pt} (h : PtOk nt p) : LastN (ptT nt p) := by
  obtain ⟨t', c, h1, h2, h3⟩ := h.y.last
  exact ⟨nt p.1 ++ 32 :: t', c, by simp [ptT, h1], h2, h3⟩
theorem pts_last {G : Errs} {sp : List UInt8} {nt : Nat → List UInt8} {l : List Pt} (h0 : l ≠ []) (h : PsOk G nt l) : LastN (jn sp (l.map (ptT nt))) := by
  obtain ⟨l', a, rfl, hm⟩ := map_last (ptT nt) h0
  obtain ⟨t', c, h1, h2, h3⟩ := pt_last (pt_ok (h a (by simp)))
  exact ⟨jn sp (l'.map (ptT nt) ++ [t']), c, by rw [hm, h1, jn_last], h2, h3⟩
theorem brk_lastN {sp : List UInt8} (hs : Spc sp) {q : List UInt8} (h : LastN q) : brkL (sp ++ 40 :: q) = none := by
  obtain ⟨q', c, rfl, h2, h3⟩ := h
  exact brk_none hs q' c h2 h3
theorem brk_lastN0 {q : List UInt8} (h : LastN q) : brkL (40 :: q) = none := brk_lastN (.inl rfl) h
/-- A text that begins with a bracket. -/
theorem tidy_last {q : List UInt8} (h : LastN q) : Tidy (40 :: q) ∧ 2 ≤ (40 :: q).length := by
  obtain ⟨q', c, rfl, h2, h3⟩ := h
  exact ⟨⟨⟨40, q' ++ [c], rfl, rfl⟩, ⟨40 :: q', c, rfl, h2⟩⟩, by simp⟩
theorem tidy_41 (q : List UInt8) : Tidy (40 :: (q ++ [41])) ∧ 2 ≤ (40 :: (q ++ [41])).length := ⟨tidy_brk q, by simp⟩

theorem line_split {sp : List UInt8} {nt : Nat → List UInt8} {ls : List (List Pt)} (h0 : ls ≠ []) : ∃ ls' l, ls = ls' ++ [l] ∧ jn sp (ls.map (lineT sp nt)) = jn sp (ls'.map (lineT sp nt) ++ [40 :: jn sp (l.map (ptT nt))]) ++ [41] := by
  obtain ⟨ls', l, rfl, hm⟩ := map_last (lineT sp nt) h0
  exact ⟨ls', l, rfl, by rw [hm, lineT, jn_last]⟩
theorem cutlines_tidy {G : Errs} {sp : List UInt8} {nt : Nat → List UInt8} (ls : List (List Pt)) {l : List Pt} (h0 : l ≠ []) (h : PsOk G nt l) : Tidy (jn sp (ls.map (lineT sp nt) ++ [40 :: jn sp (l.map (ptT nt))])) ∧ 2 ≤ (jn sp (ls.map (lineT sp nt) ++ [40 :: jn sp (l.map (ptT nt))])).length :=
  jn_tidy _ (by simp) fun t ht => by
    rcases List.mem_append.1 ht with ht | ht
    · obtain ⟨l, hl, rfl⟩ := List.mem_map.1 ht
      exact line_tidy l
    · rw [List.mem_singleton.1 ht]; exact tidy_last (pts_last h0 h)
theorem cutlines_run {G : Errs} {sp : List UInt8} (hs : Spc sp) {nt : Nat → List UInt8} {ls : List (List Pt)} {l : List Pt} (hl : sml (ls ++ [l])) (h : LsOk G nt (ls ++ [l])) : Run (RingStep G) [] (rxPieces (jn sp (ls.map (lineT sp nt) ++ [40 :: jn sp (l.map (ptT nt))])) false) none := by
  have hll := h l (by simp)
  have hls : ∀ x ∈ ls, x ≠ [] ∧ PsOk G nt x := fun x hx => h x (by simp [hx])
  have hlen := hl.1
  rw [List.length_append, List.length_singleton] at hlen
  rw [rxPieces_cut false sp 1 _ _ (fun t ht => by
    obtain ⟨x, hx, rfl⟩ := List.mem_map.1 ht
    exact ⟨_, rxT_single hs _ (pts_no41 hs (hls x hx).2)⟩) (rxZ_single _ (pts_no41 hs hll.2))]
  refine run_err (RingStep G) (lineT sp nt) _ ls [] (by simp; omega) (fun x hx acc ha => ring_step hs (hls x hx).1 (hl.2 x (by simp [hx])) (hls x hx).2 acc ha) fun acc ha => ⟨ha, .inl ⟨brk_lastN0 (pts_last hll.1 hll.2), rfl⟩⟩

theorem geo_cut_flat (G : Errs) (nt : Nat → List UInt8) (low : Bool) {sp : List UInt8} (hs : Spc sp) (C : Option (List UInt8 → Option Geo → Prop)) (d : Nat) (g : Geo) (hg : ∀ l, g ≠ .coll l) (hf : FullG d g) (hm : Small d g) (hn : AllN (NumOk G nt) d g)
    (htr : trimL (geoT low sp nt d g).dropLast = (geoT low sp nt d g).dropLast) (hA : Asc (geoT low sp nt d g).dropLast) (h40 : (40 : UInt8) ∈ (geoT low sp nt d g).dropLast) :
    GeoStep G C (geoT low sp nt d g).dropLast none := by
  cases g with
  | coll l => exact absurd rfl (hg l)
  | pt p =>
    have hn' : NumOk G nt p.1 ∧ NumOk G nt p.2 := by cases d <;> exact hn
    rw [t_pt, cut_last] at htr ⊢
    show GeoStep G C _ ((none : Option Pt).map Geo.pt)
    refine GeoStep.pt _ none htr (len_wd _ _ _ _ rfl) (w_pt low _) (.inl ⟨?_, rfl⟩)
    rw [drop_wd low kwPoint _ 5 rfl]; exact brk_lastN hs (pt_last (pt_ok hn'))
  | line l =>
    have hf' : l ≠ [] := by cases d <;> exact hf
    have hn' : PsOk G nt l := by cases d <;> exact hn
    rw [t_line _ _ _ _ hf', cut_last] at htr hA h40 ⊢
    show GeoStep G C _ ((none : Option (List Pt)).map Geo.line)
    obtain ⟨h1, h2⟩ := w_line low (sp ++ 40 :: jn sp (l.map (ptT nt)))
    refine GeoStep.line _ none htr hA (len_wd _ _ _ _ rfl) h1 h2 (.inr ⟨fold_brk _ _ h40 (by decide), .inl ⟨?_, rfl⟩⟩)
    rw [drop_wd low kwLine _ 10 rfl]; exact brk_lastN hs (pts_last hf' hn')
  | poly l =>
    have hf' : fullL l := by cases d <;> exact hf
    have hm' : sml l := by cases d <;> exact hm
    have hn0 : ∀ x ∈ l, PsOk G nt x := by cases d <;> exact hn
    have hn' : LsOk G nt l := fun x hx => ⟨hf'.2 x hx, hn0 x hx⟩
    obtain ⟨ls', z, rfl, hj⟩ := line_split (sp := sp) (nt := nt) hf'.1
    rw [t_poly _ _ _ _ hf'.1, cut_last, hj] at htr hA h40 ⊢
    show GeoStep G C _ ((none : Option (List (List Pt))).map Geo.poly)
    obtain ⟨h1, h2, h3⟩ := w_poly low (sp ++ 40 :: (jn sp (ls'.map (lineT sp nt) ++ [40 :: jn sp (z.map (ptT nt))]) ++ [41]))
    refine GeoStep.poly _ none htr hA (len_wd _ _ _ _ rfl) h1 h2 h3 (.inr ⟨fold_brk _ _ h40 (by decide), .inr ⟨_, ?_, cutlines_run hs hm' hn'⟩⟩)
    rw [drop_wd low kwPoly _ 7 rfl]; exact brk_tidy hs (cutlines_tidy ls' (hn' z (by simp)).1 (hn' z (by simp)).2)
  | mline l =>
    have hf' : fullL l := by cases d <;> exact hf
    have hm' : sml l := by cases d <;> exact hm
    have hn0 : ∀ x ∈ l, PsOk G nt x := by cases d <;> exact hn
    have hn' : LsOk G nt l := fun x hx => ⟨hf'.2 x hx, hn0 x hx⟩
    obtain ⟨ls', z, rfl, hj⟩ := line_split (sp := sp) (nt := nt) hf'.1
    rw [t_mline _ _ _ _ hf'.1, cut_last, hj] at htr hA h40 ⊢
    show GeoStep G C _ ((none : Option (List (List Pt))).map Geo.mline)
    obtain ⟨h1, h2, h3, h4, h5⟩ := w_mline low (sp ++ 40 :: (jn sp (ls'.map (lineT sp nt) ++ [40 :: jn sp (z.map (ptT nt))]) ++ [41]))
    refine GeoStep.mline _ none htr hA (len_wd _ _ _ _ rfl) h1 h2 h3 h4 h5 (.inr ⟨fold_brk _ _ h40 (by decide), .inr ⟨_, ?_, cutlines_run hs hm' hn'⟩⟩)
    rw [drop_wd low kwMLine _ 15 rfl]; exact brk_tidy hs (cutlines_tidy ls' (hn' z (by simp)).1 (hn' z (by simp)).2)
  | mpt l =>
    have hf' : l ≠ [] := by cases d <;> exact hf
    have hm' : l.length ≤ 100000 := by cases d <;> exact hm
    have hn' : PsOk G nt l := by cases d <;> exact hn
    obtain ⟨l', z, rfl, hj⟩ := map_last (fun p => lineT sp nt [p]) hf'
    have hz := hn' z (by simp)
    rw [show lineT sp nt [z] = (40 :: ptT nt z) ++ [41] from one_pt sp nt z] at hj
    rw [t_mpt _ _ _ _ hf', cut_last, hj, jn_last] at htr hA h40 ⊢
    show GeoStep G C _ ((none : Option (List Pt)).map Geo.mpt)
    obtain ⟨h1, h2, h3, h4⟩ := w_mpt low (sp ++ 40 :: (jn sp (l'.map (fun p => lineT sp nt [p]) ++ [40 :: ptT nt z]) ++ [41]))
    have htz := tidy_last (pt_last (pt_ok hz))
    refine GeoStep.mpt _ none htr hA (len_wd _ _ _ _ rfl) h1 h2 h3 h4 (.inr ⟨fold_brk _ _ h40 (by decide), .inr ⟨?_, ?_, ?_⟩⟩)
    · exact jn sp (l'.map (fun p => lineT sp nt [p]) ++ [40 :: ptT nt z])
    · rw [drop_wd low kwMPoint _ 10 rfl]
      refine brk_tidy hs (jn_tidy _ (by simp) fun t ht => ?_)
      rcases List.mem_append.1 ht with ht | ht
      · obtain ⟨p, hp, rfl⟩ := List.mem_map.1 ht
        exact line_tidy [p]
      · rw [List.mem_singleton.1 ht]; exact htz
    · show Run (BrkPtStep G) [] (pieces _) none
      rw [pieces_jn hs _ (by simp)]
      · refine run_err (BrkPtStep G) (fun p => lineT sp nt [p]) _ l' [] (by rw [List.length_append, List.length_singleton] at hm'; simp; omega) (fun p hp acc ha => brkpt_step (hn' p (by simp [hp])) acc ha) fun acc ha => ⟨ha, .inl ⟨brk_lastN0 (pt_last (pt_ok hz)), rfl⟩⟩
      · intro t ht
        rcases List.mem_append.1 ht with ht | ht
        · obtain ⟨p, hp, rfl⟩ := List.mem_map.1 ht
          refine ⟨(line_tidy [p]).1, fun c hc => ?_⟩
          rw [one_pt] at hc
          simp at hc
          rcases hc with rfl | hc | rfl
          · decide
          · exact ((pt_ok (hn' p (by simp [hp]))).mem c hc).1
          · decide
        · rw [List.mem_singleton.1 ht]
          refine ⟨htz.1, fun c hc => ?_⟩
          rcases List.mem_cons.1 hc with rfl | hc
          · decide
          · exact ((pt_ok hz).mem c hc).1
  | mpoly l =>
    have hf' : l ≠ [] ∧ ∀ ls ∈ l, fullL ls := by cases d <;> exact hf
    have hm' : l.length ≤ 100000 ∧ ∀ ls ∈ l, sml ls := by cases d <;> exact hm
    have hn0 : ∀ y ∈ l, ∀ x ∈ y, PsOk G nt x := by cases d <;> exact hn
    have hn' : PolysOk G nt l := fun y hy => ⟨(hf'.2 y hy).1, fun x hx => ⟨(hf'.2 y hy).2 x hx, hn0 y hy x hx⟩⟩
    obtain ⟨l', z, rfl, hj⟩ := map_last (fun ls => brs sp (ls.map (lineT sp nt))) hf'.1
    have hz := hn' z (by simp)
    have hzs := hm'.2 z (by simp)
    rw [show brs sp (z.map (lineT sp nt)) = (40 :: jn sp (z.map (lineT sp nt))) ++ [41] from rfl] at hj
    rw [t_mpoly _ _ _ _ hf'.1, cut_last, hj, jn_last] at htr hA h40 ⊢
    show GeoStep G C _ ((none : Option (List (List (List Pt)))).map Geo.mpoly)
    obtain ⟨h1, h2, h3, h4, h5, h6⟩ := w_mpoly low (sp ++ 40 :: (jn sp (l'.map (fun ls => brs sp (ls.map (lineT sp nt))) ++ [40 :: jn sp (z.map (lineT sp nt))]) ++ [41]))
    obtain ⟨z', y, rfl, hzy⟩ := line_split (sp := sp) (nt := nt) hz.1
    have hly : LsOk G nt (z' ++ [y]) := hz.2
    have htz : Tidy (40 :: jn sp ((z' ++ [y]).map (lineT sp nt))) ∧ 2 ≤ (40 :: jn sp ((z' ++ [y]).map (lineT sp nt))).length := by rw [hzy]; exact tidy_41 _
    refine GeoStep.mpoly _ none htr hA (len_wd _ _ _ _ rfl) h1 h2 h3 h4 h5 h6 (.inr ⟨fold_brk _ _ h40 (by decide), .inr ⟨?_, ?_, ?_⟩⟩)
    · exact jn sp (l'.map (fun ls => brs sp (ls.map (lineT sp nt))) ++ [40 :: jn sp ((z' ++ [y]).map (lineT sp nt))])
    · rw [drop_wd low kwMPoly _ 12 rfl]
      refine brk_tidy hs (jn_tidy _ (by simp) fun t ht => ?_)
      rcases List.mem_append.1 ht with ht | ht
      · obtain ⟨p, hp, rfl⟩ := List.mem_map.1 ht
        exact brs_tidy _
      · rw [List.mem_singleton.1 ht]; exact htz
    · show Run (PolyStep G) [] (rxPieces _ true) none
      rw [rxPieces_cut true sp 2 _ _ (fun t ht => by
        obtain ⟨ls, hl, rfl⟩ := List.mem_map.1 ht
        exact rxT_double hs _ (by simpa using (hn' ls (by simp [hl])).1) (lines_lineL hs (hn' ls (by simp [hl])).2)) (rxZ_double hs _ (by simp) (lines_lineL hs hly))]
      refine run_err (PolyStep G) (fun ls => brs sp (ls.map (lineT sp nt))) _ l' [] (by have := hm'.1; rw [List.length_append, List.length_singleton] at this; simp; omega) (fun ls hl acc ha => poly_step hs (hn' ls (by simp [hl])).1 (hm'.2 ls (by simp [hl])) (hn' ls (by simp [hl])).2 acc ha) fun acc ha => ⟨ha, .inr ⟨_, none, ?_, cutlines_run hs hzs hly, rfl⟩⟩
      rw [hzy]
      exact brk_tidy0 (cutlines_tidy z' (hly y (by simp)).1 (hly y (by simp)).2)

theorem cut_facts {low : Bool} {sp t k q : List UInt8} (hs : Spc sp) (h : Whole low sp t k q) (hq : ∃ q' c, q = q' ++ [c] ∧ isSp c = false) : trimL t.dropLast = t.dropLast ∧ Asc t.dropLast ∧ (40 : UInt8) ∈ t.dropLast := by
  obtain ⟨rfl, hk, hi⟩ := h
  obtain ⟨q', c, rfl, hc⟩ := hq
  rw [cut_last]
  have hw : wd low k ≠ [] := by have := hk.1; cases low <;> simpa [wd] using this
  obtain ⟨e, k', he⟩ : ∃ e k', wd low k = e :: k' := by
    cases hh : wd low k with
    | nil => exact absurd hh hw
    | cons e k' => exact ⟨e, k', rfl⟩
  have hl := hk.let (low := low) e (by rw [he]; simp)
  refine ⟨?_, asc_app (fun c hc => (hk.let c hc).2) (asc_app (asc_sp hs) (asc_cons (by decide) hi.asc)), by simp⟩
  rw [he]
  exact trim_tidy ⟨⟨e, k' ++ (sp ++ 40 :: (q' ++ [c])), rfl, letter_sp' hl⟩, ⟨e :: k' ++ (sp ++ 40 :: q'), c, by simp, hc⟩⟩ (by simp; omega)
theorem Whole.q_last {low : Bool} {sp : List UInt8} (hs : Spc sp) {G : Errs} {nt : Nat → List UInt8} {d : Nat} {g : Geo} (hf : FullG d g) (hn : AllN (NumOk G nt) d g) : ∃ k q, Whole low sp (geoT low sp nt d g) k q ∧ ∃ q' c, q = q' ++ [c] ∧ isSp c = false := by
  obtain ⟨k, q, hw⟩ := geo_whole low hs nt d g hf (AllN.mono (fun x h => h.t) d g hn)
  refine ⟨k, q, hw, ?_⟩
  have key : ∀ k' q2, geoT low sp nt d g = wd low k' ++ (sp ++ (40 :: q2 ++ [41])) → KwOk k' → (Tidy q2 ∧ 2 ≤ q2.length) → ∃ q' c, q = q' ++ [c] ∧ isSp c = false := by
    intro k' q2 h1 hk' h2
    have he := hw.eq.symm.trans h1
    have hh : q = q2 := by
      have e1 : ∀ (a b x y : List UInt8), (∀ c ∈ a, c ≠ 40) → (∀ c ∈ b, c ≠ 40) → a ++ 40 :: x = b ++ 40 :: y → x = y := by
        intro a
        induction a with
        | nil =>
          intro b x y _ hb h
          cases b with
          | nil => simpa using h
          | cons c b => simp at h; exact absurd h.1.symm (hb c (by simp))
        | cons e a ih =>
          intro b x y ha hb h
          cases b with
          | nil => simp at h; exact absurd h.1 (ha e (by simp))
          | cons c b => simp at h; exact ih b x y (fun c hc => ha c (by simp [hc])) (fun c hc => hb c (by simp [hc])) h.2
      have hno : ∀ k, KwOk k → ∀ c ∈ wd low k ++ sp, c ≠ 40 := by
        intro k hk c hc
        rcases List.mem_append.1 hc with hc | hc
        · exact (letter_no (hk.let c hc)).1
        · rcases hs with rfl | rfl
          · simp at hc
          · simp at hc; subst hc; decide
      have := e1 (wd low k ++ sp) (wd low k' ++ sp) (q ++ [41]) (q2 ++ [41]) (hno k hw.kw) (hno k' hk') (by simpa using he)
      exact List.append_cancel_right this
    rw [hh]
    exact h2.1.2
  obtain ⟨k1, k2, k3, k4, k5, k6, k7⟩ := kw_ok
  cases g with
  | pt p =>
    have hn' : NumOk G nt p.1 ∧ NumOk G nt p.2 := by cases d <;> exact hn
    exact key _ _ (t_pt low sp nt d p) k1 (pt_ok hn').tidy
  | line l =>
    have hf' : l ≠ [] := by cases d <;> exact hf
    have hn' : PsOk G nt l := by cases d <;> exact hn
    exact key _ _ (t_line low sp nt d hf') k2 (pts_tidy hf' hn')
  | poly l =>
    have hf' : fullL l := by cases d <;> exact hf
    exact key _ _ (t_poly low sp nt d hf'.1) k3 (lines_tidy hf'.1)
  | mpt l =>
    have hf' : l ≠ [] := by cases d <;> exact hf
    exact key _ _ (t_mpt low sp nt d hf') k4 (mpts_tidy hf')
  | mline l =>
    have hf' : fullL l := by cases d <;> exact hf
    exact key _ _ (t_mline low sp nt d hf'.1) k5 (lines_tidy hf'.1)
  | mpoly l =>
    have hf' : l ≠ [] ∧ ∀ ls ∈ l, fullL ls := by cases d <;> exact hf
    exact key _ _ (t_mpoly low sp nt d hf'.1) k6 (polys_tidy hf'.1)
  | coll l =>
    cases d with
    | zero => exact hf.elim
    | succ d => exact key _ _ (t_coll low sp nt d hf.1) k7 (jn_tidy _ (by simpa using hf.1) fun t ht => (geo_texts hs hf.2 hn t ht).2)

/-- The text of a full geometry without its last bracket is an error. -/
theorem geo_cut (G : Errs) (nt : Nat → List UInt8) (low : Bool) {sp : List UInt8} (hs : Spc sp) : ∀ (d : Nat) (g : Geo), FullG d g → Small d g → AllN (NumOk G nt) d g → (geoT low sp nt d g).length ≤ 1000000000 → GeoReads G d (geoT low sp nt d g).dropLast none := by
  intro d
  induction d with
  | zero =>
    intro g hf hm hn hl
    obtain ⟨k, q, hw, hq⟩ := Whole.q_last (low := low) hs hf hn
    obtain ⟨h1, h2, h3⟩ := cut_facts hs hw hq
    exact ⟨by rw [List.length_dropLast]; omega, geo_cut_flat G nt low hs .none 0 g (fun l e => by subst e; exact hf.elim) hf hm hn h1 h2 h3⟩
  | succ d ih =>
    intro g hf hm hn hl
    obtain ⟨k, q, hw, hq⟩ := Whole.q_last (low := low) hs hf hn
    obtain ⟨htr, hA, h40⟩ := cut_facts hs hw hq
    refine ⟨by rw [List.length_dropLast]; omega, ?_⟩
    clear hw hq
    by_cases hg : ∃ l, g = .coll l
    · obtain ⟨gs, rfl⟩ := hg
      have hpl := part_len low sp nt d gs hf.1
      obtain ⟨gs', z, rfl, hj⟩ := map_last (geoT low sp nt d) hf.1
      have hzf := hf.2 z (by simp)
      have hzn := hn z (by simp)
      obtain ⟨kz, qz, hwz, hqz⟩ := Whole.q_last (low := low) hs hzf hzn
      have hcut : geoT low sp nt d z = (geoT low sp nt d z).dropLast ++ [41] := by
        rw [hwz.eq, cut_last]; simp
      have hcut2 : (geoT low sp nt d z).dropLast = (wd low kz ++ sp) ++ 40 :: qz := by rw [hwz.eq, cut_last]; simp
      have hjn : jn sp ((gs' ++ [z]).map (geoT low sp nt d)) = jn sp (gs'.map (geoT low sp nt d) ++ [(geoT low sp nt d z).dropLast]) ++ [41] := by rw [hj, ← jn_last, ← hcut]
      have htx := geo_texts (low := low) hs (gs := gs') (fun g hg => hf.2 g (by simp [hg])) (fun g hg => hn g (by simp [hg]))
      have hzc := cut_facts hs hwz hqz
      rw [t_coll _ _ _ _ hf.1, cut_last, hjn] at htr hA h40
      rw [t_coll _ _ _ _ hf.1] at hl hpl
      rw [t_coll _ _ _ _ hf.1, cut_last, hjn]
      show GeoStep G _ _ ((none : Option (List Geo)).map Geo.coll)
      obtain ⟨h1, h2, h3, h4, h5, h6, h7⟩ := w_coll low (sp ++ 40 :: (jn sp (gs'.map (geoT low sp nt d) ++ [(geoT low sp nt d z).dropLast]) ++ [41]))
      have hwd : ∃ e k', wd low kz = e :: k' ∧ isSp e = false := by
        have hw : wd low kz ≠ [] := by have := hwz.kw.1; cases low <;> simpa [wd] using this
        cases hh : wd low kz with
        | nil => exact absurd hh hw
        | cons e k' => exact ⟨e, k', rfl, letter_sp' (hwz.kw.let (low := low) e (by rw [hh]; simp))⟩
      obtain ⟨e, k', hek, hes⟩ := hwd
      obtain ⟨q', c, hqc, hcs⟩ := hqz
      have hztd : Tidy (geoT low sp nt d z).dropLast ∧ 2 ≤ (geoT low sp nt d z).dropLast.length := by
        rw [hcut2, hek, hqc]
        exact ⟨⟨⟨e, k' ++ sp ++ 40 :: (q' ++ [c]), by simp, hes⟩, ⟨e :: k' ++ sp ++ 40 :: q', c, by simp, hcs⟩⟩, by simp; omega⟩
      refine GeoStep.coll _ none (GeoReads G d) rfl htr hA (len_wd _ _ _ _ rfl) h1 h2 h3 h4 h5 h6 h7 (.inr ⟨fold_brk _ _ h40 (by decide), ?_, .inr ⟨jn sp (gs'.map (geoT low sp nt d) ++ [(geoT low sp nt d z).dropLast]), ?_, ?_⟩⟩)
      · have : (wd low kwColl).length = 18 := by rw [wl]; rfl
        simp only [List.length_append, List.length_cons]; omega
      · rw [drop_wd low kwColl _ 18 rfl]
        refine brk_tidy hs (jn_tidy _ (by simp) fun t ht => ?_)
        rcases List.mem_append.1 ht with ht | ht
        · exact (htx t ht).2
        · rw [List.mem_singleton.1 ht]; exact hztd
      · have hgc : gcGo [] 0 (jn sp (gs'.map (geoT low sp nt d) ++ [(geoT low sp nt d z).dropLast])) = gs'.map (geoT low sp nt d) ++ [(geoT low sp nt d z).dropLast] := by
          rw [hcut2]
          exact gc_cut hs _ (wd low kz ++ sp) qz c (Bal.app (Bal.all 0 fun c hc => letter_no (hwz.kw.let c hc)) (bal_sp hs 0)) hwz.inn.bal ⟨e, k' ++ sp, by rw [hek]; rfl, hes⟩ hcs ⟨q', hqc⟩ htx
        rw [hgc]
        have hlz := hpl z (by simp)
        refine run_err (GStep (GeoReads G d)) (geoT low sp nt d) _ gs' [] (by have := hm.1; rw [List.length_append, List.length_singleton] at this; simp; omega) (fun g hg acc ha => ⟨ha, some g, geo_reads G nt low hs d g (hf.2 g (by simp [hg])) (hm.2 g (by simp [hg])) (hn g (by simp [hg])) (Nat.le_trans (hpl g (by simp [hg])) hl), rfl⟩) fun acc ha => ⟨ha, none, ih z hzf (hm.2 z (by simp)) hzn (Nat.le_trans hlz hl), rfl⟩
    · exact geo_cut_flat G nt low hs _ (d + 1) g (fun l e => hg ⟨l, e⟩) hf hm hn htr hA h40

/-- A text with a word of no kind is an error. -/
theorem geo_x (G : Errs) (d : Nat) (t : List UInt8) (ht : ∃ t' c, t = t' ++ [c] ∧ isSp c = false) (hl : t.length < 1000000000) : GeoReads G d (88 :: t) none := by
  obtain ⟨t', c, rfl, hc⟩ := ht
  have htr : trimL (88 :: (t' ++ [c])) = 88 :: (t' ++ [c]) := trim_tidy ⟨⟨88, t' ++ [c], rfl, rfl⟩, ⟨88 :: t', c, rfl, hc⟩⟩ (by simp)
  have h : ∀ C, GeoStep G C (88 :: (t' ++ [c])) none := fun C =>
    GeoStep.none _ htr (w_none _ _ ⟨_, _, rfl, by decide⟩) (w_none _ _ ⟨_, _, rfl, by decide⟩) (w_none _ _ ⟨_, _, rfl, by decide⟩) (w_none _ _ ⟨_, _, rfl, by decide⟩) (w_none _ _ ⟨_, _, rfl, by decide⟩) (w_none _ _ ⟨_, _, rfl, by decide⟩) (w_none _ _ ⟨_, _, rfl, by decide⟩)
  have hl' : (88 :: (t' ++ [c])).length ≤ 1000000000 := by
    simp only [List.length_append, List.length_cons, List.length_nil] at hl ⊢; omega
  cases d <;> exact ⟨hl', h _⟩
theorem geo_nil (G : Errs) (d : Nat) : GeoReads G d [] none := by
  have h : ∀ C, GeoStep G C [] none := fun C => GeoStep.none [] rfl (by decide) (by decide) (by decide) (by decide) (by decide) (by decide) (by decide)
  cases d <;> exact ⟨by simp, h _⟩
/-- POINT(1) -/
theorem geo_one (G : Errs) (d : Nat) : GeoReads G d [80, 79, 73, 78, 84, 40, 49, 41] none := by
  have h : ∀ C, GeoStep G C [80, 79, 73, 78, 84, 40, 49, 41] none := fun C =>
    GeoStep.pt _ none rfl (by decide) (by decide) (.inr ⟨[], by decide, PtReads.none (by decide)⟩)
  cases d <;> exact ⟨by simp, h _⟩
/-- LINESTRING(1 2,3) -/
theorem geo_three (G : Errs) (d : Nat) (x y : Nat) (hx : NumReads G [49] x) (hy : NumReads G [50] y) : GeoReads G d [76, 73, 78, 69, 83, 84, 82, 73, 78, 71, 40, 49, 32, 50, 44, 51, 41] none := by
  have ha : Asc [76, 73, 78, 69, 83, 84, 82, 73, 78, 71, 40, 49, 32, 50, 44, 51, 41] := by unfold Asc; decide
  have h : ∀ C, GeoStep G C [76, 73, 78, 69, 83, 84, 82, 73, 78, 71, 40, 49, 32, 50, 44, 51, 41] none := fun C =>
    GeoStep.line _ none rfl ha (by decide) (by decide) (by decide) (.inr ⟨by decide, .inr ⟨[49, 32, 50, 44, 51], by decide,
      Run.ok (p := [49, 32, 50]) (ps := [[51]]) (a' := [(x, y)]) ⟨by decide, some (x, y), PtReads.some x y (by decide) hx hy, rfl⟩ (.err ⟨by simp, none, .none (by decide), rfl⟩)⟩⟩)
  cases d <;> exact ⟨by simp, h _⟩
end Go.Proofs.YtghajgdiaopioaaGreatDoor
