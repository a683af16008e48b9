/- Plain law: words, letters of ASCII, numbers' texts, runs over pieces. -/
import Derived.Test.YtghajgdiaopioaaGreatDoorW15
import Derived.Test.YtghajgdiaopioaaGreatDoorV02
import Derived.Test.YtghajgdiaopioaaGreatDoorV03
set_option linter.unusedVariables false
set_option linter.unusedSimpArgs false

namespace Go.Proofs.YtghajgdiaopioaaGreatDoor

/-! The first letters of a text. -/
theorem ups_app (k r : List UInt8) (hk : k.length ≤ 20) : ∃ R, Lib.bytesOf (ups (k ++ r) 20) = k.map (fun c => UInt8.ofNat (upI c.toNat).toNat) ++ R := by
  unfold ups Lib.bytesOf
  rw [show min 20 20 = 20 from rfl, List.take_append, List.take_of_length_le hk]
  simp only [List.map_append, List.append_assoc, List.map_map]
  exact ⟨_, rfl⟩
theorem hasW_app (k r word : List UInt8) (b : Bool) (hk : k.length ≤ 20) (h : ∀ R, word.isPrefixOf (k.map (fun c => UInt8.ofNat (upI c.toNat).toNat) ++ R) = b) : hasW (k ++ r) word = b := by
  obtain ⟨R, hR⟩ := ups_app k r hk
  unfold hasW Lib.hasPrefix
  rw [hR]
  exact h R
theorem w_pt (low : Bool) (r : List UInt8) : hasW (wd low kwPoint ++ r) kwPoint = true := hasW_app _ _ _ _ (by cases low <;> decide) fun R => by cases low <;> rfl
theorem w_line (low : Bool) (r : List UInt8) : hasW (wd low kwLine ++ r) kwPoint = false ∧ hasW (wd low kwLine ++ r) kwLine = true := ⟨hasW_app _ _ _ _ (by cases low <;> decide) fun R => by cases low <;> rfl, hasW_app _ _ _ _ (by cases low <;> decide) fun R => by cases low <;> rfl⟩
theorem w_poly (low : Bool) (r : List UInt8) : hasW (wd low kwPoly ++ r) kwPoint = false ∧ hasW (wd low kwPoly ++ r) kwLine = false ∧ hasW (wd low kwPoly ++ r) kwPoly = true :=
  ⟨hasW_app _ _ _ _ (by cases low <;> decide) fun R => by cases low <;> rfl, hasW_app _ _ _ _ (by cases low <;> decide) fun R => by cases low <;> rfl, hasW_app _ _ _ _ (by cases low <;> decide) fun R => by cases low <;> rfl⟩
theorem w_mpt (low : Bool) (r : List UInt8) : hasW (wd low kwMPoint ++ r) kwPoint = false ∧ hasW (wd low kwMPoint ++ r) kwLine = false ∧ hasW (wd low kwMPoint ++ r) kwPoly = false ∧ hasW (wd low kwMPoint ++ r) kwMPoint = true :=
  ⟨hasW_app _ _ _ _ (by cases low <;> decide) fun R => by cases low <;> rfl, hasW_app _ _ _ _ (by cases low <;> decide) fun R => by cases low <;> rfl, hasW_app _ _ _ _ (by cases low <;> decide) fun R => by cases low <;> rfl, hasW_app _ _ _ _ (by cases low <;> decide) fun R => by cases low <;> rfl⟩
theorem w_mline (low : Bool) (r : List UInt8) : hasW (wd low kwMLine ++ r) kwPoint = false ∧ hasW (wd low kwMLine ++ r) kwLine = false ∧ hasW (wd low kwMLine ++ r) kwPoly = false ∧ hasW (wd low kwMLine ++ r) kwMPoint = false ∧ hasW (wd low kwMLine ++ r) kwMLine = true :=
  ⟨hasW_app _ _ _ _ (by cases low <;> decide) fun R => by cases low <;> rfl, hasW_app _ _ _ _ (by cases low <;> decide) fun R => by cases low <;> rfl, hasW_app _ _ _ _ (by cases low <;> decide) fun R => by cases low <;> rfl, hasW_app _ _ _ _ (by cases low <;> decide) fun R => by cases low <;> rfl, hasW_app _ _ _ _ (by cases low <;> decide) fun R => by cases low <;> rfl⟩
theorem w_mpoly (low : Bool) (r : List UInt8) : hasW (wd low kwMPoly ++ r) kwPoint = false ∧ hasW (wd low kwMPoly ++ r) kwLine = false ∧ hasW (wd low kwMPoly ++ r) kwPoly = false ∧ hasW (wd low kwMPoly ++ r) kwMPoint = false ∧ hasW (wd low kwMPoly ++ r) kwMLine = false ∧ hasW (wd low kwMPoly ++ r) kwMPoly = true :=
  ⟨hasW_app _ _ _ _ (by cases low <;> decide) fun R => by cases low <;> rfl, hasW_app _ _ _ _ (by cases low <;> decide) fun R => by cases low <;> rfl, hasW_app _ _ _ _ (by cases low <;> decide) fun R => by cases low <;> rfl, hasW_app _ _ _ _ (by cases low <;> decide) fun R => by cases low <;> rfl, hasW_app _ _ _ _ (by cases low <;> decide) fun R => by cases low <;> rfl, hasW_app _ _ _ _ (by cases low <;> decide) fun R => by cases low <;> rfl⟩
theorem w_coll (low : Bool) (r : List UInt8) : hasW (wd low kwColl ++ r) kwPoint = false ∧ hasW (wd low kwColl ++ r) kwLine = false ∧ hasW (wd low kwColl ++ r) kwPoly = false ∧ hasW (wd low kwColl ++ r) kwMPoint = false ∧ hasW (wd low kwColl ++ r) kwMLine = false ∧ hasW (wd low kwColl ++ r) kwMPoly = false ∧ hasW (wd low kwColl ++ r) kwColl = true :=
  ⟨hasW_app _ _ _ _ (by cases low <;> decide) fun R => by cases low <;> rfl, hasW_app _ _ _ _ (by cases low <;> decide) fun R => by cases low <;> rfl, hasW_app _ _ _ _ (by cases low <;> decide) fun R => by cases low <;> rfl, hasW_app _ _ _ _ (by cases low <;> decide) fun R => by cases low <;> rfl, hasW_app _ _ _ _ (by cases low <;> decide) fun R => by cases low <;> rfl, hasW_app _ _ _ _ (by cases low <;> decide) fun R => by cases low <;> rfl, hasW_app _ _ _ _ (by cases low <;> decide) fun R => by cases low <;> rfl⟩
theorem fold_brk : ∀ (l w : List UInt8), (40 : UInt8) ∈ l → (40 : UInt8) ∉ w → Lib.equalFold l w = false := by
  intro l
  induction l with
  | nil => intro w h; simp at h
  | cons c l ih =>
    intro w h hw
    cases w with
    | nil => rfl
    | cons x w =>
      rw [Lib.equalFold]
      rcases List.mem_cons.1 h with rfl | h
      · have hx : x ≠ 40 := fun e => hw (by simp [e])
        have : Lib.foldEq 40 x = false := by
          unfold Lib.foldEq
          have h40 : (40 : UInt8).toNat = 40 := rfl
          rw [h40]
          apply decide_eq_false
          rintro (h | ⟨h, _⟩ | ⟨h, _, h2⟩)
          · exact hx (UInt8.toNat_inj.1 (by rw [h40]; exact h.symm))
          · omega
          · omega
        rw [this]; rfl
      · rw [ih w h fun hm => hw (by simp [hm]), Bool.and_false]

/-! Lists of letters of ASCII. -/
theorem asc_app {a b : List UInt8} (ha : Asc a) (hb : Asc b) : Asc (a ++ b) := fun c hc => by
  rcases List.mem_append.1 hc with h | h
  · exact ha c h
  · exact hb c h
theorem asc_cons {c : UInt8} {a : List UInt8} (hc : c.toNat < 128) (ha : Asc a) : Asc (c :: a) := fun x hx => by
  rcases List.mem_cons.1 hx with rfl | h
  · exact hc
  · exact ha x h
theorem asc_nil : Asc [] := fun c hc => by simp at hc
theorem asc_sp {sp : List UInt8} (hs : Spc sp) : Asc sp := by
  rcases hs with rfl | rfl
  · exact asc_nil
  · exact asc_cons (by decide) asc_nil
theorem asc_brs {q : List UInt8} (h : Asc q) : Asc (40 :: q ++ [41]) := asc_app (asc_cons (by decide) h) (asc_cons (by decide) asc_nil)
theorem asc_jn {sp : List UInt8} (hs : Spc sp) (ts : List (List UInt8)) (h : ∀ t ∈ ts, Asc t) : Asc (jn sp ts) := by
  have : ∀ ts : List (List UInt8), (∀ t ∈ ts, Asc t) → Asc (ts.flatMap fun u => 44 :: sp ++ u) := by
    intro ts
    induction ts with
    | nil => intro _; exact asc_nil
    | cons t ts ih => intro h; exact asc_app (asc_app (asc_cons (by decide) (asc_sp hs)) (h t (by simp))) (ih fun u hu => h u (by simp [hu]))
  cases ts with
  | nil => exact asc_nil
  | cons t ts => exact asc_app (h t (by simp)) (this ts fun u hu => h u (by simp [hu]))
theorem jn_mem_leN {sp : List UInt8} {ts : List (List UInt8)} {t : List UInt8} (h : t ∈ ts) : t.length ≤ (jn sp ts).length := by
  have : ∀ ts : List (List UInt8), t ∈ ts → t.length ≤ (ts.flatMap fun u => 44 :: sp ++ u).length := by
    intro ts
    induction ts with
    | nil => intro h; simp at h
    | cons u ts ih =>
      intro h
      rw [List.flatMap_cons, List.length_append]
      rcases List.mem_cons.1 h with rfl | h
      · simp; omega
      · have := ih h; omega
  cases ts with
  | nil => simp at h
  | cons u ts =>
    rw [jn, List.length_append]
    rcases List.mem_cons.1 h with rfl | h
    · omega
    · have := this ts h; omega
/-! Numbers' texts, points' texts. -/
/-- The text of a number: no blank, no comma, no bracket. -/
def NumT (t : List UInt8) : Prop := t ≠ [] ∧ ∀ c ∈ t, isSp c = false ∧ c ≠ 44 ∧ c ≠ 40 ∧ c ≠ 41 ∧ c.toNat < 128
theorem NumT.head {t : List UInt8} (h : NumT t) : ∃ c t', t = c :: t' ∧ isSp c = false ∧ c ≠ 41 := by
  cases t with
  | nil => exact absurd rfl h.1
  | cons c t' => exact ⟨c, t', rfl, (h.2 c (by simp)).1, (h.2 c (by simp)).2.2.2.1⟩
theorem NumT.last {t : List UInt8} (h : NumT t) : ∃ t' c, t = t' ++ [c] ∧ isSp c = false ∧ c ≠ 41 := by
  have h0 := h.1
  refine ⟨t.dropLast, t.getLast h0, (List.dropLast_concat_getLast h0).symm, ?_⟩
  have := h.2 _ (List.getLast_mem h0)
  exact ⟨this.1, this.2.2.2.1⟩
structure PtOk (nt : Nat → List UInt8) (p : Pt) : Prop where
  x : NumT (nt p.1)
  y : NumT (nt p.2)
theorem PtOk.mem {nt : Nat → List UInt8} {p : Pt} (h : PtOk nt p) : ∀ c ∈ ptT nt p, c ≠ 44 ∧ c ≠ 40 ∧ c ≠ 41 ∧ c.toNat < 128 := by
  intro c hc
  simp only [ptT, List.mem_append, List.mem_cons] at hc
  rcases hc with hc | rfl | hc
  · exact (h.x.2 c hc).2
  · decide
  · exact (h.y.2 c hc).2
theorem PtOk.tidy {nt : Nat → List UInt8} {p : Pt} (h : PtOk nt p) : Tidy (ptT nt p) ∧ 2 ≤ (ptT nt p).length := by
  obtain ⟨c, t', h1, h2, _⟩ := h.x.head
  obtain ⟨t2, e, h3, h4, _⟩ := h.y.last
  refine ⟨⟨⟨c, t' ++ 32 :: nt p.2, by simp [ptT, h1], h2⟩, ⟨nt p.1 ++ 32 :: t2, e, by simp [ptT, h3], h4⟩⟩, ?_⟩
  simp [ptT, h1]; omega
theorem ahead_num {t : List UInt8} (h : NumT t) (r : List UInt8) : ahead (t ++ 32 :: r) = t := by
  have : ∀ t : List UInt8, (∀ c ∈ t, isSp c = false) → ahead (t ++ 32 :: r) = t := by
    intro t
    induction t with
    | nil => intro _; exact ahead_cons_yes r
    | cons c t ih =>
      intro h
      have hc := h c (by simp)
      have : c ≠ 32 := by rintro rfl; revert hc; decide
      rw [List.cons_append, ahead_cons_no _ this, ih fun x hx => h x (by simp [hx])]
  exact this t fun c hc => (h.2 c hc).1
theorem pt_reads (G : Errs) (nt : Nat → List UInt8) (p : Pt) (h : PtOk nt p) (hx : NumReads G (nt p.1) p.1) (hy : NumReads G (nt p.2) p.2) : PtReads G (ptT nt p) (some p) := by
  have ha : ahead (ptT nt p) = nt p.1 := ahead_num h.x _
  have hd : (ptT nt p).drop ((ahead (ptT nt p)).length + 1) = nt p.2 := by rw [ha]; simp [ptT]
  refine PtReads.some p.1 p.2 ?_ ?_ ?_
  · rw [ha]; simp [ptT]
  · rw [ha]; exact hx
  · rw [hd]; exact hy

/-! Runs over pieces. -/
theorem run_all {β : Type} (S : List β → List UInt8 → Option (List β) → Prop) (f : β → List UInt8) : ∀ (l acc : List β), acc.length + l.length ≤ 1000000 → (∀ b ∈ l, ∀ acc', acc'.length < 1000000 → S acc' (f b) (some (acc' ++ [b]))) → Run S acc (l.map f) (some (acc ++ l)) := by
  intro l
  induction l with
  | nil => intro acc _ _; rw [List.append_nil]; exact .nil acc
  | cons b l ih =>
    intro acc hl h
    have hl' : acc.length + (l.length + 1) ≤ 1000000 := hl
    refine .ok (h b (by simp) acc (by omega)) ?_
    have := ih (acc ++ [b]) (by simp; omega) fun x hx => h x (by simp [hx])
    rwa [List.append_assoc] at this
end Go.Proofs.YtghajgdiaopioaaGreatDoor

/- Plain law: the texts of points, lines and lists read as them. -/
namespace Go.Proofs.YtghajgdiaopioaaGreatDoor

theorem jn_tidy {sp : List UInt8} (ts : List (List UInt8)) (h0 : ts ≠ []) (h : ∀ t ∈ ts, Tidy t ∧ 2 ≤ t.length) : Tidy (jn sp ts) ∧ 2 ≤ (jn sp ts).length := by
  cases ts with
  | nil => exact absurd rfl h0
  | cons t ts =>
    obtain ⟨⟨⟨c, t1, h1, h2⟩, ⟨t2, e, h3, h4⟩⟩, h5⟩ := h t (by simp)
    have hl : ∀ ts : List (List UInt8), (∀ t ∈ ts, Tidy t ∧ 2 ≤ t.length) → ts = [] ∨ ∃ b e, (ts.flatMap fun u => 44 :: sp ++ u) = b ++ [e] ∧ isSp e = false := by
      intro ts
      induction ts with
      | nil => intro _; exact .inl rfl
      | cons t ts ih =>
        intro h
        obtain ⟨⟨_, ⟨t2, e, h3, h4⟩⟩, _⟩ := h t (by simp)
        right
        rcases ih fun u hu => h u (by simp [hu]) with rfl | ⟨b', e', hb', he'⟩
        · exact ⟨44 :: sp ++ t2, e, by simp [h3], h4⟩
        · exact ⟨44 :: sp ++ t ++ b', e', by rw [List.flatMap_cons, hb']; simp, he'⟩
    refine ⟨⟨⟨c, t1 ++ ts.flatMap fun u => 44 :: sp ++ u, by rw [jn, h1]; simp, h2⟩, ?_⟩, by rw [jn, List.length_append]; omega⟩
    rcases hl ts fun u hu => h u (by simp [hu]) with rfl | ⟨b', e', hb', he'⟩
    · exact ⟨t2, e, by simp [jn, h3], h4⟩
    · exact ⟨t ++ b', e', by rw [jn, hb']; simp, he'⟩
theorem jn_mem {sp : List UInt8} {ts : List (List UInt8)} {c : UInt8} (h : c ∈ jn sp ts) : c = 44 ∨ c ∈ sp ∨ ∃ t ∈ ts, c ∈ t := by
  cases ts with
  | nil => simp [jn] at h
  | cons t ts =>
    rw [jn, List.mem_append, List.mem_flatMap] at h
    rcases h with h | ⟨u, hu, h⟩
    · exact .inr (.inr ⟨t, by simp, h⟩)
    · simp at h
      rcases h with h | h | h
      · exact .inl h
      · exact .inr (.inl h)
      · exact .inr (.inr ⟨u, by simp [hu], h⟩)

/-- A number whose text reads as it. -/
structure NumOk (G : Errs) (nt : Nat → List UInt8) (x : Nat) : Prop where
  t : NumT (nt x)
  r : NumReads G (nt x) x
theorem pt_ok {G : Errs} {nt : Nat → List UInt8} {p : Pt} (h : NumOk G nt p.1 ∧ NumOk G nt p.2) : PtOk nt p := ⟨h.1.t, h.2.t⟩
theorem pt_rd {G : Errs} {nt : Nat → List UInt8} {p : Pt} (h : NumOk G nt p.1 ∧ NumOk G nt p.2) : PtReads G (ptT nt p) (some p) := pt_reads G nt p (pt_ok h) h.1.r h.2.r
abbrev PsOk (G : Errs) (nt : Nat → List UInt8) (l : List Pt) : Prop := ∀ p ∈ l, NumOk G nt p.1 ∧ NumOk G nt p.2
theorem pts_tidy {G : Errs} {sp : List UInt8} {nt : Nat → List UInt8} {l : List Pt} (h0 : l ≠ []) (h : PsOk G nt l) : Tidy (jn sp (l.map (ptT nt))) ∧ 2 ≤ (jn sp (l.map (ptT nt))).length :=
  jn_tidy _ (by simpa using h0) fun t ht => by
    obtain ⟨p, hp, rfl⟩ := List.mem_map.1 ht
    exact (pt_ok (h p hp)).tidy
theorem pts_pieces {G : Errs} {sp : List UInt8} (hs : Spc sp) {nt : Nat → List UInt8} {l : List Pt} (h0 : l ≠ []) (h : PsOk G nt l) : pieces (jn sp (l.map (ptT nt))) = l.map (ptT nt) :=
  pieces_jn hs _ (by simpa using h0) fun t ht => by
    obtain ⟨p, hp, rfl⟩ := List.mem_map.1 ht
    exact ⟨(pt_ok (h p hp)).tidy.1, fun c hc => ((pt_ok (h p hp)).mem c hc).1⟩
theorem pts_run {G : Errs} {nt : Nat → List UInt8} {l : List Pt} (hl : l.length ≤ 100000) (h : PsOk G nt l) : Run (PtStep G) [] (l.map (ptT nt)) (some l) :=
  run_all (PtStep G) (ptT nt) l [] (by simp; omega) fun p hp acc ha => ⟨ha, some p, pt_rd (h p hp), rfl⟩
theorem brk_tidy {sp : List UInt8} (hs : Spc sp) {q : List UInt8} (h : Tidy q ∧ 2 ≤ q.length) : brkL (sp ++ (40 :: q ++ [41])) = some q := by rw [brk_some hs, trim_tidy h.1 h.2]
theorem brk_tidy0 {q : List UInt8} (h : Tidy q ∧ 2 ≤ q.length) : brkL (40 :: q ++ [41]) = some q := brk_tidy (.inl rfl) h
theorem line_brk {G : Errs} {sp : List UInt8} {nt : Nat → List UInt8} {l : List Pt} (h0 : l ≠ []) (h : PsOk G nt l) : brkL (lineT sp nt l) = some (jn sp (l.map (ptT nt))) := brk_tidy0 (pts_tidy h0 h)
theorem sp_no41 {sp : List UInt8} (hs : Spc sp) : ∀ c ∈ sp, c ≠ 41 := by rcases hs with rfl | rfl <;> simp
theorem pts_no41 {G : Errs} {sp : List UInt8} (hs : Spc sp) {nt : Nat → List UInt8} {l : List Pt} (h : PsOk G nt l) : ∀ c ∈ jn sp (l.map (ptT nt)), c ≠ 41 := by
  intro c hc
  rcases jn_mem hc with rfl | hc | ⟨t, ht, hc⟩
  · decide
  · exact sp_no41 hs c hc
  · obtain ⟨p, hp, rfl⟩ := List.mem_map.1 ht
    exact ((pt_ok (h p hp)).mem c hc).2.2.1
theorem line_tidy {sp : List UInt8} {nt : Nat → List UInt8} (l : List Pt) : Tidy (lineT sp nt l) ∧ 2 ≤ (lineT sp nt l).length := ⟨tidy_brk _, by simp [lineT]⟩
abbrev LsOk (G : Errs) (nt : Nat → List UInt8) (ls : List (List Pt)) : Prop := ∀ l ∈ ls, l ≠ [] ∧ PsOk G nt l
theorem lines_lineL {G : Errs} {sp : List UInt8} (hs : Spc sp) {nt : Nat → List UInt8} {ls : List (List Pt)} (h : LsOk G nt ls) : ∀ t ∈ ls.map (lineT sp nt), LineL t := fun t ht => by
  obtain ⟨l, hl, rfl⟩ := List.mem_map.1 ht
  exact ⟨_, rfl, pts_no41 hs (h l hl).2⟩
theorem lines_tidy {sp : List UInt8} {nt : Nat → List UInt8} {ls : List (List Pt)} (h0 : ls ≠ []) : Tidy (jn sp (ls.map (lineT sp nt))) ∧ 2 ≤ (jn sp (ls.map (lineT sp nt))).length :=
  jn_tidy _ (by simpa using h0) fun t ht => by
    obtain ⟨l, hl, rfl⟩ := List.mem_map.1 ht
    exact line_tidy l
theorem lines_pieces {G : Errs} {sp : List UInt8} (hs : Spc sp) {nt : Nat → List UInt8} {ls : List (List Pt)} (h0 : ls ≠ []) (h : LsOk G nt ls) : rxPieces (jn sp (ls.map (lineT sp nt))) false = ls.map (lineT sp nt) :=
  rxPieces_jn false sp 1 _ (by simpa using h0) fun t ht => by
    obtain ⟨l, hl, rfl⟩ := List.mem_map.1 ht
    exact ⟨_, rxT_single hs _ (pts_no41 hs (h l hl).2)⟩
theorem ring_step {G : Errs} {sp : List UInt8} (hs : Spc sp) {nt : Nat → List UInt8} {l : List Pt} (h0 : l ≠ []) (hl : l.length ≤ 100000) (h : PsOk G nt l) (acc : List (List Pt)) (ha : acc.length < 1000000) : RingStep G acc (lineT sp nt l) (some (acc ++ [l])) :=
  ⟨ha, .inr ⟨_, some l, line_brk h0 h, by rw [pts_pieces hs h0 h]; exact pts_run hl h, rfl⟩⟩
theorem lines_run {G : Errs} {sp : List UInt8} (hs : Spc sp) {nt : Nat → List UInt8} {ls : List (List Pt)} (hl : sml ls) (h : LsOk G nt ls) : Run (RingStep G) [] (ls.map (lineT sp nt)) (some ls) :=
  run_all (RingStep G) (lineT sp nt) ls [] (by have := hl.1; simp; omega) fun l hm acc ha => ring_step hs (h l hm).1 (hl.2 l hm) (h l hm).2 acc ha
theorem one_pt (sp : List UInt8) (nt : Nat → List UInt8) (p : Pt) : lineT sp nt [p] = 40 :: ptT nt p ++ [41] := by simp [lineT, jn]
theorem brkpt_step {G : Errs} {sp : List UInt8} {nt : Nat → List UInt8} {p : Pt} (h : NumOk G nt p.1 ∧ NumOk G nt p.2) (acc : List Pt) (ha : acc.length < 1000000) : BrkPtStep G acc (lineT sp nt [p]) (some (acc ++ [p])) :=
  ⟨ha, .inr ⟨_, some p, by rw [one_pt]; exact brk_tidy0 (pt_ok h).tidy, pt_rd h, rfl⟩⟩
theorem mpts_pieces {G : Errs} {sp : List UInt8} (hs : Spc sp) {nt : Nat → List UInt8} {l : List Pt} (h0 : l ≠ []) (h : PsOk G nt l) : pieces (jn sp (l.map fun p => lineT sp nt [p])) = l.map fun p => lineT sp nt [p] :=
  pieces_jn hs _ (by simpa using h0) fun t ht => by
    obtain ⟨p, hp, rfl⟩ := List.mem_map.1 ht
    refine ⟨(line_tidy [p]).1, fun c hc => ?_⟩
    rw [one_pt] at hc
    simp at hc
    rcases hc with rfl | hc | rfl
    · decide
    · exact ((pt_ok (h p hp)).mem c hc).1
    · decide
theorem mpts_run {G : Errs} {sp : List UInt8} {nt : Nat → List UInt8} {l : List Pt} (hl : l.length ≤ 100000) (h : PsOk G nt l) : Run (BrkPtStep G) [] (l.map fun p => lineT sp nt [p]) (some l) :=
  run_all (BrkPtStep G) (fun p => lineT sp nt [p]) l [] (by simp; omega) fun p hp acc ha => brkpt_step (h p hp) acc ha
theorem mpts_tidy {sp : List UInt8} {nt : Nat → List UInt8} {l : List Pt} (h0 : l ≠ []) : Tidy (jn sp (l.map fun p => lineT sp nt [p])) ∧ 2 ≤ (jn sp (l.map fun p => lineT sp nt [p])).length :=
  jn_tidy _ (by simpa using h0) fun t ht => by
    obtain ⟨p, hp, rfl⟩ := List.mem_map.1 ht
    exact line_tidy [p]
theorem brs_tidy {sp : List UInt8} (ts : List (List UInt8)) : Tidy (brs sp ts) ∧ 2 ≤ (brs sp ts).length := ⟨tidy_brk _, by simp [brs]⟩
abbrev PolysOk (G : Errs) (nt : Nat → List UInt8) (ps : List (List (List Pt))) : Prop := ∀ ls ∈ ps, ls ≠ [] ∧ LsOk G nt ls
theorem polys_pieces {G : Errs} {sp : List UInt8} (hs : Spc sp) {nt : Nat → List UInt8} {ps : List (List (List Pt))} (h0 : ps ≠ []) (h : PolysOk G nt ps) : rxPieces (jn sp (ps.map fun ls => brs sp (ls.map (lineT sp nt)))) true = ps.map fun ls => brs sp (ls.map (lineT sp nt)) :=
  rxPieces_jn true sp 2 _ (by simpa using h0) fun t ht => by
    obtain ⟨ls, hl, rfl⟩ := List.mem_map.1 ht
    exact rxT_double hs _ (by simpa using (h ls hl).1) (lines_lineL hs (h ls hl).2)
theorem poly_step {G : Errs} {sp : List UInt8} (hs : Spc sp) {nt : Nat → List UInt8} {ls : List (List Pt)} (h0 : ls ≠ []) (hl : sml ls) (h : LsOk G nt ls) (acc : List (List (List Pt))) (ha : acc.length < 1000000) : PolyStep G acc (brs sp (ls.map (lineT sp nt))) (some (acc ++ [ls])) :=
  ⟨ha, .inr ⟨_, some ls, brk_tidy0 (lines_tidy h0), by rw [lines_pieces hs h0 h]; exact lines_run hs hl h, rfl⟩⟩
theorem polys_run {G : Errs} {sp : List UInt8} (hs : Spc sp) {nt : Nat → List UInt8} {ps : List (List (List Pt))} (hl : ps.length ≤ 100000 ∧ ∀ ls ∈ ps, sml ls) (h : PolysOk G nt ps) : Run (PolyStep G) [] (ps.map fun ls => brs sp (ls.map (lineT sp nt))) (some ps) :=
  run_all (PolyStep G) (fun ls => brs sp (ls.map (lineT sp nt))) ps [] (by have := hl.1; simp; omega) fun ls hm acc ha => poly_step hs (h ls hm).1 (hl.2 ls hm) (h ls hm).2 acc ha
theorem polys_tidy {sp : List UInt8} {nt : Nat → List UInt8} {ps : List (List (List Pt))} (h0 : ps ≠ []) : Tidy (jn sp (ps.map fun ls => brs sp (ls.map (lineT sp nt)))) ∧ 2 ≤ (jn sp (ps.map fun ls => brs sp (ls.map (lineT sp nt)))).length :=
  jn_tidy _ (by simpa using h0) fun t ht => by
    obtain ⟨p, hp, rfl⟩ := List.mem_map.1 ht
    exact brs_tidy _

/-! The inner text of a geometry's brackets. -/
/-- Balanced, and of ASCII. -/
structure Inn (q : List UInt8) : Prop where
  bal : Bal 1 q
  asc : Asc q
theorem inn_jn {sp : List UInt8} (hs : Spc sp) {ts : List (List UInt8)} (h : ∀ t ∈ ts, Inn t) : Inn (jn sp ts) := ⟨bal_jn hs ts fun t ht => (h t ht).bal, asc_jn hs ts fun t ht => (h t ht).asc⟩
theorem inn_brs {q : List UInt8} (h : Inn q) : Inn (40 :: q ++ [41]) := ⟨Bal.mono (bal_brs (k := 0) h.bal) (by omega), asc_brs h.asc⟩
theorem pt_inn {nt : Nat → List UInt8} {p : Pt} (h : PtOk nt p) : Inn (ptT nt p) := ⟨Bal.all 1 fun c hc => ⟨(h.mem c hc).2.1, (h.mem c hc).2.2.1, (h.mem c hc).1⟩, fun c hc => (h.mem c hc).2.2.2⟩
theorem pts_inn {sp : List UInt8} (hs : Spc sp) {nt : Nat → List UInt8} {l : List Pt} (h : ∀ p ∈ l, PtOk nt p) : Inn (jn sp (l.map (ptT nt))) := inn_jn hs fun t ht => by
  obtain ⟨p, hp, rfl⟩ := List.mem_map.1 ht
  exact pt_inn (h p hp)
theorem line_inn {sp : List UInt8} (hs : Spc sp) {nt : Nat → List UInt8} {l : List Pt} (h : ∀ p ∈ l, PtOk nt p) : Inn (lineT sp nt l) := inn_brs (pts_inn hs h)
theorem lines_inn {sp : List UInt8} (hs : Spc sp) {nt : Nat → List UInt8} {ls : List (List Pt)} (h : ∀ l ∈ ls, ∀ p ∈ l, PtOk nt p) : Inn (jn sp (ls.map (lineT sp nt))) := inn_jn hs fun t ht => by
  obtain ⟨l, hl, rfl⟩ := List.mem_map.1 ht
  exact line_inn hs (h l hl)

/-- A word of capital letters. -/
def KwOk (k : List UInt8) : Prop := k ≠ [] ∧ ∀ c ∈ k, 65 ≤ c.toNat ∧ c.toNat < 91
theorem KwOk.let {low : Bool} {k : List UInt8} (h : KwOk k) : ∀ c ∈ wd low k, 65 ≤ c.toNat ∧ c.toNat < 128 := by
  cases low
  · intro c hc; have := h.2 c hc; omega
  · intro c hc
    simp only [wd, if_true, List.mem_map] at hc
    obtain ⟨x, hx, rfl⟩ := hc
    have := h.2 x hx
    rw [UInt8.toNat_add]
    have : (32 : UInt8).toNat = 32 := rfl
    omega
theorem letter_no {c : UInt8} (h : 65 ≤ c.toNat ∧ c.toNat < 128) : c ≠ 40 ∧ c ≠ 41 ∧ c ≠ 44 := by
  refine ⟨?_, ?_, ?_⟩ <;> rintro rfl <;> exact absurd h.1 (by decide)
theorem letter_sp' {c : UInt8} (h : 65 ≤ c.toNat ∧ c.toNat < 128) : isSp c = false := by
  simp only [isSp, Bool.or_eq_false_iff, beq_eq_false_iff_ne]
  refine ⟨⟨?_, ?_⟩, ?_⟩ <;> rintro rfl <;> exact absurd h.1 (by decide)
/-- A word and a text in brackets. -/
structure Whole (low : Bool) (sp t : List UInt8) (k q : List UInt8) : Prop where
  eq : t = wd low k ++ (sp ++ (40 :: q ++ [41]))
  kw : KwOk k
  inn : Inn q
theorem Whole.tidy {low : Bool} {sp t k q : List UInt8} (h : Whole low sp t k q) : Tidy t ∧ 2 ≤ t.length := by
  obtain ⟨rfl, hk, hq⟩ := h
  have hw : wd low k ≠ [] := by have := hk.1; cases low <;> simpa [wd] using this
  obtain ⟨c, k', hc⟩ : ∃ c k', wd low k = c :: k' := by
    cases hh : wd low k with
    | nil => exact absurd hh hw
    | cons c k' => exact ⟨c, k', rfl⟩
  have hl := hk.let (low := low) c (by rw [hc]; simp)
  rw [hc]
  exact ⟨⟨⟨c, k' ++ (sp ++ (40 :: q ++ [41])), rfl, letter_sp' hl⟩, ⟨c :: k' ++ (sp ++ 40 :: q), 41, by simp, rfl⟩⟩, by simp; omega⟩
theorem Whole.bal {low : Bool} {sp t k q : List UInt8} (hs : Spc sp) (h : Whole low sp t k q) : Bal 0 t := by
  obtain ⟨rfl, hk, hq⟩ := h
  exact Bal.app (Bal.all 0 fun c hc => letter_no (hk.let c hc)) (Bal.app (bal_sp hs 0) (bal_brs (k := 0) hq.bal))
theorem Whole.asc {low : Bool} {sp t k q : List UInt8} (hs : Spc sp) (h : Whole low sp t k q) : Asc t := by
  obtain ⟨rfl, hk, hq⟩ := h
  exact asc_app (fun c hc => (hk.let c hc).2) (asc_app (asc_sp hs) (asc_brs hq.asc))
theorem Whole.in' {low : Bool} {sp t k q : List UInt8} (hs : Spc sp) (h : Whole low sp t k q) : Inn t := ⟨(h.bal hs).mono (by omega), h.asc hs⟩
theorem Whole.has40 {low : Bool} {sp t k q : List UInt8} (h : Whole low sp t k q) : (40 : UInt8) ∈ t := by rw [h.eq]; simp
theorem kw_ok : KwOk kwPoint ∧ KwOk kwLine ∧ KwOk kwPoly ∧ KwOk kwMPoint ∧ KwOk kwMLine ∧ KwOk kwMPoly ∧ KwOk kwColl := by unfold KwOk; decide

theorem t_pt (low : Bool) (sp : List UInt8) (nt : Nat → List UInt8) (d : Nat) (p : Pt) : geoT low sp nt d (.pt p) = wd low kwPoint ++ (sp ++ (40 :: ptT nt p ++ [41])) := by cases d <;> simp [geoT, lineT, jn]
theorem t_line (low : Bool) (sp : List UInt8) (nt : Nat → List UInt8) (d : Nat) {l : List Pt} (h : l ≠ []) : geoT low sp nt d (.line l) = wd low kwLine ++ (sp ++ (40 :: jn sp (l.map (ptT nt)) ++ [41])) := by
  cases l with | nil => exact absurd rfl h | cons a b => cases d <;> simp [geoT, lineT]
theorem t_poly (low : Bool) (sp : List UInt8) (nt : Nat → List UInt8) (d : Nat) {l : List (List Pt)} (h : l ≠ []) : geoT low sp nt d (.poly l) = wd low kwPoly ++ (sp ++ (40 :: jn sp (l.map (lineT sp nt)) ++ [41])) := by
  cases l with | nil => exact absurd rfl h | cons a b => cases d <;> simp [geoT, brs]
theorem t_mpt (low : Bool) (sp : List UInt8) (nt : Nat → List UInt8) (d : Nat) {l : List Pt} (h : l ≠ []) : geoT low sp nt d (.mpt l) = wd low kwMPoint ++ (sp ++ (40 :: jn sp (l.map fun p => lineT sp nt [p]) ++ [41])) := by
  cases l with | nil => exact absurd rfl h | cons a b => cases d <;> simp [geoT, brs]
theorem t_mline (low : Bool) (sp : List UInt8) (nt : Nat → List UInt8) (d : Nat) {l : List (List Pt)} (h : l ≠ []) : geoT low sp nt d (.mline l) = wd low kwMLine ++ (sp ++ (40 :: jn sp (l.map (lineT sp nt)) ++ [41])) := by
  cases l with | nil => exact absurd rfl h | cons a b => cases d <;> simp [geoT, brs]
theorem t_mpoly (low : Bool) (sp : List UInt8) (nt : Nat → List UInt8) (d : Nat) {l : List (List (List Pt))} (h : l ≠ []) : geoT low sp nt d (.mpoly l) = wd low kwMPoly ++ (sp ++ (40 :: jn sp (l.map fun ls => brs sp (ls.map (lineT sp nt))) ++ [41])) := by
  cases l with | nil => exact absurd rfl h | cons a b => cases d <;> simp [geoT, brs]
theorem t_coll (low : Bool) (sp : List UInt8) (nt : Nat → List UInt8) (d : Nat) {l : List Geo} (h : l ≠ []) : geoT low sp nt (d + 1) (.coll l) = wd low kwColl ++ (sp ++ (40 :: jn sp (l.map (geoT low sp nt d)) ++ [41])) := by
  cases l with | nil => exact absurd rfl h | cons a b => simp [geoT, brs]

theorem geo_whole (low : Bool) {sp : List UInt8} (hs : Spc sp) (nt : Nat → List UInt8) : ∀ (d : Nat) (g : Geo), FullG d g → AllN (fun x => NumT (nt x)) d g → ∃ k q, Whole low sp (geoT low sp nt d g) k q := by
  obtain ⟨k1, k2, k3, k4, k5, k6, k7⟩ := kw_ok
  have flat : ∀ (d : Nat) (g : Geo), (∀ l, g ≠ .coll l) → FullG d g → AllN (fun x => NumT (nt x)) d g → ∃ k q, Whole low sp (geoT low sp nt d g) k q := by
    intro d g hg hf hn
    cases g with
    | coll l => exact absurd rfl (hg l)
    | pt p =>
      have hn' : NumT (nt p.1) ∧ NumT (nt p.2) := by cases d <;> exact hn
      exact ⟨_, _, t_pt low sp nt d p, k1, pt_inn ⟨hn'.1, hn'.2⟩⟩
    | line l =>
      have hf' : l ≠ [] := by cases d <;> exact hf
      have hn' : ∀ p ∈ l, NumT (nt p.1) ∧ NumT (nt p.2) := by cases d <;> exact hn
      exact ⟨_, _, t_line low sp nt d hf', k2, pts_inn hs fun p hp => ⟨(hn' p hp).1, (hn' p hp).2⟩⟩
    | poly l =>
      have hf' : fullL l := by cases d <;> exact hf
      have hn' : ∀ x ∈ l, ∀ p ∈ x, NumT (nt p.1) ∧ NumT (nt p.2) := by cases d <;> exact hn
      exact ⟨_, _, t_poly low sp nt d hf'.1, k3, lines_inn hs fun x hx p hp => ⟨(hn' x hx p hp).1, (hn' x hx p hp).2⟩⟩
    | mpt l =>
      have hf' : l ≠ [] := by cases d <;> exact hf
      have hn' : ∀ p ∈ l, NumT (nt p.1) ∧ NumT (nt p.2) := by cases d <;> exact hn
      refine ⟨_, _, t_mpt low sp nt d hf', k4, inn_jn hs fun t ht => ?_⟩
      obtain ⟨p, hp, rfl⟩ := List.mem_map.1 ht
      rw [one_pt]
      exact inn_brs (pt_inn ⟨(hn' p hp).1, (hn' p hp).2⟩)
    | mline l =>
      have hf' : fullL l := by cases d <;> exact hf
      have hn' : ∀ x ∈ l, ∀ p ∈ x, NumT (nt p.1) ∧ NumT (nt p.2) := by cases d <;> exact hn
      exact ⟨_, _, t_mline low sp nt d hf'.1, k5, lines_inn hs fun x hx p hp => ⟨(hn' x hx p hp).1, (hn' x hx p hp).2⟩⟩
    | mpoly l =>
      have hf' : l ≠ [] ∧ ∀ ls ∈ l, fullL ls := by cases d <;> exact hf
      have hn' : ∀ ls ∈ l, ∀ x ∈ ls, ∀ p ∈ x, NumT (nt p.1) ∧ NumT (nt p.2) := by cases d <;> exact hn
      refine ⟨_, _, t_mpoly low sp nt d hf'.1, k6, inn_jn hs fun t ht => ?_⟩
      obtain ⟨ls, hl, rfl⟩ := List.mem_map.1 ht
      exact inn_brs (lines_inn hs fun x hx p hp => ⟨(hn' ls hl x hx p hp).1, (hn' ls hl x hx p hp).2⟩)
  intro d
  induction d with
  | zero => intro g hf hn; exact flat 0 g (fun l e => by subst e; exact hf.elim) hf hn
  | succ d ih =>
    intro g hf hn
    by_cases hg : ∃ l, g = .coll l
    · obtain ⟨l, rfl⟩ := hg
      refine ⟨_, _, t_coll low sp nt d hf.1, k7, inn_jn hs fun t ht => ?_⟩
      obtain ⟨g, hg, rfl⟩ := List.mem_map.1 ht
      obtain ⟨k, q, hw⟩ := ih g (hf.2 g hg) (hn g hg)
      exact hw.in' hs
    · exact flat (d + 1) g (fun l e => hg ⟨l, e⟩) hf hn
end Go.Proofs.YtghajgdiaopioaaGreatDoor
