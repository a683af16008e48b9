/- The row of FnTextThere: from every input that fits the law returns true. -/
import Derived.Test.YtghajgdiaopioaaGreatDoorV07
import Derived.Test.YtghajgdiaopioaaGreatDoorV17
set_option linter.unusedVariables false
set_option linter.unusedSimpArgs false

namespace Go.Proofs.YtghajgdiaopioaaGreatDoor
open Go.ChangeShapes Go.WideShapes Go.ChangeAt Go.RowKit
set_option maxRecDepth 100000

theorem trod_f64x {w : World} {n : Nat} {cs : List Value} {x : DataW Unit × List MemPlace} (h : DataW.trod (fun _ => ()) Tryz.prog w 0 (fun _ => true) false n 47 cs = some x) : ∃ v, cs = [.float .f64 v] ∧ x.1 = .lit (.float .f64 v) := by
  cases n with
  | zero => simp [DataW.trod] at h
  | succ n =>
    unfold DataW.trod at h
    rw [Tryz.underlying47] at h
    split at h <;> simp_all
    rename_i hk
    subst hk
    rw [← h.2]
theorem t10_of {W : World} (h : Lib.VarReads Tryz.prog W "internal/strconv.float64pow10" Rows.laid_internal_strconv_float64pow10) : T10 W := by
  have h' : Lib.VarReads Tryz.prog W "internal/strconv.float64pow10" (.slice (p10F.map fun v => .lit (.float .f64 v)) []) := h
  obtain ⟨g', t', cs, fuel, p, hg, ht, hv, hd⟩ := h'
  obtain rfl := Option.some.inj ((show Tryz.prog.globalNamed "internal/strconv.float64pow10" = some 21 by kernel_rfl).symm.trans hg)
  obtain rfl := Option.some.inj ((show (Tryz.prog.globals[21]?).map (·.type) = some 262 by kernel_rfl).symm.trans ht)
  rcases DataW.trod_slice Tryz.underlying262 hd with ⟨_, e⟩ | ⟨a, len, cap, elems, rest, m, hn, e1, e2, _, hl, hm, hlen, hE, _, _⟩
  · have := (Prod.mk.inj e).1
    cases this
  · have e3 := DataW.slice.inj (Prod.mk.inj e2).1
    have hlen23 : elems.length = 23 := by
      have := congrArg List.length e3.1
      rw [List.length_map, List.length_map, p10F_len] at this
      exact this.symm
    have hl23 : len = 23 := by rw [← hlen]; exact hlen23
    subst hl23
    refine ⟨a, cap, ?_, fun i hi => ?_⟩
    · rw [World.var?_cell hg hv 0]
      have : cs.toList[0]? = some (.slice (some a) 23 cap) := by rw [e1]; rfl
      simpa using this
    · have h2 := hE i hi
      have hie : i < elems.length := by rw [hlen23]; exact hi
      rw [c47, Nat.mul_one, List.getElem?_eq_getElem hie] at h2
      obtain ⟨cs', h3, h4⟩ := Option.bind_eq_some_iff.1 h2
      obtain ⟨v, rfl, hx⟩ := trod_f64x h4
      rw [cell_of_cells?_one h3]
      have h5 : (elems.map (·.1))[i]? = some (.lit (.float .f64 v)) := by rw [List.getElem?_map, List.getElem?_eq_getElem hie, Option.map_some, hx]
      rw [← e3.1, List.getElem?_map] at h5
      obtain ⟨y, hy, e⟩ := Option.map_eq_some_iff.1 h5
      have : y = v := by simpa using e
      subst this
      rw [List.getD_eq_getElem?_getD, hy]
      rfl
theorem vars2 {H : Type} {enc : TypeId × Value → H} {P : Program} {w : World} {spare : Nat → Bool} {a b : String} {gs : List (DataW H)} {q : List MemPlace} (h : DataW.TrodVars enc P w spare [a, b] gs q) : ∃ x y, gs = [x, y] := by
  match gs, h with
  | [], h => exact h.elim
  | [_], h => obtain ⟨_, _, _, _, _, _, _, _, _, _, h, _⟩ := h; exact h.elim
  | [x, y], _ => exact ⟨x, y, rfl⟩
  | _ :: _ :: _ :: _, h =>
    obtain ⟨_, _, _, _, _, _, _, _, _, _, h, _⟩ := h; obtain ⟨_, _, _, _, _, _, _, _, _, _, h, _⟩ := h; exact h.elim
theorem cell_sameA {W w : World} (h : ∀ (g : Nat) (cs : Array Value), (∃ t fz, W.heap[g]? = some (.cells cs t fz)) → ∃ t fz, w.heap[g]? = some (.cells cs t fz)) {a : Addr} {v : Value} (hc : W.cell? a = some v) : w.cell? a = some v := by
  obtain ⟨b, o, s⟩ := a
  cases s with
  | none => exact cell_same h hc
  | some x =>
    unfold World.cell? at hc
    split at hc <;> simp at hc
theorem env_ofT {W : World} (hL : laidMet Tryz.prog Rows.fnTextThereRow.laid W) : ∃ G, HasN G ∧ Env G W := by
  have h10 := t10_of (Lib.laidMet.reads hL (List.mem_of_getElem? (i := 6) rfl))
  have h22 := t22_of (Lib.laidMet.reads hL (List.mem_of_getElem? (i := 18) rfl))
  have hi := info_of (Lib.laidMet.reads hL (List.mem_of_getElem? (i := 3) rfl))
  have ho := opt_of (Lib.laidMet.reads hL (List.mem_of_getElem? (i := 4) rfl))
  have hp := p10_of (Lib.laidMet.reads hL (List.mem_of_getElem? (i := 8) rfl))
  have hL15 : laidMet Tryz.prog (Rows.fnTextThereRow.laid.drop 15) W := hL.tail.tail.tail.tail.tail.tail.tail.tail.tail.tail.tail.tail.tail.tail.tail
  obtain ⟨a, t0, hv0, _⟩ := laid_sentinel (g := 4) hL15 (by kernel_rfl) (by kernel_rfl) Tryz.underlying54 row239 Tryz.underlying239 Tryz.underlying241 rfl rfl Tryz.underlying9 (by kernel_rfl) (by kernel_rfl)
  obtain ⟨b, t1, hv1, _⟩ := laid_sentinel (g := 1) hL15.tail (by kernel_rfl) (by kernel_rfl) Tryz.underlying54 row239 Tryz.underlying239 Tryz.underlying241 rfl rfl Tryz.underlying9 (by kernel_rfl) (by kernel_rfl)
  have e0 := World.var?_cell (g := 4) (by kernel_rfl) hv0 0
  have e1 := World.var?_cell (g := 1) (by kernel_rfl) hv1 0
  refine ⟨⟨a, b, b, fun g cs => ∃ t fz, W.heap[g]? = some (.cells cs t fz)⟩, fun w hE => ?_, ⟨e0, e1, fun g cs h => h⟩⟩
  have ht := hE.tab
  obtain ⟨a, cap, ha, hc⟩ := h10
  exact ⟨⟨tab_same ht hp, fun i hi => ⟨cell_same ht (h22 i hi).1, cell_same ht (h22 i hi).2⟩⟩, cell_same ht hi, cell_same ht ho, a, cap, cell_same ht ha, fun i hi => cell_sameA ht (hc i hi)⟩
theorem shapedT (os : Os) (args : Array Value) : ((World.laidAll Tryz.prog os Rows.fnTextThereRow.laid).forCall (fun _ _ => 0) ⟨#[], args, []⟩).Shaped Tryz.prog := World.shaped_of_ZipB (by kernel_rfl) (by kernel_rfl)
theorem metT (os : Os) (args : Array Value) : laidMet Tryz.prog Rows.fnTextThereRow.laid ((World.laidAll Tryz.prog os Rows.fnTextThereRow.laid).forCall (fun _ _ => 0) ⟨#[], args, []⟩).memory := laidMet_laidAll _ (by kernel_rfl) (by kernel_rfl)

theorem witness_textThere (os : Os) {H : Type} (enc : TypeId × Value → H) : ∃ (w : World) (tape : Tape) (i : Input), w.os = os ∧ (w.forCall tape i).Shaped Tryz.checked.prog ∧ i.vars = [] ∧ Input.okWide Tryz.checked.prog (w.forCall tape i) .any w.heap.size 6 i ∧
      (OpenSpec.ofChange Rows.fnTextThereSpec).preRow enc Tryz.checked.prog Tryz.f6 Rows.fnTextThereRow.domain false Rows.fnTextThereRow.laid (w.forCall tape i).memory i.args ∧ ({} : Assume).holds Tryz.checked.prog (lone (Frame.enter Tryz.checked.prog 6 i.args .normal) [] (w.forCall tape i)) :=
  ChangeSpec.witness_shaped (enc := enc) (C := Tryz.checked) (os := os) (X := fun w _ => laidMetH Tryz.prog Rows.fnTextThereRow.laid w) false (World.laidAll Tryz.prog os Rows.fnTextThereRow.laid) #[zeroShp] 16 (World.laidAll_os _ _ _)
      (shapedT os _) (by kernel_rfl) (by kernel_rfl) (by kernel_rfl)
      (by rw [MakeChecks.laidMetH_plain _ _ _ (by kernel_rfl)]; exact metT os _)
theorem textThere_lifted (os : Os) (started : os.Started) (H : Type) (enc : TypeId × Value → H) (F : Stop.Interp) :
    ReturnsInHanded {} Tryz.checked os 6 .any ((OpenSpec.ofChange Rows.fnTextThereSpec).preRow enc Tryz.prog Tryz.f6 Rows.fnTextThereRow.domain false Rows.fnTextThereRow.laid) (((OpenSpec.ofChange Rows.fnTextThereSpec).at F).post enc Tryz.prog Tryz.f6 false true false false) := by
  refine returnsInHanded_of_row (C := Tryz.checked) (s := OpenSpec.ofChange Rows.fnTextThereSpec) ownZ started (by kernel_rfl) Tryz.func6 (witness_textThere os enc) ?_
  intro W base args ds gs before hval0 hW _ _ hsz hL _ _
  have hval : ∀ (j : Nat) t v, Tryz.f6.params[j]? = some t → args[j]? = some v → Value.okWide Tryz.prog W .any base t v := hval0
  have hW' := hW
  have hblk := fun x (hx : x ∈ before) => hW'.lt x hx
  obtain ⟨p, q, hA0, hV0, hpq, _, _⟩ := hW
  have hA : DataW.TrodAll enc Tryz.prog W 0 (fun _ => true) true Tryz.f6.params.toList args.toList ds p := hA0
  have hV : DataW.TrodVars enc Tryz.prog W (fun _ => true) ["loop.example/pub-g01503/pub/orbwkt.ErrUnsupportedGeometry", "loop.example/pub-g01503/pub/orbwkt.ErrNotWKT"] gs q := hV0
  rw [Tryz.params6] at hA hval
  clear hA0 hval0
  obtain ⟨v0, d0, rfl, rfl, h0⟩ := trodAll_one hA
  obtain ⟨g1, g2, rfl⟩ := vars2 hV
  obtain ⟨dd, s, ha⟩ := arg_of (hval 0 25 v0 rfl rfl) h0 (fun b hb => by
    have h1 : (DataW.weightsEach Tryz.prog (Tryz.f6.params.toList ++ (OpenSpec.ofChange Rows.fnTextThereSpec).bare.plain.varTypes Tryz.prog) ([d0] ++ [g1, g2])).all (· ≤ reachBytes) = true := hsz
    rw [Tryz.params6] at h1
    have h2 := List.all_eq_true.1 h1 b (by
      show b ∈ DataW.weightsEach Tryz.prog (25 :: _) (d0 :: _)
      unfold DataW.weightsEach
      exact List.mem_append_left _ hb)
    simpa using h2)
  have hlt : ∀ x ∈ p, x.block < W.heap.size := fun x hx => by
    have := hblk x (by rw [hpq]; simp [hx])
    simpa using this
  have hL' : laidMet Tryz.prog Rows.fnTextThereRow.laid W := by
    have h1 : laidMetH Tryz.prog Rows.fnTextThereRow.laid W := hL
    rwa [MakeChecks.laidMetH_plain _ _ _ (by kernel_rfl)] at h1
  obtain ⟨G, hG, hE⟩ := env_ofT hL'
  refine (fnTextThere_calls G hG dd v0 s  W hE ha).mono ?_
  rintro e W' ⟨rfl, hb⟩
  have hb' : Below W.heap.size W W' := hb
  exact ⟨_, rfl, _, _, _, [], _, q, hW', trodAll_mk1 (shut_bool Tryz.underlying4 _), trodAll_mk1 (Below.trod laidOutZ (by kernel_rfl) (of_decide_eq_true (by kernel_rfl)) h0 hb' hlt), hb'.trodVars laidOutZ (by kernel_rfl) hV, hb'.frame _, fun h => by cases h⟩
end Go.Proofs.YtghajgdiaopioaaGreatDoor
