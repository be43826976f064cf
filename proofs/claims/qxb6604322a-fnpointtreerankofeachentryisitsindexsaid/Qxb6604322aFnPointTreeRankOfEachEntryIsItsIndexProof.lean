/-
  Seat b6604322a: the proof of the statement.
-/
import Derived.Test.Qxb6604322aOpen
namespace Go.Proofs.Qxb6604322a.fnPointTreeRankOfEachEntryIsItsIndex
open Go.ChangeShapes Go.WideShapes Go.ChangeAt Go.RowKit
set_option linter.unusedVariables false

theorem own : ownKnob Try.prog.godebug = none := by kernel_rfl
theorem laidOut : laidOutB Try.prog = true := by kernel_rfl
theorem cells26 : Try.prog.cellsOf 26 = 1 := by kernel_rfl
theorem cells21 : Try.prog.cellsOf 21 = 1 := by kernel_rfl
theorem cells29 : Try.prog.cellsOf 29 = 1 := by kernel_rfl
theorem cells3 : Try.prog.cellsOf 3 = 1 := by kernel_rfl
theorem cells27 : Try.prog.cellsOf 27 = 16 := by kernel_rfl
theorem cells28 : Try.prog.cellsOf 28 = 16 := by kernel_rfl
theorem cells30 : Try.prog.cellsOf 30 = 16 := by kernel_rfl
theorem cells31 : Try.prog.cellsOf 31 = 16 := by kernel_rfl
theorem cells32 : Try.prog.cellsOf 32 = 256 := by kernel_rfl
theorem cells33 : Try.prog.cellsOf 33 = 256 := by kernel_rfl

theorem okWide_arr {P : Program} {w : World} {r : Reach} {base : Nat} {t e : TypeId} {n : Nat} {v : Value} (ht : P.underlying t = some (.array n e)) (h : Value.okWide P w r base t v) : ∃ cs, v = .agg cs ∧ cs.size = P.cellsOf t := by
  simp only [Value.okWide, ht] at h
  obtain ⟨cs, h1, h2, _⟩ := h
  exact ⟨cs, h1, h2⟩

set_option maxRecDepth 100000 in
theorem lifted (os : Os) (started : os.Started) (H : Type) (enc : TypeId × Value → H) :
    ReturnsInHanded {} Try.checked os 6 .any (Rows.fnPointTreeRankOfEachEntryIsItsIndexSpec.pre6 enc Try.prog Try.f6 Rows.fnPointTreeRankOfEachEntryIsItsIndexRow.domain false) (Rows.fnPointTreeRankOfEachEntryIsItsIndexSpec.post enc Try.prog Try.f6 false true false false) := by
  refine returnsInHanded_of_change (C := Try.checked) own started (by kernel_rfl) Try.func6
    (ChangeSpec.witness6 (enc := enc) (C := Try.checked) false ⟨#[], #[.int .i64 0, .int .i64 0, .bool false, .agg (Array.replicate 16 (.int .u64 0)), .agg (Array.replicate 16 (.int .i32 0)), .agg (Array.replicate 16 (.slice none 0 0)), .agg (Array.replicate 16 (.int .i64 0)), .agg (Array.replicate 256 (.int .u64 0)), .agg (Array.replicate 256 (.slice none 0 0))], []⟩ 8 (by kernel_rfl) (by kernel_rfl) (by kernel_rfl) (by kernel_rfl)) ?_
  intro W base args ds gs before hval0 hW hcnd _
  have hval : ∀ (j : Nat) t v, Try.f6.params[j]? = some t → args[j]? = some v → Value.okWide Try.prog W .any base t v := hval0
  have hW' := hW
  obtain ⟨p, q, hA0, hV, rfl, hfz, hnd⟩ := hW
  have hA : DataW.TrodAll enc Try.prog W 0 (fun _ => true) true Try.f6.params.toList args.toList ds p := hA0
  rw [Try.params6] at hA hval
  obtain ⟨v0, vs0, d0, ds0, p0, q0, hargs, rfl, rfl, h0, r0⟩ := trodAll_cons hA
  obtain ⟨v1, vs1, d1, ds1, p1, q1, rfl, rfl, rfl, h1, r1⟩ := trodAll_cons r0
  obtain ⟨v2, vs2, d2, ds2, p2, q2, rfl, rfl, rfl, h2, r2⟩ := trodAll_cons r1
  obtain ⟨v3, vs3, d3, ds3, p3, q3, rfl, rfl, rfl, h3, r3⟩ := trodAll_cons r2
  obtain ⟨v4, vs4, d4, ds4, p4, q4, rfl, rfl, rfl, h4, r4⟩ := trodAll_cons r3
  obtain ⟨v5, vs5, d5, ds5, p5, q5, rfl, rfl, rfl, h5, r5⟩ := trodAll_cons r4
  obtain ⟨v6, vs6, d6, ds6, p6, q6, rfl, rfl, rfl, h6, r6⟩ := trodAll_cons r5
  obtain ⟨v7, vs7, d7, ds7, p7, q7, rfl, rfl, rfl, h7, r7⟩ := trodAll_cons r6
  obtain ⟨v8, vs8, d8, ds8, p8, q8, rfl, rfl, rfl, h8, r8⟩ := trodAll_cons r7
  obtain ⟨rfl, rfl, rfl⟩ := trodAll_nil r8
  obtain rfl : args = #[v0, v1, v2, v3, v4, v5, v6, v7, v8] := by cases args; simp_all
  obtain ⟨rfl, rfl⟩ := trodVars_none hV
  obtain ⟨a0, rfl, rfl, rfl, w0⟩ := open_int Try.underlying3 (hval 0 3 v0 rfl rfl) h0
  obtain ⟨a1, rfl, rfl, rfl, w1⟩ := open_int Try.underlying3 (hval 1 3 v1 rfl rfl) h1
  obtain ⟨a2, rfl, rfl, rfl⟩ := open_bool Try.underlying4 (hval 2 4 v2 rfl rfl) h2
  obtain ⟨c27, rfl, s27⟩ := okWide_arr Try.underlying27 (hval 3 27 v3 rfl rfl)
  obtain ⟨c28, rfl, s28⟩ := okWide_arr Try.underlying28 (hval 4 28 v4 rfl rfl)
  obtain ⟨c30, rfl, s30⟩ := okWide_arr Try.underlying30 (hval 5 30 v5 rfl rfl)
  obtain ⟨c31, rfl, s31⟩ := okWide_arr Try.underlying31 (hval 6 31 v6 rfl rfl)
  obtain ⟨c32, rfl, s32⟩ := okWide_arr Try.underlying32 (hval 7 32 v7 rfl rfl)
  obtain ⟨c33, rfl, s33⟩ := okWide_arr Try.underlying33 (hval 8 33 v8 rfl rfl)
  have lt3 : ∀ x ∈ p3, x.block < W.heap.size := by obtain ⟨m, hm⟩ := h3; exact DataW.trod_lt m _ _ _ hm
  have lt4 : ∀ x ∈ p4, x.block < W.heap.size := by obtain ⟨m, hm⟩ := h4; exact DataW.trod_lt m _ _ _ hm
  have lt5 : ∀ x ∈ p5, x.block < W.heap.size := by obtain ⟨m, hm⟩ := h5; exact DataW.trod_lt m _ _ _ hm
  have lt6 : ∀ x ∈ p6, x.block < W.heap.size := by obtain ⟨m, hm⟩ := h6; exact DataW.trod_lt m _ _ _ hm
  have lt7 : ∀ x ∈ p7, x.block < W.heap.size := by obtain ⟨m, hm⟩ := h7; exact DataW.trod_lt m _ _ _ hm
  have lt8 : ∀ x ∈ p8, x.block < W.heap.size := by obtain ⟨m, hm⟩ := h8; exact DataW.trod_lt m _ _ _ hm
  have o27 : ∀ i, i < 16 → ∃ z, c27.toList[i]? = some (.int .u64 z) ∧ (Lit.int .u64 z).wf = true := by obtain ⟨m, hm⟩ := h3; exact arr_int Try.underlying27 Try.underlying26 cells26 hm
  have o28 : ∀ i, i < 16 → ∃ z, c28.toList[i]? = some (.int .i32 z) ∧ (Lit.int .i32 z).wf = true := by obtain ⟨m, hm⟩ := h4; exact arr_int Try.underlying28 Try.underlying21 cells21 hm
  have o30 : ∀ i, i < 16 → SlOk W c30.toList[i]? := by obtain ⟨m, hm⟩ := h5; exact arr_sl Try.underlying30 Try.underlying29 Try.underlying26 cells29 cells26 hm
  have o31 : ∀ i, i < 16 → ∃ z, c31.toList[i]? = some (.int .i64 z) ∧ (Lit.int .i64 z).wf = true := by obtain ⟨m, hm⟩ := h6; exact arr_int Try.underlying31 Try.underlying3 cells3 hm
  have o32 : ∀ i j, i < 16 → j < 16 → ∃ z, c32.toList[i * 16 + j]? = some (.int .u64 z) ∧ (Lit.int .u64 z).wf = true := by obtain ⟨m, hm⟩ := h7; exact arr2_int Try.underlying32 Try.underlying27 Try.underlying26 cells27 cells26 hm
  have o33 : ∀ i j, i < 16 → j < 16 → SlOk W c33.toList[i * 16 + j]? := by obtain ⟨m, hm⟩ := h8; exact arr2_sl Try.underlying33 Try.underlying30 Try.underlying29 Try.underlying26 cells30 cells29 cells26 hm
  clear hA0 hval0
  refine (walk a0 a1 a2 c27 c28 c30 c31 c32 c33 W (s27.trans cells27) (s28.trans cells28) (s30.trans cells30) (s31.trans cells31) (s32.trans cells32) (s33.trans cells33) o27 o28 o30 o31 o32 o33).mono fun e W' ⟨he, bel⟩ => ?_
  subst he
  exact ⟨_, rfl, _, _, _, [], _, [], hW', trodAll_mk1 (shut_bool Try.underlying4 _), (trodAll_cons_mk (shut_int Try.underlying3 w0) (trodAll_cons_mk (shut_int Try.underlying3 w1) (trodAll_cons_mk (shut_bool Try.underlying4 _)
    (trodAll_cons_mk (Below.trod laidOut (by kernel_rfl) (of_decide_eq_true (by kernel_rfl)) h3 bel lt3) (trodAll_cons_mk (Below.trod laidOut (by kernel_rfl) (of_decide_eq_true (by kernel_rfl)) h4 bel lt4) (trodAll_cons_mk (Below.trod laidOut (by kernel_rfl) (of_decide_eq_true (by kernel_rfl)) h5 bel lt5)
    (trodAll_cons_mk (Below.trod laidOut (by kernel_rfl) (of_decide_eq_true (by kernel_rfl)) h6 bel lt6) (trodAll_cons_mk (Below.trod laidOut (by kernel_rfl) (of_decide_eq_true (by kernel_rfl)) h7 bel lt7) (trodAll_cons_mk (Below.trod laidOut (by kernel_rfl) (of_decide_eq_true (by kernel_rfl)) h8 bel lt8) trodAll_mk0))))))))), rfl, bel.frame _, fun h => by cases h⟩

theorem over : Rows.fnPointTreeRankOfEachEntryIsItsIndexRow.holds Try.pinned (OpenSpec.ofChange Rows.fnPointTreeRankOfEachEntryIsItsIndexSpec) :=
  OpenClaim.holds_of_wide 6 Try.f6 rfl rfl rfl rfl rfl rfl rfl ⟨rfl, rfl, rfl, rfl, rfl⟩ rfl rfl rfl rfl rfl (by kernel_rfl) Try.func6 (by kernel_rfl)
    (of_decide_eq_true (by kernel_rfl)) (by unfold Func.isWrapper; first | (rw [if_pos (by decide +kernel)]; kernel_rfl) | (rw [if_neg (by decide +kernel)]; exact ⟨rfl, rfl⟩))
    (fun os started H enc _ => lifted os started H enc)

/-- THE STATEMENT -/
theorem proved : Rows.FnPointTreeRankOfEachEntryIsItsIndexSaid := over
end Go.Proofs.Qxb6604322a.fnPointTreeRankOfEachEntryIsItsIndex
