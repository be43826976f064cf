/-
  Seat b6613151a: the proof of the statement.
-/
import Derived.Test.Qxb6613151aLaw
import Derived.Test.Qxb6613151aOpen
namespace Go.Proofs.Qxb6613151a.fnGroupOrderDuplicateFollows
open Go.ChangeShapes Go.WideShapes Go.ChangeAt Go.RowKit
set_option linter.unusedVariables false

theorem own : ownKnob Try.prog.godebug = none := by kernel_rfl
theorem laidOut : laidOutB Try.prog = true := by kernel_rfl
theorem cells32 : Try.prog.cellsOf 32 = 1 := by kernel_rfl
theorem cells33 : Try.prog.cellsOf 33 = 1 := by kernel_rfl
theorem cells23 : Try.prog.cellsOf 23 = 1 := by kernel_rfl
theorem cells2 : Try.prog.cellsOf 2 = 1 := by kernel_rfl
theorem cells3 : Try.prog.cellsOf 3 = 1 := by kernel_rfl
theorem cells4 : Try.prog.cellsOf 4 = 1 := by kernel_rfl

set_option maxRecDepth 100000 in
theorem lifted (os : Os) (started : os.Started) (H : Type) (enc : TypeId × Value → H) :
    ReturnsInHanded {} Try.checked os 3 .any (Rows.fnGroupOrderDuplicateFollowsSpec.pre6 enc Try.prog Try.f3 Rows.fnGroupOrderDuplicateFollowsRow.domain false) (Rows.fnGroupOrderDuplicateFollowsSpec.post enc Try.prog Try.f3 false true false false) := by
  refine returnsInHanded_of_change (C := Try.checked) own started (by kernel_rfl) Try.func3
    (ChangeSpec.witness6 (enc := enc) (C := Try.checked) false ⟨#[], #[.slice none 0 0, .slice none 0 0, .slice none 0 0, .slice none 0 0, .slice none 0 0, .int .i64 0], []⟩ 8 (by kernel_rfl) (by kernel_rfl) (by kernel_rfl) (by kernel_rfl)) ?_
  intro W base args ds gs before hval0 hW hcnd _
  have hval : ∀ (j : Nat) t v, Try.f3.params[j]? = some t → args[j]? = some v → Value.okWide Try.prog W .any base t v := hval0
  have hW' := hW
  obtain ⟨p, q, hA0, hV, rfl, hfz, hnd⟩ := hW
  have hA : DataW.TrodAll enc Try.prog W 0 (fun _ => true) true Try.f3.params.toList args.toList ds p := hA0
  rw [Try.params3] at hA hval
  obtain ⟨v0, vs0, d0, ds0, p0, q0, hargs, rfl, rfl, h0, r0⟩ := trodAll_cons hA
  obtain ⟨v1, vs1, d1, ds1, p1, q1, rfl, rfl, rfl, h1, r1⟩ := trodAll_cons r0
  obtain ⟨v2, vs2, d2, ds2, p2, q2, rfl, rfl, rfl, h2, r2⟩ := trodAll_cons r1
  obtain ⟨v3, vs3, d3, ds3, p3, q3, rfl, rfl, rfl, h3, r3⟩ := trodAll_cons r2
  obtain ⟨v4, vs4, d4, ds4, p4, q4, rfl, rfl, rfl, h4, r4⟩ := trodAll_cons r3
  obtain ⟨v5, vs5, d5, ds5, p5, q5, rfl, rfl, rfl, h5, r5⟩ := trodAll_cons r4
  obtain ⟨rfl, rfl, rfl⟩ := trodAll_nil r5
  obtain rfl : args = #[v0, v1, v2, v3, v4, v5] := by cases args; simp_all
  obtain ⟨rfl, rfl⟩ := trodVars_none hV
  obtain ⟨g, rfl, rfl, rfl, w5⟩ := open_int Try.underlying3 (hval 5 3 v5 rfl rfl) h5
  obtain ⟨x0, y0, z0, rfl⟩ := okWide_slice Try.underlying22 (hval 0 22 _ rfl rfl)
  obtain ⟨x1, y1, z1, rfl⟩ := okWide_slice Try.underlying23 (hval 1 23 _ rfl rfl)
  obtain ⟨x2, y2, z2, rfl⟩ := okWide_slice Try.underlying22 (hval 2 22 _ rfl rfl)
  obtain ⟨x3, y3, z3, rfl⟩ := okWide_slice Try.underlying24 (hval 3 24 _ rfl rfl)
  obtain ⟨x4, y4, z4, rfl⟩ := okWide_slice Try.underlying25 (hval 4 25 _ rfl rfl)
  have lt0 : ∀ x ∈ p0, x.block < W.heap.size := by obtain ⟨m, hm⟩ := h0; exact DataW.trod_lt m _ _ _ hm
  have lt1 : ∀ x ∈ p1, x.block < W.heap.size := by obtain ⟨m, hm⟩ := h1; exact DataW.trod_lt m _ _ _ hm
  have lt2 : ∀ x ∈ p2, x.block < W.heap.size := by obtain ⟨m, hm⟩ := h2; exact DataW.trod_lt m _ _ _ hm
  have lt3 : ∀ x ∈ p3, x.block < W.heap.size := by obtain ⟨m, hm⟩ := h3; exact DataW.trod_lt m _ _ _ hm
  have lt4 : ∀ x ∈ p4, x.block < W.heap.size := by obtain ⟨m, hm⟩ := h4; exact DataW.trod_lt m _ _ _ hm
  have o0 : SSArg encI W (.slice x0 y0 z0) (fun z => z < 9223372036854775808) := by obtain ⟨m, hm⟩ := h0; exact ss_int Try.underlying22 Try.underlying32 Try.underlying2 cells32 cells2 hm
  have o1 : ∃ (a : Option Addr) (n c : Nat) (X : Nat → Int), Value.slice x1 y1 z1 = .slice a n c ∧ IsA encI W a n X ∧ n ≤ 9223372036854775807 := by obtain ⟨m, hm⟩ := h1; exact s_int Try.underlying23 Try.underlying3 cells3 hm
  have o2 : SSArg encI W (.slice x2 y2 z2) (fun z => z < 9223372036854775808) := by obtain ⟨m, hm⟩ := h2; exact ss_int Try.underlying22 Try.underlying32 Try.underlying2 cells32 cells2 hm
  have o3 : SSArg encB W (.slice x3 y3 z3) (fun _ => True) := by obtain ⟨m, hm⟩ := h3; exact ss_bool Try.underlying24 Try.underlying33 Try.underlying4 cells33 cells4 hm
  have o4 : SSArg encI W (.slice x4 y4 z4) (fun z => z < 9223372036854775808) := by obtain ⟨m, hm⟩ := h4; exact ss_int Try.underlying25 Try.underlying23 Try.underlying3 cells23 cells3 hm
  obtain ⟨ac, nR, cc, NC, C, hh0, sC, m0, mC, cin⟩ := o0
  obtain ⟨al, nL, cl, L, hh1, sL, m1⟩ := o1
  obtain ⟨ar, n, cr, NQ, Q, hh2, sQ, m2, mQ, _⟩ := o2
  obtain ⟨ao, nO, co, NO, O, hh3, sO, m3, mO, _⟩ := o3
  obtain ⟨aa, nA, ca, NA, A, hh4, sA, m4, mA, _⟩ := o4
  cases hh0
  cases hh1
  cases hh2
  cases hh3
  cases hh4
  clear hA0 hval0
  refine (law_any x0 x1 x2 x3 x4 z0 y1 z1 z2 y3 z3 y4 z4 ⟨y0, NC, C, L, y2, NQ, Q, NO, O, NA, A⟩ g W sC sL sQ sO sA m0 m1 m2 m3 m4 mC mQ mO mA cin).mono fun e W' ⟨he, bel⟩ => ?_
  subst he
  exact ⟨_, rfl, _, _, _, [], _, [], hW', trodAll_mk1 (shut_bool Try.underlying4 _), (trodAll_cons_mk (Below.trod laidOut (by kernel_rfl) (of_decide_eq_true (by kernel_rfl)) h0 bel lt0) (trodAll_cons_mk (Below.trod laidOut (by kernel_rfl) (of_decide_eq_true (by kernel_rfl)) h1 bel lt1) (trodAll_cons_mk (Below.trod laidOut (by kernel_rfl) (of_decide_eq_true (by kernel_rfl)) h2 bel lt2)
    (trodAll_cons_mk (Below.trod laidOut (by kernel_rfl) (of_decide_eq_true (by kernel_rfl)) h3 bel lt3) (trodAll_cons_mk (Below.trod laidOut (by kernel_rfl) (of_decide_eq_true (by kernel_rfl)) h4 bel lt4) (trodAll_cons_mk (shut_int Try.underlying3 w5) trodAll_mk0)))))), rfl, bel.frame _, fun h => by cases h⟩

theorem over : Rows.fnGroupOrderDuplicateFollowsRow.holds Try.pinned (OpenSpec.ofChange Rows.fnGroupOrderDuplicateFollowsSpec) :=
  OpenClaim.holds_of_wide 3 Try.f3 rfl rfl rfl rfl rfl rfl rfl ⟨rfl, rfl, rfl, rfl, rfl⟩ rfl rfl rfl rfl rfl (by kernel_rfl) Try.func3 (by kernel_rfl)
    (of_decide_eq_true (by kernel_rfl)) (by unfold Func.isWrapper; first | (rw [if_pos (by decide +kernel)]; kernel_rfl) | (rw [if_neg (by decide +kernel)]; exact ⟨rfl, rfl⟩))
    (fun os started H enc _ => lifted os started H enc)

/-- THE STATEMENT -/
theorem proved : Rows.FnGroupOrderDuplicateFollowsSaid := over
end Go.Proofs.Qxb6613151a.fnGroupOrderDuplicateFollows
