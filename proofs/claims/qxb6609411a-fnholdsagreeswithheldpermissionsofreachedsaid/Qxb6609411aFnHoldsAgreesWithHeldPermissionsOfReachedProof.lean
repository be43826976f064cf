/-
  Seat b6609411a: the proof of the statement.
-/
import Derived.Test.Qxb6609411aLaw8
import Derived.Test.Qxb6609411aOpen
namespace Go.Proofs.Qxb6609411a.fnHoldsAgreesWithHeldPermissionsOfReached
open Go.ChangeShapes Go.WideShapes Go.ChangeAt Go.RowKit
set_option linter.unusedVariables false

theorem own : ownKnob Try.prog.godebug = none := by kernel_rfl
theorem laidOut : laidOutB Try.prog = true := by kernel_rfl
theorem cells3 : Try.prog.cellsOf 3 = 1 := by kernel_rfl
theorem cells9 : Try.prog.cellsOf 9 = 1 := by kernel_rfl

set_option maxRecDepth 100000 in
theorem lifted (os : Os) (started : os.Started) (H : Type) (enc : TypeId × Value → H) :
    ReturnsInHanded {} Try.checked os 8 .any (Rows.fnHoldsAgreesWithHeldPermissionsOfReachedSpec.pre6 enc Try.prog Try.f8 Rows.fnHoldsAgreesWithHeldPermissionsOfReachedRow.domain false) (Rows.fnHoldsAgreesWithHeldPermissionsOfReachedSpec.post enc Try.prog Try.f8 false true false false) := by
  refine returnsInHanded_of_change (C := Try.checked) own started (by kernel_rfl) Try.func8
    (ChangeSpec.witness6 (enc := enc) (C := Try.checked) false ⟨#[], #[.int .i64 0, .slice none 0 0, .slice none 0 0, .slice none 0 0, .slice none 0 0, .slice none 0 0, .slice none 0 0, .string ⟨#[]⟩, .string ⟨#[]⟩], []⟩ 8 (by kernel_rfl) (by kernel_rfl) (by kernel_rfl) (by kernel_rfl)) ?_
  intro W base args ds gs before hval0 hW hcnd _
  have hval : ∀ (j : Nat) t v, Try.f8.params[j]? = some t → args[j]? = some v → Value.okWide Try.prog W .any base t v := hval0
  have hW' := hW
  obtain ⟨p, q, hA0, hV, rfl, hfz, hnd⟩ := hW
  have hA : DataW.TrodAll enc Try.prog W 0 (fun _ => true) true Try.f8.params.toList args.toList ds p := hA0
  rw [Try.params8] at hA hval
  obtain ⟨v0, vs0, d0, ds0, p0, q0, hargs, rfl, rfl, h0, r0⟩ := trodAll_cons hA
  obtain ⟨v1, vs1, d1, ds1, p1, q1, rfl, rfl, rfl, h1, r1⟩ := trodAll_cons r0
  obtain ⟨v2, vs2, d2, ds2, p2, q2, rfl, rfl, rfl, h2, r2⟩ := trodAll_cons r1
  obtain ⟨v3, vs3, d3, ds3, p3, q3, rfl, rfl, rfl, h3, r3⟩ := trodAll_cons r2
  obtain ⟨v4, vs4, d4, ds4, p4, q4, rfl, rfl, rfl, h4, r4⟩ := trodAll_cons r3
  obtain ⟨v5, vs5, d5, ds5, p5, q5, rfl, rfl, rfl, h5, r5⟩ := trodAll_cons r4
  obtain ⟨v6, vs6, d6, ds6, p6, q6, rfl, rfl, rfl, h6, r6⟩ := trodAll_cons r5
  obtain ⟨v7, vs7, d7, ds7, p7, q7, rfl, rfl, rfl, h7, r7⟩ := trodAll_cons r6
  obtain ⟨v8, vs8, d8, ds8, p8, q8, rfl, rfl, rfl, h8, r8⟩ := trodAll_cons r7
  obtain ⟨rfl, rfl, rfl⟩ := trodAll_nil r8
  obtain rfl : args = #[v0, v1, v2, v3, v4, v5, v6, v7, v8] := by cases args; simp_all
  obtain ⟨rfl, rfl⟩ := trodVars_none hV
  obtain ⟨n, rfl, rfl, rfl, w0⟩ := open_int Try.underlying3 (hval 0 3 v0 rfl rfl) h0
  obtain ⟨x1, y1, z1, rfl⟩ := okWide_slice Try.underlying24 (hval 1 24 _ rfl rfl)
  obtain ⟨x2, y2, z2, rfl⟩ := okWide_slice Try.underlying24 (hval 2 24 _ rfl rfl)
  obtain ⟨x3, y3, z3, rfl⟩ := okWide_slice Try.underlying24 (hval 3 24 _ rfl rfl)
  obtain ⟨x4, y4, z4, rfl⟩ := okWide_slice Try.underlying37 (hval 4 37 _ rfl rfl)
  obtain ⟨x5, y5, z5, rfl⟩ := okWide_slice Try.underlying37 (hval 5 37 _ rfl rfl)
  obtain ⟨x6, y6, z6, rfl⟩ := okWide_slice Try.underlying24 (hval 6 24 _ rfl rfl)
  obtain ⟨s7, rfl, rfl, rfl, w7⟩ := ChangeMaps.open_string Try.underlying9 (hval 7 9 v7 rfl rfl) h7
  obtain ⟨s8, rfl, rfl, rfl, w8⟩ := ChangeMaps.open_string Try.underlying9 (hval 8 9 v8 rfl rfl) h8
  have lt1 : ∀ x ∈ p1, x.block < W.heap.size := by obtain ⟨m, hm⟩ := h1; exact DataW.trod_lt m _ _ _ hm
  have lt2 : ∀ x ∈ p2, x.block < W.heap.size := by obtain ⟨m, hm⟩ := h2; exact DataW.trod_lt m _ _ _ hm
  have lt3 : ∀ x ∈ p3, x.block < W.heap.size := by obtain ⟨m, hm⟩ := h3; exact DataW.trod_lt m _ _ _ hm
  have lt4 : ∀ x ∈ p4, x.block < W.heap.size := by obtain ⟨m, hm⟩ := h4; exact DataW.trod_lt m _ _ _ hm
  have lt5 : ∀ x ∈ p5, x.block < W.heap.size := by obtain ⟨m, hm⟩ := h5; exact DataW.trod_lt m _ _ _ hm
  have lt6 : ∀ x ∈ p6, x.block < W.heap.size := by obtain ⟨m, hm⟩ := h6; exact DataW.trod_lt m _ _ _ hm
  have o1 : ∃ (a : Option Addr) (n c : Nat) (X : Nat → Int), Value.slice x1 y1 z1 = .slice a n c ∧ IsA encI W a n X ∧ n ≤ 9223372036854775807 := by obtain ⟨m, hm⟩ := h1; exact s_int Try.underlying24 Try.underlying3 cells3 hm
  have o2 : ∃ (a : Option Addr) (n c : Nat) (X : Nat → Int), Value.slice x2 y2 z2 = .slice a n c ∧ IsA encI W a n X ∧ n ≤ 9223372036854775807 := by obtain ⟨m, hm⟩ := h2; exact s_int Try.underlying24 Try.underlying3 cells3 hm
  have o3 : ∃ (a : Option Addr) (n c : Nat) (X : Nat → Int), Value.slice x3 y3 z3 = .slice a n c ∧ IsA encI W a n X ∧ n ≤ 9223372036854775807 := by obtain ⟨m, hm⟩ := h3; exact s_int Try.underlying24 Try.underlying3 cells3 hm
  have o4 : ∃ (a : Option Addr) (n c : Nat) (X : Nat → ByteArray), Value.slice x4 y4 z4 = .slice a n c ∧ IsA encS W a n X ∧ n ≤ 9223372036854775807 ∧ ∀ i, i < n → (X i).size ≤ 9223372036854775807 := by obtain ⟨m, hm⟩ := h4; exact s_str Try.underlying37 Try.underlying9 cells9 hm
  have o5 : ∃ (a : Option Addr) (n c : Nat) (X : Nat → ByteArray), Value.slice x5 y5 z5 = .slice a n c ∧ IsA encS W a n X ∧ n ≤ 9223372036854775807 ∧ ∀ i, i < n → (X i).size ≤ 9223372036854775807 := by obtain ⟨m, hm⟩ := h5; exact s_str Try.underlying37 Try.underlying9 cells9 hm
  have o6 : ∃ (a : Option Addr) (n c : Nat) (X : Nat → Int), Value.slice x6 y6 z6 = .slice a n c ∧ IsA encI W a n X ∧ n ≤ 9223372036854775807 := by obtain ⟨m, hm⟩ := h6; exact s_int Try.underlying24 Try.underlying3 cells3 hm
  obtain ⟨a1, n1, c1, X1, hh1, k1, m1⟩ := o1
  cases hh1
  obtain ⟨a2, n2, c2, X2, hh2, k2, m2⟩ := o2
  cases hh2
  obtain ⟨a3, n3, c3, X3, hh3, k3, m3⟩ := o3
  cases hh3
  obtain ⟨a4, n4, c4, X4, hh4, k4, m4, b4⟩ := o4
  cases hh4
  obtain ⟨a5, n5, c5, X5, hh5, k5, m5, b5⟩ := o5
  cases hh5
  obtain ⟨a6, n6, c6, X6, hh6, k6, m6⟩ := o6
  cases hh6
  clear hA0 hval0
  refine (law8_any n x1 x2 x3 x4 x5 x6 y1 z1 y2 z2 y3 z3 y4 z4 y5 z5 y6 z6 X1 X2 X3 X6 X4 X5 s7 s8 W k1 k2 k3 k4 k5 k6 m1 m2 m3 m4 m5 m6 (maxLen_le w7) (maxLen_le w8) b4 b5).mono fun e W' ⟨he, bel⟩ => ?_
  subst he
  exact ⟨_, rfl, _, _, _, [], _, [], hW', trodAll_mk1 (shut_bool Try.underlying4 _), (trodAll_cons_mk (shut_int Try.underlying3 w0) (trodAll_cons_mk (Below.trod laidOut (by kernel_rfl) (of_decide_eq_true (by kernel_rfl)) h1 bel lt1) (trodAll_cons_mk (Below.trod laidOut (by kernel_rfl) (of_decide_eq_true (by kernel_rfl)) h2 bel lt2) (trodAll_cons_mk (Below.trod laidOut (by kernel_rfl) (of_decide_eq_true (by kernel_rfl)) h3 bel lt3) (trodAll_cons_mk (Below.trod laidOut (by kernel_rfl) (of_decide_eq_true (by kernel_rfl)) h4 bel lt4) (trodAll_cons_mk (Below.trod laidOut (by kernel_rfl) (of_decide_eq_true (by kernel_rfl)) h5 bel lt5) (trodAll_cons_mk (Below.trod laidOut (by kernel_rfl) (of_decide_eq_true (by kernel_rfl)) h6 bel lt6) (trodAll_cons_mk (ChangeMaps.shut_string Try.underlying9 w7) (trodAll_cons_mk (ChangeMaps.shut_string Try.underlying9 w8) trodAll_mk0))))))))), rfl, bel.frame _, fun h => by cases h⟩

theorem over : Rows.fnHoldsAgreesWithHeldPermissionsOfReachedRow.holds Try.pinned (OpenSpec.ofChange Rows.fnHoldsAgreesWithHeldPermissionsOfReachedSpec) :=
  OpenClaim.holds_of_wide 8 Try.f8 rfl rfl rfl rfl rfl rfl rfl ⟨rfl, rfl, rfl, rfl, rfl⟩ rfl rfl rfl rfl rfl (by kernel_rfl) Try.func8 (by kernel_rfl)
    (of_decide_eq_true (by kernel_rfl)) (by unfold Func.isWrapper; first | (rw [if_pos (by decide +kernel)]; kernel_rfl) | (rw [if_neg (by decide +kernel)]; exact ⟨rfl, rfl⟩))
    (fun os started H enc _ => lifted os started H enc)

/-- THE STATEMENT -/
theorem proved : Rows.FnHoldsAgreesWithHeldPermissionsOfReachedSaid := over
end Go.Proofs.Qxb6609411a.fnHoldsAgreesWithHeldPermissionsOfReached
