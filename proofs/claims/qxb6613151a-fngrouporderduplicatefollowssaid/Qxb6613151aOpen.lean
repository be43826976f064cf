/-
  Seat b6613151a: the arguments opened: slices of slices.
-/
import Derived.Test.Qxb6613151aBuild
import Derived.Deep.Matrix
import Derived.Deep.Grids
namespace Go.Proofs.Qxb6613151a
open Go.ChangeShapes Go.WideShapes Go.ChangeAt Go.RowKit
set_option linter.unusedVariables false

theorem isA_of {β : Type} {enc : β → Value} {w : World} {A : Option Addr} {L C : Nat} {X : Nat → β} (hl : L ≤ C) (h0 : A = none → C = 0) (h1 : ∀ a, A = some a → ∀ c, c < C → w.cell? (a.add c) = some (enc (X c))) : IsA enc w A L X := by
  by_cases e : L = 0
  · exact .inl e
  · cases A with
    | none => exact absurd (h0 rfl) (by omega)
    | some a =>
      have hc := h1 a rfl
      have hc0 := hc 0 (by omega)
      obtain ⟨b, off, spot⟩ := a
      have hspot : spot = none := by simpa [Addr.add] using World.cell?_spot hc0
      subst hspot
      refine .inr ⟨b, off, rfl, ?_, fun i hi => ?_⟩
      · have := World.block_lt_of_cell? w _ hc0
        rwa [Addr.add_mid] at this
      · rw [← Addr.add_mid]
        exact hc i (by omega)

theorem isSS_of {β : Type} {enc : β → Value} {w : World} {a : Addr} {len cap : Nat} {A : Nat → Option Addr} {L C : Nat → Nat} {X : Nat → Nat → β} (hl : len ≤ cap) (h : ∀ r, r < cap → w.cell? (a.add r) = some (.slice (A r) (L r) (C r)) ∧ IsA enc w (A r) (L r) (X r)) : IsSS enc w (some a) len L X := by
  by_cases e : len = 0
  · exact .inl e
  · have hc0 := (h 0 (by omega)).1
    obtain ⟨b, off, spot⟩ := a
    have hspot : spot = none := by simpa [Addr.add] using World.cell?_spot hc0
    subst hspot
    refine .inr ⟨b, off, rfl, ?_, fun i hi => ?_⟩
    · have := World.block_lt_of_cell? w _ hc0
      rwa [Addr.add_mid] at this
    · rw [← Addr.add_mid]
      exact ⟨_, _, h i (by omega)⟩

theorem maxLen_le {n : Nat} (h : n ≤ maxLen) : n ≤ 9223372036854775807 := by
  unfold maxLen at h
  omega

section
variable {H : Type} {enc : TypeId × Value → H} {P : Program} {w : World} {base : Nat} {held : Bool} {fuel : Nat} {t e q : TypeId} {v : Value} {x : DataW H × List MemPlace}

def SSArg {β : Type} (enc : β → Value) (w : World) (v : Value) (I : β → Prop) : Prop :=
  ∃ (a : Option Addr) (n c : Nat) (N : Nat → Nat) (X : Nat → Nat → β), v = .slice a n c ∧ IsSS enc w a n N X ∧ n ≤ 9223372036854775807 ∧ (∀ i, i < n → N i ≤ 9223372036854775807) ∧ ∀ i j, i < n → j < N i → I (X i j)

theorem ss_int (ht : P.underlying t = some (.slice e)) (he : P.underlying e = some (.slice q)) (hq : P.underlying q = some (.int .i64)) (ce : P.cellsOf e = 1) (cq : P.cellsOf q = 1)
    (h : DataW.trod enc P w base (fun _ => true) held fuel t [v] = some x) : SSArg encI w v (fun z => z < 9223372036854775808) := by
  rcases Go.Deep.open_int_rows ht he hq ce cq h with ⟨h0, _⟩ | ⟨a, len, cap, A, L, C, Z, h0, _, hl, hm, _, hx⟩
  · simp only [List.cons.injEq, and_true] at h0
    exact ⟨none, 0, 0, fun _ => 0, fun _ _ => 0, h0, .inl rfl, by omega, fun i hi => absurd hi (Nat.not_lt_zero _), fun i j hi => absurd hi (Nat.not_lt_zero _)⟩
  · simp only [List.cons.injEq, and_true] at h0
    refine ⟨some a, len, cap, L, fun r c => (Z r).getD c 0, h0, isSS_of hl fun r hr => ⟨(hx r hr).1, ?_⟩, maxLen_le (Nat.le_trans hl hm), fun i hi => ?_, fun i j hi hj => ?_⟩
    · obtain ⟨_, k1, _, _, _, k5, k6⟩ := hx r hr
      exact isA_of k1 k5 (fun a' ha c hc => (k6 a' ha).2 c hc)
    · obtain ⟨_, k1, k2, _⟩ := hx i (by omega)
      exact maxLen_le (Nat.le_trans k1 k2)
    · obtain ⟨_, k1, k2, k3, k4, _⟩ := hx i (by omega)
      have hmem : (Z i).getD j 0 ∈ Z i := by
        rw [List.getD_eq_getElem?_getD, List.getElem?_eq_getElem (by omega)]
        exact List.getElem_mem _
      have hwf := k4 _ hmem
      show (Z i).getD j 0 < 9223372036854775808
      generalize (Z i).getD j 0 = z at hwf ⊢
      simp [Lit.wf, IntKind.min, IntKind.max, IntKind.signed, IntKind.bits] at hwf
      omega

theorem ss_bool (ht : P.underlying t = some (.slice e)) (he : P.underlying e = some (.slice q)) (hq : P.underlying q = some .bool) (ce : P.cellsOf e = 1) (cq : P.cellsOf q = 1)
    (h : DataW.trod enc P w base (fun _ => true) held fuel t [v] = some x) : SSArg encB w v (fun _ => True) := by
  rcases Go.Deep.open_bool_rows ht he hq ce cq h with ⟨h0, _⟩ | ⟨a, len, cap, A, L, C, Z, h0, _, hl, hm, _, hx⟩
  · simp only [List.cons.injEq, and_true] at h0
    exact ⟨none, 0, 0, fun _ => 0, fun _ _ => false, h0, .inl rfl, by omega, fun i hi => absurd hi (Nat.not_lt_zero _), fun i j hi => absurd hi (Nat.not_lt_zero _)⟩
  · simp only [List.cons.injEq, and_true] at h0
    refine ⟨some a, len, cap, L, Z, h0, isSS_of hl fun r hr => ⟨(hx r hr).1, ?_⟩, maxLen_le (Nat.le_trans hl hm), fun i hi => ?_, fun i j hi hj => trivial⟩
    · obtain ⟨_, k1, _, k5, k6⟩ := hx r hr
      exact isA_of k1 k5 (fun a' ha c hc => (k6 a' ha).2 c hc)
    · obtain ⟨_, k1, k2, _⟩ := hx i (by omega)
      exact maxLen_le (Nat.le_trans k1 k2)

theorem s_int (ht : P.underlying t = some (.slice e)) (he : P.underlying e = some (.int .i64)) (ce : P.cellsOf e = 1) (h : DataW.trod enc P w base (fun _ => true) held fuel t [v] = some x) :
    ∃ (a : Option Addr) (n c : Nat) (X : Nat → Int), v = .slice a n c ∧ IsA encI w a n X ∧ n ≤ 9223372036854775807 := by
  rcases open_ints ht he ce h with ⟨h0, _⟩ | ⟨a, n, c, zs, h0, _, hl, hm, hz, _, hcell, _⟩
  · simp only [List.cons.injEq, and_true] at h0
    exact ⟨none, 0, 0, fun _ => 0, h0, .inl rfl, by omega⟩
  · simp only [List.cons.injEq, and_true] at h0
    have hz' : zs.length = c := by simpa using hz
    exact ⟨some a, n, c, fun i => zs.getD i 0, h0, isA_of hl (fun h => by cases h) (fun a' ha c hc => by cases ha; exact hcell c (by omega)), maxLen_le (Nat.le_trans hl hm)⟩
end
end Go.Proofs.Qxb6613151a
