/-
  Seat b6609411a: the arguments opened.
-/
import Derived.Test.Qxb6609411aBase
import Derived.Deep.Strs
import Derived.ChangeMaps5
namespace Go.Proofs.Qxb6609411a
open Go.ChangeShapes Go.WideShapes Go.ChangeAt Go.RowKit
set_option linter.unusedVariables false

theorem isA_of {β : Type} {enc : β → Value} {w : World} {A : Option Addr} {L C : Nat} {X : Nat → β} (hl : L ≤ C) (h0 : A = none → C = 0) (h1 : ∀ a, A = some a → ∀ c, c < C → w.cell? (a.add c) = some (enc (X c))) : IsA enc w A L X := by
  by_cases e : L = 0
  · exact .inl e
  · cases A with
    | none => exact absurd (h0 rfl) (by omega)
    | some a =>
      have hc := h1 a rfl
      have hc0 := hc 0 (by omega)
      obtain ⟨b, off, spot⟩ := a
      have hspot : spot = none := by simpa [Addr.add] using World.cell?_spot hc0
      subst hspot
      refine .inr ⟨b, off, rfl, ?_, fun i hi => ?_⟩
      · have := World.block_lt_of_cell? w _ hc0
        rwa [Addr.add_mid] at this
      · rw [← Addr.add_mid]
        exact hc i (by omega)

theorem maxLen_le {n : Nat} (h : n ≤ maxLen) : n ≤ 9223372036854775807 := by
  unfold maxLen at h
  omega

section
variable {H : Type} {enc : TypeId × Value → H} {P : Program} {w : World} {base : Nat} {held : Bool} {fuel : Nat} {t e : TypeId} {v : Value} {x : DataW H × List MemPlace}

theorem s_int (ht : P.underlying t = some (.slice e)) (he : P.underlying e = some (.int .i64)) (ce : P.cellsOf e = 1) (h : DataW.trod enc P w base (fun _ => true) held fuel t [v] = some x) :
    ∃ (a : Option Addr) (n c : Nat) (X : Nat → Int), v = .slice a n c ∧ IsA encI w a n X ∧ n ≤ 9223372036854775807 := by
  rcases open_ints ht he ce h with ⟨h0, _⟩ | ⟨a, n, c, zs, h0, _, hl, hm, hz, _, hcell, _⟩
  · simp only [List.cons.injEq, and_true] at h0
    exact ⟨none, 0, 0, fun _ => 0, h0, .inl rfl, by omega⟩
  · simp only [List.cons.injEq, and_true] at h0
    have hz' : zs.length = c := by simpa using hz
    exact ⟨some a, n, c, fun i => zs.getD i 0, h0, isA_of hl (fun h => by cases h) (fun a' ha c hc => by cases ha; exact hcell c (by omega)), maxLen_le (Nat.le_trans hl hm)⟩

theorem s_str (ht : P.underlying t = some (.slice e)) (he : P.underlying e = some .string) (ce : P.cellsOf e = 1) (h : DataW.trod enc P w base (fun _ => true) held fuel t [v] = some x) :
    ∃ (a : Option Addr) (n c : Nat) (X : Nat → ByteArray), v = .slice a n c ∧ IsA encS w a n X ∧ n ≤ 9223372036854775807 ∧ ∀ i, i < n → (X i).size ≤ 9223372036854775807 := by
  rcases Go.Deep.open_strs ht he ce h with ⟨h0, _⟩ | ⟨a, n, c, m, Sx, h0, _, hl, hm, hmm, _, hcell⟩
  · simp only [List.cons.injEq, and_true] at h0
    exact ⟨none, 0, 0, fun _ => ⟨#[]⟩, h0, .inl rfl, by omega, fun i hi => absurd hi (Nat.not_lt_zero _)⟩
  · simp only [List.cons.injEq, and_true] at h0
    have hm' : m = c := by simpa using hmm
    exact ⟨some a, n, c, Sx, h0, isA_of hl (fun h => by cases h) (fun a' ha c hc => by cases ha; exact (hcell c (by omega)).1), maxLen_le (Nat.le_trans hl hm), fun i hi => maxLen_le (hcell i (by omega)).2⟩
end
end Go.Proofs.Qxb6609411a
