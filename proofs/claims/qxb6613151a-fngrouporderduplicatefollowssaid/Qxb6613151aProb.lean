/-
  Seat b6613151a: how a Problem lies in memory; Largest (23).
-/
import Derived.Test.Qxb6613151aBase
namespace Go.Proofs.Qxb6613151a
open Go.ChangeShapes Go.WideShapes Go.ChangeAt Go.RowKit
set_option linter.unusedVariables false

/-- A problem's numbers. -/
structure PD where
  nR : Nat
  nC : Nat → Nat
  C : Nat → Nat → Int
  L : Nat → Int
  nG : Nat
  nQ : Nat → Nat
  Q : Nat → Nat → Int
  nO : Nat → Nat
  O : Nat → Nat → Bool
  nA : Nat → Nat
  A : Nat → Nat → Int

/-- A row (Option) lies from (b, o) on. -/
def IsRow (w : World) (b o n : Nat) (C : Nat → Int) (l : Int) : Prop :=
  ∃ a, w.cell? ⟨b, o, none⟩ = some (.int .i64 0) ∧ w.cell? ⟨b, o + 1, none⟩ = some (.slice a n n) ∧ w.cell? ⟨b, o + 2, none⟩ = some (.slice none 0 0) ∧
    w.cell? ⟨b, o + 3, none⟩ = some (.int .i64 l) ∧ w.cell? ⟨b, o + 4, none⟩ = some (.bool false) ∧ IsA encI w a n C

/-- A group (PodGroup) lies from (b, o) on. -/
def IsGrp (w : World) (b o nq : Nat) (q : Nat → Int) (no : Nat) (ok : Nat → Bool) (na : Nat) (ap : Nat → Int) : Prop :=
  ∃ a1 a2 a3, w.cell? ⟨b, o, none⟩ = some (.slice a1 nq nq) ∧ w.cell? ⟨b, o + 1, none⟩ = some (.int .i64 0) ∧ w.cell? ⟨b, o + 2, none⟩ = some (.slice a2 no no) ∧
    w.cell? ⟨b, o + 3, none⟩ = some (.slice a3 na na) ∧ IsA encI w a1 nq q ∧ IsA encB w a2 no ok ∧ IsA encI w a3 na ap

def IsRows (w : World) (rb : Nat) (D : PD) : Prop := rb < w.heap.size ∧ ∀ r, r < D.nR → IsRow w rb (r * 5) (D.nC r) (D.C r) (D.L r)
def IsGrps (w : World) (gb : Nat) (D : PD) : Prop := gb < w.heap.size ∧ ∀ g, g < D.nG → IsGrp w gb (g * 4) (D.nQ g) (D.Q g) (D.nO g) (D.O g) (D.nA g) (D.A g)

def IsProb (w : World) (pb rb gb : Nat) (D : PD) : Prop :=
  pb < w.heap.size ∧ w.cell? ⟨pb, 0, none⟩ = some (.slice (some ⟨rb, 0, none⟩) D.nR D.nR) ∧ w.cell? ⟨pb, 1, none⟩ = some (.slice (some ⟨gb, 0, none⟩) D.nG D.nG) ∧ IsRows w rb D ∧ IsGrps w gb D

theorem IsRow.below {B : Nat} {w w' : World} {b o n : Nat} {C : Nat → Int} {l : Int} (h : IsRow w b o n C l) (hlt : b < w.heap.size) (hb : Below B w w') (hB : w.heap.size ≤ B) : IsRow w' b o n C l := by
  obtain ⟨a, h0, h1, h2, h3, h4, h5⟩ := h
  have k : ∀ j, w'.cell? ⟨b, j, none⟩ = w.cell? ⟨b, j, none⟩ := fun j => hb.cell (p := ⟨b, j, none⟩) (Nat.lt_of_lt_of_le hlt hB)
  exact ⟨a, (k _).trans h0, (k _).trans h1, (k _).trans h2, (k _).trans h3, (k _).trans h4, h5.below hb hB⟩
theorem IsGrp.below {B : Nat} {w w' : World} {b o nq : Nat} {q : Nat → Int} {no : Nat} {ok : Nat → Bool} {na : Nat} {ap : Nat → Int} (h : IsGrp w b o nq q no ok na ap) (hlt : b < w.heap.size) (hb : Below B w w') (hB : w.heap.size ≤ B) : IsGrp w' b o nq q no ok na ap := by
  obtain ⟨a1, a2, a3, h0, h1, h2, h3, h4, h5, h6⟩ := h
  have k : ∀ j, w'.cell? ⟨b, j, none⟩ = w.cell? ⟨b, j, none⟩ := fun j => hb.cell (p := ⟨b, j, none⟩) (Nat.lt_of_lt_of_le hlt hB)
  exact ⟨a1, a2, a3, (k _).trans h0, (k _).trans h1, (k _).trans h2, (k _).trans h3, h4.below hb hB, h5.below hb hB, h6.below hb hB⟩
theorem IsRows.below {B : Nat} {w w' : World} {rb : Nat} {D : PD} (h : IsRows w rb D) (hb : Below B w w') (hB : w.heap.size ≤ B) : IsRows w' rb D :=
  ⟨Nat.lt_of_lt_of_le h.1 hb.size, fun r hr => (h.2 r hr).below h.1 hb hB⟩
theorem IsGrps.below {B : Nat} {w w' : World} {gb : Nat} {D : PD} (h : IsGrps w gb D) (hb : Below B w w') (hB : w.heap.size ≤ B) : IsGrps w' gb D :=
  ⟨Nat.lt_of_lt_of_le h.1 hb.size, fun r hr => (h.2 r hr).below h.1 hb hB⟩
theorem IsProb.below {B : Nat} {w w' : World} {pb rb gb : Nat} {D : PD} (h : IsProb w pb rb gb D) (hb : Below B w w') (hB : w.heap.size ≤ B) : IsProb w' pb rb gb D := by
  obtain ⟨h0, h1, h2, h3, h4⟩ := h
  have k : ∀ j, w'.cell? ⟨pb, j, none⟩ = w.cell? ⟨pb, j, none⟩ := fun j => hb.cell (p := ⟨pb, j, none⟩) (Nat.lt_of_lt_of_le h0 hB)
  exact ⟨Nat.lt_of_lt_of_le h0 hb.size, (k _).trans h1, (k _).trans h2, h3.below hb hB, h4.below hb hB⟩

/-- the most of resource k that the first r rows offer. -/
def mostF (C : Nat → Nat → Int) (k : Nat) : Nat → Int
  | 0 => 0
  | r + 1 => if mostF C k r < C r k then C r k else mostF C k r

set_option maxHeartbeats 400000 in
theorem largest_any (rb : Nat) (D : PD) (k : Nat) (w : World) (h : IsRows w rb D) (hn : D.nR ≤ 8192) (hk : ∀ r, r < D.nR → k < D.nC r) (hC : ∀ r, r < D.nR → D.nC r ≤ 1048576) :
    Calls Try.prog 23 #[.slice (some ⟨rb, 0, none⟩) D.nR D.nR, .int .i64 k] w fun e w' => e = .returned (.int .i64 (mostF D.C k D.nR)) ∧ Below w.heap.size w w' := by
  go_enter Try.func23, Try.ntmps23
  go_wp2
  go_loopw [5, 10] (fun m i wr => ∃ r : Nat, r ≤ D.nR ∧ m = .int .i64 (mostF D.C k r) ∧ i = .int .i64 r ∧ Below w.heap.size w wr) (fun _ i _ => D.nR - (intOf i).toNat)
  case atStart => exact ⟨0, Nat.zero_le _, rfl, rfl, Below.refl _ _⟩
  case round =>
    obtain ⟨r, hr, rfl, rfl, hb⟩ := hrel
    by_cases hlt : r < D.nR
    · have hkr := hk r hlt
      have hCr := hC r hlt
      obtain ⟨a, h0, h1, h2, h3, h4, h5⟩ := (h.2 r hlt).below h.1 hb (Nat.le_refl _)
      rcases h5 with h5 | ⟨b, off, rfl, hb5, hc⟩
      · omega
      have hc5 := hc k hkr
      clear hc
      go_wp2
      go_roundw
      case rel => exact ⟨r + 1, by omega, rfl, by go_num, hb.alloc (by exact hb.size) _⟩
      case measure => simp [intOf]; omega
    · have e : r = D.nR := by omega
      subst e
      go_wp2
      go_ret
      exact ⟨rfl, hb⟩
end Go.Proofs.Qxb6613151a
