/-
  Seat b6604322a: words for the memory (slices of uint64, arrays of slices, boxes); the leaves of the road.
-/
import Derived.Test.Qxb6604322aRows
import Derived.WalkKit
import Derived.ProofKit
import Derived.OpenShut
import Derived.ShutString
import Derived.ChangeOld
import Derived.Below
import Derived.Deep.QuietTactic
import Derived.BigQuiet
import Derived.WalkLawsBesides
namespace Go.Proofs.Qxb6604322a
open Go.ChangeShapes Go.WideShapes Go.ChangeAt Go.RowKit
set_option linter.unusedVariables false

/-- A slice of uint64 that can be read: empty, or n numbers X 0 .. X (n-1) lying from (b, off) on. -/
def IsU (w : World) (a : Option Addr) (n : Nat) (X : Nat → Int) : Prop :=
  n = 0 ∨ ∃ b off, a = some ⟨b, off, none⟩ ∧ b < w.heap.size ∧ ∀ i, i < n → w.cell? ⟨b, off + i, none⟩ = some (.int .u64 (X i))

theorem IsU.below {B : Nat} {w w' : World} {a : Option Addr} {n : Nat} {X : Nat → Int} (h : IsU w a n X) (hb : Below B w w') (hB : w.heap.size ≤ B) : IsU w' a n X := by
  rcases h with h | ⟨b, off, rfl, hlt, hc⟩
  · exact .inl h
  · exact .inr ⟨b, off, rfl, Nat.lt_of_lt_of_le hlt hb.size, fun i hi => (hb.cell (p := ⟨b, off + i, none⟩) (Nat.lt_of_lt_of_le hlt hB)).trans (hc i hi)⟩

theorem IsU.drewN {w : World} {a : Option Addr} {n : Nat} {X : Nat → Int} (h : IsU w a n X) (m : Nat) : IsU (w.drewN m) a n X := by
  rcases h with h | ⟨b, off, rfl, hlt, hc⟩
  · exact .inl h
  · exact .inr ⟨b, off, rfl, by simpa using hlt, fun i hi => by simpa using hc i hi⟩

theorem below_drewN {B : Nat} {a w : World} (h : Below B a w) (m : Nat) : Below B a (w.drewN m) := ⟨h.os, h.tape, h.output, h.size, h.block⟩

/-- The boxes into which a function lays its array parameters, one behind the other. -/
def boxes (w : World) : List (Array Value × TypeId) → World
  | [] => w
  | (c, t) :: l => boxes (w.alloc (.cells c t)) l

theorem boxes_size : ∀ (l : List (Array Value × TypeId)) (w : World), (boxes w l).heap.size = w.heap.size + l.length
  | [], w => rfl
  | (c, t) :: l, w => by
    show (boxes (w.alloc (.cells c t)) l).heap.size = _
    rw [boxes_size l]
    simp
    omega

theorem boxes_old : ∀ (l : List (Array Value × TypeId)) (w : World) (k : Nat), k < w.heap.size → (boxes w l).heap[k]? = w.heap[k]?
  | [], w, k, h => rfl
  | (c, t) :: l, w, k, h => by
    show (boxes (w.alloc (.cells c t)) l).heap[k]? = _
    rw [boxes_old l _ k (by simp; omega)]
    exact Below.heap_alloc w _ k h

theorem boxes_below (l : List (Array Value × TypeId)) (w : World) : Below w.heap.size w (boxes w l) := by
  refine ⟨?_, ?_, ?_, by rw [boxes_size]; omega, fun k hk => boxes_old l w k hk⟩
  all_goals
    induction l generalizing w with
    | nil => rfl
    | cons p l ih => exact (ih (w.alloc (.cells p.1 p.2))).trans rfl

theorem boxes_block : ∀ (l : List (Array Value × TypeId)) (w : World) (k : Nat) (c : Array Value) (t : TypeId), l[k]? = some (c, t) → (boxes w l).heap[w.heap.size + k]? = some (.cells c t (0, 0))
  | [], w, k, c, t, h => by simp at h
  | (c', t') :: l, w, 0, c, t, h => by
    simp at h
    obtain ⟨rfl, rfl⟩ := h
    show (boxes (w.alloc (.cells c' t')) l).heap[w.heap.size + 0]? = _
    rw [boxes_old l _ _ (by simp), Nat.add_zero]
    exact heap_alloc_new w _
  | (c', t') :: l, w, k + 1, c, t, h => by
    show (boxes (w.alloc (.cells c' t')) l).heap[w.heap.size + (k + 1)]? = _
    have := boxes_block l (w.alloc (.cells c' t')) k c t (by simpa using h)
    rw [show (w.alloc (.cells c' t')).heap.size = w.heap.size + 1 from by simp] at this
    rw [show w.heap.size + (k + 1) = w.heap.size + 1 + k from by omega]
    exact this

theorem boxes_cell (l : List (Array Value × TypeId)) (w : World) (k : Nat) {c : Array Value} {t : TypeId} (hl : l[k]? = some (c, t)) {b i : Nat} {v : Value} (hb : b = w.heap.size + k) (hv : c[i]? = some v) : (boxes w l).cell? ⟨b, i, none⟩ = some v := by
  subst hb
  rw [cell_of_row _ _ i c t (0, 0) (boxes_block l w k c t hl)]
  exact hv

/-- An array's cells: n of them, the i-th is f i. -/
def Ar (cs : Array Value) (n : Nat) (f : Nat → Value) : Prop := cs.size = n ∧ ∀ i, i < n → cs[i]? = some (f i)
/-- The cells of an array of 16 arrays of 16. -/
def Ar2 (cs : Array Value) (f : Nat → Nat → Value) : Prop := cs.size = 256 ∧ ∀ i j, i < 16 → j < 16 → cs[i * 16 + j]? = some (f i j)

/-- the sum of f 0 .. f (n-1). -/
def sumTo (f : Nat → Nat) : Nat → Nat
  | 0 => 0
  | n + 1 => sumTo f n + f n

theorem sumTo_succ (f : Nat → Nat) (n : Nat) : sumTo f (n + 1) = sumTo f n + f n := rfl
theorem sumTo_mono (f : Nat → Nat) : ∀ {n m : Nat}, n ≤ m → sumTo f n ≤ sumTo f m
  | n, 0, h => by
    have : n = 0 := by omega
    subst this
    exact Nat.le_refl _
  | n, m + 1, h => by
    by_cases e : n = m + 1
    · subst e; exact Nat.le_refl _
    · have := sumTo_mono f (n := n) (m := m) (by omega)
      rw [sumTo_succ]
      omega
theorem sumTo_ge (f : Nat → Nat) {n i : Nat} (h : i < n) : f i ≤ sumTo f n := by
  have h1 := sumTo_mono f (n := i + 1) (m := n) (by omega)
  rw [sumTo_succ] at h1
  omega

/-! ### the leaves -/
theorem isNaN43 (x : Int) (w : World) : Calls Try.prog 43 #[.int .u64 x] w fun e w' => e = .returned (.bool false) ∧ w' = w := by
  have h : (x != x) = false := by simp
  go_enter Try.func43, Try.ntmps43
  go_wp2
  go_ret
  exact ⟨rfl, rfl⟩
theorem isNaN42 (x : Int) (w : World) : Calls Try.prog 42 #[.int .u64 x] w fun e w' => e = .returned (.bool false) ∧ w' = w := by
  have h : (x != x) = false := by simp
  go_enter Try.func42, Try.ntmps42
  go_wp2
  go_ret
  exact ⟨rfl, rfl⟩
theorem less_any (x y : Int) (w : World) : Calls Try.prog 41 #[.int .u64 x, .int .u64 y] w fun e w' => e = .returned (.bool (decide (x < y))) ∧ w' = w := by
  go_enter Try.func41, Try.ntmps41
  go_wp2_with (go_at_call 43; refine (isNaN43 _ _).mono ?_; rintro e w' ⟨rfl, rfl⟩)
  go_ret
  exact ⟨rfl, rfl⟩

theorem fits_any (a : Option Addr) (n c : Nat) (X : Nat → Int) (w : World) (h : IsU w a n X) (hn : n ≤ 131072) (y : Int) :
    Calls Try.prog 34 #[.slice a n c, .int .u64 y] w fun e w' => e = .returned (.bool (decide (0 < n) && (X (n - 1) == y))) ∧ w' = w := by
  by_cases h0 : n = 0
  · subst h0
    go_enter Try.func34, Try.ntmps34
    go_wp2
    go_ret
    exact ⟨rfl, rfl⟩
  · rcases h with h | ⟨b, off, rfl, hb, hc⟩
    · omega
    · have hx := hc (n - 1) (by omega)
      have hd : decide (0 < n) = true := decide_eq_true (by omega)
      rw [hd, Bool.true_and]
      go_enter Try.func34, Try.ntmps34
      go_wp2
      go_ret
      exact ⟨rfl, rfl⟩
end Go.Proofs.Qxb6604322a
