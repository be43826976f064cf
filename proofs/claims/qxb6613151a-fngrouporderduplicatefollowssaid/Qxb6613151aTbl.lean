/-
  Seat b6613151a: tables of structs in a block of their own.
-/
import Derived.Test.Qxb6613151aGroup
import Derived.Deep.MidRow
namespace Go.Proofs.Qxb6613151a
open Go.ChangeShapes Go.WideShapes Go.ChangeAt Go.RowKit
set_option linter.unusedVariables false

theorem setCells_size (b : Nat) : ∀ (vs : List Value) (o : Nat) (w : World), (w.setCells b o vs).heap.size = w.heap.size
  | [], _, _ => rfl
  | v :: r, o, w => by
    rw [World.setCells, setCells_size b r]
    simp [World.setCell]
theorem setCells_os (b : Nat) : ∀ (vs : List Value) (o : Nat) (w : World), (w.setCells b o vs).os = w.os ∧ (w.setCells b o vs).tape = w.tape ∧ (w.setCells b o vs).output = w.output
  | [], _, _ => ⟨rfl, rfl, rfl⟩
  | v :: r, o, w => by
    rw [World.setCells]
    exact setCells_os b r _ _
theorem setCells_block (b : Nat) (j : Nat) (hne : j ≠ b) : ∀ (vs : List Value) (o : Nat) (w : World), (w.setCells b o vs).heap[j]? = w.heap[j]?
  | [], _, _ => rfl
  | v :: r, o, w => by
    rw [World.setCells, setCells_block b j hne r]
    exact Below.heap_setCell w ⟨b, o, none⟩ v j hne
theorem below_setCells {B : Nat} {a w : World} (h : Below B a w) (b : Nat) (hb : B ≤ b) (o : Nat) (vs : List Value) : Below B a (w.setCells b o vs) :=
  h.trans ⟨(setCells_os b vs o w).1, (setCells_os b vs o w).2.1, (setCells_os b vs o w).2.2, by rw [setCells_size]; exact Nat.le_refl _, fun k hk => setCells_block b k (by omega) vs o w⟩

theorem IsA.setCells {β : Type} {enc : β → Value} {w : World} {a : Option Addr} {n : Nat} {X : Nat → β} (h : IsA enc w a n X) (g o : Nat) (vs : List Value) (hne : ∀ x, a = some x → x.block ≠ g) : IsA enc (w.setCells g o vs) a n X := by
  rcases h with h | ⟨b, off, rfl, hlt, hc⟩
  · exact .inl h
  · refine .inr ⟨b, off, rfl, by rw [setCells_size]; exact hlt, fun i hi => ?_⟩
    rw [← hc i hi]
    exact World.cell?_of_block (w := w) (setCells_block g b (hne _ rfl) vs o w)

theorem range_below {B : Nat} {w w' : World} {b o : Nat} {cs : List Value} (h : w.rangeAt b o cs) (hlt : b < w.heap.size) (hb : Below B w w') (hB : w.heap.size ≤ B) : w'.rangeAt b o cs :=
  fun j v hv => (hb.cell (p := ⟨b, o + j, none⟩) (Nat.lt_of_lt_of_le hlt hB)).trans (h j v hv)
theorem there_below {B : Nat} {w w' : World} {b o n : Nat} (h : w.there b o n) (hlt : b < w.heap.size) (hb : Below B w w') (hB : w.heap.size ≤ B) : w'.there b o n := fun j hj => by
  have h1 := hb.cell (p := ⟨b, o + j, none⟩) (Nat.lt_of_lt_of_le hlt hB)
  have h2 : w'.frozen? ⟨b, o + j, none⟩ = w.frozen? ⟨b, o + j, none⟩ := by
    unfold World.frozen?
    rw [hb.block b (Nat.lt_of_lt_of_le hlt hB)]
  rw [h1, h2]
  exact h j hj

/-- Block b holds n structs of sz cells, of which the first k are as P says. -/
def Tbl (P : Nat → World → List Value → Prop) (w : World) (b sz n k : Nat) : Prop :=
  b < w.heap.size ∧ w.there b 0 (n * sz) ∧ ∀ i, i < k → ∃ cs, cs.length = sz ∧ w.rangeAt b (i * sz) cs ∧ P i w cs

theorem Tbl.below {P : Nat → World → List Value → Prop} {w w' : World} {b sz n k B : Nat} (h : Tbl P w b sz n k) (hP : ∀ i cs, P i w cs → P i w' cs) (hb : Below B w w') (hB : w.heap.size ≤ B) : Tbl P w' b sz n k :=
  ⟨Nat.lt_of_lt_of_le h.1 hb.size, there_below h.2.1 h.1 hb hB, fun i hi => let ⟨cs, h1, h2, h3⟩ := h.2.2 i hi; ⟨cs, h1, range_below h2 h.1 hb hB, hP i cs h3⟩⟩

theorem there_part {w : World} {b n o m : Nat} (h : w.there b 0 n) (hle : o + m ≤ n) : w.there b o m := fun j hj => by
  have := h (o + j) (by omega)
  rwa [Nat.zero_add] at this

theorem Tbl.put {P : Nat → World → List Value → Prop} {w : World} {b sz n k : Nat} (h : Tbl P w b sz n k) (hk : k < n) (cs : List Value) (hl : cs.length = sz) (hP : ∀ i ds, P i w ds → P i (w.setCells b (k * sz) cs) ds) (hc : P k (w.setCells b (k * sz) cs) cs) :
    Tbl P (w.setCells b (k * sz) cs) b sz n (k + 1) := by
  have hle : k * sz + sz ≤ n * sz := by
    rw [← Nat.succ_mul]
    exact Nat.mul_le_mul_right _ hk
  refine ⟨by rw [setCells_size]; exact h.1, World.there_setCells h.2.1 _ _ _, fun i hi => ?_⟩
  by_cases e : i = k
  · subst e
    exact ⟨cs, hl, World.rangeAt_setCells_same w b _ cs (there_part h.2.1 (by omega)), hc⟩
  · obtain ⟨ds, h1, h2, h3⟩ := h.2.2 i (by omega)
    refine ⟨ds, h1, World.rangeAt_setCells_apart h2 b _ cs (.inr (.inl ?_)), hP i ds h3⟩
    rw [h1, ← Nat.succ_mul]
    exact Nat.mul_le_mul_right _ (by omega)

theorem Tbl.made {P : Nat → World → List Value → Prop} {w : World} {g base sz n : Nat} {ty : TypeId} {xs : List Value} (h : w.ownsRow base ty sz (.slice (some ⟨g, 0, none⟩) n n) n xs) : Tbl P w g sz n 0 := by
  obtain ⟨hl, h⟩ := h
  rcases h with ⟨h', _⟩ | ⟨g', cap', cur, h', _, hg, hc1, hc2, hc3, hc4⟩
  · simp at h'
  · simp only [Value.slice.injEq, Option.some.injEq, Addr.mk.injEq, and_true, true_and] at h'
    obtain ⟨rfl, rfl⟩ := h'
    refine ⟨(Array.getElem?_eq_some_iff.1 hg).1, fun j hj => ?_, fun i hi => absurd hi (Nat.not_lt_zero _)⟩
    rw [Nat.zero_add, cell_of_row _ _ j cur ty (0, 0) hg]
    exact ⟨by simp [hc3, hj], frozen_of_row w _ j cur ty hg⟩
end Go.Proofs.Qxb6613151a
