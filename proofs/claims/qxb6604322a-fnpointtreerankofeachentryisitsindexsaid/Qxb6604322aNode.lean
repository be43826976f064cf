/-
  Seat b6604322a: building a treeNode (type 65).
-/
import Derived.Test.Qxb6604322aRank
import Derived.Deep.RegionHeld3
import Derived.Deep.MidRow
namespace Go.Proofs.Qxb6604322a
open Go.ChangeShapes Go.WideShapes Go.ChangeAt Go.RowKit
set_option linter.unusedVariables false

/-- one part of a struct laid into its cells. -/
def lay (cells : Array Value) (off : Nat) (v : Array Value) : Array Value := v.zipIdx.foldl (fun cs (c, j) => cs.setIfInBounds (off + j) c) cells

theorem lay_list (off : Nat) : ∀ (l : List Value) (i : Nat) (cells : Array Value), ((l.zipIdx i).foldl (fun cs (p : Value × Nat) => cs.setIfInBounds (off + p.2) p.1) cells).size = cells.size ∧
    ∀ j, ((l.zipIdx i).foldl (fun cs (p : Value × Nat) => cs.setIfInBounds (off + p.2) p.1) cells)[j]? = if off + i ≤ j ∧ j < off + i + l.length ∧ j < cells.size then l[j - (off + i)]? else cells[j]?
  | [], i, cells => ⟨rfl, fun j => by simp; omega⟩
  | v :: l, i, cells => by
    obtain ⟨h1, h2⟩ := lay_list off l (i + 1) (cells.setIfInBounds (off + i) v)
    simp only [List.zipIdx_cons, List.foldl_cons]
    refine ⟨by rw [h1]; simp, fun j => ?_⟩
    rw [h2 j]
    simp only [Array.size_setIfInBounds, List.length_cons]
    by_cases ha : off + (i + 1) ≤ j ∧ j < off + (i + 1) + l.length ∧ j < cells.size
    · rw [if_pos ha, if_pos (by omega), show j - (off + i) = (j - (off + (i + 1))) + 1 from by omega, List.getElem?_cons_succ]
    · rw [if_neg ha, Array.getElem?_setIfInBounds]
      by_cases hb : off + i = j
      · subst hb
        by_cases hc : off + i < cells.size
        · rw [if_pos rfl, if_pos (by omega)]
          simp [hc]
        · rw [if_pos rfl, if_neg (by omega)]
          simp [hc]
      · rw [if_neg hb, if_neg (by omega)]

theorem lay_size (cells : Array Value) (off : Nat) (v : Array Value) : (lay cells off v).size = cells.size := by
  unfold lay
  rw [← Array.foldl_toList, Array.toList_zipIdx]
  exact (lay_list off v.toList 0 cells).1
theorem lay_get (cells : Array Value) (off : Nat) (v : Array Value) (j : Nat) : (lay cells off v)[j]? = if off ≤ j ∧ j < off + v.size ∧ j < cells.size then v[j - off]? else cells[j]? := by
  unfold lay
  rw [← Array.foldl_toList, Array.toList_zipIdx]
  have := (lay_list off v.toList 0 cells).2 j
  simp only [Nat.add_zero, Array.length_toList, Array.getElem?_toList] at this
  exact this

theorem fill_cons (place : Nat → Option (Nat × Nat)) (cells : Array Value) (i : Nat) (v : Value) (rest : List (Nat × Value)) (off size : Nat) (hp : place i = some (off, size)) (hs : v.cells.size = size) (ho : off + size ≤ cells.size) :
    Instr.fill place cells ((i, v) :: rest) = Instr.fill place (lay cells off v.cells) rest := by
  conv => lhs; unfold Instr.fill
  rw [hp]
  simp only [hs]
  rw [if_neg (by simp; omega)]
  rfl

/-- the places of a treeNode's fields. -/
def places65 : Array (Nat × Nat) := #[(0, 1), (1, 1), (2, 16), (18, 16), (34, 16), (50, 16)]
/-- the cells of the zero treeNode. -/
def zero65 : Array Value := #[.int .i64 0, .bool false] ++ Array.replicate 16 (.int .u64 0) ++ Array.replicate 16 (.int .i32 0) ++ Array.replicate 16 (.slice none 0 0) ++ Array.replicate 16 (.pointer none)
theorem built65 (parts : List (Nat × Value)) : Try.prog.built 65 parts = Instr.fill (places65[·]?) zero65 parts := by kernel_rfl
theorem zero65_size : zero65.size = 66 := by kernel_rfl
theorem zero65_counts (j : Nat) (hj : j < 16) : zero65[18 + j]? = some (.int .i32 0) := by
  have h : j = 0 ∨ j = 1 ∨ j = 2 ∨ j = 3 ∨ j = 4 ∨ j = 5 ∨ j = 6 ∨ j = 7 ∨ j = 8 ∨ j = 9 ∨ j = 10 ∨ j = 11 ∨ j = 12 ∨ j = 13 ∨ j = 14 ∨ j = 15 := by omega
  rcases h with rfl | rfl | rfl | rfl | rfl | rfl | rfl | rfl | rfl | rfl | rfl | rfl | rfl | rfl | rfl | rfl <;> rfl
theorem zero65_kids (j : Nat) (hj : j < 16) : zero65[50 + j]? = some (.pointer none) := by
  have h : j = 0 ∨ j = 1 ∨ j = 2 ∨ j = 3 ∨ j = 4 ∨ j = 5 ∨ j = 6 ∨ j = 7 ∨ j = 8 ∨ j = 9 ∨ j = 10 ∨ j = 11 ∨ j = 12 ∨ j = 13 ∨ j = 14 ∨ j = 15 := by omega
  rcases h with rfl | rfl | rfl | rfl | rfl | rfl | rfl | rfl | rfl | rfl | rfl | rfl | rfl | rfl | rfl | rfl <;> rfl

/-- a treeNode's cells. -/
structure NodeCells (R : Array Value) (sz : Int) (low : Bool) (L K : Nat → Int) (A : Nat → Option Addr) (N C : Nat → Nat) (kid : Nat → Option Addr) : Prop where
  size : R[0]? = some (.int .i64 sz)
  lowest : R[1]? = some (.bool low)
  last : ∀ i, i < 16 → R[2 + i]? = some (.int .u64 (L i))
  counts : ∀ i, i < 16 → R[18 + i]? = some (.int .i32 (K i))
  leaves : ∀ i, i < 16 → R[34 + i]? = some (.slice (A i) (N i) (C i))
  kids : ∀ i, i < 16 → R[50 + i]? = some (.pointer (kid i))

theorem NodeCells.at {w : World} {b : Nat} {R : Array Value} {s : Nat} {low : Bool} {L K : Nat → Int} {A : Nat → Option Addr} {N C : Nat → Nat} {kid : Nat → Option Addr} (h : NodeCells R s low L K A N C kid) (hb : w.heap[b]? = some (.cells R 65 (0, 0))) : NodeAt w b s low L K A N C kid :=
  ⟨by rw [cell_of_row w b _ R 65 (0, 0) hb]; exact h.size, by rw [cell_of_row w b _ R 65 (0, 0) hb]; exact h.lowest, fun i hi => by rw [cell_of_row w b _ R 65 (0, 0) hb]; exact h.last i hi,
    fun i hi => by rw [cell_of_row w b _ R 65 (0, 0) hb]; exact h.counts i hi, fun i hi => by rw [cell_of_row w b _ R 65 (0, 0) hb]; exact h.leaves i hi, fun i hi => by rw [cell_of_row w b _ R 65 (0, 0) hb]; exact h.kids i hi⟩

theorem cells_agg (a : Array Value) : (Value.agg a).cells = a := rfl

theorem built_child (sz : Int) (a b : Array Value) (L : Nat → Int) (A : Nat → Option Addr) (N C : Nat → Nat) (ha : Ar a 16 (fun i => .int .u64 (L i))) (hb : Ar b 16 (fun i => .slice (A i) (N i) (C i))) :
    ∃ R, Try.prog.built 65 [(0, .int .i64 sz), (1, .bool true), (2, .agg a), (4, .agg b)] = some R ∧ NodeCells R sz true L (fun _ => 0) A N C (fun _ => none) := by
  have z := zero65_size
  rw [built65, fill_cons _ _ 0 _ _ 0 1 rfl rfl (by rw [z]; omega), fill_cons _ _ 1 _ _ 1 1 rfl rfl (by rw [lay_size, z]; omega),
    fill_cons _ _ 2 _ _ 2 16 rfl (by rw [cells_agg]; exact ha.1) (by rw [lay_size, lay_size, z]; omega), fill_cons _ _ 4 _ _ 34 16 rfl (by rw [cells_agg]; exact hb.1) (by rw [lay_size, lay_size, lay_size, z]; omega), Instr.fill]
  rw [cells_agg, cells_agg]
  refine ⟨_, rfl, ?_, ?_, fun i hi => ?_, fun i hi => ?_, fun i hi => ?_, fun i hi => ?_⟩
  · rw [lay_get, if_neg (by omega), lay_get, if_neg (by omega), lay_get, if_neg (by omega), lay_get, if_pos (by rw [z]; exact ⟨by omega, by show 0 < 0 + 1; omega, by omega⟩)]
    rfl
  · rw [lay_get, if_neg (by omega), lay_get, if_neg (by omega), lay_get, if_pos (by rw [lay_size, z]; exact ⟨by omega, by show 1 < 1 + 1; omega, by omega⟩)]
    rfl
  · rw [lay_get, if_neg (by omega), lay_get, if_pos (by rw [lay_size, lay_size, z, ha.1]; omega), Nat.add_sub_cancel_left]
    exact ha.2 i hi
  · rw [lay_get, if_neg (by omega), lay_get, if_neg (by rw [ha.1]; omega), lay_get, if_neg (by show ¬ (1 ≤ 18 + i ∧ 18 + i < 1 + 1 ∧ _); omega), lay_get, if_neg (by show ¬ (0 ≤ 18 + i ∧ 18 + i < 0 + 1 ∧ _); omega)]
    exact zero65_counts i hi
  · rw [lay_get, if_pos (by rw [lay_size, lay_size, lay_size, z, hb.1]; omega), Nat.add_sub_cancel_left]
    exact hb.2 i hi
  · rw [lay_get, if_neg (by rw [hb.1]; omega), lay_get, if_neg (by rw [ha.1]; omega), lay_get, if_neg (by show ¬ (1 ≤ 50 + i ∧ 50 + i < 1 + 1 ∧ _); omega), lay_get, if_neg (by show ¬ (0 ≤ 50 + i ∧ 50 + i < 0 + 1 ∧ _); omega)]
    exact zero65_kids i hi

theorem built_root (sz : Int) (low : Bool) (a k b c : Array Value) (L K : Nat → Int) (A : Nat → Option Addr) (N C : Nat → Nat) (kid : Nat → Option Addr) (ha : Ar a 16 (fun i => .int .u64 (L i))) (hk : Ar k 16 (fun i => .int .i32 (K i))) (hb : Ar b 16 (fun i => .slice (A i) (N i) (C i))) (hc : Ar c 16 (fun i => .pointer (kid i))) :
    ∃ R, Try.prog.built 65 [(0, .int .i64 sz), (1, .bool low), (2, .agg a), (3, .agg k), (4, .agg b), (5, .agg c)] = some R ∧ NodeCells R sz low L K A N C kid := by
  have z := zero65_size
  rw [built65, fill_cons _ _ 0 _ _ 0 1 rfl rfl (by rw [z]; omega), fill_cons _ _ 1 _ _ 1 1 rfl rfl (by rw [lay_size, z]; omega),
    fill_cons _ _ 2 _ _ 2 16 rfl (by rw [cells_agg]; exact ha.1) (by rw [lay_size, lay_size, z]; omega), fill_cons _ _ 3 _ _ 18 16 rfl (by rw [cells_agg]; exact hk.1) (by rw [lay_size, lay_size, lay_size, z]; omega),
    fill_cons _ _ 4 _ _ 34 16 rfl (by rw [cells_agg]; exact hb.1) (by rw [lay_size, lay_size, lay_size, lay_size, z]; omega), fill_cons _ _ 5 _ _ 50 16 rfl (by rw [cells_agg]; exact hc.1) (by rw [lay_size, lay_size, lay_size, lay_size, lay_size, z]; omega), Instr.fill]
  rw [cells_agg, cells_agg, cells_agg, cells_agg]
  refine ⟨_, rfl, ?_, ?_, fun i hi => ?_, fun i hi => ?_, fun i hi => ?_, fun i hi => ?_⟩
  · rw [lay_get, if_neg (by omega), lay_get, if_neg (by omega), lay_get, if_neg (by omega), lay_get, if_neg (by omega), lay_get, if_neg (by omega), lay_get, if_pos (by rw [z]; exact ⟨by omega, by show 0 < 0 + 1; omega, by omega⟩)]
    rfl
  · rw [lay_get, if_neg (by omega), lay_get, if_neg (by omega), lay_get, if_neg (by omega), lay_get, if_neg (by omega), lay_get, if_pos (by rw [lay_size, z]; exact ⟨by omega, by show 1 < 1 + 1; omega, by omega⟩)]
    rfl
  · rw [lay_get, if_neg (by omega), lay_get, if_neg (by omega), lay_get, if_neg (by omega), lay_get, if_pos (by rw [lay_size, lay_size, z, ha.1]; omega), Nat.add_sub_cancel_left]
    exact ha.2 i hi
  · rw [lay_get, if_neg (by omega), lay_get, if_neg (by omega), lay_get, if_pos (by rw [lay_size, lay_size, lay_size, z, hk.1]; omega), Nat.add_sub_cancel_left]
    exact hk.2 i hi
  · rw [lay_get, if_neg (by omega), lay_get, if_pos (by rw [lay_size, lay_size, lay_size, lay_size, z, hb.1]; omega), Nat.add_sub_cancel_left]
    exact hb.2 i hi
  · rw [lay_get, if_pos (by rw [lay_size, lay_size, lay_size, lay_size, lay_size, z, hc.1]; omega), Nat.add_sub_cancel_left]
    exact hc.2 i hi
end Go.Proofs.Qxb6604322a
