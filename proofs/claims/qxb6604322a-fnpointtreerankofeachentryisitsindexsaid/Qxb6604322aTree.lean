/-
  Seat b6604322a: the tree's data; zzTreeSmall (15), zzBytes (21).
-/
import Derived.Test.Qxb6604322aLeaf
namespace Go.Proofs.Qxb6604322a
open Go.ChangeShapes Go.WideShapes Go.ChangeAt Go.RowKit
set_option linter.unusedVariables false

/-- The tree's plain data: size, lowest, last, counts, the leaves' lengths and numbers, childSize, childLast, the children's leaves' lengths and numbers. -/
structure D where
  size : Int
  low : Bool
  L : Nat → Int
  K : Nat → Int
  N : Nat → Nat
  X : Nat → Nat → Int
  S : Nat → Int
  T : Nat → Nat → Int
  M : Nat → Nat → Nat
  Z : Nat → Nat → Nat → Int

/-- cs: the cells of [16][]uint64. -/
def Lvs (w : World) (cs : Array Value) (N : Nat → Nat) (X : Nat → Nat → Int) : Prop :=
  ∃ (A : Nat → Option Addr) (C : Nat → Nat), Ar cs 16 (fun i => .slice (A i) (N i) (C i)) ∧ ∀ i, i < 16 → IsU w (A i) (N i) (X i)
/-- cs: the cells of [16][16][]uint64. -/
def CLvs (w : World) (cs : Array Value) (M : Nat → Nat → Nat) (Z : Nat → Nat → Nat → Int) : Prop :=
  ∃ (A : Nat → Nat → Option Addr) (C : Nat → Nat → Nat), Ar2 cs (fun i j => .slice (A i j) (M i j) (C i j)) ∧ ∀ i j, i < 16 → j < 16 → IsU w (A i j) (M i j) (Z i j)

theorem Lvs.below {B : Nat} {w w' : World} {cs : Array Value} {N : Nat → Nat} {X : Nat → Nat → Int} (h : Lvs w cs N X) (hb : Below B w w') (hB : w.heap.size ≤ B) : Lvs w' cs N X :=
  let ⟨A, C, h1, h2⟩ := h
  ⟨A, C, h1, fun i hi => (h2 i hi).below hb hB⟩
theorem CLvs.below {B : Nat} {w w' : World} {cs : Array Value} {M : Nat → Nat → Nat} {Z : Nat → Nat → Nat → Int} (h : CLvs w cs M Z) (hb : Below B w w') (hB : w.heap.size ≤ B) : CLvs w' cs M Z :=
  let ⟨A, C, h1, h2⟩ := h
  ⟨A, C, h1, fun i j hi hj => (h2 i j hi hj).below hb hB⟩

/-- all entries of the first k children, used or not. -/
def totTo (N : Nat → Nat) (M : Nat → Nat → Nat) (k : Nat) : Nat := sumTo (fun i => N i + sumTo (M i) 16) k
theorem totTo_succ (N : Nat → Nat) (M : Nat → Nat → Nat) (k : Nat) : totTo N M (k + 1) = totTo N M k + N k + sumTo (M k) 16 := by
  unfold totTo
  rw [sumTo_succ]
  omega
theorem totTo_zero (N : Nat → Nat) (M : Nat → Nat → Nat) : totTo N M 0 = 0 := rfl

/-- at most 2^17 entries in all. -/
def Small (N : Nat → Nat) (M : Nat → Nat → Nat) : Prop := totTo N M 16 ≤ 131072

theorem val_int {k : IntKind} {a b : Int} (h : a = b) : Value.int k a = Value.int k b := by rw [h]

/-- some bool, and where it is true P holds. -/
def YesOut (P : Prop) (e : Ending) : Prop := ∃ r : Bool, e = .returned (.bool r) ∧ (r = true → P)
theorem YesOut.no {P : Prop} : YesOut P (.returned (.bool false)) := ⟨false, rfl, fun h => by cases h⟩
theorem YesOut.yes {P : Prop} (h : P) : YesOut P (.returned (.bool true)) := ⟨true, rfl, fun _ => h⟩

set_option maxHeartbeats 800000 in
theorem small_any (cs30 cs33 : Array Value) (N : Nat → Nat) (X : Nat → Nat → Int) (M : Nat → Nat → Nat) (Z : Nat → Nat → Nat → Int) (w : World) (h30 : Lvs w cs30 N X) (h33 : CLvs w cs33 M Z)
    (hN : ∀ i, N i ≤ 9223372036854775807) (hM : ∀ i j, M i j ≤ 9223372036854775807) :
    Calls Try.prog 15 #[.agg cs30, .agg cs33] w fun e w' => YesOut (Small N M) e ∧ Below w.heap.size w w' := by
  obtain ⟨A, C, ⟨hs30, hc30⟩, _⟩ := h30
  obtain ⟨A', C', ⟨hs33, hc33⟩, _⟩ := h33
  go_enter Try.func15, Try.ntmps15
  go_wp2
  have hbel := boxes_below [(cs30, 30), (cs33, 33)] w
  have f30 : ∀ i, i < 16 → (boxes w [(cs30, 30), (cs33, 33)]).cell? ⟨w.heap.size, i, none⟩ = some (.slice (A i) (N i) (C i)) := fun i hi => boxes_cell _ w 0 rfl rfl (hc30 i hi)
  have f33 : ∀ i j, i < 16 → j < 16 → (boxes w [(cs30, 30), (cs33, 33)]).cell? ⟨w.heap.size + 1, i * 16 + j, none⟩ = some (.slice (A' i j) (M i j) (C' i j)) := fun i j hi hj => boxes_cell _ w 1 rfl rfl (hc33 i j hi hj)
  rw [show (w.alloc (Obj.cells cs30 30)).alloc (Obj.cells cs33 33) = boxes w [(cs30, 30), (cs33, 33)] from rfl]
  generalize boxes w [(cs30, 30), (cs33, 33)] = W at hbel f30 f33 ⊢
  clear hc30 hc33
  have F30 : Hid (∀ i, i < 16 → W.cell? ⟨w.heap.size, i, none⟩ = some (.slice (A i) (N i) (C i))) := f30
  have F33 : Hid (∀ i j, i < 16 → j < 16 → W.cell? ⟨w.heap.size + 1, i * 16 + j, none⟩ = some (.slice (A' i j) (M i j) (C' i j))) := f33
  clear f30 f33
  go_loop [5, 6] (fun n i => ∃ k : Nat, k ≤ 16 ∧ i = .int .i64 k ∧ n = .int .i64 (totTo N M k) ∧ totTo N M k ≤ 131072) (fun _ i => 16 - (intOf i).toNat)
  case atStart => exact ⟨0, by omega, rfl, rfl, Nat.zero_le _⟩
  case round =>
    obtain ⟨k, hk, rfl, rfl, hle⟩ := hrel
    by_cases hlt : k < 16
    · have hc := F30.out k hlt
      have hNk := hN k
      by_cases h1 : N k ≤ 131072
      · by_cases h2 : totTo N M k + N k ≤ 131072
        · go_wp2
          go_loop [5, 7] (fun n j => ∃ q : Nat, q ≤ 16 ∧ j = .int .i64 q ∧ n = .int .i64 ((totTo N M k + N k + sumTo (M k) q : Nat) : Int) ∧ totTo N M k + N k + sumTo (M k) q ≤ 131072) (fun _ j => 16 - (intOf j).toNat)
          case atStart => exact ⟨0, by omega, rfl, by go_num, h2⟩
          case round =>
            obtain ⟨q, hq, rfl, rfl, hle2⟩ := hrel
            by_cases hlt2 : q < 16
            · have hc2 := F33.out k q hlt hlt2
              have hMk := hM k q
              by_cases h3 : M k q ≤ 131072
              · by_cases h4 : totTo N M k + N k + sumTo (M k) q + M k q ≤ 131072
                · go_wp2
                  go_round
                  case rel => exact ⟨q + 1, by omega, by go_num, by rw [sumTo_succ]; go_num, by rw [sumTo_succ]; omega⟩
                  case measure => simp [intOf]; omega
                · go_wp2
                  go_ret
                  exact ⟨YesOut.no, hbel⟩
              · go_wp2
                go_ret
                exact ⟨YesOut.no, hbel⟩
            · have e : q = 16 := by omega
              subst e
              go_wp2
              go_round
              case rel => exact ⟨k + 1, by omega, by go_num, by rw [totTo_succ], by rw [totTo_succ]; exact hle2⟩
              case measure => simp [intOf]; omega
        · go_wp2
          go_ret
          exact ⟨YesOut.no, hbel⟩
      · go_wp2
        go_ret
        exact ⟨YesOut.no, hbel⟩
    · have e : k = 16 := by omega
      subst e
      go_wp2
      go_ret
      exact ⟨YesOut.yes hle, hbel⟩

set_option maxHeartbeats 800000 in
theorem bytes_any (v0 v1 v2 : Value) (cs27 cs28 cs30 cs31 cs32 cs33 : Array Value) (N : Nat → Nat) (X : Nat → Nat → Int) (M : Nat → Nat → Nat) (Z : Nat → Nat → Nat → Int) (w : World) (h30 : Lvs w cs30 N X) (h33 : CLvs w cs33 M Z)
    (hN : ∀ i, N i ≤ 9223372036854775807) (hM : ∀ i j, M i j ≤ 9223372036854775807) :
    Calls Try.prog 21 #[v0, v1, v2, .agg cs27, .agg cs28, .agg cs30, .agg cs31, .agg cs32, .agg cs33] w fun e w' => YesOut True e ∧ Below w.heap.size w w' := by
  obtain ⟨A, C, ⟨hs30, hc30⟩, _⟩ := h30
  obtain ⟨A', C', ⟨hs33, hc33⟩, _⟩ := h33
  go_enter Try.func21, Try.ntmps21
  go_wp2
  have hbel := boxes_below [(cs27, 27), (cs28, 28), (cs30, 30), (cs31, 31), (cs32, 32), (cs33, 33)] w
  have f30 : ∀ i, i < 16 → (boxes w [(cs27, 27), (cs28, 28), (cs30, 30), (cs31, 31), (cs32, 32), (cs33, 33)]).cell? ⟨w.heap.size + 2, i, none⟩ = some (.slice (A i) (N i) (C i)) := fun i hi => boxes_cell _ w 2 rfl rfl (hc30 i hi)
  have f33 : ∀ i j, i < 16 → j < 16 → (boxes w [(cs27, 27), (cs28, 28), (cs30, 30), (cs31, 31), (cs32, 32), (cs33, 33)]).cell? ⟨w.heap.size + 5, i * 16 + j, none⟩ = some (.slice (A' i j) (M i j) (C' i j)) := fun i j hi hj => boxes_cell _ w 5 rfl rfl (hc33 i j hi hj)
  rw [show (((((w.alloc (Obj.cells cs27 27)).alloc (Obj.cells cs28 28)).alloc (Obj.cells cs30 30)).alloc (Obj.cells cs31 31)).alloc (Obj.cells cs32 32)).alloc (Obj.cells cs33 33) = boxes w [(cs27, 27), (cs28, 28), (cs30, 30), (cs31, 31), (cs32, 32), (cs33, 33)] from rfl]
  generalize boxes w [(cs27, 27), (cs28, 28), (cs30, 30), (cs31, 31), (cs32, 32), (cs33, 33)] = W at hbel f30 f33 ⊢
  clear hc30 hc33
  have F30 : Hid (∀ i, i < 16 → W.cell? ⟨w.heap.size + 2, i, none⟩ = some (.slice (A i) (N i) (C i))) := f30
  have F33 : Hid (∀ i j, i < 16 → j < 16 → W.cell? ⟨w.heap.size + 5, i * 16 + j, none⟩ = some (.slice (A' i j) (M i j) (C' i j))) := f33
  clear f30 f33
  go_loop [19, 20] (fun n i => ∃ k m : Nat, k ≤ 16 ∧ m ≤ 1048576 ∧ i = .int .i64 k ∧ n = .int .i64 m) (fun _ i => 16 - (intOf i).toNat)
  case atStart => exact ⟨0, 0, by omega, by omega, rfl, rfl⟩
  case round =>
    obtain ⟨k, m, hk, hm, rfl, rfl⟩ := hrel
    by_cases hlt : k < 16
    · have hc := F30.out k hlt
      have hNk := hN k
      by_cases h1 : N k ≤ 1048576
      · by_cases h2 : m + N k ≤ 1048576
        · go_wp2
          go_round
          case rel => exact ⟨k + 1, m + N k, by omega, h2, by go_num, by go_num⟩
          case measure => simp [intOf]; omega
        · go_wp2
          go_ret
          exact ⟨YesOut.no, hbel⟩
      · go_wp2
        go_ret
        exact ⟨YesOut.no, hbel⟩
    · have e : k = 16 := by omega
      subst e
      go_wp2
      go_loop [19, 21] (fun n i => ∃ k m : Nat, k ≤ 16 ∧ m ≤ 1048576 ∧ i = .int .i64 k ∧ n = .int .i64 m) (fun _ i => 16 - (intOf i).toNat)
      case atStart => exact ⟨0, m, by omega, hm, rfl, rfl⟩
      case round =>
        obtain ⟨k, m, hk, hm, rfl, rfl⟩ := hrel
        by_cases hlt : k < 16
        · go_wp2
          go_loop [19, 22] (fun n i => ∃ q m : Nat, q ≤ 16 ∧ m ≤ 1048576 ∧ i = .int .i64 q ∧ n = .int .i64 m) (fun _ i => 16 - (intOf i).toNat)
          case atStart => exact ⟨0, m, by omega, hm, rfl, rfl⟩
          case round =>
            obtain ⟨q, m, hq, hm, rfl, rfl⟩ := hrel
            by_cases hlt2 : q < 16
            · have hc := F33.out k q hlt hlt2
              have hMk := hM k q
              by_cases h1 : M k q ≤ 1048576
              · by_cases h2 : m + M k q ≤ 1048576
                · go_wp2
                  go_round
                  case rel => exact ⟨q + 1, m + M k q, by omega, h2, by go_num, by go_num⟩
                  case measure => simp [intOf]; omega
                · go_wp2
                  go_ret
                  exact ⟨YesOut.no, hbel⟩
              · go_wp2
                go_ret
                exact ⟨YesOut.no, hbel⟩
            · have e : q = 16 := by omega
              subst e
              go_wp2
              go_round
              case rel => exact ⟨k + 1, m, by omega, hm, by go_num, rfl⟩
              case measure => simp [intOf]; omega
        · have e : k = 16 := by omega
          subst e
          go_wp2
          go_ret
          exact ⟨YesOut.yes trivial, hbel⟩
end Go.Proofs.Qxb6604322a
