/-
  Seat b6613151a: words for the memory (slices of one-cell elements); cloneI64 (11), cloneBool (21), cloneInt (22), makeGroup (12).
-/
import Derived.Test.Qxb6613151aRows
import Derived.WalkKit
import Derived.ProofKit
import Derived.OpenShut
import Derived.ShutString
import Derived.ChangeOld
import Derived.Below
import Derived.Deep.QuietTactic
import Derived.BigQuiet
import Derived.WalkLawsBesides
namespace Go.Proofs.Qxb6613151a
open Go.ChangeShapes Go.WideShapes Go.ChangeAt Go.RowKit
set_option linter.unusedVariables false

/-- A slice of one-cell elements that can be read: empty, or X 0 .. X (n-1) lying from (b, off) on. -/
def IsA {β : Type} (enc : β → Value) (w : World) (a : Option Addr) (n : Nat) (X : Nat → β) : Prop :=
  n = 0 ∨ ∃ b off, a = some ⟨b, off, none⟩ ∧ b < w.heap.size ∧ ∀ i, i < n → w.cell? ⟨b, off + i, none⟩ = some (enc (X i))

variable {β : Type} {enc : β → Value}

theorem IsA.below {B : Nat} {w w' : World} {a : Option Addr} {n : Nat} {X : Nat → β} (h : IsA enc w a n X) (hb : Below B w w') (hB : w.heap.size ≤ B) : IsA enc w' a n X := by
  rcases h with h | ⟨b, off, rfl, hlt, hc⟩
  · exact .inl h
  · exact .inr ⟨b, off, rfl, Nat.lt_of_lt_of_le hlt hb.size, fun i hi => (hb.cell (p := ⟨b, off + i, none⟩) (Nat.lt_of_lt_of_le hlt hB)).trans (hc i hi)⟩

theorem IsA.drewN {w : World} {a : Option Addr} {n : Nat} {X : Nat → β} (h : IsA enc w a n X) (m : Nat) : IsA enc (w.drewN m) a n X := by
  rcases h with h | ⟨b, off, rfl, hlt, hc⟩
  · exact .inl h
  · exact .inr ⟨b, off, rfl, by simpa using hlt, fun i hi => by simpa using hc i hi⟩

theorem below_drewN {B : Nat} {a w : World} (h : Below B a w) (m : Nat) : Below B a (w.drewN m) := ⟨h.os, h.tape, h.output, h.size, h.block⟩

abbrev encI : Int → Value := Value.int .i64
abbrev encB : Bool → Value := Value.bool

theorem info2 : (Try.prog.info? 2).map (fun i => (i.zero, i.size, i.bytes)) = some (some (.int .i64 0), 1, 8) := by kernel_rfl
theorem info3 : (Try.prog.info? 3).map (fun i => (i.zero, i.size, i.bytes)) = some (some (.int .i64 0), 1, 8) := by kernel_rfl
theorem info4 : (Try.prog.info? 4).map (fun i => (i.zero, i.size, i.bytes)) = some (some (.bool false), 1, 1) := by kernel_rfl

theorem clone_step {w wr : World} {ty : TypeId} {n k : Nat} {X : Nat → β} {xs : List Value} (hk : k < n)
    (hown : wr.ownsRow w.heap.size ty 1 (.slice (some ⟨w.heap.size, 0, none⟩) n n) n xs) (hx : ∀ i, i < k → xs[i]? = some (enc (X i))) (hb : Below w.heap.size w wr) :
    ∃ xs', (wr.setCell ⟨w.heap.size, k, none⟩ (enc (X k))).ownsRow w.heap.size ty 1 (.slice (some ⟨w.heap.size, 0, none⟩) n n) n xs' ∧ (∀ i, i < k + 1 → xs'[i]? = some (enc (X i))) ∧
      Below w.heap.size w (wr.setCell ⟨w.heap.size, k, none⟩ (enc (X k))) := by
  refine ⟨_, (hown.stored k _).1, ?_, hb.setCell (Nat.le_refl _) _⟩
  intro i hi
  have hl : xs.length = n := by simpa using hown.1
  rw [List.getElem?_set]
  by_cases e : k = i
  · subst e
    simp [hl, hk]
  · rw [if_neg e]
    exact hx i (by omega)

/-- what a clone hands back: a slice of its own with the same elements. -/
def CloneOut (enc : β → Value) (w : World) (n : Nat) (X : Nat → β) (e : Ending) (w' : World) : Prop :=
  ∃ a', e = .returned (.slice a' n n) ∧ IsA enc w' a' n X ∧ (∀ x, a' = some x → w.heap.size ≤ x.block) ∧ Below w.heap.size w w'

theorem isA_of_own {w wr : World} {ty : TypeId} {n : Nat} {X : Nat → β} {xs : List Value} (hown : wr.ownsRow w.heap.size ty 1 (.slice (some ⟨w.heap.size, 0, none⟩) n n) n xs) (hx : ∀ i, i < n → xs[i]? = some (enc (X i))) :
    IsA enc wr (some ⟨w.heap.size, 0, none⟩) n X := by
  by_cases h0 : n = 0
  · exact .inl h0
  · refine .inr ⟨w.heap.size, 0, rfl, ?_, fun i hi => ?_⟩
    · rcases hown.2 with ⟨h', _⟩ | ⟨g', cap', cur, h', _, hg, _⟩
      · simp at h'
      · simp only [Value.slice.injEq, Option.some.injEq, Addr.mk.injEq, and_true, true_and] at h'
        obtain ⟨rfl, rfl⟩ := h'
        exact (Array.getElem?_eq_some_iff.1 hg).1
    · rw [Nat.zero_add, hown.cellAt i (by omega)]
      exact hx i hi

set_option maxHeartbeats 400000 in
theorem clone64_any (a : Option Addr) (n c : Nat) (X : Nat → Int) (w : World) (hB : IsA encI w a n X) (hn : n ≤ 1048576) :
    Calls Try.prog 11 #[.slice a n c] w fun e w' => CloneOut encI w n X e w' := by
  have heq := fun (w : World) a n c => Lib.run_eql_slice_nil (P := Try.prog) w 32 2 a n c 0 0 Try.underlying32
  obtain ⟨i0, hi, hz0, hz1, hz2⟩ := info_parts info2
  cases a with
  | none =>
    have h0 : n = 0 := by rcases hB with h | ⟨b, off, h, _⟩ <;> simp_all
    subst h0
    go_enter Try.func11, Try.ntmps11
    go_wp2
    go_ret
    exact ⟨none, rfl, .inl rfl, (fun x h => by cases h), Below.refl _ _⟩
  | some x =>
    go_enter Try.func11, Try.ntmps11
    go_wp2_with (at_make; refine wpList_make_full _ rfl _ _ 32 rfl w.heap.size 2 i0 (Value.int IntKind.i64 0) 1 Try.underlying32 hi hz0 hz1 .i64 .i64 _ _ n rfl rfl (by omega) (by omega) (by rw [hz2]; omega) (by unfold maxLen; omega) (Nat.le_refl _) ?_; intro w0 hown0 hgrow0)
    have hb0 : Below w.heap.size w w0 := (Below.refl _ _).grown hgrow0 (Nat.le_refl _) (fun k h => by cases h)
    generalize hxs0 : (madeCells ((Value.int IntKind.i64 0)).cells (n * 1)).toList = xs0 at hown0
    clear hxs0
    go_loopw [4] (fun i wr => ∃ k : Nat, ∃ xs : List Value, k ≤ n ∧ i = .int .i64 k ∧ wr.ownsRow w.heap.size 2 1 (.slice (some ⟨w.heap.size, 0, none⟩) n n) n xs ∧ (∀ i, i < k → xs[i]? = some (encI (X i))) ∧ Below w.heap.size w wr) (fun i _ => n - (intOf i).toNat)
    case atStart => exact ⟨0, xs0, Nat.zero_le _, rfl, hown0, fun i h => absurd h (Nat.not_lt_zero _), hb0⟩
    case round =>
      obtain ⟨k, xs, hk, rfl, hown, hx, hb⟩ := hrel
      by_cases hlt : k < n
      · rcases hB with hB | ⟨b, off, hae, hbl, hc⟩
        · omega
        · simp only [Option.some.injEq] at hae
          subst hae
          have hck : wr.cell? ⟨b, off + k, none⟩ = some (encI (X k)) := (hb.cell (p := ⟨b, off + k, none⟩) hbl).trans (hc k hlt)
          have hl : xs.length = n := by simpa using hown.1
          have hcell : wr.cell? ⟨w.heap.size, k, none⟩ = some xs[k] := by rw [hown.cellAt k (by omega)]; simp [hl, hlt]
          have hfz := hown.frozenAt k
          have R := clone_step hlt hown hx hb
          clear hown hx hc hb
          go_wp2
          go_roundw
          case rel =>
            obtain ⟨xs', r1, r2, r3⟩ := R
            exact ⟨k + 1, xs', by omega, by go_num, r1, r2, r3⟩
          case measure => simp [intOf]; omega
      · have e : k = n := by omega
        subst e
        go_wp2
        go_ret
        exact ⟨_, rfl, isA_of_own hown hx, (fun x h => by cases h; exact Nat.le_refl _), hb⟩

set_option maxHeartbeats 400000 in
theorem cloneB_any (a : Option Addr) (n c : Nat) (X : Nat → Bool) (w : World) (hB : IsA encB w a n X) (hn : n ≤ 1048576) :
    Calls Try.prog 21 #[.slice a n c] w fun e w' => CloneOut encB w n X e w' := by
  have heq := fun (w : World) a n c => Lib.run_eql_slice_nil (P := Try.prog) w 33 4 a n c 0 0 Try.underlying33
  obtain ⟨i0, hi, hz0, hz1, hz2⟩ := info_parts info4
  cases a with
  | none =>
    have h0 : n = 0 := by rcases hB with h | ⟨b, off, h, _⟩ <;> simp_all
    subst h0
    go_enter Try.func21, Try.ntmps21
    go_wp2
    go_ret
    exact ⟨none, rfl, .inl rfl, (fun x h => by cases h), Below.refl _ _⟩
  | some x =>
    go_enter Try.func21, Try.ntmps21
    go_wp2_with (at_make; refine wpList_make_full _ rfl _ _ 33 rfl w.heap.size 4 i0 (Value.bool false) 1 Try.underlying33 hi hz0 hz1 .i64 .i64 _ _ n rfl rfl (by omega) (by omega) (by rw [hz2]; omega) (by unfold maxLen; omega) (Nat.le_refl _) ?_; intro w0 hown0 hgrow0)
    have hb0 : Below w.heap.size w w0 := (Below.refl _ _).grown hgrow0 (Nat.le_refl _) (fun k h => by cases h)
    generalize hxs0 : (madeCells ((Value.bool false)).cells (n * 1)).toList = xs0 at hown0
    clear hxs0
    go_loopw [4] (fun i wr => ∃ k : Nat, ∃ xs : List Value, k ≤ n ∧ i = .int .i64 k ∧ wr.ownsRow w.heap.size 4 1 (.slice (some ⟨w.heap.size, 0, none⟩) n n) n xs ∧ (∀ i, i < k → xs[i]? = some (encB (X i))) ∧ Below w.heap.size w wr) (fun i _ => n - (intOf i).toNat)
    case atStart => exact ⟨0, xs0, Nat.zero_le _, rfl, hown0, fun i h => absurd h (Nat.not_lt_zero _), hb0⟩
    case round =>
      obtain ⟨k, xs, hk, rfl, hown, hx, hb⟩ := hrel
      by_cases hlt : k < n
      · rcases hB with hB | ⟨b, off, hae, hbl, hc⟩
        · omega
        · simp only [Option.some.injEq] at hae
          subst hae
          have hck : wr.cell? ⟨b, off + k, none⟩ = some (encB (X k)) := (hb.cell (p := ⟨b, off + k, none⟩) hbl).trans (hc k hlt)
          have hl : xs.length = n := by simpa using hown.1
          have hcell : wr.cell? ⟨w.heap.size, k, none⟩ = some xs[k] := by rw [hown.cellAt k (by omega)]; simp [hl, hlt]
          have hfz := hown.frozenAt k
          have R := clone_step hlt hown hx hb
          clear hown hx hc hb
          go_wp2
          go_roundw
          case rel =>
            obtain ⟨xs', r1, r2, r3⟩ := R
            exact ⟨k + 1, xs', by omega, by go_num, r1, r2, r3⟩
          case measure => simp [intOf]; omega
      · have e : k = n := by omega
        subst e
        go_wp2
        go_ret
        exact ⟨_, rfl, isA_of_own hown hx, (fun x h => by cases h; exact Nat.le_refl _), hb⟩

set_option maxHeartbeats 400000 in
theorem cloneI_any (a : Option Addr) (n c : Nat) (X : Nat → Int) (w : World) (hB : IsA encI w a n X) (hn : n ≤ 1048576) :
    Calls Try.prog 22 #[.slice a n c] w fun e w' => CloneOut encI w n X e w' := by
  have heq := fun (w : World) a n c => Lib.run_eql_slice_nil (P := Try.prog) w 23 3 a n c 0 0 Try.underlying23
  obtain ⟨i0, hi, hz0, hz1, hz2⟩ := info_parts info3
  cases a with
  | none =>
    have h0 : n = 0 := by rcases hB with h | ⟨b, off, h, _⟩ <;> simp_all
    subst h0
    go_enter Try.func22, Try.ntmps22
    go_wp2
    go_ret
    exact ⟨none, rfl, .inl rfl, (fun x h => by cases h), Below.refl _ _⟩
  | some x =>
    go_enter Try.func22, Try.ntmps22
    go_wp2_with (at_make; refine wpList_make_full _ rfl _ _ 23 rfl w.heap.size 3 i0 (Value.int IntKind.i64 0) 1 Try.underlying23 hi hz0 hz1 .i64 .i64 _ _ n rfl rfl (by omega) (by omega) (by rw [hz2]; omega) (by unfold maxLen; omega) (Nat.le_refl _) ?_; intro w0 hown0 hgrow0)
    have hb0 : Below w.heap.size w w0 := (Below.refl _ _).grown hgrow0 (Nat.le_refl _) (fun k h => by cases h)
    generalize hxs0 : (madeCells ((Value.int IntKind.i64 0)).cells (n * 1)).toList = xs0 at hown0
    clear hxs0
    go_loopw [4] (fun i wr => ∃ k : Nat, ∃ xs : List Value, k ≤ n ∧ i = .int .i64 k ∧ wr.ownsRow w.heap.size 3 1 (.slice (some ⟨w.heap.size, 0, none⟩) n n) n xs ∧ (∀ i, i < k → xs[i]? = some (encI (X i))) ∧ Below w.heap.size w wr) (fun i _ => n - (intOf i).toNat)
    case atStart => exact ⟨0, xs0, Nat.zero_le _, rfl, hown0, fun i h => absurd h (Nat.not_lt_zero _), hb0⟩
    case round =>
      obtain ⟨k, xs, hk, rfl, hown, hx, hb⟩ := hrel
      by_cases hlt : k < n
      · rcases hB with hB | ⟨b, off, hae, hbl, hc⟩
        · omega
        · simp only [Option.some.injEq] at hae
          subst hae
          have hck : wr.cell? ⟨b, off + k, none⟩ = some (encI (X k)) := (hb.cell (p := ⟨b, off + k, none⟩) hbl).trans (hc k hlt)
          have hl : xs.length = n := by simpa using hown.1
          have hcell : wr.cell? ⟨w.heap.size, k, none⟩ = some xs[k] := by rw [hown.cellAt k (by omega)]; simp [hl, hlt]
          have hfz := hown.frozenAt k
          have R := clone_step hlt hown hx hb
          clear hown hx hc hb
          go_wp2
          go_roundw
          case rel =>
            obtain ⟨xs', r1, r2, r3⟩ := R
            exact ⟨k + 1, xs', by omega, by go_num, r1, r2, r3⟩
          case measure => simp [intOf]; omega
      · have e : k = n := by omega
        subst e
        go_wp2
        go_ret
        exact ⟨_, rfl, isA_of_own hown hx, (fun x h => by cases h; exact Nat.le_refl _), hb⟩

end Go.Proofs.Qxb6613151a
