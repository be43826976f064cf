/-
  Seat b6606341a: cloneBytes (function 7).
-/
import Derived.Test.Qxb6606341aBase
namespace Go.Proofs.Qxb6606341a
open Go.ChangeShapes Go.WideShapes Go.ChangeAt Go.RowKit
set_option linter.unusedVariables false

theorem info5 : (Try.prog.info? 5).map (fun i => (i.zero, i.size, i.bytes)) = some (some (.int .u8 0), 1, 1) := by kernel_rfl

theorem IsB.below {w w' : World} {a : Option Addr} {n : Nat} {X : Nat → Int} (h : IsB w a n X) (hb : Below w.heap.size w w') : IsB w' a n X := by
  rcases h with h | ⟨b, off, rfl, hlt, hc⟩
  · exact .inl h
  · exact .inr ⟨b, off, rfl, Nat.lt_of_lt_of_le hlt hb.size, fun i hi => (hb.cell (p := ⟨b, off + i, none⟩) hlt).trans (hc i hi)⟩

theorem IsB.drewN {w : World} {a : Option Addr} {n : Nat} {X : Nat → Int} (h : IsB w a n X) (m : Nat) : IsB (w.drewN m) a n X := by
  rcases h with h | ⟨b, off, rfl, hlt, hc⟩
  · exact .inl h
  · exact .inr ⟨b, off, rfl, by simpa using hlt, fun i hi => by simpa using hc i hi⟩

/-- one round's store. -/
theorem clone_step {w wr : World} {n k : Nat} {X : Nat → Int} {xs : List Value} (hk : k < n)
    (hown : wr.ownsRow w.heap.size 5 1 (.slice (some ⟨w.heap.size, 0, none⟩) n n) n xs) (hx : ∀ i, i < k → xs[i]? = some (.int .u8 (X i))) (hb : Below w.heap.size w wr) :
    ∃ xs', (wr.setCell ⟨w.heap.size, k, none⟩ (.int .u8 (X k))).ownsRow w.heap.size 5 1 (.slice (some ⟨w.heap.size, 0, none⟩) n n) n xs' ∧ (∀ i, i < k + 1 → xs'[i]? = some (.int .u8 (X i))) ∧
      Below w.heap.size w (wr.setCell ⟨w.heap.size, k, none⟩ (.int .u8 (X k))) := by
  refine ⟨_, (hown.stored k _).1, ?_, hb.setCell (Nat.le_refl _) _⟩
  intro i hi
  have hl : xs.length = n := by simpa using hown.1
  rw [List.getElem?_set]
  by_cases e : k = i
  · subst e
    simp [hl, hk]
  · rw [if_neg e]
    exact hx i (by omega)

set_option maxHeartbeats 400000 in
theorem clone_any (a : Option Addr) (n c : Nat) (X : Nat → Int) (w : World) (hB : IsB w a n X) (hn : n ≤ 524288) (ha : a = none → c = 0) :
    Calls Try.prog 7 #[.slice a n c] w fun e w' => ∃ a', e = .returned (.slice a' n n) ∧ IsB w' a' n X ∧ Below w.heap.size w w' := by
  have heq := fun (w : World) a n c => Lib.run_eql_slice_nil (P := Try.prog) w 22 5 a n c 0 0 Try.underlying22
  obtain ⟨i0, hi, hz0, hz1, hz2⟩ := info_parts info5
  cases a with
  | none =>
    have h0 : n = 0 := by rcases hB with h | ⟨b, off, h, _⟩ <;> simp_all
    subst h0
    have h1 := ha rfl
    subst h1
    go_enter Try.func7, Try.ntmps7
    go_wp2
    go_ret
    exact ⟨none, rfl, .inl rfl, Below.refl _ _⟩
  | some x =>
    go_enter Try.func7, Try.ntmps7
    go_wp2_with (at_make; refine wpList_make_full _ rfl _ _ 22 rfl w.heap.size 5 i0 (.int .u8 0) 1 Try.underlying22 hi hz0 hz1 .i64 .i64 _ _ n rfl rfl (by omega) (by omega) (by rw [hz2]; omega) (by unfold maxLen; omega) (Nat.le_refl _) ?_; intro w0 hown0 hgrow0)
    have hb0 : Below w.heap.size w w0 := (Below.refl _ _).grown hgrow0 (Nat.le_refl _) (fun k h => by cases h)
    generalize hxs0 : (madeCells (Value.int IntKind.u8 0).cells (n * 1)).toList = xs0 at hown0
    clear hxs0
    go_loopw [4] (fun i wr => ∃ k : Nat, ∃ xs : List Value, k ≤ n ∧ i = .int .i64 k ∧ wr.ownsRow w.heap.size 5 1 (.slice (some ⟨w.heap.size, 0, none⟩) n n) n xs ∧ (∀ i, i < k → xs[i]? = some (.int .u8 (X i))) ∧ Below w.heap.size w wr) (fun i _ => n - (intOf i).toNat)
    case atStart => exact ⟨0, xs0, Nat.zero_le _, rfl, hown0, fun i h => absurd h (Nat.not_lt_zero _), hb0⟩
    case round =>
      obtain ⟨k, xs, hk, rfl, hown, hx, hb⟩ := hrel
      by_cases hlt : k < n
      · rcases hB with hB | ⟨b, off, hae, hbl, hc⟩
        · omega
        · simp only [Option.some.injEq] at hae
          subst hae
          have hck : wr.cell? ⟨b, off + k, none⟩ = some (.int .u8 (X k)) := (hb.cell (p := ⟨b, off + k, none⟩) hbl).trans (hc k hlt)
          have hl : xs.length = n := by simpa using hown.1
          have hcell : wr.cell? ⟨w.heap.size, k, none⟩ = some xs[k] := by rw [hown.cellAt k (by omega)]; simp [hl, hlt]
          have hfz := hown.frozenAt k
          have R := clone_step hlt hown hx hb
          clear hown hx hc hb
          go_wp2
          go_roundw
          case rel =>
            obtain ⟨xs', r1, r2, r3⟩ := R
            exact ⟨k + 1, xs', by omega, by go_num, r1, r2, r3⟩
          case measure => simp [intOf]; omega
      · have e : k = n := by omega
        subst e
        go_wp2
        go_ret
        refine ⟨_, rfl, ?_, hb⟩
        by_cases h0 : k = 0
        · exact .inl h0
        · refine .inr ⟨w.heap.size, 0, rfl, ?_, fun i hi => ?_⟩
          · have hz : (k : Nat) = k := rfl
            rcases hown.2 with ⟨h', _⟩ | ⟨g', cap', cur, h', _, hg, _⟩
            · simp at h'
            · simp only [Value.slice.injEq, Option.some.injEq, Addr.mk.injEq, and_true, true_and] at h'
              obtain ⟨rfl, rfl⟩ := h'
              exact (Array.getElem?_eq_some_iff.1 hg).1
          · rw [Nat.zero_add, hown.cellAt i (by omega)]
            exact hx i hi
end Go.Proofs.Qxb6606341a
