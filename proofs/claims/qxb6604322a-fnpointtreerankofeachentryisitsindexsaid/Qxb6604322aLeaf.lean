/-
  Seat b6604322a: zzCopy64 (24), zzAscending64 (35, strict), slices.BinarySearch (39).
-/
import Derived.Test.Qxb6604322aBase
namespace Go.Proofs.Qxb6604322a
open Go.ChangeShapes Go.WideShapes Go.ChangeAt Go.RowKit
set_option linter.unusedVariables false

theorem info26 : (Try.prog.info? 26).map (fun i => (i.zero, i.size, i.bytes)) = some (some (.int .u64 0), 1, 8) := by kernel_rfl

theorem clone_step {w wr : World} {n k : Nat} {X : Nat → Int} {xs : List Value} (hk : k < n)
    (hown : wr.ownsRow w.heap.size 26 1 (.slice (some ⟨w.heap.size, 0, none⟩) n n) n xs) (hx : ∀ i, i < k → xs[i]? = some (.int .u64 (X i))) (hb : Below w.heap.size w wr) :
    ∃ xs', (wr.setCell ⟨w.heap.size, k, none⟩ (.int .u64 (X k))).ownsRow w.heap.size 26 1 (.slice (some ⟨w.heap.size, 0, none⟩) n n) n xs' ∧ (∀ i, i < k + 1 → xs'[i]? = some (.int .u64 (X i))) ∧
      Below w.heap.size w (wr.setCell ⟨w.heap.size, k, none⟩ (.int .u64 (X k))) := by
  refine ⟨_, (hown.stored k _).1, ?_, hb.setCell (Nat.le_refl _) _⟩
  intro i hi
  have hl : xs.length = n := by simpa using hown.1
  rw [List.getElem?_set]
  by_cases e : k = i
  · subst e
    simp [hl, hk]
  · rw [if_neg e]
    exact hx i (by omega)

set_option maxHeartbeats 400000 in
theorem copy_any (a : Option Addr) (n c : Nat) (X : Nat → Int) (w : World) (hB : IsU w a n X) (hn : n ≤ 131072) :
    Calls Try.prog 24 #[.slice a n c] w fun e w' => ∃ a', e = .returned (.slice a' n n) ∧ IsU w' a' n X ∧ (∀ x, a' = some x → w.heap.size ≤ x.block) ∧ Below w.heap.size w w' := by
  have heq := fun (w : World) a n c => Lib.run_eql_slice_nil (P := Try.prog) w 29 26 a n c 0 0 Try.underlying29
  obtain ⟨i0, hi, hz0, hz1, hz2⟩ := info_parts info26
  cases a with
  | none =>
    have h0 : n = 0 := by rcases hB with h | ⟨b, off, h, _⟩ <;> simp_all
    subst h0
    go_enter Try.func24, Try.ntmps24
    go_wp2
    go_ret
    exact ⟨none, rfl, .inl rfl, (fun x h => by cases h), Below.refl _ _⟩
  | some x =>
    go_enter Try.func24, Try.ntmps24
    go_wp2_with (at_make; refine wpList_make_full _ rfl _ _ 29 rfl w.heap.size 26 i0 (.int .u64 0) 1 Try.underlying29 hi hz0 hz1 .i64 .i64 _ _ n rfl rfl (by omega) (by omega) (by rw [hz2]; omega) (by unfold maxLen; omega) (Nat.le_refl _) ?_; intro w0 hown0 hgrow0)
    have hb0 : Below w.heap.size w w0 := (Below.refl _ _).grown hgrow0 (Nat.le_refl _) (fun k h => by cases h)
    generalize hxs0 : (madeCells (Value.int IntKind.u64 0).cells (n * 1)).toList = xs0 at hown0
    clear hxs0
    go_loopw [4] (fun i wr => ∃ k : Nat, ∃ xs : List Value, k ≤ n ∧ i = .int .i64 k ∧ wr.ownsRow w.heap.size 26 1 (.slice (some ⟨w.heap.size, 0, none⟩) n n) n xs ∧ (∀ i, i < k → xs[i]? = some (.int .u64 (X i))) ∧ Below w.heap.size w wr) (fun i _ => n - (intOf i).toNat)
    case atStart => exact ⟨0, xs0, Nat.zero_le _, rfl, hown0, fun i h => absurd h (Nat.not_lt_zero _), hb0⟩
    case round =>
      obtain ⟨k, xs, hk, rfl, hown, hx, hb⟩ := hrel
      by_cases hlt : k < n
      · rcases hB with hB | ⟨b, off, hae, hbl, hc⟩
        · omega
        · simp only [Option.some.injEq] at hae
          subst hae
          have hck : wr.cell? ⟨b, off + k, none⟩ = some (.int .u64 (X k)) := (hb.cell (p := ⟨b, off + k, none⟩) hbl).trans (hc k hlt)
          have hl : xs.length = n := by simpa using hown.1
          have hcell : wr.cell? ⟨w.heap.size, k, none⟩ = some xs[k] := by rw [hown.cellAt k (by omega)]; simp [hl, hlt]
          have hfz := hown.frozenAt k
          have R := clone_step hlt hown hx hb
          clear hown hx hc hb
          go_wp2
          go_roundw
          case rel =>
            obtain ⟨xs', r1, r2, r3⟩ := R
            exact ⟨k + 1, xs', by omega, by go_num, r1, r2, r3⟩
          case measure => simp [intOf]; omega
      · have e : k = n := by omega
        subst e
        go_wp2
        go_ret
        refine ⟨_, rfl, ?_, (fun x h => by cases h; exact Nat.le_refl _), hb⟩
        by_cases h0 : k = 0
        · exact .inl h0
        · refine .inr ⟨w.heap.size, 0, rfl, ?_, fun i hi => ?_⟩
          · rcases hown.2 with ⟨h', _⟩ | ⟨g', cap', cur, h', _, hg, _⟩
            · simp at h'
            · simp only [Value.slice.injEq, Option.some.injEq, Addr.mk.injEq, and_true, true_and] at h'
              obtain ⟨rfl, rfl⟩ := h'
              exact (Array.getElem?_eq_some_iff.1 hg).1
          · rw [Nat.zero_add, hown.cellAt i (by omega)]
            exact hx i hi

/-- strictly ascending: each of the first n above the one ahead of it. -/
def Asc (X : Nat → Int) (n : Nat) : Prop := ∀ i, i + 1 < n → X i < X (i + 1)

set_option maxHeartbeats 400000 in
theorem asc_any (a : Option Addr) (n c : Nat) (X : Nat → Int) (w : World) (h : IsU w a n X) (hn : n ≤ 131072) :
    Calls Try.prog 35 #[.slice a n c, .bool true] w fun e w' => (∃ r : Bool, e = .returned (.bool r) ∧ (r = true → Asc X n)) ∧ ∃ m, w' = w.drewN m := by
  go_enter Try.func35, Try.ntmps35
  go_wp2
  go_loopw [5] (fun i wr => ∃ k m : Nat, (k ≤ n ∨ k = 0) ∧ i = .int .i64 ((k : Int) + 1) ∧ (∀ i, i < k → i + 1 < n → X i < X (i + 1)) ∧ wr = w.drewN m) (fun i _ => n + 1 - (intOf i).toNat)
  case atStart => exact ⟨0, 0, .inr rfl, rfl, fun i h => absurd h (Nat.not_lt_zero _), rfl⟩
  case round =>
    obtain ⟨k, m, hk, rfl, has, rfl⟩ := hrel
    have HAS : Hid (∀ i, i < k → i + 1 < n → X i < X (i + 1)) := has
    clear has
    by_cases hlt : k + 1 < n
    · rcases h with h | ⟨b, off, rfl, hb, hc⟩
      · omega
      have h1 := hc k (by omega)
      have h2 := hc (k + 1) (by omega)
      clear hc
      by_cases hx : X (k + 1) < X k
      · have hd : decide (X (k + 1) < X k) = true := decide_eq_true hx
        go_wp2
        go_quiet (fail)
        go_wp2
        go_ret
        exact ⟨⟨false, rfl, fun h => by cases h⟩, _, World.drewN_drewN _ _ _⟩
      · have hd : decide (X (k + 1) < X k) = false := decide_eq_false hx
        by_cases he : X (k + 1) = X k
        · have hq : (X (k + 1) == X k) = true := by simp [he]
          clear he
          go_wp2
          go_quiet (fail)
          go_wp2
          go_ret
          exact ⟨⟨false, rfl, fun h => by cases h⟩, _, World.drewN_drewN _ _ _⟩
        · have hq : (X (k + 1) == X k) = false := by simp [he]
          have hlt' : X k < X (k + 1) := by omega
          have HAS' : Hid (∀ i, i < k + 1 → i + 1 < n → X i < X (i + 1)) := fun i hi h1 => by
            by_cases e : i = k
            · subst e; exact hlt'
            · exact HAS.out i (by omega) h1
          clear HAS he hlt'
          go_wp2
          go_quiet (fail)
          go_wp2
          go_roundw
          case rel => exact ⟨k + 1, _, by omega, by go_num, HAS'.out, rfl⟩
          case measure => simp [intOf]; omega
    · go_wp2
      go_ret
      exact ⟨⟨true, rfl, fun _ i hi => HAS.out i (by omega) hi⟩, _, rfl⟩

/-- i is the number of those below x among the first n of an ascending row. -/
def IsLb (X : Nat → Int) (n : Nat) (x : Int) (i : Nat) : Prop := i ≤ n ∧ (∀ j, j < i → X j < x) ∧ ∀ j, i ≤ j → j < n → x ≤ X j

/-- what BinarySearch hands back. -/
def BsOut (X : Nat → Int) (n : Nat) (x : Int) (e : Ending) : Prop := ∃ (i : Nat) (f : Bool), e = .returned (.tuple #[.int .i64 i, .bool f]) ∧ IsLb X n x i ∧ f = (decide (i < n) && (X i == x))

set_option maxHeartbeats 400000 in
theorem bsearch_any (a : Option Addr) (n c : Nat) (X : Nat → Int) (w : World) (h : IsU w a n X) (hn : n ≤ 131072) (hs : ∀ i j, i ≤ j → j < n → X i ≤ X j) (x : Int) :
    Calls Try.prog 39 #[.slice a n c, .int .u64 x] w fun e w' => BsOut X n x e ∧ w' = w := by
  have HS : Hid (∀ i j, i ≤ j → j < n → X i ≤ X j) := hs
  clear hs
  go_enter Try.func39, Try.ntmps39
  go_wp2
  go_loop [7, 8] (fun i j => ∃ l r : Nat, l ≤ r ∧ r ≤ n ∧ i = .int .i64 l ∧ j = .int .i64 r ∧ Hid (∀ k, k < l → X k < x) ∧ Hid (∀ k, r ≤ k → k < n → x ≤ X k)) (fun i j => (intOf j - intOf i).toNat)
  case atStart => exact ⟨0, n, by omega, by omega, rfl, rfl, fun k h => absurd h (Nat.not_lt_zero _), fun k h1 h2 => absurd h1 (by omega)⟩
  case round =>
    obtain ⟨l, r, hlr, hrn, rfl, rfl, hlo, hhi⟩ := hrel
    by_cases hlt : l < r
    · rcases h with h | ⟨b, off, rfl, hb, hc⟩
      · omega
      have h1 := hc ((l + r) / 2) (by omega)
      clear hc
      by_cases hx : X ((l + r) / 2) < x
      · have hd : decide (X ((l + r) / 2) < x) = true := decide_eq_true hx
        have HX : Hid (X ((l + r) / 2) < x) := hx
        clear hx
        go_wp2_with (go_at_call 41; refine (less_any _ _ _).mono ?_; rintro e w' ⟨rfl, rfl⟩)
        go_round
        case rel =>
          refine ⟨(l + r) / 2 + 1, r, by omega, by omega, by go_num, rfl, fun k hk => ?_, hhi⟩
          have := HS.out k ((l + r) / 2) (by omega) (by omega)
          have := HX.out
          omega
        case measure => simp [intOf]; omega
      · have hd : decide (X ((l + r) / 2) < x) = false := decide_eq_false hx
        have HX : Hid (¬ X ((l + r) / 2) < x) := hx
        clear hx
        go_wp2_with (go_at_call 41; refine (less_any _ _ _).mono ?_; rintro e w' ⟨rfl, rfl⟩)
        go_round
        case rel =>
          refine ⟨l, (l + r) / 2, by omega, by omega, rfl, by go_num, hlo, fun k h1 h2 => ?_⟩
          have := HS.out ((l + r) / 2) k (by omega) (by omega)
          have := HX.out
          omega
        case measure => simp [intOf]; omega
    · have e : l = r := by omega
      subst e
      by_cases hln : l < n
      · rcases h with h | ⟨b, off, rfl, hb, hc⟩
        · omega
        have h1 := hc l (by omega)
        clear hc
        cases hq : (X l == x) with
        | true =>
          go_wp2
          go_ret2
          exact ⟨⟨l, true, rfl, ⟨by omega, hlo.out, hhi.out⟩, by simp [hln, hq]⟩, rfl⟩
        | false =>
          go_wp2_with (go_at_call 42; refine (isNaN42 _ _).mono ?_; rintro e w' ⟨rfl, rfl⟩)
          go_ret2
          exact ⟨⟨l, false, rfl, ⟨by omega, hlo.out, hhi.out⟩, by simp [hln, hq]⟩, rfl⟩
      · go_wp2
        go_ret2
        exact ⟨⟨l, false, rfl, ⟨by omega, hlo.out, hhi.out⟩, by simp [hln]⟩, rfl⟩

/-- how many of the first n are below x. -/
def lbF (X : Nat → Int) (x : Int) : Nat → Nat
  | 0 => 0
  | n + 1 => lbF X x n + if X n < x then 1 else 0
theorem lbF_of_lt {X : Nat → Int} {x : Int} : ∀ {n : Nat}, (∀ j, j < n → X j < x) → lbF X x n = n
  | 0, _ => rfl
  | n + 1, h => by
    rw [lbF, lbF_of_lt (fun j hj => h j (by omega)), if_pos (h n (by omega))]
theorem lbF_of_ge {X : Nat → Int} {x : Int} {i : Nat} : ∀ {n : Nat}, i ≤ n → (∀ j, i ≤ j → j < n → x ≤ X j) → lbF X x n = lbF X x i
  | 0, hi, _ => by
    have : i = 0 := by omega
    subst this; rfl
  | n + 1, hi, h => by
    by_cases e : i = n + 1
    · subst e; rfl
    · have h' := h n (by omega) (by omega)
      rw [lbF, if_neg (by omega), lbF_of_ge (n := n) (by omega) (fun j h1 h2 => h j h1 (by omega))]
      rfl
theorem IsLb.eq {X : Nat → Int} {n : Nat} {x : Int} {i : Nat} (h : IsLb X n x i) : lbF X x n = i := by
  rw [lbF_of_ge h.1 h.2.2, lbF_of_lt h.2.1]
/-- found? -/
def fndF (X : Nat → Int) (x : Int) (n : Nat) : Bool := decide (lbF X x n < n) && (X (lbF X x n) == x)

theorem bsearch_fn (a : Option Addr) (n c : Nat) (X : Nat → Int) (w : World) (h : IsU w a n X) (hn : n ≤ 131072) (hs : ∀ i j, i ≤ j → j < n → X i ≤ X j) (x : Int) :
    Calls Try.prog 39 #[.slice a n c, .int .u64 x] w fun e w' => e = .returned (.tuple #[.int .i64 (lbF X x n), .bool (fndF X x n)]) ∧ w' = w :=
  (bsearch_any a n c X w h hn hs x).mono fun e w' ⟨⟨i, f, he, hi, hf⟩, hw⟩ => ⟨by rw [he, hf, fndF, hi.eq], hw⟩
theorem isLb_lbF {X : Nat → Int} {x : Int} {n i : Nat} (h : IsLb X n x i) : IsLb X n x (lbF X x n) := by rw [h.eq]; exact h
theorem lbF_le (X : Nat → Int) (x : Int) : ∀ n, lbF X x n ≤ n
  | 0 => Nat.le_refl _
  | n + 1 => by
    have := lbF_le X x n
    rw [lbF]
    split <;> omega
end Go.Proofs.Qxb6604322a
