/-
  Seat b6604322a: the plain law: the rank that the tree reckons is the number of its entries below x; no Go in sight.
-/
import Derived.Test.Qxb6604322aZz
namespace Go.Proofs.Qxb6604322a
open Go.ChangeShapes Go.WideShapes Go.ChangeAt Go.RowKit

/-- how many of l are below x. -/
def cnt (x : Int) (l : List Int) : Nat := l.countP (fun a => decide (a < x))
theorem cnt_append (x : Int) (a b : List Int) : cnt x (a ++ b) = cnt x a + cnt x b := List.countP_append
theorem cnt_all {x : Int} {l : List Int} (h : ∀ a, a ∈ l → a < x) : cnt x l = l.length := by
  unfold cnt
  rw [List.countP_eq_length]
  intro a ha
  exact decide_eq_true (h a ha)
theorem cnt_none {x : Int} {l : List Int} (h : ∀ a, a ∈ l → x ≤ a) : cnt x l = 0 := by
  unfold cnt
  rw [List.countP_eq_zero]
  intro a ha
  have := h a ha
  simp
  omega

/-- parts laid behind one another. -/
def flat (P : Nat → List Int) : Nat → List Int
  | 0 => []
  | k + 1 => flat P k ++ P k

theorem mem_flat {P : Nat → List Int} {a : Int} : ∀ {k : Nat}, a ∈ flat P k → ∃ i, i < k ∧ a ∈ P i
  | 0, h => by cases h
  | k + 1, h => by
    rcases List.mem_append.1 h with h | h
    · obtain ⟨i, hi, ha⟩ := mem_flat h
      exact ⟨i, by omega, ha⟩
    · exact ⟨k, by omega, h⟩
theorem flat_mem {P : Nat → List Int} {a : Int} : ∀ {k i : Nat}, i < k → a ∈ P i → a ∈ flat P k
  | 0, i, h, _ => by omega
  | k + 1, i, h, ha => by
    by_cases e : i = k
    · subst e; exact List.mem_append.2 (.inr ha)
    · exact List.mem_append.2 (.inl (flat_mem (by omega) ha))
theorem flat_part {P : Nat → List Int} : ∀ {k : Nat}, (flat P k).Pairwise (· < ·) → ∀ i, i < k → (P i).Pairwise (· < ·)
  | 0, _, i, h => by omega
  | k + 1, hp, i, h => by
    obtain ⟨h1, h2, h3⟩ := List.pairwise_append.1 hp
    by_cases e : i = k
    · subst e; exact h2
    · exact flat_part h1 i (by omega)
theorem flat_cross {P : Nat → List Int} : ∀ {k : Nat}, (flat P k).Pairwise (· < ·) → ∀ i j, i < j → j < k → ∀ a, a ∈ P i → ∀ b, b ∈ P j → a < b
  | 0, _, i, j, _, h => by omega
  | k + 1, hp, i, j, hij, h => by
    obtain ⟨h1, h2, h3⟩ := List.pairwise_append.1 hp
    intro a ha b hb
    by_cases e : j = k
    · subst e; exact h3 a (flat_mem hij ha) b hb
    · exact flat_cross h1 i j hij (by omega) a ha b hb
theorem cnt_flat (x : Int) (P : Nat → List Int) : ∀ k, cnt x (flat P k) = sumTo (fun i => cnt x (P i)) k
  | 0 => rfl
  | k + 1 => by rw [flat, cnt_append, cnt_flat x P k, sumTo_succ]
theorem sumTo_congr {f g : Nat → Nat} : ∀ {k : Nat}, (∀ i, i < k → f i = g i) → sumTo f k = sumTo g k
  | 0, _ => rfl
  | k + 1, h => by rw [sumTo_succ, sumTo_succ, sumTo_congr (fun i hi => h i (by omega)), h k (by omega)]
theorem sumTo_tail {f : Nat → Nat} {i : Nat} : ∀ {k : Nat}, i ≤ k → (∀ j, i ≤ j → j < k → f j = 0) → sumTo f k = sumTo f i
  | 0, hi, _ => by
    have : i = 0 := by omega
    subst this; rfl
  | k + 1, hi, h => by
    by_cases e : i = k + 1
    · subst e; rfl
    · rw [sumTo_succ, h k (by omega) (by omega), sumTo_tail (k := k) (by omega) (fun j h1 h2 => h j h1 (by omega))]
      omega

/-- L i is the largest of part i. -/
def Tops (P : Nat → List Int) (L : Nat → Int) (s : Nat) : Prop := ∀ i, i < s → L i ∈ P i ∧ ∀ a, a ∈ P i → a ≤ L i

theorem tops_sort {P : Nat → List Int} {L : Nat → Int} {s : Nat} (hp : (flat P s).Pairwise (· < ·)) (ht : Tops P L s) : ∀ i j, i ≤ j → j < s → L i ≤ L j := by
  intro i j hij hj
  by_cases e : i = j
  · subst e; exact Int.le_refl _
  · exact Int.le_of_lt (flat_cross hp i j (by omega) hj _ (ht i (by omega)).1 _ (ht j hj).1)

theorem isLb_of_sorted {L : Nat → Int} {x : Int} : ∀ {s : Nat}, (∀ i j, i ≤ j → j < s → L i ≤ L j) → IsLb L s x (lbF L x s)
  | 0, _ => ⟨Nat.le_refl _, fun j h => absurd h (Nat.not_lt_zero _), fun j _ h => absurd h (Nat.not_lt_zero _)⟩
  | s + 1, h => by
    obtain ⟨h1, h2, h3⟩ := isLb_of_sorted (x := x) (s := s) (fun i j hij hj => h i j hij (by omega))
    rw [lbF]
    by_cases hx : L s < x
    · rw [if_pos hx]
      have he : lbF L x s = s := lbF_of_lt (fun j hj => by have := h j s (by omega) (by omega); omega)
      rw [he]
      exact ⟨Nat.le_refl _, fun j hj => by have := h j s (by omega) (by omega); omega, fun j h1 h2 => by omega⟩
    · rw [if_neg hx]
      refine ⟨by omega, fun j hj => h2 j (by omega), fun j hj1 hj2 => ?_⟩
      by_cases e : j = s
      · subst e; omega
      · exact h3 j (by omega) (by omega)

/-- THE SEARCH: the parts ahead of the one in which x falls count whole, those behind it not at all. -/
theorem cnt_search (x : Int) {P : Nat → List Int} {L : Nat → Int} {s : Nat} (hp : (flat P s).Pairwise (· < ·)) (ht : Tops P L s) :
    cnt x (flat P s) = sumTo (fun i => (P i).length) (lbF L x s) + if lbF L x s < s then cnt x (P (lbF L x s)) else 0 := by
  obtain ⟨h1, h2, h3⟩ := isLb_of_sorted (x := x) (tops_sort hp ht)
  generalize lbF L x s = i at h1 h2 h3 ⊢
  have hall : sumTo (fun i => cnt x (P i)) i = sumTo (fun i => (P i).length) i :=
    sumTo_congr (fun j hj => cnt_all (fun a ha => by have := (ht j (by omega)).2 a ha; have := h2 j hj; omega))
  rw [cnt_flat]
  by_cases hi : i < s
  · rw [if_pos hi, sumTo_tail (i := i + 1) (by omega) (fun j hj1 hj2 => cnt_none (fun a ha => by
      have := flat_cross hp i j (by omega) hj2 _ (ht i hi).1 a ha
      have := h3 i (Nat.le_refl _) hi
      omega)), sumTo_succ, hall]
  · have e : i = s := by omega
    subst e
    rw [if_neg hi, hall]
    omega

theorem cnt_leaf (x : Int) (X : Nat → Int) : ∀ n, cnt x (leafL X n) = lbF X x n
  | 0 => rfl
  | n + 1 => by
    rw [leafL, cnt_append, cnt_leaf x X n, lbF]
    congr 1
    by_cases h : X n < x
    · rw [if_pos h]; simp [cnt, h]
    · rw [if_neg h]; simp [cnt, h]
theorem mem_leaf {X : Nat → Int} {a : Int} : ∀ {n : Nat}, a ∈ leafL X n → ∃ i, i < n ∧ a = X i
  | 0, h => by cases h
  | n + 1, h => by
    rcases List.mem_append.1 h with h | h
    · obtain ⟨i, hi, ha⟩ := mem_leaf h
      exact ⟨i, by omega, ha⟩
    · exact ⟨n, by omega, by simpa using h⟩
theorem leaf_mem {X : Nat → Int} : ∀ {n i : Nat}, i < n → X i ∈ leafL X n
  | 0, i, h => by omega
  | n + 1, i, h => by
    by_cases e : i = n
    · subst e; exact List.mem_append.2 (.inr (by simp))
    · exact List.mem_append.2 (.inl (leaf_mem (by omega)))
theorem leaf_sorted {X : Nat → Int} : ∀ {n : Nat}, (leafL X n).Pairwise (· < ·) → ∀ p q, p ≤ q → q < n → X p ≤ X q
  | 0, _, p, q, _, h => by omega
  | n + 1, hp, p, q, hpq, h => by
    obtain ⟨h1, _, h3⟩ := List.pairwise_append.1 hp
    by_cases e : q = n
    · subst e
      by_cases e' : p = q
      · subst e'; exact Int.le_refl _
      · exact Int.le_of_lt (h3 _ (leaf_mem (by omega)) _ (by simp))
    · exact leaf_sorted h1 p q hpq (by omega)

/-- leaves whose last numbers are L. -/
theorem tops_leaves {N : Nat → Nat} {X : Nat → Nat → Int} {L : Nat → Int} {s : Nat} (hp : (flat (fun i => leafL (X i) (N i)) s).Pairwise (· < ·)) (h : ∀ i, i < s → 0 < N i ∧ X i (N i - 1) = L i) : Tops (fun i => leafL (X i) (N i)) L s := by
  intro i hi
  obtain ⟨h1, h2⟩ := h i hi
  refine ⟨by rw [← h2]; exact leaf_mem (by omega), fun a ha => ?_⟩
  obtain ⟨j, hj, rfl⟩ := mem_leaf ha
  rw [← h2]
  exact leaf_sorted (flat_part hp i hi) j _ (by omega) (by omega)

theorem kids_flat (M : Nat → Nat) (Z : Nat → Nat → Int) : ∀ c, kidsL M Z c = flat (fun j => leafL (Z j) (M j)) c
  | 0 => rfl
  | c + 1 => by rw [kidsL, kids_flat M Z c, flat]
theorem ent_flat (low : Bool) (N : Nat → Nat) (X : Nat → Nat → Int) (S : Nat → Int) (M : Nat → Nat → Nat) (Z : Nat → Nat → Nat → Int) : ∀ k, entL low N X S M Z k = flat (partL low N X S M Z) k
  | 0 => rfl
  | k + 1 => by rw [entL, ent_flat low N X S M Z k, flat]

theorem rankLow_cnt (x : Int) {N : Nat → Nat} {X : Nat → Nat → Int} {L : Nat → Int} {s : Nat} (hp : (flat (fun i => leafL (X i) (N i)) s).Pairwise (· < ·)) (h : ∀ i, i < s → 0 < N i ∧ X i (N i - 1) = L i) :
    rankLow s L N X x = cnt x (flat (fun i => leafL (X i) (N i)) s) := by
  rw [cnt_search x hp (tops_leaves hp h)]
  unfold rankLow
  simp only [cnt_leaf, leafL_length]

theorem lowData_of {N : Nat → Nat} {X : Nat → Nat → Int} {L : Nat → Int} {s : Nat} (hs : s ≤ 16) (hsm : sumTo N 16 ≤ 131072) (hp : (flat (fun i => leafL (X i) (N i)) s).Pairwise (· < ·)) (h : ∀ i, i < s → 0 < N i ∧ X i (N i - 1) = L i) : LowData s L N X :=
  ⟨hs, tops_sort hp (tops_leaves hp h), fun i hi => leaf_sorted (flat_part hp i hi), hsm⟩

/-- strictly ascending, place by place, is pairwise. -/
theorem asc_pairwise : ∀ (l : List Int), Asc (fun i => l.getD i 0) l.length → l.Pairwise (· < ·)
  | [], _ => List.Pairwise.nil
  | [a], _ => by simp
  | a :: b :: l, h => by
    have h1 : (b :: l).Pairwise (· < ·) := asc_pairwise (b :: l) (fun i hi => by
      have := h (i + 1) (by simp at hi ⊢; omega)
      simpa using this)
    have h0 : a < b := by simpa using h 0 (by simp)
    refine List.pairwise_cons.2 ⟨fun c hc => ?_, h1⟩
    rcases List.mem_cons.1 hc with rfl | hc
    · exact h0
    · exact Int.lt_trans h0 ((List.pairwise_cons.1 h1).1 c hc)

/-- in an ascending list the k-th has k below it. -/
theorem cnt_at : ∀ {l : List Int}, l.Pairwise (· < ·) → ∀ k, k < l.length → cnt (l.getD k 0) l = k ∧ cnt (l.getD k 0 + 1) l = k + 1
  | [], _, k, h => by simp at h
  | a :: l, hp, k, h => by
    obtain ⟨h1, h2⟩ := List.pairwise_cons.1 hp
    match k, h with
    | 0, _ =>
      have e0 : cnt a l = 0 := cnt_none (fun b hb => Int.le_of_lt (h1 b hb))
      have e1 : cnt (a + 1) l = 0 := cnt_none (fun b hb => by have := h1 b hb; omega)
      unfold cnt at *
      constructor
      · simp [e0]
      · simp [List.countP_cons, e1]; omega
    | k + 1, h =>
      obtain ⟨g1, g2⟩ := cnt_at h2 k (by simpa using h)
      have hm : l.getD k 0 ∈ l := by
        rw [List.getD_eq_getElem?_getD, List.getElem?_eq_getElem (by simpa using h)]
        exact List.getElem_mem _
      have ha := h1 _ hm
      have e : (a :: l).getD (k + 1) 0 = l.getD k 0 := rfl
      rw [e]
      unfold cnt at *
      constructor
      · rw [List.countP_cons, g1, if_pos (decide_eq_true ha)]
      · rw [List.countP_cons, g2, if_pos (decide_eq_true (by omega))]

theorem part_low (N : Nat → Nat) (X : Nat → Nat → Int) (S : Nat → Int) (M : Nat → Nat → Nat) (Z : Nat → Nat → Nat → Int) : partL true N X S M Z = fun i => leafL (X i) (N i) := by
  funext i
  simp [partL]
theorem part_two (N : Nat → Nat) (X : Nat → Nat → Int) (S : Nat → Int) (M : Nat → Nat → Nat) (Z : Nat → Nat → Nat → Int) : partL false N X S M Z = fun i => kidsL (M i) (Z i) (S i).toNat := by
  funext i
  simp [partL]

/-- a lowest root. -/
theorem low_law (x : Int) {s : Nat} {L K : Nat → Int} {N : Nat → Nat} {X : Nat → Nat → Int} {S : Nat → Int} {T : Nat → Nat → Int} {M : Nat → Nat → Nat} {Z : Nat → Nat → Nat → Int} (hs : s ≤ 16) (hsm : Small N M)
    (hv : ∀ i, i < s → VldAt true L K N X S T M Z i) (hp : (entL true N X S M Z s).Pairwise (· < ·)) : LowData s L N X ∧ rankLow s L N X x = cnt x (entL true N X S M Z s) := by
  rw [ent_flat, part_low] at hp
  rw [ent_flat, part_low]
  have h : ∀ i, i < s → 0 < N i ∧ X i (N i - 1) = L i := fun i hi => by simpa [VldAt] using hv i hi
  refine ⟨lowData_of hs ?_ hp h, rankLow_cnt x hp h⟩
  have h1 : totTo N M 16 ≤ 131072 := hsm
  have h2 : ∀ k, sumTo N k ≤ totTo N M k := fun k => by
    induction k with
    | zero => exact Nat.le_refl _
    | succ k ih => rw [sumTo_succ, totTo_succ]; omega
  have := h2 16
  omega

/-- a root above lowest nodes. -/
theorem two_law (x : Int) {s : Nat} {L K : Nat → Int} {N : Nat → Nat} {X : Nat → Nat → Int} {S : Nat → Int} {T : Nat → Nat → Int} {M : Nat → Nat → Nat} {Z : Nat → Nat → Nat → Int} (hs : s ≤ 16) (hsm : Small N M)
    (hv : ∀ i, i < s → VldAt false L K N X S T M Z i) (hp : (entL false N X S M Z s).Pairwise (· < ·)) :
    (∀ i j, i ≤ j → j < s → L i ≤ L j) ∧ sumTo (fun i => sumTo (M i) (S i).toNat) s ≤ 131072 ∧ (∀ i, i < s → K i = ((sumTo (M i) (S i).toNat : Nat) : Int)) ∧ (∀ i, i < s → S i = ((S i).toNat : Int)) ∧ (∀ i, i < s → LowData (S i).toNat (T i) (M i) (Z i)) ∧
    rankTwo s L (fun i => sumTo (M i) (S i).toNat) (fun i => (S i).toNat) T M Z x = cnt x (entL false N X S M Z s) := by
  rw [ent_flat, part_two] at hp
  rw [ent_flat, part_two]
  have h : ∀ i, i < s → 1 ≤ S i ∧ S i ≤ 16 ∧ (∀ j, j < (S i).toNat → 0 < M i j ∧ Z i j (M i j - 1) = T i j) ∧ T i ((S i).toNat - 1) = L i ∧ K i = sumTo (M i) (S i).toNat := fun i hi => by
    have := hv i hi
    unfold VldAt at this
    rwa [if_neg (by simp)] at this
  have hpk : ∀ i, i < s → (flat (fun j => leafL (Z i j) (M i j)) (S i).toNat).Pairwise (· < ·) := fun i hi => by
    have := flat_part hp i hi
    simp only [kids_flat] at this
    exact this
  have hsum : ∀ i, i < s → sumTo (M i) 16 ≤ 131072 := fun i hi => small_sum hsm i (by omega)
  have hlow : ∀ i, i < s → LowData (S i).toNat (T i) (M i) (Z i) := fun i hi => lowData_of (by have := h i hi; omega) (hsum i hi) (hpk i hi) (h i hi).2.2.1
  have htops : Tops (fun i => kidsL (M i) (Z i) (S i).toNat) L s := fun i hi => by
    obtain ⟨g1, g2, g3, g4, g5⟩ := h i hi
    have ht := tops_leaves (hpk i hi) g3
    simp only [kids_flat]
    refine ⟨flat_mem (i := (S i).toNat - 1) (by omega) ?_, fun a ha => ?_⟩
    · rw [← g4]; exact (ht _ (by omega)).1
    · obtain ⟨j, hj, ha⟩ := mem_flat ha
      have h1 := (ht j hj).2 a ha
      have h2 := tops_sort (hpk i hi) ht j ((S i).toNat - 1) (by omega) (by omega)
      rw [← g4]
      exact Int.le_trans h1 h2
  refine ⟨tops_sort hp htops, ?_, fun i hi => (h i hi).2.2.2.2, fun i hi => by have := h i hi; omega, hlow, ?_⟩
  · have h1 : totTo N M 16 ≤ 131072 := hsm
    have h2 : ∀ k, k ≤ s → sumTo (fun i => sumTo (M i) (S i).toNat) k ≤ totTo N M k := fun k hk => by
      induction k with
      | zero => exact Nat.le_refl _
      | succ k ih =>
        have ih' := ih (by omega)
        have := sumTo_mono (M k) (n := (S k).toNat) (m := 16) (by have := h k (by omega); omega)
        rw [sumTo_succ, totTo_succ]
        omega
    have := h2 s (Nat.le_refl _)
    have := totTo_mono N M hs
    omega
  · rw [cnt_search x hp htops]
    unfold rankTwo
    simp only [kidsL_length]
    by_cases hi : lbF L x s < s
    · rw [if_pos hi, if_pos hi, rankLow_cnt x (hpk _ hi) (h _ hi).2.2.1, kids_flat]
    · rw [if_neg hi, if_neg hi]
end Go.Proofs.Qxb6604322a
