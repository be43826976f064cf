/-
  Seat b6606341a: the plain law: no Go in sight.
-/
import Derived.Test.Qxb6606341aBase
namespace Go.Proofs.Qxb6606341a

/-- the first p bytes are alike. -/
def Pre (X Y : Nat → Int) (p : Nat) : Prop := ∀ j, j < p → X j = Y j
/-- the last t bytes are alike. -/
def Suf (X Y : Nat → Int) (n0 n1 t : Nat) : Prop := ∀ j, j < t → X (n0 - 1 - j) = Y (n1 - 1 - j)
/-- both texts start a line t bytes ahead of their end. -/
def Both (X Y : Nat → Int) (n0 n1 t : Nat) : Prop := SL X (n0 - t) = true ∧ SL Y (n1 - t) = true
/-- no place s with t < s ≤ u at which both start a line. -/
def NoBoth (X Y : Nat → Int) (n0 n1 t u : Nat) : Prop := ∀ s, t < s → s ≤ u → ¬ Both X Y n0 n1 s
/-- the longest common prefix. -/
def IsP (X Y : Nat → Int) (n0 n1 p : Nat) : Prop := p ≤ n0 ∧ p ≤ n1 ∧ Pre X Y p ∧ (p < n0 → p < n1 → X p ≠ Y p)
/-- the longest common suffix behind the prefix. -/
def IsT (X Y : Nat → Int) (n0 n1 p t : Nat) : Prop := p + t ≤ n0 ∧ p + t ≤ n1 ∧ Suf X Y n0 n1 t ∧ (p + t < n0 → p + t < n1 → X (n0 - 1 - t) ≠ Y (n1 - 1 - t))
/-- the tail that is kept. -/
def IsK (X Y : Nat → Int) (n0 n1 t0 t : Nat) : Prop := t ≤ t0 ∧ (0 < t → Both X Y n0 n1 t) ∧ NoBoth X Y n0 n1 t t0
def CL (X Y : Nat → Int) (n0 n1 st en ee : Nat) : Prop :=
  ∃ p t0 t, IsP X Y n0 n1 p ∧ IsT X Y n0 n1 p t0 ∧ IsK X Y n0 n1 t0 t ∧ st = lastNL X p ∧ en = n0 - t ∧ ee = n1 - t

theorem Pre.succ {X Y : Nat → Int} {p : Nat} (h : Pre X Y p) (e : X p = Y p) : Pre X Y (p + 1) := by
  intro j hj
  by_cases h' : j = p
  · subst h'; exact e
  · exact h j (by omega)
theorem Suf.succ {X Y : Nat → Int} {n0 n1 t : Nat} (h : Suf X Y n0 n1 t) (e : X (n0 - 1 - t) = Y (n1 - 1 - t)) : Suf X Y n0 n1 (t + 1) := by
  intro j hj
  by_cases h' : j = t
  · subst h'; exact e
  · exact h j (by omega)

theorem IsP.uniq {X Y : Nat → Int} {n0 n1 p q : Nat} (hp : IsP X Y n0 n1 p) (hq : IsP X Y n0 n1 q) : p = q := by
  obtain ⟨a1, a2, a3, a4⟩ := hp
  obtain ⟨b1, b2, b3, b4⟩ := hq
  rcases Nat.lt_trichotomy p q with h | h | h
  · exact absurd (b3 p h) (a4 (by omega) (by omega))
  · exact h
  · exact absurd (a3 q h) (b4 (by omega) (by omega))
theorem IsT.uniq {X Y : Nat → Int} {n0 n1 r p q : Nat} (hp : IsT X Y n0 n1 r p) (hq : IsT X Y n0 n1 r q) : p = q := by
  obtain ⟨a1, a2, a3, a4⟩ := hp
  obtain ⟨b1, b2, b3, b4⟩ := hq
  rcases Nat.lt_trichotomy p q with h | h | h
  · exact absurd (b3 p h) (a4 (by omega) (by omega))
  · exact h
  · exact absurd (a3 q h) (b4 (by omega) (by omega))
theorem IsK.uniq {X Y : Nat → Int} {n0 n1 t0 p q : Nat} (hp : IsK X Y n0 n1 t0 p) (hq : IsK X Y n0 n1 t0 q) : p = q := by
  obtain ⟨a1, a2, a3⟩ := hp
  obtain ⟨b1, b2, b3⟩ := hq
  rcases Nat.lt_trichotomy p q with h | h | h
  · exact absurd (b2 (by omega)) (a3 q h b1)
  · exact h
  · exact absurd (a2 (by omega)) (b3 p h a1)
theorem CL.uniq {X Y : Nat → Int} {n0 n1 a b c x y z : Nat} (h : CL X Y n0 n1 a b c) (k : CL X Y n0 n1 x y z) : a = x ∧ b = y ∧ c = z := by
  obtain ⟨p, t0, t, hp, ht0, ht, rfl, rfl, rfl⟩ := h
  obtain ⟨p', t0', t', hp', ht0', ht', rfl, rfl, rfl⟩ := k
  obtain rfl := hp.uniq hp'
  obtain rfl := ht0.uniq ht0'
  obtain rfl := ht.uniq ht'
  exact ⟨rfl, rfl, rfl⟩

theorem lastNL_congr {X Y : Nat → Int} : ∀ {p : Nat}, Pre X Y p → lastNL X p = lastNL Y p
  | 0, _ => rfl
  | p + 1, h => by
    unfold lastNL
    rw [h p (by omega), lastNL_congr (fun j hj => h j (by omega))]

theorem CL.swap {X Y : Nat → Int} {n0 n1 a b c : Nat} (h : CL X Y n0 n1 a b c) : CL Y X n1 n0 a c b := by
  obtain ⟨p, t0, t, ⟨p1, p2, p3, p4⟩, ⟨q1, q2, q3, q4⟩, ⟨r1, r2, r3⟩, rfl, rfl, rfl⟩ := h
  refine ⟨p, t0, t, ⟨p2, p1, fun j hj => (p3 j hj).symm, fun h1 h2 e => p4 h2 h1 e.symm⟩, ⟨q2, q1, fun j hj => (q3 j hj).symm, fun h1 h2 e => q4 h2 h1 e.symm⟩, ⟨r1, fun h => ⟨(r2 h).2, (r2 h).1⟩, fun s h1 h2 e => r3 s h1 h2 ⟨e.2, e.1⟩⟩, lastNL_congr p3, rfl, rfl⟩

theorem lastNL_none (X : Nat → Int) : ∀ (p i : Nat), lastNL X p ≤ i → i < p → X i ≠ 10
  | 0, i, _, h => absurd h (Nat.not_lt_zero _)
  | p + 1, i, h1, h2 => by
    unfold lastNL at h1
    by_cases hx : X p = 10
    · rw [if_pos (by simp [hx])] at h1
      omega
    · rw [if_neg (by simp [hx])] at h1
      by_cases hi : i = p
      · subst hi; exact hx
      · exact lastNL_none X p i h1 (by omega)
theorem lastNL_SL (X : Nat → Int) : ∀ (p : Nat), SL X (lastNL X p) = true
  | 0 => by simp [lastNL, SL]
  | p + 1 => by
    unfold lastNL
    by_cases hx : X p = 10
    · rw [if_pos (by simp [hx])]
      simp [SL, hx]
    · rw [if_neg (by simp [hx])]
      exact lastNL_SL X p
end Go.Proofs.Qxb6606341a
