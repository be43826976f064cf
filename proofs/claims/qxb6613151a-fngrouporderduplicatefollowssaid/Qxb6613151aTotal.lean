/-
  Seat b6613151a: the comparison is a strict weak order (plain).
-/
import Derived.Test.Qxb6613151aOrder
namespace Go.Proofs.Qxb6613151a
open Go.Sort
set_option linter.unusedVariables false

/-- a three-way comparison that is a total preorder. -/
structure TC {α : Type} (c : α → α → Int) : Prop where
  swap : ∀ x y, c x y < 0 ↔ 0 < c y x
  trans : ∀ x y z, c x y ≤ 0 → c y z ≤ 0 → c x z ≤ 0

theorem TC.zero {α : Type} {c : α → α → Int} (h : TC c) {x y : α} (e : c x y = 0) : c y x = 0 := by
  have h1 := h.swap x y
  have h2 := h.swap y x
  omega
theorem TC.ge {α : Type} {c : α → α → Int} (h : TC c) {x y : α} : c x y ≤ 0 ↔ 0 ≤ c y x := by
  have h2 := h.swap y x
  omega

theorem TC.neg {α : Type} {c : α → α → Int} (h : TC c) : TC (fun x y => -(c x y)) := by
  refine ⟨fun x y => ?_, fun x y z h1 h2 => ?_⟩
  · have h2 := h.swap y x
    omega
  · have a1 : c y x ≤ 0 := h.ge.2 (by omega)
    have a2 : c z y ≤ 0 := h.ge.2 (by omega)
    have := h.ge.1 (h.trans z y x a2 a1)
    omega

theorem TC.lex {α : Type} {c d : α → α → Int} (h : TC c) (hs : ∀ x y, c x y = 0 → (d x y < 0 ↔ 0 < d y x)) (ht : ∀ x y z, c x y = 0 → c y z = 0 → d x y ≤ 0 → d y z ≤ 0 → d x z ≤ 0) : TC (fun x y => orF (c x y) (d x y)) := by
  refine ⟨fun x y => ?_, fun x y z h1 h2 => ?_⟩
  · show orF (c x y) (d x y) < 0 ↔ 0 < orF (c y x) (d y x)
    unfold orF
    by_cases e : c x y = 0
    · rw [if_pos e, if_pos (h.zero e)]
      exact hs x y e
    · rw [if_neg e, if_neg (fun e' => e (h.zero e'))]
      exact h.swap x y
  · simp only [orF] at h1 h2 ⊢
    by_cases e1 : c x y = 0
    · rw [if_pos e1] at h1
      by_cases e2 : c y z = 0
      · rw [if_pos e2] at h2
        have e3 : c x z = 0 := by
          have a := h.trans x y z (by omega) (by omega)
          have b := h.trans z y x (by rw [h.zero e2]; omega) (by rw [h.zero e1]; omega)
          have := h.ge.1 b
          omega
        rw [if_pos e3]
        exact ht x y z e1 e2 h1 h2
      · rw [if_neg e2] at h2
        have a := h.trans x y z (by omega) h2
        by_cases e3 : c x z = 0
        · exfalso
          have b := h.trans z x y (by rw [h.zero e3]; omega) (by omega)
          have := h.ge.1 b
          omega
        · rw [if_neg e3]
          exact a
    · rw [if_neg e1] at h1
      have h2' : c y z ≤ 0 := by
        by_cases e2 : c y z = 0
        · omega
        · rw [if_neg e2] at h2
          exact h2
      have a := h.trans x y z h1 h2'
      by_cases e3 : c x z = 0
      · exfalso
        have b := h.trans y z x h2' (by rw [h.zero e3]; omega)
        have := h.ge.1 b
        omega
      · rw [if_neg e3]
        exact a

theorem tc_cmpF {α : Type} (f : α → Int) : TC (fun x y => cmpF (f x) (f y)) := by
  refine ⟨fun x y => ?_, fun x y z h1 h2 => ?_⟩
  · show cmpF (f x) (f y) < 0 ↔ 0 < cmpF (f y) (f x)
    unfold cmpF
    repeat' split
    all_goals omega
  · simp only [cmpF] at h1 h2 ⊢
    repeat' split
    all_goals (repeat' split at h1)
    all_goals (repeat' split at h2)
    all_goals omega

theorem tc_cmpL : TC cmpL := by
  have hF := tc_cmpF (fun x : Int => x)
  refine ⟨fun x => ?_, fun x => ?_⟩
  · induction x with
    | nil =>
      intro y
      cases y <;> simp [cmpL]
    | cons a x ih =>
      intro y
      cases y with
      | nil => simp [cmpL]
      | cons b y =>
        rw [cmpL, cmpL]
        unfold orF
        have hs := hF.swap a b
        have hs' := hF.swap b a
        by_cases e : cmpF a b = 0
        · rw [if_pos e, if_pos (by omega)]
          exact ih y
        · rw [if_neg e, if_neg (by omega)]
          exact hs
  · induction x with
    | nil =>
      intro y z _ _
      cases z <;> simp [cmpL]
    | cons a x ih =>
      intro y z h1 h2
      cases y with
      | nil => simp [cmpL] at h1
      | cons b y =>
        cases z with
        | nil => simp [cmpL] at h2
        | cons c z =>
          rw [cmpL, orF] at h1 h2 ⊢
          have k1 := hF.trans a b c
          have k2 := hF.trans b c a
          have k3 := hF.trans c a b
          have s1 := hF.swap a b
          have s2 := hF.swap b c
          have s3 := hF.swap a c
          have s1' := hF.swap b a
          have s2' := hF.swap c b
          have s3' := hF.swap c a
          have hI := ih y z
          generalize cmpF a b = ab at *
          generalize cmpF b c = bc at *
          generalize cmpF a c = ac at *
          generalize cmpF b a = ba at *
          generalize cmpF c b = cb at *
          generalize cmpF c a = ca at *
          by_cases e1 : ab = 0
          · rw [if_pos e1] at h1
            by_cases e2 : bc = 0
            · rw [if_pos e2] at h2
              have h3 := hI h1 h2
              split
              · exact h3
              · omega
            · rw [if_neg e2] at h2
              split <;> omega
          · rw [if_neg e1] at h1
            have : bc ≤ 0 := by
              by_cases e2 : bc = 0
              · omega
              · rw [if_neg e2] at h2
                exact h2
            split <;> omega
end Go.Proofs.Qxb6613151a
