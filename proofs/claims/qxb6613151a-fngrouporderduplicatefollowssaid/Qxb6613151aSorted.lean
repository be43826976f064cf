/-
  Seat b6613151a: cfF is a total order; GroupOrder's sort.
-/
import Derived.Test.Qxb6613151aTotal
namespace Go.Proofs.Qxb6613151a
open Go.Sort Go.RowKit
set_option linter.unusedVariables false

theorem TC.comp {α β : Type} {c : α → α → Int} (h : TC c) (f : β → α) : TC (fun x y => c (f x) (f y)) :=
  ⟨fun x y => h.swap (f x) (f y), fun x y z => h.trans (f x) (f y) (f z)⟩

def keyF (D : PD) (lim : Nat → Int) (g : Nat) : Int := if lim g = 0 then sizesOf D g else -(sizesOf D g)

theorem cmpF_zero {x y : Int} (h : cmpF x y = 0) : x = y := by
  unfold cmpF at h
  split at h
  · omega
  · split at h <;> omega
theorem bySz_key (D : PD) (lim : Nat → Int) (a b : Nat) (h : lim a = lim b) : bySz D lim a b = cmpF (keyF D lim a) (keyF D lim b) := by
  unfold bySz keyF cmpF
  by_cases e : lim b = 0
  · rw [if_pos ⟨by omega, e⟩, if_pos (by omega : lim a = 0), if_pos e]
    repeat' split
    all_goals omega
  · rw [if_neg (fun h' => e h'.2), if_neg (by omega : ¬ lim a = 0), if_neg e]
    repeat' split
    all_goals omega

theorem orF_zero {x y : Int} (h : orF x y = 0) : x = 0 ∧ y = 0 := by
  unfold orF at h
  split at h
  · exact ⟨by assumption, h⟩
  · omega

theorem tc_cf (D : PD) (lim : Nat → Int) : TC (cfF D lim) := by
  have t3 : TC (fun a b : Nat => orF (-(cmpL (tl (D.Q a) 0 (D.nQ a)) (tl (D.Q b) 0 (D.nQ b)))) (cmpF (a : Int) (b : Int))) := by
    have h1 := (tc_cmpL.comp (fun a => tl (D.Q a) 0 (D.nQ a))).neg
    have h2 := tc_cmpF (fun a : Nat => (a : Int))
    exact h1.lex (fun x y _ => h2.swap x y) (fun x y z _ _ => h2.trans x y z)
  have t2 : TC (fun a b : Nat => orF (cmpF (keyF D lim a) (keyF D lim b)) (orF (-(cmpL (tl (D.Q a) 0 (D.nQ a)) (tl (D.Q b) 0 (D.nQ b)))) (cmpF (a : Int) (b : Int)))) :=
    (tc_cmpF (fun a => keyF D lim a)).lex (fun x y _ => t3.swap x y) (fun x y z _ _ => t3.trans x y z)
  refine (tc_cmpF lim).lex (fun x y e => ?_) (fun x y z e1 e2 => ?_)
  · have e' : lim x = lim y := cmpF_zero e
    rw [bySz_key D lim x y e', bySz_key D lim y x e'.symm]
    exact t2.swap x y
  · have e1' : lim x = lim y := cmpF_zero e1
    have e2' : lim y = lim z := cmpF_zero e2
    rw [bySz_key D lim x y e1', bySz_key D lim y z e2', bySz_key D lim x z (e1'.trans e2')]
    exact t2.trans x y z

theorem cf_zero {D : PD} {lim : Nat → Int} {a b : Nat} (h : cfF D lim a b = 0) : a = b := by
  have h1 := (orF_zero (orF_zero (orF_zero h).2).2).2
  have := cmpF_zero h1
  omega

theorem swo_of {α : Type} {c : α → α → Int} (h : TC c) : SWO (Go.Proofs.ltOf c) := by
  refine ⟨fun x => ?_, fun x y z h1 h2 => ?_, fun x y z h1 h2 => ?_⟩
  · have := h.swap x x
    simp only [Go.Proofs.ltOf, decide_eq_false_iff_not]
    omega
  · simp only [Go.Proofs.ltOf, decide_eq_true_eq] at h1 h2 ⊢
    have a := h.trans x y z (by omega) (by omega)
    have s1 := h.swap y z
    by_cases e : c x z = 0
    · exfalso
      have e' := h.zero e
      have b := h.trans y z x (by omega) (by omega)
      have := h.swap x y
      omega
    · omega
  · simp only [Go.Proofs.ltOf, decide_eq_false_iff_not] at h1 h2 ⊢
    have s1 := h.swap x y
    have s2 := h.swap y z
    have s3 := h.swap x z
    have s4 := h.swap y x
    have s5 := h.swap z y
    have s6 := h.swap z x
    have a := h.trans z y x (by omega) (by omega)
    omega
end Go.Proofs.Qxb6613151a
