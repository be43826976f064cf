/-
  Seat b6613151a: the plain law: a copy of group g at the end comes behind g and leaves the others' order.
-/
import Derived.Test.Qxb6613151aSorted
namespace Go.Proofs.Qxb6613151a
set_option linter.unusedVariables false

def srcOf (D : PD) (g i : Nat) : Nat := if i = D.nG then g else i
/-- the problem with a copy of group g behind. -/
def dupD (D : PD) (g : Nat) : PD :=
  { D with nG := D.nG + 1, nQ := fun i => D.nQ (srcOf D g i), Q := fun i => D.Q (srcOf D g i), nO := fun i => D.nO (srcOf D g i), O := fun i => D.O (srcOf D g i), nA := fun i => D.nA (srcOf D g i), A := fun i => D.A (srcOf D g i) }

theorem src_lt (D : PD) (g : Nat) {i : Nat} (h : i < D.nG) : srcOf D g i = i := if_neg (by omega)
theorem src_end (D : PD) (g : Nat) : srcOf D g D.nG = g := if_pos rfl

theorem only_dup (D : PD) (g i : Nat) : ∀ r, onlyF (dupD D g) i r = onlyF D (srcOf D g i) r
  | 0 => rfl
  | r + 1 => by
    show (onlyF (dupD D g) i r && !(decide (D.L r = 9223372036854775807) && fitB (dupD D g) r i)) = _
    rw [only_dup D g i r]
    rfl
theorem lim_dup (D : PD) (g i : Nat) : limOf (dupD D g) i = limOf D (srcOf D g i) := by
  show (if onlyF (dupD D g) i D.nR then (0 : Int) else 1) = _
  rw [only_dup]
  rfl
theorem size_dup (D : PD) (g i : Nat) : sizesOf (dupD D g) i = sizesOf D (srcOf D g i) := rfl

theorem cf_dup (D : PD) (g a b : Nat) : cfF (dupD D g) (limOf (dupD D g)) a b =
    orF (cmpF (limOf D (srcOf D g a)) (limOf D (srcOf D g b))) (orF (bySz D (limOf D) (srcOf D g a) (srcOf D g b)) (orF (-(cmpL (tl (D.Q (srcOf D g a)) 0 (D.nQ (srcOf D g a))) (tl (D.Q (srcOf D g b)) 0 (D.nQ (srcOf D g b))))) (cmpF (a : Int) (b : Int)))) := by
  unfold cfF bySz
  rw [lim_dup, lim_dup, size_dup, size_dup]
  rfl
theorem cf_dup_lt (D : PD) (g : Nat) {a b : Nat} (ha : a < D.nG) (hb : b < D.nG) : cfF (dupD D g) (limOf (dupD D g)) a b = cfF D (limOf D) a b := by
  rw [cf_dup, src_lt D g ha, src_lt D g hb]
  rfl
theorem cmpF_self (x : Int) : cmpF x x = 0 := by
  unfold cmpF
  rw [if_neg (by omega), if_neg (by omega)]
theorem orF_zero_left (y : Int) : orF 0 y = y := by
  unfold orF
  rw [if_pos rfl]
theorem cf_dup_end (D : PD) {g : Nat} (hg : g < D.nG) : cfF (dupD D g) (limOf (dupD D g)) g D.nG < 0 := by
  rw [cf_dup, src_lt D g hg, src_end]
  have h1 : bySz D (limOf D) g g = 0 := by
    rw [bySz_key D (limOf D) g g rfl, cmpF_self]
  have h2 : cmpL (tl (D.Q g) 0 (D.nQ g)) (tl (D.Q g) 0 (D.nQ g)) = 0 := by
    have := tc_cmpL.swap (tl (D.Q g) 0 (D.nQ g)) (tl (D.Q g) 0 (D.nQ g))
    omega
  rw [cmpF_self, h1, h2, orF_zero_left, orF_zero_left]
  show orF (-0) _ < 0
  rw [show (-(0 : Int)) = 0 from rfl, orF_zero_left]
  unfold cmpF
  rw [if_pos (by omega)]
  decide

structure DupOut (n g : Nat) (X1 X2 : Nat → Nat) (pG pN : Nat) : Prop where
  lt : pG < pN
  le : pN ≤ n
  atG : X2 pG = g
  atN : X2 pN = n
  onlyG : ∀ t, t < n + 1 → X2 t = g → t = pG
  onlyN : ∀ t, t < n + 1 → X2 t = n → t = pN
  front : ∀ t, t < pN → X2 t = X1 t
  back : ∀ t, pN ≤ t → t < n → X2 (t + 1) = X1 t

theorem dup_law (D : PD) (g : Nat) (hg : g < D.nG) (d1 d2 : List Nat) (p1 : d1.Perm (List.range D.nG)) (s1 : d1.Pairwise (fun x y => ¬ cfF D (limOf D) y x < 0))
    (p2 : d2.Perm (List.range (D.nG + 1))) (s2 : d2.Pairwise (fun x y => ¬ cfF (dupD D g) (limOf (dupD D g)) y x < 0)) :
    ∃ pG pN, DupOut D.nG g (fun t => d1[t]?.getD 0) (fun t => d2[t]?.getD 0) pG pN := by
  have hn : D.nG ∈ d2 := p2.mem_iff.2 (List.mem_range.2 (by omega))
  have hnd : d2.Nodup := p2.nodup_iff.2 List.nodup_range
  have hlen : d2.length = D.nG + 1 := by rw [p2.length_eq, List.length_range]
  obtain ⟨l1, l2, rfl⟩ := List.append_of_mem hn
  have hp : (l1 ++ l2).Perm (List.range D.nG) := by
    have a : (D.nG :: (l1 ++ l2)).Perm (D.nG :: List.range D.nG) := by
      refine List.perm_middle.symm.trans (p2.trans ?_)
      rw [List.range_succ]
      exact List.perm_append_comm
    exact List.Perm.cons_inv a
  have hmem : ∀ x, x ∈ l1 ++ l2 → x < D.nG := fun x hx => List.mem_range.1 (hp.mem_iff.1 hx)
  have hs : (l1 ++ l2).Pairwise (fun x y => ¬ cfF D (limOf D) y x < 0) := by
    have h1 : (l1 ++ l2).Pairwise (fun x y => ¬ cfF (dupD D g) (limOf (dupD D g)) y x < 0) :=
      s2.sublist (List.Sublist.append (List.Sublist.refl _) (List.sublist_cons_self _ _))
    refine List.Pairwise.imp_of_mem ?_ h1
    intro a b ha hb h
    rwa [cf_dup_lt D g (hmem b hb) (hmem a ha)] at h
  have he : l1 ++ l2 = d1 := by
    refine List.Perm.eq_of_pairwise ?_ hs s1 (hp.trans p1.symm)
    intro a b _ _ h1 h2
    have h1' : ¬ cfF D (limOf D) b a < 0 := h1
    have h2' : ¬ cfF D (limOf D) a b < 0 := h2
    have := (tc_cf D (limOf D)).swap a b
    have := (tc_cf D (limOf D)).swap b a
    exact cf_zero (D := D) (lim := limOf D) (by omega)
  subst he
  have hgm : g ∈ l1 := by
    rcases List.mem_append.1 (hp.mem_iff.2 (List.mem_range.2 hg)) with h | h
    · exact h
    · exfalso
      have := (List.pairwise_cons.1 (List.pairwise_append.1 s2).2.1).1 g h
      exact this (cf_dup_end D hg)
  obtain ⟨pG, hpl, hpg⟩ := List.getElem_of_mem hgm
  have hll : (l1 ++ l2).length = D.nG := by rw [hp.length_eq, List.length_range]
  rw [List.length_append] at hll
  have inj : ∀ s t, s < D.nG + 1 → (l1 ++ D.nG :: l2)[s]?.getD 0 = (l1 ++ D.nG :: l2)[t]?.getD 0 → t < D.nG + 1 → s = t := by
    intro s t h1 h2 h3
    rw [List.getElem?_eq_getElem (by omega), List.getElem?_eq_getElem (by omega)] at h2
    refine (List.getElem?_inj (by omega) hnd).1 ?_
    rw [List.getElem?_eq_getElem (by omega), List.getElem?_eq_getElem (by omega)]
    exact congrArg some h2
  have hG : (l1 ++ D.nG :: l2)[pG]?.getD 0 = g := by
    rw [List.getElem?_append_left hpl, List.getElem?_eq_getElem hpl, hpg]
    rfl
  have hN : (l1 ++ D.nG :: l2)[l1.length]?.getD 0 = D.nG := by
    rw [List.getElem?_append_right (Nat.le_refl _), Nat.sub_self]
    rfl
  refine ⟨pG, l1.length, hpl, by omega, hG, hN, fun t ht e => inj t pG ht (e.trans hG.symm) (by omega), fun t ht e => inj t _ ht (e.trans hN.symm) (by omega), fun t ht => ?_, fun t h1 h2 => ?_⟩
  · show (l1 ++ D.nG :: l2)[t]?.getD 0 = (l1 ++ l2)[t]?.getD 0
    rw [List.getElem?_append_left ht, List.getElem?_append_left ht]
  · show (l1 ++ D.nG :: l2)[t + 1]?.getD 0 = (l1 ++ l2)[t]?.getD 0
    rw [List.getElem?_append_right (by omega), List.getElem?_append_right h1, show t + 1 - l1.length = (t - l1.length) + 1 by omega, List.getElem?_cons_succ]
end Go.Proofs.Qxb6613151a
