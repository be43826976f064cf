/-
  Seat b6609411a: plain laws on reached roles and grants; slices of naturals.
-/
import Derived.Test.Qxb6609411aDown
import Derived.Test.Qxb6609411aHeld
import Derived.Test.Qxb6609411aHolds
namespace Go.Proofs.Qxb6609411a
open Go.ChangeShapes Go.WideShapes Go.ChangeAt Go.RowKit
set_option linter.unusedVariables false

theorem IsA.drewN {β : Type} {enc : β → Value} {w : World} {a : Option Addr} {n : Nat} {X : Nat → β} (h : IsA enc w a n X) (m : Nat) : IsA enc (w.drewN m) a n X := by
  rcases h with h | ⟨b, off, rfl, hlt, hc⟩
  · exact .inl h
  · exact .inr ⟨b, off, rfl, by simpa using hlt, fun i hi => by simpa using hc i hi⟩
theorem IsA.nat {w : World} {a : Option Addr} {n : Nat} {X : Nat → Int} (h : IsA encI w a n X) (h0 : ∀ i, i < n → 0 ≤ X i) : IsA encI w a n (fun i => (((X i).toNat : Nat) : Int)) := by
  rcases h with h | ⟨b, off, rfl, hlt, hc⟩
  · exact .inl h
  · refine .inr ⟨b, off, rfl, hlt, fun i hi => ?_⟩
    rw [hc i hi]
    show some (encI (X i)) = some (encI (((X i).toNat : Nat) : Int))
    rw [Int.toNat_of_nonneg (h0 i hi)]

theorem rc_congr {F F' : Nat → Prop} {E E' : Nat → Nat → Prop} (hF : ∀ v, F v → F' v) (hE : ∀ u v, E u v → E' u v) {v : Nat} (h : Rc F E v) : Rc F' E' v := by
  induction h with
  | base h => exact .base (hF _ h)
  | step _ h ih => exact .step ih (hE _ _ h)

theorem rc_names {n0 m nf : Nat} (hn0 : n0 ≤ 4096) {LO HI FR : Nat → Nat} (bl : ∀ i, i < m → LO i < n0) (bf : ∀ i, i < nf → FR i < n0) (v : Nat) :
    Rc (FrN n0 (FSk FR nf)) (EdN n0 (JSk HI LO m)) v ↔ Rc (FrL FR nf) (EdL HI LO m) v := by
  constructor
  · refine rc_congr (fun v h => ?_) (fun u v h => ?_)
    · obtain ⟨h1, i, h2, h3⟩ := h
      have := bf i h2
      exact ⟨i, h2, (nmL_inj (by omega) (by omega) (by simpa using h3)).symm⟩
    · obtain ⟨h1, i, h2, h3, h4⟩ := h
      have := bl i h2
      exact ⟨i, h2, h3, (nmL_inj (by omega) (by omega) (by simpa using h4)).symm⟩
  · refine rc_congr (fun v h => ?_) (fun u v h => ?_)
    · obtain ⟨i, h2, rfl⟩ := h
      exact ⟨bf i h2, i, h2, rfl⟩
    · obtain ⟨i, h2, rfl, rfl⟩ := h
      exact ⟨bl i h2, i, h2, rfl, rfl⟩

theorem bytes_eq (a b : ByteArray) : (a.toList == b.toList) = true ↔ a = b := by
  rw [beq_iff_eq, ByteArray.toList_eq, ByteArray.toList_eq]
  constructor
  · intro h
    exact ByteArray.ext (Array.toList_inj.1 h)
  · rintro rfl
    rfl
theorem evS_eq (a : ByteArray) : (a.toList == evL) = true ↔ a = evS := by
  rw [← bytes_eq a evS]
  have : evS.toList = evL := by decide +kernel
  rw [this]

/-- grant g gives the permission, as the law reckons it. -/
def condG (T : Nat → Bool) (GR : Nat → Nat) (GO GB : Nat → ByteArray) (op obj : ByteArray) (g : Nat) : Prop :=
  T (GR g) = true ∧ GO g = op ∧ (GB g = obj ∨ (wildB obj = true ∧ GB g = evS))

theorem gives_iff {ng : Nat} {GR : Nat → Nat} {GO GB : Nat → ByteArray} {op obj : ByteArray} (so : ∀ i, i < ng → (GO i).size ≤ maxLen) (sb : ∀ i, i < ng → (GB i).size ≤ maxLen) (ho : op.size ≤ maxLen) (hb : obj.size ≤ maxLen) (v : Nat) :
    gives (PSk GR GO GB ng) op obj v ↔ ∃ g, g < ng ∧ GR g = v ∧ GO g = op ∧ (GB g = obj ∨ (wildB obj = true ∧ GB g = evS)) := by
  have hev : evS.size ≤ maxLen := by unfold maxLen; decide
  constructor
  · rintro (⟨g, h1, h2, h3⟩ | ⟨hw, g, h1, h2, h3⟩)
    · obtain ⟨e1, e2⟩ := pk_inj ho hb (so g h1) (sb g h1) h3
      exact ⟨g, h1, h2, e1.symm, .inl e2.symm⟩
    · obtain ⟨e1, e2⟩ := pk_inj ho hev (so g h1) (sb g h1) h3
      exact ⟨g, h1, h2, e1.symm, .inr ⟨hw, e2.symm⟩⟩
  · rintro ⟨g, h1, h2, rfl, (rfl | ⟨hw, h4⟩)⟩
    · exact .inl ⟨g, h1, h2, rfl⟩
    · exact .inr ⟨hw, g, h1, h2, by rw [h4]⟩

theorem want_iff {ng : Nat} {GR : Nat → Nat} {GO GB : Nat → ByteArray} {op obj : ByteArray} {T : Nat → Bool} {R : Nat → Prop} (hT : ∀ v, T v = true ↔ R v) (so : ∀ i, i < ng → (GO i).size ≤ maxLen) (sb : ∀ i, i < ng → (GB i).size ≤ maxLen) (ho : op.size ≤ maxLen) (hb : obj.size ≤ maxLen) :
    (∃ v, R v ∧ gives (PSk GR GO GB ng) op obj v) ↔ ∃ g, g < ng ∧ condG T GR GO GB op obj g := by
  constructor
  · rintro ⟨v, h1, h2⟩
    obtain ⟨g, h3, rfl, h4⟩ := (gives_iff so sb ho hb v).1 h2
    exact ⟨g, h3, (hT _).2 h1, h4⟩
  · rintro ⟨g, h3, h1, h4⟩
    exact ⟨GR g, (hT _).1 h1, (gives_iff so sb ho hb _).2 ⟨g, h3, rfl, h4⟩⟩
end Go.Proofs.Qxb6609411a
