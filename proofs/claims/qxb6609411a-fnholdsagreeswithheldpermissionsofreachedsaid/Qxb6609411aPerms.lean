/-
  Seat b6609411a: ZZholds (24); heldPermissions (48), ZZheldPermissionsReached (29).
-/
import Derived.Test.Qxb6609411aHolds
namespace Go.Proofs.Qxb6609411a
open Go.ChangeShapes Go.WideShapes Go.ChangeAt Go.RowKit Go.Shelf
open Go.Maps (Keyed IsMap Tidy)
set_option linter.unusedVariables false

theorem pv_inv_gen {P : Program} {k t : TypeId} {f0 f1 : Field} (hu : P.underlying k = some (.struct #[f0, f1])) (h9 : P.underlying t = some .string) (e0 : f0.type = t) (e1 : f1.type = t) (o0 : f0.offset = 0) (o1 : f1.offset = 1)
    (hc : P.cellsOf k = 2) (hc9 : P.cellsOf t = 1) {v : Value} {l : Lit} (h : keyOf P k v = some l) : ∃ a b, v = pv a b := by
  have one : ∀ (d : Nat) (c : Value) (ls : List Lit), P.keyLits d t [c] = some ls → ∃ s, c = .string s := by
    intro d c ls hh
    cases d with
    | zero => simp [Program.keyLits] at hh
    | succ d =>
      cases c <;> simp [Program.keyLits, h9] at hh
      exact ⟨_, rfl⟩
  unfold keyOf at h
  rw [hu] at h
  simp only at h
  split at h
  · rename_i hcond
    simp only [Bool.and_eq_true] at hcond
    cases v <;> simp [Value.formed, hu] at hcond
    rename_i cs
    rw [hc] at hcond
    obtain ⟨c0, c1, rfl⟩ : ∃ c0 c1, cs = #[c0, c1] := by
      obtain ⟨l, hl⟩ : ∃ l, cs = ⟨l⟩ := ⟨cs.toList, rfl⟩
      subst hl
      have := hcond.2
      match l, this with
      | [x, y], _ => exact ⟨x, y, rfl⟩
    simp [Program.keyLits, hu, hc, hc9, Value.cells, e0, e1, o0, o1] at h
    obtain ⟨ls, ⟨_, h1⟩, _⟩ := h
    cases hx0 : P.keyLits P.types.size t [c0] with
    | none => rw [hx0] at h1; simp at h1
    | some x0 =>
      cases hx1 : P.keyLits P.types.size t [c1] with
      | none => rw [hx0, hx1] at h1; simp at h1
      | some x1 =>
        obtain ⟨a, rfl⟩ := one _ _ _ hx0
        obtain ⟨b, rfl⟩ := one _ _ _ hx1
        exact ⟨a, b, rfl⟩
  · cases h
theorem pv_inv {v : Value} {l : Lit} (h : keyOf Try.prog 45 v = some l) : ∃ x : ByteArray × ByteArray, v = pv x.1 x.2 := by
  obtain ⟨a, b, rfl⟩ := pv_inv_gen Try.underlying45 Try.underlying9 rfl rfl rfl rfl (by kernel_rfl) (by kernel_rfl) h
  exact ⟨(a, b), rfl⟩

/-- a set whose keys lie in a list has no more entries than the list. -/
theorem SetAt.cap {w : World} {k : TypeId} {b n : Nat} {S : Lit → Prop} (h : SetAt w k b n S) (K : Keyed Try.prog k) (Ks : List Lit) (hK : ∀ x, S x → x ∈ Ks) : SetAt w k b Ks.length S := by
  obtain ⟨D, hown, hm⟩ := h
  have hown0 := hown
  obtain ⟨es', hD', hpw, hkl⟩ := hown.entries K
  obtain ⟨es, clock, hb, F, hs, hD⟩ := hown
  have hlen : es'.length = es.size := by
    rw [hD'] at hD
    have e : es' = (es.toList.map (WideElems.rg Try.prog k unitElem)).foldr DataW.insert [] := by simpa using hD
    rw [e, length_read]
  have hsub : es'.map (·.1) ⊆ Ks := fun x hx => by
    obtain ⟨p, hp, rfl⟩ := List.mem_map.1 hx
    refine hK _ ((hm _).1 ?_)
    rw [hD']
    exact List.any_eq_true.2 ⟨p, hp, WideAt.sameKey_self (hkl p hp)⟩
  have hnd : (es'.map (·.1)).Nodup := List.pairwise_map.2 hpw
  have hle := List.Nodup.length_le_of_subset hnd hsub
  rw [List.length_map] at hle
  exact ⟨D, ⟨es, clock, hb, F, by omega, hD⟩, hm⟩

theorem zzHolds_any {n0 : Nat} (hn0 : n0 ≤ 4096) (c fm nf pb rb : Nat) (B : Nat → Nat → Nat) (FS : Lit → Prop) (PS JS : Nat → Lit → Prop) (hFS : ∀ x, FS x → ∃ v : Fin n0, x = .string (nmL v)) (hJS : ∀ u x, JS u x → ∃ v : Fin n0, x = .string (nmL v))
    (a b : ByteArray) (ha : a.size ≤ maxLen) (hb : b.size ≤ maxLen) (w : World) (hF : SetAt w 9 fm nf FS) (hP : Pol w pb rb B n0 c PS JS) :
    Calls Try.prog 24 #[.pointer (some ⟨pb, 0, none⟩), .map (some fm), pv a b] w fun e W' =>
      (∃ r : Bool, e = .returned (.bool r) ∧ (r = true ↔ ∃ v, Rc (FrN n0 FS) (EdN n0 JS) v ∧ gives PS a b v)) ∧ Below w.heap.size w W' := by
  have hbl : Below w.heap.size w (w.alloc (.cells #[.string a, .string b] 45)) := (Below.refl _ _).alloc (Nat.le_refl _) _
  have Z := callsIn_wide.1 (holds_in hn0 6 (by omega) c fm nf pb rb B FS PS JS hFS hJS a b ha hb (w.alloc (.cells #[.string a, .string b] 45)) (hF.keep (hbl.block _ hF.lt)) (hP.below hbl (Nat.le_refl _)))
  clear hF hP
  go_enter Try.func24, Try.ntmps24
  go_wp2_with fail
  refine Z.mono ?_
  clear Z
  rintro e w' ⟨⟨r, rfl, hr⟩, hb1⟩
  have HR : Hid (r = true ↔ ∃ v, Rc (FrN n0 FS) (EdN n0 JS) v ∧ gives PS a b v) := hr
  clear hr
  go_wp2
  go_ret
  exact ⟨⟨r, rfl, HR.out⟩, hbl.trans (hb1.mono (by simp))⟩
end Go.Proofs.Qxb6609411a
