/-
  Seat b6609411a: maps as sets and as tables of pointers.
-/
import Derived.Test.Qxb6609411aBase
import Derived.Maps.OwnSet
import Derived.DeepKeys4
namespace Go.Proofs.Qxb6609411a
open Go.ChangeShapes Go.WideShapes Go.ChangeAt Go.RowKit
open Go.Maps (Keyed IsMap Tidy)
set_option linter.unusedVariables false

theorem laidOut : laidOutB Try.prog = true := by kernel_rfl
theorem row45 : (45 : TypeId) < Try.prog.types.size := of_decide_eq_true (by kernel_rfl)
theorem keyed9 : Keyed Try.prog 9 := Maps.string_keyed Try.underlying9
theorem keyed45 : Keyed Try.prog 45 := Keyed.of_law (deep_law_laid laidOut (m := 2) (by omega) row45 (by kernel_rfl) (by rw [Try.underlying45]))
theorem zero32 (w : World) : (zeroValue 32).run Try.prog w = .ok (.agg #[]) w := by kernel_rfl
theorem zero55 (w : World) : (zeroValue 55).run Try.prog w = .ok (.pointer none) w := by kernel_rfl

/-! a Permission as a key -/
abbrev pv (a b : ByteArray) : Value := .agg #[.string a, .string b]
theorem pv_key_gen {P : Program} {k t : TypeId} {f0 f1 : Field} (hu : P.underlying k = some (.struct #[f0, f1])) (h9 : P.underlying t = some .string) (e0 : f0.type = t) (e1 : f1.type = t) (o0 : f0.offset = 0) (o1 : f1.offset = 1) (n0 : (f0.name != "_") = true) (n1 : (f1.name != "_") = true)
    (hk : P.keyType k = true) (hc : P.cellsOf k = 2) (hc9 : P.cellsOf t = 1) (hs : 0 < P.types.size) (a b : ByteArray) (ha : a.size ≤ maxLen) (hb : b.size ≤ maxLen) : ∃ l, keyOf P k (pv a b) = some l := by
  obtain ⟨m, hm⟩ : ∃ m, P.types.size = m + 1 := ⟨P.types.size - 1, by omega⟩
  simp only [bne_iff_ne, ne_eq] at n0 n1
  simp [keyOf, hu, hk, Value.formed, hc, hm, Program.keyLits, Value.cells, hc9, h9, ha, hb, e0, e1, o0, o1, n0, n1]
theorem pv_key (a b : ByteArray) (ha : a.size ≤ maxLen) (hb : b.size ≤ maxLen) : ∃ l, keyOf Try.prog 45 (pv a b) = some l :=
  pv_key_gen Try.underlying45 Try.underlying9 rfl rfl rfl rfl (by decide) (by decide) (by kernel_rfl) (by kernel_rfl) (by kernel_rfl) (Nat.lt_of_le_of_lt (Nat.zero_le _) row45) a b ha hb
noncomputable def pk (a b : ByteArray) : Lit := (keyOf Try.prog 45 (pv a b)).getD (.bool false)
theorem keyOf_pv (a b : ByteArray) (ha : a.size ≤ maxLen) (hb : b.size ≤ maxLen) : keyOf Try.prog 45 (pv a b) = some (pk a b) := by
  obtain ⟨l, hl⟩ := pv_key a b ha hb
  rw [pk, hl]
  rfl
theorem pk_inj {a b c d : ByteArray} (ha : a.size ≤ maxLen) (hb : b.size ≤ maxLen) (hc : c.size ≤ maxLen) (hd : d.size ≤ maxLen) (h : pk a b = pk c d) : a = c ∧ b = d := by
  have := keyed45.inj (keyOf_pv a b ha hb) (by rw [h]; exact keyOf_pv c d hc hd)
  simpa using this

/-! sets -/
def SetAt (w : World) (k : TypeId) (b n : Nat) (S : Lit → Prop) : Prop :=
  ∃ D : DataW Unit, w.ownsMap Try.prog k unitElem b n D ∧ ∀ kl, Maps.has D kl = true ↔ S kl

theorem SetAt.lt {w : World} {k : TypeId} {b n : Nat} {S : Lit → Prop} (h : SetAt w k b n S) : b < w.heap.size := by
  obtain ⟨D, h1, _⟩ := h
  exact h1.lt
theorem SetAt.keep {w w' : World} {k : TypeId} {b n : Nat} {S : Lit → Prop} (h : SetAt w k b n S) (e : w'.heap[b]? = w.heap[b]?) : SetAt w' k b n S := by
  obtain ⟨D, ⟨es, c, h1, h2⟩, h3⟩ := h
  exact ⟨D, ⟨es, c, e.trans h1, h2⟩, h3⟩
theorem SetAt.mono {w : World} {k : TypeId} {b n m : Nat} {S : Lit → Prop} (h : SetAt w k b n S) (hm : n ≤ m) : SetAt w k b m S := by
  obtain ⟨D, h1, h2⟩ := h
  exact ⟨D, h1.mono hm, h2⟩
theorem SetAt.congr {w : World} {k : TypeId} {b n : Nat} {S T : Lit → Prop} (h : SetAt w k b n S) (e : ∀ x, S x ↔ T x) : SetAt w k b n T := by
  obtain ⟨D, h1, h2⟩ := h
  exact ⟨D, h1, fun kl => (h2 kl).trans (e kl)⟩
theorem SetAt.made (w : World) (k : TypeId) : SetAt (w.alloc (.map #[] 0)) k w.heap.size 0 (fun _ => False) :=
  ⟨_, World.ownsMap_made w Try.prog k unitElem, fun kl => by simp [Maps.has]⟩
theorem has_put {k : TypeId} (K : Keyed Try.prog k) {D : DataW Unit} (hD : IsMap D) {key : Value} {kl : Lit} (hkey : keyOf Try.prog k key = some kl) (d : DataW Unit) (x : Lit) : Maps.has (D.put kl d) x = true ↔ x = kl ∨ Maps.has D x = true := by
  by_cases e : x = kl
  · subst e
    simp [Maps.has_put_same hD (K.key hkey)]
  · simp [Maps.has_put_other e, e]
theorem SetAt.put {w : World} {k : TypeId} {b n : Nat} {S : Lit → Prop} (h : SetAt w k b n S) (K : Keyed Try.prog k) {t : TypeId} (ht : Try.prog.underlying t = some (.map k 32)) (hn : n < maxLen) {key : Value} {kl : Lit} (hkey : keyOf Try.prog k key = some kl) :
    ∃ w', (Instr.mapUpdate t (.map (some b)) key (.agg #[])).run Try.prog w = .ok () w' ∧ SetAt w' k b (n + 1) (fun x => x = kl ∨ S x) ∧ w.grownBy w' (some b) := by
  obtain ⟨D, h1, h2⟩ := h
  obtain ⟨w', r1, r2, r3⟩ := h1.update K ht hn hkey unitElem_mk
  exact ⟨w', r1, ⟨_, r2, fun x => (has_put K h1.isMap hkey _ x).trans (or_congr Iff.rfl (h2 x))⟩, r3⟩
theorem SetAt.look {w : World} {k : TypeId} {b n : Nat} {S : Lit → Prop} (h : SetAt w k b n S) (K : Keyed Try.prog k) {t : TypeId} (ht : Try.prog.underlying t = some (.map k 32)) {key : Value} {kl : Lit} (hkey : keyOf Try.prog k key = some kl) :
    ∃ ok : Bool, (Instr.lookup t (.map (some b)) key true).run Try.prog w = .ok (.tuple #[.agg #[], .bool ok]) w ∧ (ok = true ↔ S kl) := by
  obtain ⟨D, h1, h2⟩ := h
  obtain ⟨v, ps, r1, r2⟩ := h1.look_ok K ht (zero32 w) unitElem_mk hkey
  obtain ⟨rfl, _⟩ := unitElem_inv r2
  exact ⟨_, r1, h2 kl⟩

/-! a table of pointers, by names -/
def ptrElem : Value → Option (DataW Unit × List MemPlace)
  | .pointer none => some (.nil, [])
  | .pointer (some a) => if a = ⟨a.block, 0, none⟩ then some (.lit (.int .i64 a.block), []) else none
  | _ => none
theorem ptrElem_mk (b : Nat) : ptrElem (.pointer (some ⟨b, 0, none⟩)) = some (.lit (.int .i64 b), []) := by simp [ptrElem]
theorem ptrElem_inv {v : Value} {b : Nat} {ps : List MemPlace} (h : ptrElem v = some (.lit (.int .i64 b), ps)) : v = .pointer (some ⟨b, 0, none⟩) := by
  unfold ptrElem at h
  split at h
  · simp at h
  · split at h
    · rename_i a e
      simp at h
      rw [e]
      have h1 : a.block = b := by omega
      rw [h1]
    · simp at h
  · simp at h

def TabAt (w : World) (b n : Nat) (f : Nat → Option Nat) : Prop :=
  ∃ D : DataW Unit, w.ownsMap Try.prog 9 ptrElem b n D ∧ ∀ v r, v < 10000 → f v = some r → D.atKey (.string (nmL v)) .nil = .lit (.int .i64 r)

theorem key_nm (v : Nat) : keyOf Try.prog 9 (.string (nm v)) = some (.string (nmL v)) := by
  have := WideMaps.keyOf_string_mk Try.underlying9 (s := nm v) (by have := nm_size v; unfold maxLen; omega)
  rw [this]
  simp [nm]
theorem nmL_inj {v u : Nat} (hv : v < 10000) (hu : u < 10000) (h : nmL v = nmL u) : v = u := nm_inj hv hu (by unfold nm; rw [h])

theorem TabAt.lt {w : World} {b n : Nat} {f : Nat → Option Nat} (h : TabAt w b n f) : b < w.heap.size := by
  obtain ⟨D, h1, _⟩ := h
  exact h1.lt
theorem TabAt.keep {w w' : World} {b n : Nat} {f : Nat → Option Nat} (h : TabAt w b n f) (e : w'.heap[b]? = w.heap[b]?) : TabAt w' b n f := by
  obtain ⟨D, ⟨es, c, h1, h2⟩, h3⟩ := h
  exact ⟨D, ⟨es, c, e.trans h1, h2⟩, h3⟩
theorem TabAt.mono {w : World} {b n m : Nat} {f : Nat → Option Nat} (h : TabAt w b n f) (hm : n ≤ m) : TabAt w b m f := by
  obtain ⟨D, h1, h2⟩ := h
  exact ⟨D, h1.mono hm, h2⟩
theorem TabAt.made (w : World) : TabAt (w.alloc (.map #[] 0)) w.heap.size 0 (fun _ => none) :=
  ⟨_, World.ownsMap_made w Try.prog 9 ptrElem, fun v r _ h => by cases h⟩
theorem TabAt.put {w : World} {b n : Nat} {f : Nat → Option Nat} (h : TabAt w b n f) (hn : n < maxLen) (v : Nat) (hv : v < 10000) (r : Nat) :
    ∃ w', (Instr.mapUpdate 71 (.map (some b)) (.string (nm v)) (.pointer (some ⟨r, 0, none⟩))).run Try.prog w = .ok () w' ∧ TabAt w' b (n + 1) (fun x => if x = v then some r else f x) ∧ w.grownBy w' (some b) := by
  obtain ⟨D, h1, h2⟩ := h
  obtain ⟨w', r1, r2, r3⟩ := h1.update keyed9 Try.underlying71 hn (key_nm v) (ptrElem_mk r)
  refine ⟨w', r1, ⟨_, r2, fun x y hx hf => ?_⟩, r3⟩
  replace hf : (if x = v then some r else f x) = some y := hf
  by_cases e : x = v
  · subst e
    rw [if_pos rfl] at hf
    cases hf
    exact Maps.atKey_put_same h1.isMap (keyed9.key (key_nm x)) _ _
  · rw [if_neg e] at hf
    rw [Maps.atKey_put_other (fun h => e (nmL_inj hx hv (by simpa using h)))]
    exact h2 x y hx hf
theorem TabAt.look {w : World} {b n : Nat} {f : Nat → Option Nat} (h : TabAt w b n f) (v : Nat) (hv : v < 10000) (r : Nat) (hf : f v = some r) :
    (Instr.lookup 71 (.map (some b)) (.string (nm v)) false).run Try.prog w = .ok (.pointer (some ⟨r, 0, none⟩)) w := by
  obtain ⟨D, h1, h2⟩ := h
  obtain ⟨x, ps, r1, r2⟩ := h1.lookup keyed9 Try.underlying71 (zero55 w) (zd := .nil) (zp := []) rfl (key_nm v)
  rw [h2 v r hv hf] at r2
  rw [ptrElem_inv r2] at r1
  exact r1
end Go.Proofs.Qxb6609411a
