/-
  Seat b6613151a: makeGroup (12).
-/
import Derived.Test.Qxb6613151aClos
import Derived.Laws.Tables
namespace Go.Proofs.Qxb6613151a
open Go.ChangeShapes Go.WideShapes Go.ChangeAt Go.RowKit
set_option linter.unusedVariables false

theorem info42 : (Try.prog.info? 42).map (·.size) = some 4 := by kernel_rfl

theorem IsA.setRow {β : Type} {enc : β → Value} {w : World} {a : Option Addr} {n : Nat} {X : Nat → β} (h : IsA enc w a n X) (g : Nat) (cs : Array Value) (hne : ∀ x, a = some x → x.block ≠ g) : IsA enc (w.setRow g cs) a n X := by
  rcases h with h | ⟨b, off, rfl, hlt, hc⟩
  · exact .inl h
  · refine .inr ⟨b, off, rfl, by simpa using hlt, fun i hi => ?_⟩
    rw [← hc i hi]
    exact World.cell?_of_block (w := w) (setRow_other w g b cs (hne _ rfl))

theorem below_setRow' {B : Nat} {a w : World} (h : Below B a w) (g : Nat) (hg : B ≤ g) (cs : Array Value) : Below B a (w.setRow g cs) :=
  h.trans ⟨rfl, rfl, rfl, by simp, fun k hk => setRow_other w g k cs (by omega)⟩

def GrpOut (w : World) (nq : Nat) (q : Nat → Int) (no : Nat) (ok : Nat → Bool) (na : Nat) (ap : Nat → Int) (e : Ending) (w' : World) : Prop :=
  ∃ a1 a2 a3, e = .returned (.agg #[.slice a1 nq nq, .int .i64 0, .slice a2 no no, .slice a3 na na]) ∧ IsA encI w' a1 nq q ∧ IsA encB w' a2 no ok ∧ IsA encI w' a3 na ap ∧
    (∀ x, a1 = some x → w.heap.size ≤ x.block) ∧ (∀ x, a2 = some x → w.heap.size ≤ x.block) ∧ (∀ x, a3 = some x → w.heap.size ≤ x.block)

set_option maxHeartbeats 1000000 in
theorem makeGroup_any (b1 b2 b3 : Option Addr) (nq c1 no c2 na c3 : Nat) (q : Nat → Int) (ok : Nat → Bool) (ap : Nat → Int) (w : World) (h1 : IsA encI w b1 nq q) (h2 : IsA encB w b2 no ok) (h3 : IsA encI w b3 na ap)
    (hq : nq ≤ 1048576) (ho : no ≤ 1048576) (ha : na ≤ 1048576) :
    Calls Try.prog 12 #[.slice b1 nq c1, .slice b2 no c2, .slice b3 na c3] w fun e w' => GrpOut w nq q no ok na ap e w' ∧ Below w.heap.size w w' := by
  obtain ⟨wa, hwa⟩ : ∃ wa, wa = w.alloc (.cells #[.slice none 0 0, .int .i64 0, .slice none 0 0, .slice none 0 0] 42) := ⟨_, rfl⟩
  have hba : Below w.heap.size w wa := by rw [hwa]; exact (Below.refl _ _).alloc (Nat.le_refl _) _
  have hsa : wa.heap.size = w.heap.size + 1 := by rw [hwa]; simp
  have hra : wa.heap[w.heap.size]? = some (.cells #[.slice none 0 0, .int .i64 0, .slice none 0 0, .slice none 0 0] 42 (0, 0)) := by rw [hwa]; exact heap_alloc_new w _
  have HWA : Hid (wa = w.alloc (.cells #[.slice none 0 0, .int .i64 0, .slice none 0 0, .slice none 0 0] 42)) := hwa
  clear hwa
  go_enter Try.func12, Try.ntmps12
  go_wp2_with fail
  rw [← HWA.out]
  refine (clone64_any b1 nq c1 q wa (h1.below hba (Nat.le_refl _)) hq).mono ?_
  rintro e w1 ⟨a1, rfl, k1, f1, hb1⟩
  go_wp2_with fail
  refine (cloneB_any b2 no c2 ok w1 ((h2.below hba (Nat.le_refl _)).below hb1 (Nat.le_refl _)) ho).mono ?_
  rintro e w2 ⟨a2, rfl, k2, f2, hb2⟩
  go_wp2_with fail
  refine (cloneI_any b3 na c3 ap w2 (((h3.below hba (Nat.le_refl _)).below hb1 (Nat.le_refl _)).below hb2 (Nat.le_refl _)) ha).mono ?_
  rintro e w3 ⟨a3, rfl, k3, f3, hb3⟩
  have z1 := hb1.size
  have z2 := hb2.size
  have z3 := hb3.size
  have hr3 : Hid (w3.heap[w.heap.size]? = some (.cells #[.slice none 0 0, .int .i64 0, .slice none 0 0, .slice none 0 0] 42 (0, 0))) :=
    (hb3.block _ (by omega)).trans ((hb2.block _ (by omega)).trans ((hb1.block _ (by omega)).trans hra))
  have K1 : Hid (IsA encI w3 a1 nq q) := (k1.below hb2 (Nat.le_refl _)).below hb3 (Nat.le_refl _)
  have K2 : Hid (IsA encB w3 a2 no ok) := k2.below hb3 (Nat.le_refl _)
  have K3 : Hid (IsA encI w3 a3 na ap) := k3
  have HB : Hid (Below w.heap.size w w3) := hba.trans ((hb1.trans ((hb2.trans (hb3.mono z2)).mono z1)).mono (by omega))
  clear h1 h2 h3 k1 k2 k3 hb1 hb2 hb3 hba hra HWA
  have hall : (#[Value.slice a1 nq nq, .int .i64 0, .slice a2 no no, .slice a3 na na]).all (·.oneCell') = true := by simp [Value.oneCell']
  go_wp2_with (refine wpList_store_row (by rfl) 42 _ _ (by rfl) (w.heap.size) #[.slice a1 nq nq, .int .i64 0, .slice a2 no no, .slice a3 na na] (by rfl) (by rfl) 42 #[.slice none 0 0, .int .i64 0, .slice none 0 0, .slice none 0 0] (by exact hr3.out) info42 (by rfl) hall ?_)
  refine bodyPost_ret (v := .agg #[.slice a1 nq nq, .int .i64 0, .slice a2 no no, .slice a3 na na]) (results_cell_row Try.results12 _ _ (w.heap.size) 42 #[.slice a1 nq nq, .int .i64 0, .slice a2 no no, .slice a3 na na] (0, 0) _ rfl (setRow_heap _ _ _ _ _ _ hr3.out) Try.underlying42 rfl info42) rfl ?_
  exact ⟨⟨a1, a2, a3, rfl, K1.out.setRow _ _ (fun x hx e => by have := f1 x hx; omega), K2.out.setRow _ _ (fun x hx e => by have := f2 x hx; omega), K3.out.setRow _ _ (fun x hx e => by have := f3 x hx; omega), fun x hx => by have := f1 x hx; omega, fun x hx => by have := f2 x hx; omega, fun x hx => by have := f3 x hx; omega⟩, below_setRow' HB.out _ (Nat.le_refl _) _⟩
end Go.Proofs.Qxb6613151a
