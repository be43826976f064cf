/-
  Seat b6613151a: buildProblem (8).
-/
import Derived.Test.Qxb6613151aTbl
namespace Go.Proofs.Qxb6613151a
open Go.ChangeShapes Go.WideShapes Go.ChangeAt Go.RowKit
set_option linter.unusedVariables false

/-- A slice of slices that can be read. -/
def IsSS {β : Type} (enc : β → Value) (w : World) (a : Option Addr) (n : Nat) (N : Nat → Nat) (X : Nat → Nat → β) : Prop :=
  n = 0 ∨ ∃ b off, a = some ⟨b, off, none⟩ ∧ b < w.heap.size ∧ ∀ i, i < n → ∃ ai ci, w.cell? ⟨b, off + i, none⟩ = some (.slice ai (N i) ci) ∧ IsA enc w ai (N i) (X i)

theorem IsSS.below {β : Type} {enc : β → Value} {B : Nat} {w w' : World} {a : Option Addr} {n : Nat} {N : Nat → Nat} {X : Nat → Nat → β} (h : IsSS enc w a n N X) (hb : Below B w w') (hB : w.heap.size ≤ B) : IsSS enc w' a n N X := by
  rcases h with h | ⟨b, off, rfl, hlt, hc⟩
  · exact .inl h
  · refine .inr ⟨b, off, rfl, Nat.lt_of_lt_of_le hlt hb.size, fun i hi => ?_⟩
    obtain ⟨ai, ci, h1, h2⟩ := hc i hi
    exact ⟨ai, ci, (hb.cell (p := ⟨b, off + i, none⟩) (Nat.lt_of_lt_of_le hlt hB)).trans h1, h2.below hb hB⟩

def rowCells (a : Option Addr) (n : Nat) (l : Int) : List Value := [.int .i64 0, .slice a n n, .slice none 0 0, .int .i64 l, .bool false]
def grpCells (a1 : Option Addr) (nq : Nat) (a2 : Option Addr) (no : Nat) (a3 : Option Addr) (na : Nat) : List Value := [.slice a1 nq nq, .int .i64 0, .slice a2 no no, .slice a3 na na]

def RowP (b : Nat) (N : Nat → Nat) (C : Nat → Nat → Int) (L : Nat → Int) (i : Nat) (w : World) (cs : List Value) : Prop :=
  ∃ a, cs = rowCells a (N i) (L i) ∧ IsA encI w a (N i) (C i) ∧ ∀ x, a = some x → x.block ≠ b
def GrpP (b : Nat) (nQ : Nat → Nat) (Q : Nat → Nat → Int) (nO : Nat → Nat) (O : Nat → Nat → Bool) (nA : Nat → Nat) (A : Nat → Nat → Int) (i : Nat) (w : World) (cs : List Value) : Prop :=
  ∃ a1 a2 a3, cs = grpCells a1 (nQ i) a2 (nO i) a3 (nA i) ∧ (IsA encI w a1 (nQ i) (Q i) ∧ IsA encB w a2 (nO i) (O i) ∧ IsA encI w a3 (nA i) (A i)) ∧ (∀ x, a1 = some x → x.block ≠ b) ∧ (∀ x, a2 = some x → x.block ≠ b) ∧ (∀ x, a3 = some x → x.block ≠ b)

theorem RowP.below {b : Nat} {N : Nat → Nat} {C : Nat → Nat → Int} {L : Nat → Int} {i : Nat} {w w' : World} {cs : List Value} {B : Nat} (h : RowP b N C L i w cs) (hb : Below B w w') (hB : w.heap.size ≤ B) : RowP b N C L i w' cs :=
  let ⟨a, h1, h2, h3⟩ := h; ⟨a, h1, h2.below hb hB, h3⟩
theorem RowP.set {b : Nat} {N : Nat → Nat} {C : Nat → Nat → Int} {L : Nat → Int} {i : Nat} {w : World} {cs : List Value} (h : RowP b N C L i w cs) (o : Nat) (vs : List Value) : RowP b N C L i (w.setCells b o vs) cs :=
  let ⟨a, h1, h2, h3⟩ := h; ⟨a, h1, h2.setCells b o vs h3, h3⟩
theorem GrpP.below {b : Nat} {nQ : Nat → Nat} {Q : Nat → Nat → Int} {nO : Nat → Nat} {O : Nat → Nat → Bool} {nA : Nat → Nat} {A : Nat → Nat → Int} {i : Nat} {w w' : World} {cs : List Value} {B : Nat} (h : GrpP b nQ Q nO O nA A i w cs) (hb : Below B w w') (hB : w.heap.size ≤ B) : GrpP b nQ Q nO O nA A i w' cs :=
  let ⟨a1, a2, a3, h1, ⟨k1, k2, k3⟩, h3⟩ := h; ⟨a1, a2, a3, h1, ⟨k1.below hb hB, k2.below hb hB, k3.below hb hB⟩, h3⟩
theorem GrpP.set {b : Nat} {nQ : Nat → Nat} {Q : Nat → Nat → Int} {nO : Nat → Nat} {O : Nat → Nat → Bool} {nA : Nat → Nat} {A : Nat → Nat → Int} {i : Nat} {w : World} {cs : List Value} (h : GrpP b nQ Q nO O nA A i w cs) (o : Nat) (vs : List Value) : GrpP b nQ Q nO O nA A i (w.setCells b o vs) cs :=
  let ⟨a1, a2, a3, h1, ⟨k1, k2, k3⟩, d1, d2, d3⟩ := h; ⟨a1, a2, a3, h1, ⟨k1.setCells b o vs d1, k2.setCells b o vs d2, k3.setCells b o vs d3⟩, d1, d2, d3⟩

theorem isRow_of {b o n : Nat} {C : Nat → Int} {l : Int} {w : World} {a : Option Addr} (h : w.rangeAt b o (rowCells a n l)) (hA : IsA encI w a n C) : IsRow w b o n C l :=
  ⟨a, h 0 _ rfl, h 1 _ rfl, h 2 _ rfl, h 3 _ rfl, h 4 _ rfl, hA⟩
theorem isGrp_of {b o nq no na : Nat} {q ap : Nat → Int} {ok : Nat → Bool} {w : World} {a1 a2 a3 : Option Addr} (h : w.rangeAt b o (grpCells a1 nq a2 no a3 na)) (h1 : IsA encI w a1 nq q) (h2 : IsA encB w a2 no ok) (h3 : IsA encI w a3 na ap) : IsGrp w b o nq q no ok na ap :=
  ⟨a1, a2, a3, h 0 _ rfl, h 1 _ rfl, h 2 _ rfl, h 3 _ rfl, h1, h2, h3⟩

theorem info39 : (Try.prog.info? 39).map (fun i => (i.zero, i.size, i.bytes)) = some (some (.agg #[.int .i64 0, .slice none 0 0, .slice none 0 0, .int .i64 0, .bool false]), 5, 72) := by kernel_rfl
theorem info42' : (Try.prog.info? 42).map (fun i => (i.zero, i.size, i.bytes)) = some (some (.agg #[.slice none 0 0, .int .i64 0, .slice none 0 0, .slice none 0 0]), 4, 80) := by kernel_rfl
theorem size39 : (Try.prog.info? 39).map (·.size) = some 5 := by kernel_rfl

theorem size42 : (Try.prog.info? 42).map (·.size) = some 4 := by kernel_rfl

theorem prob_of {w : World} {rb gb : Nat} {D : PD} (h1 : Tbl (RowP rb D.nC D.C D.L) w rb 5 D.nR D.nR) (h2 : Tbl (GrpP gb D.nQ D.Q D.nO D.O D.nA D.A) w gb 4 D.nG D.nG) :
    IsProb (w.alloc (.cells #[.slice (some ⟨rb, 0, none⟩) D.nR D.nR, .slice (some ⟨gb, 0, none⟩) D.nG D.nG, .bool false] 45)) w.heap.size rb gb D := by
  have hb : Below w.heap.size w (w.alloc (.cells #[.slice (some ⟨rb, 0, none⟩) D.nR D.nR, .slice (some ⟨gb, 0, none⟩) D.nG D.nG, .bool false] 45)) := (Below.refl _ _).alloc (Nat.le_refl _) _
  have hcell := heap_alloc_new w (.cells #[.slice (some ⟨rb, 0, none⟩) D.nR D.nR, .slice (some ⟨gb, 0, none⟩) D.nG D.nG, .bool false] 45)
  refine ⟨by simp, ?_, ?_, ⟨Nat.lt_of_lt_of_le h1.1 hb.size, fun r hr => ?_⟩, ⟨Nat.lt_of_lt_of_le h2.1 hb.size, fun r hr => ?_⟩⟩
  · rw [cell_of_row _ _ 0 _ 45 (0, 0) hcell]; rfl
  · rw [cell_of_row _ _ 1 _ 45 (0, 0) hcell]; rfl
  · obtain ⟨cs, _, k2, a, rfl, k3, _⟩ := h1.2.2 r hr
    exact (isRow_of k2 k3).below h1.1 hb (Nat.le_refl _)
  · obtain ⟨cs, _, k2, a1, a2, a3, rfl, ⟨k3, k4, k5⟩, _⟩ := h2.2.2 r hr
    exact (isGrp_of k2 k3 k4 k5).below h2.1 hb (Nat.le_refl _)

def BuildOut (B : Nat) (D : PD) (e : Ending) (w' : World) : Prop :=
  ∃ pb rb gb, e = .returned (.pointer (some ⟨pb, 0, none⟩)) ∧ B ≤ pb ∧ IsProb w' pb rb gb D

set_option maxHeartbeats 8000000 in
set_option maxRecDepth 100000 in
theorem build_any (ac al ar ao aa : Option Addr) (nR cc cl n cr co ca : Nat) (D : PD) (dup : Int) (w : World)
    (hC : IsSS encI w ac nR D.nC D.C) (hL : IsA encI w al nR D.L) (hQ : IsSS encI w ar n D.nQ D.Q) (hO : IsSS encB w ao n D.nO D.O) (hA : IsSS encI w aa n D.nA D.A)
    (hR : nR ≤ 4096) (hn : n ≤ 4096) (bC : ∀ i, i < nR → D.nC i ≤ 1048576) (bQ : ∀ i, i < n → D.nQ i ≤ 1048576) (bO : ∀ i, i < n → D.nO i ≤ 1048576) (bA : ∀ i, i < n → D.nA i ≤ 1048576)
    (hnR : D.nR = nR) (hdup : (dup < 0 ∧ D.nG = n) ∨ ∃ g : Nat, g < n ∧ dup = g ∧ D.nG = n + 1 ∧ (D.nQ n = D.nQ g ∧ D.Q n = D.Q g) ∧ (D.nO n = D.nO g ∧ D.O n = D.O g) ∧ (D.nA n = D.nA g ∧ D.A n = D.A g)) :
    Calls Try.prog 8 #[.slice ac nR cc, .slice al nR cl, .slice ar n cr, .slice ao n co, .slice aa n ca, .int .i64 dup] w fun e w' => BuildOut w.heap.size D e w' ∧ Below w.heap.size w w' := by
  obtain ⟨i0, hi, hz0, hz1, hz2⟩ := info_parts info39
  obtain ⟨j0, hj, hy0, hy1, hy2⟩ := info_parts info42'
  subst hnR
  have HC : Hid (IsSS encI w ac D.nR D.nC D.C) := hC
  have HL : Hid (IsA encI w al D.nR D.L) := hL
  have HQ : Hid (IsSS encI w ar n D.nQ D.Q) := hQ
  have HO : Hid (IsSS encB w ao n D.nO D.O) := hO
  have HA : Hid (IsSS encI w aa n D.nA D.A) := hA
  clear hC hL hQ hO hA
  go_enter Try.func8, Try.ntmps8
  go_wp2_with (at_make; refine wpList_make_full _ rfl _ _ 36 rfl w.heap.size 39 i0 _ 5 Try.underlying36 hi hz0 hz1 .i64 .i64 _ _ D.nR rfl rfl (by omega) (by omega) (by rw [hz2]; omega) (by unfold maxLen; omega) (Nat.le_refl _) ?_; intro w0 hown0 hgrow0)
  have hb0 : Below w.heap.size w w0 := (Below.refl _ _).grown hgrow0 (Nat.le_refl _) (fun k h => by cases h)
  have hT0 : Tbl (RowP w.heap.size D.nC D.C D.L) w0 w.heap.size 5 D.nR 0 := Tbl.made hown0
  clear hown0 hgrow0
  go_loopw [14] (fun i wr => ∃ k : Nat, k ≤ D.nR ∧ i = .int .i64 k ∧ Below w.heap.size w wr ∧ Tbl (RowP w.heap.size D.nC D.C D.L) wr w.heap.size 5 D.nR k) (fun i _ => D.nR - (intOf i).toNat)
  case atStart => exact ⟨0, Nat.zero_le _, rfl, hb0, hT0⟩
  case round =>
    clear hb0 hT0
    obtain ⟨k, hk, rfl, hb, hT⟩ := hrel
    by_cases hlt : k < D.nR
    · rcases HC.out with h0 | ⟨cb, cof, rfl, hcb0, hcc⟩
      · omega
      rcases HL.out with h0 | ⟨lb, lof, rfl, hlb0, hlc⟩
      · omega
      obtain ⟨ai, ci, k1', k2'⟩ := hcc k hlt
      have k1 := (hb.cell (p := ⟨cb, cof + k, none⟩) hcb0).trans k1'
      have k3 := (hb.cell (p := ⟨lb, lof + k, none⟩) hlb0).trans (hlc k hlt)
      have k2 := k2'.below hb (Nat.le_refl _)
      have hsz := hb.size
      have hcb : cb < wr.heap.size := by omega
      have hlb : lb < wr.heap.size := by omega
      clear k1' k2'
      have hbk := bC k hlt
      have ik0 : (0 : Int) ≤ k := by omega
      have ik1 : (k : Int) < D.nR := by omega
      have HB : Hid (Below w.heap.size w wr) := hb
      have HT : Hid (Tbl (RowP w.heap.size D.nC D.C D.L) wr w.heap.size 5 D.nR k) := hT
      have KA : Hid (IsA encI wr ai (D.nC k) (D.C k)) := k2
      clear hcc hlc hb hT k2
      go_wp2_with fail
      refine wp_region_noPanic ?_
      refine wp_region_held_drew (S := fun w' => w'.cell? ⟨cb, cof + k, none⟩ = some (.slice ai (D.nC k) ci) ∧ w'.cell? ⟨lb, lof + k, none⟩ = some (.int .i64 (D.L k))) (by kernel_rfl) ⟨k1, k3⟩ (fun hHeld => ?_)
      refine takeD 0 27 (v := ?av0) (by kernel_rfl) (by kernel_rfl) (by kernel_rfl) (by kernel_rfl) (fun _ _ _ _ h => h) ?ah0 hHeld ?_
      case ah0 => (intro oi ho; simp only [List.getElem?_toArray, List.getElem?_cons_zero, Option.some.injEq] at ho; subst ho; refine Or.inl ⟨by rfl, ?_⟩; intro w1 hSw; (try dsimp only at hSw); go_simp <;> with_reducible rfl)
      simp only [Act.put, List.setIfInBounds_toArray, List.set_cons_zero, List.set_cons_succ]
      refine takeD 1 28 (v := ?av1) (by kernel_rfl) (by kernel_rfl) (by kernel_rfl) (by kernel_rfl) (fun _ _ _ _ h => h) ?ah1 hHeld ?_
      case ah1 => (intro oi ho; simp only [List.getElem?_toArray, List.getElem?_cons_succ, List.getElem?_cons_zero, Option.some.injEq] at ho; subst ho; refine Or.inl ⟨by rfl, ?_⟩; intro w1 hSw; (try dsimp only at hSw); go_simp <;> with_reducible rfl)
      simp only [Act.put, List.setIfInBounds_toArray, List.set_cons_zero, List.set_cons_succ]
      refine takeD 2 29 (v := ?av2) (by kernel_rfl) (by kernel_rfl) (by kernel_rfl) (by kernel_rfl) (fun _ _ _ _ h => h) ?ah2 hHeld ?_
      case ah2 => (intro oi ho; simp only [List.getElem?_toArray, List.getElem?_cons_succ, List.getElem?_cons_zero, Option.some.injEq] at ho; subst ho; refine Or.inl ⟨by rfl, ?_⟩; intro w1 hSw; (try dsimp only at hSw); go_simp <;> with_reducible rfl)
      simp only [Act.put, List.setIfInBounds_toArray, List.set_cons_zero, List.set_cons_succ]
      refine takeD 3 30 (v := ?av3) (by kernel_rfl) (by kernel_rfl) (by kernel_rfl) (by kernel_rfl) (fun _ _ _ _ h => h) ?ah3 hHeld ?_
      case ah3 => (intro oi ho; simp only [List.getElem?_toArray, List.getElem?_cons_succ, List.getElem?_cons_zero, Option.some.injEq] at ho; subst ho; refine Or.inl ⟨by rfl, ?_⟩; intro w1 hSw; (try dsimp only at hSw); go_simp <;> with_reducible rfl)
      simp only [Act.put, List.setIfInBounds_toArray, List.set_cons_zero, List.set_cons_succ]
      refine takeD 4 31 (v := ?av4) (by kernel_rfl) (by kernel_rfl) (by kernel_rfl) (by kernel_rfl) (fun _ _ _ _ h => h) ?ah4 hHeld ?_
      case ah4 => (intro oi ho; simp only [List.getElem?_toArray, List.getElem?_cons_succ, List.getElem?_cons_zero, Option.some.injEq] at ho; subst ho; refine Or.inl ⟨by rfl, ?_⟩; intro w1 hSw; (try dsimp only at hSw); go_simp <;> with_reducible rfl)
      simp only [Act.put, List.setIfInBounds_toArray, List.set_cons_zero, List.set_cons_succ]
      refine takeD 5 32 (v := ?av5) (by kernel_rfl) (by kernel_rfl) (by kernel_rfl) (by kernel_rfl) (fun _ _ _ _ h => h) ?ah5 hHeld ?_
      case ah5 => (intro oi ho; simp only [List.getElem?_toArray, List.getElem?_cons_succ, List.getElem?_cons_zero, Option.some.injEq] at ho; subst ho; refine Or.inl ⟨by rfl, ?_⟩; intro w1 hSw; (try dsimp only at hSw); go_simp <;> with_reducible rfl)
      simp only [Act.put, List.setIfInBounds_toArray, List.set_cons_zero, List.set_cons_succ]
      refine takeD 7 34 (v := ?av7) (by kernel_rfl) (by kernel_rfl) (by kernel_rfl) (by kernel_rfl) (fun _ _ _ _ h => h) ?ah7 hHeld ?_
      case ah7 => (intro oi ho; simp only [List.getElem?_toArray, List.getElem?_cons_succ, List.getElem?_cons_zero, Option.some.injEq] at ho; subst ho; refine Or.inl ⟨by rfl, ?_⟩; intro w1 hSw; (try dsimp only at hSw); go_simp <;> with_reducible rfl)
      simp only [Act.put, List.setIfInBounds_toArray, List.set_cons_zero, List.set_cons_succ]
      refine takeD 8 35 (v := ?av8) (by kernel_rfl) (by kernel_rfl) (by kernel_rfl) (by kernel_rfl) (fun _ _ _ _ h => h) ?ah8 hHeld ?_
      case ah8 => (intro oi ho; simp only [List.getElem?_toArray, List.getElem?_cons_succ, List.getElem?_cons_zero, Option.some.injEq] at ho; subst ho; refine Or.inl ⟨by rfl, ?_⟩; intro w1 hSw; (try dsimp only at hSw); go_simp <;> with_reducible rfl)
      simp only [Act.put, List.setIfInBounds_toArray, List.set_cons_zero, List.set_cons_succ]
      refine takeD 9 36 (v := ?av9) (by kernel_rfl) (by kernel_rfl) (by kernel_rfl) (by kernel_rfl) (fun _ _ _ _ h => h) ?ah9 hHeld ?_
      case ah9 => (intro oi ho; simp only [List.getElem?_toArray, List.getElem?_cons_succ, List.getElem?_cons_zero, Option.some.injEq] at ho; subst ho; refine Or.inl ⟨by rfl, ?_⟩; intro w1 hSw; (try dsimp only at hSw); go_simp <;> with_reducible rfl)
      simp only [Act.put, List.setIfInBounds_toArray, List.set_cons_zero, List.set_cons_succ]
      refine takeD 10 37 (v := ?av10) (by kernel_rfl) (by kernel_rfl) (by kernel_rfl) (by kernel_rfl) (fun _ _ _ _ h => h) ?ah10 hHeld ?_
      case ah10 => (intro oi ho; simp only [List.getElem?_toArray, List.getElem?_cons_succ, List.getElem?_cons_zero, Option.some.injEq] at ho; subst ho; refine Or.inl ⟨by rfl, ?_⟩; intro w1 hSw; (try dsimp only at hSw); go_simp <;> with_reducible rfl)
      simp only [Act.put, List.setIfInBounds_toArray, List.set_cons_zero, List.set_cons_succ]
      refine oneD 6 (by kernel_rfl) (by kernel_rfl) ?_
      intro oi ho
      simp only [List.getElem?_toArray, List.getElem?_cons_succ, List.getElem?_cons_zero, Option.some.injEq] at ho; subst ho
      intro K' hK
      rw [if_pos (by rfl)]
      go_simp
      refine (clone64_any _ _ _ (D.C k) _ (KA.out.drewN 1) hbk).mono ?_
      rintro e w1 ⟨a', rfl, hu, hf, hb1⟩
      have hb1' : Below wr.heap.size wr w1 := ⟨hb1.os, hb1.tape, hb1.output, hb1.size, hb1.block⟩
      refine hK.out _ _ ⟨(hb1'.cell (p := ⟨cb, cof + k, none⟩) hcb).trans k1, (hb1'.cell (p := ⟨lb, lof + k, none⟩) hlb).trans k3⟩ (fun hHeld => ?_)
      clear hK K'
      refine takeD 11 38 (v := ?av11) (by kernel_rfl) (by kernel_rfl) (by kernel_rfl) (by kernel_rfl) (fun _ _ _ _ h => h) ?ah11 hHeld ?_
      case ah11 => (intro oi ho; simp only [List.getElem?_toArray, List.getElem?_cons_succ, List.getElem?_cons_zero, Option.some.injEq] at ho; subst ho; refine Or.inl ⟨by rfl, ?_⟩; intro w1 hSw; (try dsimp only at hSw); go_simp <;> with_reducible rfl)
      simp only [Act.put, List.setIfInBounds_toArray, List.set_cons_zero, List.set_cons_succ]
      refine takeD 12 39 (v := ?av12) (by kernel_rfl) (by kernel_rfl) (by kernel_rfl) (by kernel_rfl) (fun _ _ _ _ h => h) ?ah12 hHeld ?_
      case ah12 => (intro oi ho; simp only [List.getElem?_toArray, List.getElem?_cons_succ, List.getElem?_cons_zero, Option.some.injEq] at ho; subst ho; refine Or.inl ⟨by rfl, ?_⟩; intro w1 hSw; (try dsimp only at hSw); go_simp <;> with_reducible rfl)
      simp only [Act.put, List.setIfInBounds_toArray, List.set_cons_zero, List.set_cons_succ]
      refine oneD 13 (by kernel_rfl) (by kernel_rfl) ?_
      intro oi ho
      simp only [List.getElem?_toArray, List.getElem?_cons_succ, List.getElem?_cons_zero, Option.some.injEq] at ho; subst ho
      intro K' hK
      rw [if_pos (by rfl)]
      have hrl := HT.out.1
      have hf' : ∀ x, a' = some x → wr.heap.size ≤ x.block := hf
      have hT1 := HT.out.below (fun i cs h => RowP.below h hb1' (Nat.le_refl _)) hb1' (Nat.le_refl _)
      have hput := hT1.put hlt (rowCells a' (D.nC k) (D.L k)) rfl (fun i ds h => h.set _ _) ⟨a', rfl, hu.setCells _ _ _ (fun x hx e => by have := hf' x hx; omega), fun x hx e => by have := hf' x hx; omega⟩
      have hbel := below_setCells (HB.out.trans (hb1'.mono hsz)) w.heap.size (Nat.le_refl _) (k * 5) (rowCells a' (D.nC k) (D.L k))
      refine wp_store_mid 39 _ _ rfl w.heap.size (k * 5) (rowCells a' (D.nC k) (D.L k)).toArray rfl rfl (there_part hT1.2.1 (by show k * 5 + 5 ≤ D.nR * 5; omega)) size39 (by simp [rowCells, Value.oneCell']) ?_
      refine hK.out _ _ ⟨?_, ?_⟩ (fun hHeld => ?_)
      · exact (World.cell?_of_block (setCells_block w.heap.size cb (by omega) _ _ _)).trans hHeld.1
      · exact (World.cell?_of_block (setCells_block w.heap.size lb (by omega) _ _ _)).trans hHeld.2
      clear hK K'
      refine wpAnyH_done (by kernel_rfl) ?_ _
      refine NoPanic.normal ?_
      have R1 : Hid (Tbl (RowP w.heap.size D.nC D.C D.L) (w1.setCells w.heap.size (k * 5) (rowCells a' (D.nC k) (D.L k))) w.heap.size 5 D.nR (k + 1)) := hput
      have R2 : Hid (Below w.heap.size w (w1.setCells w.heap.size (k * 5) (rowCells a' (D.nC k) (D.L k)))) := hbel
      clear hput hbel hHeld HT HB KA hT1 hu hf hf' hb1 hb1' k1 k3
      go_wp2
      go_roundw
      case rel => exact ⟨k + 1, by omega, by go_num, R2.out, R1.out⟩
      case measure => simp [intOf]; omega
    · have hke : D.nR = k := by omega
      subst hke
      obtain ⟨wo, rfl⟩ : ∃ wo, wo = wr := ⟨_, rfl⟩
      have HB1 : Hid (Below w.heap.size w wo) := hb
      have HTT : Hid (Tbl (RowP w.heap.size D.nC D.C D.L) wo w.heap.size 5 D.nR D.nR) := hT
      clear hb hT
      rcases hdup with ⟨hd, hng⟩ | ⟨g, hg, rfl, hng, hnq, hno, hna⟩
      · have hd0 : decide ((0 : Int) ≤ dup) = false := decide_eq_false (by omega)
        go_wp2_with (at_make; refine wpList_make_full _ rfl _ _ 40 rfl wo.heap.size 42 j0 _ 4 Try.underlying40 hj hy0 hy1 .i64 .i64 _ _ n (by go_num) (by go_num) (by omega) (by omega) (by rw [hy2]; omega) (by unfold maxLen; omega) (Nat.le_refl _) ?_; intro w2 hown2 hgrow2)
        have hb2 : Below wo.heap.size wo w2 := (Below.refl _ _).grown hgrow2 (Nat.le_refl _) (fun k h => by cases h)
        have hG2 : Tbl (GrpP wo.heap.size D.nQ D.Q D.nO D.O D.nA D.A) w2 wo.heap.size 4 n 0 := Tbl.made hown2
        clear hown2 hgrow2
        go_loopw [17] (fun i wr => ∃ k : Nat, k ≤ n ∧ i = .int .i64 k ∧ Below wo.heap.size wo wr ∧ Tbl (GrpP wo.heap.size D.nQ D.Q D.nO D.O D.nA D.A) wr wo.heap.size 4 n k) (fun i _ => n - (intOf i).toNat)
        case atStart => exact ⟨0, Nat.zero_le _, rfl, hb2, hG2⟩
        case round =>
          clear hb2 hG2
          obtain ⟨k, hk, rfl, hb2, hG2⟩ := hrel
          by_cases hlt : k < n
          · rcases HQ.out with h0 | ⟨qb, qof, rfl, hqb0, hqc⟩
            · omega
            rcases HO.out with h0 | ⟨ob, oof, rfl, hob0, hoc⟩
            · omega
            rcases HA.out with h0 | ⟨ab, aof, rfl, hab0, hac⟩
            · omega
            obtain ⟨b1, c1, k1', m1'⟩ := hqc k hlt
            obtain ⟨b2, c2, k2', m2'⟩ := hoc k hlt
            obtain ⟨b3, c3, k3', m3'⟩ := hac k hlt
            have hBB := HB1.out.trans (hb2.mono HB1.out.size)
            have hsz := hBB.size
            have hszr := hb2.size
            have k1 := (hBB.cell (p := ⟨qb, qof + k, none⟩) hqb0).trans k1'
            have m1 := m1'.below hBB (Nat.le_refl _)
            have hqb : qb < wr.heap.size := by omega
            have KA1 : Hid (IsA encI wr b1 (D.nQ k) (D.Q k)) := m1
            have k2 := (hBB.cell (p := ⟨ob, oof + k, none⟩) hob0).trans k2'
            have m2 := m2'.below hBB (Nat.le_refl _)
            have hob : ob < wr.heap.size := by omega
            have KA2 : Hid (IsA encB wr b2 (D.nO k) (D.O k)) := m2
            have k3 := (hBB.cell (p := ⟨ab, aof + k, none⟩) hab0).trans k3'
            have m3 := m3'.below hBB (Nat.le_refl _)
            have hab : ab < wr.heap.size := by omega
            have KA3 : Hid (IsA encI wr b3 (D.nA k) (D.A k)) := m3
            have hq1 := bQ k hlt
            have hq2 := bO k hlt
            have hq3 := bA k hlt
            have ik0 : (0 : Int) ≤ k := by omega
            have ik1 : (k : Int) < n := by omega
            have ik2 : (k : Int) < n + 1 := by omega
            have HB2 : Hid (Below wo.heap.size wo wr) := hb2
            have HG2 : Hid (Tbl (GrpP wo.heap.size D.nQ D.Q D.nO D.O D.nA D.A) wr wo.heap.size 4 n k) := hG2
            clear hqc hoc hac hb2 hG2 m1 m2 m3 m1' m2' m3' k1' k2' k3' hBB
            go_wp2_with fail
            refine wp_region_noPanic ?_
            refine wp_region_held_drew (S := fun w' => w'.cell? ⟨qb, qof + k, none⟩ = some (.slice b1 (D.nQ k) c1) ∧ w'.cell? ⟨ob, oof + k, none⟩ = some (.slice b2 (D.nO k) c2) ∧ w'.cell? ⟨ab, aof + k, none⟩ = some (.slice b3 (D.nA k) c3)) (by kernel_rfl) ⟨k1, k2, k3⟩ (fun hHeld => ?_)
            refine takeD 0 54 (v := ?bv0) (by kernel_rfl) (by kernel_rfl) (by kernel_rfl) (by kernel_rfl) (fun _ _ _ _ h => h) ?bh0 hHeld ?_
            case bh0 => (intro oi ho; simp only [List.getElem?_toArray, List.getElem?_cons_zero, Option.some.injEq] at ho; subst ho; refine Or.inl ⟨by rfl, ?_⟩; intro w1 hSw; (try dsimp only at hSw); go_simp <;> with_reducible rfl)
            simp only [Act.put, List.setIfInBounds_toArray, List.set_cons_zero, List.set_cons_succ]
            refine takeD 1 55 (v := ?bv1) (by kernel_rfl) (by kernel_rfl) (by kernel_rfl) (by kernel_rfl) (fun _ _ _ _ h => h) ?bh1 hHeld ?_
            case bh1 => (intro oi ho; simp only [List.getElem?_toArray, List.getElem?_cons_succ, List.getElem?_cons_zero, Option.some.injEq] at ho; subst ho; refine Or.inl ⟨by rfl, ?_⟩; intro w1 hSw; (try dsimp only at hSw); go_simp <;> with_reducible rfl)
            simp only [Act.put, List.setIfInBounds_toArray, List.set_cons_zero, List.set_cons_succ]
            refine takeD 2 56 (v := ?bv2) (by kernel_rfl) (by kernel_rfl) (by kernel_rfl) (by kernel_rfl) (fun _ _ _ _ h => h) ?bh2 hHeld ?_
            case bh2 => (intro oi ho; simp only [List.getElem?_toArray, List.getElem?_cons_succ, List.getElem?_cons_zero, Option.some.injEq] at ho; subst ho; refine Or.inl ⟨by rfl, ?_⟩; intro w1 hSw; (try dsimp only at hSw); go_simp <;> with_reducible rfl)
            simp only [Act.put, List.setIfInBounds_toArray, List.set_cons_zero, List.set_cons_succ]
            refine takeD 3 57 (v := ?bv3) (by kernel_rfl) (by kernel_rfl) (by kernel_rfl) (by kernel_rfl) (fun _ _ _ _ h => h) ?bh3 hHeld ?_
            case bh3 => (intro oi ho; simp only [List.getElem?_toArray, List.getElem?_cons_succ, List.getElem?_cons_zero, Option.some.injEq] at ho; subst ho; refine Or.inl ⟨by rfl, ?_⟩; intro w1 hSw; (try dsimp only at hSw); go_simp <;> with_reducible rfl)
            simp only [Act.put, List.setIfInBounds_toArray, List.set_cons_zero, List.set_cons_succ]
            refine takeD 4 58 (v := ?bv4) (by kernel_rfl) (by kernel_rfl) (by kernel_rfl) (by kernel_rfl) (fun _ _ _ _ h => h) ?bh4 hHeld ?_
            case bh4 => (intro oi ho; simp only [List.getElem?_toArray, List.getElem?_cons_succ, List.getElem?_cons_zero, Option.some.injEq] at ho; subst ho; refine Or.inl ⟨by rfl, ?_⟩; intro w1 hSw; (try dsimp only at hSw); go_simp <;> with_reducible rfl)
            simp only [Act.put, List.setIfInBounds_toArray, List.set_cons_zero, List.set_cons_succ]
            refine takeD 5 59 (v := ?bv5) (by kernel_rfl) (by kernel_rfl) (by kernel_rfl) (by kernel_rfl) (fun _ _ _ _ h => h) ?bh5 hHeld ?_
            case bh5 => (intro oi ho; simp only [List.getElem?_toArray, List.getElem?_cons_succ, List.getElem?_cons_zero, Option.some.injEq] at ho; subst ho; refine Or.inl ⟨by rfl, ?_⟩; intro w1 hSw; (try dsimp only at hSw); go_simp <;> with_reducible rfl)
            simp only [Act.put, List.setIfInBounds_toArray, List.set_cons_zero, List.set_cons_succ]
            refine takeD 6 60 (v := ?bv6) (by kernel_rfl) (by kernel_rfl) (by kernel_rfl) (by kernel_rfl) (fun _ _ _ _ h => h) ?bh6 hHeld ?_
            case bh6 => (intro oi ho; simp only [List.getElem?_toArray, List.getElem?_cons_succ, List.getElem?_cons_zero, Option.some.injEq] at ho; subst ho; refine Or.inl ⟨by rfl, ?_⟩; intro w1 hSw; (try dsimp only at hSw); go_simp <;> with_reducible rfl)
            simp only [Act.put, List.setIfInBounds_toArray, List.set_cons_zero, List.set_cons_succ]
            refine takeD 7 61 (v := ?bv7) (by kernel_rfl) (by kernel_rfl) (by kernel_rfl) (by kernel_rfl) (fun _ _ _ _ h => h) ?bh7 hHeld ?_
            case bh7 => (intro oi ho; simp only [List.getElem?_toArray, List.getElem?_cons_succ, List.getElem?_cons_zero, Option.some.injEq] at ho; subst ho; refine Or.inl ⟨by rfl, ?_⟩; intro w1 hSw; (try dsimp only at hSw); go_simp <;> with_reducible rfl)
            simp only [Act.put, List.setIfInBounds_toArray, List.set_cons_zero, List.set_cons_succ]
            refine takeD 8 62 (v := ?bv8) (by kernel_rfl) (by kernel_rfl) (by kernel_rfl) (by kernel_rfl) (fun _ _ _ _ h => h) ?bh8 hHeld ?_
            case bh8 => (intro oi ho; simp only [List.getElem?_toArray, List.getElem?_cons_succ, List.getElem?_cons_zero, Option.some.injEq] at ho; subst ho; refine Or.inl ⟨by rfl, ?_⟩; intro w1 hSw; (try dsimp only at hSw); go_simp <;> with_reducible rfl)
            simp only [Act.put, List.setIfInBounds_toArray, List.set_cons_zero, List.set_cons_succ]
            refine takeD 9 63 (v := ?bv9) (by kernel_rfl) (by kernel_rfl) (by kernel_rfl) (by kernel_rfl) (fun _ _ _ _ h => h) ?bh9 hHeld ?_
            case bh9 => (intro oi ho; simp only [List.getElem?_toArray, List.getElem?_cons_succ, List.getElem?_cons_zero, Option.some.injEq] at ho; subst ho; refine Or.inl ⟨by rfl, ?_⟩; intro w1 hSw; (try dsimp only at hSw); go_simp <;> with_reducible rfl)
            simp only [Act.put, List.setIfInBounds_toArray, List.set_cons_zero, List.set_cons_succ]
            refine takeD 10 64 (v := ?bv10) (by kernel_rfl) (by kernel_rfl) (by kernel_rfl) (by kernel_rfl) (fun _ _ _ _ h => h) ?bh10 hHeld ?_
            case bh10 => (intro oi ho; simp only [List.getElem?_toArray, List.getElem?_cons_succ, List.getElem?_cons_zero, Option.some.injEq] at ho; subst ho; refine Or.inl ⟨by rfl, ?_⟩; intro w1 hSw; (try dsimp only at hSw); go_simp <;> with_reducible rfl)
            simp only [Act.put, List.setIfInBounds_toArray, List.set_cons_zero, List.set_cons_succ]
            refine takeD 11 65 (v := ?bv11) (by kernel_rfl) (by kernel_rfl) (by kernel_rfl) (by kernel_rfl) (fun _ _ _ _ h => h) ?bh11 hHeld ?_
            case bh11 => (intro oi ho; simp only [List.getElem?_toArray, List.getElem?_cons_succ, List.getElem?_cons_zero, Option.some.injEq] at ho; subst ho; refine Or.inl ⟨by rfl, ?_⟩; intro w1 hSw; (try dsimp only at hSw); go_simp <;> with_reducible rfl)
            simp only [Act.put, List.setIfInBounds_toArray, List.set_cons_zero, List.set_cons_succ]
            refine takeD 12 66 (v := ?bv12) (by kernel_rfl) (by kernel_rfl) (by kernel_rfl) (by kernel_rfl) (fun _ _ _ _ h => h) ?bh12 hHeld ?_
            case bh12 => (intro oi ho; simp only [List.getElem?_toArray, List.getElem?_cons_succ, List.getElem?_cons_zero, Option.some.injEq] at ho; subst ho; refine Or.inl ⟨by rfl, ?_⟩; intro w1 hSw; (try dsimp only at hSw); go_simp <;> with_reducible rfl)
            simp only [Act.put, List.setIfInBounds_toArray, List.set_cons_zero, List.set_cons_succ]
            refine takeD 13 67 (v := ?bv13) (by kernel_rfl) (by kernel_rfl) (by kernel_rfl) (by kernel_rfl) (fun _ _ _ _ h => h) ?bh13 hHeld ?_
            case bh13 => (intro oi ho; simp only [List.getElem?_toArray, List.getElem?_cons_succ, List.getElem?_cons_zero, Option.some.injEq] at ho; subst ho; refine Or.inl ⟨by rfl, ?_⟩; intro w1 hSw; (try dsimp only at hSw); go_simp <;> with_reducible rfl)
            simp only [Act.put, List.setIfInBounds_toArray, List.set_cons_zero, List.set_cons_succ]
            refine oneD 14 (by kernel_rfl) (by kernel_rfl) ?_
            intro oi ho
            simp only [List.getElem?_toArray, List.getElem?_cons_succ, List.getElem?_cons_zero, Option.some.injEq] at ho; subst ho
            intro K' hK
            rw [if_pos (by rfl)]
            go_simp
            refine (makeGroup_any _ _ _ _ _ _ _ _ _ (D.Q k) (D.O k) (D.A k) _ (KA1.out.drewN 1) (KA2.out.drewN 1) (KA3.out.drewN 1) hq1 hq2 hq3).mono ?_
            rintro e w1 ⟨⟨a1', a2', a3', rfl, hu1, hu2, hu3, hf1, hf2, hf3⟩, hb1⟩
            have hb1' : Below wr.heap.size wr w1 := ⟨hb1.os, hb1.tape, hb1.output, hb1.size, hb1.block⟩
            refine hK.out _ _ ⟨(hb1'.cell (p := ⟨qb, qof + k, none⟩) hqb).trans k1, (hb1'.cell (p := ⟨ob, oof + k, none⟩) hob).trans k2, (hb1'.cell (p := ⟨ab, aof + k, none⟩) hab).trans k3⟩ (fun hHeld => ?_)
            clear hK K'
            refine takeD 15 69 (v := ?bv15) (by kernel_rfl) (by kernel_rfl) (by kernel_rfl) (by kernel_rfl) (fun _ _ _ _ h => h) ?bh15 hHeld ?_
            case bh15 => (intro oi ho; simp only [List.getElem?_toArray, List.getElem?_cons_succ, List.getElem?_cons_zero, Option.some.injEq] at ho; subst ho; refine Or.inl ⟨by rfl, ?_⟩; intro w1 hSw; (try dsimp only at hSw); go_simp <;> with_reducible rfl)
            simp only [Act.put, List.setIfInBounds_toArray, List.set_cons_zero, List.set_cons_succ]
            refine oneD 16 (by kernel_rfl) (by kernel_rfl) ?_
            intro oi ho
            simp only [List.getElem?_toArray, List.getElem?_cons_succ, List.getElem?_cons_zero, Option.some.injEq] at ho; subst ho
            intro K' hK
            rw [if_pos (by rfl)]
            have hrl := HG2.out.1
            have hf1' : ∀ x, a1' = some x → wr.heap.size ≤ x.block := hf1
            have hf2' : ∀ x, a2' = some x → wr.heap.size ≤ x.block := hf2
            have hf3' : ∀ x, a3' = some x → wr.heap.size ≤ x.block := hf3
            have hG3 := HG2.out.below (fun i cs h => GrpP.below h hb1' (Nat.le_refl _)) hb1' (Nat.le_refl _)
            have hput := hG3.put (by omega) (grpCells a1' (D.nQ k) a2' (D.nO k) a3' (D.nA k)) rfl (fun i ds h => h.set _ _) ⟨a1', a2', a3', rfl, ⟨hu1.setCells _ _ _ (fun x hx e => by have := hf1' x hx; omega), hu2.setCells _ _ _ (fun x hx e => by have := hf2' x hx; omega), hu3.setCells _ _ _ (fun x hx e => by have := hf3' x hx; omega)⟩, fun x hx e => by have := hf1' x hx; omega, fun x hx e => by have := hf2' x hx; omega, fun x hx e => by have := hf3' x hx; omega⟩
            have hbel := below_setCells (HB2.out.trans (hb1'.mono hszr)) wo.heap.size (Nat.le_refl _) (k * 4) (grpCells a1' (D.nQ k) a2' (D.nO k) a3' (D.nA k))
            refine wp_store_mid 42 _ _ rfl wo.heap.size (k * 4) (grpCells a1' (D.nQ k) a2' (D.nO k) a3' (D.nA k)).toArray rfl rfl (there_part hG3.2.1 (by show k * 4 + 4 ≤ n * 4; omega)) size42 (by simp [grpCells, Value.oneCell']) ?_
            have hw1 := HB1.out.size
            refine hK.out _ _ ⟨?_, ?_, ?_⟩ (fun hHeld => ?_)
            · exact (World.cell?_of_block (setCells_block wo.heap.size qb (by omega) _ _ _)).trans hHeld.1
            · exact (World.cell?_of_block (setCells_block wo.heap.size ob (by omega) _ _ _)).trans hHeld.2.1
            · exact (World.cell?_of_block (setCells_block wo.heap.size ab (by omega) _ _ _)).trans hHeld.2.2
            clear hK K'
            refine wpAnyH_done (by kernel_rfl) ?_ _
            refine NoPanic.normal ?_
            have R1 : Hid (Tbl (GrpP wo.heap.size D.nQ D.Q D.nO D.O D.nA D.A) (w1.setCells wo.heap.size (k * 4) (grpCells a1' (D.nQ k) a2' (D.nO k) a3' (D.nA k))) wo.heap.size 4 n (k + 1)) := hput
            have R2 : Hid (Below wo.heap.size wo (w1.setCells wo.heap.size (k * 4) (grpCells a1' (D.nQ k) a2' (D.nO k) a3' (D.nA k)))) := hbel
            clear hput hbel hHeld HG2 HB2 KA1 KA2 KA3 hG3 hu1 hu2 hu3 hf1 hf2 hf3 hf1' hf2' hf3' hb1 hb1' k1 k2 k3
            go_wp2
            go_roundw
            case rel => exact ⟨k + 1, by omega, by go_num, R2.out, R1.out⟩
            case measure => simp [intOf]; omega
          · have hke : n = k := by omega
            subst hke
            obtain ⟨we, rfl⟩ : ∃ we, we = wr := ⟨_, rfl⟩
            have hbb := HB1.out.trans (hb2.mono HB1.out.size)
            have hT2 := HTT.out.below (fun i cs h => RowP.below h hb2 (Nat.le_refl _)) hb2 (Nat.le_refl _)
            have hput := hG2

            rw [← hng] at hput
            have R1 : Hid (IsProb (we.alloc (.cells #[.slice (some ⟨w.heap.size, 0, none⟩) D.nR D.nR, .slice (some ⟨wo.heap.size, 0, none⟩) D.nG D.nG, .bool false] 45)) we.heap.size w.heap.size wo.heap.size D) := prob_of hT2 hput
            have R2 : Hid (Below w.heap.size w (we.alloc (.cells #[.slice (some ⟨w.heap.size, 0, none⟩) D.nR D.nR, .slice (some ⟨wo.heap.size, 0, none⟩) D.nG D.nG, .bool false] 45))) := hbb.alloc hbb.size _
            rw [hng] at R1 R2
            have hsz' := hbb.size

            clear hb2 hT2 hG2 hbb hput
            go_wp2
            go_ret
            exact ⟨⟨_, _, _, rfl, hsz', R1.out⟩, R2.out⟩
      · have hd0 : decide ((0 : Int) ≤ (g : Int)) = true := decide_eq_true (by omega)
        go_wp2_with (at_make; refine wpList_make_full _ rfl _ _ 40 rfl wo.heap.size 42 j0 _ 4 Try.underlying40 hj hy0 hy1 .i64 .i64 _ _ (n + 1) (by go_num) (by go_num) (by omega) (by omega) (by rw [hy2]; omega) (by unfold maxLen; omega) (Nat.le_refl _) ?_; intro w2 hown2 hgrow2)
        have hb2 : Below wo.heap.size wo w2 := (Below.refl _ _).grown hgrow2 (Nat.le_refl _) (fun k h => by cases h)
        have hG2 : Tbl (GrpP wo.heap.size D.nQ D.Q D.nO D.O D.nA D.A) w2 wo.heap.size 4 (n + 1) 0 := Tbl.made hown2
        clear hown2 hgrow2
        go_loopw [17] (fun i wr => ∃ k : Nat, k ≤ n ∧ i = .int .i64 k ∧ Below wo.heap.size wo wr ∧ Tbl (GrpP wo.heap.size D.nQ D.Q D.nO D.O D.nA D.A) wr wo.heap.size 4 (n + 1) k) (fun i _ => n - (intOf i).toNat)
        case atStart => exact ⟨0, Nat.zero_le _, rfl, hb2, hG2⟩
        case round =>
          clear hb2 hG2
          obtain ⟨k, hk, rfl, hb2, hG2⟩ := hrel
          by_cases hlt : k < n
          · rcases HQ.out with h0 | ⟨qb, qof, rfl, hqb0, hqc⟩
            · omega
            rcases HO.out with h0 | ⟨ob, oof, rfl, hob0, hoc⟩
            · omega
            rcases HA.out with h0 | ⟨ab, aof, rfl, hab0, hac⟩
            · omega
            obtain ⟨b1, c1, k1', m1'⟩ := hqc k hlt
            obtain ⟨b2, c2, k2', m2'⟩ := hoc k hlt
            obtain ⟨b3, c3, k3', m3'⟩ := hac k hlt
            have hBB := HB1.out.trans (hb2.mono HB1.out.size)
            have hsz := hBB.size
            have hszr := hb2.size
            have k1 := (hBB.cell (p := ⟨qb, qof + k, none⟩) hqb0).trans k1'
            have m1 := m1'.below hBB (Nat.le_refl _)
            have hqb : qb < wr.heap.size := by omega
            have KA1 : Hid (IsA encI wr b1 (D.nQ k) (D.Q k)) := m1
            have k2 := (hBB.cell (p := ⟨ob, oof + k, none⟩) hob0).trans k2'
            have m2 := m2'.below hBB (Nat.le_refl _)
            have hob : ob < wr.heap.size := by omega
            have KA2 : Hid (IsA encB wr b2 (D.nO k) (D.O k)) := m2
            have k3 := (hBB.cell (p := ⟨ab, aof + k, none⟩) hab0).trans k3'
            have m3 := m3'.below hBB (Nat.le_refl _)
            have hab : ab < wr.heap.size := by omega
            have KA3 : Hid (IsA encI wr b3 (D.nA k) (D.A k)) := m3
            have hq1 := bQ k hlt
            have hq2 := bO k hlt
            have hq3 := bA k hlt
            have ik0 : (0 : Int) ≤ k := by omega
            have ik1 : (k : Int) < n := by omega
            have ik2 : (k : Int) < n + 1 := by omega
            have HB2 : Hid (Below wo.heap.size wo wr) := hb2
            have HG2 : Hid (Tbl (GrpP wo.heap.size D.nQ D.Q D.nO D.O D.nA D.A) wr wo.heap.size 4 (n + 1) k) := hG2
            clear hqc hoc hac hb2 hG2 m1 m2 m3 m1' m2' m3' k1' k2' k3' hBB
            go_wp2_with fail
            refine wp_region_noPanic ?_
            refine wp_region_held_drew (S := fun w' => w'.cell? ⟨qb, qof + k, none⟩ = some (.slice b1 (D.nQ k) c1) ∧ w'.cell? ⟨ob, oof + k, none⟩ = some (.slice b2 (D.nO k) c2) ∧ w'.cell? ⟨ab, aof + k, none⟩ = some (.slice b3 (D.nA k) c3)) (by kernel_rfl) ⟨k1, k2, k3⟩ (fun hHeld => ?_)
            refine takeD 0 54 (v := ?cv0) (by kernel_rfl) (by kernel_rfl) (by kernel_rfl) (by kernel_rfl) (fun _ _ _ _ h => h) ?ch0 hHeld ?_
            case ch0 => (intro oi ho; simp only [List.getElem?_toArray, List.getElem?_cons_zero, Option.some.injEq] at ho; subst ho; refine Or.inl ⟨by rfl, ?_⟩; intro w1 hSw; (try dsimp only at hSw); go_simp <;> with_reducible rfl)
            simp only [Act.put, List.setIfInBounds_toArray, List.set_cons_zero, List.set_cons_succ]
            refine takeD 1 55 (v := ?cv1) (by kernel_rfl) (by kernel_rfl) (by kernel_rfl) (by kernel_rfl) (fun _ _ _ _ h => h) ?ch1 hHeld ?_
            case ch1 => (intro oi ho; simp only [List.getElem?_toArray, List.getElem?_cons_succ, List.getElem?_cons_zero, Option.some.injEq] at ho; subst ho; refine Or.inl ⟨by rfl, ?_⟩; intro w1 hSw; (try dsimp only at hSw); go_simp <;> with_reducible rfl)
            simp only [Act.put, List.setIfInBounds_toArray, List.set_cons_zero, List.set_cons_succ]
            refine takeD 2 56 (v := ?cv2) (by kernel_rfl) (by kernel_rfl) (by kernel_rfl) (by kernel_rfl) (fun _ _ _ _ h => h) ?ch2 hHeld ?_
            case ch2 => (intro oi ho; simp only [List.getElem?_toArray, List.getElem?_cons_succ, List.getElem?_cons_zero, Option.some.injEq] at ho; subst ho; refine Or.inl ⟨by rfl, ?_⟩; intro w1 hSw; (try dsimp only at hSw); go_simp <;> with_reducible rfl)
            simp only [Act.put, List.setIfInBounds_toArray, List.set_cons_zero, List.set_cons_succ]
            refine takeD 3 57 (v := ?cv3) (by kernel_rfl) (by kernel_rfl) (by kernel_rfl) (by kernel_rfl) (fun _ _ _ _ h => h) ?ch3 hHeld ?_
            case ch3 => (intro oi ho; simp only [List.getElem?_toArray, List.getElem?_cons_succ, List.getElem?_cons_zero, Option.some.injEq] at ho; subst ho; refine Or.inl ⟨by rfl, ?_⟩; intro w1 hSw; (try dsimp only at hSw); go_simp <;> with_reducible rfl)
            simp only [Act.put, List.setIfInBounds_toArray, List.set_cons_zero, List.set_cons_succ]
            refine takeD 4 58 (v := ?cv4) (by kernel_rfl) (by kernel_rfl) (by kernel_rfl) (by kernel_rfl) (fun _ _ _ _ h => h) ?ch4 hHeld ?_
            case ch4 => (intro oi ho; simp only [List.getElem?_toArray, List.getElem?_cons_succ, List.getElem?_cons_zero, Option.some.injEq] at ho; subst ho; refine Or.inl ⟨by rfl, ?_⟩; intro w1 hSw; (try dsimp only at hSw); go_simp <;> with_reducible rfl)
            simp only [Act.put, List.setIfInBounds_toArray, List.set_cons_zero, List.set_cons_succ]
            refine takeD 5 59 (v := ?cv5) (by kernel_rfl) (by kernel_rfl) (by kernel_rfl) (by kernel_rfl) (fun _ _ _ _ h => h) ?ch5 hHeld ?_
            case ch5 => (intro oi ho; simp only [List.getElem?_toArray, List.getElem?_cons_succ, List.getElem?_cons_zero, Option.some.injEq] at ho; subst ho; refine Or.inl ⟨by rfl, ?_⟩; intro w1 hSw; (try dsimp only at hSw); go_simp <;> with_reducible rfl)
            simp only [Act.put, List.setIfInBounds_toArray, List.set_cons_zero, List.set_cons_succ]
            refine takeD 6 60 (v := ?cv6) (by kernel_rfl) (by kernel_rfl) (by kernel_rfl) (by kernel_rfl) (fun _ _ _ _ h => h) ?ch6 hHeld ?_
            case ch6 => (intro oi ho; simp only [List.getElem?_toArray, List.getElem?_cons_succ, List.getElem?_cons_zero, Option.some.injEq] at ho; subst ho; refine Or.inl ⟨by rfl, ?_⟩; intro w1 hSw; (try dsimp only at hSw); go_simp <;> with_reducible rfl)
            simp only [Act.put, List.setIfInBounds_toArray, List.set_cons_zero, List.set_cons_succ]
            refine takeD 7 61 (v := ?cv7) (by kernel_rfl) (by kernel_rfl) (by kernel_rfl) (by kernel_rfl) (fun _ _ _ _ h => h) ?ch7 hHeld ?_
            case ch7 => (intro oi ho; simp only [List.getElem?_toArray, List.getElem?_cons_succ, List.getElem?_cons_zero, Option.some.injEq] at ho; subst ho; refine Or.inl ⟨by rfl, ?_⟩; intro w1 hSw; (try dsimp only at hSw); go_simp <;> with_reducible rfl)
            simp only [Act.put, List.setIfInBounds_toArray, List.set_cons_zero, List.set_cons_succ]
            refine takeD 8 62 (v := ?cv8) (by kernel_rfl) (by kernel_rfl) (by kernel_rfl) (by kernel_rfl) (fun _ _ _ _ h => h) ?ch8 hHeld ?_
            case ch8 => (intro oi ho; simp only [List.getElem?_toArray, List.getElem?_cons_succ, List.getElem?_cons_zero, Option.some.injEq] at ho; subst ho; refine Or.inl ⟨by rfl, ?_⟩; intro w1 hSw; (try dsimp only at hSw); go_simp <;> with_reducible rfl)
            simp only [Act.put, List.setIfInBounds_toArray, List.set_cons_zero, List.set_cons_succ]
            refine takeD 9 63 (v := ?cv9) (by kernel_rfl) (by kernel_rfl) (by kernel_rfl) (by kernel_rfl) (fun _ _ _ _ h => h) ?ch9 hHeld ?_
            case ch9 => (intro oi ho; simp only [List.getElem?_toArray, List.getElem?_cons_succ, List.getElem?_cons_zero, Option.some.injEq] at ho; subst ho; refine Or.inl ⟨by rfl, ?_⟩; intro w1 hSw; (try dsimp only at hSw); go_simp <;> with_reducible rfl)
            simp only [Act.put, List.setIfInBounds_toArray, List.set_cons_zero, List.set_cons_succ]
            refine takeD 10 64 (v := ?cv10) (by kernel_rfl) (by kernel_rfl) (by kernel_rfl) (by kernel_rfl) (fun _ _ _ _ h => h) ?ch10 hHeld ?_
            case ch10 => (intro oi ho; simp only [List.getElem?_toArray, List.getElem?_cons_succ, List.getElem?_cons_zero, Option.some.injEq] at ho; subst ho; refine Or.inl ⟨by rfl, ?_⟩; intro w1 hSw; (try dsimp only at hSw); go_simp <;> with_reducible rfl)
            simp only [Act.put, List.setIfInBounds_toArray, List.set_cons_zero, List.set_cons_succ]
            refine takeD 11 65 (v := ?cv11) (by kernel_rfl) (by kernel_rfl) (by kernel_rfl) (by kernel_rfl) (fun _ _ _ _ h => h) ?ch11 hHeld ?_
            case ch11 => (intro oi ho; simp only [List.getElem?_toArray, List.getElem?_cons_succ, List.getElem?_cons_zero, Option.some.injEq] at ho; subst ho; refine Or.inl ⟨by rfl, ?_⟩; intro w1 hSw; (try dsimp only at hSw); go_simp <;> with_reducible rfl)
            simp only [Act.put, List.setIfInBounds_toArray, List.set_cons_zero, List.set_cons_succ]
            refine takeD 12 66 (v := ?cv12) (by kernel_rfl) (by kernel_rfl) (by kernel_rfl) (by kernel_rfl) (fun _ _ _ _ h => h) ?ch12 hHeld ?_
            case ch12 => (intro oi ho; simp only [List.getElem?_toArray, List.getElem?_cons_succ, List.getElem?_cons_zero, Option.some.injEq] at ho; subst ho; refine Or.inl ⟨by rfl, ?_⟩; intro w1 hSw; (try dsimp only at hSw); go_simp <;> with_reducible rfl)
            simp only [Act.put, List.setIfInBounds_toArray, List.set_cons_zero, List.set_cons_succ]
            refine takeD 13 67 (v := ?cv13) (by kernel_rfl) (by kernel_rfl) (by kernel_rfl) (by kernel_rfl) (fun _ _ _ _ h => h) ?ch13 hHeld ?_
            case ch13 => (intro oi ho; simp only [List.getElem?_toArray, List.getElem?_cons_succ, List.getElem?_cons_zero, Option.some.injEq] at ho; subst ho; refine Or.inl ⟨by rfl, ?_⟩; intro w1 hSw; (try dsimp only at hSw); go_simp <;> with_reducible rfl)
            simp only [Act.put, List.setIfInBounds_toArray, List.set_cons_zero, List.set_cons_succ]
            refine oneD 14 (by kernel_rfl) (by kernel_rfl) ?_
            intro oi ho
            simp only [List.getElem?_toArray, List.getElem?_cons_succ, List.getElem?_cons_zero, Option.some.injEq] at ho; subst ho
            intro K' hK
            rw [if_pos (by rfl)]
            go_simp
            refine (makeGroup_any _ _ _ _ _ _ _ _ _ (D.Q k) (D.O k) (D.A k) _ (KA1.out.drewN 1) (KA2.out.drewN 1) (KA3.out.drewN 1) hq1 hq2 hq3).mono ?_
            rintro e w1 ⟨⟨a1', a2', a3', rfl, hu1, hu2, hu3, hf1, hf2, hf3⟩, hb1⟩
            have hb1' : Below wr.heap.size wr w1 := ⟨hb1.os, hb1.tape, hb1.output, hb1.size, hb1.block⟩
            refine hK.out _ _ ⟨(hb1'.cell (p := ⟨qb, qof + k, none⟩) hqb).trans k1, (hb1'.cell (p := ⟨ob, oof + k, none⟩) hob).trans k2, (hb1'.cell (p := ⟨ab, aof + k, none⟩) hab).trans k3⟩ (fun hHeld => ?_)
            clear hK K'
            refine takeD 15 69 (v := ?cv15) (by kernel_rfl) (by kernel_rfl) (by kernel_rfl) (by kernel_rfl) (fun _ _ _ _ h => h) ?ch15 hHeld ?_
            case ch15 => (intro oi ho; simp only [List.getElem?_toArray, List.getElem?_cons_succ, List.getElem?_cons_zero, Option.some.injEq] at ho; subst ho; refine Or.inl ⟨by rfl, ?_⟩; intro w1 hSw; (try dsimp only at hSw); go_simp <;> with_reducible rfl)
            simp only [Act.put, List.setIfInBounds_toArray, List.set_cons_zero, List.set_cons_succ]
            refine oneD 16 (by kernel_rfl) (by kernel_rfl) ?_
            intro oi ho
            simp only [List.getElem?_toArray, List.getElem?_cons_succ, List.getElem?_cons_zero, Option.some.injEq] at ho; subst ho
            intro K' hK
            rw [if_pos (by rfl)]
            have hrl := HG2.out.1
            have hf1' : ∀ x, a1' = some x → wr.heap.size ≤ x.block := hf1
            have hf2' : ∀ x, a2' = some x → wr.heap.size ≤ x.block := hf2
            have hf3' : ∀ x, a3' = some x → wr.heap.size ≤ x.block := hf3
            have hG3 := HG2.out.below (fun i cs h => GrpP.below h hb1' (Nat.le_refl _)) hb1' (Nat.le_refl _)
            have hput := hG3.put (by omega) (grpCells a1' (D.nQ k) a2' (D.nO k) a3' (D.nA k)) rfl (fun i ds h => h.set _ _) ⟨a1', a2', a3', rfl, ⟨hu1.setCells _ _ _ (fun x hx e => by have := hf1' x hx; omega), hu2.setCells _ _ _ (fun x hx e => by have := hf2' x hx; omega), hu3.setCells _ _ _ (fun x hx e => by have := hf3' x hx; omega)⟩, fun x hx e => by have := hf1' x hx; omega, fun x hx e => by have := hf2' x hx; omega, fun x hx e => by have := hf3' x hx; omega⟩
            have hbel := below_setCells (HB2.out.trans (hb1'.mono hszr)) wo.heap.size (Nat.le_refl _) (k * 4) (grpCells a1' (D.nQ k) a2' (D.nO k) a3' (D.nA k))
            refine wp_store_mid 42 _ _ rfl wo.heap.size (k * 4) (grpCells a1' (D.nQ k) a2' (D.nO k) a3' (D.nA k)).toArray rfl rfl (there_part hG3.2.1 (by show k * 4 + 4 ≤ (n + 1) * 4; omega)) size42 (by simp [grpCells, Value.oneCell']) ?_
            have hw1 := HB1.out.size
            refine hK.out _ _ ⟨?_, ?_, ?_⟩ (fun hHeld => ?_)
            · exact (World.cell?_of_block (setCells_block wo.heap.size qb (by omega) _ _ _)).trans hHeld.1
            · exact (World.cell?_of_block (setCells_block wo.heap.size ob (by omega) _ _ _)).trans hHeld.2.1
            · exact (World.cell?_of_block (setCells_block wo.heap.size ab (by omega) _ _ _)).trans hHeld.2.2
            clear hK K'
            refine wpAnyH_done (by kernel_rfl) ?_ _
            refine NoPanic.normal ?_
            have R1 : Hid (Tbl (GrpP wo.heap.size D.nQ D.Q D.nO D.O D.nA D.A) (w1.setCells wo.heap.size (k * 4) (grpCells a1' (D.nQ k) a2' (D.nO k) a3' (D.nA k))) wo.heap.size 4 (n + 1) (k + 1)) := hput
            have R2 : Hid (Below wo.heap.size wo (w1.setCells wo.heap.size (k * 4) (grpCells a1' (D.nQ k) a2' (D.nO k) a3' (D.nA k)))) := hbel
            clear hput hbel hHeld HG2 HB2 KA1 KA2 KA3 hG3 hu1 hu2 hu3 hf1 hf2 hf3 hf1' hf2' hf3' hb1 hb1' k1 k2 k3
            go_wp2
            go_roundw
            case rel => exact ⟨k + 1, by omega, by go_num, R2.out, R1.out⟩
            case measure => simp [intOf]; omega
          · have hke : n = k := by omega
            subst hke
            rcases HQ.out with h0 | ⟨qb, qof, rfl, hqb0, hqc⟩
            · omega
            rcases HO.out with h0 | ⟨ob, oof, rfl, hob0, hoc⟩
            · omega
            rcases HA.out with h0 | ⟨ab, aof, rfl, hab0, hac⟩
            · omega
            obtain ⟨b1, c1, k1', m1'⟩ := hqc g hg
            obtain ⟨b2, c2, k2', m2'⟩ := hoc g hg
            obtain ⟨b3, c3, k3', m3'⟩ := hac g hg
            have hBB := HB1.out.trans (hb2.mono HB1.out.size)
            have hsz := hBB.size
            have hszr := hb2.size
            have k1 := (hBB.cell (p := ⟨qb, qof + g, none⟩) hqb0).trans k1'
            have m1 := m1'.below hBB (Nat.le_refl _)
            have hqb : qb < wr.heap.size := by omega
            have KA1 : Hid (IsA encI wr b1 (D.nQ g) (D.Q g)) := m1
            have k2 := (hBB.cell (p := ⟨ob, oof + g, none⟩) hob0).trans k2'
            have m2 := m2'.below hBB (Nat.le_refl _)
            have hob : ob < wr.heap.size := by omega
            have KA2 : Hid (IsA encB wr b2 (D.nO g) (D.O g)) := m2
            have k3 := (hBB.cell (p := ⟨ab, aof + g, none⟩) hab0).trans k3'
            have m3 := m3'.below hBB (Nat.le_refl _)
            have hab : ab < wr.heap.size := by omega
            have KA3 : Hid (IsA encI wr b3 (D.nA g) (D.A g)) := m3
            have hq1 := bQ g hg
            have hq2 := bO g hg
            have hq3 := bA g hg
            have ik0 : (0 : Int) ≤ g := by omega
            have ik1 : (g : Int) < n := by omega
            have ik2 : (g : Int) < n + 1 := by omega
            have im0 : (0 : Int) ≤ n := by omega
            have im1 : (n : Int) < n + 1 := by omega
            have HB2 : Hid (Below wo.heap.size wo wr) := hb2
            have HG2 : Hid (Tbl (GrpP wo.heap.size D.nQ D.Q D.nO D.O D.nA D.A) wr wo.heap.size 4 (n + 1) n) := hG2
            clear hqc hoc hac hb2 hG2 m1 m2 m3 m1' m2' m3' k1' k2' k3' hBB
            go_wp2_with fail
            refine wp_region_noPanic ?_
            refine wp_region_held_drew (S := fun w' => w'.cell? ⟨qb, qof + g, none⟩ = some (.slice b1 (D.nQ g) c1) ∧ w'.cell? ⟨ob, oof + g, none⟩ = some (.slice b2 (D.nO g) c2) ∧ w'.cell? ⟨ab, aof + g, none⟩ = some (.slice b3 (D.nA g) c3)) (by kernel_rfl) ⟨k1, k2, k3⟩ (fun hHeld => ?_)
            refine takeD 0 72 (v := ?czv0) (by kernel_rfl) (by kernel_rfl) (by kernel_rfl) (by kernel_rfl) (fun _ _ _ _ h => h) ?czh0 hHeld ?_
            case czh0 => (intro oi ho; simp only [List.getElem?_toArray, List.getElem?_cons_zero, Option.some.injEq] at ho; subst ho; refine Or.inl ⟨by rfl, ?_⟩; intro w1 hSw; (try dsimp only at hSw); go_simp <;> with_reducible rfl)
            simp only [Act.put, List.setIfInBounds_toArray, List.set_cons_zero, List.set_cons_succ]
            refine takeD 1 73 (v := ?czv1) (by kernel_rfl) (by kernel_rfl) (by kernel_rfl) (by kernel_rfl) (fun _ _ _ _ h => h) ?czh1 hHeld ?_
            case czh1 => (intro oi ho; simp only [List.getElem?_toArray, List.getElem?_cons_succ, List.getElem?_cons_zero, Option.some.injEq] at ho; subst ho; refine Or.inl ⟨by rfl, ?_⟩; intro w1 hSw; (try dsimp only at hSw); go_simp <;> with_reducible rfl)
            simp only [Act.put, List.setIfInBounds_toArray, List.set_cons_zero, List.set_cons_succ]
            refine takeD 2 74 (v := ?czv2) (by kernel_rfl) (by kernel_rfl) (by kernel_rfl) (by kernel_rfl) (fun _ _ _ _ h => h) ?czh2 hHeld ?_
            case czh2 => (intro oi ho; simp only [List.getElem?_toArray, List.getElem?_cons_succ, List.getElem?_cons_zero, Option.some.injEq] at ho; subst ho; refine Or.inl ⟨by rfl, ?_⟩; intro w1 hSw; (try dsimp only at hSw); go_simp <;> with_reducible rfl)
            simp only [Act.put, List.setIfInBounds_toArray, List.set_cons_zero, List.set_cons_succ]
            refine takeD 3 75 (v := ?czv3) (by kernel_rfl) (by kernel_rfl) (by kernel_rfl) (by kernel_rfl) (fun _ _ _ _ h => h) ?czh3 hHeld ?_
            case czh3 => (intro oi ho; simp only [List.getElem?_toArray, List.getElem?_cons_succ, List.getElem?_cons_zero, Option.some.injEq] at ho; subst ho; refine Or.inl ⟨by rfl, ?_⟩; intro w1 hSw; (try dsimp only at hSw); go_simp <;> with_reducible rfl)
            simp only [Act.put, List.setIfInBounds_toArray, List.set_cons_zero, List.set_cons_succ]
            refine takeD 4 76 (v := ?czv4) (by kernel_rfl) (by kernel_rfl) (by kernel_rfl) (by kernel_rfl) (fun _ _ _ _ h => h) ?czh4 hHeld ?_
            case czh4 => (intro oi ho; simp only [List.getElem?_toArray, List.getElem?_cons_succ, List.getElem?_cons_zero, Option.some.injEq] at ho; subst ho; refine Or.inl ⟨by rfl, ?_⟩; intro w1 hSw; (try dsimp only at hSw); go_simp <;> with_reducible rfl)
            simp only [Act.put, List.setIfInBounds_toArray, List.set_cons_zero, List.set_cons_succ]
            refine takeD 5 77 (v := ?czv5) (by kernel_rfl) (by kernel_rfl) (by kernel_rfl) (by kernel_rfl) (fun _ _ _ _ h => h) ?czh5 hHeld ?_
            case czh5 => (intro oi ho; simp only [List.getElem?_toArray, List.getElem?_cons_succ, List.getElem?_cons_zero, Option.some.injEq] at ho; subst ho; refine Or.inl ⟨by rfl, ?_⟩; intro w1 hSw; (try dsimp only at hSw); go_simp <;> with_reducible rfl)
            simp only [Act.put, List.setIfInBounds_toArray, List.set_cons_zero, List.set_cons_succ]
            refine takeD 6 78 (v := ?czv6) (by kernel_rfl) (by kernel_rfl) (by kernel_rfl) (by kernel_rfl) (fun _ _ _ _ h => h) ?czh6 hHeld ?_
            case czh6 => (intro oi ho; simp only [List.getElem?_toArray, List.getElem?_cons_succ, List.getElem?_cons_zero, Option.some.injEq] at ho; subst ho; refine Or.inl ⟨by rfl, ?_⟩; intro w1 hSw; (try dsimp only at hSw); go_simp <;> with_reducible rfl)
            simp only [Act.put, List.setIfInBounds_toArray, List.set_cons_zero, List.set_cons_succ]
            refine takeD 7 79 (v := ?czv7) (by kernel_rfl) (by kernel_rfl) (by kernel_rfl) (by kernel_rfl) (fun _ _ _ _ h => h) ?czh7 hHeld ?_
            case czh7 => (intro oi ho; simp only [List.getElem?_toArray, List.getElem?_cons_succ, List.getElem?_cons_zero, Option.some.injEq] at ho; subst ho; refine Or.inl ⟨by rfl, ?_⟩; intro w1 hSw; (try dsimp only at hSw); go_simp <;> with_reducible rfl)
            simp only [Act.put, List.setIfInBounds_toArray, List.set_cons_zero, List.set_cons_succ]
            refine takeD 8 80 (v := ?czv8) (by kernel_rfl) (by kernel_rfl) (by kernel_rfl) (by kernel_rfl) (fun _ _ _ _ h => h) ?czh8 hHeld ?_
            case czh8 => (intro oi ho; simp only [List.getElem?_toArray, List.getElem?_cons_succ, List.getElem?_cons_zero, Option.some.injEq] at ho; subst ho; refine Or.inl ⟨by rfl, ?_⟩; intro w1 hSw; (try dsimp only at hSw); go_simp <;> with_reducible rfl)
            simp only [Act.put, List.setIfInBounds_toArray, List.set_cons_zero, List.set_cons_succ]
            refine takeD 9 81 (v := ?czv9) (by kernel_rfl) (by kernel_rfl) (by kernel_rfl) (by kernel_rfl) (fun _ _ _ _ h => h) ?czh9 hHeld ?_
            case czh9 => (intro oi ho; simp only [List.getElem?_toArray, List.getElem?_cons_succ, List.getElem?_cons_zero, Option.some.injEq] at ho; subst ho; refine Or.inl ⟨by rfl, ?_⟩; intro w1 hSw; (try dsimp only at hSw); go_simp <;> with_reducible rfl)
            simp only [Act.put, List.setIfInBounds_toArray, List.set_cons_zero, List.set_cons_succ]
            refine takeD 10 82 (v := ?czv10) (by kernel_rfl) (by kernel_rfl) (by kernel_rfl) (by kernel_rfl) (fun _ _ _ _ h => h) ?czh10 hHeld ?_
            case czh10 => (intro oi ho; simp only [List.getElem?_toArray, List.getElem?_cons_succ, List.getElem?_cons_zero, Option.some.injEq] at ho; subst ho; refine Or.inl ⟨by rfl, ?_⟩; intro w1 hSw; (try dsimp only at hSw); go_simp <;> with_reducible rfl)
            simp only [Act.put, List.setIfInBounds_toArray, List.set_cons_zero, List.set_cons_succ]
            refine takeD 11 83 (v := ?czv11) (by kernel_rfl) (by kernel_rfl) (by kernel_rfl) (by kernel_rfl) (fun _ _ _ _ h => h) ?czh11 hHeld ?_
            case czh11 => (intro oi ho; simp only [List.getElem?_toArray, List.getElem?_cons_succ, List.getElem?_cons_zero, Option.some.injEq] at ho; subst ho; refine Or.inl ⟨by rfl, ?_⟩; intro w1 hSw; (try dsimp only at hSw); go_simp <;> with_reducible rfl)
            simp only [Act.put, List.setIfInBounds_toArray, List.set_cons_zero, List.set_cons_succ]
            refine takeD 12 84 (v := ?czv12) (by kernel_rfl) (by kernel_rfl) (by kernel_rfl) (by kernel_rfl) (fun _ _ _ _ h => h) ?czh12 hHeld ?_
            case czh12 => (intro oi ho; simp only [List.getElem?_toArray, List.getElem?_cons_succ, List.getElem?_cons_zero, Option.some.injEq] at ho; subst ho; refine Or.inl ⟨by rfl, ?_⟩; intro w1 hSw; (try dsimp only at hSw); go_simp <;> with_reducible rfl)
            simp only [Act.put, List.setIfInBounds_toArray, List.set_cons_zero, List.set_cons_succ]
            refine takeD 13 85 (v := ?czv13) (by kernel_rfl) (by kernel_rfl) (by kernel_rfl) (by kernel_rfl) (fun _ _ _ _ h => h) ?czh13 hHeld ?_
            case czh13 => (intro oi ho; simp only [List.getElem?_toArray, List.getElem?_cons_succ, List.getElem?_cons_zero, Option.some.injEq] at ho; subst ho; refine Or.inl ⟨by rfl, ?_⟩; intro w1 hSw; (try dsimp only at hSw); go_simp <;> with_reducible rfl)
            simp only [Act.put, List.setIfInBounds_toArray, List.set_cons_zero, List.set_cons_succ]
            refine takeD 14 86 (v := ?czv14) (by kernel_rfl) (by kernel_rfl) (by kernel_rfl) (by kernel_rfl) (fun _ _ _ _ h => h) ?czh14 hHeld ?_
            case czh14 => (intro oi ho; simp only [List.getElem?_toArray, List.getElem?_cons_succ, List.getElem?_cons_zero, Option.some.injEq] at ho; subst ho; refine Or.inl ⟨by rfl, ?_⟩; intro w1 hSw; (try dsimp only at hSw); go_simp <;> with_reducible rfl)
            simp only [Act.put, List.setIfInBounds_toArray, List.set_cons_zero, List.set_cons_succ]
            refine oneD 15 (by kernel_rfl) (by kernel_rfl) ?_
            intro oi ho
            simp only [List.getElem?_toArray, List.getElem?_cons_succ, List.getElem?_cons_zero, Option.some.injEq] at ho; subst ho
            intro K' hK
            rw [if_pos (by rfl)]
            go_simp
            refine (makeGroup_any _ _ _ _ _ _ _ _ _ (D.Q g) (D.O g) (D.A g) _ (KA1.out.drewN 1) (KA2.out.drewN 1) (KA3.out.drewN 1) hq1 hq2 hq3).mono ?_
            rintro e w1 ⟨⟨a1', a2', a3', rfl, hu1, hu2, hu3, hf1, hf2, hf3⟩, hb1⟩
            have hb1' : Below wr.heap.size wr w1 := ⟨hb1.os, hb1.tape, hb1.output, hb1.size, hb1.block⟩
            refine hK.out _ _ ⟨(hb1'.cell (p := ⟨qb, qof + g, none⟩) hqb).trans k1, (hb1'.cell (p := ⟨ob, oof + g, none⟩) hob).trans k2, (hb1'.cell (p := ⟨ab, aof + g, none⟩) hab).trans k3⟩ (fun hHeld => ?_)
            clear hK K'
            refine takeD 16 88 (v := ?czv16) (by kernel_rfl) (by kernel_rfl) (by kernel_rfl) (by kernel_rfl) (fun _ _ _ _ h => h) ?czh16 hHeld ?_
            case czh16 => (intro oi ho; simp only [List.getElem?_toArray, List.getElem?_cons_succ, List.getElem?_cons_zero, Option.some.injEq] at ho; subst ho; refine Or.inl ⟨by rfl, ?_⟩; intro w1 hSw; (try dsimp only at hSw); go_simp <;> with_reducible rfl)
            simp only [Act.put, List.setIfInBounds_toArray, List.set_cons_zero, List.set_cons_succ]
            refine oneD 17 (by kernel_rfl) (by kernel_rfl) ?_
            intro oi ho
            simp only [List.getElem?_toArray, List.getElem?_cons_succ, List.getElem?_cons_zero, Option.some.injEq] at ho; subst ho
            intro K' hK
            rw [if_pos (by rfl)]
            have hrl := HG2.out.1
            have hf1' : ∀ x, a1' = some x → wr.heap.size ≤ x.block := hf1
            have hf2' : ∀ x, a2' = some x → wr.heap.size ≤ x.block := hf2
            have hf3' : ∀ x, a3' = some x → wr.heap.size ≤ x.block := hf3
            have hG3 := HG2.out.below (fun i cs h => GrpP.below h hb1' (Nat.le_refl _)) hb1' (Nat.le_refl _)
            have hput := hG3.put (by omega) (grpCells a1' (D.nQ g) a2' (D.nO g) a3' (D.nA g)) rfl (fun i ds h => h.set _ _) (by unfold GrpP; rw [hnq.1, hnq.2, hno.1, hno.2, hna.1, hna.2]; exact ⟨a1', a2', a3', rfl, ⟨hu1.setCells _ _ _ (fun x hx e => by have := hf1' x hx; omega), hu2.setCells _ _ _ (fun x hx e => by have := hf2' x hx; omega), hu3.setCells _ _ _ (fun x hx e => by have := hf3' x hx; omega)⟩, fun x hx e => by have := hf1' x hx; omega, fun x hx e => by have := hf2' x hx; omega, fun x hx e => by have := hf3' x hx; omega⟩)
            have hbel := below_setCells (HB2.out.trans (hb1'.mono hszr)) wo.heap.size (Nat.le_refl _) (n * 4) (grpCells a1' (D.nQ g) a2' (D.nO g) a3' (D.nA g))
            refine wp_store_mid 42 _ _ rfl wo.heap.size (n * 4) (grpCells a1' (D.nQ g) a2' (D.nO g) a3' (D.nA g)).toArray rfl rfl (there_part hG3.2.1 (by show n * 4 + 4 ≤ (n + 1) * 4; omega)) size42 (by simp [grpCells, Value.oneCell']) ?_
            have hw1 := HB1.out.size
            refine hK.out _ _ ⟨?_, ?_, ?_⟩ (fun hHeld => ?_)
            · exact (World.cell?_of_block (setCells_block wo.heap.size qb (by omega) _ _ _)).trans hHeld.1
            · exact (World.cell?_of_block (setCells_block wo.heap.size ob (by omega) _ _ _)).trans hHeld.2.1
            · exact (World.cell?_of_block (setCells_block wo.heap.size ab (by omega) _ _ _)).trans hHeld.2.2
            clear hK K'
            refine wpAnyH_done (by kernel_rfl) ?_ _
            refine NoPanic.normal ?_
            obtain ⟨we, hwe⟩ : ∃ we, we = w1.setCells wo.heap.size (n * 4) (grpCells a1' (D.nQ g) a2' (D.nO g) a3' (D.nA g)) := ⟨_, rfl⟩
            rw [← hwe] at hput hbel
            rw [← hwe]
            have hbb := HB1.out.trans (hbel.mono HB1.out.size)
            have hT2 := HTT.out.below (fun i cs h => RowP.below h hbel (Nat.le_refl _)) hbel (Nat.le_refl _)

            rw [← hng] at hput
            have R1 : Hid (IsProb (we.alloc (.cells #[.slice (some ⟨w.heap.size, 0, none⟩) D.nR D.nR, .slice (some ⟨wo.heap.size, 0, none⟩) D.nG D.nG, .bool false] 45)) we.heap.size w.heap.size wo.heap.size D) := prob_of hT2 hput
            have R2 : Hid (Below w.heap.size w (we.alloc (.cells #[.slice (some ⟨w.heap.size, 0, none⟩) D.nR D.nR, .slice (some ⟨wo.heap.size, 0, none⟩) D.nG D.nG, .bool false] 45))) := hbb.alloc hbb.size _
            rw [hng] at R1 R2
            have hsz' := hbb.size

            clear hput hbel hHeld HG2 HB2 KA1 KA2 KA3 hG3 hu1 hu2 hu3 hf1 hf2 hf3 hf1' hf2' hf3' hb1 hb1' k1 k2 k3 hwe hbb hT2
            go_wp2
            go_ret
            exact ⟨⟨_, _, _, rfl, hsz', R1.out⟩, R2.out⟩
end Go.Proofs.Qxb6613151a
