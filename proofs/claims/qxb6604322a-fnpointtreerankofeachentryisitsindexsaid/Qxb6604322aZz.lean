/-
  Seat b6604322a: ZZPointTreeRank (20).
-/
import Derived.Test.Qxb6604322aNode
namespace Go.Proofs.Qxb6604322a
open Go.ChangeShapes Go.WideShapes Go.ChangeAt Go.RowKit
set_option linter.unusedVariables false

/-- Behind k rounds of the loop that makes the children. -/
def Kd (W wr : World) (bc k : Nat) (S : Nat → Int) (T : Nat → Nat → Int) (A : Nat → Nat → Option Addr) (M C : Nat → Nat → Nat) : Prop :=
  (wr.os = W.os ∧ wr.tape = W.tape ∧ wr.output = W.output ∧ W.heap.size ≤ wr.heap.size) ∧ (∀ j, j < W.heap.size → j ≠ bc → wr.heap[j]? = W.heap[j]?) ∧
  ∃ cur : Array Value, wr.heap[bc]? = some (.cells cur 63 (0, 0)) ∧ cur.size = 16 ∧
    ∃ (kb : Nat → Nat) (R : Nat → Array Value), ∀ i, i < k → cur[i]? = some (.pointer (some ⟨kb i, 0, none⟩)) ∧ W.heap.size ≤ kb i ∧ wr.heap[kb i]? = some (.cells (R i) 65 (0, 0)) ∧ NodeCells (R i) (S i) true (T i) (fun _ => 0) (A i) (M i) (C i) (fun _ => none)

theorem Kd.step {W wr : World} {bc k : Nat} {S : Nat → Int} {T : Nat → Nat → Int} {A : Nat → Nat → Option Addr} {M C : Nat → Nat → Nat} {R : Array Value} (h : Kd W wr bc k S T A M C) (hbc : bc < W.heap.size) (hk : k < 16)
    (hR : NodeCells R (S k) true (T k) (fun _ => 0) (A k) (M k) (C k) (fun _ => none)) :
    Kd W ((wr.alloc (.cells R 65)).setCell ⟨bc, k, none⟩ (.pointer (some ⟨wr.heap.size, 0, none⟩))).drew bc (k + 1) S T A M C := by
  obtain ⟨⟨h1, h2, h3, h4⟩, h5, cur, hcur, hsz, kb, Rs, hK⟩ := h
  have hcur1 : (wr.alloc (.cells R 65)).heap[bc]? = some (.cells cur 63 (0, 0)) := (Below.heap_alloc wr _ bc (by omega)).trans hcur
  have heq := setCell_eq_setRow (wr.alloc (.cells R 65)) bc k cur 63 (0, 0) (.pointer (some ⟨wr.heap.size, 0, none⟩)) hcur1
  refine ⟨⟨?_, ?_, ?_, ?_⟩, fun j hj hne => ?_, cur.setIfInBounds k (.pointer (some ⟨wr.heap.size, 0, none⟩)), ?_, by simpa using hsz, fun i => if i = k then wr.heap.size else kb i, fun i => if i = k then R else Rs i, fun i hi => ?_⟩
  · exact h1
  · exact h2
  · exact h3
  · show W.heap.size ≤ ((wr.alloc (.cells R 65)).setCell ⟨bc, k, none⟩ _).heap.size
    rw [heq, setRow_size]; simp; omega
  · show ((wr.alloc (.cells R 65)).setCell ⟨bc, k, none⟩ _).heap[j]? = _
    rw [heq, setRow_other _ _ _ _ hne, Below.heap_alloc wr _ j (by omega)]
    exact h5 j hj hne
  · show ((wr.alloc (.cells R 65)).setCell ⟨bc, k, none⟩ _).heap[bc]? = _
    rw [heq]
    exact setRow_heap _ bc cur _ 63 (0, 0) hcur1
  · show _ ∧ _ ∧ ((wr.alloc (.cells R 65)).setCell ⟨bc, k, none⟩ _).heap[_]? = _ ∧ _
    rw [heq]
    by_cases e : i = k
    · subst e
      simp only [↓reduceIte]
      refine ⟨by simp [hsz, hk], h4, ?_, hR⟩
      rw [setRow_other _ _ _ _ (by omega)]
      exact heap_alloc_new wr _
    · simp only [e, ↓reduceIte]
      obtain ⟨g1, g2, g3, g4⟩ := hK i (by omega)
      refine ⟨?_, g2, ?_, g4⟩
      · rw [Array.getElem?_setIfInBounds_ne (fun e' => e e'.symm)]
        exact g1
      · have hlt : kb i < wr.heap.size := (Array.getElem?_eq_some_iff.1 g3).1
        rw [setRow_other _ _ _ _ (by omega), Below.heap_alloc wr _ _ hlt]
        exact g3

theorem range_setCell {w : World} {b o : Nat} {cs : List Value} (h : w.rangeAt b o cs) (g j : Nat) (v : Value) (hne : g ≠ b) : (w.setCell ⟨g, j, none⟩ v).rangeAt b o cs := fun i u hu => by
  rw [World.cell?_setCell_far w ⟨g, j, none⟩ ⟨b, o + i, none⟩ v hne]
  exact h i u hu

theorem row_of {w : World} {b o : Nat} {f : Nat → Value} (h : ∀ j, j < 16 → w.cell? ⟨b, o + j, none⟩ = some (f j)) : w.rangeAt b o ((List.range 16).map f) := by
  intro j v hv
  by_cases hj : j < 16
  · simp [hj] at hv
    rw [← hv]
    exact h j hj
  · rw [List.getElem?_eq_none (by simp; omega)] at hv
    cases hv

/-- 'wpAnyH_take' with the slot that is written named. -/
theorem takeD {P : Program} {md : Region.Mode} {ops : Array Oper} {Q : Exit → Act → World → Prop} {S : World → Prop} {fuel : Nat} {listed : Array Bool} {a : Act} {w : World} (i d : Nat) {v : Value}
    (hd : (ops[i]?).map (·.dst) = some (some d)) (hs : Region.noSelect ops = true) (hf : Region.free md ops listed i = true) (hr : (Region.ready md ops listed).contains i = true)
    (hQ : ∀ c a a' w, Q (.panic c) a w → Q (.panic c) a' w) (hy : ∀ oi, ops[i]? = some oi → YieldsIf P ops S oi v a) (hS : S w)
    (h : wpAnyH P md ops Q S fuel (listed.setIfInBounds i true) (a.put (some d) v) w) : wpAnyH P md ops Q S (fuel + 1) listed a w := by
  cases ho : ops[i]? with
  | none => rw [ho] at hd; cases hd
  | some oi =>
    rw [ho] at hd
    have he : oi.dst = some d := by simpa using hd
    exact wpAnyH_take ho hs hf hr (fun c a w h => hQ c _ _ w h) (hy oi ho) hS (by rw [he]; exact h)

/-- one operation alone may come up. -/
theorem oneD {P : Program} {md : Region.Mode} {ops : Array Oper} {Q : Exit → Act → World → Prop} {S : World → Prop} {fuel : Nat} {listed : Array Bool} {a : Act} {w : World} (i : Nat) (hlt : (ops[i]?).isSome = true) (hr : Region.ready md ops listed = [i])
    (h : ∀ o, ops[i]? = some o → ∀ K' : Act → World → Prop, Shut (∀ a w, S w → (S w → wpAnyH P md ops Q S fuel (listed.setIfInBounds i true) a w) → K' a w) → if Region.wanted o (yielded ops a.tmps) = true then Oper.wp P o a w K' Q else K' (a.put o.dst undef) w) :
    wpAnyH P md ops Q S (fuel + 1) listed a w := by
  obtain ⟨o, ho⟩ := Option.isSome_iff_exists.1 hlt
  exact wpAnyH_ready hr (by simp) (AllReadyH.cons ho (h o ho) AllReadyH.nil)

theorem yields_build {P : Program} {ops : Array Oper} {S : World → Prop} {o : Oper} {a : Act} (hw : Region.wanted o (yielded ops a.tmps) = true) (t : TypeId) (parts : Array (Nat × Operand)) (ho : o.op = .build t parts) (R : Array Value)
    (hc : P.built t (parts.map fun (i, x) => (i, a.eval x)).toList = some R) : YieldsIf P ops S o (.agg R) a :=
  Or.inl ⟨hw, fun w _ => by
    unfold execOp
    simp only [ho, Sem.run_bind, run_build w t _ R hc, Result.andThen_ok]
    rfl⟩

theorem wpList_buildR {P : Program} {ops : Array Oper} {rest : List Oper} {o : Oper} {a : Act} {w : World} {Q : Exit → Act → World → Prop} (hg : o.guard = none) (t : TypeId) (parts : Array (Nat × Operand)) (ho : o.op = .build t parts) (R : Array Value)
    (hc : P.built t (parts.map fun (i, x) => (i, a.eval x)).toList = some R)
    (h : wpList P ops Q rest (a.put o.dst (.agg R)) w) : wpList P ops Q (o :: rest) a w :=
  wpList_build hg t parts ho (by rw [hc]; rfl) (by rw [hc]; exact h)

/-- the tree that ZZPointTreeRank has made. -/
def Built (W : World) (rb s : Nat) (low : Bool) (L K : Nat → Int) (N : Nat → Nat) (X : Nat → Nat → Int) (S : Nat → Int) (T : Nat → Nat → Int) (M : Nat → Nat → Nat) (Z : Nat → Nat → Nat → Int) : Prop :=
  rb < W.heap.size ∧ ∃ A C kid, NodeAt W rb s low L K A N C kid ∧ (∀ i, i < 16 → IsU W (A i) (N i) (X i)) ∧ ∀ i, i < 16 → ∃ kb, kid i = some ⟨kb, 0, none⟩ ∧ kb < W.heap.size ∧
    ∃ R A' C', W.heap[kb]? = some (.cells R 65 (0, 0)) ∧ NodeCells R (S i) true (T i) (fun _ => 0) A' (M i) C' (fun _ => none) ∧ ∀ j, j < 16 → IsU W (A' j) (M i j) (Z i j)

theorem info63 : (Try.prog.info? 63).map (·.size) = some 16 := by kernel_rfl

set_option maxHeartbeats 1600000 in
theorem zz_any (cnt : Int) (s : Nat) (low : Bool) (cs27 cs28 cs30 cs31 cs32 cs33 : Array Value) (L K : Nat → Int) (N : Nat → Nat) (X : Nat → Nat → Int) (S : Nat → Int) (T : Nat → Nat → Int) (M : Nat → Nat → Nat) (Z : Nat → Nat → Nat → Int) (x : Int) (w : World)
    (h27 : Ar cs27 16 (fun i => .int .u64 (L i))) (h28 : Ar cs28 16 (fun i => .int .i32 (K i))) (h30 : Lvs w cs30 N X) (h31 : Ar cs31 16 (fun i => .int .i64 (S i))) (h32 : Ar2 cs32 (fun i j => .int .u64 (T i j))) (h33 : CLvs w cs33 M Z) (r : Int)
    (hrank : Hid (∀ (W : World) (rb : Nat), Built W rb s low L K N X S T M Z → Calls Try.prog 36 #[.agg #[.pointer (some ⟨rb, 0, none⟩), .int .i64 cnt], .int .u64 x] W fun e w' => e = .returned (.int .i64 r) ∧ Below W.heap.size W w')) :
    Calls Try.prog 20 #[.int .i64 cnt, .int .i64 s, .bool low, .agg cs27, .agg cs28, .agg cs30, .agg cs31, .agg cs32, .agg cs33, .int .u64 x] w fun e w' => e = .returned (.int .i64 r) ∧ Below w.heap.size w w' := by
  obtain ⟨A, C, ⟨hs30, hc30⟩, hu30⟩ := h30
  obtain ⟨A', C', ⟨hs33, hc33⟩, hu33⟩ := h33
  go_enter Try.func20, Try.ntmps20
  go_wp2
  generalize hz63 : #[Value.pointer none, Value.pointer none, Value.pointer none, Value.pointer none, Value.pointer none,
      Value.pointer none, Value.pointer none, Value.pointer none, Value.pointer none, Value.pointer none,
      Value.pointer none, Value.pointer none, Value.pointer none, Value.pointer none, Value.pointer none,
      Value.pointer none] = z63
  have hzs : z63.size = 16 := by rw [← hz63]; rfl
  clear hz63
  have hbel := boxes_below [(cs27, 27), (cs28, 28), (cs30, 30), (cs31, 31), (cs32, 32), (cs33, 33), (z63, 63)] w
  have hsz := boxes_size [(cs27, 27), (cs28, 28), (cs30, 30), (cs31, 31), (cs32, 32), (cs33, 33), (z63, 63)] w
  have b27 : Hid ((boxes w [(cs27, 27), (cs28, 28), (cs30, 30), (cs31, 31), (cs32, 32), (cs33, 33), (z63, 63)]).heap[w.heap.size]? = some (.cells cs27 27 (0, 0))) := boxes_block _ w 0 _ _ rfl
  have b28 : Hid ((boxes w [(cs27, 27), (cs28, 28), (cs30, 30), (cs31, 31), (cs32, 32), (cs33, 33), (z63, 63)]).heap[w.heap.size + 1]? = some (.cells cs28 28 (0, 0))) := boxes_block _ w 1 _ _ rfl
  have b30 : Hid ((boxes w [(cs27, 27), (cs28, 28), (cs30, 30), (cs31, 31), (cs32, 32), (cs33, 33), (z63, 63)]).heap[w.heap.size + 2]? = some (.cells cs30 30 (0, 0))) := boxes_block _ w 2 _ _ rfl
  have b63 : Hid ((boxes w [(cs27, 27), (cs28, 28), (cs30, 30), (cs31, 31), (cs32, 32), (cs33, 33), (z63, 63)]).heap[w.heap.size + 6]? = some (.cells z63 63 (0, 0))) := boxes_block _ w 6 _ _ rfl
  have F31 : Hid (∀ i, i < 16 → (boxes w [(cs27, 27), (cs28, 28), (cs30, 30), (cs31, 31), (cs32, 32), (cs33, 33), (z63, 63)]).cell? ⟨w.heap.size + 3, i, none⟩ = some (.int .i64 (S i))) := fun i hi => boxes_cell _ w 3 rfl rfl (h31.2 i hi)
  have F32 : Hid (∀ i j, i < 16 → j < 16 → (boxes w [(cs27, 27), (cs28, 28), (cs30, 30), (cs31, 31), (cs32, 32), (cs33, 33), (z63, 63)]).cell? ⟨w.heap.size + 4, i * 16 + j, none⟩ = some (.int .u64 (T i j))) := fun i j hi hj => boxes_cell _ w 4 rfl rfl (h32.2 i j hi hj)
  have F33 : Hid (∀ i j, i < 16 → j < 16 → (boxes w [(cs27, 27), (cs28, 28), (cs30, 30), (cs31, 31), (cs32, 32), (cs33, 33), (z63, 63)]).cell? ⟨w.heap.size + 5, i * 16 + j, none⟩ = some (.slice (A' i j) (M i j) (C' i j))) := fun i j hi hj => boxes_cell _ w 5 rfl rfl (hc33 i j hi hj)
  rw [show ((((((w.alloc (Obj.cells cs27 27)).alloc (Obj.cells cs28 28)).alloc (Obj.cells cs30 30)).alloc (Obj.cells cs31 31)).alloc (Obj.cells cs32 32)).alloc (Obj.cells cs33 33)).alloc (Obj.cells z63 63) = boxes w [(cs27, 27), (cs28, 28), (cs30, 30), (cs31, 31), (cs32, 32), (cs33, 33), (z63, 63)] from rfl]
  generalize boxes w [(cs27, 27), (cs28, 28), (cs30, 30), (cs31, 31), (cs32, 32), (cs33, 33), (z63, 63)] = W at hbel hsz b27 b28 b30 b63 F31 F32 F33 ⊢
  simp only [List.length_cons, List.length_nil] at hsz
  have hszl : w.heap.size + 7 ≤ W.heap.size := by omega
  have hszu : W.heap.size ≤ w.heap.size + 7 := by omega
  clear hsz hc33
  go_loopw [22] (fun i wr => ∃ k : Nat, k ≤ 16 ∧ i = .int .i64 k ∧ Kd W wr (w.heap.size + 6) k S T A' M C') (fun i _ => 16 - (intOf i).toNat)
  case atStart => exact ⟨0, by omega, rfl, ⟨rfl, rfl, rfl, Nat.le_refl _⟩, fun _ _ _ => rfl, z63, b63.out, hzs, fun _ => 0, fun _ => #[], fun i h => absurd h (Nat.not_lt_zero _)⟩
  case round =>
    obtain ⟨k, hk, rfl, hkd⟩ := hrel
    by_cases hlt : k < 16
    · have ik0 : (0 : Int) ≤ (k : Int) := by omega
      have ik1 : (k : Int) < 16 := by omega
      have old : ∀ b o, b < W.heap.size → b ≠ w.heap.size + 6 → wr.cell? ⟨b, o, none⟩ = W.cell? ⟨b, o, none⟩ := fun b o h1 h2 => World.cell?_of_block (w := W) (hkd.2.1 b h1 h2)
      have c31 : wr.cell? ⟨w.heap.size + 3, k, none⟩ = some (.int .i64 (S k)) := (old _ _ (by omega) (by omega)).trans (F31.out k hlt)
      obtain ⟨ct, hctl, hcta, hctr⟩ : ∃ ct : List Value, ct.length = 16 ∧ Ar ct.toArray 16 (fun j => .int .u64 (T k j)) ∧ wr.rangeAt (w.heap.size + 4) (k * 16) ct :=
        ⟨(List.range 16).map (fun j => .int .u64 (T k j)), by simp, ⟨by simp, fun j hj => by simp [hj]⟩, row_of fun j hj => (old _ _ (by omega) (by omega)).trans (F32.out k j hlt hj)⟩
      obtain ⟨cv, hcvl, hcva, hcvr⟩ : ∃ cv : List Value, cv.length = 16 ∧ Ar cv.toArray 16 (fun j => .slice (A' k j) (M k j) (C' k j)) ∧ wr.rangeAt (w.heap.size + 5) (k * 16) cv :=
        ⟨(List.range 16).map (fun j => .slice (A' k j) (M k j) (C' k j)), by simp, ⟨by simp, fun j hj => by simp [hj]⟩, row_of fun j hj => (old _ _ (by omega) (by omega)).trans (F33.out k j hlt hj)⟩
      obtain ⟨R, hR, hRn⟩ := built_child (S k) ct.toArray cv.toArray (T k) (A' k) (M k) (C' k) hcta hcva
      obtain ⟨v0, hv0, hfz⟩ : ∃ v, wr.cell? ⟨w.heap.size + 6, k, none⟩ = some v ∧ wr.frozen? ⟨w.heap.size + 6, k, none⟩ = false := by
        obtain ⟨_, _, cur, h1, h2, _⟩ := hkd
        exact ⟨cur[k]'(by omega), by rw [cell_of_row _ _ k cur 63 (0, 0) h1]; simp [h2, hlt], frozen_of_row wr _ k cur 63 h1⟩
      have hu27 := Try.underlying27
      have hu30 := Try.underlying30
      have hi27 : (Try.prog.info? 27).map (·.size) = some ct.length := by rw [hctl]; exact info27
      have hi30 : (Try.prog.info? 30).map (·.size) = some cv.length := by rw [hcvl]; exact info30
      have HKD : Hid (Kd W wr (w.heap.size + 6) k S T A' M C') := hkd
      have HRN : Hid (NodeCells R (S k) true (T k) (fun _ => 0) (A' k) (M k) (C' k) (fun _ => none)) := hRn
      have hwrs : W.heap.size ≤ wr.heap.size := hkd.1.2.2.2
      clear hkd old hRn hcta hcva
      go_wp2_with fail
      refine wp_region_noPanic ?_
      refine wp_region_held_drew (S := fun w' => w'.cell? ⟨w.heap.size + 3, k, none⟩ = some (.int .i64 (S k)) ∧ w'.rangeAt (w.heap.size + 4) (k * 16) ct ∧ w'.rangeAt (w.heap.size + 5) (k * 16) cv) (by kernel_rfl) ⟨c31, hctr, hcvr⟩ (fun hHeld => ?_)
      refine takeD 0 29 (v := ?v0) (by kernel_rfl) (by kernel_rfl) (by kernel_rfl) (by kernel_rfl) (fun _ _ _ _ h => h) ?h0 hHeld ?_
      case h0 => (intro oi ho; simp only [List.getElem?_toArray, List.getElem?_cons_zero, Option.some.injEq] at ho; subst ho; refine Or.inl ⟨by rfl, ?_⟩; intro w1 hSw; (try dsimp only at hSw); go_simp <;> with_reducible rfl)
      simp only [Act.put, List.setIfInBounds_toArray, List.set_cons_zero, List.set_cons_succ]
      refine takeD 1 30 (v := ?v1) (by kernel_rfl) (by kernel_rfl) (by kernel_rfl) (by kernel_rfl) (fun _ _ _ _ h => h) ?h1 hHeld ?_
      case h1 => (intro oi ho; simp only [List.getElem?_toArray, List.getElem?_cons_succ, List.getElem?_cons_zero, Option.some.injEq] at ho; subst ho; refine Or.inl ⟨by rfl, ?_⟩; intro w1 hSw; (try dsimp only at hSw); go_simp <;> with_reducible rfl)
      simp only [Act.put, List.setIfInBounds_toArray, List.set_cons_zero, List.set_cons_succ]
      refine takeD 2 31 (v := ?v2) (by kernel_rfl) (by kernel_rfl) (by kernel_rfl) (by kernel_rfl) (fun _ _ _ _ h => h) ?h2 hHeld ?_
      case h2 => (intro oi ho; simp only [List.getElem?_toArray, List.getElem?_cons_succ, List.getElem?_cons_zero, Option.some.injEq] at ho; subst ho; refine Or.inl ⟨by rfl, ?_⟩; intro w1 hSw; (try dsimp only at hSw); go_simp <;> with_reducible rfl)
      simp only [Act.put, List.setIfInBounds_toArray, List.set_cons_zero, List.set_cons_succ]
      refine takeD 3 32 (v := ?v3) (by kernel_rfl) (by kernel_rfl) (by kernel_rfl) (by kernel_rfl) (fun _ _ _ _ h => h) ?h3 hHeld ?_
      case h3 => (intro oi ho; simp only [List.getElem?_toArray, List.getElem?_cons_succ, List.getElem?_cons_zero, Option.some.injEq] at ho; subst ho; refine Or.inl ⟨by rfl, ?_⟩; intro w1 hSw; (try dsimp only at hSw); go_simp <;> with_reducible rfl)
      simp only [Act.put, List.setIfInBounds_toArray, List.set_cons_zero, List.set_cons_succ]
      refine takeD 4 33 (v := ?v4) (by kernel_rfl) (by kernel_rfl) (by kernel_rfl) (by kernel_rfl) (fun _ _ _ _ h => h) ?h4 hHeld ?_
      case h4 => (intro oi ho; simp only [List.getElem?_toArray, List.getElem?_cons_succ, List.getElem?_cons_zero, Option.some.injEq] at ho; subst ho; refine Or.inl ⟨by rfl, ?_⟩; intro w1 hSw; (try dsimp only at hSw); go_simp <;> with_reducible rfl)
      simp only [Act.put, List.setIfInBounds_toArray, List.set_cons_zero, List.set_cons_succ]
      refine takeD 5 34 (v := ?v5) (by kernel_rfl) (by kernel_rfl) (by kernel_rfl) (by kernel_rfl) (fun _ _ _ _ h => h) ?h5 hHeld ?_
      case h5 => (intro oi ho; simp only [List.getElem?_toArray, List.getElem?_cons_succ, List.getElem?_cons_zero, Option.some.injEq] at ho; subst ho; refine Or.inl ⟨by rfl, ?_⟩; intro w1 hSw; (try dsimp only at hSw); go_simp <;> with_reducible rfl)
      simp only [Act.put, List.setIfInBounds_toArray, List.set_cons_zero, List.set_cons_succ]
      refine takeD 6 35 (v := .agg ct.toArray) (by kernel_rfl) (by kernel_rfl) (by kernel_rfl) (by kernel_rfl) (fun _ _ _ _ h => h) ?h6 hHeld ?_
      case h6 => (intro oi ho; simp only [List.getElem?_toArray, List.getElem?_cons_succ, List.getElem?_cons_zero, Option.some.injEq] at ho; subst ho; exact yieldsIf_load_mid (by rfl) 27 _ rfl _ _ rfl ct _ (fun w1 hSw => hSw.2.1) Try.underlying27 rfl hi27)
      simp only [Act.put, List.setIfInBounds_toArray, List.set_cons_zero, List.set_cons_succ]
      refine takeD 7 36 (v := ?v7) (by kernel_rfl) (by kernel_rfl) (by kernel_rfl) (by kernel_rfl) (fun _ _ _ _ h => h) ?h7 hHeld ?_
      case h7 => (intro oi ho; simp only [List.getElem?_toArray, List.getElem?_cons_succ, List.getElem?_cons_zero, Option.some.injEq] at ho; subst ho; refine Or.inl ⟨by rfl, ?_⟩; intro w1 hSw; (try dsimp only at hSw); go_simp <;> with_reducible rfl)
      simp only [Act.put, List.setIfInBounds_toArray, List.set_cons_zero, List.set_cons_succ]
      refine takeD 8 37 (v := ?v8) (by kernel_rfl) (by kernel_rfl) (by kernel_rfl) (by kernel_rfl) (fun _ _ _ _ h => h) ?h8 hHeld ?_
      case h8 => (intro oi ho; simp only [List.getElem?_toArray, List.getElem?_cons_succ, List.getElem?_cons_zero, Option.some.injEq] at ho; subst ho; refine Or.inl ⟨by rfl, ?_⟩; intro w1 hSw; (try dsimp only at hSw); go_simp <;> with_reducible rfl)
      simp only [Act.put, List.setIfInBounds_toArray, List.set_cons_zero, List.set_cons_succ]
      refine takeD 9 38 (v := .agg cv.toArray) (by kernel_rfl) (by kernel_rfl) (by kernel_rfl) (by kernel_rfl) (fun _ _ _ _ h => h) ?h9 hHeld ?_
      case h9 => (intro oi ho; simp only [List.getElem?_toArray, List.getElem?_cons_succ, List.getElem?_cons_zero, Option.some.injEq] at ho; subst ho; exact yieldsIf_load_mid (by rfl) 30 _ rfl _ _ rfl cv _ (fun w1 hSw => hSw.2.2) Try.underlying30 rfl hi30)
      simp only [Act.put, List.setIfInBounds_toArray, List.set_cons_zero, List.set_cons_succ]
      refine takeD 10 39 (v := .agg R) (by kernel_rfl) (by kernel_rfl) (by kernel_rfl) (by kernel_rfl) (fun _ _ _ _ h => h) ?h10 hHeld ?_
      case h10 => (intro oi ho; simp only [List.getElem?_toArray, List.getElem?_cons_succ, List.getElem?_cons_zero, Option.some.injEq] at ho; subst ho; refine yields_build (by rfl) 65 _ rfl R ((congrArg (Try.prog.built 65) ?_).trans hR); go_simp <;> with_reducible rfl)
      simp only [Act.put, List.setIfInBounds_toArray, List.set_cons_zero, List.set_cons_succ]
      refine oneD 11 (by kernel_rfl) (by kernel_rfl) ?_
      intro oi ho
      simp only [List.getElem?_toArray, List.getElem?_cons_succ, List.getElem?_cons_zero, Option.some.injEq] at ho; subst ho
      intro K' hK
      rw [if_pos (by rfl)]
      go_simp
      refine hK.out _ _ ⟨(World.cell?_alloc_lt wr _ _ (show w.heap.size + 3 < wr.heap.size by omega)).trans c31, World.rangeAt_alloc hctr _, World.rangeAt_alloc hcvr _⟩ (fun hHeld => ?_)
      clear hK K'
      have hv1 : (wr.alloc (.cells R 65)).cell? ⟨w.heap.size + 6, k, none⟩ = some v0 := (World.cell?_alloc_lt wr _ _ (show w.heap.size + 6 < wr.heap.size by omega)).trans hv0
      have hf1 : (wr.alloc (.cells R 65)).frozen? ⟨w.heap.size + 6, k, none⟩ = false := (World.frozen?_alloc_past _ _ _ (by omega)).trans hfz
      refine takeD 12 41 (v := ?v12) (by kernel_rfl) (by kernel_rfl) (by kernel_rfl) (by kernel_rfl) (fun _ _ _ _ h => h) ?h12 hHeld ?_
      case h12 => (intro oi ho; simp only [List.getElem?_toArray, List.getElem?_cons_succ, List.getElem?_cons_zero, Option.some.injEq] at ho; subst ho; refine Or.inl ⟨by rfl, ?_⟩; intro w1 hSw; (try dsimp only at hSw); go_simp <;> with_reducible rfl)
      simp only [Act.put, List.setIfInBounds_toArray, List.set_cons_zero, List.set_cons_succ]
      refine oneD 13 (by kernel_rfl) (by kernel_rfl) ?_
      intro oi ho
      simp only [List.getElem?_toArray, List.getElem?_cons_succ, List.getElem?_cons_zero, Option.some.injEq] at ho; subst ho
      intro K' hK
      rw [if_pos (by rfl)]
      go_simp
      refine hK.out _ _ ⟨?_, ?_, ?_⟩ (fun hHeld => ?_)
      · exact (World.cell?_setCell_far _ ⟨w.heap.size + 6, k, none⟩ ⟨w.heap.size + 3, k, none⟩ _ (show w.heap.size + 6 ≠ w.heap.size + 3 by omega)).trans hHeld.1
      · exact range_setCell hHeld.2.1 _ _ _ (by omega)
      · exact range_setCell hHeld.2.2 _ _ _ (by omega)
      clear hK K'
      refine wpAnyH_done (by kernel_rfl) ?_ _
      refine NoPanic.normal ?_
      have R' : Hid (Kd W ((wr.alloc (.cells R 65)).setCell ⟨w.heap.size + 6, k, none⟩ (.pointer (some ⟨wr.heap.size, 0, none⟩))).drew (w.heap.size + 6) (k + 1) S T A' M C') := HKD.out.step (by omega) hlt HRN.out
      clear hHeld hv1 hf1 hv0 hfz c31 hctr hcvr HKD HRN hR
      go_wp2
      go_roundw
      case rel => exact ⟨k + 1, by omega, by go_num, R'.out⟩
      case measure => simp [intOf]; omega
    · have e : k = 16 := by omega
      subst e
      obtain ⟨⟨g1, g2, g3, g4⟩, hoth, cur, hcur, hcs, kb, Rs, hK⟩ := hkd
      have hbw : Below w.heap.size w wr := hbel.trans ⟨g1, g2, g3, g4, fun j hj => hoth j (by omega) (by omega)⟩
      have q27 : Hid (wr.heap[w.heap.size]? = some (.cells cs27 27 (0, 0))) := (hoth _ (by omega) (by omega)).trans b27.out
      have q28 : Hid (wr.heap[w.heap.size + 1]? = some (.cells cs28 28 (0, 0))) := (hoth _ (by omega) (by omega)).trans b28.out
      have q30 : Hid (wr.heap[w.heap.size + 2]? = some (.cells cs30 30 (0, 0))) := (hoth _ (by omega) (by omega)).trans b30.out
      have q63 : Hid (wr.heap[w.heap.size + 6]? = some (.cells cur 63 (0, 0))) := hcur
      have hAr : Ar cur 16 (fun i => .pointer (some ⟨kb i, 0, none⟩)) := ⟨hcs, fun i hi => (hK i hi).1⟩
      obtain ⟨R, hR, hRn⟩ := built_root s low cs27 cs28 cs30 cur L K A N C (fun i => some ⟨kb i, 0, none⟩) h27 h28 ⟨hs30, hc30⟩ hAr
      have HK : Hid (∀ i, i < 16 → cur[i]? = some (.pointer (some ⟨kb i, 0, none⟩)) ∧ W.heap.size ≤ kb i ∧ wr.heap[kb i]? = some (.cells (Rs i) 65 (0, 0)) ∧ NodeCells (Rs i) (S i) true (T i) (fun _ => 0) (A' i) (M i) (C' i) (fun _ => none)) := hK
      have HR : Hid (Try.prog.built 65 [(0, .int .i64 s), (1, .bool low), (2, .agg cs27), (3, .agg cs28), (4, .agg cs30), (5, .agg cur)] = some R) := hR
      have HRN : Hid (NodeCells R s low L K A N C (fun i => some ⟨kb i, 0, none⟩)) := hRn
      have HU30 : Hid (∀ i, i < 16 → IsU w (A i) (N i) (X i)) := hu30
      have HU33 : Hid (∀ i j, i < 16 → j < 16 → IsU w (A' i j) (M i j) (Z i j)) := hu33
      clear hoth hcur hK hAr hR hRn hu30 hu33 hc30 g1 g2 g3
      go_wp2_with (first
        | (refine wpList_load_row (by rfl) 27 _ (by rfl) (w.heap.size) (by rfl) 27 cs27 (0, 0) _ (by exact q27.out) Try.underlying27 (by rfl) (size_of info27 h27.1) ?_)
        | (refine wpList_load_row (by rfl) 28 _ (by rfl) (w.heap.size + 1) (by rfl) 28 cs28 (0, 0) _ (by exact q28.out) Try.underlying28 (by rfl) (size_of info28 h28.1) ?_)
        | (refine wpList_load_row (by rfl) 30 _ (by rfl) (w.heap.size + 2) (by rfl) 30 cs30 (0, 0) _ (by exact q30.out) Try.underlying30 (by rfl) (size_of info30 hs30) ?_)
        | (refine wpList_load_row (by rfl) 63 _ (by rfl) (w.heap.size + 6) (by rfl) 63 cur (0, 0) _ (by exact q63.out) Try.underlying63 (by rfl) (size_of info63 hcs) ?_)
        | (refine wpList_buildR (by rfl) 65 _ (by rfl) R ((congrArg (Try.prog.built 65) ?_).trans HR.out) ?_; focus (go_simp <;> with_reducible rfl)))
      have hbb : Below wr.heap.size wr ((wr.alloc (Obj.cells R 65)).alloc (Obj.cells #[Value.pointer (some { block := wr.heap.size, off := 0 }), Value.int IntKind.i64 cnt] 67)) := ((Below.refl _ _).alloc (Nat.le_refl _) _).alloc (by simp) _
      have hbw2 := hbw.trans (hbb.mono hbw.size)
      have hroot : ((wr.alloc (Obj.cells R 65)).alloc (Obj.cells #[Value.pointer (some { block := wr.heap.size, off := 0 }), Value.int IntKind.i64 cnt] 67)).heap[wr.heap.size]? = some (.cells R 65 (0, 0)) :=
        (Below.heap_alloc _ _ _ (by simp)).trans (heap_alloc_new wr _)
      have hbuilt : Built ((wr.alloc (Obj.cells R 65)).alloc (Obj.cells #[Value.pointer (some { block := wr.heap.size, off := 0 }), Value.int IntKind.i64 cnt] 67)) wr.heap.size s low L K N X S T M Z := by
        refine ⟨(Array.getElem?_eq_some_iff.1 hroot).1, A, C, fun i => some ⟨kb i, 0, none⟩, HRN.out.at hroot, fun i hi => (HU30.out i hi).below hbw2 (Nat.le_refl _), fun i hi => ⟨kb i, rfl, ?_, Rs i, A' i, C' i, ?_, (HK.out i hi).2.2.2, fun j hj => (HU33.out i j hi hj).below hbw2 (Nat.le_refl _)⟩⟩
        · exact Nat.lt_of_lt_of_le (Array.getElem?_eq_some_iff.1 (HK.out i hi).2.2.1).1 hbb.size
        · exact (hbb.block _ (Array.getElem?_eq_some_iff.1 (HK.out i hi).2.2.1).1).trans (HK.out i hi).2.2.1
      refine (hrank.out _ _ hbuilt).mono ?_
      rintro e w1 ⟨rfl, hb1⟩
      have hfin := hbw2.trans (hb1.mono hbw2.size)
      clear hbuilt hroot hb1 hbw2 hbb hbw
      go_wp2
      go_ret
      exact ⟨rfl, hfin⟩

/-- what the ranks ask of the tree's data. -/
structure LowData (s : Nat) (L : Nat → Int) (N : Nat → Nat) (X : Nat → Nat → Int) : Prop where
  le : s ≤ 16
  sort : ∀ i j, i ≤ j → j < s → L i ≤ L j
  sorts : ∀ i, i < s → ∀ p q, p ≤ q → q < N i → X i p ≤ X i q
  small : sumTo N 16 ≤ 131072

theorem Built.low {W : World} {rb s : Nat} {L K : Nat → Int} {N : Nat → Nat} {X : Nat → Nat → Int} {S : Nat → Int} {T : Nat → Nat → Int} {M : Nat → Nat → Nat} {Z : Nat → Nat → Nat → Int} (h : Built W rb s true L K N X S T M Z) (hd : LowData s L N X) : LowOk W rb s L N X := by
  obtain ⟨hb, A, C, kid, hn, hu, _⟩ := h
  exact ⟨⟨K, A, C, kid, hn, fun i hi => hu i (by have := hd.le; omega)⟩, hb, hd.le, hd.sort, hd.sorts, hd.small⟩

theorem Built.two {W : World} {rb s : Nat} {L K : Nat → Int} {N : Nat → Nat} {X : Nat → Nat → Int} {S : Nat → Int} {T : Nat → Nat → Int} {M : Nat → Nat → Nat} {Z : Nat → Nat → Nat → Int} (h : Built W rb s false L K N X S T M Z) (Kn c : Nat → Nat) (hs : s ≤ 16)
    (hsort : ∀ i j, i ≤ j → j < s → L i ≤ L j) (hsm : sumTo Kn s ≤ 131072) (hK : ∀ i, i < s → K i = (Kn i : Int)) (hS : ∀ i, i < s → S i = (c i : Int)) (hd : ∀ i, i < s → LowData (c i) (T i) (M i) (Z i)) : TwoOk W rb s L Kn c T M Z := by
  obtain ⟨hb, A, C, kid, hn, hu, hk⟩ := h
  refine ⟨⟨K, A, N, C, kid, hn, fun i hi => ⟨hK i hi, ?_⟩⟩, hb, hs, hsort, hsm⟩
  obtain ⟨kb, h1, h2, R, A', C', h3, h4, h5⟩ := hk i (by omega)
  rw [hS i hi] at h4
  have hd' := hd i hi
  exact ⟨kb, h1, ⟨⟨fun _ => 0, A', C', fun _ => none, h4.at h3, fun j hj => h5 j (by have := hd'.le; omega)⟩, h2, hd'.le, hd'.sort, hd'.sorts, hd'.small⟩⟩
end Go.Proofs.Qxb6604322a
