/-
  Seat b6604322a: zzCloneLeaves (17), zzCloneChildLeaves (18).
-/
import Derived.Test.Qxb6604322aValid
import Derived.Laws.Tables
import Derived.Deep.RegionWith
namespace Go.Proofs.Qxb6604322a
open Go.ChangeShapes Go.WideShapes Go.ChangeAt Go.RowKit
set_option linter.unusedVariables false

theorem IsU.setCell {w : World} {a : Option Addr} {n : Nat} {X : Nat → Int} (h : IsU w a n X) (g o : Nat) (v : Value) (hne : ∀ x, a = some x → x.block ≠ g) : IsU (w.setCell ⟨g, o, none⟩ v) a n X := by
  rcases h with h | ⟨b, off, rfl, hlt, hc⟩
  · exact .inl h
  · refine .inr ⟨b, off, rfl, by simpa [World.setCell] using hlt, fun i hi => ?_⟩
    rw [← hc i hi]
    exact World.cell?_of_block (w := w) (Below.heap_setCell w ⟨g, o, none⟩ v b (hne _ rfl))

theorem IsU.setRow {w : World} {a : Option Addr} {n : Nat} {X : Nat → Int} (h : IsU w a n X) (g : Nat) (cs : Array Value) (hne : ∀ x, a = some x → x.block ≠ g) : IsU (w.setRow g cs) a n X := by
  rcases h with h | ⟨b, off, rfl, hlt, hc⟩
  · exact .inl h
  · refine .inr ⟨b, off, rfl, by simpa using hlt, fun i hi => ?_⟩
    rw [← hc i hi]
    exact World.cell?_of_block (w := w) (setRow_other w g b cs (hne _ rfl))

/-- Behind k rounds of a clone: block bc holds cur, whose first k cells are the copies; of the blocks below W's end no other has turned. -/
def Cl (W wr : World) (bc sz : Nat) (ty : TypeId) (k : Nat) (N : Nat → Nat) (X : Nat → Nat → Int) : Prop :=
  (wr.os = W.os ∧ wr.tape = W.tape ∧ wr.output = W.output ∧ W.heap.size ≤ wr.heap.size) ∧ (∀ j, j < W.heap.size → j ≠ bc → wr.heap[j]? = W.heap[j]?) ∧
  ∃ cur : Array Value, wr.heap[bc]? = some (.cells cur ty (0, 0)) ∧ cur.size = sz ∧ (∀ v, v ∈ cur → v.oneCell' = true) ∧
    ∃ A : Nat → Option Addr, ∀ i, i < k → cur[i]? = some (.slice (A i) (N i) (N i)) ∧ IsU wr (A i) (N i) (X i) ∧ ∀ x, A i = some x → W.heap.size ≤ x.block

theorem Cl.below {W wr w : World} {bc sz : Nat} {ty : TypeId} {k : Nat} {N : Nat → Nat} {X : Nat → Nat → Int} (h : Cl W wr bc sz ty k N X) (hW : Below w.heap.size w W) (hbc : w.heap.size ≤ bc) : Below w.heap.size w wr := by
  obtain ⟨⟨h1, h2, h3, h4⟩, h5, _⟩ := h
  have hs := hW.size
  exact hW.trans ⟨h1, h2, h3, h4, fun k hk => h5 k (by omega) (by omega)⟩

theorem Cl.step {W wr w1 : World} {bc sz : Nat} {ty : TypeId} {k : Nat} {N : Nat → Nat} {X : Nat → Nat → Int} {a : Option Addr} (h : Cl W wr bc sz ty k N X) (hbc : bc < W.heap.size) (hk : k < sz)
    (hb : Below wr.heap.size wr w1) (hu : IsU w1 a (N k) (X k)) (hf : ∀ x, a = some x → wr.heap.size ≤ x.block) : Cl W (w1.setCell ⟨bc, k, none⟩ (.slice a (N k) (N k))) bc sz ty (k + 1) N X := by
  obtain ⟨⟨h1, h2, h3, h4⟩, h5, cur, hcur, hsz, hone, A, hA⟩ := h
  have hcur1 : w1.heap[bc]? = some (.cells cur ty (0, 0)) := (hb.block bc (by omega)).trans hcur
  have hb' := hb.size
  have heq := setCell_eq_setRow w1 bc k cur ty (0, 0) (.slice a (N k) (N k)) hcur1
  refine ⟨⟨?_, ?_, ?_, ?_⟩, fun j hj hne => ?_, cur.setIfInBounds k (.slice a (N k) (N k)), ?_, by simpa using hsz, ?_, fun i => if i = k then a else A i, fun i hi => ?_⟩
  · exact (show _ = w1.os from rfl).trans (hb.os.trans h1)
  · exact (show _ = w1.tape from rfl).trans (hb.tape.trans h2)
  · exact (show _ = w1.output from rfl).trans (hb.output.trans h3)
  · rw [heq, setRow_size]; omega
  · rw [heq, setRow_other _ _ _ _ hne, hb.block j (by omega)]
    exact h5 j hj hne
  · rw [heq]
    exact setRow_heap w1 bc cur _ ty (0, 0) hcur1
  · intro v hv
    rcases Array.mem_or_eq_of_mem_setIfInBounds hv with hv | rfl
    · exact hone v hv
    · rfl
  · by_cases e : i = k
    · subst e
      simp only [↓reduceIte]
      refine ⟨by simp [hsz, hk], hu.setCell _ _ _ (fun x hx e => ?_), fun x hx => ?_⟩
      · have := hf x hx; omega
      · have := hf x hx; omega
    · simp only [e, ↓reduceIte]
      obtain ⟨g1, g2, g3⟩ := hA i (by omega)
      refine ⟨?_, (g2.below hb (Nat.le_refl _)).setCell _ _ _ (fun x hx e => ?_), g3⟩
      · rw [Array.getElem?_setIfInBounds_ne (fun e' => e e'.symm)]
        exact g1
      · have := g3 x hx; omega

/-- behind the copy the cell to be stored into is there. -/
theorem Cl.room {W wr w1 : World} {bc sz : Nat} {ty : TypeId} {k : Nat} {N : Nat → Nat} {X : Nat → Nat → Int} (h : Cl W wr bc sz ty k N X) (hbc : bc < W.heap.size) (p : Nat) (hk : p < sz)
    (hb : Below wr.heap.size wr w1) : ∃ v, w1.cell? ⟨bc, p, none⟩ = some v ∧ w1.frozen? ⟨bc, p, none⟩ = false := by
  obtain ⟨⟨_, _, _, h4⟩, _, cur, h1, h2, _⟩ := h
  have hcur := (hb.block bc (by omega)).trans h1
  exact ⟨cur[p]'(by omega), by rw [cell_of_row _ _ p cur ty (0, 0) hcur]; simp [h2, hk], frozen_of_row w1 _ p cur ty hcur⟩

theorem below_of_drew {B : Nat} {w w1 : World} (h : Below B w.drew w1) : Below B w w1 := ⟨h.os, h.tape, h.output, h.size, h.block⟩
theorem isU_drew {w : World} {a : Option Addr} {n : Nat} {X : Nat → Int} (h : IsU w a n X) : IsU w.drew a n X := h.drewN 1

theorem Cl.step2 {W wr w1 : World} {bc : Nat} {k q : Nat} {M : Nat → Nat → Nat} {Z : Nat → Nat → Nat → Int} {N' : Nat → Nat} {X' : Nat → Nat → Int} {a : Option Addr} (h : Cl W wr bc 256 33 (k * 16 + q) N' X') (hbc : bc < W.heap.size) (hk : k < 16) (hq : q < 16)
    (HN : ∀ i j, j < 16 → N' (i * 16 + j) = M i j) (HX : ∀ i j, j < 16 → X' (i * 16 + j) = Z i j)
    (hb : Below wr.heap.size wr w1) (hu : IsU w1 a (M k q) (Z k q)) (hf : ∀ x, a = some x → wr.heap.size ≤ x.block) : Cl W (w1.setCell ⟨bc, k * 16 + q, none⟩ (.slice a (M k q) (M k q))) bc 256 33 (k * 16 + q + 1) N' X' := by
  have := h.step hbc (by omega) hb (a := a) (by rw [HN k q hq, HX k q hq]; exact hu) hf
  rwa [HN k q hq] at this

/-- the leaves lie in blocks from B on. -/
def LvsN (B : Nat) (w : World) (cs : Array Value) (N : Nat → Nat) (X : Nat → Nat → Int) : Prop :=
  ∃ A : Nat → Option Addr, (Ar cs 16 (fun i => .slice (A i) (N i) (N i)) ∧ ∀ i, i < 16 → IsU w (A i) (N i) (X i) ∧ ∀ x, A i = some x → B ≤ x.block) ∧ ∀ v, v ∈ cs → v.oneCell' = true
def CLvsN (B : Nat) (w : World) (cs : Array Value) (M : Nat → Nat → Nat) (Z : Nat → Nat → Nat → Int) : Prop :=
  ∃ A : Nat → Nat → Option Addr, (Ar2 cs (fun i j => .slice (A i j) (M i j) (M i j)) ∧ ∀ i j, i < 16 → j < 16 → IsU w (A i j) (M i j) (Z i j) ∧ ∀ x, A i j = some x → B ≤ x.block) ∧ ∀ v, v ∈ cs → v.oneCell' = true

theorem LvsN.lvs {B : Nat} {w : World} {cs : Array Value} {N : Nat → Nat} {X : Nat → Nat → Int} (h : LvsN B w cs N X) : Lvs w cs N X :=
  let ⟨A, ⟨h1, h2⟩, _⟩ := h
  ⟨A, N, h1, fun i hi => (h2 i hi).1⟩
theorem CLvsN.clvs {B : Nat} {w : World} {cs : Array Value} {M : Nat → Nat → Nat} {Z : Nat → Nat → Nat → Int} (h : CLvsN B w cs M Z) : CLvs w cs M Z :=
  let ⟨A, ⟨h1, h2⟩, _⟩ := h
  ⟨A, M, h1, fun i j hi hj => (h2 i j hi hj).1⟩
theorem LvsN.setRow {B : Nat} {w : World} {cs : Array Value} {N : Nat → Nat} {X : Nat → Nat → Int} (h : LvsN B w cs N X) (g : Nat) (hg : g < B) (cs' : Array Value) : LvsN B (w.setRow g cs') cs N X :=
  let ⟨A, ⟨h1, h2⟩, h3⟩ := h
  ⟨A, ⟨h1, fun i hi => ⟨(h2 i hi).1.setRow g cs' (fun x hx e => by have := (h2 i hi).2 x hx; omega), (h2 i hi).2⟩⟩, h3⟩
theorem CLvsN.setRow {B : Nat} {w : World} {cs : Array Value} {M : Nat → Nat → Nat} {Z : Nat → Nat → Nat → Int} (h : CLvsN B w cs M Z) (g : Nat) (hg : g < B) (cs' : Array Value) : CLvsN B (w.setRow g cs') cs M Z :=
  let ⟨A, ⟨h1, h2⟩, h3⟩ := h
  ⟨A, ⟨h1, fun i j hi hj => ⟨(h2 i j hi hj).1.setRow g cs' (fun x hx e => by have := (h2 i j hi hj).2 x hx; omega), (h2 i j hi hj).2⟩⟩, h3⟩
theorem LvsN.below {B B' : Nat} {w w' : World} {cs : Array Value} {N : Nat → Nat} {X : Nat → Nat → Int} (h : LvsN B w cs N X) (hb : Below B' w w') (hB : w.heap.size ≤ B') : LvsN B w' cs N X :=
  let ⟨A, ⟨h1, h2⟩, h3⟩ := h
  ⟨A, ⟨h1, fun i hi => ⟨(h2 i hi).1.below hb hB, (h2 i hi).2⟩⟩, h3⟩

theorem below_setRow' {B : Nat} {a w : World} (h : Below B a w) (g : Nat) (hg : B ≤ g) (cs : Array Value) : Below B a (w.setRow g cs) :=
  h.trans ⟨rfl, rfl, rfl, by simp, fun k hk => setRow_other w g k cs (by omega)⟩

/-- what the clones hand back. -/
def AggOut (P : Array Value → World → Prop) (e : Ending) (w' : World) : Prop := ∃ cs, e = .returned (.agg cs) ∧ P cs w'

set_option maxHeartbeats 800000 in
theorem cloneL_any (cs30 : Array Value) (N : Nat → Nat) (X : Nat → Nat → Int) (w : World) (h30 : Lvs w cs30 N X) (hN : ∀ i, i < 16 → N i ≤ 131072) :
    Calls Try.prog 17 #[.agg cs30] w fun e w' => AggOut (fun cs w' => LvsN w.heap.size w' cs N X) e w' ∧ Below w.heap.size w w' := by
  obtain ⟨A, C, ⟨hs30, hc30⟩, hu30⟩ := h30
  go_enter Try.func17, Try.ntmps17
  go_wp2
  generalize hz30 : #[Value.slice none 0 0, Value.slice none 0 0, Value.slice none 0 0, Value.slice none 0 0, Value.slice none 0 0,
          Value.slice none 0 0, Value.slice none 0 0, Value.slice none 0 0, Value.slice none 0 0, Value.slice none 0 0,
          Value.slice none 0 0, Value.slice none 0 0, Value.slice none 0 0, Value.slice none 0 0, Value.slice none 0 0,
          Value.slice none 0 0] = z30
  have hzs : z30.size = 16 := by rw [← hz30]; rfl
  have hz1 : ∀ v, v ∈ z30 → v.oneCell' = true := by
    intro v hv
    rw [← hz30] at hv
    simp at hv
    rw [hv]
    rfl
  clear hz30
  have hbel := boxes_below [(cs30, 30), (z30, 30), (z30, 30)] w
  have hsz := boxes_size [(cs30, 30), (z30, 30), (z30, 30)] w
  have F30 : Hid (∀ i, i < 16 → (boxes w [(cs30, 30), (z30, 30), (z30, 30)]).cell? ⟨w.heap.size, i, none⟩ = some (.slice (A i) (N i) (C i))) := fun i hi => boxes_cell _ w 0 rfl rfl (hc30 i hi)
  have b1 : Hid ((boxes w [(cs30, 30), (z30, 30), (z30, 30)]).heap[w.heap.size + 1]? = some (.cells z30 30 (0, 0))) := boxes_block _ w 1 _ _ rfl
  have b2 : Hid ((boxes w [(cs30, 30), (z30, 30), (z30, 30)]).heap[w.heap.size + 2]? = some (.cells z30 30 (0, 0))) := boxes_block _ w 2 _ _ rfl
  rw [show ((w.alloc (Obj.cells cs30 30)).alloc (Obj.cells z30 30)).alloc (Obj.cells z30 30) = boxes w [(cs30, 30), (z30, 30), (z30, 30)] from rfl]
  generalize boxes w [(cs30, 30), (z30, 30), (z30, 30)] = W at hbel hsz F30 b1 b2 ⊢
  simp only [List.length_cons, List.length_nil] at hsz
  have hszl : w.heap.size + 3 ≤ W.heap.size := by omega
  have hszu : W.heap.size ≤ w.heap.size + 3 := by omega
  clear hc30 hsz
  have U30 : Hid (∀ i, i < 16 → IsU w (A i) (N i) (X i)) := hu30
  clear hu30
  go_loopw [4] (fun i wr => ∃ k : Nat, k ≤ 16 ∧ i = .int .i64 k ∧ Cl W wr (w.heap.size + 2) 16 30 k N X) (fun i _ => 16 - (intOf i).toNat)
  case atStart => exact ⟨0, by omega, rfl, ⟨rfl, rfl, rfl, Nat.le_refl _⟩, fun _ _ _ => rfl, z30, b2.out, hzs, hz1, fun _ => none, fun i h => absurd h (Nat.not_lt_zero _)⟩
  case round =>
    obtain ⟨k, hk, rfl, hcl⟩ := hrel
    by_cases hlt : k < 16
    · have hbw : Below w.heap.size w wr := hcl.below hbel (by omega)
      have c30 : wr.cell? ⟨w.heap.size, k, none⟩ = some (.slice (A k) (N k) (C k)) := by
        rw [← F30.out k hlt]
        exact World.cell?_of_block (w := W) (hcl.2.1 _ (show w.heap.size < W.heap.size by omega) (show w.heap.size ≠ w.heap.size + 2 by omega))
      have u30 : IsU wr (A k) (N k) (X k) := (U30.out k hlt).below hbw (Nat.le_refl _)
      have hNk := hN k hlt
      have HCL : Hid (Cl W wr (w.heap.size + 2) 16 30 k N X) := hcl
      clear hcl
      go_wp2_with fail
      refine (copy_any _ _ _ (X k) _ u30 hNk).mono ?_
      rintro e w1 ⟨a', rfl, hu, hf, hb1⟩
      have R := HCL.out.step (by omega) hlt hb1 hu hf
      obtain ⟨cur, hcur⟩ : ∃ cur, w1.heap[w.heap.size + 2]? = some (.cells cur 30 (0, 0)) ∧ cur.size = 16 := by
        obtain ⟨hx1, _, cur, h1, h2, _⟩ := HCL.out
        exact ⟨cur, (hb1.block _ (by omega)).trans h1, h2⟩
      obtain ⟨v0, hv0⟩ : ∃ v, w1.cell? ⟨w.heap.size + 2, k, none⟩ = some v := ⟨cur[k]'(by omega), by rw [cell_of_row _ _ k cur 30 (0, 0) hcur.1]; simp [hcur.2, hlt]⟩
      have hfz : w1.frozen? ⟨w.heap.size + 2, k, none⟩ = false := frozen_of_row w1 _ k cur 30 hcur.1
      have R' : Hid (Cl W (w1.setCell ⟨w.heap.size + 2, k, none⟩ (.slice a' (N k) (N k))) (w.heap.size + 2) 16 30 (k + 1) N X) := R
      clear R hcur HCL hu hf hb1 hbw u30 c30
      go_wp2
      go_roundw
      case rel => exact ⟨k + 1, by omega, by go_num, R'.out⟩
      case measure => simp [intOf]; omega
    · have e : k = 16 := by omega
      subst e
      have hbw : Below w.heap.size w wr := hcl.below hbel (by omega)
      obtain ⟨hx, hoth, cur, hcur, hcs, hone, A', hA'⟩ := hcl
      have bres : wr.heap[w.heap.size + 1]? = some (.cells z30 30 (0, 0)) := (hoth _ (by omega) (by omega)).trans b1.out
      have hlv : LvsN w.heap.size wr cur N X := ⟨A', ⟨⟨hcs, fun i hi => (hA' i hi).1⟩, fun i hi => ⟨(hA' i hi).2.1, fun x hx => by have := (hA' i hi).2.2 x hx; omega⟩⟩, hone⟩
      have hlv' : LvsN w.heap.size (wr.setRow (w.heap.size + 1) cur) cur N X :=
        ⟨A', ⟨⟨hcs, fun i hi => (hA' i hi).1⟩, fun i hi => ⟨(hA' i hi).2.1.setRow _ cur (fun x hx e => by have := (hA' i hi).2.2 x hx; omega), fun x hx => by have := (hA' i hi).2.2 x hx; omega⟩⟩, hone⟩
      have hall : cur.all (·.oneCell') = true := Array.all_eq_true_iff_forall_mem.2 hone
      have HC : Hid (wr.heap[w.heap.size + 2]? = some (.cells cur 30 (0, 0))) := hcur
      have HR : Hid (wr.heap[w.heap.size + 1]? = some (.cells z30 30 (0, 0))) := bres
      clear hoth hA' hcur bres hone hlv
      go_wp2_with (first
        | (refine wpList_load_row (by rfl) 30 _ (by rfl) (w.heap.size + 2) (by rfl) 30 cur (0, 0) _ (by exact HC.out) Try.underlying30 (by rfl) (size_of info30 hcs) ?_)
        | (refine wpList_store_row (by rfl) 30 _ _ (by rfl) (w.heap.size + 1) cur (by rfl) (by rfl) 30 z30 (by exact HR.out) (size_of info30 hcs) (by rw [hzs, hcs]) hall ?_))
      refine bodyPost_ret (v := .agg cur) (results_cell_row Try.results17 _ _ (w.heap.size + 1) 30 cur (0, 0) _ rfl (setRow_heap _ _ _ _ _ _ HR.out) Try.underlying30 rfl (size_of info30 hcs)) rfl ?_
      exact ⟨⟨cur, rfl, hlv'⟩, below_setRow' hbw _ (by omega) _⟩

/-- 256 nil slices. -/
def z33 : Array Value := Array.replicate 256 (.slice none 0 0)
theorem zero33 (w : World) : (zeroValue 33).run Try.prog w = .ok (.agg z33) w := by kernel_rfl

set_option maxHeartbeats 800000 in
set_option maxRecDepth 100000 in
theorem cloneLL_any (cs33 : Array Value) (M : Nat → Nat → Nat) (Z : Nat → Nat → Nat → Int) (w : World) (h33 : CLvs w cs33 M Z) (hM : ∀ i j, i < 16 → j < 16 → M i j ≤ 131072) :
    Calls Try.prog 18 #[.agg cs33] w fun e w' => AggOut (fun cs w' => CLvsN w.heap.size w' cs M Z) e w' ∧ Below w.heap.size w w' := by
  obtain ⟨A, C, ⟨hs33, hc33⟩, hu33⟩ := h33
  have hzv := zero33
  go_enter Try.func18, Try.ntmps18
  go_wp2
  have hzs : z33.size = 256 := by simp [z33]
  have hz1 : ∀ v, v ∈ z33 → v.oneCell' = true := by
    intro v hv
    simp [z33] at hv
    rw [hv]
    rfl
  have hbel := boxes_below [(cs33, 33), (z33, 33), (z33, 33)] w
  have hsz := boxes_size [(cs33, 33), (z33, 33), (z33, 33)] w
  have F33 : Hid (∀ i j, i < 16 → j < 16 → (boxes w [(cs33, 33), (z33, 33), (z33, 33)]).cell? ⟨w.heap.size, i * 16 + j, none⟩ = some (.slice (A i j) (M i j) (C i j))) := fun i j hi hj => boxes_cell _ w 0 rfl rfl (hc33 i j hi hj)
  have b1 : Hid ((boxes w [(cs33, 33), (z33, 33), (z33, 33)]).heap[w.heap.size + 1]? = some (.cells z33 33 (0, 0))) := boxes_block _ w 1 _ _ rfl
  have b2 : Hid ((boxes w [(cs33, 33), (z33, 33), (z33, 33)]).heap[w.heap.size + 2]? = some (.cells z33 33 (0, 0))) := boxes_block _ w 2 _ _ rfl
  rw [show ((w.alloc (Obj.cells cs33 33)).alloc (Obj.cells z33 33)).alloc (Obj.cells z33 33) = boxes w [(cs33, 33), (z33, 33), (z33, 33)] from rfl]
  generalize boxes w [(cs33, 33), (z33, 33), (z33, 33)] = W at hbel hsz F33 b1 b2 ⊢
  simp only [List.length_cons, List.length_nil] at hsz
  have hszl : w.heap.size + 3 ≤ W.heap.size := by omega
  have hszu : W.heap.size ≤ w.heap.size + 3 := by omega
  clear hc33 hsz hzv
  have U33 : Hid (∀ i j, i < 16 → j < 16 → IsU w (A i j) (M i j) (Z i j)) := hu33
  clear hu33
  obtain ⟨N', hN'⟩ : ∃ N' : Nat → Nat, N' = fun p => M (p / 16) (p % 16) := ⟨_, rfl⟩
  obtain ⟨X', hX'⟩ : ∃ X' : Nat → Nat → Int, X' = fun p => Z (p / 16) (p % 16) := ⟨_, rfl⟩
  have HN : Hid (∀ i j, j < 16 → N' (i * 16 + j) = M i j) := fun i j hj => by
    rw [hN']; show M ((i * 16 + j) / 16) ((i * 16 + j) % 16) = _
    rw [show (i * 16 + j) / 16 = i from by omega, show (i * 16 + j) % 16 = j from by omega]
  have HX : Hid (∀ i j, j < 16 → X' (i * 16 + j) = Z i j) := fun i j hj => by
    rw [hX']; show Z ((i * 16 + j) / 16) ((i * 16 + j) % 16) = _
    rw [show (i * 16 + j) / 16 = i from by omega, show (i * 16 + j) % 16 = j from by omega]
  clear hN' hX'
  go_loopw [4] (fun i wr => ∃ k : Nat, k ≤ 16 ∧ i = .int .i64 k ∧ Cl W wr (w.heap.size + 2) 256 33 (k * 16) N' X') (fun i _ => 16 - (intOf i).toNat)
  case atStart => exact ⟨0, by omega, rfl, ⟨rfl, rfl, rfl, Nat.le_refl _⟩, fun _ _ _ => rfl, z33, b2.out, hzs, hz1, fun _ => none, fun i h => absurd h (by omega)⟩
  case round =>
    obtain ⟨k, hk, rfl, hcl⟩ := hrel
    by_cases hlt : k < 16
    · have HCL0 : Hid (Cl W wr (w.heap.size + 2) 256 33 (k * 16) N' X') := hcl
      have ik0 : (0 : Int) ≤ (k : Int) := by omega
      have ik1 : (k : Int) < 16 := by omega
      clear hcl
      go_wp2
      go_loopw [5] (fun i wr => ∃ q : Nat, q ≤ 16 ∧ i = .int .i64 q ∧ Cl W wr (w.heap.size + 2) 256 33 (k * 16 + q) N' X') (fun i _ => 16 - (intOf i).toNat)
      case atStart => exact ⟨0, by omega, rfl, HCL0.out⟩
      case round =>
        clear HCL0
        obtain ⟨q, hq, rfl, hcl⟩ := hrel
        by_cases hlt2 : q < 16
        · have hbw : Below w.heap.size w wr := hcl.below hbel (by omega)
          have iq0 : (0 : Int) ≤ (q : Int) := by omega
          have iq1 : (q : Int) < 16 := by omega
          have c33 : wr.cell? ⟨w.heap.size, k * 16 + q, none⟩ = some (.slice (A k q) (M k q) (C k q)) := by
            rw [← F33.out k q hlt hlt2]
            exact World.cell?_of_block (w := W) (hcl.2.1 _ (show w.heap.size < W.heap.size by omega) (show w.heap.size ≠ w.heap.size + 2 by omega))
          have u33 : IsU wr (A k q) (M k q) (Z k q) := (U33.out k q hlt hlt2).below hbw (Nat.le_refl _)
          have hMk := hM k q hlt hlt2
          have HCL : Hid (Cl W wr (w.heap.size + 2) 256 33 (k * 16 + q) N' X') := hcl
          clear hcl
          go_wp2_with fail
          go_region_with (go_at_call 24; refine (copy_any _ _ _ (Z k q) _ (isU_drew u33) hMk).mono ?_; rintro e w1 ⟨a', rfl, hu, hf, hb1⟩; obtain ⟨v0, hv0, hfz⟩ := HCL.out.room (by omega) (k * 16 + q) (by omega) (below_of_drew hb1); have R' : Hid (Cl W (w1.setCell ⟨w.heap.size + 2, k * 16 + q, none⟩ (.slice a' (M k q) (M k q))) (w.heap.size + 2) 256 33 (k * 16 + q + 1) N' X') := HCL.out.step2 (by omega) hlt hlt2 HN.out HX.out (below_of_drew hb1) hu hf; clear hu hf hb1)
          clear HCL hbw u33 c33
          go_wp2
          go_roundw
          case rel => exact ⟨q + 1, by omega, by go_num, by rw [← Nat.add_assoc]; assumption⟩
          case measure => simp [intOf]; omega
        · have e : q = 16 := by omega
          subst e
          have HCL : Hid (Cl W wr (w.heap.size + 2) 256 33 ((k + 1) * 16) N' X') := by
            unfold Hid
            rw [show (k + 1) * 16 = k * 16 + 16 from by omega]
            exact hcl
          clear hcl
          go_wp2
          go_roundw
          case rel => exact ⟨k + 1, by omega, by go_num, HCL.out⟩
          case measure => simp [intOf]; omega
    · have e : k = 16 := by omega
      subst e
      have hbw : Below w.heap.size w wr := hcl.below hbel (by omega)
      obtain ⟨hx, hoth, cur, hcur, hcs, hone, A', hA'⟩ := hcl
      have bres : wr.heap[w.heap.size + 1]? = some (.cells z33 33 (0, 0)) := (hoth _ (by omega) (by omega)).trans b1.out
      have hlv' : CLvsN w.heap.size (wr.setRow (w.heap.size + 1) cur) cur M Z := by
        refine ⟨fun i j => A' (i * 16 + j), ⟨⟨hcs, fun i j hi hj => ?_⟩, fun i j hi hj => ⟨?_, fun x hx => ?_⟩⟩, hone⟩
        · have := (hA' (i * 16 + j) (by omega)).1
          rwa [HN.out i j hj] at this
        · have := (hA' (i * 16 + j) (by omega)).2.1
          rw [HN.out i j hj, HX.out i j hj] at this
          exact this.setRow _ cur (fun x hx e => by have := (hA' (i * 16 + j) (by omega)).2.2 x hx; omega)
        · have := (hA' (i * 16 + j) (by omega)).2.2 x hx; omega
      have hall : cur.all (·.oneCell') = true := Array.all_eq_true_iff_forall_mem.2 hone
      have HC : Hid (wr.heap[w.heap.size + 2]? = some (.cells cur 33 (0, 0))) := hcur
      have HR : Hid (wr.heap[w.heap.size + 1]? = some (.cells z33 33 (0, 0))) := bres
      clear hoth hA' hcur bres hone
      go_wp2_with (first
        | (refine wpList_load_row (by rfl) 33 _ (by rfl) (w.heap.size + 2) (by rfl) 33 cur (0, 0) _ (by exact HC.out) Try.underlying33 (by rfl) (size_of info33 hcs) ?_)
        | (refine wpList_store_row (by rfl) 33 _ _ (by rfl) (w.heap.size + 1) cur (by rfl) (by rfl) 33 z33 (by exact HR.out) (size_of info33 hcs) (by rw [hzs, hcs]) hall ?_))
      refine bodyPost_ret (v := .agg cur) (results_cell_row Try.results18 _ _ (w.heap.size + 1) 33 cur (0, 0) _ rfl (setRow_heap _ _ _ _ _ _ HR.out) Try.underlying33 rfl (size_of info33 hcs)) rfl ?_
      exact ⟨⟨cur, rfl, hlv'⟩, below_setRow' hbw _ (by omega) _⟩
end Go.Proofs.Qxb6604322a
