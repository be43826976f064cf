/-
  Seat b6609411a: maps.Keys (43) and its iterator (54), over a set of role names.
-/
import Derived.Test.Qxb6609411aNames
import Derived.RangeFuncNested
import Derived.RangeFuncBound
import Derived.RangeFuncCalls
import Derived.RangeFuncLeaves
import Derived.Shelf.Abstract
import Derived.Shelf.RegionOpen
import Derived.OwnWalkIn
import Derived.TacticsInMore
import Derived.LoopNIn
import Derived.LoopIn
import Derived.RegionIn
import Derived.Sort.MapsRangeIn
import Derived.Sort.KeysCollected
import Derived.Maps.OwnIn
import Derived.Maps.AppendAt
import Derived.RangeFuncBox
namespace Go.Proofs.Qxb6609411a
open Go.ChangeShapes Go.WideShapes Go.ChangeAt Go.RowKit Go.Shelf
open Go.Maps (Keyed IsMap Tidy)
set_option linter.unusedVariables false

/-- every walk's object but block sb lies as it lay. -/
structure KeepBut (sb : Nat) (W W' : World) : Prop where
  size : W.heap.size ≤ W'.heap.size
  same : ∀ (k : Nat) (o : Obj), k ≠ sb → W.heap[k]? = some o → o.isWalk = true → W'.heap[k]? = some o

theorem KeepBut.t {sb : Nat} {A B C : World} (h : KeepBut sb A B) (k : KeepBut sb B C) : KeepBut sb A C :=
  ⟨Nat.le_trans h.size k.size, fun i o hi hh ho => k.same i o hi (h.same i o hi hh ho) ho⟩
theorem KeepBut.b {sb : Nat} {w : World} (W : World) (l : Nat) (o o' : Obj) (_ : w.heap.size ≤ l) (h : W.heap[l]? = some o) (_ : o.isCells = false) (hw : o.isWalk = false) : KeepBut sb W (W.putObj l o') :=
  ⟨(KeepsWalks.putObj o' h hw).size, fun k o2 _ hk ho => (KeepsWalks.putObj o' h hw).same k o2 hk ho⟩

theorem ranges_keep {w w' : World} {H : Type} {P : Program} {k : TypeId} {R : Value → Option (DataW H × List MemPlace)} {b r n : Nat} {D : DataW H} {left : Lit → Bool} {cnt : Nat} (h : w.ranges P k R b r n D left cnt) (h1 : w'.heap[b]? = w.heap[b]?) (h2 : w'.heap[r]? = w.heap[r]?) : w'.ranges P k R b r n D left cnt := by
  obtain ⟨es, clock, since, seen, c0, hb, F, hs, hD, hr, rest⟩ := h
  exact ⟨es, clock, since, seen, c0, h1.trans hb, F, hs, hD, h2.trans hr, rest⟩
theorem ranges_blocks {w : World} {H : Type} {P : Program} {k : TypeId} {R : Value → Option (DataW H × List MemPlace)} {b r n : Nat} {D : DataW H} {left : Lit → Bool} {cnt : Nat} (h : w.ranges P k R b r n D left cnt) : (∃ o : Obj, w.heap[b]? = some o ∧ o.isWalk = true) ∧ ∃ o : Obj, w.heap[r]? = some o ∧ o.isWalk = true := by
  obtain ⟨es, clock, since, seen, c0, hb, F, hs, hD, hr, rest⟩ := h
  exact ⟨⟨_, hb, rfl⟩, ⟨_, hr, rfl⟩⟩

set_option maxHeartbeats 1000000 in
theorem keys_in (n : Nat) (mb : Option Nat) (w : World) :
    CallsIn Fence.wide n Try.prog 43 #[.map mb] w fun e w' => e = .returned (.func (.func 54) #[] #[.pointer (some ⟨w.heap.size, 0, none⟩)]) ∧ w' = w.alloc (.cells #[.map mb] 29) := by
  refine callsIn_of_wp Try.func43 rfl trivial ?_ rfl
  simp only [Try.ntmps43, List.size_toArray, List.length_cons, List.length_nil, Nat.reduceAdd, Nat.reduceSub, Array.replicate_succ, Array.replicate_zero, List.push_toArray, List.append_toArray, List.nil_append, List.cons_append]
  gi_wp2
  go_ret
  exact ⟨rfl, rfl⟩

/-- what has come of a range over a set of names. -/
def CollV {n0 : Nat} (D0 : DataW Unit) (left : Lit → Bool) (vs : List (Fin n0)) : Prop := vs.Nodup ∧ ∀ v : Fin n0, v ∈ vs ↔ (Maps.has D0 (.string (nmL v)) = true ∧ left (.string (nmL v)) = false)
theorem CollV.start {n0 : Nat} (D0 : DataW Unit) : CollV (n0 := n0) D0 (Maps.has D0) [] := ⟨List.nodup_nil, fun v => by cases Maps.has D0 (.string (nmL v)) <;> simp⟩
theorem CollV.step {n0 : Nat} (hn0 : n0 ≤ 10000) {D0 : DataW Unit} {left : Lit → Bool} {vs : List (Fin n0)} (h : CollV D0 left vs) {v : Fin n0} {y : DataW Unit} (hlk : left (.string (nmL v)) = true) (hat : ∀ zd, D0.atKey (.string (nmL v)) zd = y) : CollV D0 (fun z => left z && !z.sameKey (.string (nmL v))) (vs ++ [v]) := by
  have hhas : Maps.has D0 (.string (nmL v)) = true := Maps.has_true_of_atKey hat
  have hnew : v ∉ vs := fun hx => by have := ((h.2 v).1 hx).2; rw [hlk] at this; cases this
  refine ⟨List.nodup_append.2 ⟨h.1, by simp, fun a ha b hb => by simp at hb; subst hb; exact fun e => hnew (e ▸ ha)⟩, fun u => ?_⟩
  by_cases hy : u = v
  · subst hy; simp [hhas, Lit.sameKey]
  · have hne : nmL u ≠ nmL v := fun e => hy (Fin.ext (nmL_inj (by omega) (by omega) e))
    simp [h.2 u, hy, Lit.sameKey, hne]

abbrev encN {n0 : Nat} (v : Fin n0) : Array Value := #[.string (nm v)]

set_option maxRecDepth 100000 in
set_option maxHeartbeats 1000000 in
theorem keys1_in {n0 : Nat} (hn0 : n0 ≤ 10000) (n : Nat) (l Bm b nn sb : Nat) (hsb : b ≠ sb) (D0 : DataW Unit) (hnm : ∀ x, Maps.has D0 (.string x) = true → ∃ v : Fin n0, x = nmL v) (J Jx : List (Fin n0) → World → Prop)
    (hY : ∀ pre x W, J pre W → pre.length < Maps.size D0 → YieldAt Fence.wide (n - 1) Try.prog l (encN x) W fun e W' =>
      (e = .returned (.bool true) ∧ J (pre ++ [x]) W' ∧ KeepBut sb W W') ∨ (e = .returned (.bool false) ∧ Jx (pre ++ [x]) W'))
    (W : World) (hJ : AbidesFrom W.heap.size J) (hsl : sb < W.heap.size) (hm : W.cell? ⟨Bm, 0, none⟩ = some (.map (some b))) (hown : W.ownsMap Try.prog 9 unitElem b nn D0) (h0 : J [] W) :
    CallsIn Fence.wide n Try.prog 54 #[.func (.yield l) #[] #[], .pointer (some ⟨Bm, 0, none⟩)] W fun e W' => (∃ v, e = .returned v) ∧
      ((∃ vs : List (Fin n0), (vs.Nodup ∧ ∀ v : Fin n0, v ∈ vs ↔ Maps.has D0 (.string (nmL v)) = true) ∧ J vs W') ∨ (∃ pre, True ∧ Jx pre W')) := by
  refine callsIn_of_wp Try.func54 rfl trivial ?_ rfl
  simp only [Try.ntmps54, List.size_toArray, List.length_cons, List.length_nil, Nat.reduceAdd, Nat.reduceSub, Array.replicate_succ, Array.replicate_zero, List.push_toArray, List.append_toArray, List.nil_append, List.cons_append]
  gi_wp2_with (first
    | (gi_at_range; refine wpListIn_range_own _ rfl _ 29 rfl 9 32 keyed9 Try.underlying29 _ b nn _ rfl hown ?_; intro w0 hrg0 hg0 hs0)
    | gi_in)
  go_frame
  gi_loopw [3] (fun _ wr => ∃ (left : Lit → Bool) (cnt : Nat) (ss : List (Fin n0)), wr.ranges Try.prog 9 unitElem b W.heap.size nn D0 left cnt ∧ ss.length + cnt ≤ Maps.size D0 ∧ CollV D0 left ss ∧ J ss wr)
    (fun _ wr => wr.rangeLeft b W.heap.size)
  case atStart =>
    exact ⟨_, _, [], hrg0, by simp, CollV.start D0, hJ [] W w0 none h0 hg0 (fun r e => by cases e)⟩
  case round =>
    obtain ⟨left, cnt, ss, hrg, hcs, hC, hJs⟩ := hrel
    gi_wp2_with (first
      | (gi_at_next; refine wpListIn_next_ranges _ rfl _ rfl 9 keyed9 unitElem encStr (fun _ : Unit => Value.agg #[]) (fun key kl hk => by obtain ⟨x, hx, _⟩ := Maps.keyOf_str Try.underlying9 hk; exact ⟨x, hx⟩) (fun v y hv => by obtain ⟨rfl, _⟩ := unitElem_inv hv; exact ⟨(), rfl⟩) b W.heap.size nn _ _ _ rfl hrg ?_ ?_)
      | gi_in)
    · -- NOTHING IS LEFT
      intro hc0 hl0
      gi_wp2
      go_end0
      exact ⟨⟨_, rfl⟩, .inl ⟨ss, ⟨hC.1, fun x => by rw [hC.2 x, hl0]; simp⟩, hJs⟩⟩
    · -- AN ENTRY HAS COME: yield(k)
      intro x c kl yy w2 cnt2 hkey hlk hv hat hrg2 hlt hg2 hs2 hen
      obtain ⟨x', ex, rfl, _⟩ := Maps.keyOf_str Try.underlying9 hkey
      obtain rfl : x = x' := encStr_inj ex
      obtain ⟨v, rfl⟩ := hnm x (Maps.has_true_of_atKey hat)
      have hev : encStr (nmL v) = .string (nm v) := rfl
      have hJ2 : J ss w2 := hJ ss wr w2 (some W.heap.size) hJs hg2 (fun r e => by cases e; exact ⟨Nat.le_refl _, hrg.iter_walk⟩)
      obtain ⟨fn, tmps, assign, body, hy, hR⟩ := hY ss v w2 hJ2 (by omega)
      clear hs2
      rw [hev] at hen
      gi_wp2
      refine ⟨(fun h => by cases h), hR.mono ?_⟩
      have hC2 := hC.step hn0 hlk hat
      obtain ⟨⟨ob, hob, hobw⟩, ⟨orr, hor, horw⟩⟩ := ranges_blocks hrg2
      rintro e W3 (⟨rfl, hJ3, hk3⟩ | ⟨rfl, hJx3⟩)
      · gi_wp2
        have hrg3 := ranges_keep hrg2 ((hk3.same b ob hsb hob hobw).trans hob.symm) ((hk3.same W.heap.size orr (by omega) hor horw).trans hor.symm)
        go_roundw
        case rel => exact ⟨_, cnt2, ss ++ [v], hrg3, by simp; omega, hC2, hJ3⟩
        case measure => rw [hrg3.left_eq, hrg.left_eq]; exact hlt
      · -- THE ROUND HAS SAID 'NO MORE'
        gi_wp2
        refine bodyPost_ret (results_none rfl _ _ _) rfl ?_
        exact ⟨⟨_, rfl⟩, .inr ⟨ss ++ [v], trivial, hJx3⟩⟩

theorem keys_stops {n0 : Nat} (hn0 : n0 ≤ 10000) (n : Nat) (Bm b nn sb : Nat) (hsb : b ≠ sb) (D0 : DataW Unit) (hnm : ∀ x, Maps.has D0 (.string x) = true → ∃ v : Fin n0, x = nmL v) (w : World) (hBm : Bm < w.heap.size) (hsl : sb < w.heap.size)
    (hm : w.cell? ⟨Bm, 0, none⟩ = some (.map (some b))) (hown : w.ownsMap Try.prog 9 unitElem b nn D0) :
    SeqStopsK Fence.wide n Try.prog 54 #[.pointer (some ⟨Bm, 0, none⟩)] (encN (n0 := n0)) (KeepBut sb) (fun vs => vs.Nodup ∧ ∀ v : Fin n0, v ∈ vs ↔ Maps.has D0 (.string (nmL v)) = true) (fun _ => True) (Maps.size D0) w := fun l J Jx W hW hJ _ hY h0 => by
  have hown' : W.ownsMap Try.prog 9 unitElem b nn D0 := by
    have hbl := hown.lt
    obtain ⟨es, clock, hb, Ft, hs, hD⟩ := hown
    exact ⟨es, clock, (hW.block b hbl).trans hb, Ft, hs, hD⟩
  exact keys1_in hn0 n l Bm b nn sb hsb D0 hnm J Jx hY W hJ (Nat.lt_of_lt_of_le hsl hW.size) ((hW.cell (p := ⟨Bm, 0, none⟩) hBm).trans hm) hown' h0
end Go.Proofs.Qxb6609411a
