/-
  Seat b6604322a: (*treeNode).search (38), (pointTree).rank (36).
-/
import Derived.Test.Qxb6604322aClone
namespace Go.Proofs.Qxb6604322a
open Go.ChangeShapes Go.WideShapes Go.ChangeAt Go.RowKit
set_option linter.unusedVariables false

theorem ret_int {k : IntKind} {a b : Int} (h : a = b) : Ending.returned (.int k a) = .returned (.int k b) := by rw [h]

/-- A treeNode in block b: s children; lowest or not; last; counts; leaves; children. -/
structure NodeAt (w : World) (b : Nat) (s : Nat) (low : Bool) (L K : Nat → Int) (A : Nat → Option Addr) (N C : Nat → Nat) (kid : Nat → Option Addr) : Prop where
  size : w.cell? ⟨b, 0, none⟩ = some (.int .i64 s)
  lowest : w.cell? ⟨b, 1, none⟩ = some (.bool low)
  last : ∀ i, i < 16 → w.cell? ⟨b, 2 + i, none⟩ = some (.int .u64 (L i))
  counts : ∀ i, i < 16 → w.cell? ⟨b, 18 + i, none⟩ = some (.int .i32 (K i))
  leaves : ∀ i, i < 16 → w.cell? ⟨b, 34 + i, none⟩ = some (.slice (A i) (N i) (C i))
  kids : ∀ i, i < 16 → w.cell? ⟨b, 50 + i, none⟩ = some (.pointer (kid i))

theorem NodeAt.below {w w' : World} {b s : Nat} {low : Bool} {L K : Nat → Int} {A : Nat → Option Addr} {N C : Nat → Nat} {kid : Nat → Option Addr} (h : NodeAt w b s low L K A N C kid) (hb : Below w.heap.size w w') (hlt : b < w.heap.size) : NodeAt w' b s low L K A N C kid :=
  ⟨(hb.cell (p := ⟨b, 0, none⟩) hlt).trans h.size, (hb.cell (p := ⟨b, 1, none⟩) hlt).trans h.lowest, fun i hi => (hb.cell (p := ⟨b, 2 + i, none⟩) hlt).trans (h.last i hi),
    fun i hi => (hb.cell (p := ⟨b, 18 + i, none⟩) hlt).trans (h.counts i hi), fun i hi => (hb.cell (p := ⟨b, 34 + i, none⟩) hlt).trans (h.leaves i hi), fun i hi => (hb.cell (p := ⟨b, 50 + i, none⟩) hlt).trans (h.kids i hi)⟩

theorem search_any (b s : Nat) (L : Nat → Int) (w : World) (x : Int) (hb : b < w.heap.size) (h0 : w.cell? ⟨b, 0, none⟩ = some (.int .i64 s)) (hL : ∀ i, i < 16 → w.cell? ⟨b, 2 + i, none⟩ = some (.int .u64 (L i)))
    (hs : s ≤ 16) (hsort : ∀ i j, i ≤ j → j < s → L i ≤ L j) :
    Calls Try.prog 38 #[.pointer (some ⟨b, 0, none⟩), .int .u64 x] w fun e w' => e = .returned (.int .i64 (lbF L x s)) ∧ ∃ m, w' = w.drewN m := by
  have i0 : (0 : Int) ≤ (s : Int) := by omega
  have i1 : (s : Int) ≤ 16 := by omega
  have hU : ∀ m, IsU (w.drewN m) (some ⟨b, 2, none⟩) s L := fun m => IsU.drewN (.inr ⟨b, 2, rfl, hb, fun i hi => hL i (by omega)⟩) m
  clear hL
  go_enter Try.func38, Try.ntmps38
  go_wp2
  go_quiet ((go_at_call 39; refine Calls.quiet_of_same (bsearch_fn _ _ _ L _ (hU _) (by omega) hsort _)))
  go_wp2
  go_ret
  exact ⟨rfl, _, rfl⟩

/-- the rank in a lowest node. -/
def rankLow (s : Nat) (L : Nat → Int) (N : Nat → Nat) (X : Nat → Nat → Int) (x : Int) : Nat :=
  sumTo N (lbF L x s) + if lbF L x s < s then lbF (X (lbF L x s)) x (N (lbF L x s)) else 0

/-- what is asked of a lowest node. -/
structure LowOk (w : World) (b s : Nat) (L : Nat → Int) (N : Nat → Nat) (X : Nat → Nat → Int) : Prop where
  node : ∃ K A C kid, NodeAt w b s true L K A N C kid ∧ ∀ i, i < s → IsU w (A i) (N i) (X i)
  blk : b < w.heap.size
  le : s ≤ 16
  sort : ∀ i j, i ≤ j → j < s → L i ≤ L j
  sorts : ∀ i, i < s → ∀ p q, p ≤ q → q < N i → X i p ≤ X i q
  small : sumTo N 16 ≤ 131072

set_option maxHeartbeats 800000 in
theorem rank_low (b s : Nat) (L : Nat → Int) (N : Nat → Nat) (X : Nat → Nat → Int) (w : World) (x cnt : Int) (h : LowOk w b s L N X) :
    Calls Try.prog 36 #[.agg #[.pointer (some ⟨b, 0, none⟩), .int .i64 cnt], .int .u64 x] w fun e w' => e = .returned (.int .i64 (rankLow s L N X x)) ∧ Below w.heap.size w w' := by
  obtain ⟨⟨K, A, C, kid, hnode, hu⟩, hb, hs, hsort, hsorts, hsm⟩ := h
  have hne : ∀ w : World, (binOp .neq 62 (.pointer (some ⟨b, 0, none⟩)) (.pointer none)).run Try.prog w = .ok (.bool true) w := fun w => by kernel_rfl
  go_enter Try.func36, Try.ntmps36
  go_wp2
  have hbel : Below w.heap.size w (w.alloc (Obj.cells #[Value.pointer (some { block := b, off := 0 }), Value.int IntKind.i64 cnt] 67)) := (Below.refl _ _).alloc (Nat.le_refl _) _
  have hnode' := hnode.below hbel hb
  have hu' : Hid (∀ i, i < s → IsU (w.alloc (Obj.cells #[Value.pointer (some { block := b, off := 0 }), Value.int IntKind.i64 cnt] 67)) (A i) (N i) (X i)) := fun i hi => (hu i hi).below hbel (Nat.le_refl _)
  have hb' : b < (w.alloc (Obj.cells #[Value.pointer (some { block := b, off := 0 }), Value.int IntKind.i64 cnt] 67)).heap.size := Nat.lt_of_lt_of_le hb hbel.size
  generalize w.alloc (Obj.cells #[Value.pointer (some { block := b, off := 0 }), Value.int IntKind.i64 cnt] 67) = W at hbel hnode' hu' hb' ⊢
  clear hnode hu
  obtain ⟨n0, n1, n2, n3, n4, n5⟩ := hnode'
  have N4 : Hid (∀ i, i < 16 → W.cell? ⟨b, 34 + i, none⟩ = some (.slice (A i) (N i) (C i))) := n4
  have HSS : Hid (∀ i, i < s → ∀ p q, p ≤ q → q < N i → X i p ≤ X i q) := hsorts
  clear n3 n4 n5 hsorts
  refine wp_loop_rounds 1 ?_
  rw [rounds_succ]
  go_wp2_with fail
  refine (search_any b s L _ x hb' n0 n2 hs hsort).mono ?_
  rintro e w' ⟨rfl, m, rfl⟩
  clear n2 hsort
  have hil := lbF_le L x s
  have HR : Hid (rankLow s L N X x = sumTo N (lbF L x s) + if lbF L x s < s then lbF (X (lbF L x s)) x (N (lbF L x s)) else 0) := rfl
  generalize lbF L x s = i at hil HR ⊢
  have i0 : (0 : Int) ≤ (i : Int) := by omega
  have i1 : (i : Int) ≤ 16 := by omega
  go_wp2
  have hsi := sumTo_mono N (n := i) (m := 16) (by omega)
  go_loop [5, 31] (fun r j => ∃ q : Nat, q ≤ i ∧ j = .int .i64 q ∧ r = .int .i64 (sumTo N q)) (fun _ j => 16 - (intOf j).toNat)
  case atStart => exact ⟨0, by omega, rfl, rfl⟩
  case round =>
    obtain ⟨q, hq, rfl, rfl⟩ := hrel
    have hsq := sumTo_mono N (n := q) (m := i) hq
    by_cases hlt : q < i
    · have hc := N4.out q (by omega)
      have hnq := sumTo_ge N (n := 16) (i := q) (by omega)
      go_wp2
      go_round
      case rel => exact ⟨q + 1, by omega, by go_num, by rw [sumTo_succ]; go_num⟩
      case measure => simp [intOf]; omega
    · have e : q = i := by omega
      subst e
      by_cases hlt2 : q < s
      · have hc := N4.out q (by omega)
        have hnq := sumTo_ge N (n := 16) (i := q) (by omega)
        have huq := (hu'.out q hlt2).drewN m
        have hlb := lbF_le (X q) x (N q)
        go_wp2_with fail
        refine (bsearch_fn _ _ _ (X q) _ huq (by omega) (HSS.out q hlt2) _).mono ?_
        rintro e w' ⟨rfl, rfl⟩
        go_wp2
        go_ret
        exact ⟨by rw [HR.out, if_pos hlt2]; exact ret_int (by omega), below_drewN hbel _⟩
      · go_wp2
        go_ret
        exact ⟨by rw [HR.out, if_neg hlt2]; rfl, below_drewN hbel _⟩

/-- the rank in a root above lowest nodes. -/
def rankTwo (s : Nat) (L : Nat → Int) (Kn c : Nat → Nat) (T : Nat → Nat → Int) (M : Nat → Nat → Nat) (Z : Nat → Nat → Nat → Int) (x : Int) : Nat :=
  sumTo Kn (lbF L x s) + if lbF L x s < s then rankLow (c (lbF L x s)) (T (lbF L x s)) (M (lbF L x s)) (Z (lbF L x s)) x else 0

/-- what is asked of a root above lowest nodes. -/
structure TwoOk (w : World) (b s : Nat) (L : Nat → Int) (Kn c : Nat → Nat) (T : Nat → Nat → Int) (M : Nat → Nat → Nat) (Z : Nat → Nat → Nat → Int) : Prop where
  node : ∃ K A N C kid, NodeAt w b s false L K A N C kid ∧ ∀ i, i < s → K i = (Kn i : Int) ∧ ∃ kb, kid i = some ⟨kb, 0, none⟩ ∧ LowOk w kb (c i) (T i) (M i) (Z i)
  blk : b < w.heap.size
  le : s ≤ 16
  sort : ∀ i j, i ≤ j → j < s → L i ≤ L j
  small : sumTo Kn s ≤ 131072

theorem LowOk.below {w w' : World} {b s : Nat} {L : Nat → Int} {N : Nat → Nat} {X : Nat → Nat → Int} (h : LowOk w b s L N X) (hb : Below w.heap.size w w') : LowOk w' b s L N X := by
  obtain ⟨⟨K, A, C, kid, hnode, hu⟩, hlt, hs, hsort, hsorts, hsm⟩ := h
  exact ⟨⟨K, A, C, kid, hnode.below hb hlt, fun i hi => (hu i hi).below hb (Nat.le_refl _)⟩, Nat.lt_of_lt_of_le hlt hb.size, hs, hsort, hsorts, hsm⟩
theorem rankLow_le (s : Nat) (L : Nat → Int) (N : Nat → Nat) (X : Nat → Nat → Int) (x : Int) (hs : s ≤ 16) (hsm : sumTo N 16 ≤ 131072) : rankLow s L N X x ≤ 131072 := by
  unfold rankLow
  have h1 := lbF_le L x s
  by_cases h : lbF L x s < s
  · rw [if_pos h]
    have h2 := lbF_le (X (lbF L x s)) x (N (lbF L x s))
    have h3 := sumTo_mono N (n := lbF L x s + 1) (m := 16) (by omega)
    rw [sumTo_succ] at h3
    omega
  · rw [if_neg h]
    have h3 := sumTo_mono N (n := lbF L x s) (m := 16) (by omega)
    omega

set_option maxHeartbeats 1600000 in
theorem rank_two (b s : Nat) (L : Nat → Int) (Kn c : Nat → Nat) (T : Nat → Nat → Int) (M : Nat → Nat → Nat) (Z : Nat → Nat → Nat → Int) (w : World) (x cnt : Int) (h : TwoOk w b s L Kn c T M Z) :
    Calls Try.prog 36 #[.agg #[.pointer (some ⟨b, 0, none⟩), .int .i64 cnt], .int .u64 x] w fun e w' => e = .returned (.int .i64 (rankTwo s L Kn c T M Z x)) ∧ Below w.heap.size w w' := by
  obtain ⟨⟨K, A, N, C, kid, hnode, hk⟩, hb, hs, hsort, hsm⟩ := h
  have hne : ∀ (b : Nat) (w : World), (binOp .neq 62 (.pointer (some ⟨b, 0, none⟩)) (.pointer none)).run Try.prog w = .ok (.bool true) w := fun b w => by kernel_rfl
  go_enter Try.func36, Try.ntmps36
  go_wp2
  have hbel : Below w.heap.size w (w.alloc (Obj.cells #[Value.pointer (some { block := b, off := 0 }), Value.int IntKind.i64 cnt] 67)) := (Below.refl _ _).alloc (Nat.le_refl _) _
  have hnode' := hnode.below hbel hb
  have hk' : Hid (∀ i, i < s → K i = (Kn i : Int) ∧ ∃ kb, kid i = some ⟨kb, 0, none⟩ ∧ LowOk (w.alloc (Obj.cells #[Value.pointer (some { block := b, off := 0 }), Value.int IntKind.i64 cnt] 67)) kb (c i) (T i) (M i) (Z i)) :=
    fun i hi => ⟨(hk i hi).1, (hk i hi).2.elim fun kb h => ⟨kb, h.1, h.2.below hbel⟩⟩
  have hb' : b < (w.alloc (Obj.cells #[Value.pointer (some { block := b, off := 0 }), Value.int IntKind.i64 cnt] 67)).heap.size := Nat.lt_of_lt_of_le hb hbel.size
  generalize w.alloc (Obj.cells #[Value.pointer (some { block := b, off := 0 }), Value.int IntKind.i64 cnt] 67) = W at hbel hnode' hk' hb' ⊢
  clear hnode hk
  obtain ⟨n0, n1, n2, n3, n4, n5⟩ := hnode'
  have N3 : Hid (∀ i, i < 16 → W.cell? ⟨b, 18 + i, none⟩ = some (.int .i32 (K i))) := n3
  have N5 : Hid (∀ i, i < 16 → W.cell? ⟨b, 50 + i, none⟩ = some (.pointer (kid i))) := n5
  clear n3 n4 n5
  refine wp_loop_rounds 2 ?_
  rw [rounds_succ]
  go_wp2_with fail
  refine (search_any b s L _ x hb' n0 n2 hs hsort).mono ?_
  rintro e w' ⟨rfl, m, rfl⟩
  clear n2 hsort
  have hil := lbF_le L x s
  have HR : Hid (rankTwo s L Kn c T M Z x = sumTo Kn (lbF L x s) + if lbF L x s < s then rankLow (c (lbF L x s)) (T (lbF L x s)) (M (lbF L x s)) (Z (lbF L x s)) x else 0) := rfl
  generalize lbF L x s = i at hil HR ⊢
  have i0 : (0 : Int) ≤ (i : Int) := by omega
  have i1 : (i : Int) ≤ 16 := by omega
  go_wp2
  have hsi := sumTo_mono Kn (n := i) (m := s) (by omega)
  go_loop [5, 67] (fun r j => ∃ q : Nat, q ≤ i ∧ j = .int .i64 q ∧ r = .int .i64 (sumTo Kn q)) (fun _ j => 16 - (intOf j).toNat)
  case atStart => exact ⟨0, by omega, rfl, rfl⟩
  case round =>
    obtain ⟨q, hq, rfl, rfl⟩ := hrel
    have hsq := sumTo_mono Kn (n := q) (m := i) hq
    by_cases hlt : q < i
    · have hc := N3.out q (by omega)
      rw [(hk'.out q (by omega)).1] at hc
      have hnq := sumTo_ge Kn (n := s) (i := q) (by omega)
      go_wp2
      go_round
      case rel => exact ⟨q + 1, by omega, by go_num, by rw [sumTo_succ]; go_num⟩
      case measure => simp [intOf]; omega
    · have e : q = i := by omega
      subst e
      by_cases hlt2 : q < s
      · obtain ⟨_, kb, hkid, hlow⟩ := hk'.out q hlt2
        have hcc := N5.out q (by omega)
        rw [hkid] at hcc
        have hqs : ((q : Int) == (s : Int)) = false := by rw [beq_eq_false_iff_ne]; omega
        have HR' : Hid (rankTwo s L Kn c T M Z x = sumTo Kn q + rankLow (c q) (T q) (M q) (Z q) x) := by
          have := HR.out
          rw [if_pos hlt2] at this
          exact this
        have hlast := rankLow_le (c q) (T q) (M q) (Z q) x hlow.le hlow.small
        clear HR hkid
        generalize sumTo Kn q = r0 at hsq hsi HR' ⊢
        obtain ⟨⟨K2, A2, C2, kid2, hnode2, hu2⟩, hb2, hs2, hsort2, hsorts2, hsm2⟩ := hlow
        obtain ⟨m0, m1, m2, m3, m4, m5⟩ := hnode2
        have M4 : Hid (∀ i, i < 16 → W.cell? ⟨kb, 34 + i, none⟩ = some (.slice (A2 i) (M q i) (C2 i))) := m4
        have HSS : Hid (∀ i, i < c q → ∀ p r, p ≤ r → r < M q i → Z q i p ≤ Z q i r) := hsorts2
        have HU2 : Hid (∀ i, i < c q → IsU W (A2 i) (M q i) (Z q i)) := hu2
        clear m3 m4 m5 hsorts2 hu2
        go_wp2_with fail
        have hr0 : r0 ≤ 131072 := by omega
        clear i0 i1 hil hqs hsq hsi n0 n1 hcc
        rw [rounds_succ]
        go_wp2_with fail
        refine (search_any kb (c q) (T q) (W.drewN m) x (by exact hb2) (by exact m0) (by exact m2) hs2 hsort2).mono ?_
        rintro e w' ⟨rfl, m', rfl⟩
        clear m2 hsort2
        have hil := lbF_le (T q) x (c q)
        have HR2 : Hid (rankLow (c q) (T q) (M q) (Z q) x = sumTo (M q) (lbF (T q) x (c q)) + if lbF (T q) x (c q) < c q then lbF (Z q (lbF (T q) x (c q))) x (M q (lbF (T q) x (c q))) else 0) := rfl
        generalize lbF (T q) x (c q) = i at hil HR2 ⊢
        have i0 : (0 : Int) ≤ (i : Int) := by omega
        have i1 : (i : Int) ≤ 16 := by omega
        go_wp2
        have hsi := sumTo_mono (M q) (n := i) (m := 16) (by omega)
        go_loop [5, 31] (fun r j => ∃ p : Nat, p ≤ i ∧ j = .int .i64 p ∧ r = .int .i64 ((r0 + sumTo (M q) p : Nat) : Int)) (fun _ j => 16 - (intOf j).toNat)
        case atStart => exact ⟨0, by omega, rfl, rfl⟩
        case round =>
          obtain ⟨p, hp, rfl, rfl⟩ := hrel
          have hsq := sumTo_mono (M q) (n := p) (m := i) hp
          by_cases hlt3 : p < i
          · have hc := M4.out p (by omega)
            have hnq := sumTo_ge (M q) (n := 16) (i := p) (by omega)
            go_wp2
            go_round
            case rel => exact ⟨p + 1, by omega, by go_num, by rw [sumTo_succ]; go_num⟩
            case measure => simp [intOf]; omega
          · have e : p = i := by omega
            subst e
            by_cases hlt4 : p < c q
            · have hc := M4.out p (by omega)
              have hnq := sumTo_ge (M q) (n := 16) (i := p) (by omega)
              have huq := (HU2.out p hlt4).drewN (m + m')
              have hlb := lbF_le (Z q p) x (M q p)
              go_wp2_with fail
              refine (bsearch_fn _ _ _ (Z q p) _ (by exact huq) (by omega) (HSS.out p hlt4) _).mono ?_
              rintro e w' ⟨rfl, rfl⟩
              go_wp2
              go_ret
              exact ⟨by rw [HR'.out, HR2.out, if_pos hlt4]; exact ret_int (by omega), by first | exact below_drewN hbel _ | exact below_drewN (below_drewN hbel _) _⟩
            · go_wp2
              go_ret
              exact ⟨by rw [HR'.out, HR2.out, if_neg hlt4]; rfl, by first | exact below_drewN hbel _ | exact below_drewN (below_drewN hbel _) _⟩
      · have e : q = s := by omega
        subst e
        go_wp2
        go_ret
        exact ⟨by rw [HR.out, if_neg hlt2]; rfl, below_drewN hbel _⟩
end Go.Proofs.Qxb6604322a
