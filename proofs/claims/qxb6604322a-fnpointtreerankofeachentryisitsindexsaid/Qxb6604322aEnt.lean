/-
  Seat b6604322a: zzTreeEntries (19).
-/
import Derived.Test.Qxb6604322aTree
namespace Go.Proofs.Qxb6604322a
open Go.ChangeShapes Go.WideShapes Go.ChangeAt Go.RowKit
set_option linter.unusedVariables false

/-- the first n numbers of a row. -/
def leafL (x : Nat → Int) : Nat → List Int
  | 0 => []
  | n + 1 => leafL x n ++ [x n]
/-- the entries of the first c leaves. -/
def kidsL (M : Nat → Nat) (Z : Nat → Nat → Int) : Nat → List Int
  | 0 => []
  | c + 1 => kidsL M Z c ++ leafL (Z c) (M c)
/-- the entries under child i. -/
def partL (low : Bool) (N : Nat → Nat) (X : Nat → Nat → Int) (S : Nat → Int) (M : Nat → Nat → Nat) (Z : Nat → Nat → Nat → Int) (i : Nat) : List Int :=
  if low then leafL (X i) (N i) else kidsL (M i) (Z i) (S i).toNat
/-- the entries under the first k children. -/
def entL (low : Bool) (N : Nat → Nat) (X : Nat → Nat → Int) (S : Nat → Int) (M : Nat → Nat → Nat) (Z : Nat → Nat → Nat → Int) : Nat → List Int
  | 0 => []
  | k + 1 => entL low N X S M Z k ++ partL low N X S M Z k

theorem leafL_length (x : Nat → Int) : ∀ n, (leafL x n).length = n
  | 0 => rfl
  | n + 1 => by simp [leafL, leafL_length x n]
theorem kidsL_length (M : Nat → Nat) (Z : Nat → Nat → Int) : ∀ c, (kidsL M Z c).length = sumTo M c
  | 0 => rfl
  | c + 1 => by simp [kidsL, kidsL_length M Z c, leafL_length, sumTo_succ]
theorem partL_le (low : Bool) (N : Nat → Nat) (X : Nat → Nat → Int) (S : Nat → Int) (M : Nat → Nat → Nat) (Z : Nat → Nat → Nat → Int) (i : Nat) (h : low = false → S i ≤ 16) :
    (partL low N X S M Z i).length ≤ N i + sumTo (M i) 16 := by
  unfold partL
  cases low with
  | true => simp [leafL_length]
  | false =>
    simp only [Bool.false_eq_true, if_false, kidsL_length]
    have := sumTo_mono (M i) (n := (S i).toNat) (m := 16) (by have := h rfl; omega)
    omega
theorem entL_le (low : Bool) (N : Nat → Nat) (X : Nat → Nat → Int) (S : Nat → Int) (M : Nat → Nat → Nat) (Z : Nat → Nat → Nat → Int) : ∀ k, (low = false → ∀ i, i < k → S i ≤ 16) → (entL low N X S M Z k).length ≤ totTo N M k
  | 0, _ => Nat.le_refl _
  | k + 1, h => by
    have h1 := entL_le low N X S M Z k (fun h' i hi => h h' i (by omega))
    have h2 := partL_le low N X S M Z k (fun h' => h h' k (by omega))
    rw [totTo_succ]
    simp only [entL, List.length_append]
    omega
theorem totTo_mono (N : Nat → Nat) (M : Nat → Nat → Nat) {k m : Nat} (h : k ≤ m) : totTo N M k ≤ totTo N M m := sumTo_mono _ h

/-- v owns the numbers xs, in memory of the call's own. -/
def Out (W wr : World) (v : Value) (xs : List Int) : Prop :=
  wr.ownsRow W.heap.size 26 1 v xs.length (xs.map (Value.int .u64)) ∧ Below W.heap.size W wr

theorem Out.push {W wr w1 : World} {v v' : Value} {xs : List Int} {x : Int} {o : Obj} (h : Out W wr v xs)
    (hown' : w1.ownsRow W.heap.size 26 1 v' (xs.length + 1) (xs.map (Value.int .u64) ++ [.int .u64 x])) (hgrow : (wr.alloc o).grownBy w1 v.ownBlock) : Out W w1 v' (xs ++ [x]) := by
  refine ⟨by simpa using hown', ?_⟩
  have hs := h.2.size
  exact (h.2.alloc hs o).grown hgrow (by simp; omega) (fun j hj => (h.1.lt j hj).1)

/-- what zzTreeEntries hands back. -/
def EntOut (xs : List Int) (e : Ending) (w' : World) : Prop := ∃ a c, e = .returned (.slice a xs.length c) ∧ IsU w' a xs.length (fun i => xs.getD i 0)

theorem Out.ent {W wr : World} {v : Value} {xs : List Int} (h : Out W wr v xs) : EntOut xs (.returned v) wr := by
  obtain ⟨⟨h1, h2⟩, hb⟩ := h
  rcases h2 with ⟨rfl, h0⟩ | ⟨g, cap, cur, rfl, hg, hblk, hn, hm, hsz, htake⟩
  · exact ⟨none, 0, by rw [h0], .inl h0⟩
  · refine ⟨_, cap, rfl, .inr ⟨g, 0, rfl, (Array.getElem?_eq_some_iff.1 hblk).1, fun i hi => ?_⟩⟩
    rw [cell_of_row wr g (0 + i) cur 26 (0, 0) hblk, Nat.zero_add]
    have e : cur.toList[i]? = (xs.map (Value.int .u64))[i]? := by
      rw [← htake, List.getElem?_take, if_pos (by omega)]
    rw [← Array.getElem?_toList, e, List.getElem?_map, List.getElem?_eq_getElem hi]
    simp [List.getD_eq_getElem?_getD, List.getElem?_eq_getElem hi]

theorem one_new (w : World) (x : Value) (j : Nat) (u : Value) (hj : [x][j]? = some u) (t : TypeId) : (w.alloc (.cells #[x] t)).cell? ((⟨w.heap.size, 0, none⟩ : Addr).add j) = some u := by
  match j, hj with
  | 0, hj => simp at hj; subst hj; simp [Addr.add]

set_option maxHeartbeats 1600000 in
theorem entries_any (low : Bool) (s : Nat) (cs30 cs31 cs33 : Array Value) (N : Nat → Nat) (X : Nat → Nat → Int) (S : Nat → Int) (M : Nat → Nat → Nat) (Z : Nat → Nat → Nat → Int) (w : World) (h30 : Lvs w cs30 N X) (h31 : Ar cs31 16 (fun i => .int .i64 (S i))) (h33 : CLvs w cs33 M Z)
    (hs : s ≤ 16) (hS : low = false → ∀ i, i < s → 0 ≤ S i ∧ S i ≤ 16) (hsm : Small N M) :
    Calls Try.prog 19 #[.int .i64 s, .bool low, .agg cs30, .agg cs31, .agg cs33] w fun e w' => EntOut (entL low N X S M Z s) e w' ∧ Below w.heap.size w w' := by
  obtain ⟨A, C, ⟨hs30, hc30⟩, hu30⟩ := h30
  obtain ⟨hs31, hc31⟩ := h31
  obtain ⟨A', C', ⟨hs33, hc33⟩, hu33⟩ := h33
  obtain ⟨i0, hi, hz0, hz1, hz2⟩ := info_parts info26
  have HE : Hid (∀ k, k ≤ s → (entL low N X S M Z k).length ≤ totTo N M k) := fun k hk => entL_le low N X S M Z k (fun h i hi => (hS h i (by omega)).2)
  go_enter Try.func19, Try.ntmps19
  go_wp2
  have hbel := boxes_below [(cs30, 30), (cs31, 31), (cs33, 33)] w
  have hsz := boxes_size [(cs30, 30), (cs31, 31), (cs33, 33)] w
  have f30 : ∀ i, i < 16 → (boxes w [(cs30, 30), (cs31, 31), (cs33, 33)]).cell? ⟨w.heap.size, i, none⟩ = some (.slice (A i) (N i) (C i)) := fun i hi => boxes_cell _ w 0 rfl rfl (hc30 i hi)
  have f31 : ∀ i, i < 16 → (boxes w [(cs30, 30), (cs31, 31), (cs33, 33)]).cell? ⟨w.heap.size + 1, i, none⟩ = some (.int .i64 (S i)) := fun i hi => boxes_cell _ w 1 rfl rfl (hc31 i hi)
  have f33 : ∀ i j, i < 16 → j < 16 → (boxes w [(cs30, 30), (cs31, 31), (cs33, 33)]).cell? ⟨w.heap.size + 2, i * 16 + j, none⟩ = some (.slice (A' i j) (M i j) (C' i j)) := fun i j hi hj => boxes_cell _ w 2 rfl rfl (hc33 i j hi hj)
  have U30 : Hid (∀ i, i < 16 → IsU (boxes w [(cs30, 30), (cs31, 31), (cs33, 33)]) (A i) (N i) (X i)) := fun i hi => (hu30 i hi).below hbel (Nat.le_refl _)
  have U33 : Hid (∀ i j, i < 16 → j < 16 → IsU (boxes w [(cs30, 30), (cs31, 31), (cs33, 33)]) (A' i j) (M i j) (Z i j)) := fun i j hi hj => (hu33 i j hi hj).below hbel (Nat.le_refl _)
  rw [show ((w.alloc (Obj.cells cs30 30)).alloc (Obj.cells cs31 31)).alloc (Obj.cells cs33 33) = boxes w [(cs30, 30), (cs31, 31), (cs33, 33)] from rfl]
  generalize boxes w [(cs30, 30), (cs31, 31), (cs33, 33)] = W at hbel hsz f30 f31 f33 U30 U33 ⊢
  simp only [List.length_cons, List.length_nil] at hsz
  clear hc30 hc31 hc33 hu30 hu33
  have hszl : w.heap.size + 3 ≤ W.heap.size := by omega
  clear hsz
  have F30 : Hid (∀ i, i < 16 → W.cell? ⟨w.heap.size, i, none⟩ = some (.slice (A i) (N i) (C i))) := f30
  have F31 : Hid (∀ i, i < 16 → W.cell? ⟨w.heap.size + 1, i, none⟩ = some (.int .i64 (S i))) := f31
  have F33 : Hid (∀ i j, i < 16 → j < 16 → W.cell? ⟨w.heap.size + 2, i * 16 + j, none⟩ = some (.slice (A' i j) (M i j) (C' i j))) := f33
  clear f30 f31 f33
  have HSM : Hid (totTo N M 16 ≤ 131072) := hsm
  clear hsm
  go_loopw [11, 12] (fun v i wr => ∃ k : Nat, k ≤ s ∧ i = .int .i64 k ∧ Out W wr v (entL low N X S M Z k)) (fun _ i _ => 16 - (intOf i).toNat)
  case atStart => exact ⟨0, by omega, rfl, World.ownsRow_nil _ _ _ _, Below.refl _ _⟩
  case round =>
    obtain ⟨k, hk, rfl, hout⟩ := hrel
    by_cases hlt : k < s
    · have hk16 : k < 16 := by omega
      have ht1 := totTo_mono N M (k := k + 1) (m := 16) (by omega)
      have ht2 := HE.out k hk
      have ht3 := totTo_succ N M k
      have ht4 := HSM.out
      have HB : Hid ((entL low N X S M Z k).length + N k + sumTo (M k) 16 ≤ 131072) := by unfold Hid; omega
      clear ht1 ht2 ht3 ht4
      cases low with
      | true =>
        go_wp2
        go_loopw [11, 13] (fun v j wr => ∃ q : Nat, q ≤ N k ∧ j = .int .i64 q ∧ Out W wr v (entL true N X S M Z k ++ leafL (X k) q)) (fun _ j _ => N k - (intOf j).toNat)
        case atStart => exact ⟨0, by omega, rfl, by rw [show leafL (X k) 0 = [] from rfl, List.append_nil]; exact hout⟩
        case round =>
          obtain ⟨q, hq, rfl, hout⟩ := hrel
          have hcw : ∀ p : Addr, p.block < W.heap.size → wr.cell? p = W.cell? p := fun p hp => hout.2.cell hp
          have hc : wr.cell? ⟨w.heap.size, k, none⟩ = some (.slice (A k) (N k) (C k)) := (hcw ⟨w.heap.size, k, none⟩ (show w.heap.size < W.heap.size by omega)).trans (F30.out k hk16)
          have hnk : N k ≤ 131072 := by have := HB.out; omega
          by_cases hlt2 : q < N k
          · obtain hu | ⟨b, off, ha, hb, hcx⟩ := U30.out k hk16
            · omega
            rw [ha] at hc
            have hx : wr.cell? ⟨b, off + q, none⟩ = some (.int .u64 (X k q)) := (hcw ⟨b, off + q, none⟩ hb).trans (hcx q hlt2)
            have hlen : (entL true N X S M Z k ++ leafL (X k) q).length + 1 ≤ 131073 := by
              have := HB.out
              rw [List.length_append, leafL_length]
              omega
            clear hcw hcx ha
            generalize hxs : entL true N X S M Z k ++ leafL (X k) q = xs at hout hlen
            have HXS : Hid (entL true N X S M Z k ++ leafL (X k) q = xs) := hxs
            clear hxs
            have hown := hout.1
            have hwr := hout.2.size
            have HOUT : Hid (Out W wr _ xs) := hout
            clear hout
            go_wp2_with (at_builtin; refine wpList_append_own _ rfl _ _ 29 rfl W.heap.size 26 i0 (.int .u64 0) 1 8 Try.underlying29 hi hz0 hz1 hz2 rfl (by decide) _ _ _ rfl (hown.alloc _) ⟨wr.heap.size, 0, none⟩ 1 1 [.int .u64 (X k q)] rfl rfl (fun j u hj => one_new _ _ j u hj _) (by intro u hu; simp at hu; subst hu; rfl) (by unfold maxLen; omega) (by omega) (by simp; omega) ?_; intro v' w1 hown' hgrow hnil)
            have R := HOUT.out.push hown' hgrow
            rw [← HXS.out, List.append_assoc] at R
            clear hown' hgrow hown hnil hc hx HOUT
            go_wp2
            go_roundw
            case rel => exact ⟨q + 1, by omega, by go_num, R⟩
            case measure => simp [intOf]; omega
          · have e : q = N k := by omega
            have HO : Hid (Out W wr u11 (entL true N X S M Z (k + 1))) := by
              have h := hout
              rw [e] at h
              exact h
            clear hout hcw
            go_wp2
            go_roundw
            case rel => exact ⟨k + 1, by omega, by go_num, HO.out⟩
            case measure => simp [intOf]; omega
      | false =>
        obtain ⟨c, hcS⟩ : ∃ c : Nat, S k = c := ⟨(S k).toNat, by have := hS rfl k hlt; omega⟩
        have hc16 : c ≤ 16 := by have := hS rfl k hlt; omega
        have HCS : Hid (S k = c) := hcS
        clear hcS
        go_wp2
        go_loopw [11, 14] (fun v j wr => ∃ q : Nat, q ≤ c ∧ j = .int .i64 q ∧ Out W wr v (entL false N X S M Z k ++ kidsL (M k) (Z k) q)) (fun _ j _ => 16 - (intOf j).toNat)
        case atStart => exact ⟨0, by omega, rfl, by rw [show kidsL (M k) (Z k) 0 = [] from rfl, List.append_nil]; exact hout⟩
        case round =>
          obtain ⟨q, hq, rfl, hout⟩ := hrel
          have hc31 : wr.cell? ⟨w.heap.size + 1, k, none⟩ = some (.int .i64 (c : Int)) := by
            have := (hout.2.cell (p := ⟨w.heap.size + 1, k, none⟩) (show w.heap.size + 1 < W.heap.size by omega)).trans (F31.out k hk16)
            rwa [HCS.out] at this
          by_cases hlt2 : q < c
          · have hq16 : q < 16 := by omega
            have hsq := sumTo_mono (M k) (n := q + 1) (m := 16) (by omega)
            have hss := sumTo_succ (M k) q
            have HB2 : Hid ((entL false N X S M Z k).length + sumTo (M k) q + M k q ≤ 131072) := by
              have := HB.out
              unfold Hid
              omega
            clear hsq hss
            go_wp2
            go_loopw [11, 15] (fun v j wr => ∃ r : Nat, r ≤ M k q ∧ j = .int .i64 r ∧ Out W wr v (entL false N X S M Z k ++ kidsL (M k) (Z k) q ++ leafL (Z k q) r)) (fun _ j _ => M k q - (intOf j).toNat)
            case atStart => exact ⟨0, by omega, rfl, by rw [show leafL (Z k q) 0 = [] from rfl, List.append_nil]; exact hout⟩
            case round =>
              clear hc31
              obtain ⟨r, hr, rfl, hout⟩ := hrel
              have hcw : ∀ p : Addr, p.block < W.heap.size → wr.cell? p = W.cell? p := fun p hp => hout.2.cell hp
              have hc : wr.cell? ⟨w.heap.size + 2, k * 16 + q, none⟩ = some (.slice (A' k q) (M k q) (C' k q)) := (hcw ⟨w.heap.size + 2, k * 16 + q, none⟩ (show w.heap.size + 2 < W.heap.size by omega)).trans (F33.out k q hk16 hq16)
              have hnk : M k q ≤ 131072 := by have := HB2.out; omega
              by_cases hlt3 : r < M k q
              · obtain hu | ⟨b, off, ha, hb, hcx⟩ := U33.out k q hk16 hq16
                · omega
                rw [ha] at hc
                have hx : wr.cell? ⟨b, off + r, none⟩ = some (.int .u64 (Z k q r)) := (hcw ⟨b, off + r, none⟩ hb).trans (hcx r hlt3)
                have hlen : (entL false N X S M Z k ++ kidsL (M k) (Z k) q ++ leafL (Z k q) r).length + 1 ≤ 131073 := by
                  have := HB2.out
                  rw [List.length_append, List.length_append, leafL_length, kidsL_length]
                  omega
                clear hcw hcx ha
                generalize hxs : entL false N X S M Z k ++ kidsL (M k) (Z k) q ++ leafL (Z k q) r = xs at hout hlen
                have HXS : Hid (entL false N X S M Z k ++ kidsL (M k) (Z k) q ++ leafL (Z k q) r = xs) := hxs
                clear hxs
                have hown := hout.1
                have hwr := hout.2.size
                have HOUT : Hid (Out W wr _ xs) := hout
                clear hout
                go_wp2_with (at_builtin; refine wpList_append_own _ rfl _ _ 29 rfl W.heap.size 26 i0 (.int .u64 0) 1 8 Try.underlying29 hi hz0 hz1 hz2 rfl (by decide) _ _ _ rfl (hown.alloc _) ⟨wr.heap.size, 0, none⟩ 1 1 [.int .u64 (Z k q r)] rfl rfl (fun j u hj => one_new _ _ j u hj _) (by intro u hu; simp at hu; subst hu; rfl) (by unfold maxLen; omega) (by omega) (by simp; omega) ?_; intro v' w1 hown' hgrow hnil)
                have R := HOUT.out.push hown' hgrow
                rw [← HXS.out, List.append_assoc _ (leafL (Z k q) r)] at R
                clear hown' hgrow hown hnil hc hx HOUT
                go_wp2
                go_roundw
                case rel => exact ⟨r + 1, by omega, by go_num, R⟩
                case measure => simp [intOf]; omega
              · have e : r = M k q := by omega
                have HO : Hid (Out W wr u11 (entL false N X S M Z k ++ kidsL (M k) (Z k) (q + 1))) := by
                  have h := hout
                  rw [e, List.append_assoc] at h
                  exact h
                clear hout hcw
                go_wp2
                go_roundw
                case rel => exact ⟨q + 1, by omega, by go_num, HO.out⟩
                case measure => simp [intOf]; omega
          · have e : q = c := by omega
            have HO : Hid (Out W wr u11 (entL false N X S M Z (k + 1))) := by
              have h := hout
              rw [e] at h
              unfold Hid
              show Out W wr u11 (entL false N X S M Z k ++ partL false N X S M Z k)
              rw [show partL false N X S M Z k = kidsL (M k) (Z k) c from by unfold partL; rw [if_neg (by simp), HCS.out, Int.toNat_natCast]]
              exact h
            clear hout
            go_wp2
            go_roundw
            case rel => exact ⟨k + 1, by omega, by go_num, HO.out⟩
            case measure => simp [intOf]; omega
    · have e : k = s := by omega
      subst e
      have HO := hout.ent
      have hbl := hbel.trans (hout.2.mono hbel.size)
      clear hout
      go_wp2
      go_ret
      exact ⟨HO, hbl⟩
end Go.Proofs.Qxb6604322a
