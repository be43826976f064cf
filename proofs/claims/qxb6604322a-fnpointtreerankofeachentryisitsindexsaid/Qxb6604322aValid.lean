/-
  Seat b6604322a: zzTreeValid (16), strict.
-/
import Derived.Test.Qxb6604322aEnt
namespace Go.Proofs.Qxb6604322a
open Go.ChangeShapes Go.WideShapes Go.ChangeAt Go.RowKit
set_option linter.unusedVariables false

/-- zzLeafFits. -/
def fitsB (X : Nat → Int) (n : Nat) (y : Int) : Bool := decide (0 < n) && (X (n - 1) == y)
theorem fits_B (a : Option Addr) (n c : Nat) (X : Nat → Int) (w : World) (h : IsU w a n X) (hn : n ≤ 131072) (y : Int) :
    Calls Try.prog 34 #[.slice a n c, .int .u64 y] w fun e w' => e = .returned (.bool (fitsB X n y)) ∧ w' = w := fits_any a n c X w h hn y
theorem fitsB_true {X : Nat → Int} {n : Nat} {y : Int} (h : fitsB X n y = true) : 0 < n ∧ X (n - 1) = y := by
  simpa [fitsB] using h

/-- child i is as the tree's type documents. -/
def VldAt (low : Bool) (L K : Nat → Int) (N : Nat → Nat) (X : Nat → Nat → Int) (S : Nat → Int) (T : Nat → Nat → Int) (M : Nat → Nat → Nat) (Z : Nat → Nat → Nat → Int) (i : Nat) : Prop :=
  if low then 0 < N i ∧ X i (N i - 1) = L i
  else 1 ≤ S i ∧ S i ≤ 16 ∧ (∀ j, j < (S i).toNat → 0 < M i j ∧ Z i j (M i j - 1) = T i j) ∧ T i ((S i).toNat - 1) = L i ∧ K i = sumTo (M i) (S i).toNat
/-- the tree is valid, its entries a set. -/
def Vld (low : Bool) (sz : Int) (L K : Nat → Int) (N : Nat → Nat) (X : Nat → Nat → Int) (S : Nat → Int) (T : Nat → Nat → Int) (M : Nat → Nat → Nat) (Z : Nat → Nat → Nat → Int) : Prop :=
  ∃ s : Nat, sz = s ∧ s ≤ 16 ∧ (∀ i, i < s → VldAt low L K N X S T M Z i) ∧ Asc (fun i => (entL low N X S M Z s).getD i 0) (entL low N X S M Z s).length

theorem quiet_same {P : Program} {f : FuncId} {args : Array Value} {w : World} {m n : Nat} {v : Value}
    (h : Calls P f args (w.drewN (m + n)) fun e w' => e = .returned v ∧ w' = w.drewN (m + n)) : Calls P f args (w.drewN (m + n)) fun e w'' => e = .returned v ∧ ∃ k, w'' = w.drewN (m + k) :=
  h.mono fun _ _ ⟨he, hm⟩ => ⟨he, n, hm⟩

theorem size_of {ty n : Nat} {cs : Array Value} (hi : (Try.prog.info? ty).map (·.size) = some n) (hs : cs.size = n) : (Try.prog.info? ty).map (·.size) = some cs.size := by rw [hs]; exact hi
theorem info27 : (Try.prog.info? 27).map (·.size) = some 16 := by kernel_rfl
theorem info28 : (Try.prog.info? 28).map (·.size) = some 16 := by kernel_rfl
theorem info30 : (Try.prog.info? 30).map (·.size) = some 16 := by kernel_rfl
theorem info31 : (Try.prog.info? 31).map (·.size) = some 16 := by kernel_rfl
theorem info32 : (Try.prog.info? 32).map (·.size) = some 256 := by kernel_rfl
theorem info33 : (Try.prog.info? 33).map (·.size) = some 256 := by kernel_rfl

theorem Lvs.drewN {w : World} {cs : Array Value} {N : Nat → Nat} {X : Nat → Nat → Int} (h : Lvs w cs N X) (m : Nat) : Lvs (w.drewN m) cs N X :=
  let ⟨A, C, h1, h2⟩ := h
  ⟨A, C, h1, fun i hi => (h2 i hi).drewN m⟩
theorem CLvs.drewN {w : World} {cs : Array Value} {M : Nat → Nat → Nat} {Z : Nat → Nat → Nat → Int} (h : CLvs w cs M Z) (m : Nat) : CLvs (w.drewN m) cs M Z :=
  let ⟨A, C, h1, h2⟩ := h
  ⟨A, C, h1, fun i j hi hj => (h2 i j hi hj).drewN m⟩

theorem small_N {N : Nat → Nat} {M : Nat → Nat → Nat} (h : Small N M) (i : Nat) (hi : i < 16) : N i ≤ 131072 := by
  have h1 : N i + sumTo (M i) 16 ≤ sumTo (fun i => N i + sumTo (M i) 16) 16 := sumTo_ge (fun i => N i + sumTo (M i) 16) hi
  have h2 : totTo N M 16 ≤ 131072 := h
  unfold totTo at h2
  omega
theorem small_sum {N : Nat → Nat} {M : Nat → Nat → Nat} (h : Small N M) (i : Nat) (hi : i < 16) : sumTo (M i) 16 ≤ 131072 := by
  have h1 : N i + sumTo (M i) 16 ≤ sumTo (fun i => N i + sumTo (M i) 16) 16 := sumTo_ge (fun i => N i + sumTo (M i) 16) hi
  have h2 : totTo N M 16 ≤ 131072 := h
  unfold totTo at h2
  omega
theorem small_M {N : Nat → Nat} {M : Nat → Nat → Nat} (h : Small N M) (i j : Nat) (hi : i < 16) (hj : j < 16) : M i j ≤ 131072 :=
  Nat.le_trans (sumTo_ge (M i) hj) (small_sum h i hi)

set_option maxHeartbeats 1600000 in
set_option maxRecDepth 100000 in
theorem valid_any (low : Bool) (sz : Int) (cs27 cs28 cs30 cs31 cs32 cs33 : Array Value) (L K : Nat → Int) (N : Nat → Nat) (X : Nat → Nat → Int) (S : Nat → Int) (T : Nat → Nat → Int) (M : Nat → Nat → Nat) (Z : Nat → Nat → Nat → Int) (w : World)
    (h27 : Ar cs27 16 (fun i => .int .u64 (L i))) (h28 : Ar cs28 16 (fun i => .int .i32 (K i))) (h30 : Lvs w cs30 N X) (h31 : Ar cs31 16 (fun i => .int .i64 (S i))) (h32 : Ar2 cs32 (fun i j => .int .u64 (T i j))) (h33 : CLvs w cs33 M Z)
    (hK : ∀ i, i < 16 → -2147483648 ≤ K i ∧ K i ≤ 2147483647) (hsm : Small N M) :
    Calls Try.prog 16 #[.int .i64 sz, .bool low, .agg cs27, .agg cs28, .agg cs30, .agg cs31, .agg cs32, .agg cs33, .bool true] w fun e w' => YesOut (Vld low sz L K N X S T M Z) e ∧ Below w.heap.size w w' := by
  have hbel := boxes_below [(cs27, 27), (cs28, 28), (cs30, 30), (cs31, 31), (cs32, 32), (cs33, 33)] w
  by_cases hs0 : sz < 0
  · go_enter Try.func16, Try.ntmps16
    go_wp2
    go_ret
    exact ⟨YesOut.no, hbel⟩
  by_cases hs1 : 16 < sz
  · go_enter Try.func16, Try.ntmps16
    go_wp2
    go_ret
    exact ⟨YesOut.no, hbel⟩
  obtain ⟨s, rfl⟩ : ∃ s : Nat, sz = s := ⟨sz.toNat, by omega⟩
  have hs : s ≤ 16 := by omega
  go_enter Try.func16, Try.ntmps16
  go_wp2
  have l30 := h30.below hbel (Nat.le_refl _)
  have l33 := h33.below hbel (Nat.le_refl _)
  have b30 := boxes_block [(cs27, 27), (cs28, 28), (cs30, 30), (cs31, 31), (cs32, 32), (cs33, 33)] w 2 cs30 30 rfl
  have b31 := boxes_block [(cs27, 27), (cs28, 28), (cs30, 30), (cs31, 31), (cs32, 32), (cs33, 33)] w 3 cs31 31 rfl
  have b33 := boxes_block [(cs27, 27), (cs28, 28), (cs30, 30), (cs31, 31), (cs32, 32), (cs33, 33)] w 5 cs33 33 rfl
  have hsz := boxes_size [(cs27, 27), (cs28, 28), (cs30, 30), (cs31, 31), (cs32, 32), (cs33, 33)] w
  obtain ⟨A, C, ⟨hs30, hc30⟩, hu30⟩ := h30
  obtain ⟨A', C', ⟨hs33, hc33⟩, hu33⟩ := h33
  have F27 : Hid (∀ i, i < 16 → (boxes w [(cs27, 27), (cs28, 28), (cs30, 30), (cs31, 31), (cs32, 32), (cs33, 33)]).cell? ⟨w.heap.size, i, none⟩ = some (.int .u64 (L i))) := fun i hi => boxes_cell _ w 0 rfl rfl (h27.2 i hi)
  have F28 : Hid (∀ i, i < 16 → (boxes w [(cs27, 27), (cs28, 28), (cs30, 30), (cs31, 31), (cs32, 32), (cs33, 33)]).cell? ⟨w.heap.size + 1, i, none⟩ = some (.int .i32 (K i))) := fun i hi => boxes_cell _ w 1 rfl rfl (h28.2 i hi)
  have F30 : Hid (∀ i, i < 16 → (boxes w [(cs27, 27), (cs28, 28), (cs30, 30), (cs31, 31), (cs32, 32), (cs33, 33)]).cell? ⟨w.heap.size + 2, i, none⟩ = some (.slice (A i) (N i) (C i))) := fun i hi => boxes_cell _ w 2 rfl rfl (hc30 i hi)
  have F31 : Hid (∀ i, i < 16 → (boxes w [(cs27, 27), (cs28, 28), (cs30, 30), (cs31, 31), (cs32, 32), (cs33, 33)]).cell? ⟨w.heap.size + 3, i, none⟩ = some (.int .i64 (S i))) := fun i hi => boxes_cell _ w 3 rfl rfl (h31.2 i hi)
  have F32 : Hid (∀ i j, i < 16 → j < 16 → (boxes w [(cs27, 27), (cs28, 28), (cs30, 30), (cs31, 31), (cs32, 32), (cs33, 33)]).cell? ⟨w.heap.size + 4, i * 16 + j, none⟩ = some (.int .u64 (T i j))) := fun i j hi hj => boxes_cell _ w 4 rfl rfl (h32.2 i j hi hj)
  have F33 : Hid (∀ i j, i < 16 → j < 16 → (boxes w [(cs27, 27), (cs28, 28), (cs30, 30), (cs31, 31), (cs32, 32), (cs33, 33)]).cell? ⟨w.heap.size + 5, i * 16 + j, none⟩ = some (.slice (A' i j) (M i j) (C' i j))) := fun i j hi hj => boxes_cell _ w 5 rfl rfl (hc33 i j hi hj)
  have U30 : Hid (∀ i, i < 16 → IsU (boxes w [(cs27, 27), (cs28, 28), (cs30, 30), (cs31, 31), (cs32, 32), (cs33, 33)]) (A i) (N i) (X i)) := fun i hi => (hu30 i hi).below hbel (Nat.le_refl _)
  have U33 : Hid (∀ i j, i < 16 → j < 16 → IsU (boxes w [(cs27, 27), (cs28, 28), (cs30, 30), (cs31, 31), (cs32, 32), (cs33, 33)]) (A' i j) (M i j) (Z i j)) := fun i j hi hj => (hu33 i j hi hj).below hbel (Nat.le_refl _)
  clear hc30 hc33 hu30 hu33
  rw [show (((((w.alloc (Obj.cells cs27 27)).alloc (Obj.cells cs28 28)).alloc (Obj.cells cs30 30)).alloc (Obj.cells cs31 31)).alloc (Obj.cells cs32 32)).alloc (Obj.cells cs33 33) = boxes w [(cs27, 27), (cs28, 28), (cs30, 30), (cs31, 31), (cs32, 32), (cs33, 33)] from rfl]
  generalize boxes w [(cs27, 27), (cs28, 28), (cs30, 30), (cs31, 31), (cs32, 32), (cs33, 33)] = W at hbel l30 l33 b30 b31 b33 hsz F27 F28 F30 F31 F32 F33 U30 U33 ⊢
  have B30 : Hid (W.heap[w.heap.size + 2]? = some (.cells cs30 30 (0, 0))) := b30
  have B31 : Hid (W.heap[w.heap.size + 3]? = some (.cells cs31 31 (0, 0))) := b31
  have B33 : Hid (W.heap[w.heap.size + 5]? = some (.cells cs33 33 (0, 0))) := b33
  clear b30 b31 b33 hsz
  have HK : Hid (∀ i, i < 16 → -2147483648 ≤ K i ∧ K i ≤ 2147483647) := hK
  clear hK
  go_loopw [19] (fun i wr => ∃ k m : Nat, k ≤ s ∧ i = .int .i64 k ∧ Hid (∀ i, i < k → VldAt low L K N X S T M Z i) ∧ wr = W.drewN m) (fun i _ => 16 - (intOf i).toNat)
  case atStart => exact ⟨0, 0, by omega, rfl, fun i h => absurd h (Nat.not_lt_zero _), rfl⟩
  case round =>
    obtain ⟨k, m, hk, rfl, hv, rfl⟩ := hrel
    by_cases hlt : k < s
    · have hk16 : k < 16 := by omega
      have ik0 : (0 : Int) ≤ (k : Int) := by omega
      have ik1 : (k : Int) < 16 := by omega
      have step : Hid (VldAt low L K N X S T M Z k → ∀ i, i < k + 1 → VldAt low L K N X S T M Z i) := fun h i hi => by
        by_cases e : i = k
        · subst e; exact h
        · exact hv.out i (by omega)
      clear hv
      have c27 := F27.out k hk16
      cases low with
      | true =>
        have c30 := F30.out k hk16
        have u30 : ∀ m, IsU (W.drewN m) (A k) (N k) (X k) := fun m => (U30.out k hk16).drewN m
        have hnk := small_N hsm k hk16
        cases hf : fitsB (X k) (N k) (L k) with
        | false =>
          go_wp2
          go_quiet ((go_at_call 34; refine quiet_same (fits_B _ _ _ (X k) _ (u30 _) hnk _)))
          go_wp2
          go_ret
          exact ⟨YesOut.no, by first | exact below_drewN hbel _ | exact below_drewN (below_drewN hbel _) _⟩
        | true =>
          go_wp2
          go_quiet ((go_at_call 34; refine quiet_same (fits_B _ _ _ (X k) _ (u30 _) hnk _)))
          go_wp2
          go_roundw
          case rel => exact ⟨k + 1, _, by omega, by go_num, step.out (by unfold VldAt; rw [if_pos rfl]; exact fitsB_true hf), rfl⟩
          case measure => simp [intOf]; omega
      | false =>
        have c31 := F31.out k hk16
        by_cases hS0 : S k < 1
        · go_wp2
          go_ret
          exact ⟨YesOut.no, by first | exact below_drewN hbel _ | exact below_drewN (below_drewN hbel _) _⟩
        by_cases hS1 : 16 < S k
        · go_wp2
          go_ret
          exact ⟨YesOut.no, by first | exact below_drewN hbel _ | exact below_drewN (below_drewN hbel _) _⟩
        obtain ⟨c, hcS⟩ : ∃ c : Nat, S k = c := ⟨(S k).toNat, by omega⟩
        rw [hcS] at c31
        have hc1 : 1 ≤ c := by omega
        have hc16 : c ≤ 16 := by omega
        have HCS : Hid (S k = c) := hcS
        clear hS0 hS1 hcS
        go_wp2
        clear c31
        go_loopw [21, 22] (fun n j wr => ∃ q m : Nat, q ≤ c ∧ j = .int .i64 q ∧ n = .int .i64 (sumTo (M k) q) ∧ Hid (∀ j, j < q → 0 < M k j ∧ Z k j (M k j - 1) = T k j) ∧ wr = W.drewN m) (fun _ j _ => 16 - (intOf j).toNat)
        case atStart => exact ⟨0, _, by omega, rfl, rfl, fun i h => absurd h (Nat.not_lt_zero _), rfl⟩
        case round =>
          obtain ⟨q, m, hq, rfl, rfl, hv, rfl⟩ := hrel
          have hsq := sumTo_mono (M k) (n := q) (m := 16) (by omega)
          have hss := small_sum hsm k hk16
          by_cases hlt2 : q < c
          · have hq16 : q < 16 := by omega
            have iq0 : (0 : Int) ≤ (q : Int) := by omega
            have iq1 : (q : Int) < 16 := by omega
            have c33 := F33.out k q hk16 hq16
            have c32 := F32.out k q hk16 hq16
            have u33 : ∀ m, IsU (W.drewN m) (A' k q) (M k q) (Z k q) := fun m => (U33.out k q hk16 hq16).drewN m
            have hmk := small_M hsm k q hk16 hq16
            cases hf : fitsB (Z k q) (M k q) (T k q) with
            | false =>
              go_wp2
              go_quiet ((go_at_call 34; refine quiet_same (fits_B _ _ _ (Z k q) _ (u33 _) hmk _)))
              go_wp2
              go_ret
              exact ⟨YesOut.no, by first | exact below_drewN hbel _ | exact below_drewN (below_drewN hbel _) _⟩
            | true =>
              have hv' : Hid (∀ j, j < q + 1 → 0 < M k j ∧ Z k j (M k j - 1) = T k j) := fun j hj => by
                by_cases e : j = q
                · subst e; exact fitsB_true hf
                · exact hv.out j (by omega)
              clear hv
              go_wp2
              go_quiet ((go_at_call 34; refine quiet_same (fits_B _ _ _ (Z k q) _ (u33 _) hmk _)))
              go_wp2
              go_roundw
              case rel => exact ⟨q + 1, _, by omega, by go_num, by rw [sumTo_succ]; go_num, hv', rfl⟩
              case measure => simp [intOf]; omega
          · have e : q = c := by omega
            subst e
            obtain ⟨p, rfl⟩ : ∃ p, q = p + 1 := ⟨q - 1, by omega⟩
            have hp16 : p < 16 := by omega
            have ip0 : (0 : Int) ≤ (p : Int) := by omega
            have ip1 : (p : Int) < 16 := by omega
            have c32 := F32.out k p hk16 hp16
            have c28 := F28.out k hk16
            obtain ⟨kk0, kk1⟩ := HK.out k hk16
            cases ht : (T k p != L k) with
            | true =>
              go_wp2
              go_quiet (fail)
              go_wp2
              go_ret
              exact ⟨YesOut.no, by first | exact below_drewN hbel _ | exact below_drewN (below_drewN hbel _) _⟩
            | false =>
              cases hkk : (K k != ((sumTo (M k) (p + 1) : Nat) : Int)) with
              | true =>
                go_wp2
                go_quiet (fail)
                go_wp2
                go_ret
                exact ⟨YesOut.no, by first | exact below_drewN hbel _ | exact below_drewN (below_drewN hbel _) _⟩
              | false =>
                have hva : Hid (VldAt false L K N X S T M Z k) := by
                  have e1 : (S k).toNat = p + 1 := by rw [HCS.out]; exact Int.toNat_natCast _
                  unfold Hid VldAt
                  rw [if_neg (by simp), e1]
                  refine ⟨by rw [HCS.out]; omega, by rw [HCS.out]; omega, hv.out, ?_, ?_⟩
                  · simpa using ht
                  · simpa using hkk
                clear hv
                go_wp2
                go_quiet (fail)
                go_wp2
                go_roundw
                case rel => exact ⟨k + 1, _, by omega, by go_num, step.out hva.out, rfl⟩
                case measure => simp [intOf]; omega
    · have e : k = s := by omega
      subst e
      have hS : low = false → ∀ i, i < k → 0 ≤ S i ∧ S i ≤ 16 := fun h i hi => by
        have := hv.out i hi
        unfold VldAt at this
        rw [if_neg (by simp [h])] at this
        exact ⟨by omega, this.2.1⟩
      have l30' := l30.drewN m
      have l33' := l33.drewN m
      go_wp2_with (first
        | (refine wpList_load_row (by rfl) 30 _ (by rfl) (w.heap.size + 2) (by rfl) 30 cs30 (0, 0) _ (by exact B30.out) Try.underlying30 (by rfl) (size_of info30 hs30) ?_)
        | (refine wpList_load_row (by rfl) 31 _ (by rfl) (w.heap.size + 3) (by rfl) 31 cs31 (0, 0) _ (by exact B31.out) Try.underlying31 (by rfl) (size_of info31 h31.1) ?_)
        | (refine wpList_load_row (by rfl) 33 _ (by rfl) (w.heap.size + 5) (by rfl) 33 cs33 (0, 0) _ (by exact B33.out) Try.underlying33 (by rfl) (size_of info33 hs33) ?_))
      refine (entries_any low k cs30 cs31 cs33 N X S M Z _ l30' h31 l33' hs hS hsm).mono ?_
      rintro e w1 ⟨⟨a, c, rfl, hu⟩, hb1⟩
      have hlen := entL_le low N X S M Z k (fun h i hi => (hS h i hi).2)
      have htt := totTo_mono N M hs
      have hsm' : totTo N M 16 ≤ 131072 := hsm
      have hl : (entL low N X S M Z k).length ≤ 131072 := by omega
      have hbb : Below w.heap.size w w1 := (below_drewN hbel m).trans (hb1.mono (by exact hbel.size))
      have HV : Hid (Asc (fun i => (entL low N X S M Z k).getD i 0) (entL low N X S M Z k).length → Vld low k L K N X S T M Z) := fun h => ⟨k, rfl, hs, hv.out, h⟩
      clear hlen htt hsm' hb1 hS l30' l33'
      generalize entL low N X S M Z k = xs at hu hl HV ⊢
      go_wp2_with fail
      refine (asc_any _ _ _ _ _ hu hl).mono ?_
      rintro e w2 ⟨⟨r, rfl, hr⟩, m2, rfl⟩
      cases r with
      | false =>
        go_wp2
        go_ret
        exact ⟨YesOut.no, below_drewN hbb _⟩
      | true =>
        have HV' : Hid (Vld low k L K N X S T M Z) := HV.out (hr rfl)
        clear HV hr
        go_wp2
        go_ret
        exact ⟨YesOut.yes HV'.out, below_drewN hbb _⟩
end Go.Proofs.Qxb6604322a
