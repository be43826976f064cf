/-
  Seat b6609411a: indicesOK (23), edgesOK (13), grantsOK (22), strBytes (21).
-/
import Derived.Test.Qxb6609411aBase
namespace Go.Proofs.Qxb6609411a
open Go.ChangeShapes Go.WideShapes Go.ChangeAt Go.RowKit
set_option linter.unusedVariables false

def YesIf (G : Prop) (e : Ending) : Prop := ∃ r : Bool, e = .returned (.bool r) ∧ (r = true → G)
theorem YesIf.no {G : Prop} : YesIf G (.returned (.bool false)) := ⟨false, rfl, fun h => by cases h⟩
theorem YesIf.yes {G : Prop} (h : G) : YesIf G (.returned (.bool true)) := ⟨true, rfl, fun _ => h⟩

set_option maxHeartbeats 1000000 in
theorem indicesOK_any (n : Int) (a : Option Addr) (m c : Nat) (X : Nat → Int) (w : World) (hX : IsA encI w a m X) (hm : m ≤ 1048576) :
    Calls Try.prog 23 #[.int .i64 n, .slice a m c] w fun e w' => YesIf (∀ i, i < m → 0 ≤ X i ∧ X i < n) e ∧ w' = w := by
  have HX : Hid (IsA encI w a m X) := hX
  clear hX
  go_enter Try.func23, Try.ntmps23
  go_wp2
  go_loop [5] (fun i => ∃ k : Nat, k ≤ m ∧ i = .int .i64 k ∧ ∀ i, i < k → 0 ≤ X i ∧ X i < n) (fun i => m - (intOf i).toNat)
  case atStart => exact ⟨0, Nat.zero_le _, rfl, fun i hi => absurd hi (Nat.not_lt_zero _)⟩
  case round =>
    obtain ⟨k, hk, rfl, h1⟩ := hrel
    have H1 : Hid (∀ i, i < k → 0 ≤ X i ∧ X i < n) := h1
    clear h1
    by_cases hlt : k < m
    · rcases HX.out with h0 | ⟨b, off, rfl, hb, hc⟩
      · omega
      have q := hc k hlt
      clear hc
      have ik0 : (0 : Int) ≤ k := by omega
      have ik1 : (k : Int) < m := by omega
      have hx : Hid (X k = X k) := rfl
      generalize hX : X k = x at *
      by_cases d : x < 0
      · have e1 : decide (x < 0) = true := decide_eq_true d
        go_wp2
        go_ret
        exact ⟨YesIf.no, rfl⟩
      · have e1 : decide (x < 0) = false := decide_eq_false d
        by_cases d2 : n ≤ x
        · have e2 : decide (n ≤ x) = true := decide_eq_true d2
          go_wp2
          go_ret
          exact ⟨YesIf.no, rfl⟩
        · have e2 : decide (n ≤ x) = false := decide_eq_false d2
          have hd : Hid (0 ≤ x ∧ x < n) := ⟨by omega, by omega⟩
          clear d d2
          go_wp2
          go_round
          case rel => exact ⟨k + 1, by omega, by go_num, fun i hi => by
            by_cases e : i = k
            · rw [e, hX]; exact hd.out
            · exact H1.out i (by omega)⟩
          case measure => simp [intOf]; omega
    · obtain rfl : m = k := by omega
      go_wp2
      go_ret
      exact ⟨YesIf.yes H1.out, rfl⟩

theorem grantsOK_any (n : Int) (ag ao ab : Option Addr) (m cg mo co mb cb : Nat) (X : Nat → Int) (w : World) (hX : IsA encI w ag m X) (hm : m ≤ 1048576) (hmo : mo ≤ 1048576) (hmb : mb ≤ 1048576) :
    Calls Try.prog 22 #[.int .i64 n, .slice ag m cg, .slice ao mo co, .slice ab mb cb] w fun e w' => YesIf (m = mo ∧ m = mb ∧ ∀ i, i < m → 0 ≤ X i ∧ X i < n) e ∧ w' = w := by
  have Z := indicesOK_any n ag m cg X w hX hm
  clear hX
  go_enter Try.func22, Try.ntmps22
  by_cases h1 : m = mo
  · subst h1
    by_cases h2 : m = mb
    · subst h2
      go_wp2_with fail
      refine Z.mono ?_
      clear Z
      rintro e w' ⟨⟨r, rfl, hr⟩, rfl⟩
      have HR : Hid (r = true → ∀ i, i < m → 0 ≤ X i ∧ X i < n) := hr
      clear hr
      go_wp2
      go_ret
      exact ⟨⟨r, rfl, fun h => HR.out h⟩, rfl⟩
    · have e2 : ((m : Int) != mb) = true := by simpa using (by omega : ¬ (m : Int) = mb)
      go_wp2
      go_ret
      exact ⟨YesIf.no, rfl⟩
  · have e1 : ((m : Int) != mo) = true := by simpa using (by omega : ¬ (m : Int) = mo)
    go_wp2
    go_ret
    exact ⟨YesIf.no, rfl⟩

set_option maxHeartbeats 2000000 in
theorem edgesOK_any (n : Int) (al ah : Option Addr) (m cl mh ch : Nat) (X Y : Nat → Int) (w : World) (hX : IsA encI w al m X) (hY : IsA encI w ah mh Y) (hm : m ≤ 1048576) (hmh : mh ≤ 1048576) :
    Calls Try.prog 13 #[.int .i64 n, .slice al m cl, .slice ah mh ch] w fun e w' => YesIf (m = mh ∧ ∀ i, i < m → 0 ≤ X i ∧ X i < Y i ∧ Y i < n) e ∧ ∃ q, w' = w.drewN q := by
  have HX : Hid (IsA encI w al m X) := hX
  have HY : Hid (IsA encI w ah mh Y) := hY
  clear hX hY
  go_enter Try.func13, Try.ntmps13
  by_cases h1 : m = mh
  case neg =>
    have e1 : ((m : Int) != mh) = true := by simpa using (by omega : ¬ (m : Int) = mh)
    go_wp2
    go_ret
    exact ⟨YesIf.no, 0, rfl⟩
  subst h1
  go_wp2
  go_loopw [7] (fun i wr => ∃ k q : Nat, k ≤ m ∧ i = .int .i64 k ∧ wr = w.drewN q ∧ ∀ i, i < k → 0 ≤ X i ∧ X i < Y i ∧ Y i < n) (fun i _ => m - (intOf i).toNat)
  case atStart => exact ⟨0, 0, Nat.zero_le _, rfl, rfl, fun i hi => absurd hi (Nat.not_lt_zero _)⟩
  case round =>
    obtain ⟨k, q, hk, rfl, rfl, h1⟩ := hrel
    have H1 : Hid (∀ i, i < k → 0 ≤ X i ∧ X i < Y i ∧ Y i < n) := h1
    clear h1
    by_cases hlt : k < m
    · rcases HX.out with h0 | ⟨b, off, rfl, hb, hc⟩
      · omega
      rcases HY.out with h0 | ⟨b2, off2, rfl, hb2, hc2⟩
      · omega
      have q1 := hc k hlt
      have q2 := hc2 k hlt
      clear hc hc2
      have ik0 : (0 : Int) ≤ k := by omega
      have ik1 : (k : Int) < m := by omega
      generalize hX : X k = x at *
      generalize hY : Y k = y at *
      by_cases d : x < 0
      · have e1 : decide (x < 0) = true := decide_eq_true d
        go_wp2_with fail
        go_quiet (fail)
        go_wp2
        go_ret
        exact ⟨YesIf.no, _, rfl⟩
      · have e1 : decide (x < 0) = false := decide_eq_false d
        by_cases d2 : y ≤ x
        · have e2 : decide (y ≤ x) = true := decide_eq_true d2
          go_wp2_with fail
          go_quiet (fail)
          go_wp2
          go_ret
          exact ⟨YesIf.no, _, rfl⟩
        · have e2 : decide (y ≤ x) = false := decide_eq_false d2
          by_cases d3 : n ≤ y
          · have e3 : decide (n ≤ y) = true := decide_eq_true d3
            go_wp2_with fail
            go_quiet (fail)
            go_wp2
            go_ret
            exact ⟨YesIf.no, _, rfl⟩
          · have e3 : decide (n ≤ y) = false := decide_eq_false d3
            have hd : Hid (0 ≤ x ∧ x < y ∧ y < n) := ⟨by omega, by omega, by omega⟩
            clear d d2 d3
            go_wp2_with fail
            go_quiet (fail)
            go_wp2
            go_roundw
            case rel => exact ⟨k + 1, _, by omega, by go_num, rfl, fun i hi => by
              by_cases e : i = k
              · rw [e, hX, hY]; exact hd.out
              · exact H1.out i (by omega)⟩
            case measure => simp [intOf]; omega
    · obtain rfl : m = k := by omega
      go_wp2
      go_ret
      exact ⟨YesIf.yes H1.out, _, rfl⟩

set_option maxHeartbeats 1000000 in
theorem strBytes_any (a : Option Addr) (m c : Nat) (X : Nat → ByteArray) (w : World) (hX : IsA encS w a m X) (hm : m ≤ 1048576) (hs : ∀ i, i < m → (X i).size ≤ 1048576) :
    Calls Try.prog 21 #[.slice a m c] w fun e w' => (∃ z : Int, e = .returned (.int .i64 z) ∧ 0 ≤ z ∧ z ≤ 1048577) ∧ w' = w := by
  have HX : Hid (IsA encS w a m X) := hX
  clear hX
  go_enter Try.func21, Try.ntmps21
  go_wp2
  go_loop [3, 4] (fun z i => ∃ (k : Nat) (t : Int), k ≤ m ∧ z = .int .i64 t ∧ i = .int .i64 k ∧ 0 ≤ t ∧ t ≤ 1048576) (fun _ i => m - (intOf i).toNat)
  case atStart => exact ⟨0, 0, Nat.zero_le _, rfl, rfl, by omega, by omega⟩
  case round =>
    obtain ⟨k, t, hk, rfl, rfl, ht, hu⟩ := hrel
    by_cases hlt : k < m
    · rcases HX.out with h0 | ⟨b, off, rfl, hb, hc⟩
      · omega
      have q := hc k hlt
      have hsk := hs k hlt
      clear hc
      have ik0 : (0 : Int) ≤ k := by omega
      have ik1 : (k : Int) < m := by omega
      generalize X k = x at *
      by_cases d : t + (16 + (x.size : Int)) ≤ 1048576
      · have e1 : decide ((1048576 : Int) < t + (16 + x.size)) = false := decide_eq_false (by omega)
        go_wp2
        go_round
        case rel => exact ⟨k + 1, t + (16 + x.size), by omega, by go_num, by go_num, by omega, by omega⟩
        case measure => simp [intOf]; omega
      · have e1 : decide ((1048576 : Int) < t + (16 + x.size)) = true := decide_eq_true (by omega)
        go_wp2
        go_ret
        exact ⟨⟨_, rfl, by omega, by omega⟩, rfl⟩
    · go_wp2
      go_ret
      exact ⟨⟨_, rfl, by omega, by omega⟩, rfl⟩
end Go.Proofs.Qxb6609411a
