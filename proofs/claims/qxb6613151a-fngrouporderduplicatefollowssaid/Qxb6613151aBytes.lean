/-
  Seat b6613151a: zzBytes (4), orderBytes (5): they answer; zzBytes bounds the lengths.
-/
import Derived.Test.Qxb6613151aBuild
namespace Go.Proofs.Qxb6613151a
open Go.ChangeShapes Go.WideShapes Go.ChangeAt Go.RowKit
set_option linter.unusedVariables false

def BytesOut (nR n nO nA : Nat) (NC NQ NO NA : Nat → Nat) (e : Ending) : Prop :=
  ∃ b : Bool, e = .returned (.bool b) ∧ (b = true → (∀ i, i < nR → NC i ≤ 1048576) ∧ (∀ i, i < n → NQ i ≤ 1048576) ∧ (∀ i, i < nO → NO i ≤ 1048576) ∧ ∀ i, i < nA → NA i ≤ 1048576)

theorem BytesOut.no {nR n nO nA : Nat} {NC NQ NO NA : Nat → Nat} : BytesOut nR n nO nA NC NQ NO NA (.returned (.bool false)) := ⟨false, rfl, fun h => by cases h⟩

set_option maxHeartbeats 4000000 in
set_option maxRecDepth 100000 in
theorem zzBytes_any (ac al ar ao aa : Option Addr) (nR cc nL cl n cr nO co nA ca : Nat) (NC NQ NO NA : Nat → Nat) (C Q A : Nat → Nat → Int) (O : Nat → Nat → Bool) (g : Int) (w : World)
    (hC : IsSS encI w ac nR NC C) (hQ : IsSS encI w ar n NQ Q) (hO : IsSS encB w ao nO NO O) (hA : IsSS encI w aa nA NA A)
    (m0 : nR ≤ 9223372036854775807) (m1 : nL ≤ 9223372036854775807) (m2 : n ≤ 9223372036854775807) (m3 : nO ≤ 9223372036854775807) (m4 : nA ≤ 9223372036854775807) (mC : ∀ i, i < nR → NC i ≤ 9223372036854775807) (mQ : ∀ i, i < n → NQ i ≤ 9223372036854775807) (mO : ∀ i, i < nO → NO i ≤ 9223372036854775807) (mA : ∀ i, i < nA → NA i ≤ 9223372036854775807) :
    Calls Try.prog 4 #[.slice ac nR cc, .slice al nL cl, .slice ar n cr, .slice ao nO co, .slice aa nA ca, .int .i64 g] w fun e w' => BytesOut nR n nO nA NC NQ NO NA e ∧ w' = w := by
  have HC : Hid (IsSS encI w ac nR NC C) := hC
  have HQ : Hid (IsSS encI w ar n NQ Q) := hQ
  have HO : Hid (IsSS encB w ao nO NO O) := hO
  have HA : Hid (IsSS encI w aa nA NA A) := hA
  clear hC hQ hO hA
  go_enter Try.func4, Try.ntmps4
  by_cases a1 : (nR : Int) ≤ 1048576
  · by_cases b1 : (nR : Int) ≤ 1048576
    · have z1 : True := trivial
      have d2 : decide ((1048576 : Int) < (nR : Int)) = false := decide_eq_false (by omega)
      go_wp2
      go_loop [13, 14] (fun z i => ∃ (k : Nat) (t : Int), k ≤ nR ∧ z = .int .i64 t ∧ i = .int .i64 k ∧ 0 ≤ t ∧ t ≤ 1048576 ∧ ∀ i, i < k → NC i ≤ 1048576) (fun _ i => nR - (intOf i).toNat)
      case atStart => exact ⟨0, _, Nat.zero_le _, rfl, rfl, by omega, by omega, fun i hi => absurd hi (Nat.not_lt_zero _)⟩
      case round =>
        obtain ⟨k3, t3, hk3, rfl, rfl, ht3, hu3, hall3⟩ := hrel
        have HALL3 : Hid (∀ i, i < k3 → NC i ≤ 1048576) := hall3
        clear hall3
        by_cases hlt3 : k3 < nR
        · rcases HC.out with h0 | ⟨b, off, rfl, hb, hcc⟩
          · omega
          obtain ⟨ai, ci, k1, k2⟩ := hcc k3 hlt3
          have hm := mC k3 hlt3
          clear hcc k2
          have ik0 : (0 : Int) ≤ k3 := by omega
          have ik1 : (k3 : Int) < nR := by omega
          generalize hNX : NC k3 = nx at *
          by_cases a1 : (nx : Int) ≤ 1048576
          · by_cases b1 : t3 + (nx : Int) ≤ 1048576
            · have e1 : decide ((1048576 : Int) < nx) = false := decide_eq_false (by omega)
              have e2 : decide ((1048576 : Int) < t3 + nx) = false := decide_eq_false (by omega)
              go_wp2
              go_round
              case rel => exact ⟨k3 + 1, t3 + nx, by omega, by go_num, by go_num, by omega, by omega, fun i hi => by
                by_cases e : i = k3
                · subst e; omega
                · exact HALL3.out i (by omega)⟩
              case measure => simp [intOf]; omega
            · have e1 : decide ((1048576 : Int) < nx) = false := decide_eq_false (by omega)
              have e2 : decide ((1048576 : Int) < t3 + nx) = true := decide_eq_true (by omega)
              go_wp2
              go_ret
              exact ⟨BytesOut.no, rfl⟩
          · have e1 : decide ((1048576 : Int) < nx) = true := decide_eq_true (by omega)
            go_wp2
            go_ret
            exact ⟨BytesOut.no, rfl⟩
        · obtain rfl : nR = k3 := by omega
          by_cases a4 : (nL : Int) ≤ 1048576
          · by_cases b4 : t3 + (nL : Int) ≤ 1048576
            · have z4 : True := trivial
              have d5 : decide ((1048576 : Int) < (nL : Int)) = false := decide_eq_false (by omega)
              have d6 : decide ((1048576 : Int) < t3 + (nL : Int)) = false := decide_eq_false (by omega)
              by_cases a7 : (n : Int) ≤ 1048576
              · by_cases b7 : t3 + (nL : Int) + (n : Int) ≤ 1048576
                · have z7 : True := trivial
                  have d8 : decide ((1048576 : Int) < (n : Int)) = false := decide_eq_false (by omega)
                  have d9 : decide ((1048576 : Int) < t3 + (nL : Int) + (n : Int)) = false := decide_eq_false (by omega)
                  go_wp2
                  go_loop [13, 15] (fun z i => ∃ (k : Nat) (t : Int), k ≤ n ∧ z = .int .i64 t ∧ i = .int .i64 k ∧ 0 ≤ t ∧ t ≤ 1048576 ∧ ∀ i, i < k → NQ i ≤ 1048576) (fun _ i => n - (intOf i).toNat)
                  case atStart => exact ⟨0, _, Nat.zero_le _, rfl, rfl, by omega, by omega, fun i hi => absurd hi (Nat.not_lt_zero _)⟩
                  case round =>
                    obtain ⟨k10, t10, hk10, rfl, rfl, ht10, hu10, hall10⟩ := hrel
                    have HALL10 : Hid (∀ i, i < k10 → NQ i ≤ 1048576) := hall10
                    clear hall10
                    by_cases hlt10 : k10 < n
                    · rcases HQ.out with h0 | ⟨b, off, rfl, hb, hcc⟩
                      · omega
                      obtain ⟨ai, ci, k1, k2⟩ := hcc k10 hlt10
                      have hm := mQ k10 hlt10
                      clear hcc k2
                      have ik0 : (0 : Int) ≤ k10 := by omega
                      have ik1 : (k10 : Int) < n := by omega
                      generalize hNX : NQ k10 = nx at *
                      by_cases a1 : (nx : Int) ≤ 1048576
                      · by_cases b1 : t10 + (nx : Int) ≤ 1048576
                        · have e1 : decide ((1048576 : Int) < nx) = false := decide_eq_false (by omega)
                          have e2 : decide ((1048576 : Int) < t10 + nx) = false := decide_eq_false (by omega)
                          go_wp2
                          go_round
                          case rel => exact ⟨k10 + 1, t10 + nx, by omega, by go_num, by go_num, by omega, by omega, fun i hi => by
                            by_cases e : i = k10
                            · subst e; omega
                            · exact HALL10.out i (by omega)⟩
                          case measure => simp [intOf]; omega
                        · have e1 : decide ((1048576 : Int) < nx) = false := decide_eq_false (by omega)
                          have e2 : decide ((1048576 : Int) < t10 + nx) = true := decide_eq_true (by omega)
                          go_wp2
                          go_ret
                          exact ⟨BytesOut.no, rfl⟩
                      · have e1 : decide ((1048576 : Int) < nx) = true := decide_eq_true (by omega)
                        go_wp2
                        go_ret
                        exact ⟨BytesOut.no, rfl⟩
                    · obtain rfl : n = k10 := by omega
                      by_cases a11 : (nO : Int) ≤ 1048576
                      · by_cases b11 : t10 + (nO : Int) ≤ 1048576
                        · have z11 : True := trivial
                          have d12 : decide ((1048576 : Int) < (nO : Int)) = false := decide_eq_false (by omega)
                          have d13 : decide ((1048576 : Int) < t10 + (nO : Int)) = false := decide_eq_false (by omega)
                          go_wp2
                          go_loop [13, 16] (fun z i => ∃ (k : Nat) (t : Int), k ≤ nO ∧ z = .int .i64 t ∧ i = .int .i64 k ∧ 0 ≤ t ∧ t ≤ 1048576 ∧ ∀ i, i < k → NO i ≤ 1048576) (fun _ i => nO - (intOf i).toNat)
                          case atStart => exact ⟨0, _, Nat.zero_le _, rfl, rfl, by omega, by omega, fun i hi => absurd hi (Nat.not_lt_zero _)⟩
                          case round =>
                            obtain ⟨k14, t14, hk14, rfl, rfl, ht14, hu14, hall14⟩ := hrel
                            have HALL14 : Hid (∀ i, i < k14 → NO i ≤ 1048576) := hall14
                            clear hall14
                            by_cases hlt14 : k14 < nO
                            · rcases HO.out with h0 | ⟨b, off, rfl, hb, hcc⟩
                              · omega
                              obtain ⟨ai, ci, k1, k2⟩ := hcc k14 hlt14
                              have hm := mO k14 hlt14
                              clear hcc k2
                              have ik0 : (0 : Int) ≤ k14 := by omega
                              have ik1 : (k14 : Int) < nO := by omega
                              generalize hNX : NO k14 = nx at *
                              by_cases a1 : (nx : Int) ≤ 1048576
                              · by_cases b1 : t14 + (nx : Int) ≤ 1048576
                                · have e1 : decide ((1048576 : Int) < nx) = false := decide_eq_false (by omega)
                                  have e2 : decide ((1048576 : Int) < t14 + nx) = false := decide_eq_false (by omega)
                                  go_wp2
                                  go_round
                                  case rel => exact ⟨k14 + 1, t14 + nx, by omega, by go_num, by go_num, by omega, by omega, fun i hi => by
                                    by_cases e : i = k14
                                    · subst e; omega
                                    · exact HALL14.out i (by omega)⟩
                                  case measure => simp [intOf]; omega
                                · have e1 : decide ((1048576 : Int) < nx) = false := decide_eq_false (by omega)
                                  have e2 : decide ((1048576 : Int) < t14 + nx) = true := decide_eq_true (by omega)
                                  go_wp2
                                  go_ret
                                  exact ⟨BytesOut.no, rfl⟩
                              · have e1 : decide ((1048576 : Int) < nx) = true := decide_eq_true (by omega)
                                go_wp2
                                go_ret
                                exact ⟨BytesOut.no, rfl⟩
                            · obtain rfl : nO = k14 := by omega
                              by_cases a15 : (nA : Int) ≤ 1048576
                              · by_cases b15 : t14 + (nA : Int) ≤ 1048576
                                · have z15 : True := trivial
                                  have d16 : decide ((1048576 : Int) < (nA : Int)) = false := decide_eq_false (by omega)
                                  have d17 : decide ((1048576 : Int) < t14 + (nA : Int)) = false := decide_eq_false (by omega)
                                  go_wp2
                                  go_loop [13, 17] (fun z i => ∃ (k : Nat) (t : Int), k ≤ nA ∧ z = .int .i64 t ∧ i = .int .i64 k ∧ 0 ≤ t ∧ t ≤ 1048576 ∧ ∀ i, i < k → NA i ≤ 1048576) (fun _ i => nA - (intOf i).toNat)
                                  case atStart => exact ⟨0, _, Nat.zero_le _, rfl, rfl, by omega, by omega, fun i hi => absurd hi (Nat.not_lt_zero _)⟩
                                  case round =>
                                    obtain ⟨k18, t18, hk18, rfl, rfl, ht18, hu18, hall18⟩ := hrel
                                    have HALL18 : Hid (∀ i, i < k18 → NA i ≤ 1048576) := hall18
                                    clear hall18
                                    by_cases hlt18 : k18 < nA
                                    · rcases HA.out with h0 | ⟨b, off, rfl, hb, hcc⟩
                                      · omega
                                      obtain ⟨ai, ci, k1, k2⟩ := hcc k18 hlt18
                                      have hm := mA k18 hlt18
                                      clear hcc k2
                                      have ik0 : (0 : Int) ≤ k18 := by omega
                                      have ik1 : (k18 : Int) < nA := by omega
                                      generalize hNX : NA k18 = nx at *
                                      by_cases a1 : (nx : Int) ≤ 1048576
                                      · by_cases b1 : t18 + (nx : Int) ≤ 1048576
                                        · have e1 : decide ((1048576 : Int) < nx) = false := decide_eq_false (by omega)
                                          have e2 : decide ((1048576 : Int) < t18 + nx) = false := decide_eq_false (by omega)
                                          go_wp2
                                          go_round
                                          case rel => exact ⟨k18 + 1, t18 + nx, by omega, by go_num, by go_num, by omega, by omega, fun i hi => by
                                            by_cases e : i = k18
                                            · subst e; omega
                                            · exact HALL18.out i (by omega)⟩
                                          case measure => simp [intOf]; omega
                                        · have e1 : decide ((1048576 : Int) < nx) = false := decide_eq_false (by omega)
                                          have e2 : decide ((1048576 : Int) < t18 + nx) = true := decide_eq_true (by omega)
                                          go_wp2
                                          go_ret
                                          exact ⟨BytesOut.no, rfl⟩
                                      · have e1 : decide ((1048576 : Int) < nx) = true := decide_eq_true (by omega)
                                        go_wp2
                                        go_ret
                                        exact ⟨BytesOut.no, rfl⟩
                                    · obtain rfl : nA = k18 := by omega
                                      go_wp2
                                      go_ret
                                      exact ⟨⟨true, rfl, fun _ => ⟨HALL3.out, HALL10.out, HALL14.out, HALL18.out⟩⟩, rfl⟩
                                · have z15 : True := trivial
                                  have d19 : decide ((1048576 : Int) < (nA : Int)) = false := decide_eq_false (by omega)
                                  have d20 : decide ((1048576 : Int) < t14 + (nA : Int)) = true := decide_eq_true (by omega)
                                  go_wp2
                                  go_ret
                                  exact ⟨BytesOut.no, rfl⟩
                              · have z15 : True := trivial
                                have d21 : decide ((1048576 : Int) < (nA : Int)) = true := decide_eq_true (by omega)
                                go_wp2
                                go_ret
                                exact ⟨BytesOut.no, rfl⟩
                        · have z11 : True := trivial
                          have d22 : decide ((1048576 : Int) < (nO : Int)) = false := decide_eq_false (by omega)
                          have d23 : decide ((1048576 : Int) < t10 + (nO : Int)) = true := decide_eq_true (by omega)
                          go_wp2
                          go_ret
                          exact ⟨BytesOut.no, rfl⟩
                      · have z11 : True := trivial
                        have d24 : decide ((1048576 : Int) < (nO : Int)) = true := decide_eq_true (by omega)
                        go_wp2
                        go_ret
                        exact ⟨BytesOut.no, rfl⟩
                · have z7 : True := trivial
                  have d25 : decide ((1048576 : Int) < (n : Int)) = false := decide_eq_false (by omega)
                  have d26 : decide ((1048576 : Int) < t3 + (nL : Int) + (n : Int)) = true := decide_eq_true (by omega)
                  go_wp2
                  go_ret
                  exact ⟨BytesOut.no, rfl⟩
              · have z7 : True := trivial
                have d27 : decide ((1048576 : Int) < (n : Int)) = true := decide_eq_true (by omega)
                go_wp2
                go_ret
                exact ⟨BytesOut.no, rfl⟩
            · have z4 : True := trivial
              have d28 : decide ((1048576 : Int) < (nL : Int)) = false := decide_eq_false (by omega)
              have d29 : decide ((1048576 : Int) < t3 + (nL : Int)) = true := decide_eq_true (by omega)
              go_wp2
              go_ret
              exact ⟨BytesOut.no, rfl⟩
          · have z4 : True := trivial
            have d30 : decide ((1048576 : Int) < (nL : Int)) = true := decide_eq_true (by omega)
            go_wp2
            go_ret
            exact ⟨BytesOut.no, rfl⟩
    · omega
  · have z1 : True := trivial
    have d31 : decide ((1048576 : Int) < (nR : Int)) = true := decide_eq_true (by omega)
    go_wp2
    go_ret
    exact ⟨BytesOut.no, rfl⟩

set_option maxHeartbeats 4000000 in
set_option maxRecDepth 100000 in
theorem orderBytes_any (ac al ar ao aa : Option Addr) (nR cc nL cl n cr nO co nA ca : Nat) (NC NQ NO NA : Nat → Nat) (C Q A : Nat → Nat → Int) (O : Nat → Nat → Bool) (w : World)
    (hC : IsSS encI w ac nR NC C) (hQ : IsSS encI w ar n NQ Q) (hO : IsSS encB w ao nO NO O) (hA : IsSS encI w aa nA NA A)
    (m0 : nR ≤ 1048576) (m1 : nL ≤ 1048576) (m2 : n ≤ 1048576) (m3 : nO ≤ 1048576) (m4 : nA ≤ 1048576) (mC : ∀ i, i < nR → NC i ≤ 1048576) (mQ : ∀ i, i < n → NQ i ≤ 1048576) (mO : ∀ i, i < nO → NO i ≤ 1048576) (mA : ∀ i, i < nA → NA i ≤ 1048576) :
    Calls Try.prog 5 #[.slice ac nR cc, .slice al nL cl, .slice ar n cr, .slice ao nO co, .slice aa nA ca] w fun e w' => (∃ z : Int, e = .returned (.int .i64 z)) ∧ w' = w := by
  have HC : Hid (IsSS encI w ac nR NC C) := hC
  have HQ : Hid (IsSS encI w ar n NQ Q) := hQ
  have HO : Hid (IsSS encB w ao nO NO O) := hO
  have HA : Hid (IsSS encI w aa nA NA A) := hA
  clear hC hQ hO hA
  go_enter Try.func5, Try.ntmps5
  go_wp2
  go_loop [11, 12] (fun z i => ∃ (k : Nat) (t : Int), k ≤ nR ∧ z = .int .i64 t ∧ i = .int .i64 k ∧ 0 ≤ t ∧ t ≤ 8388608) (fun _ i => nR - (intOf i).toNat)
  case atStart => exact ⟨0, _, Nat.zero_le _, rfl, rfl, by omega, by omega⟩
  case round =>
    obtain ⟨k5, t5, hk5, rfl, rfl, ht5, hu5⟩ := hrel
    by_cases hlt5 : k5 < nR
    · rcases HC.out with h0 | ⟨b, off, rfl, hb, hcc⟩
      · omega
      obtain ⟨ai, ci, k1, k2⟩ := hcc k5 hlt5
      have hm := mC k5 hlt5
      clear hcc k2
      have ik0 : (0 : Int) ≤ k5 := by omega
      have ik1 : (k5 : Int) < nR := by omega
      generalize hNX : NC k5 = nx at *
      by_cases b1 : t5 + 8 * (nx : Int) ≤ 1048576
      · have e2 : decide ((1048576 : Int) < t5 + 8 * nx) = false := decide_eq_false (by omega)
        go_wp2
        go_round
        case rel => exact ⟨k5 + 1, t5 + 8 * nx, by omega, by go_num, by go_num, by omega, by omega⟩
        case measure => simp [intOf]; omega
      · have e2 : decide ((1048576 : Int) < t5 + 8 * nx) = true := decide_eq_true (by omega)
        go_wp2
        go_ret
        exact ⟨⟨_, rfl⟩, rfl⟩
    · obtain rfl : nR = k5 := by omega
      go_wp2
      go_loop [11, 13] (fun z i => ∃ (k : Nat) (t : Int), k ≤ n ∧ z = .int .i64 t ∧ i = .int .i64 k ∧ 0 ≤ t ∧ t ≤ 8388608) (fun _ i => n - (intOf i).toNat)
      case atStart => exact ⟨0, _, Nat.zero_le _, rfl, rfl, by omega, by omega⟩
      case round =>
        obtain ⟨k6, t6, hk6, rfl, rfl, ht6, hu6⟩ := hrel
        by_cases hlt6 : k6 < n
        · rcases HQ.out with h0 | ⟨b, off, rfl, hb, hcc⟩
          · omega
          obtain ⟨ai, ci, k1, k2⟩ := hcc k6 hlt6
          have hm := mQ k6 hlt6
          clear hcc k2
          have ik0 : (0 : Int) ≤ k6 := by omega
          have ik1 : (k6 : Int) < n := by omega
          generalize hNX : NQ k6 = nx at *
          by_cases b1 : t6 + 8 * (nx : Int) ≤ 1048576
          · have e2 : decide ((1048576 : Int) < t6 + 8 * nx) = false := decide_eq_false (by omega)
            go_wp2
            go_round
            case rel => exact ⟨k6 + 1, t6 + 8 * nx, by omega, by go_num, by go_num, by omega, by omega⟩
            case measure => simp [intOf]; omega
          · have e2 : decide ((1048576 : Int) < t6 + 8 * nx) = true := decide_eq_true (by omega)
            go_wp2
            go_ret
            exact ⟨⟨_, rfl⟩, rfl⟩
        · obtain rfl : n = k6 := by omega
          go_wp2
          go_loop [11, 14] (fun z i => ∃ (k : Nat) (t : Int), k ≤ nO ∧ z = .int .i64 t ∧ i = .int .i64 k ∧ 0 ≤ t ∧ t ≤ 8388608) (fun _ i => nO - (intOf i).toNat)
          case atStart => exact ⟨0, _, Nat.zero_le _, rfl, rfl, by omega, by omega⟩
          case round =>
            obtain ⟨k7, t7, hk7, rfl, rfl, ht7, hu7⟩ := hrel
            by_cases hlt7 : k7 < nO
            · rcases HO.out with h0 | ⟨b, off, rfl, hb, hcc⟩
              · omega
              obtain ⟨ai, ci, k1, k2⟩ := hcc k7 hlt7
              have hm := mO k7 hlt7
              clear hcc k2
              have ik0 : (0 : Int) ≤ k7 := by omega
              have ik1 : (k7 : Int) < nO := by omega
              generalize hNX : NO k7 = nx at *
              by_cases b1 : t7 + (nx : Int) ≤ 1048576
              · have e2 : decide ((1048576 : Int) < t7 + nx) = false := decide_eq_false (by omega)
                go_wp2
                go_round
                case rel => exact ⟨k7 + 1, t7 + nx, by omega, by go_num, by go_num, by omega, by omega⟩
                case measure => simp [intOf]; omega
              · have e2 : decide ((1048576 : Int) < t7 + nx) = true := decide_eq_true (by omega)
                go_wp2
                go_ret
                exact ⟨⟨_, rfl⟩, rfl⟩
            · obtain rfl : nO = k7 := by omega
              go_wp2
              go_loop [11, 15] (fun z i => ∃ (k : Nat) (t : Int), k ≤ nA ∧ z = .int .i64 t ∧ i = .int .i64 k ∧ 0 ≤ t ∧ t ≤ 8388608) (fun _ i => nA - (intOf i).toNat)
              case atStart => exact ⟨0, _, Nat.zero_le _, rfl, rfl, by omega, by omega⟩
              case round =>
                obtain ⟨k8, t8, hk8, rfl, rfl, ht8, hu8⟩ := hrel
                by_cases hlt8 : k8 < nA
                · rcases HA.out with h0 | ⟨b, off, rfl, hb, hcc⟩
                  · omega
                  obtain ⟨ai, ci, k1, k2⟩ := hcc k8 hlt8
                  have hm := mA k8 hlt8
                  clear hcc k2
                  have ik0 : (0 : Int) ≤ k8 := by omega
                  have ik1 : (k8 : Int) < nA := by omega
                  generalize hNX : NA k8 = nx at *
                  by_cases b1 : t8 + 8 * (nx : Int) ≤ 1048576
                  · have e2 : decide ((1048576 : Int) < t8 + 8 * nx) = false := decide_eq_false (by omega)
                    go_wp2
                    go_round
                    case rel => exact ⟨k8 + 1, t8 + 8 * nx, by omega, by go_num, by go_num, by omega, by omega⟩
                    case measure => simp [intOf]; omega
                  · have e2 : decide ((1048576 : Int) < t8 + 8 * nx) = true := decide_eq_true (by omega)
                    go_wp2
                    go_ret
                    exact ⟨⟨_, rfl⟩, rfl⟩
                · obtain rfl : nA = k8 := by omega
                  go_wp2
                  go_ret
                  exact ⟨⟨_, rfl⟩, rfl⟩
end Go.Proofs.Qxb6613151a
