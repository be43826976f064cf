/-
  Seat b6609411a: zzBytes (20, 28): they answer, and bound the lengths.
-/
import Derived.Test.Qxb6609411aSmall
namespace Go.Proofs.Qxb6609411a
open Go.ChangeShapes Go.WideShapes Go.ChangeAt Go.RowKit
set_option linter.unusedVariables false

def ByG (ml mh ng no nb nf : Nat) (GO GB : Nat → ByteArray) (op obj : ByteArray) : Prop :=
  ((ml ≤ 1048576 ∧ mh ≤ 1048576) ∧ (ng ≤ 1048576 ∧ no ≤ 1048576) ∧ (nb ≤ 1048576 ∧ nf ≤ 1048576)) ∧ (op.size ≤ 1048576 ∧ obj.size ≤ 1048576) ∧ (∀ i, i < no → (GO i).size ≤ 1048576) ∧ ∀ i, i < nb → (GB i).size ≤ 1048576

set_option maxHeartbeats 8000000 in
set_option maxRecDepth 100000 in
theorem bytes20_any (n : Int) (al ah ag ao ab af : Option Addr) (ml cl mh ch ng cg no co nb cb nf cf : Nat) (GO GB : Nat → ByteArray) (op obj : ByteArray) (w : World)
    (hO : IsA encS w ao no GO) (hB : IsA encS w ab nb GB)
    (m0 : ml ≤ 9223372036854775807) (m1 : mh ≤ 9223372036854775807) (m2 : ng ≤ 9223372036854775807) (m3 : no ≤ 9223372036854775807) (m4 : nb ≤ 9223372036854775807) (m5 : nf ≤ 9223372036854775807) (m6 : op.size ≤ 9223372036854775807) (m7 : obj.size ≤ 9223372036854775807)
    (mO : ∀ i, i < no → (GO i).size ≤ 9223372036854775807) (mB : ∀ i, i < nb → (GB i).size ≤ 9223372036854775807) :
    Calls Try.prog 20 #[.int .i64 n, .slice al ml cl, .slice ah mh ch, .slice ag ng cg, .slice ao no co, .slice ab nb cb, .slice af nf cf, .string op, .string obj] w fun e w' => YesIf (ByG ml mh ng no nb nf GO GB op obj) e ∧ w' = w := by
  have HO : Hid (IsA encS w ao no GO) := hO
  have HB : Hid (IsA encS w ab nb GB) := hB
  clear hO hB
  go_enter Try.func20, Try.ntmps20
  by_cases a1 : (ml : Int) ≤ 1048576
  · by_cases b1 : (ml : Int) ≤ 1048576
    · have z1 : True := trivial
      have d2 : decide ((1048576 : Int) < (ml : Int)) = false := decide_eq_false (by omega)
      by_cases a3 : (mh : Int) ≤ 1048576
      · by_cases b3 : (ml : Int) + (mh : Int) ≤ 1048576
        · have z3 : True := trivial
          have d4 : decide ((1048576 : Int) < (mh : Int)) = false := decide_eq_false (by omega)
          have d5 : decide ((1048576 : Int) < (ml : Int) + (mh : Int)) = false := decide_eq_false (by omega)
          by_cases a6 : (ng : Int) ≤ 1048576
          · by_cases b6 : (ml : Int) + (mh : Int) + (ng : Int) ≤ 1048576
            · have z6 : True := trivial
              have d7 : decide ((1048576 : Int) < (ng : Int)) = false := decide_eq_false (by omega)
              have d8 : decide ((1048576 : Int) < (ml : Int) + (mh : Int) + (ng : Int)) = false := decide_eq_false (by omega)
              by_cases a9 : (no : Int) ≤ 1048576
              · by_cases b9 : (ml : Int) + (mh : Int) + (ng : Int) + (no : Int) ≤ 1048576
                · have z9 : True := trivial
                  have d10 : decide ((1048576 : Int) < (no : Int)) = false := decide_eq_false (by omega)
                  have d11 : decide ((1048576 : Int) < (ml : Int) + (mh : Int) + (ng : Int) + (no : Int)) = false := decide_eq_false (by omega)
                  go_wp2
                  go_loop [19, 20] (fun z i => ∃ (k : Nat) (t : Int), k ≤ no ∧ z = .int .i64 t ∧ i = .int .i64 k ∧ 0 ≤ t ∧ t ≤ 1048576 ∧ ∀ i, i < k → (GO i).size ≤ 1048576) (fun _ i => no - (intOf i).toNat)
                  case atStart => exact ⟨0, _, Nat.zero_le _, rfl, rfl, by omega, by omega, fun i hi => absurd hi (Nat.not_lt_zero _)⟩
                  case round =>
                    obtain ⟨k12, t12, hk12, rfl, rfl, ht12, hu12, hall12⟩ := hrel
                    have HALL12 : Hid (∀ i, i < k12 → (GO i).size ≤ 1048576) := hall12
                    clear hall12
                    by_cases hlt12 : k12 < no
                    · rcases HO.out with h0 | ⟨b, off, rfl, hb, hcc⟩
                      · omega
                      have k1 := hcc k12 hlt12
                      have hm := mO k12 hlt12
                      clear hcc
                      have ik0 : (0 : Int) ≤ k12 := by omega
                      have ik1 : (k12 : Int) < no := by omega
                      generalize hNX : GO k12 = nx at *
                      by_cases a1 : (nx.size : Int) ≤ 1048576
                      · by_cases b1 : t12 + (nx.size : Int) ≤ 1048576
                        · have e1 : decide ((1048576 : Int) < nx.size) = false := decide_eq_false (by omega)
                          have e2 : decide ((1048576 : Int) < t12 + nx.size) = false := decide_eq_false (by omega)
                          go_wp2
                          go_round
                          case rel => exact ⟨k12 + 1, t12 + nx.size, by omega, by go_num, by go_num, by omega, by omega, fun i hi => by
                            by_cases e : i = k12
                            · rw [e, hNX]; omega
                            · exact HALL12.out i (by omega)⟩
                          case measure => simp [intOf]; omega
                        · have e1 : decide ((1048576 : Int) < nx.size) = false := decide_eq_false (by omega)
                          have e2 : decide ((1048576 : Int) < t12 + nx.size) = true := decide_eq_true (by omega)
                          go_wp2
                          go_ret
                          exact ⟨YesIf.no, rfl⟩
                      · have e1 : decide ((1048576 : Int) < nx.size) = true := decide_eq_true (by omega)
                        go_wp2
                        go_ret
                        exact ⟨YesIf.no, rfl⟩
                    · obtain rfl : no = k12 := by omega
                      by_cases a13 : (nb : Int) ≤ 1048576
                      · by_cases b13 : t12 + (nb : Int) ≤ 1048576
                        · have z13 : True := trivial
                          have d14 : decide ((1048576 : Int) < (nb : Int)) = false := decide_eq_false (by omega)
                          have d15 : decide ((1048576 : Int) < t12 + (nb : Int)) = false := decide_eq_false (by omega)
                          go_wp2
                          go_loop [19, 21] (fun z i => ∃ (k : Nat) (t : Int), k ≤ nb ∧ z = .int .i64 t ∧ i = .int .i64 k ∧ 0 ≤ t ∧ t ≤ 1048576 ∧ ∀ i, i < k → (GB i).size ≤ 1048576) (fun _ i => nb - (intOf i).toNat)
                          case atStart => exact ⟨0, _, Nat.zero_le _, rfl, rfl, by omega, by omega, fun i hi => absurd hi (Nat.not_lt_zero _)⟩
                          case round =>
                            obtain ⟨k16, t16, hk16, rfl, rfl, ht16, hu16, hall16⟩ := hrel
                            have HALL16 : Hid (∀ i, i < k16 → (GB i).size ≤ 1048576) := hall16
                            clear hall16
                            by_cases hlt16 : k16 < nb
                            · rcases HB.out with h0 | ⟨b, off, rfl, hb, hcc⟩
                              · omega
                              have k1 := hcc k16 hlt16
                              have hm := mB k16 hlt16
                              clear hcc
                              have ik0 : (0 : Int) ≤ k16 := by omega
                              have ik1 : (k16 : Int) < nb := by omega
                              generalize hNX : GB k16 = nx at *
                              by_cases a1 : (nx.size : Int) ≤ 1048576
                              · by_cases b1 : t16 + (nx.size : Int) ≤ 1048576
                                · have e1 : decide ((1048576 : Int) < nx.size) = false := decide_eq_false (by omega)
                                  have e2 : decide ((1048576 : Int) < t16 + nx.size) = false := decide_eq_false (by omega)
                                  go_wp2
                                  go_round
                                  case rel => exact ⟨k16 + 1, t16 + nx.size, by omega, by go_num, by go_num, by omega, by omega, fun i hi => by
                                    by_cases e : i = k16
                                    · rw [e, hNX]; omega
                                    · exact HALL16.out i (by omega)⟩
                                  case measure => simp [intOf]; omega
                                · have e1 : decide ((1048576 : Int) < nx.size) = false := decide_eq_false (by omega)
                                  have e2 : decide ((1048576 : Int) < t16 + nx.size) = true := decide_eq_true (by omega)
                                  go_wp2
                                  go_ret
                                  exact ⟨YesIf.no, rfl⟩
                              · have e1 : decide ((1048576 : Int) < nx.size) = true := decide_eq_true (by omega)
                                go_wp2
                                go_ret
                                exact ⟨YesIf.no, rfl⟩
                            · obtain rfl : nb = k16 := by omega
                              by_cases a17 : (nf : Int) ≤ 1048576
                              · by_cases b17 : t16 + (nf : Int) ≤ 1048576
                                · have z17 : True := trivial
                                  have d18 : decide ((1048576 : Int) < (nf : Int)) = false := decide_eq_false (by omega)
                                  have d19 : decide ((1048576 : Int) < t16 + (nf : Int)) = false := decide_eq_false (by omega)
                                  by_cases a20 : (op.size : Int) ≤ 1048576
                                  · by_cases b20 : t16 + (nf : Int) + (op.size : Int) ≤ 1048576
                                    · have z20 : True := trivial
                                      have d21 : decide ((1048576 : Int) < (op.size : Int)) = false := decide_eq_false (by omega)
                                      have d22 : decide ((1048576 : Int) < t16 + (nf : Int) + (op.size : Int)) = false := decide_eq_false (by omega)
                                      by_cases a23 : (obj.size : Int) ≤ 1048576
                                      · by_cases b23 : t16 + (nf : Int) + (op.size : Int) + (obj.size : Int) ≤ 1048576
                                        · have z23 : True := trivial
                                          have d24 : decide ((1048576 : Int) < (obj.size : Int)) = false := decide_eq_false (by omega)
                                          have d25 : decide ((1048576 : Int) < t16 + (nf : Int) + (op.size : Int) + (obj.size : Int)) = false := decide_eq_false (by omega)
                                          go_wp2
                                          go_ret
                                          exact ⟨YesIf.yes ⟨⟨⟨by omega, by omega⟩, ⟨by omega, by omega⟩, ⟨by omega, by omega⟩⟩, ⟨by omega, by omega⟩, HALL12.out, HALL16.out⟩, rfl⟩
                                        · have z23 : True := trivial
                                          have d26 : decide ((1048576 : Int) < (obj.size : Int)) = false := decide_eq_false (by omega)
                                          have d27 : decide ((1048576 : Int) < t16 + (nf : Int) + (op.size : Int) + (obj.size : Int)) = true := decide_eq_true (by omega)
                                          go_wp2
                                          go_ret
                                          exact ⟨YesIf.no, rfl⟩
                                      · have z23 : True := trivial
                                        have d28 : decide ((1048576 : Int) < (obj.size : Int)) = true := decide_eq_true (by omega)
                                        go_wp2
                                        go_ret
                                        exact ⟨YesIf.no, rfl⟩
                                    · have z20 : True := trivial
                                      have d29 : decide ((1048576 : Int) < (op.size : Int)) = false := decide_eq_false (by omega)
                                      have d30 : decide ((1048576 : Int) < t16 + (nf : Int) + (op.size : Int)) = true := decide_eq_true (by omega)
                                      go_wp2
                                      go_ret
                                      exact ⟨YesIf.no, rfl⟩
                                  · have z20 : True := trivial
                                    have d31 : decide ((1048576 : Int) < (op.size : Int)) = true := decide_eq_true (by omega)
                                    go_wp2
                                    go_ret
                                    exact ⟨YesIf.no, rfl⟩
                                · have z17 : True := trivial
                                  have d32 : decide ((1048576 : Int) < (nf : Int)) = false := decide_eq_false (by omega)
                                  have d33 : decide ((1048576 : Int) < t16 + (nf : Int)) = true := decide_eq_true (by omega)
                                  go_wp2
                                  go_ret
                                  exact ⟨YesIf.no, rfl⟩
                              · have z17 : True := trivial
                                have d34 : decide ((1048576 : Int) < (nf : Int)) = true := decide_eq_true (by omega)
                                go_wp2
                                go_ret
                                exact ⟨YesIf.no, rfl⟩
                        · have z13 : True := trivial
                          have d35 : decide ((1048576 : Int) < (nb : Int)) = false := decide_eq_false (by omega)
                          have d36 : decide ((1048576 : Int) < t12 + (nb : Int)) = true := decide_eq_true (by omega)
                          go_wp2
                          go_ret
                          exact ⟨YesIf.no, rfl⟩
                      · have z13 : True := trivial
                        have d37 : decide ((1048576 : Int) < (nb : Int)) = true := decide_eq_true (by omega)
                        go_wp2
                        go_ret
                        exact ⟨YesIf.no, rfl⟩
                · have z9 : True := trivial
                  have d38 : decide ((1048576 : Int) < (no : Int)) = false := decide_eq_false (by omega)
                  have d39 : decide ((1048576 : Int) < (ml : Int) + (mh : Int) + (ng : Int) + (no : Int)) = true := decide_eq_true (by omega)
                  go_wp2
                  go_ret
                  exact ⟨YesIf.no, rfl⟩
              · have z9 : True := trivial
                have d40 : decide ((1048576 : Int) < (no : Int)) = true := decide_eq_true (by omega)
                go_wp2
                go_ret
                exact ⟨YesIf.no, rfl⟩
            · have z6 : True := trivial
              have d41 : decide ((1048576 : Int) < (ng : Int)) = false := decide_eq_false (by omega)
              have d42 : decide ((1048576 : Int) < (ml : Int) + (mh : Int) + (ng : Int)) = true := decide_eq_true (by omega)
              go_wp2
              go_ret
              exact ⟨YesIf.no, rfl⟩
          · have z6 : True := trivial
            have d43 : decide ((1048576 : Int) < (ng : Int)) = true := decide_eq_true (by omega)
            go_wp2
            go_ret
            exact ⟨YesIf.no, rfl⟩
        · have z3 : True := trivial
          have d44 : decide ((1048576 : Int) < (mh : Int)) = false := decide_eq_false (by omega)
          have d45 : decide ((1048576 : Int) < (ml : Int) + (mh : Int)) = true := decide_eq_true (by omega)
          go_wp2
          go_ret
          exact ⟨YesIf.no, rfl⟩
      · have z3 : True := trivial
        have d46 : decide ((1048576 : Int) < (mh : Int)) = true := decide_eq_true (by omega)
        go_wp2
        go_ret
        exact ⟨YesIf.no, rfl⟩
    · omega
  · have z1 : True := trivial
    have d47 : decide ((1048576 : Int) < (ml : Int)) = true := decide_eq_true (by omega)
    go_wp2
    go_ret
    exact ⟨YesIf.no, rfl⟩

set_option maxHeartbeats 8000000 in
set_option maxRecDepth 100000 in
theorem bytes28_any (n : Int) (al ah ag ao ab af : Option Addr) (ml cl mh ch ng cg no co nb cb nf cf : Nat) (GO GB : Nat → ByteArray) (op obj : ByteArray) (w : World)
    (hO : IsA encS w ao no GO) (hB : IsA encS w ab nb GB)
    (m0 : ml ≤ 9223372036854775807) (m1 : mh ≤ 9223372036854775807) (m2 : ng ≤ 9223372036854775807) (m3 : no ≤ 9223372036854775807) (m4 : nb ≤ 9223372036854775807) (m5 : nf ≤ 9223372036854775807) (m6 : op.size ≤ 9223372036854775807) (m7 : obj.size ≤ 9223372036854775807)
    (mO : ∀ i, i < no → (GO i).size ≤ 9223372036854775807) (mB : ∀ i, i < nb → (GB i).size ≤ 9223372036854775807) :
    Calls Try.prog 28 #[.int .i64 n, .slice al ml cl, .slice ah mh ch, .slice ag ng cg, .slice ao no co, .slice ab nb cb, .slice af nf cf, .string op, .string obj] w fun e w' => YesIf (ByG ml mh ng no nb nf GO GB op obj) e ∧ w' = w := by
  have HO : Hid (IsA encS w ao no GO) := hO
  have HB : Hid (IsA encS w ab nb GB) := hB
  clear hO hB
  go_enter Try.func28, Try.ntmps28
  by_cases a1 : (ml : Int) ≤ 1048576
  · by_cases b1 : (ml : Int) ≤ 1048576
    · have z1 : True := trivial
      have d2 : decide ((1048576 : Int) < (ml : Int)) = false := decide_eq_false (by omega)
      by_cases a3 : (mh : Int) ≤ 1048576
      · by_cases b3 : (ml : Int) + (mh : Int) ≤ 1048576
        · have z3 : True := trivial
          have d4 : decide ((1048576 : Int) < (mh : Int)) = false := decide_eq_false (by omega)
          have d5 : decide ((1048576 : Int) < (ml : Int) + (mh : Int)) = false := decide_eq_false (by omega)
          by_cases a6 : (ng : Int) ≤ 1048576
          · by_cases b6 : (ml : Int) + (mh : Int) + (ng : Int) ≤ 1048576
            · have z6 : True := trivial
              have d7 : decide ((1048576 : Int) < (ng : Int)) = false := decide_eq_false (by omega)
              have d8 : decide ((1048576 : Int) < (ml : Int) + (mh : Int) + (ng : Int)) = false := decide_eq_false (by omega)
              by_cases a9 : (no : Int) ≤ 1048576
              · by_cases b9 : (ml : Int) + (mh : Int) + (ng : Int) + (no : Int) ≤ 1048576
                · have z9 : True := trivial
                  have d10 : decide ((1048576 : Int) < (no : Int)) = false := decide_eq_false (by omega)
                  have d11 : decide ((1048576 : Int) < (ml : Int) + (mh : Int) + (ng : Int) + (no : Int)) = false := decide_eq_false (by omega)
                  go_wp2
                  go_loop [19, 20] (fun z i => ∃ (k : Nat) (t : Int), k ≤ no ∧ z = .int .i64 t ∧ i = .int .i64 k ∧ 0 ≤ t ∧ t ≤ 1048576 ∧ ∀ i, i < k → (GO i).size ≤ 1048576) (fun _ i => no - (intOf i).toNat)
                  case atStart => exact ⟨0, _, Nat.zero_le _, rfl, rfl, by omega, by omega, fun i hi => absurd hi (Nat.not_lt_zero _)⟩
                  case round =>
                    obtain ⟨k12, t12, hk12, rfl, rfl, ht12, hu12, hall12⟩ := hrel
                    have HALL12 : Hid (∀ i, i < k12 → (GO i).size ≤ 1048576) := hall12
                    clear hall12
                    by_cases hlt12 : k12 < no
                    · rcases HO.out with h0 | ⟨b, off, rfl, hb, hcc⟩
                      · omega
                      have k1 := hcc k12 hlt12
                      have hm := mO k12 hlt12
                      clear hcc
                      have ik0 : (0 : Int) ≤ k12 := by omega
                      have ik1 : (k12 : Int) < no := by omega
                      generalize hNX : GO k12 = nx at *
                      by_cases a1 : (nx.size : Int) ≤ 1048576
                      · by_cases b1 : t12 + (nx.size : Int) ≤ 1048576
                        · have e1 : decide ((1048576 : Int) < nx.size) = false := decide_eq_false (by omega)
                          have e2 : decide ((1048576 : Int) < t12 + nx.size) = false := decide_eq_false (by omega)
                          go_wp2
                          go_round
                          case rel => exact ⟨k12 + 1, t12 + nx.size, by omega, by go_num, by go_num, by omega, by omega, fun i hi => by
                            by_cases e : i = k12
                            · rw [e, hNX]; omega
                            · exact HALL12.out i (by omega)⟩
                          case measure => simp [intOf]; omega
                        · have e1 : decide ((1048576 : Int) < nx.size) = false := decide_eq_false (by omega)
                          have e2 : decide ((1048576 : Int) < t12 + nx.size) = true := decide_eq_true (by omega)
                          go_wp2
                          go_ret
                          exact ⟨YesIf.no, rfl⟩
                      · have e1 : decide ((1048576 : Int) < nx.size) = true := decide_eq_true (by omega)
                        go_wp2
                        go_ret
                        exact ⟨YesIf.no, rfl⟩
                    · obtain rfl : no = k12 := by omega
                      by_cases a13 : (nb : Int) ≤ 1048576
                      · by_cases b13 : t12 + (nb : Int) ≤ 1048576
                        · have z13 : True := trivial
                          have d14 : decide ((1048576 : Int) < (nb : Int)) = false := decide_eq_false (by omega)
                          have d15 : decide ((1048576 : Int) < t12 + (nb : Int)) = false := decide_eq_false (by omega)
                          go_wp2
                          go_loop [19, 21] (fun z i => ∃ (k : Nat) (t : Int), k ≤ nb ∧ z = .int .i64 t ∧ i = .int .i64 k ∧ 0 ≤ t ∧ t ≤ 1048576 ∧ ∀ i, i < k → (GB i).size ≤ 1048576) (fun _ i => nb - (intOf i).toNat)
                          case atStart => exact ⟨0, _, Nat.zero_le _, rfl, rfl, by omega, by omega, fun i hi => absurd hi (Nat.not_lt_zero _)⟩
                          case round =>
                            obtain ⟨k16, t16, hk16, rfl, rfl, ht16, hu16, hall16⟩ := hrel
                            have HALL16 : Hid (∀ i, i < k16 → (GB i).size ≤ 1048576) := hall16
                            clear hall16
                            by_cases hlt16 : k16 < nb
                            · rcases HB.out with h0 | ⟨b, off, rfl, hb, hcc⟩
                              · omega
                              have k1 := hcc k16 hlt16
                              have hm := mB k16 hlt16
                              clear hcc
                              have ik0 : (0 : Int) ≤ k16 := by omega
                              have ik1 : (k16 : Int) < nb := by omega
                              generalize hNX : GB k16 = nx at *
                              by_cases a1 : (nx.size : Int) ≤ 1048576
                              · by_cases b1 : t16 + (nx.size : Int) ≤ 1048576
                                · have e1 : decide ((1048576 : Int) < nx.size) = false := decide_eq_false (by omega)
                                  have e2 : decide ((1048576 : Int) < t16 + nx.size) = false := decide_eq_false (by omega)
                                  go_wp2
                                  go_round
                                  case rel => exact ⟨k16 + 1, t16 + nx.size, by omega, by go_num, by go_num, by omega, by omega, fun i hi => by
                                    by_cases e : i = k16
                                    · rw [e, hNX]; omega
                                    · exact HALL16.out i (by omega)⟩
                                  case measure => simp [intOf]; omega
                                · have e1 : decide ((1048576 : Int) < nx.size) = false := decide_eq_false (by omega)
                                  have e2 : decide ((1048576 : Int) < t16 + nx.size) = true := decide_eq_true (by omega)
                                  go_wp2
                                  go_ret
                                  exact ⟨YesIf.no, rfl⟩
                              · have e1 : decide ((1048576 : Int) < nx.size) = true := decide_eq_true (by omega)
                                go_wp2
                                go_ret
                                exact ⟨YesIf.no, rfl⟩
                            · obtain rfl : nb = k16 := by omega
                              by_cases a17 : (nf : Int) ≤ 1048576
                              · by_cases b17 : t16 + (nf : Int) ≤ 1048576
                                · have z17 : True := trivial
                                  have d18 : decide ((1048576 : Int) < (nf : Int)) = false := decide_eq_false (by omega)
                                  have d19 : decide ((1048576 : Int) < t16 + (nf : Int)) = false := decide_eq_false (by omega)
                                  by_cases a20 : (op.size : Int) ≤ 1048576
                                  · by_cases b20 : t16 + (nf : Int) + (op.size : Int) ≤ 1048576
                                    · have z20 : True := trivial
                                      have d21 : decide ((1048576 : Int) < (op.size : Int)) = false := decide_eq_false (by omega)
                                      have d22 : decide ((1048576 : Int) < t16 + (nf : Int) + (op.size : Int)) = false := decide_eq_false (by omega)
                                      by_cases a23 : (obj.size : Int) ≤ 1048576
                                      · by_cases b23 : t16 + (nf : Int) + (op.size : Int) + (obj.size : Int) ≤ 1048576
                                        · have z23 : True := trivial
                                          have d24 : decide ((1048576 : Int) < (obj.size : Int)) = false := decide_eq_false (by omega)
                                          have d25 : decide ((1048576 : Int) < t16 + (nf : Int) + (op.size : Int) + (obj.size : Int)) = false := decide_eq_false (by omega)
                                          go_wp2
                                          go_ret
                                          exact ⟨YesIf.yes ⟨⟨⟨by omega, by omega⟩, ⟨by omega, by omega⟩, ⟨by omega, by omega⟩⟩, ⟨by omega, by omega⟩, HALL12.out, HALL16.out⟩, rfl⟩
                                        · have z23 : True := trivial
                                          have d26 : decide ((1048576 : Int) < (obj.size : Int)) = false := decide_eq_false (by omega)
                                          have d27 : decide ((1048576 : Int) < t16 + (nf : Int) + (op.size : Int) + (obj.size : Int)) = true := decide_eq_true (by omega)
                                          go_wp2
                                          go_ret
                                          exact ⟨YesIf.no, rfl⟩
                                      · have z23 : True := trivial
                                        have d28 : decide ((1048576 : Int) < (obj.size : Int)) = true := decide_eq_true (by omega)
                                        go_wp2
                                        go_ret
                                        exact ⟨YesIf.no, rfl⟩
                                    · have z20 : True := trivial
                                      have d29 : decide ((1048576 : Int) < (op.size : Int)) = false := decide_eq_false (by omega)
                                      have d30 : decide ((1048576 : Int) < t16 + (nf : Int) + (op.size : Int)) = true := decide_eq_true (by omega)
                                      go_wp2
                                      go_ret
                                      exact ⟨YesIf.no, rfl⟩
                                  · have z20 : True := trivial
                                    have d31 : decide ((1048576 : Int) < (op.size : Int)) = true := decide_eq_true (by omega)
                                    go_wp2
                                    go_ret
                                    exact ⟨YesIf.no, rfl⟩
                                · have z17 : True := trivial
                                  have d32 : decide ((1048576 : Int) < (nf : Int)) = false := decide_eq_false (by omega)
                                  have d33 : decide ((1048576 : Int) < t16 + (nf : Int)) = true := decide_eq_true (by omega)
                                  go_wp2
                                  go_ret
                                  exact ⟨YesIf.no, rfl⟩
                              · have z17 : True := trivial
                                have d34 : decide ((1048576 : Int) < (nf : Int)) = true := decide_eq_true (by omega)
                                go_wp2
                                go_ret
                                exact ⟨YesIf.no, rfl⟩
                        · have z13 : True := trivial
                          have d35 : decide ((1048576 : Int) < (nb : Int)) = false := decide_eq_false (by omega)
                          have d36 : decide ((1048576 : Int) < t12 + (nb : Int)) = true := decide_eq_true (by omega)
                          go_wp2
                          go_ret
                          exact ⟨YesIf.no, rfl⟩
                      · have z13 : True := trivial
                        have d37 : decide ((1048576 : Int) < (nb : Int)) = true := decide_eq_true (by omega)
                        go_wp2
                        go_ret
                        exact ⟨YesIf.no, rfl⟩
                · have z9 : True := trivial
                  have d38 : decide ((1048576 : Int) < (no : Int)) = false := decide_eq_false (by omega)
                  have d39 : decide ((1048576 : Int) < (ml : Int) + (mh : Int) + (ng : Int) + (no : Int)) = true := decide_eq_true (by omega)
                  go_wp2
                  go_ret
                  exact ⟨YesIf.no, rfl⟩
              · have z9 : True := trivial
                have d40 : decide ((1048576 : Int) < (no : Int)) = true := decide_eq_true (by omega)
                go_wp2
                go_ret
                exact ⟨YesIf.no, rfl⟩
            · have z6 : True := trivial
              have d41 : decide ((1048576 : Int) < (ng : Int)) = false := decide_eq_false (by omega)
              have d42 : decide ((1048576 : Int) < (ml : Int) + (mh : Int) + (ng : Int)) = true := decide_eq_true (by omega)
              go_wp2
              go_ret
              exact ⟨YesIf.no, rfl⟩
          · have z6 : True := trivial
            have d43 : decide ((1048576 : Int) < (ng : Int)) = true := decide_eq_true (by omega)
            go_wp2
            go_ret
            exact ⟨YesIf.no, rfl⟩
        · have z3 : True := trivial
          have d44 : decide ((1048576 : Int) < (mh : Int)) = false := decide_eq_false (by omega)
          have d45 : decide ((1048576 : Int) < (ml : Int) + (mh : Int)) = true := decide_eq_true (by omega)
          go_wp2
          go_ret
          exact ⟨YesIf.no, rfl⟩
      · have z3 : True := trivial
        have d46 : decide ((1048576 : Int) < (mh : Int)) = true := decide_eq_true (by omega)
        go_wp2
        go_ret
        exact ⟨YesIf.no, rfl⟩
    · omega
  · have z1 : True := trivial
    have d47 : decide ((1048576 : Int) < (ml : Int)) = true := decide_eq_true (by omega)
    go_wp2
    go_ret
    exact ⟨YesIf.no, rfl⟩
end Go.Proofs.Qxb6609411a
