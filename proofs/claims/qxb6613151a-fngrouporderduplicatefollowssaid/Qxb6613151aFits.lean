/-
  Seat b6613151a: bits.Mul64 (41), Fits (29), fit (24), OnlyLimited (14).
-/
import Derived.Test.Qxb6613151aSizes
namespace Go.Proofs.Qxb6613151a
open Go.ChangeShapes Go.WideShapes Go.ChangeAt Go.RowKit
set_option linter.unusedVariables false

theorem mul64_ex : ∃ h l : Int → Int → Int, ∀ x y w, Calls Try.prog 41 #[.int .u64 x, .int .u64 y] w fun e w' => e = .returned (.tuple #[.int .u64 (h x y), .int .u64 (l x y)]) ∧ w' = w := by
  apply Exists.intro
  apply Exists.intro
  intro x y w
  go_enter Try.func41, Try.ntmps41
  go_wp2
  go_ret2
  exact ⟨rfl, rfl⟩

noncomputable def mulHi : Int → Int → Int := Classical.choose mul64_ex
noncomputable def mulLo : Int → Int → Int := Classical.choose (Classical.choose_spec mul64_ex)
theorem mul64_any (x y : Int) (w : World) : Calls Try.prog 41 #[.int .u64 x, .int .u64 y] w fun e w' => e = .returned (.tuple #[.int .u64 (mulHi x y), .int .u64 (mulLo x y)]) ∧ w' = w :=
  Classical.choose_spec (Classical.choose_spec mul64_ex) x y w

/-- one resource of Fits. -/
noncomputable def fitStep (n c r : Int) : Int :=
  if r ≤ 0 then n
  else if 0 ≤ c ∧ (c < r ∨ n ≤ 0) then (if 0 < n then 0 else n)
  else if r = 1 then (if c < n then c else n)
  else if c < 0 ∨ mulHi (IntKind.u64.wrap n) (IntKind.u64.wrap r) ≠ 0 ∨ IntKind.u64.wrap c < mulLo (IntKind.u64.wrap n) (IntKind.u64.wrap r) then (if wrap64 (c.tdiv r) < n then wrap64 (c.tdiv r) else n) else n

noncomputable def fitsF (C Q : Nat → Int) : Nat → Int
  | 0 => 9223372036854775807
  | k + 1 => fitStep (fitsF C Q k) (C k) (Q k)

set_option maxHeartbeats 1000000 in
theorem fits_any (a b : Option Addr) (n m cn cm : Nat) (C Q : Nat → Int) (w : World) (hC : IsA encI w a n C) (hQ : IsA encI w b m Q) (hm : m ≤ n) (hn : n ≤ 1048576) :
    Calls Try.prog 29 #[.slice a n cn, .slice b m cm] w fun e w' => e = .returned (.int .i64 (fitsF C Q m)) ∧ w' = w := by
  go_enter Try.func29, Try.ntmps29
  go_wp2
  go_loop [5, 13] (fun x i => ∃ k : Nat, k ≤ m ∧ x = .int .i64 (fitsF C Q k) ∧ i = .int .i64 k) (fun _ i => m - (intOf i).toNat)
  case atStart => exact ⟨0, Nat.zero_le _, rfl, rfl⟩
  case round =>
    obtain ⟨k, hk, rfl, rfl⟩ := hrel
    by_cases hlt : k < m
    · rcases hC with hC | ⟨cb, co, rfl, hcb, hcc⟩
      · omega
      rcases hQ with hQ | ⟨qb, qo, rfl, hqb, hqc⟩
      · omega
      have h1 := hcc k (by omega)
      have h2 := hqc k hlt
      have hst : Hid (fitsF C Q (k + 1) = fitStep (fitsF C Q k) (C k) (Q k)) := rfl
      clear hcc hqc
      generalize C k = c at *
      generalize Q k = r at *
      generalize fitsF C Q k = x at *
      by_cases e1 : r ≤ 0
      · have d1 : decide (r ≤ 0) = true := decide_eq_true e1
        have hv : fitStep x c r = x := if_pos e1
        clear e1
        go_wp2
        go_round
        case rel => exact ⟨k + 1, by omega, by rw [hst.out, hv], by go_num⟩
        case measure => simp [intOf]; omega
      · have d1 : decide (r ≤ 0) = false := decide_eq_false e1
        by_cases e2 : 0 ≤ c ∧ (c < r ∨ x ≤ 0)
        · have hv : fitStep x c r = if 0 < x then 0 else x := by rw [fitStep, if_neg e1, if_pos e2]
          have d2 : decide (0 ≤ c) = true := decide_eq_true e2.1
          by_cases e3 : c < r
          · have d3 : decide (c < r) = true := decide_eq_true e3
            clear e1 e2 e3
            go_wp2
            go_round
            case rel => exact ⟨k + 1, by omega, by rw [hst.out, hv], by go_num⟩
            case measure => simp [intOf]; omega
          · have d3 : decide (c < r) = false := decide_eq_false e3
            have d4 : decide (x ≤ 0) = true := decide_eq_true (e2.2.resolve_left e3)
            clear e1 e2 e3
            go_wp2
            go_round
            case rel => exact ⟨k + 1, by omega, by rw [hst.out, hv], by go_num⟩
            case measure => simp [intOf]; omega
        · have hv0 : fitStep x c r = if r = 1 then (if c < x then c else x)
              else if c < 0 ∨ mulHi (IntKind.u64.wrap x) (IntKind.u64.wrap r) ≠ 0 ∨ IntKind.u64.wrap c < mulLo (IntKind.u64.wrap x) (IntKind.u64.wrap r) then (if wrap64 (c.tdiv r) < x then wrap64 (c.tdiv r) else x) else x := by rw [fitStep, if_neg e1, if_neg e2]
          have hr0 : ¬ r = 0 := by omega
          by_cases e5 : 0 ≤ c
          · have d2 : decide (0 ≤ c) = true := decide_eq_true e5
            have d3 : decide (c < r) = false := decide_eq_false (fun h => e2 ⟨e5, .inl h⟩)
            have d4 : decide (x ≤ 0) = false := decide_eq_false (fun h => e2 ⟨e5, .inr h⟩)
            have d5 : decide (c < 0) = false := decide_eq_false (by omega)
            by_cases e6 : r = 1
            · have d6 : (r == 1) = true := by simp [e6]
              have hv : Hid (fitStep x c r = if c < x then c else x) := by unfold Hid; rw [hv0, if_pos e6]
              clear e1 e2 e5 e6 hv0
              go_wp2
              go_round
              case rel => exact ⟨k + 1, by omega, by rw [hst.out, hv.out], by go_num⟩
              case measure => simp [intOf]; omega
            · have d6 : (r == 1) = false := by simp [e6]
              rw [if_neg e6] at hv0
              generalize hmh : mulHi (IntKind.u64.wrap x) (IntKind.u64.wrap r) = mh at hv0
              generalize hml : mulLo (IntKind.u64.wrap x) (IntKind.u64.wrap r) = ml at hv0
              by_cases e7 : mh = 0
              · have d7 : (mh != 0) = false := by simp [e7]
                by_cases e8 : IntKind.u64.wrap c < ml
                · have d8 : decide (IntKind.u64.wrap c < ml) = true := decide_eq_true e8
                  have hv : Hid (fitStep x c r = if wrap64 (c.tdiv r) < x then wrap64 (c.tdiv r) else x) := by
                    unfold Hid; rw [hv0, if_pos (.inr (.inr e8))]
                  clear e1 e2 e5 e6 e7 e8 hv0
                  go_wp2_with (go_at_call 41; refine (mul64_any _ _ _).mono ?_; rintro e w' ⟨rfl, rfl⟩)
                  go_round
                  case rel => exact ⟨k + 1, by omega, by rw [hst.out, hv.out], by go_num⟩
                  case measure => simp [intOf]; omega
                · have d8 : decide (IntKind.u64.wrap c < ml) = false := decide_eq_false e8
                  have hv : Hid (fitStep x c r = x) := by unfold Hid; rw [hv0, if_neg (fun h => h.elim (fun h => by omega) (fun h => h.elim (fun h => h e7) (fun h => e8 h)))]
                  clear e1 e2 e5 e6 e7 e8 hv0
                  go_wp2_with (go_at_call 41; refine (mul64_any _ _ _).mono ?_; rintro e w' ⟨rfl, rfl⟩)
                  go_round
                  case rel => exact ⟨k + 1, by omega, by rw [hst.out, hv.out], by go_num⟩
                  case measure => simp [intOf]; omega
              · have d7 : (mh != 0) = true := by simp [e7]
                have hv : Hid (fitStep x c r = if wrap64 (c.tdiv r) < x then wrap64 (c.tdiv r) else x) := by
                    unfold Hid; rw [hv0, if_pos (.inr (.inl e7))]
                clear e1 e2 e5 e6 e7 hv0
                go_wp2_with (go_at_call 41; refine (mul64_any _ _ _).mono ?_; rintro e w' ⟨rfl, rfl⟩)
                go_round
                case rel => exact ⟨k + 1, by omega, by rw [hst.out, hv.out], by go_num⟩
                case measure => simp [intOf]; omega
          · have d2 : decide (0 ≤ c) = false := decide_eq_false e5
            have d5 : decide (c < 0) = true := decide_eq_true (by omega)
            by_cases e6 : r = 1
            · have d6 : (r == 1) = true := by simp [e6]
              have hv : Hid (fitStep x c r = if c < x then c else x) := by unfold Hid; rw [hv0, if_pos e6]
              clear e1 e2 e5 e6 hv0
              go_wp2
              go_round
              case rel => exact ⟨k + 1, by omega, by rw [hst.out, hv.out], by go_num⟩
              case measure => simp [intOf]; omega
            · have d6 : (r == 1) = false := by simp [e6]
              have hv : Hid (fitStep x c r = if wrap64 (c.tdiv r) < x then wrap64 (c.tdiv r) else x) := by
                    unfold Hid; rw [hv0, if_neg e6, if_pos (.inl (by omega))]
              clear e1 e2 e5 e6 hv0
              go_wp2_with (go_at_call 41; refine (mul64_any _ _ _).mono ?_; rintro e w' ⟨rfl, rfl⟩)
              go_round
              case rel => exact ⟨k + 1, by omega, by rw [hst.out, hv.out], by go_num⟩
              case measure => simp [intOf]; omega
    · have e : k = m := by omega
      subst e
      go_wp2
      go_ret
      exact ⟨rfl, rfl⟩
end Go.Proofs.Qxb6613151a
