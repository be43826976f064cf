/-
  Seat b6606341a: modelChanged (function 9).
-/
import Derived.Test.Qxb6606341aChanged
namespace Go.Proofs.Qxb6606341a
open Go.ChangeShapes Go.WideShapes Go.ChangeAt Go.RowKit
set_option linter.unusedVariables false

theorem minInt_N (a b N : Nat) (h : Hid (N = min a b)) (w : World) :
    Calls Try.prog 13 #[.int .i64 a, .int .i64 b] w fun e w' => e = .returned (.int .i64 N) ∧ w = w' := by
  rw [h.out]; exact (minInt_any a b w).mono fun e w' h => ⟨h.1, h.2.symm⟩

theorem lastNL_yes (X : Nat → Int) (k : Nat) (h : X k = 10) : lastNL X (k + 1) = k + 1 := by simp [lastNL, h]
theorem lastNL_no (X : Nat → Int) (k : Nat) (h : ¬ X k = 10) : lastNL X (k + 1) = lastNL X k := by simp [lastNL, h]
theorem val_int {a b : Int} (h : a = b) : Value.int .i64 a = Value.int .i64 b := by rw [h]

/-- what loop 3 knows behind s rounds. -/
def Best (X Y : Nat → Int) (n0 n1 b s : Nat) : Prop := b ≤ s ∧ (0 < b → Both X Y n0 n1 b) ∧ NoBoth X Y n0 n1 b s
theorem Best.zero (X Y : Nat → Int) (n0 n1 : Nat) : Best X Y n0 n1 0 0 := ⟨Nat.le_refl _, fun h => absurd h (Nat.lt_irrefl _), fun s h1 h2 => absurd h1 (by omega)⟩
theorem Best.yes {X Y : Nat → Int} {n0 n1 b s : Nat} (h : Best X Y n0 n1 b s) (k : Both X Y n0 n1 (s + 1)) : Best X Y n0 n1 (s + 1) (s + 1) :=
  ⟨Nat.le_refl _, fun _ => k, fun r h1 h2 => absurd h1 (by omega)⟩
theorem Best.no {X Y : Nat → Int} {n0 n1 b s : Nat} (h : Best X Y n0 n1 b s) (k : ¬ Both X Y n0 n1 (s + 1)) : Best X Y n0 n1 b (s + 1) := by
  refine ⟨Nat.le_succ_of_le h.1, h.2.1, fun r h1 h2 => ?_⟩
  by_cases e : r = s + 1
  · subst e; exact k
  · exact h.2.2 r h1 (by omega)

set_option maxHeartbeats 1600000 in
theorem model_any (a0 : Option Addr) (n0 c0 : Nat) (X : Nat → Int) (a1 : Option Addr) (n1 c1 : Nat) (Y : Nat → Int) (w : World) (hX : IsB w a0 n0 X) (hY : IsB w a1 n1 Y)
    (h0 : n0 ≤ 524288) (h1 : n1 ≤ 524288) (hc0 : n0 ≤ c0) (hc1 : n1 ≤ c1) :
    Calls Try.prog 9 #[.slice a0 n0 c0, .slice a1 n1 c1] w fun e w' => (∃ st en ee : Nat, CL X Y n0 n1 st en ee ∧ e = .returned (.tuple #[.int .i64 st, .int .i64 en, .int .i64 ee])) ∧ ∃ m, w' = w.drewN m := by
  obtain ⟨N, hN, hN0, hN1, hNm⟩ : ∃ N, Hid (N = min n0 n1) ∧ N ≤ n0 ∧ N ≤ n1 ∧ (n0 ≤ N ∨ n1 ≤ N) := ⟨min n0 n1, rfl, by omega, by omega, by omega⟩
  go_enter Try.func9, Try.ntmps9
  go_wp2_with (go_at_call 13; refine (minInt_N _ _ N hN _).mono ?_; rintro e w' ⟨rfl, rfl⟩)
  go_loopw [8] (fun i wr => ∃ k m : Nat, k ≤ N ∧ i = .int .i64 k ∧ Pre X Y k ∧ wr = w.drewN m) (fun i _ => n0 - (intOf i).toNat)
  case atStart => exact ⟨0, 0, Nat.zero_le _, rfl, fun j h => absurd h (Nat.not_lt_zero _), rfl⟩
  case round =>
    obtain ⟨p, m, hp, rfl, hpre, rfl⟩ := hrel
    by_cases hlt : p < N ∧ X p = Y p
    · obtain ⟨hl0, hxy⟩ := hlt
      rcases hX with hX | ⟨b0, o0, rfl, hb0, hcx⟩
      · omega
      rcases hY with hY | ⟨b1, o1, rfl, hb1, hcy⟩
      · omega
      have hx := hcx p (by omega)
      have hy := hcy p (by omega)
      have hpre' := hpre.succ hxy
      have he : (X p == Y p) = true := by simp [hxy]
      have hl1 : p < n0 := by omega
      have hl2 : p < n1 := by omega
      clear hxy hcx hcy hpre
      go_wp2
      go_quiet (fail)
      go_wp2
      go_roundw
      case rel => exact ⟨p + 1, _, by omega, by go_num, hpre', rfl⟩
      case measure => simp [intOf]; omega
    · have HP : IsP X Y n0 n1 p := ⟨by omega, by omega, hpre, fun h1 h2 h3 => hlt ⟨by omega, h3⟩⟩
      have kX := hX
      have kY := hY
      by_cases hl : p < N
      focus
        have hxy : ¬ X p = Y p := fun h => hlt ⟨hl, h⟩
        clear hlt
        rcases hX with hX | ⟨b0, o0, rfl, hb0, hcx⟩
        · omega
        rcases hY with hY | ⟨b1, o1, rfl, hb1, hcy⟩
        · omega
        have hx := hcx p (by omega)
        have hy := hcy p (by omega)
        have hl1 : p < n0 := by omega
        have hl2 : p < n1 := by omega
        have he : (X p == Y p) = false := by simp [hxy]
        clear hxy hcx hcy hpre hb0 hb1
        go_wp2
        go_quiet (fail)
        go_wp2
        clear hx hy he hl1 hl2
      rotate_left
      focus
        clear hlt hX hY
        have hq : decide (p < N) = false := decide_eq_false (by omega)
        go_wp2
        go_quiet (fail)
        go_wp2
        clear hq
      all_goals
        clear hl
        go_loopw [9, 10] (fun st i wr => ∃ k m : Nat, k ≤ p ∧ i = .int .i64 k ∧ st = .int .i64 (lastNL X k) ∧ wr = w.drewN m) (fun _ i _ => p - (intOf i).toNat)
        case atStart => exact ⟨0, _, Nat.zero_le _, rfl, rfl, World.drewN_drewN _ _ _⟩
        case round =>
          obtain ⟨k, m, hk, rfl, rfl, rfl⟩ := hrel
          have hlk := lastNL_le X k
          by_cases hlt : k < p
          · rcases kX with kX | ⟨b0, o0, ha0, hb0, hcx⟩
            · omega
            first | subst ha0 | (cases ha0)
            have hx := hcx k (by omega)
            have hl1 : k < n0 := by omega
            clear hcx hb0
            by_cases hn : X k = 10
            · have hy := lastNL_yes X k hn
              have HY : Hid (lastNL X (k + 1) = k + 1) := hy
              have he : (X k == 10) = true := by simp [hn]
              clear hn hy
              go_wp2
              go_roundw
              case rel => exact ⟨k + 1, _, by omega, by go_num, by rw [HY.out]; go_num, rfl⟩
              case measure => simp [intOf]; omega
            · have hy := lastNL_no X k hn
              have HY : Hid (lastNL X (k + 1) = lastNL X k) := hy
              have he : (X k == 10) = false := by simp [hn]
              clear hn hy
              go_wp2
              go_roundw
              case rel => exact ⟨k + 1, _, by omega, by go_num, by rw [HY.out], rfl⟩
              case measure => simp [intOf]; omega
          · have e : k = p := by omega
            subst e
            go_wp2
            go_loopw [11, 12] (fun b i wr => ∃ b' s m : Nat, k + s ≤ N ∧ i = .int .i64 ((s : Int) + 1) ∧ b = .int .i64 b' ∧ Suf X Y n0 n1 s ∧ Best X Y n0 n1 b' s ∧ wr = w.drewN m) (fun _ i _ => n0 + 1 - (intOf i).toNat)
            case atStart => exact ⟨0, 0, _, by omega, rfl, rfl, fun j h => absurd h (Nat.not_lt_zero _), Best.zero X Y n0 n1, rfl⟩
            case round =>
              obtain ⟨b, s, m, hs, rfl, rfl, hsuf, hbest, rfl⟩ := hrel
              have hbs := hbest.1
              by_cases hsN : k + s < N
              · have jX := kX
                have jY := kY
                rcases kX with kX | ⟨b0, o0, ha0, hb0, hcx⟩
                · omega
                rcases kY with kY | ⟨b1, o1, ha1, hb1, hcy⟩
                · omega
                first | subst ha0 | (cases ha0)
                first | subst ha1 | (cases ha1)
                have hx := hcx (n0 - 1 - s) (by omega)
                have hy := hcy (n1 - 1 - s) (by omega)
                have ex : n0 - (s + 1) = n0 - 1 - s := by omega
                have ey : n1 - (s + 1) = n1 - 1 - s := by omega
                rw [← ex] at hx
                rw [← ey] at hy
                clear hcx hcy hb0 hb1
                by_cases hxy : X (n0 - (s + 1)) = Y (n1 - (s + 1))
                · have hsuf' := hsuf.succ (by rw [← ex, ← ey]; exact hxy)
                  have he : (X (n0 - (s + 1)) == Y (n1 - (s + 1))) = true := by simp [hxy]
                  have hne : (X (n0 - (s + 1)) != Y (n1 - (s + 1))) = false := by simp [hxy]
                  have hi0 : ((s : Int) + 1) ≤ (N : Int) - (k : Int) := by omega
                  clear hxy ex ey hsuf
                  cases hb0 : SL X (n0 - (s + 1)) with
                  | false =>
                    have hbest' := hbest.no (fun h => by simp [Both, hb0] at h)
                    go_wp2
                    go_quiet (fail)
                    go_wp2_with fail
                    refine (startsAt_any _ _ _ X _ (by exact jX.drewN _) _ (n0 - (s + 1)) (by omega) (by omega) h0).mono ?_
                    rintro e w' ⟨rfl, rfl⟩
                    go_wp2
                    go_roundw
                    case rel => exact ⟨b, s + 1, _, by omega, by go_num, rfl, hsuf', hbest', rfl⟩
                    case measure => simp [intOf]; omega
                  | true =>
                    cases hb1 : SL Y (n1 - (s + 1)) with
                    | false =>
                      have hbest' := hbest.no (fun h => by simp [Both, hb1] at h)
                      go_wp2
                      go_quiet (fail)
                      go_wp2_with fail
                      refine (startsAt_any _ _ _ X _ (by exact jX.drewN _) _ (n0 - (s + 1)) (by omega) (by omega) h0).mono ?_
                      rintro e w' ⟨rfl, rfl⟩
                      go_wp2_with fail
                      refine (startsAt_any _ _ _ Y _ (by exact jY.drewN _) _ (n1 - (s + 1)) (by omega) (by omega) h1).mono ?_
                      rintro e w' ⟨rfl, rfl⟩
                      go_wp2
                      go_roundw
                      case rel => exact ⟨b, s + 1, _, by omega, by go_num, rfl, hsuf', hbest', rfl⟩
                      case measure => simp [intOf]; omega
                    | true =>
                      have hbest' := hbest.yes ⟨hb0, hb1⟩
                      go_wp2
                      go_quiet (fail)
                      go_wp2_with fail
                      refine (startsAt_any _ _ _ X _ (by exact jX.drewN _) _ (n0 - (s + 1)) (by omega) (by omega) h0).mono ?_
                      rintro e w' ⟨rfl, rfl⟩
                      go_wp2_with fail
                      refine (startsAt_any _ _ _ Y _ (by exact jY.drewN _) _ (n1 - (s + 1)) (by omega) (by omega) h1).mono ?_
                      rintro e w' ⟨rfl, rfl⟩
                      go_wp2
                      go_roundw
                      case rel => exact ⟨s + 1, s + 1, _, by omega, by go_num, by go_num, hsuf', hbest', rfl⟩
                      case measure => simp [intOf]; omega
                · have HT : IsT X Y n0 n1 k s := ⟨by omega, by omega, hsuf, fun _ _ => by rw [← ex, ← ey]; exact hxy⟩
                  have he : (X (n0 - (s + 1)) == Y (n1 - (s + 1))) = false := by simp [hxy]
                  have hne : (X (n0 - (s + 1)) != Y (n1 - (s + 1))) = true := by simp [hxy]
                  have hi0 : ((s : Int) + 1) ≤ (N : Int) - (k : Int) := by omega
                  clear hxy ex ey hsuf
                  go_wp2
                  go_quiet (fail)
                  go_wp2
                  go_ret3
                  exact ⟨⟨lastNL X k, n0 - b, n1 - b, ⟨k, s, b, HP, HT, hbest, rfl, rfl, rfl⟩, ret3 rfl (by omega) (by omega)⟩, _, rfl⟩
              · have HT : IsT X Y n0 n1 k s := ⟨by omega, by omega, hsuf, fun h1 h2 => by omega⟩
                have hi0 : ¬ ((s : Int) + 1) ≤ (N : Int) - (k : Int) := by omega
                go_wp2
                go_ret3
                exact ⟨⟨lastNL X k, n0 - b, n1 - b, ⟨k, s, b, HP, HT, hbest, rfl, rfl, rfl⟩, ret3 rfl (by omega) (by omega)⟩, _, rfl⟩
end Go.Proofs.Qxb6606341a
