/-
  Seat b6606341a: changedLines (function 15).
-/
import Derived.Test.Qxb6606341aClone
import Derived.Test.Qxb6606341aPlain
namespace Go.Proofs.Qxb6606341a
open Go.ChangeShapes Go.WideShapes Go.ChangeAt Go.RowKit
set_option linter.unusedVariables false

theorem IsB.le {w : World} {a : Option Addr} {n m : Nat} {X : Nat → Int} (h : IsB w a n X) (hm : m ≤ n) : IsB w a m X := by
  rcases h with h | ⟨b, off, rfl, hlt, hc⟩
  · exact .inl (by omega)
  · exact .inr ⟨b, off, rfl, hlt, fun i hi => hc i (by omega)⟩

theorem NoBoth.step {X Y : Nat → Int} {n0 n1 t u : Nat} (h : NoBoth X Y n0 n1 (t + 1) u) (hn : ¬ Both X Y n0 n1 (t + 1)) : NoBoth X Y n0 n1 t u := by
  intro s h1 h2
  by_cases e : s = t + 1
  · subst e; exact hn
  · exact h s (by omega) h2

theorem ret3 {a b c x y z : Int} (h1 : a = x) (h2 : b = y) (h3 : c = z) : Ending.returned (.tuple #[.int .i64 a, .int .i64 b, .int .i64 c]) = .returned (.tuple #[.int .i64 x, .int .i64 y, .int .i64 z]) := by
  subst h1; subst h2; subst h3; rfl

set_option maxHeartbeats 1600000 in
theorem changed_any (a0 : Option Addr) (n0 c0 : Nat) (X : Nat → Int) (a1 : Option Addr) (n1 c1 : Nat) (Y : Nat → Int) (w : World) (hX : IsB w a0 n0 X) (hY : IsB w a1 n1 Y)
    (h0 : n0 ≤ 524288) (h1 : n1 ≤ 524288) (hc0 : n0 ≤ c0) (hc1 : n1 ≤ c1) :
    Calls Try.prog 15 #[.slice a0 n0 c0, .slice a1 n1 c1] w fun e w' => (∃ st en ee : Nat, CL X Y n0 n1 st en ee ∧ e = .returned (.tuple #[.int .i64 st, .int .i64 en, .int .i64 ee])) ∧ ∃ m, w' = w.drewN m := by
  by_cases hle : n0 ≤ n1
  all_goals
    go_enter Try.func15, Try.ntmps15
    go_wp2
    go_loopw [8] (fun i wr => ∃ k m : Nat, k ≤ n0 ∧ k ≤ n1 ∧ i = .int .i64 k ∧ Pre X Y k ∧ wr = w.drewN m) (fun i _ => n0 - (intOf i).toNat)
    case atStart => exact ⟨0, 0, Nat.zero_le _, Nat.zero_le _, rfl, fun j h => absurd h (Nat.not_lt_zero _), rfl⟩
    case round =>
      obtain ⟨p, m, hp0, hp1, rfl, hpre, rfl⟩ := hrel
      by_cases hlt : p < n0 ∧ p < n1 ∧ X p = Y p
      · obtain ⟨hl0, hl1, hxy⟩ := hlt
        rcases hX with hX | ⟨b0, o0, rfl, hb0, hcx⟩
        · omega
        rcases hY with hY | ⟨b1, o1, rfl, hb1, hcy⟩
        · omega
        have hx := hcx p hl0
        have hy := hcy p hl1
        have hpre' := hpre.succ hxy
        have he : (X p == Y p) = true := by simp [hxy]
        clear hxy hcx hcy hpre
        go_wp2
        go_quiet (fail)
        go_wp2
        go_roundw
        case rel => exact ⟨p + 1, _, by omega, by omega, by go_num, hpre', rfl⟩
        case measure => simp [intOf]; omega
      · have HP : IsP X Y n0 n1 p := ⟨hp0, hp1, hpre, fun h1 h2 h3 => hlt ⟨h1, h2, h3⟩⟩
        have hXp : ∀ m, IsB (w.drewN m) a0 p X := fun m => IsB.drewN (hX.le hp0) m
        have hlp := lastNL_le X p
        have kX := hX
        have kY := hY
        by_cases hl : p < n0 ∧ p < n1
        focus
          obtain ⟨hl0, hl1⟩ := hl
          have hxy : ¬ X p = Y p := fun h => hlt ⟨hl0, hl1, h⟩
          clear hlt
          rcases hX with hX | ⟨b0, o0, rfl, hb0, hcx⟩
          · omega
          rcases hY with hY | ⟨b1, o1, rfl, hb1, hcy⟩
          · omega
          have hx := hcx p hl0
          have hy := hcy p hl1
          have he : (X p == Y p) = false := by simp [hxy]
          clear hxy hcx hcy hpre hb0 hb1
          go_wp2
          go_quiet (fail)
          go_wp2_with (go_at_call 16; refine (lastIdx16 _ _ _ X _ (by exact hXp _) (by omega)).mono ?_; rintro e w' ⟨rfl, rfl⟩)
          clear hx hy he
        rotate_left
        focus
          clear hlt hX hY
          first
            | (have hq : decide (p < n0) = false := decide_eq_false (by omega))
            | (have hq : decide (p < n1) = false := decide_eq_false (by omega))
          go_wp2
          go_quiet (fail)
          go_wp2_with (go_at_call 16; refine (lastIdx16 _ _ _ X _ (by exact hXp _) (by omega)).mono ?_; rintro e w' ⟨rfl, rfl⟩)
          clear hq hl
        all_goals
          clear hXp
          go_loopw [9] (fun i wr => ∃ k m : Nat, p + k ≤ n0 ∧ p + k ≤ n1 ∧ i = .int .i64 k ∧ Suf X Y n0 n1 k ∧ wr = w.drewN m) (fun i _ => n0 - (intOf i).toNat)
          case atStart => exact ⟨0, _, by omega, by omega, rfl, fun j h => absurd h (Nat.not_lt_zero _), rfl⟩
          case round =>
            obtain ⟨t, m, ht0, ht1, rfl, hsuf, rfl⟩ := hrel
            by_cases hlt : p + t < n0 ∧ p + t < n1 ∧ X (n0 - 1 - t) = Y (n1 - 1 - t)
            · obtain ⟨hl0, hl1, hxy⟩ := hlt
              rcases kX with kX | ⟨b0, o0, ha0, hb0, hcx⟩
              · omega
              rcases kY with kY | ⟨b1, o1, ha1, hb1, hcy⟩
              · omega
              first | subst ha0 | (cases ha0)
              first | subst ha1 | (cases ha1)
              have hx := hcx (n0 - 1 - t) (by omega)
              have hy := hcy (n1 - 1 - t) (by omega)
              have hsuf' := hsuf.succ hxy
              have hi0 : (t : Int) < (n0 : Int) - (p : Int) := by omega
              have hi1 : (t : Int) < (n1 : Int) - (p : Int) := by omega
              have he : (X (n0 - 1 - t) == Y (n1 - 1 - t)) = true := by simp [hxy]
              clear hxy hcx hcy hsuf hb0 hb1
              go_wp2
              go_quiet (fail)
              go_wp2
              go_roundw
              case rel => exact ⟨t + 1, _, by omega, by omega, by go_num, hsuf', rfl⟩
              case measure => simp [intOf]; omega
            · have HT : IsT X Y n0 n1 p t := ⟨ht0, ht1, hsuf, fun h1 h2 h3 => hlt ⟨h1, h2, h3⟩⟩
              have jX := kX
              have jY := kY
              by_cases hl : p + t < n0 ∧ p + t < n1
              focus
                obtain ⟨hl0, hl1⟩ := hl
                have hxy : ¬ X (n0 - 1 - t) = Y (n1 - 1 - t) := fun h => hlt ⟨hl0, hl1, h⟩
                clear hlt
                rcases kX with kX | ⟨b0, o0, ha0, hb0, hcx⟩
                · omega
                rcases kY with kY | ⟨b1, o1, ha1, hb1, hcy⟩
                · omega
                first | subst ha0 | (cases ha0)
                first | subst ha1 | (cases ha1)
                have hx := hcx (n0 - 1 - t) (by omega)
                have hy := hcy (n1 - 1 - t) (by omega)
                have he : (X (n0 - 1 - t) == Y (n1 - 1 - t)) = false := by simp [hxy]
                clear hxy hcx hcy hsuf hb0 hb1
                have hi0 : (t : Int) < (n0 : Int) - (p : Int) := by omega
                have hi1 : (t : Int) < (n1 : Int) - (p : Int) := by omega
                go_wp2
                go_quiet (fail)
                go_wp2
                clear hx hy he
              rotate_left
              focus
                clear hlt kX kY
                first
                  | (have hq : decide ((t : Int) < (n0 : Int) - (p : Int)) = false := decide_eq_false (by omega))
                  | (have hq : decide ((t : Int) < (n1 : Int) - (p : Int)) = false := decide_eq_false (by omega))
                go_wp2
                go_quiet (fail)
                go_wp2
                clear hq hl
              all_goals
                go_loopw [9] (fun i wr => ∃ k m : Nat, k ≤ t ∧ i = .int .i64 k ∧ NoBoth X Y n0 n1 k t ∧ wr = w.drewN m) (fun i _ => (intOf i).toNat)
                case atStart => exact ⟨t, _, by omega, rfl, fun s h1 h2 => absurd h1 (by omega), by first | rfl | exact World.drewN_drewN _ _ _⟩
                case round =>
                  obtain ⟨s, m, hs, rfl, hno, rfl⟩ := hrel
                  by_cases hs0 : s = 0
                  · subst hs0
                    go_wp2
                    go_ret3
                    exact ⟨⟨lastNL X p, n0, n1, ⟨p, t, 0, HP, HT, ⟨Nat.zero_le _, fun h => absurd h (Nat.lt_irrefl _), hno⟩, rfl, rfl, rfl⟩, rfl⟩, _, rfl⟩
                  · obtain ⟨r, rfl⟩ : ∃ r, s = r + 1 := ⟨s - 1, by omega⟩
                    cases hb0 : SL X (n0 - (r + 1)) with
                    | false =>
                      have hno' := hno.step (fun h => by simp [Both, hb0] at h)
                      go_wp2_with fail
                      refine (startsLine_any _ _ _ X _ (by exact jX.drewN _) _ (n0 - (r + 1)) (by omega) (by omega) h0).mono ?_
                      rintro e w' ⟨rfl, rfl⟩
                      go_wp2
                      go_roundw
                      case rel => exact ⟨r, _, by omega, by go_num, hno', rfl⟩
                      case measure => simp [intOf]
                    | true =>
                      cases hb1 : SL Y (n1 - (r + 1)) with
                      | false =>
                        have hno' := hno.step (fun h => by simp [Both, hb1] at h)
                        go_wp2_with fail
                        refine (startsLine_any _ _ _ X _ (by exact jX.drewN _) _ (n0 - (r + 1)) (by omega) (by omega) h0).mono ?_
                        rintro e w' ⟨rfl, rfl⟩
                        go_wp2_with fail
                        refine (startsLine_any _ _ _ Y _ (by exact jY.drewN _) _ (n1 - (r + 1)) (by omega) (by omega) h1).mono ?_
                        rintro e w' ⟨rfl, rfl⟩
                        go_wp2
                        go_roundw
                        case rel => exact ⟨r, _, by omega, by go_num, hno', rfl⟩
                        case measure => simp [intOf]
                      | true =>
                        have HK : IsK X Y n0 n1 t (r + 1) := ⟨hs, fun _ => ⟨hb0, hb1⟩, hno⟩
                        go_wp2_with fail
                        refine (startsLine_any _ _ _ X _ (by exact jX.drewN _) _ (n0 - (r + 1)) (by omega) (by omega) h0).mono ?_
                        rintro e w' ⟨rfl, rfl⟩
                        go_wp2_with fail
                        refine (startsLine_any _ _ _ Y _ (by exact jY.drewN _) _ (n1 - (r + 1)) (by omega) (by omega) h1).mono ?_
                        rintro e w' ⟨rfl, rfl⟩
                        go_wp2
                        go_ret3
                        exact ⟨⟨lastNL X p, n0 - (r + 1), n1 - (r + 1), ⟨p, t, r + 1, HP, HT, HK, rfl, rfl, rfl⟩, ret3 rfl (by omega) (by omega)⟩, _, rfl⟩
end Go.Proofs.Qxb6606341a
