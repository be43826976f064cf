/-
  Seat b6606341a: sameBytes (function 11); the walk of FnChangedLinesSplicesAtLineStarts (function 4).
-/
import Derived.Test.Qxb6606341aLaws
import Derived.Deep.RegionWith
namespace Go.Proofs.Qxb6606341a
open Go.ChangeShapes Go.WideShapes Go.ChangeAt Go.RowKit
set_option linter.unusedVariables false

set_option maxHeartbeats 400000 in
theorem same_any (a0 : Option Addr) (n c0 : Nat) (X : Nat → Int) (a1 : Option Addr) (c1 : Nat) (Y : Nat → Int) (w : World) (hX : IsB w a0 n X) (hY : IsB w a1 n Y)
    (h0 : n ≤ 524288) (hp : Pre X Y n) :
    Calls Try.prog 11 #[.slice a0 n c0, .slice a1 n c1] w fun e w' => e = .returned (.bool true) ∧ ∃ m, w' = w.drewN m := by
  go_enter Try.func11, Try.ntmps11
  go_wp2
  go_loopw [5] (fun i wr => ∃ k m : Nat, k ≤ n ∧ i = .int .i64 k ∧ wr = w.drewN m) (fun i _ => n - (intOf i).toNat)
  case atStart => exact ⟨0, 0, Nat.zero_le _, rfl, rfl⟩
  case round =>
    obtain ⟨k, m, hk, rfl, rfl⟩ := hrel
    by_cases hlt : k < n
    · rcases hX with hX | ⟨b0, o0, rfl, hb0, hcx⟩
      · omega
      rcases hY with hY | ⟨b1, o1, rfl, hb1, hcy⟩
      · omega
      have hx := hcx k hlt
      have hy := hcy k hlt
      have hne : (X k != Y k) = false := by simp [hp k hlt]
      clear hcx hcy
      go_wp2
      go_quiet (fail)
      go_wp2
      go_roundw
      case rel => exact ⟨k + 1, _, by omega, by go_num, rfl⟩
      case measure => simp [intOf]; omega
    · go_wp2
      go_ret
      exact ⟨rfl, _, rfl⟩

theorem IsB.tail {w : World} {a : Option Addr} {n t : Nat} {X : Nat → Int} (h : IsB w a n X) (ht : t ≤ n) (h0 : 0 < t) :
    IsB w (Option.map (fun x => x.add (n - t)) a) t (fun i => X (n - t + i)) := by
  rcases h with h | ⟨b, off, rfl, hlt, hc⟩
  · exact .inl (by omega)
  · refine .inr ⟨b, off + (n - t), by simp only [Option.map_some, add_none], hlt, fun i hi => ?_⟩
    rw [Nat.add_assoc]
    exact hc (n - t + i) (by omega)

theorem same_tail (a0 : Option Addr) (n0 : Nat) (X : Nat → Int) (a1 : Option Addr) (n1 : Nat) (Y : Nat → Int) (t : Nat) (w : World) (hX : IsB w a0 n0 X) (hY : IsB w a1 n1 Y) (h0 : t ≤ n0) (h1 : t ≤ n1) (ht : 0 < t) (h : n0 ≤ 524288)
    (hp : Pre (fun i => X (n0 - t + i)) (fun i => Y (n1 - t + i)) t) :
    Calls Try.prog 11 #[Value.slice (Option.map (fun x => x.add (n0 - t)) a0) (n0 - (n0 - t)) (n0 - (n0 - t)),
      Value.slice (Option.map (fun x => x.add (n1 - t)) a1) (n1 - (n1 - t)) (n1 - (n1 - t))] w fun e w' => e = .returned (.bool true) ∧ ∃ m, w' = w.drewN m := by
  have e0 : n0 - (n0 - t) = t := by omega
  have e1 : n1 - (n1 - t) = t := by omega
  rw [e0, e1]
  exact same_any _ t t _ _ t _ w (hX.tail h0 ht) (hY.tail h1 ht) (by omega) hp

/-- the plain facts that the law asks of the answer. -/
theorem CL.facts {X Y : Nat → Int} {n0 n1 st en ee : Nat} (h : CL X Y n0 n1 st en ee) :
    ∃ p t, st ≤ p ∧ p + t ≤ n0 ∧ p + t ≤ n1 ∧ en = n0 - t ∧ ee = n1 - t ∧ Pre X Y p ∧ (p < n0 → p < n1 → X p ≠ Y p) ∧ Pre (fun i => X (n0 - t + i)) (fun i => Y (n1 - t + i)) t ∧
      SL X st = true ∧ (∀ i, st ≤ i → i < p → X i ≠ 10) ∧ (0 < t → SL X (n0 - t) = true ∧ SL Y (n1 - t) = true) := by
  obtain ⟨p, t0, t, ⟨p1, p2, p3, p4⟩, ⟨q1, q2, q3, q4⟩, ⟨r1, r2, r3⟩, rfl, rfl, rfl⟩ := h
  refine ⟨p, t, lastNL_le X p, by omega, by omega, rfl, rfl, p3, p4, ?_, lastNL_SL X p, fun i h1 h2 => lastNL_none X p i h1 h2, r2⟩
  intro j hj
  have := q3 (t - 1 - j) (by omega)
  show X (n0 - t + j) = Y (n1 - t + j)
  rw [show n0 - t + j = n0 - 1 - (t - 1 - j) from by omega, show n1 - t + j = n1 - 1 - (t - 1 - j) from by omega]
  exact this

set_option maxHeartbeats 1600000 in
set_option maxRecDepth 100000 in
theorem splice_walk (a0 : Option Addr) (n0 c0 : Nat) (X : Nat → Int) (a1 : Option Addr) (n1 c1 : Nat) (Y : Nat → Int) (w : World) (hX : IsB w a0 n0 X) (hY : IsB w a1 n1 Y)
    (h0 : n0 ≤ maxLen) (h1 : n1 ≤ maxLen) (z0 : a0 = none → c0 = 0) (z1 : a1 = none → c1 = 0) :
    Calls Try.prog 4 #[.slice a0 n0 c0, .slice a1 n1 c1] w fun e w' => e = .returned (.bool true) ∧ Below w.heap.size w w' := by
  unfold maxLen at h0 h1
  go_enter Try.func4, Try.ntmps4
  go_wp2_with fail
  refine (zzBytes10 _ _ _ _ _ _ _ (by omega) (by omega)).mono ?_
  rintro e w' ⟨⟨r, rfl⟩, hw⟩
  cases hw
  cases r with
  | false =>
    go_wp2
    go_ret
    exact ⟨rfl, Below.refl _ _⟩
  | true =>
    by_cases hl : n0 ≤ 524288
    · by_cases hl1 : n1 ≤ 524288
      · go_wp2_with fail
        refine (clone_any _ _ _ X _ hX hl z0).mono ?_
        rintro e w1 ⟨b0, rfl, hX1, hb1⟩
        go_wp2_with fail
        refine (clone_any _ _ _ Y _ (by exact hY.below hb1) hl1 z1).mono ?_
        rintro e w2 ⟨b1, rfl, hY2, hb2⟩
        have hX2 := hX1.below hb2
        have hb := hb1.trans (hb2.mono hb1.size)
        clear hX1 hb1 hb2 hX hY z0 z1
        go_wp2_with fail
        refine (zzchanged_any _ _ _ X _ _ _ Y _ hX2 hY2 hl hl1 (Nat.le_refl _) (Nat.le_refl _)).mono ?_
        rintro e w3 ⟨⟨st, en, ee, hcl, rfl⟩, m, rfl⟩
        obtain ⟨p, t, f1, f2, f3, rfl, rfl, f6, f7, f8, f9, f10, f11⟩ := hcl.facts
        clear hcl
        have hX3 := hX2.drewN m
        have hY3 := hY2.drewN m
        have hb3 := below_drewN' hb m
        generalize w2.drewN m = w3 at hX3 hY3 hb3 ⊢
        clear hX2 hY2 hb
        have hX4 : ∀ m, IsB (w3.drewN m) b0 n0 X := fun m => hX3.drewN m
        have hY4 : ∀ m, IsB (w3.drewN m) b1 n1 Y := fun m => hY3.drewN m
        have F7 : Hid (p < n0 → p < n1 → X p ≠ Y p) := f7
        have F9 : Hid (SL X st = true) := f9
        have F10 : Hid (∀ i, st ≤ i → i < p → X i ≠ 10) := f10
        have F11 : Hid (0 < t → SL X (n0 - t) = true ∧ SL Y (n1 - t) = true) := f11
        clear f7 f9 f10 f11
        have g1 : st ≤ n0 - t := by omega
        have g2 : st ≤ n1 - t := by omega
        have i1 : (0 : Int) ≤ (st : Int) := by omega
        have i2 : (st : Int) ≤ (n0 : Int) := by omega
        have i3 : (st : Int) ≤ (n1 : Int) := by omega
        obtain ⟨N, hN, hN0, hN1, hNm⟩ : ∃ N, Hid (N = min n0 n1) ∧ N ≤ n0 ∧ N ≤ n1 ∧ (n0 ≤ N ∨ n1 ≤ N) := ⟨min n0 n1, rfl, by omega, by omega, by omega⟩
        by_cases ht : t = 0
        focus
          subst ht
          simp only [Nat.sub_zero, Nat.add_zero] at *
          go_wp2
          go_quiet ((first | (go_at_call_of 11 (Value.slice b0 st n0); refine Calls.quiet_of (same_any _ _ _ X _ _ Y _ ((hX4 _).le (by omega)) ((hY4 _).le (by omega)) (by omega) (fun j hj => f6 j (by omega)))) | (go_at_call 11; refine Calls.quiet_of (same_any _ 0 _ X _ _ Y _ (.inl rfl) (.inl rfl) (by omega) (fun j hj => absurd hj (Nat.not_lt_zero _))))))
          have f6' : Hid (Pre X Y p) := f6
          clear f6 f8
          go_wp2_with fail
          refine (startsAt_any _ _ _ X _ (hX4 _) _ st (by omega) (by omega) hl).mono ?_
          rintro e w' ⟨rfl, rfl⟩
          rw [F9.out]
          go_wp2_with fail
          refine (minInt_N _ _ N hN _).mono ?_
          rintro e w' ⟨rfl, rfl⟩
          go_wp2_with fail
        rotate_left
        focus
          have g3 : (n0 : Int) - ((n0 - t : Nat) : Int) = t := by omega
          have g4 : (n1 : Int) - ((n1 - t : Nat) : Int) = t := by omega
          have g5 : ¬ n0 = n0 - t := by omega
          have g6 : ¬ n1 = n1 - t := by omega
          go_wp2
          have i4 : ((n0 - t : Nat) : Int) ≤ (n0 : Int) := by omega
          have i5 : ((n1 - t : Nat) : Int) ≤ (n1 : Int) := by omega
          go_quiet ((first | (go_at_call_of 11 (Value.slice b0 st n0); refine Calls.quiet_of (same_any _ _ _ X _ _ Y _ ((hX4 _).le (by omega)) ((hY4 _).le (by omega)) (by omega) (fun j hj => f6 j (by omega)))) | (go_at_call 11; refine Calls.quiet_of (same_tail _ _ X _ _ Y t _ (hX4 _) (hY4 _) (by omega) (by omega) (by omega) hl f8))))
          have f6' : Hid (Pre X Y p) := f6
          clear f6 f8 g3 g4
          obtain ⟨q1, q2⟩ := F11.out (by omega)
          have Q1 : Hid (SL X (n0 - t) = true) := q1
          have Q2 : Hid (SL Y (n1 - t) = true) := q2
          clear q1 q2
          have g7 : (((n0 - t : Nat) : Int) == (n0 : Int)) = false := by rw [beq_eq_false_iff_ne]; omega
          go_wp2_with fail
          refine (startsAt_any _ _ _ X _ (hX4 _) _ st (by omega) (by omega) hl).mono ?_
          rintro e w' ⟨rfl, rfl⟩
          rw [F9.out]
          go_wp2_with fail
          refine (startsAt_any _ _ _ X _ (hX4 _) _ (n0 - t) (by omega) (by omega) hl).mono ?_
          rintro e w' ⟨rfl, rfl⟩
          rw [Q1.out]
          go_wp2_with fail
          refine (startsAt_any _ _ _ Y _ (hY4 _) _ (n1 - t) (by omega) (by omega) hl1).mono ?_
          rintro e w' ⟨rfl, rfl⟩
          rw [Q2.out]
          go_wp2_with fail
          refine (minInt_N _ _ N hN _).mono ?_
          rintro e w' ⟨rfl, rfl⟩
          go_wp2_with fail
        all_goals
          have hpN : p ≤ N := by omega
          clear F9 F11 hX4 hY4 hN
          go_loopw [9] (fun i wr => ∃ k m : Nat, st ≤ k ∧ k ≤ p ∧ i = .int .i64 k ∧ wr = w3.drewN m) (fun i _ => p - (intOf i).toNat)
          case atStart => exact ⟨st, _, Nat.le_refl _, f1, rfl, rfl⟩
          case round =>
            obtain ⟨k, m, hk, hkp, rfl, rfl⟩ := hrel
            by_cases hlt : k < N
            · rcases hX3 with hX3 | ⟨bb0, o0, rfl, hb0, hcx⟩
              · omega
              rcases hY3 with hY3 | ⟨bb1, o1, rfl, hb1, hcy⟩
              · omega
              have hx := hcx k (by omega)
              have hy := hcy k (by omega)
              have hk0 : k < n0 := by omega
              have hk1 : k < n1 := by omega
              clear hcx hcy hb0 hb1
              by_cases hp : k < p
              · have he : (X k == Y k) = true := by simp [f6'.out k hp]
                have hn : (X k == 10) = false := by simp [F10.out k hk hp]
                go_wp2
                go_quiet (fail)
                go_wp2
                go_roundw
                case rel => exact ⟨k + 1, _, by omega, by omega, by go_num, rfl⟩
                case measure => simp [intOf]; omega
              · have e : k = p := by omega
                subst e
                have he : (X k == Y k) = false := by simp [F7.out hk0 hk1]
                go_wp2
                go_quiet (fail)
                go_wp2
                go_ret
                exact ⟨rfl, below_drewN' (below_drewN' hb3 _) _⟩
            · have hq : decide (k < N) = false := decide_eq_false hlt
              go_wp2
              go_quiet (fail)
              go_wp2
              go_ret
              exact ⟨rfl, below_drewN' (below_drewN' hb3 _) _⟩
      · go_wp2
        go_ret
        exact ⟨rfl, Below.refl _ _⟩
    · go_wp2
      go_ret
      exact ⟨rfl, Below.refl _ _⟩
end Go.Proofs.Qxb6606341a
