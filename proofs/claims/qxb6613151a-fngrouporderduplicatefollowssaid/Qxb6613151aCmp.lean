/-
  Seat b6613151a: cmp.Compare (10, 17, 28), cmp.Or (18), slices.Compare (19).
-/
import Derived.Test.Qxb6613151aOnly
namespace Go.Proofs.Qxb6613151a
open Go.ChangeShapes Go.WideShapes Go.ChangeAt Go.RowKit
set_option linter.unusedVariables false

def cmpF (x y : Int) : Int := if x < y then -1 else if y < x then 1 else 0

theorem nan20 (x : Int) (w : World) : Calls Try.prog 20 #[.int .i64 x] w fun e w' => e = .returned (.bool false) ∧ w' = w := by
  have h : (x != x) = false := by simp
  go_enter Try.func20, Try.ntmps20
  go_wp2
  go_ret
  exact ⟨rfl, rfl⟩
theorem nan27 (x : Int) (w : World) : Calls Try.prog 27 #[.int .u64 x] w fun e w' => e = .returned (.bool false) ∧ w' = w := by
  have h : (x != x) = false := by simp
  go_enter Try.func27, Try.ntmps27
  go_wp2
  go_ret
  exact ⟨rfl, rfl⟩
theorem nan40 (x : Int) (w : World) : Calls Try.prog 40 #[.int .i64 x] w fun e w' => e = .returned (.bool false) ∧ w' = w := by
  have h : (x != x) = false := by simp
  go_enter Try.func40, Try.ntmps40
  go_wp2
  go_ret
  exact ⟨rfl, rfl⟩

theorem cmpInt (x y : Int) (w : World) : Calls Try.prog 10 #[.int .i64 x, .int .i64 y] w fun e w' => e = .returned (.int .i64 (cmpF x y)) ∧ w' = w := by
  unfold cmpF
  by_cases h1 : x < y
  · have d1 : decide (x < y) = true := decide_eq_true h1
    rw [if_pos h1]
    go_enter Try.func10, Try.ntmps10
    go_wp2_with (go_at_call 20; refine (nan20 _ _).mono ?_; rintro e w' ⟨rfl, rfl⟩)
    go_ret
    exact ⟨rfl, rfl⟩
  · have d1 : decide (x < y) = false := decide_eq_false h1
    rw [if_neg h1]
    by_cases h2 : y < x
    · have d2 : decide (y < x) = true := decide_eq_true h2
      rw [if_pos h2]
      go_enter Try.func10, Try.ntmps10
      go_wp2_with (go_at_call 20; refine (nan20 _ _).mono ?_; rintro e w' ⟨rfl, rfl⟩)
      go_ret
      exact ⟨rfl, rfl⟩
    · have d2 : decide (y < x) = false := decide_eq_false h2
      rw [if_neg h2]
      go_enter Try.func10, Try.ntmps10
      go_wp2_with (go_at_call 20; refine (nan20 _ _).mono ?_; rintro e w' ⟨rfl, rfl⟩)
      go_ret
      exact ⟨rfl, rfl⟩
theorem cmpU64 (x y : Int) (w : World) : Calls Try.prog 17 #[.int .u64 x, .int .u64 y] w fun e w' => e = .returned (.int .i64 (cmpF x y)) ∧ w' = w := by
  unfold cmpF
  by_cases h1 : x < y
  · have d1 : decide (x < y) = true := decide_eq_true h1
    rw [if_pos h1]
    go_enter Try.func17, Try.ntmps17
    go_wp2_with (go_at_call 27; refine (nan27 _ _).mono ?_; rintro e w' ⟨rfl, rfl⟩)
    go_ret
    exact ⟨rfl, rfl⟩
  · have d1 : decide (x < y) = false := decide_eq_false h1
    rw [if_neg h1]
    by_cases h2 : y < x
    · have d2 : decide (y < x) = true := decide_eq_true h2
      rw [if_pos h2]
      go_enter Try.func17, Try.ntmps17
      go_wp2_with (go_at_call 27; refine (nan27 _ _).mono ?_; rintro e w' ⟨rfl, rfl⟩)
      go_ret
      exact ⟨rfl, rfl⟩
    · have d2 : decide (y < x) = false := decide_eq_false h2
      rw [if_neg h2]
      go_enter Try.func17, Try.ntmps17
      go_wp2_with (go_at_call 27; refine (nan27 _ _).mono ?_; rintro e w' ⟨rfl, rfl⟩)
      go_ret
      exact ⟨rfl, rfl⟩
theorem cmpI64 (x y : Int) (w : World) : Calls Try.prog 28 #[.int .i64 x, .int .i64 y] w fun e w' => e = .returned (.int .i64 (cmpF x y)) ∧ w' = w := by
  unfold cmpF
  by_cases h1 : x < y
  · have d1 : decide (x < y) = true := decide_eq_true h1
    rw [if_pos h1]
    go_enter Try.func28, Try.ntmps28
    go_wp2_with (go_at_call 40; refine (nan40 _ _).mono ?_; rintro e w' ⟨rfl, rfl⟩)
    go_ret
    exact ⟨rfl, rfl⟩
  · have d1 : decide (x < y) = false := decide_eq_false h1
    rw [if_neg h1]
    by_cases h2 : y < x
    · have d2 : decide (y < x) = true := decide_eq_true h2
      rw [if_pos h2]
      go_enter Try.func28, Try.ntmps28
      go_wp2_with (go_at_call 40; refine (nan40 _ _).mono ?_; rintro e w' ⟨rfl, rfl⟩)
      go_ret
      exact ⟨rfl, rfl⟩
    · have d2 : decide (y < x) = false := decide_eq_false h2
      rw [if_neg h2]
      go_enter Try.func28, Try.ntmps28
      go_wp2_with (go_at_call 40; refine (nan40 _ _).mono ?_; rintro e w' ⟨rfl, rfl⟩)
      go_ret
      exact ⟨rfl, rfl⟩

def orF (x y : Int) : Int := if x = 0 then y else x

def orS (X : Nat → Int) : Nat → Nat → Int
  | _, 0 => 0
  | k, r + 1 => orF (X k) (orS X (k + 1) r)

set_option maxHeartbeats 400000 in
theorem or_any (b : Nat) (n : Nat) (X : Nat → Int) (w : World) (hc : ∀ i, i < n → w.cell? ⟨b, i, none⟩ = some (.int .i64 (X i))) (hn : n ≤ 1048576) :
    Calls Try.prog 18 #[.slice (some ⟨b, 0, none⟩) n n] w fun e w' => e = .returned (.int .i64 (orS X 0 n)) ∧ w' = w := by
  have HC : Hid (∀ i, i < n → w.cell? ⟨b, i, none⟩ = some (.int .i64 (X i))) := hc
  clear hc
  go_enter Try.func18, Try.ntmps18
  go_wp2
  go_loop [8] (fun i => ∃ k : Nat, k ≤ n ∧ i = .int .i64 k ∧ Hid (orS X 0 n = orS X k (n - k))) (fun i => n - (intOf i).toNat)
  case atStart => exact ⟨0, Nat.zero_le _, rfl, rfl⟩
  case round =>
    obtain ⟨k, hk, rfl, ho⟩ := hrel
    by_cases hlt : k < n
    · have h1 := HC.out k hlt
      have ho' : Hid (orS X 0 n = orF (X k) (orS X (k + 1) (n - (k + 1)))) := by
        unfold Hid
        rw [ho.out, show n - k = (n - (k + 1)) + 1 from by omega]
        rfl
      clear ho
      cases hz : (X k != 0) with
      | true =>
        go_wp2
        go_ret
        refine ⟨?_, rfl⟩
        rw [ho'.out, orF, if_neg (by simpa using hz)]
        rfl
      | false =>
        go_wp2
        go_round
        case rel => exact ⟨k + 1, by omega, by go_num, by unfold Hid; rw [ho'.out, orF, if_pos (by simpa using hz)]⟩
        case measure => simp [intOf]; omega
    · have e : k = n := by omega
      subst e
      go_wp2
      go_ret
      refine ⟨?_, rfl⟩
      rw [ho.out, Nat.sub_self]
      rfl

theorem or4 (b : Nat) (x0 x1 x2 x3 : Int) (w : World) (h0 : w.cell? ⟨b, 0, none⟩ = some (.int .i64 x0)) (h1 : w.cell? ⟨b, 1, none⟩ = some (.int .i64 x1)) (h2 : w.cell? ⟨b, 2, none⟩ = some (.int .i64 x2)) (h3 : w.cell? ⟨b, 3, none⟩ = some (.int .i64 x3)) :
    Calls Try.prog 18 #[.slice (some ⟨b, 0, none⟩) 4 4] w fun e w' => e = .returned (.int .i64 (orF x0 (orF x1 (orF x2 x3)))) ∧ w' = w := by
  have h := or_any b 4 (fun i => match i with | 0 => x0 | 1 => x1 | 2 => x2 | _ => x3) w (fun i hi => by
    match i, hi with
    | 0, _ => exact h0
    | 1, _ => exact h1
    | 2, _ => exact h2
    | 3, _ => exact h3) (by omega)
  have e : orF x3 0 = x3 := by
    unfold orF
    split
    · rename_i h; exact h.symm
    · rfl
  simp only [orS, e] at h
  exact h

/-- the elements from k on, r of them. -/
def tl (X : Nat → Int) : Nat → Nat → List Int
  | _, 0 => []
  | k, r + 1 => X k :: tl X (k + 1) r

def cmpL : List Int → List Int → Int
  | [], [] => 0
  | [], _ :: _ => -1
  | _ :: _, [] => 1
  | x :: xs, y :: ys => orF (cmpF x y) (cmpL xs ys)

theorem cmpL_step {X Y : Nat → Int} {n m k : Nat} (hk : k < n) (hm : k < m) : cmpL (tl X k (n - k)) (tl Y k (m - k)) = orF (cmpF (X k) (Y k)) (cmpL (tl X (k + 1) (n - (k + 1))) (tl Y (k + 1) (m - (k + 1)))) := by
  rw [show n - k = (n - (k + 1)) + 1 from by omega, show m - k = (m - (k + 1)) + 1 from by omega]
  rfl
theorem cmpL_short {X Y : Nat → Int} {n m k : Nat} (hk : k < n) (hm : m ≤ k) : cmpL (tl X k (n - k)) (tl Y k (m - k)) = 1 := by
  rw [show n - k = (n - (k + 1)) + 1 from by omega, show m - k = 0 from by omega]
  rfl
theorem cmpL_long {X Y : Nat → Int} {n m k : Nat} (hk : n ≤ k) (hm : k < m) : cmpL (tl X k (n - k)) (tl Y k (m - k)) = -1 := by
  rw [show m - k = (m - (k + 1)) + 1 from by omega, show n - k = 0 from by omega]
  rfl
theorem cmpL_same {X Y : Nat → Int} {n m k : Nat} (hk : n ≤ k) (hm : m ≤ k) : cmpL (tl X k (n - k)) (tl Y k (m - k)) = 0 := by
  rw [show m - k = 0 from by omega, show n - k = 0 from by omega]
  rfl

set_option maxHeartbeats 400000 in
theorem compare_any (a b : Option Addr) (n m cn cm : Nat) (X Y : Nat → Int) (w : World) (hX : IsA encI w a n X) (hY : IsA encI w b m Y) (hn : n ≤ 1048576) (hm : m ≤ 1048576) :
    Calls Try.prog 19 #[.slice a n cn, .slice b m cm] w fun e w' => e = .returned (.int .i64 (cmpL (tl X 0 n) (tl Y 0 m))) ∧ w' = w := by
  go_enter Try.func19, Try.ntmps19
  go_wp2
  go_loop [11] (fun i => ∃ k : Nat, k ≤ n ∧ k ≤ m ∧ i = .int .i64 k ∧ Hid (cmpL (tl X 0 n) (tl Y 0 m) = cmpL (tl X k (n - k)) (tl Y k (m - k)))) (fun i => n - (intOf i).toNat)
  case atStart => exact ⟨0, Nat.zero_le _, Nat.zero_le _, rfl, rfl⟩
  case round =>
    obtain ⟨k, hk, hkm, rfl, hc⟩ := hrel
    by_cases hlt : k < n
    · rcases hX with hX | ⟨xb, xo, rfl, hxb, hxc⟩
      · omega
      have h1 := hxc k hlt
      clear hxc
      by_cases hlm : k < m
      · rcases hY with hY | ⟨yb, yo, rfl, hyb, hyc⟩
        · omega
        have h2 := hyc k hlm
        clear hyc
        have hc' : Hid (cmpL (tl X 0 n) (tl Y 0 m) = orF (cmpF (X k) (Y k)) (cmpL (tl X (k + 1) (n - (k + 1))) (tl Y (k + 1) (m - (k + 1))))) := by
          unfold Hid
          rw [hc.out, cmpL_step hlt hlm]
        clear hc
        have hcc := cmpI64 (X k) (Y k) w
        generalize cmpF (X k) (Y k) = c at hcc hc'
        cases hz : (c != 0) with
        | true =>
          go_wp2_with (go_at_call 28; refine hcc.mono ?_; rintro e w' ⟨rfl, rfl⟩)
          go_ret
          refine ⟨?_, rfl⟩
          rw [hc'.out, orF, if_neg (by simpa using hz)]
          rfl
        | false =>
          go_wp2_with (go_at_call 28; refine hcc.mono ?_; rintro e w' ⟨rfl, rfl⟩)
          go_round
          case rel => exact ⟨k + 1, by omega, by omega, by go_num, by unfold Hid; rw [hc'.out, orF, if_pos (by simpa using hz)]⟩
          case measure => simp [intOf]; omega
      · have hd : decide (m ≤ k) = true := decide_eq_true (by omega)
        go_wp2
        go_ret
        refine ⟨?_, rfl⟩
        rw [hc.out, cmpL_short hlt (by omega)]
        rfl
    · have e : k = n := by omega
      subst e
      by_cases hlm : k < m
      · go_wp2
        go_ret
        refine ⟨?_, rfl⟩
        rw [hc.out, cmpL_long (Nat.le_refl _) hlm]
        rfl
      · go_wp2
        go_ret
        refine ⟨?_, rfl⟩
        rw [hc.out, cmpL_same (Nat.le_refl _) (by omega)]
        rfl
end Go.Proofs.Qxb6613151a
