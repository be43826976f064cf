/-
  Seat b6606341a: the leaves of the road: startsLine | startsAt, LastIndexByte, minInt, sameBytes, zzBytes.
-/
import Derived.Test.Qxb6606341aRows
import Derived.WalkKit
import Derived.ProofKit
import Derived.OpenShut
import Derived.ShutString
import Derived.ChangeOld
import Derived.Below
import Derived.Deep.QuietTactic
import Derived.BigQuiet
import Derived.WalkLawsBesides
namespace Go.Proofs.Qxb6606341a
open Go.ChangeShapes Go.WideShapes Go.ChangeAt Go.RowKit
set_option linter.unusedVariables false

/-- A byte slice that can be read: empty, or n bytes X 0 .. X (n-1) lying from (b, off) on. -/
def IsB (w : World) (a : Option Addr) (n : Nat) (X : Nat → Int) : Prop :=
  n = 0 ∨ ∃ b off, a = some ⟨b, off, none⟩ ∧ b < w.heap.size ∧ ∀ i, i < n → w.cell? ⟨b, off + i, none⟩ = some (.int .u8 (X i))

/-- Does a line start at t? -/
def SL (X : Nat → Int) (t : Nat) : Bool := t == 0 || X (t - 1) == 10

theorem SL_zero (X : Nat → Int) : SL X 0 = true := by simp [SL]
theorem SL_pos (X : Nat → Int) (t : Nat) (h : 0 < t) : SL X t = (X (t - 1) == 10) := by
  have : (t == 0) = false := by simp; omega
  simp [SL, this]

theorem startsAt_any (a : Option Addr) (n c : Nat) (X : Nat → Int) (w : World) (hB : IsB w a n X) (i : Int) (t : Nat) (hi : i = t) (ht : t ≤ n) (hn : n ≤ 524288) :
    Calls Try.prog 12 #[.slice a n c, .int .i64 i] w fun e w' => e = .returned (.bool (SL X t)) ∧ w' = w := by
  subst hi
  by_cases h0 : t = 0
  · subst h0
    rw [SL_zero]
    go_enter Try.func12, Try.ntmps12
    go_wp2
    go_ret
    exact ⟨rfl, rfl⟩
  · rw [SL_pos X t (by omega)]
    rcases hB with hB | ⟨b, off, rfl, hb, hc⟩
    · omega
    · obtain ⟨k, rfl⟩ : ∃ k, t = k + 1 := ⟨t - 1, by omega⟩
      have hck := hc k (by omega)
      have hz : (((k + 1 : Nat) : Int) == 0) = false := by simp; omega
      simp only [Nat.add_sub_cancel]
      go_enter Try.func12, Try.ntmps12
      go_wp2
      go_ret
      exact ⟨rfl, rfl⟩
theorem startsLine_any (a : Option Addr) (n c : Nat) (X : Nat → Int) (w : World) (hB : IsB w a n X) (i : Int) (t : Nat) (hi : i = t) (ht : t ≤ n) (hn : n ≤ 524288) :
    Calls Try.prog 17 #[.slice a n c, .int .i64 i] w fun e w' => e = .returned (.bool (SL X t)) ∧ w' = w := by
  subst hi
  by_cases h0 : t = 0
  · subst h0
    rw [SL_zero]
    go_enter Try.func17, Try.ntmps17
    go_wp2
    go_ret
    exact ⟨rfl, rfl⟩
  · rw [SL_pos X t (by omega)]
    rcases hB with hB | ⟨b, off, rfl, hb, hc⟩
    · omega
    · obtain ⟨k, rfl⟩ : ∃ k, t = k + 1 := ⟨t - 1, by omega⟩
      have hck := hc k (by omega)
      have hz : (((k + 1 : Nat) : Int) == 0) = false := by simp; omega
      simp only [Nat.add_sub_cancel]
      go_enter Try.func17, Try.ntmps17
      go_wp2
      go_ret
      exact ⟨rfl, rfl⟩

/-- the last place below n that holds 10, plus one (0: none). -/
def lastNL (X : Nat → Int) : Nat → Nat
  | 0 => 0
  | n + 1 => if X n == 10 then n + 1 else lastNL X n

theorem lastNL_le (X : Nat → Int) : ∀ n, lastNL X n ≤ n
  | 0 => Nat.le_refl _
  | n + 1 => by
    unfold lastNL
    split
    · exact Nat.le_refl _
    · exact Nat.le_succ_of_le (lastNL_le X n)

theorem ret_int {k : IntKind} {a b : Int} (h : a = b) : Ending.returned (.int k a) = .returned (.int k b) := by rw [h]
theorem ret_bool {a b : Bool} (h : a = b) : Ending.returned (.bool a) = .returned (.bool b) := by rw [h]

theorem lastIdx18 (a : Option Addr) (n c : Nat) (X : Nat → Int) (w : World) (hB : IsB w a n X) (hn : n ≤ 524288) :
    Calls Try.prog 18 #[.slice a n c, .int .u8 10] w fun e w' => e = .returned (.int .i64 ((lastNL X n : Int) - 1)) ∧ w' = w := by
  go_enter Try.func18, Try.ntmps18
  go_wp2
  go_loop [5] (fun i => ∃ k : Nat, k ≤ n ∧ i = .int .i64 ((k : Int) - 1) ∧ Hid (lastNL X n = lastNL X k)) (fun i => (intOf i + 1).toNat)
  case atStart => exact ⟨n, Nat.le_refl _, rfl, rfl⟩
  case round =>
    obtain ⟨k, hk, rfl, hl⟩ := hrel
    by_cases h0 : k = 0
    · subst h0
      go_wp2
      go_ret
      exact ⟨ret_int (by rw [hl.out]; simp [lastNL]), rfl⟩
    · rcases hB with hB | ⟨b, off, rfl, hb, hc⟩
      · omega
      · obtain ⟨j, rfl⟩ : ∃ j, k = j + 1 := ⟨k - 1, by omega⟩
        have hcj := hc j (by omega)
        clear hc h0
        by_cases hx : X j = 10
        · have hx' : (X j == 10) = true := by simp [hx]
          have HX : Hid (X j = 10) := hx
          clear hx
          go_wp2
          go_ret
          exact ⟨ret_int (by rw [hl.out]; simp [lastNL, HX.out]), rfl⟩
        · have hx' : (X j == 10) = false := by simp [hx]
          go_wp2
          go_round
          case rel => exact ⟨j, by omega, by go_num, by unfold Hid; rw [hl.out]; simp [lastNL, hx]⟩
          case measure => simp [intOf]

theorem lastIdx16 (a : Option Addr) (n c : Nat) (X : Nat → Int) (w : World) (hB : IsB w a n X) (hn : n ≤ 524288) :
    Calls Try.prog 16 #[.slice a n c, .int .u8 10] w fun e w' => e = .returned (.int .i64 ((lastNL X n : Int) - 1)) ∧ w' = w := by
  go_enter Try.func16, Try.ntmps16
  go_wp2_with (go_at_call 18; refine (lastIdx18 _ _ _ X _ hB hn).mono ?_; rintro e w' ⟨rfl, rfl⟩)
  go_ret
  exact ⟨rfl, rfl⟩

theorem minInt_any (a b : Nat) (w : World) :
    Calls Try.prog 13 #[.int .i64 a, .int .i64 b] w fun e w' => e = .returned (.int .i64 ((min a b : Nat) : Int)) ∧ w' = w := by
  by_cases h : (a : Int) < b
  · go_enter Try.func13, Try.ntmps13
    go_wp2
    go_ret
    exact ⟨ret_int (by omega), rfl⟩
  · go_enter Try.func13, Try.ntmps13
    go_wp2
    go_ret
    exact ⟨ret_int (by omega), rfl⟩

theorem zzBytes6 (a0 : Option Addr) (n0 c0 : Nat) (a1 : Option Addr) (n1 c1 : Nat) (w : World) (h0 : n0 ≤ 9223372036854775807) (h1 : n1 ≤ 9223372036854775807) :
    Calls Try.prog 6 #[.slice a0 n0 c0, .slice a1 n1 c1] w fun e w' => (∃ r : Bool, e = .returned (.bool r)) ∧ w' = w := by
  go_enter Try.func6, Try.ntmps6
  go_wp2
  all_goals
    go_ret
    exact ⟨⟨_, rfl⟩, rfl⟩
theorem zzBytes10 (a0 : Option Addr) (n0 c0 : Nat) (a1 : Option Addr) (n1 c1 : Nat) (w : World) (h0 : n0 ≤ 9223372036854775807) (h1 : n1 ≤ 9223372036854775807) :
    Calls Try.prog 10 #[.slice a0 n0 c0, .slice a1 n1 c1] w fun e w' => (∃ r : Bool, e = .returned (.bool r)) ∧ w' = w := by
  go_enter Try.func10, Try.ntmps10
  go_wp2
  all_goals
    go_ret
    exact ⟨⟨_, rfl⟩, rfl⟩
theorem zzBytes14 (a0 : Option Addr) (n0 c0 : Nat) (a1 : Option Addr) (n1 c1 : Nat) (w : World) (h0 : n0 ≤ 9223372036854775807) (h1 : n1 ≤ 9223372036854775807) :
    Calls Try.prog 14 #[.slice a0 n0 c0, .slice a1 n1 c1] w fun e w' => (∃ r : Bool, e = .returned (.bool r)) ∧ w' = w := by
  go_enter Try.func14, Try.ntmps14
  go_wp2
  all_goals
    go_ret
    exact ⟨⟨_, rfl⟩, rfl⟩
end Go.Proofs.Qxb6606341a
