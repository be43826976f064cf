/-
  Seat b6609411a: nameSet (25).
-/
import Derived.Test.Qxb6609411aPolicy
namespace Go.Proofs.Qxb6609411a
open Go.ChangeShapes Go.WideShapes Go.ChangeAt Go.RowKit
set_option linter.unusedVariables false

def FSk (FR : Nat → Nat) (k : Nat) (x : Lit) : Prop := ∃ i, i < k ∧ x = .string (nmL (FR i))
theorem FSk_succ (FR : Nat → Nat) (k : Nat) (x : Lit) : (x = .string (nmL (FR k)) ∨ FSk FR k x) ↔ FSk FR (k + 1) x := by
  constructor
  · rintro (rfl | ⟨i, h1, h3⟩)
    · exact ⟨k, by omega, rfl⟩
    · exact ⟨i, by omega, h3⟩
  · rintro ⟨i, h1, h3⟩
    by_cases e : i = k
    · subst e
      exact .inl h3
    · exact .inr ⟨i, by omega, h3⟩

set_option maxHeartbeats 1000000 in
theorem nameSet_any (a : Option Addr) (m c : Nat) (FR : Nat → Nat) (w : World) (hF : IsA encI w a m (fun i => (FR i : Int))) (hm : m ≤ 4096) (hb : ∀ i, i < m → FR i < 10000) :
    Calls Try.prog 25 #[.slice a m c] w fun e w' => e = .returned (.map (some w.heap.size)) ∧ SetAt w' 9 w.heap.size m (FSk FR m) ∧ Below w.heap.size w w' := by
  have HF : Hid (IsA encI w a m (fun i => (FR i : Int))) := hF
  clear hF
  have hmm := @run_makeMap Try.prog
  have hS0 : SetAt (w.alloc (.map #[] 0)) 9 w.heap.size 0 (FSk FR 0) := (SetAt.made w 9).congr fun x => by simp [FSk]
  have hb0 : Below w.heap.size w (w.alloc (.map #[] 0)) := (Below.refl _ _).alloc (Nat.le_refl _) _
  go_enter Try.func25, Try.ntmps25
  go_wp2
  go_loopw [4] (fun i wr => ∃ k : Nat, k ≤ m ∧ i = .int .i64 k ∧ SetAt wr 9 w.heap.size k (FSk FR k) ∧ Below w.heap.size w wr) (fun i _ => m - (intOf i).toNat)
  case atStart => exact ⟨0, Nat.zero_le _, rfl, hS0, hb0⟩
  case round =>
    clear hS0 hb0 hmm
    obtain ⟨k, hk, rfl, hS, hbb⟩ := hrel
    by_cases hlt : k < m
    · rcases HF.out with h0 | ⟨fb, fof, rfl, hfb0, hfc⟩
      · omega
      have q1 := (hbb.cell (p := ⟨fb, fof + k, none⟩) hfb0).trans (hfc k hlt)
      clear hfc
      have ik0 : (0 : Int) ≤ k := by omega
      have ik1 : (k : Int) < m := by omega
      have HS : Hid (SetAt wr 9 w.heap.size k (FSk FR k)) := hS
      have HBB : Hid (Below w.heap.size w wr) := hbb
      have Z := roleName_any (FR k) (hb k hlt) wr
      clear hS hbb
      go_wp2_with fail
      refine Z.mono ?_
      clear Z
      rintro e w1 ⟨rfl, hb1⟩
      have hS1 := HS.out.keep (hb1.block w.heap.size HS.out.lt)
      obtain ⟨w2, h1, h2, h3⟩ := hS1.put keyed9 Try.underlying29 (by unfold maxLen; omega) (key_nm (FR k))
      have R1 : Hid (SetAt w2 9 w.heap.size (k + 1) (FSk FR (k + 1))) := h2.congr (FSk_succ FR k)
      have R2 : Hid (Below w.heap.size w w2) := below_grown (HBB.out.trans (hb1.mono HBB.out.size)) h3 (Nat.le_refl _) (Nat.le_refl _)
      clear HS HBB hS1 h2 h3 hb1
      go_wp2
      go_roundw
      case rel => exact ⟨k + 1, by omega, by go_num, R1.out, R2.out⟩
      case measure => simp [intOf]; omega
    · obtain rfl : m = k := by omega
      go_wp2
      go_ret
      exact ⟨rfl, hS, hbb⟩
end Go.Proofs.Qxb6609411a
