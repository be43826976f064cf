/-
  Seat b6609411a: distinctGrants (49).
-/
import Derived.Test.Qxb6609411aPlain
namespace Go.Proofs.Qxb6609411a
open Go.ChangeShapes Go.WideShapes Go.ChangeAt Go.RowKit
set_option linter.unusedVariables false

/-- grant g is marked, and the first marked one of its pair. -/
def isFst (M : Nat → Bool) (GO GB : Nat → ByteArray) (g : Nat) : Prop := M g = true ∧ ∀ h, h < g → ¬ (M h = true ∧ GO h = GO g ∧ GB h = GB g)
open Classical in
noncomputable def dcount (M : Nat → Bool) (GO GB : Nat → ByteArray) : Nat → Nat
  | 0 => 0
  | k + 1 => dcount M GO GB k + (if isFst M GO GB k then 1 else 0)
theorem dcount_yes {M : Nat → Bool} {GO GB : Nat → ByteArray} {k : Nat} (h : isFst M GO GB k) : dcount M GO GB (k + 1) = dcount M GO GB k + 1 := by rw [dcount, if_pos h]
theorem dcount_no {M : Nat → Bool} {GO GB : Nat → ByteArray} {k : Nat} (h : ¬ isFst M GO GB k) : dcount M GO GB (k + 1) = dcount M GO GB k := by rw [dcount, if_neg h]; rfl
theorem dcount_le (M : Nat → Bool) (GO GB : Nat → ByteArray) : ∀ k, dcount M GO GB k ≤ k
  | 0 => Nat.le_refl _
  | k + 1 => by
    have := dcount_le M GO GB k
    by_cases h : isFst M GO GB k
    · rw [dcount_yes h]; omega
    · rw [dcount_no h]; omega

set_option maxHeartbeats 4000000 in
set_option maxRecDepth 100000 in
theorem distinct_any (s n0 : Nat) (ag ao ab : Option Addr) (ng cg co cb : Nat) (T : Nat → Bool) (GR : Nat → Nat) (GO GB : Nat → ByteArray) (w : World)
    (hT : Fl w s 4 n0 n0 (fun v => .bool (T v))) (hG : IsA encI w ag ng (fun i => (GR i : Int))) (hO : IsA encS w ao ng GO) (hB : IsA encS w ab ng GB) (hn0 : n0 ≤ 4096) (hng : ng ≤ 4096) (bg : ∀ i, i < ng → GR i < n0) :
    Calls Try.prog 49 #[.slice (some ⟨s, 0, none⟩) n0 n0, .slice ag ng cg, .slice ao ng co, .slice ab ng cb] w fun e w' => e = .returned (.int .i64 (dcount (fun g => T (GR g)) GO GB ng : Nat)) ∧ ∃ q, w' = w.drewN q := by
  have JT : Hid (Fl w s 4 n0 n0 (fun v => .bool (T v))) := hT
  have HG : Hid (IsA encI w ag ng (fun i => (GR i : Int))) := hG
  have HO : Hid (IsA encS w ao ng GO) := hO
  have HB : Hid (IsA encS w ab ng GB) := hB
  clear hT hG hO hB
  go_enter Try.func49, Try.ntmps49
  go_wp2
  go_loopw [9, 10] (fun c i wr => ∃ k q : Nat, k ≤ ng ∧ c = .int .i64 (dcount (fun g => T (GR g)) GO GB k : Nat) ∧ i = .int .i64 k ∧ wr = w.drewN q) (fun _ i _ => ng - (intOf i).toNat)
  case atStart => exact ⟨0, 0, Nat.zero_le _, rfl, rfl, rfl⟩
  case round =>
    obtain ⟨k, q, hk, rfl, rfl, rfl⟩ := hrel
    by_cases hlt : k < ng
    · rcases HG.out with h0 | ⟨gb, gof, rfl, hgb0, hgc⟩
      · omega
      rcases HO.out with h0 | ⟨ob, oof, rfl, hob0, hoc⟩
      · omega
      rcases HB.out with h0 | ⟨bb, bof, rfl, hbb0, hbc⟩
      · omega
      have q1 := hgc k hlt
      have q2 := hoc k hlt
      have q3 := hbc k hlt
      have JG : Hid (∀ i, i < ng → w.cell? ⟨gb, gof + i, none⟩ = some (encI (GR i : Int))) := hgc
      have JO : Hid (∀ i, i < ng → w.cell? ⟨ob, oof + i, none⟩ = some (encS (GO i))) := hoc
      have JB : Hid (∀ i, i < ng → w.cell? ⟨bb, bof + i, none⟩ = some (encS (GB i))) := hbc
      clear hgc hoc hbc
      have hg1 := bg k hlt
      have q4 := JT.out.cell (GR k) hg1
      have ik0 : (0 : Int) ≤ k := by omega
      have ik1 : (k : Int) < ng := by omega
      have ig0 : (0 : Int) ≤ GR k := by omega
      have ig1 : (GR k : Int) < n0 := by omega
      have hdl := dcount_le (fun g => T (GR g)) GO GB k
      cases hTk : T (GR k) with
      | false =>
        rw [hTk] at q4
        have hno : ¬ isFst (fun g => T (GR g)) GO GB k := fun h => by
          have h1 : T (GR k) = true := h.1
          rw [hTk] at h1; cases h1
        have R1 : Hid (dcount (fun g => T (GR g)) GO GB (k + 1) = dcount (fun g => T (GR g)) GO GB k) := dcount_no hno
        clear hno
        generalize dcount (fun g => T (GR g)) GO GB k = dk at *
        go_wp2
        go_roundw
        case rel => exact ⟨k + 1, q, by omega, by rw [R1.out], by go_num, rfl⟩
        case measure => simp [intOf]; omega
      | true =>
        rw [hTk] at q4
        generalize hdk : dcount (fun g => T (GR g)) GO GB k = dk at *
        go_wp2
        go_loopw [11, 12] (fun f i wr => ∃ h q : Nat, h ≤ k ∧ f = .bool true ∧ i = .int .i64 h ∧ wr = w.drewN q ∧ ∀ j, j < h → ¬ (T (GR j) = true ∧ GO j = GO k ∧ GB j = GB k)) (fun _ i _ => k - (intOf i).toNat)
        case atStart => exact ⟨0, q, Nat.zero_le _, rfl, rfl, rfl, fun j hj => absurd hj (Nat.not_lt_zero _)⟩
        case round =>
          obtain ⟨h, qq, hh, rfl, rfl, rfl, hall⟩ := hrel
          have JA : Hid (∀ j, j < h → ¬ (T (GR j) = true ∧ GO j = GO k ∧ GB j = GB k)) := hall
          clear hall
          by_cases hlh : h < k
          · have p1 := JG.out h (by omega)
            have p2 := JO.out h (by omega)
            have p3 := JB.out h (by omega)
            have hgh := bg h (by omega)
            have p4 := JT.out.cell (GR h) hgh
            have jh0 : (0 : Int) ≤ h := by omega
            have jh1 : (h : Int) < ng := by omega
            have jg0 : (0 : Int) ≤ GR h := by omega
            have jg1 : (GR h : Int) < n0 := by omega
            have next : ¬ (T (GR h) = true ∧ GO h = GO k ∧ GB h = GB k) → ∀ j, j < h + 1 → ¬ (T (GR j) = true ∧ GO j = GO k ∧ GB j = GB k) := fun hn j hj => by
              by_cases e : j = h
              · rw [e]; exact hn
              · exact JA.out j (by omega)
            cases hTh : T (GR h) with
            | false =>
              rw [hTh] at p4
              have R1 : Hid (∀ j, j < h + 1 → ¬ (T (GR j) = true ∧ GO j = GO k ∧ GB j = GB k)) := next (fun hx => by rw [hx.1] at hTh; cases hTh)
              clear next JA
              go_wp2_with fail
              go_quiet (fail)
              go_wp2
              go_roundw
              case rel => exact ⟨h + 1, _, by omega, rfl, by go_num, rfl, R1.out⟩
              case measure => simp [intOf]; omega
            | true =>
              rw [hTh] at p4
              cases h1 : ((GO h).toList == (GO k).toList) with
              | false =>
                have R1 : Hid (∀ j, j < h + 1 → ¬ (T (GR j) = true ∧ GO j = GO k ∧ GB j = GB k)) := next (fun hx => by rw [(bytes_eq _ _).2 hx.2.1] at h1; cases h1)
                clear next JA
                go_wp2_with fail
                go_quiet (fail)
                go_wp2
                go_roundw
                case rel => exact ⟨h + 1, _, by omega, rfl, by go_num, rfl, R1.out⟩
                case measure => simp [intOf]; omega
              | true =>
                cases h2 : ((GB h).toList == (GB k).toList) with
                | false =>
                  have R1 : Hid (∀ j, j < h + 1 → ¬ (T (GR j) = true ∧ GO j = GO k ∧ GB j = GB k)) := next (fun hx => by rw [(bytes_eq _ _).2 hx.2.2] at h2; cases h2)
                  clear next JA
                  go_wp2_with fail
                  go_quiet (fail)
                  go_wp2
                  go_roundw
                  case rel => exact ⟨h + 1, _, by omega, rfl, by go_num, rfl, R1.out⟩
                  case measure => simp [intOf]; omega
                | true =>
                  have hno : ¬ isFst (fun g => T (GR g)) GO GB k := fun hx => hx.2 h hlh ⟨hTh, (bytes_eq _ _).1 h1, (bytes_eq _ _).1 h2⟩
                  have R1 : Hid (dcount (fun g => T (GR g)) GO GB (k + 1) = dk) := by unfold Hid; rw [dcount_no hno, hdk]
                  clear next JA hno
                  go_wp2_with fail
                  go_quiet (fail)
                  go_wp2
                  go_roundw
                  case rel => exact ⟨k + 1, _, by omega, by rw [R1.out], by go_num, rfl⟩
                  case measure => simp [intOf]; omega
          · obtain rfl : k = h := by omega
            have hyes : isFst (fun g => T (GR g)) GO GB k := ⟨hTk, JA.out⟩
            have R1 : Hid (dcount (fun g => T (GR g)) GO GB (k + 1) = dk + 1) := by unfold Hid; rw [dcount_yes hyes, hdk]
            clear hyes JA
            go_wp2
            go_roundw
            case rel => exact ⟨k + 1, _, by omega, by rw [R1.out]; go_num, by go_num, rfl⟩
            case measure => simp [intOf]; omega
    · obtain rfl : ng = k := by omega
      go_wp2
      go_ret
      exact ⟨rfl, _, rfl⟩
end Go.Proofs.Qxb6609411a
