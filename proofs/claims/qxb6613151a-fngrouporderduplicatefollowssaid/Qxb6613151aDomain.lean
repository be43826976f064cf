/-
  Seat b6613151a: orderDomain (6).
-/
import Derived.Test.Qxb6613151aBuild
namespace Go.Proofs.Qxb6613151a
open Go.ChangeShapes Go.WideShapes Go.ChangeAt Go.RowKit
set_option linter.unusedVariables false

/-- what orderDomain says 'yes' to. -/
structure Doms (nR nL n nO nA : Nat) (NC NQ NO : Nat → Nat) (C Q : Nat → Nat → Int) : Prop where
  pos : 1 ≤ nR
  lim : nL = nR
  ok : nO = n
  ap : nA = n
  caps : ∀ r, r < nR → NC 0 ≤ NC r
  asks : ∀ g, g < n → NQ g ≤ NC 0 ∧ nR ≤ NO g
  most : ∀ k, k < NC 0 → ∀ g, g < n → k < NQ g → Q g k ≤ mostF C k nR

def DomOut (nR nL n nO nA : Nat) (NC NQ NO : Nat → Nat) (C Q : Nat → Nat → Int) (e : Ending) : Prop :=
  ∃ b : Bool, e = .returned (.bool b) ∧ (b = true → Doms nR nL n nO nA NC NQ NO C Q)
theorem DomOut.no {nR nL n nO nA : Nat} {NC NQ NO : Nat → Nat} {C Q : Nat → Nat → Int} : DomOut nR nL n nO nA NC NQ NO C Q (.returned (.bool false)) := ⟨false, rfl, fun h => by cases h⟩

theorem mostF_succ (C : Nat → Nat → Int) (k r : Nat) : mostF C k (r + 1) = if mostF C k r < C r k then C r k else mostF C k r := rfl

set_option maxHeartbeats 4000000 in
set_option maxRecDepth 100000 in
theorem domain_any (ac al ar ao aa : Option Addr) (nR cc nL cl n cr nO co nA ca : Nat) (NC NQ NO NA : Nat → Nat) (C Q A : Nat → Nat → Int) (O : Nat → Nat → Bool) (w : World)
    (hC : IsSS encI w ac nR NC C) (hQ : IsSS encI w ar n NQ Q) (hO : IsSS encB w ao nO NO O)
    (m0 : nR ≤ 1048576) (m1 : nL ≤ 1048576) (m2 : n ≤ 1048576) (m3 : nO ≤ 1048576) (m4 : nA ≤ 1048576) (mC : ∀ i, i < nR → NC i ≤ 1048576) (mQ : ∀ i, i < n → NQ i ≤ 1048576) (mO : ∀ i, i < nO → NO i ≤ 1048576) :
    Calls Try.prog 6 #[.slice ac nR cc, .slice al nL cl, .slice ar n cr, .slice ao nO co, .slice aa nA ca] w fun e w' => DomOut nR nL n nO nA NC NQ NO C Q e ∧ w' = w := by
  have HC : Hid (IsSS encI w ac nR NC C) := hC
  have HQ : Hid (IsSS encI w ar n NQ Q) := hQ
  have HO : Hid (IsSS encB w ao nO NO O) := hO
  clear hC hQ hO
  go_enter Try.func6, Try.ntmps6
  by_cases z0 : nR = 0
  · subst z0
    go_wp2
    go_ret
    exact ⟨DomOut.no, rfl⟩
  have e0 : ((nR : Int) == 0) = false := by simpa using (by omega : ¬ (nR : Int) = 0)
  by_cases z1 : nR = nL
  case neg =>
    have e1 : ((nL : Int) != nR) = true := by simpa using (by omega : ¬ (nL : Int) = nR)
    go_wp2
    go_ret
    exact ⟨DomOut.no, rfl⟩
  subst z1
  by_cases z2 : n = nO
  case neg =>
    have e1 : ((nO : Int) != n) = true := by simpa using (by omega : ¬ (nO : Int) = n)
    go_wp2
    go_ret
    exact ⟨DomOut.no, rfl⟩
  subst z2
  by_cases z3 : n = nA
  case neg =>
    have e1 : ((nA : Int) != n) = true := by simpa using (by omega : ¬ (nA : Int) = n)
    go_wp2
    go_ret
    exact ⟨DomOut.no, rfl⟩
  subst z3
  rcases HC.out with h0 | ⟨cb, cof, rfl, hcb, hcc⟩
  · omega
  obtain ⟨a0, c0, k0, _⟩ := hcc 0 (by omega)
  have HCC : Hid (∀ i, i < nR → ∃ ai ci, w.cell? ⟨cb, cof + i, none⟩ = some (.slice ai (NC i) ci) ∧ IsA encI w ai (NC i) (C i)) := hcc
  have k0' : w.cell? ⟨cb, cof, none⟩ = some (.slice a0 (NC 0) c0) := k0
  clear k0
  have mC0 := mC 0 (by omega)
  clear hcc HC
  have ir : (0 : Int) < nR := by omega
  go_wp2
  go_loop [12] (fun i => ∃ k : Nat, k ≤ nR ∧ i = .int .i64 k ∧ ∀ r, r < k → NC 0 ≤ NC r) (fun i => nR - (intOf i).toNat)
  case atStart => exact ⟨0, Nat.zero_le _, rfl, fun r hr => absurd hr (Nat.not_lt_zero _)⟩
  case round =>
    obtain ⟨k, hk, rfl, h1'⟩ := hrel
    have H1 : Hid (∀ r, r < k → NC 0 ≤ NC r) := h1'
    clear h1'
    by_cases hlt : k < nR
    · obtain ⟨ai, ci, k1, _⟩ := HCC.out k hlt
      have ik0 : (0 : Int) ≤ k := by omega
      have ik1 : (k : Int) < nR := by omega
      have hm := mC k hlt
      by_cases d : NC k < NC 0
      · have e1 : decide ((NC k : Int) < NC 0) = true := decide_eq_true (by omega)
        go_wp2
        go_ret
        exact ⟨DomOut.no, rfl⟩
      · have e1 : decide ((NC k : Int) < NC 0) = false := decide_eq_false (by omega)
        go_wp2
        go_round
        case rel => exact ⟨k + 1, by omega, by go_num, fun r hr => by
          by_cases e : r = k
          · subst e; omega
          · exact H1.out r (by omega)⟩
        case measure => simp [intOf]; omega
    · obtain rfl : nR = k := by omega
      clear hlt hk
      go_wp2
      go_loop [13] (fun i => ∃ k : Nat, k ≤ n ∧ i = .int .i64 k ∧ ∀ g, g < k → NQ g ≤ NC 0 ∧ nR ≤ NO g) (fun i => n - (intOf i).toNat)
      case atStart => exact ⟨0, Nat.zero_le _, rfl, fun r hr => absurd hr (Nat.not_lt_zero _)⟩
      case round =>
        obtain ⟨k, hk, rfl, h2'⟩ := hrel
        have H2 : Hid (∀ g, g < k → NQ g ≤ NC 0 ∧ nR ≤ NO g) := h2'
        clear h2'
        by_cases hlt : k < n
        · rcases HQ.out with h0 | ⟨qb, qof, rfl, hqb, hqc⟩
          · omega
          rcases HO.out with h0 | ⟨ob, oof, rfl, hob, hoc⟩
          · omega
          obtain ⟨ai, ci, k1, _⟩ := hqc k hlt
          obtain ⟨aj, cj, k2, _⟩ := hoc k hlt
          clear hqc hoc
          have ik0 : (0 : Int) ≤ k := by omega
          have ik1 : (k : Int) < n := by omega
          have hm := mQ k hlt
          have hm2 := mO k hlt
          by_cases d : NC 0 < NQ k
          · have e1 : decide ((NC 0 : Int) < NQ k) = true := decide_eq_true (by omega)
            go_wp2
            go_ret
            exact ⟨DomOut.no, rfl⟩
          · have e1 : decide ((NC 0 : Int) < NQ k) = false := decide_eq_false (by omega)
            by_cases d2 : NO k < nR
            · have e2 : decide ((NO k : Int) < nR) = true := decide_eq_true (by omega)
              go_wp2
              go_ret
              exact ⟨DomOut.no, rfl⟩
            · have e2 : decide ((NO k : Int) < nR) = false := decide_eq_false (by omega)
              go_wp2
              go_round
              case rel => exact ⟨k + 1, by omega, by go_num, fun r hr => by
                by_cases e : r = k
                · subst e; exact ⟨by omega, by omega⟩
                · exact H2.out r (by omega)⟩
              case measure => simp [intOf]; omega
        · obtain rfl : n = k := by omega
          clear hlt hk
          go_wp2
          go_loop [14] (fun i => ∃ k : Nat, k ≤ NC 0 ∧ i = .int .i64 k ∧ ∀ k', k' < k → ∀ g, g < n → k' < NQ g → Q g k' ≤ mostF C k' nR) (fun i => NC 0 - (intOf i).toNat)
          case atStart => exact ⟨0, Nat.zero_le _, rfl, fun r hr => absurd hr (Nat.not_lt_zero _)⟩
          case round =>
            obtain ⟨k, hk, rfl, h3'⟩ := hrel
            have H3 : Hid (∀ k', k' < k → ∀ g, g < n → k' < NQ g → Q g k' ≤ mostF C k' nR) := h3'
            clear h3'
            by_cases hlt : k < NC 0
            · have ik0 : (0 : Int) ≤ k := by omega
              have ik1 : (k : Int) < NC 0 := by omega
              go_wp2
              go_loop [15, 16] (fun m i => ∃ r : Nat, r ≤ nR ∧ m = .int .i64 (mostF C k r) ∧ i = .int .i64 r) (fun _ i => nR - (intOf i).toNat)
              case atStart => exact ⟨0, Nat.zero_le _, rfl, rfl⟩
              case round =>
                obtain ⟨r, hr, rfl, rfl⟩ := hrel
                by_cases hlr : r < nR
                · obtain ⟨ai, ci, k1, k2⟩ := HCC.out r hlr
                  have hcr := H1.out r hlr
                  have hmr := mC r hlr
                  rcases k2 with k2 | ⟨b, off, rfl, hb, hcell⟩
                  · omega
                  have k3 := hcell k (by omega)
                  clear hcell
                  have ir0 : (0 : Int) ≤ r := by omega
                  have ir1 : (r : Int) < nR := by omega
                  have ik2 : (k : Int) < NC r := by omega
                  have hst : Hid (mostF C k (r + 1) = if mostF C k r < C r k then C r k else mostF C k r) := mostF_succ C k r
                  generalize C r k = x at *
                  generalize mostF C k r = y at *
                  by_cases d : y < x
                  · have e1 : decide (y < x) = true := decide_eq_true d
                    have hv : Hid (mostF C k (r + 1) = x) := by unfold Hid; rw [hst.out, if_pos d]
                    clear d hst
                    go_wp2
                    go_round
                    case rel => exact ⟨r + 1, by omega, by rw [hv.out], by go_num⟩
                    case measure => simp [intOf]; omega
                  · have e1 : decide (y < x) = false := decide_eq_false d
                    have hv : Hid (mostF C k (r + 1) = y) := by unfold Hid; rw [hst.out, if_neg d]
                    clear d hst
                    go_wp2
                    go_round
                    case rel => exact ⟨r + 1, by omega, by rw [hv.out], by go_num⟩
                    case measure => simp [intOf]; omega
                · obtain rfl : nR = r := by omega
                  clear hlr hr
                  go_wp2
                  go_loop [17] (fun i => ∃ g : Nat, g ≤ n ∧ i = .int .i64 g ∧ ∀ g', g' < g → k < NQ g' → Q g' k ≤ mostF C k nR) (fun i => n - (intOf i).toNat)
                  case atStart => exact ⟨0, Nat.zero_le _, rfl, fun r hr => absurd hr (Nat.not_lt_zero _)⟩
                  case round =>
                    obtain ⟨g, hg, rfl, h4'⟩ := hrel
                    have H4 : Hid (∀ g', g' < g → k < NQ g' → Q g' k ≤ mostF C k nR) := h4'
                    clear h4'
                    by_cases hlg : g < n
                    · rcases HQ.out with h0 | ⟨qb, qof, rfl, hqb, hqc⟩
                      · omega
                      obtain ⟨ai, ci, k1, k2⟩ := hqc g hlg
                      have hmg := mQ g hlg
                      clear hqc
                      have ig0 : (0 : Int) ≤ g := by omega
                      have ig1 : (g : Int) < n := by omega
                      by_cases d : k < NQ g
                      · have e1 : decide ((k : Int) < NQ g) = true := decide_eq_true (by omega)
                        have ik2 : (k : Int) < NQ g := by omega
                        rcases k2 with k2 | ⟨b, off, rfl, hb, hcell⟩
                        · omega
                        have k3 := hcell k d
                        clear hcell
                        by_cases d2 : mostF C k nR < Q g k
                        · have e2 : decide (mostF C k nR < Q g k) = true := decide_eq_true d2
                          clear d2
                          generalize mostF C k nR = y at *
                          generalize Q g k = x at *
                          go_wp2
                          go_ret
                          exact ⟨DomOut.no, rfl⟩
                        · have hle : Hid (Q g k ≤ mostF C k nR) := by unfold Hid; omega
                          have e2 : decide (mostF C k nR < Q g k) = false := decide_eq_false d2
                          clear d2
                          go_wp2
                          go_round
                          case rel => exact ⟨g + 1, by omega, by go_num, fun g' hg' hk' => by
                            by_cases e : g' = g
                            · subst e; exact hle.out
                            · exact H4.out g' (by omega) hk'⟩
                          case measure => simp [intOf]; omega
                      · have e1 : decide ((k : Int) < NQ g) = false := decide_eq_false (by omega)
                        go_wp2
                        go_round
                        case rel => exact ⟨g + 1, by omega, by go_num, fun g' hg' hk' => by
                          by_cases e : g' = g
                          · subst e; exact absurd hk' d
                          · exact H4.out g' (by omega) hk'⟩
                        case measure => simp [intOf]; omega
                    · obtain rfl : n = g := by omega
                      go_wp2
                      go_round
                      case rel => exact ⟨k + 1, by omega, by go_num, fun k' hk' g hg hq => by
                        by_cases e : k' = k
                        · subst e; exact H4.out g hg hq
                        · exact H3.out k' (by omega) g hg hq⟩
                      case measure => simp [intOf]; omega
            · go_wp2
              go_ret
              exact ⟨⟨true, rfl, fun _ => ⟨by omega, rfl, rfl, rfl, H1.out, H2.out, fun k' hk' => H3.out k' (by omega)⟩⟩, rfl⟩
end Go.Proofs.Qxb6613151a
