/-
  Seat b6613151a: the law's function (3).
-/
import Derived.Test.Qxb6613151aDup
import Derived.Test.Qxb6613151aSortCall
import Derived.Test.Qxb6613151aBytes
import Derived.Test.Qxb6613151aDomain
import Derived.Deep.QuietTactic
import Derived.BigQuiet
namespace Go.Proofs.Qxb6613151a
open Go.ChangeShapes Go.WideShapes Go.ChangeAt Go.RowKit
set_option linter.unusedVariables false

theorem IsSS.congr {β : Type} {enc : β → Value} {w : World} {a : Option Addr} {n : Nat} {N N' : Nat → Nat} {X X' : Nat → Nat → β} (h : IsSS enc w a n N X) (e : ∀ i, i < n → N' i = N i ∧ X' i = X i) : IsSS enc w a n N' X' := by
  rcases h with h | ⟨b, off, rfl, hlt, hc⟩
  · exact .inl h
  · refine .inr ⟨b, off, rfl, hlt, fun i hi => ?_⟩
    obtain ⟨ai, ci, h1, h2⟩ := hc i hi
    rw [(e i hi).1, (e i hi).2]
    exact ⟨ai, ci, h1, h2⟩

theorem dom_of {D : PD} {nL nO nA : Nat} (hd : Doms D.nR nL D.nG nO nA D.nC D.nQ D.nO D.C D.Q) (hr : D.nR ≤ 4096) (hg : D.nG ≤ 4096) (hp : 1 ≤ D.nG) (bC : ∀ i, i < D.nR → D.nC i ≤ 1048576) (bO : ∀ i, i < D.nG → D.nO i ≤ 1048576) (bA : ∀ i, i < D.nG → D.nA i ≤ 1048576)
    (cin : ∀ r k, r < D.nR → k < D.nC r → D.C r k < 9223372036854775808) : Dom D :=
  ⟨hd.pos, hr, hp, by omega, hd.caps, bC, fun g h => (hd.asks g h).1, fun g h => (hd.asks g h).2, bO, bA, fun g k h hk => hd.most k (Nat.lt_of_lt_of_le hk (hd.asks g h).1) g h hk, cin⟩

theorem src_le (D : PD) {g i : Nat} (hg : g < D.nG) (hi : i < D.nG + 1) : srcOf D g i < D.nG := by
  unfold srcOf
  split <;> omega

theorem dom_dup {D : PD} (h : Dom D) (hg' : D.nG ≤ 4096) {g : Nat} (hg : g < D.nG) : Dom (dupD D g) :=
  ⟨h.pos, h.rows, by show 1 ≤ D.nG + 1; omega, by show D.nG + 1 ≤ 4097; omega, h.caps, h.capn, fun i hi => h.asks _ (src_le D hg hi), fun i hi => h.oks _ (src_le D hg hi), fun i hi => h.okn _ (src_le D hg hi), fun i hi => h.apn _ (src_le D hg hi),
    fun i k hi hk => h.most _ k (src_le D hg hi) hk, h.cin⟩

set_option maxHeartbeats 4000000 in
set_option maxRecDepth 100000 in
theorem law_any (ac al ar ao aa : Option Addr) (cc nL cl cr nO co nA ca : Nat) (D : PD) (g : Int) (w : World)
    (hC : IsSS encI w ac D.nR D.nC D.C) (hL : IsA encI w al nL D.L) (hQ : IsSS encI w ar D.nG D.nQ D.Q) (hO : IsSS encB w ao nO D.nO D.O) (hA : IsSS encI w aa nA D.nA D.A)
    (m0 : D.nR ≤ 9223372036854775807) (m1 : nL ≤ 9223372036854775807) (m2 : D.nG ≤ 9223372036854775807) (m3 : nO ≤ 9223372036854775807) (m4 : nA ≤ 9223372036854775807)
    (mC : ∀ i, i < D.nR → D.nC i ≤ 9223372036854775807) (mQ : ∀ i, i < D.nG → D.nQ i ≤ 9223372036854775807) (mO : ∀ i, i < nO → D.nO i ≤ 9223372036854775807) (mA : ∀ i, i < nA → D.nA i ≤ 9223372036854775807)
    (cin : ∀ r k, r < D.nR → k < D.nC r → D.C r k < 9223372036854775808) :
    Calls Try.prog 3 #[.slice ac D.nR cc, .slice al nL cl, .slice ar D.nG cr, .slice ao nO co, .slice aa nA ca, .int .i64 g] w fun e w' => e = .returned (.bool true) ∧ Below w.heap.size w w' := by
  have HC : Hid (IsSS encI w ac D.nR D.nC D.C) := hC
  have HL : Hid (IsA encI w al nL D.L) := hL
  have HQ : Hid (IsSS encI w ar D.nG D.nQ D.Q) := hQ
  have HO : Hid (IsSS encB w ao nO D.nO D.O) := hO
  have HA : Hid (IsSS encI w aa nA D.nA D.A) := hA
  have Z := zzBytes_any ac al ar ao aa D.nR cc nL cl D.nG cr nO co nA ca D.nC D.nQ D.nO D.nA D.C D.Q D.A D.O g w hC hQ hO hA m0 m1 m2 m3 m4 mC mQ mO mA
  clear hC hL hQ hO hA
  go_enter Try.func3, Try.ntmps3
  go_wp2_with fail
  refine Z.mono ?_
  clear Z
  rintro e w' ⟨⟨b, rfl, hb⟩, rfl⟩
  cases b with
  | false =>
    clear hb
    go_wp2
    go_ret
    exact ⟨rfl, Below.refl _ _⟩
  | true =>
    obtain ⟨bC, bQ, bO, bA⟩ := hb rfl
    clear hb mC mQ mO mA
    by_cases l0 : D.nR ≤ 4096
    case neg =>
      have e0 : decide ((4096 : Int) < D.nR) = true := decide_eq_true (by omega)
      go_wp2
      go_ret
      exact ⟨rfl, Below.refl _ _⟩
    have e0 : decide ((4096 : Int) < D.nR) = false := decide_eq_false (by omega)
    by_cases l1 : nL ≤ 4096
    case neg =>
      have e1 : decide ((4096 : Int) < nL) = true := decide_eq_true (by omega)
      go_wp2
      go_ret
      exact ⟨rfl, Below.refl _ _⟩
    have e1 : decide ((4096 : Int) < nL) = false := decide_eq_false (by omega)
    by_cases l2 : D.nG ≤ 4096
    case neg =>
      have e2 : decide ((4096 : Int) < D.nG) = true := decide_eq_true (by omega)
      go_wp2
      go_ret
      exact ⟨rfl, Below.refl _ _⟩
    have e2 : decide ((4096 : Int) < D.nG) = false := decide_eq_false (by omega)
    by_cases l3 : nO ≤ 4096
    case neg =>
      have e3 : decide ((4096 : Int) < nO) = true := decide_eq_true (by omega)
      go_wp2
      go_ret
      exact ⟨rfl, Below.refl _ _⟩
    have e3 : decide ((4096 : Int) < nO) = false := decide_eq_false (by omega)
    by_cases l4 : nA ≤ 4096
    case neg =>
      have e4 : decide ((4096 : Int) < nA) = true := decide_eq_true (by omega)
      go_wp2
      go_ret
      exact ⟨rfl, Below.refl _ _⟩
    have e4 : decide ((4096 : Int) < nA) = false := decide_eq_false (by omega)
    have Z := orderBytes_any ac al ar ao aa D.nR cc nL cl D.nG cr nO co nA ca D.nC D.nQ D.nO D.nA D.C D.Q D.A D.O w' HC.out HQ.out HO.out HA.out (by omega) (by omega) (by omega) (by omega) (by omega) bC bQ bO bA
    go_wp2_with fail
    refine Z.mono ?_
    clear Z
    rintro e w ⟨⟨z, rfl⟩, rfl⟩
    by_cases hz : z ≤ 1048576
    case neg =>
      have e5 : decide ((1048576 : Int) < z) = true := decide_eq_true (by omega)
      go_wp2
      go_ret
      exact ⟨rfl, Below.refl _ _⟩
    have e5 : decide ((1048576 : Int) < z) = false := decide_eq_false (by omega)
    have Z := domain_any ac al ar ao aa D.nR cc nL cl D.nG cr nO co nA ca D.nC D.nQ D.nO D.nA D.C D.Q D.A D.O w HC.out HQ.out HO.out (by omega) (by omega) (by omega) (by omega) (by omega) bC bQ bO
    go_wp2_with fail
    refine Z.mono ?_
    clear Z
    rintro e w' ⟨⟨b, rfl, hb⟩, rfl⟩
    cases b with
    | false =>
      clear hb
      go_wp2
      go_ret
      exact ⟨rfl, Below.refl _ _⟩
    | true =>
      have HD := hb rfl
      obtain rfl := HD.lim
      obtain rfl := HD.ok
      obtain rfl := HD.ap
      by_cases g0 : g < 0
      case pos =>
        have e6 : decide (g < 0) = true := decide_eq_true g0
        go_wp2
        go_ret
        exact ⟨rfl, Below.refl _ _⟩
      have e6 : decide (g < 0) = false := decide_eq_false g0
      by_cases g1 : (D.nG : Int) ≤ g
      case pos =>
        have e7 : decide ((D.nG : Int) ≤ g) = true := decide_eq_true g1
        go_wp2
        go_ret
        exact ⟨rfl, Below.refl _ _⟩
      have e7 : decide ((D.nG : Int) ≤ g) = false := decide_eq_false g1
      obtain ⟨q, rfl⟩ : ∃ q : Nat, g = q := ⟨g.toNat, by omega⟩
      have hq : q < D.nG := by omega
      have hdm : Dom D := dom_of HD l0 l2 (by omega) bC bO bA cin
      have B1 := build_any ac al ar ao aa D.nR cc cl D.nG cr co ca D (-1) w' HC.out HL.out HQ.out HO.out HA.out l0 l2 bC bQ bO bA rfl (.inl ⟨by decide, rfl⟩)
      go_wp2_with fail
      refine B1.mono ?_
      clear B1
      rintro e w1 ⟨⟨pb, rb, gb, rfl, hpb, hP⟩, hb1⟩
      have Z1 := zz_any pb rb gb D w1 hP hdm
      clear hP
      go_wp2_with fail
      refine Z1.mono ?_
      clear Z1
      rintro e w2 ⟨⟨bo, d1, rfl, hbo, hp1, hs1, hc1⟩, hb2⟩
      have B12 := hb1.trans (hb2.mono hb1.size)
      have hC2 : IsSS encI w2 ac D.nR (dupD D q).nC (dupD D q).C := HC.out.below B12 (Nat.le_refl _)
      have hL2 : IsA encI w2 al D.nR (dupD D q).L := HL.out.below B12 (Nat.le_refl _)
      have hQ2 : IsSS encI w2 ar D.nG (dupD D q).nQ (dupD D q).Q := (HQ.out.below B12 (Nat.le_refl _)).congr fun i hi => ⟨congrArg D.nQ (src_lt D q hi), congrArg D.Q (src_lt D q hi)⟩
      have hO2 : IsSS encB w2 ao D.nG (dupD D q).nO (dupD D q).O := (HO.out.below B12 (Nat.le_refl _)).congr fun i hi => ⟨congrArg D.nO (src_lt D q hi), congrArg D.O (src_lt D q hi)⟩
      have hA2 : IsSS encI w2 aa D.nG (dupD D q).nA (dupD D q).A := (HA.out.below B12 (Nat.le_refl _)).congr fun i hi => ⟨congrArg D.nA (src_lt D q hi), congrArg D.A (src_lt D q hi)⟩
      have hsrc : srcOf D q D.nG = srcOf D q q := (src_end D q).trans (src_lt D q hq).symm
      have B2 := build_any ac al ar ao aa D.nR cc cl D.nG cr co ca (dupD D q) q w2 hC2 hL2 hQ2 hO2 hA2 l0 l2 bC (fun i hi => by show D.nQ (srcOf D q i) ≤ _; rw [src_lt D q hi]; exact bQ i hi) (fun i hi => by show D.nO (srcOf D q i) ≤ _; rw [src_lt D q hi]; exact bO i hi) (fun i hi => by show D.nA (srcOf D q i) ≤ _; rw [src_lt D q hi]; exact bA i hi) rfl
        (.inr ⟨q, hq, rfl, rfl, ⟨congrArg D.nQ hsrc, congrArg D.Q hsrc⟩, ⟨congrArg D.nO hsrc, congrArg D.O hsrc⟩, ⟨congrArg D.nA hsrc, congrArg D.A hsrc⟩⟩)
      clear hC2 hL2 hQ2 hO2 hA2
      have HB12 : Hid (Below w'.heap.size w' w2) := B12
      clear B12 hb1 hb2
      have HC1 : Hid (∀ i, i < D.nG → w2.cell? ⟨bo, i, none⟩ = some (.int .i64 ((d1[i]?.getD 0 : Nat) : Int))) := hc1
      have HS1 : Hid (d1.Pairwise (fun x y => ¬ cfF D (limOf D) y x < 0)) := hs1
      have HP1 : Hid (d1.Perm (List.range D.nG)) := hp1
      clear hc1 hs1 hp1
      go_wp2_with fail
      refine B2.mono ?_
      clear B2
      rintro e w3 ⟨⟨pb2, rb2, gb2, rfl, hpb2, hP2⟩, hb3⟩
      have Z2 := zz_any pb2 rb2 gb2 (dupD D q) w3 hP2 (dom_dup hdm l2 hq)
      clear hP2
      go_wp2_with fail
      refine Z2.mono ?_
      clear Z2
      rintro e w4 ⟨⟨bo2, d2, he, hbo2, hp2, hs2, hc2⟩, hb4⟩
      have he' : e = .returned (.slice (some ⟨bo2, 0, none⟩) (D.nG + 1) (D.nG + 1)) := he
      clear he
      subst he'
      obtain ⟨pG, pN, hdup⟩ := dup_law D q hq d1 d2 HP1.out (List.Pairwise.imp (fun {a b} h => by omega) HS1.out) hp2 hs2
      have hbo3 : bo < w2.heap.size := World.block_lt_of_cell? w2 _ (HC1.out 0 (by omega))
      have HC1' : Hid (∀ i, i < D.nG → w4.cell? ⟨bo, i, none⟩ = some (.int .i64 ((d1[i]?.getD 0 : Nat) : Int))) := fun i hi => by
        rw [← HC1.out i hi]
        exact (hb3.trans (hb4.mono hb3.size)).cell (p := ⟨bo, i, none⟩) hbo3
      have HC2' : Hid (∀ i, i < D.nG + 1 → w4.cell? ⟨bo2, i, none⟩ = some (.int .i64 ((d2[i]?.getD 0 : Nat) : Int))) := hc2
      have HBB : Hid (Below w'.heap.size w' w4) := HB12.out.trans ((hb3.trans (hb4.mono hb3.size)).mono HB12.out.size)
      clear hb3 hb4 HB12 HC1 HS1 HP1 hp2 hs2 hc2 hbo2 hbo hpb hpb2 hdm HD
      obtain ⟨X1, hX1⟩ : ∃ X1 : Nat → Nat, X1 = fun t => d1[t]?.getD 0 := ⟨_, rfl⟩
      obtain ⟨X2, hX2⟩ : ∃ X2 : Nat → Nat, X2 = fun t => d2[t]?.getD 0 := ⟨_, rfl⟩
      rw [← hX1, ← hX2] at hdup
      have K1 : Hid (∀ i, i < D.nG → w4.cell? ⟨bo, i, none⟩ = some (.int .i64 (X1 i : Nat))) := by rw [hX1]; exact HC1'
      have K2 : Hid (∀ i, i < D.nG + 1 → w4.cell? ⟨bo2, i, none⟩ = some (.int .i64 (X2 i : Nat))) := by rw [hX2]; exact HC2'
      clear HC1' HC2' hX1 hX2
      have HDUP : Hid (DupOut D.nG q X1 X2 pG pN) := hdup
      have hlt := hdup.lt
      have hle := hdup.le
      clear hdup
      go_wp2
      go_loop [16, 17, 18] (fun pg pn t => ∃ k : Nat, k ≤ D.nG + 1 ∧ t = .int .i64 k ∧ ((k ≤ pG ∧ pg = .int .i64 (-1)) ∨ (pG < k ∧ pg = .int .i64 pG)) ∧ ((k ≤ pN ∧ pn = .int .i64 (-1)) ∨ (pN < k ∧ pn = .int .i64 pN))) (fun _ _ t => D.nG + 1 - (intOf t).toNat)
      case atStart => exact ⟨0, Nat.zero_le _, rfl, .inl ⟨Nat.zero_le _, rfl⟩, .inl ⟨Nat.zero_le _, rfl⟩⟩
      case round =>
        obtain ⟨k, hk, rfl, hpg, hpn⟩ := hrel
        by_cases hkn : k < D.nG + 1
        · have c2 := K2.out k hkn
          have ik0 : (0 : Int) ≤ k := by omega
          have ik1 : (k : Int) < D.nG + 1 := by omega
          by_cases e8 : k = pG
          · subst e8
            rw [HDUP.out.atG] at c2
            have f2 : ((q : Int) == D.nG) = false := by simpa using (by omega : ¬ (q : Int) = D.nG)
            rcases hpg with ⟨_, rfl⟩ | ⟨hh, _⟩
            case inr => omega
            rcases hpn with ⟨_, rfl⟩ | ⟨hh, _⟩
            case inr => omega
            go_wp2
            go_round
            case rel => exact ⟨k + 1, by omega, by go_num, .inr ⟨by omega, by go_num⟩, .inl ⟨by omega, rfl⟩⟩
            case measure => simp [intOf]; omega
          · have hx : X2 k ≠ q := fun h => e8 (HDUP.out.onlyG k hkn h)
            by_cases e9 : k = pN
            · subst e9
              rw [HDUP.out.atN] at c2
              clear hx
              have f1 : ((D.nG : Int) == q) = false := by simpa using (by omega : ¬ (D.nG : Int) = q)
              rcases hpg with ⟨hh, _⟩ | ⟨_, rfl⟩
              case inl => omega
              rcases hpn with ⟨_, rfl⟩ | ⟨hh, _⟩
              case inr => omega
              go_wp2
              go_round
              case rel => exact ⟨k + 1, by omega, by go_num, .inr ⟨by omega, rfl⟩, .inr ⟨by omega, by go_num⟩⟩
              case measure => simp [intOf]; omega
            · have hx2 : X2 k ≠ D.nG := fun h => e9 (HDUP.out.onlyN k hkn h)
              have f1 : ((X2 k : Int) == q) = false := by simpa using (by omega : ¬ (X2 k : Int) = q)
              have f2 : ((X2 k : Int) == D.nG) = false := by simpa using (by omega : ¬ (X2 k : Int) = D.nG)
              generalize X2 k = x at *
              go_wp2
              go_round
              case rel => exact ⟨k + 1, by omega, by go_num, hpg.elim (fun h => .inl ⟨by omega, h.2⟩) (fun h => .inr ⟨by omega, h.2⟩), hpn.elim (fun h => .inl ⟨by omega, h.2⟩) (fun h => .inr ⟨by omega, h.2⟩)⟩
              case measure => simp [intOf]; omega
        · rcases hpg with ⟨hh, _⟩ | ⟨_, rfl⟩
          case inl => omega
          rcases hpn with ⟨hh, _⟩ | ⟨_, rfl⟩
          case inl => omega
          have f1 : decide ((pG : Int) < 0) = false := decide_eq_false (by omega)
          have f2 : decide ((pN : Int) < 0) = false := decide_eq_false (by omega)
          have f3 : decide ((pN : Int) < pG) = false := decide_eq_false (by omega)
          go_wp2
          go_loopw [19, 20] (fun j t wr => ∃ k m x : Nat, k ≤ D.nG + 1 ∧ t = .int .i64 k ∧ j = .int .i64 m ∧ ((k ≤ pN ∧ m = k) ∨ (pN < k ∧ m + 1 = k)) ∧ wr = w4.drewN x) (fun _ t _ => D.nG + 1 - (intOf t).toNat)
          case atStart => exact ⟨0, 0, 0, Nat.zero_le _, rfl, rfl, .inl ⟨Nat.zero_le _, rfl⟩, rfl⟩
          case round =>
            obtain ⟨k2, m, xd, hk2, rfl, rfl, hm, rfl⟩ := hrel
            by_cases hkn2 : k2 < D.nG + 1
            · by_cases e8 : k2 = pN
              · subst e8
                go_wp2
                go_roundw
                case rel => exact ⟨k2 + 1, m, xd, by omega, by go_num, rfl, .inr ⟨by omega, by omega⟩, rfl⟩
                case measure => simp [intOf]; omega
              · have f4 : ((k2 : Int) == pN) = false := by simpa using (by omega : ¬ (k2 : Int) = pN)
                have hmn : m < D.nG := by omega
                have hxe : X2 k2 = X1 m := by
                  rcases hm with ⟨h1, rfl⟩ | ⟨h1, h2⟩
                  · exact HDUP.out.front m (by omega)
                  · rw [← h2]
                    exact HDUP.out.back m (by omega) hmn
                have c1 := K1.out m hmn
                have c2 := K2.out k2 hkn2
                rw [hxe] at c2
                have ik0 : (0 : Int) ≤ k2 := by omega
                have ik1 : (k2 : Int) < D.nG + 1 := by omega
                have im0 : (0 : Int) ≤ m := by omega
                have im1 : (m : Int) < D.nG := by omega
                have f5 : decide ((D.nG : Int) ≤ m) = false := decide_eq_false (by omega)
                clear hxe
                generalize X1 m = x at *
                go_wp2_with fail
                go_quiet (fail)
                go_wp2
                go_roundw
                case rel => exact ⟨k2 + 1, m + 1, _, by omega, by go_num, by go_num, hm.elim (fun h => .inl ⟨by omega, by omega⟩) (fun h => .inr ⟨by omega, by omega⟩), rfl⟩
                case measure => simp [intOf]; omega
            · have f4 : (m : Int) = D.nG := by omega
              go_wp2
              go_ret
              refine ⟨?_, ?_⟩
              · simp [f4]
              · have := HBB.out
                exact ⟨this.os, this.tape, this.output, this.size, this.block⟩
end Go.Proofs.Qxb6613151a
