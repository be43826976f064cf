/-
  Seat b6609411a: the law's function (7).
-/
import Derived.Test.Qxb6609411aPlain
import Derived.Test.Qxb6609411aBytes
import Derived.Test.Qxb6609411aPerms
namespace Go.Proofs.Qxb6609411a
open Go.ChangeShapes Go.WideShapes Go.ChangeAt Go.RowKit
set_option linter.unusedVariables false

set_option maxHeartbeats 8000000 in
set_option maxRecDepth 100000 in
theorem law7_any (n : Int) (al ah ag ao ab af : Option Addr) (ml cl mh ch ng cg no co nb cb nf cf : Nat) (X Y Z V : Nat → Int) (GO GB : Nat → ByteArray) (op obj : ByteArray) (w : World)
    (hL : IsA encI w al ml X) (hH : IsA encI w ah mh Y) (hG : IsA encI w ag ng Z) (hO : IsA encS w ao no GO) (hB : IsA encS w ab nb GB) (hF : IsA encI w af nf V)
    (m0 : ml ≤ 9223372036854775807) (m1 : mh ≤ 9223372036854775807) (m2 : ng ≤ 9223372036854775807) (m3 : no ≤ 9223372036854775807) (m4 : nb ≤ 9223372036854775807) (m5 : nf ≤ 9223372036854775807) (m6 : op.size ≤ 9223372036854775807) (m7 : obj.size ≤ 9223372036854775807)
    (mO : ∀ i, i < no → (GO i).size ≤ 9223372036854775807) (mB : ∀ i, i < nb → (GB i).size ≤ 9223372036854775807) :
    Calls Try.prog 7 #[.int .i64 n, .slice al ml cl, .slice ah mh ch, .slice ag ng cg, .slice ao no co, .slice ab nb cb, .slice af nf cf, .string op, .string obj] w fun e w' => e = .returned (.bool true) ∧ Below w.heap.size w w' := by
  have HL : Hid (IsA encI w al ml X) := hL
  have HH : Hid (IsA encI w ah mh Y) := hH
  have HG : Hid (IsA encI w ag ng Z) := hG
  have HO : Hid (IsA encS w ao no GO) := hO
  have HB : Hid (IsA encS w ab nb GB) := hB
  have HF : Hid (IsA encI w af nf V) := hF
  have K := bytes20_any n al ah ag ao ab af ml cl mh ch ng cg no co nb cb nf cf GO GB op obj w hO hB m0 m1 m2 m3 m4 m5 m6 m7 mO mB
  clear hL hH hG hO hB hF mO mB
  go_enter Try.func7, Try.ntmps7
  go_wp2_with fail
  refine K.mono ?_
  clear K
  rintro e w' ⟨⟨b, rfl, hb⟩, rfl⟩
  cases b with
  | false =>
    clear hb
    go_wp2
    go_ret
    exact ⟨rfl, Below.refl _ _⟩
  | true =>
    obtain ⟨⟨⟨b0, b1⟩, ⟨b2, b3⟩, ⟨b4, b5⟩⟩, ⟨b6, b7⟩, bO, bB⟩ := hb rfl
    clear hb m0 m1 m2 m3 m4 m5 m6 m7
    by_cases l0 : ml ≤ 4096
    case neg =>
      have e0 : decide ((4096 : Int) < ml) = true := decide_eq_true (by omega)
      go_wp2
      go_ret
      exact ⟨rfl, Below.refl _ _⟩
    have e0 : decide ((4096 : Int) < ml) = false := decide_eq_false (by omega)
    by_cases l1 : mh ≤ 4096
    case neg =>
      have e1 : decide ((4096 : Int) < mh) = true := decide_eq_true (by omega)
      go_wp2
      go_ret
      exact ⟨rfl, Below.refl _ _⟩
    have e1 : decide ((4096 : Int) < mh) = false := decide_eq_false (by omega)
    by_cases l2 : ng ≤ 4096
    case neg =>
      have e2 : decide ((4096 : Int) < ng) = true := decide_eq_true (by omega)
      go_wp2
      go_ret
      exact ⟨rfl, Below.refl _ _⟩
    have e2 : decide ((4096 : Int) < ng) = false := decide_eq_false (by omega)
    by_cases l3 : no ≤ 4096
    case neg =>
      have e3 : decide ((4096 : Int) < no) = true := decide_eq_true (by omega)
      go_wp2
      go_ret
      exact ⟨rfl, Below.refl _ _⟩
    have e3 : decide ((4096 : Int) < no) = false := decide_eq_false (by omega)
    by_cases l4 : nb ≤ 4096
    case neg =>
      have e4 : decide ((4096 : Int) < nb) = true := decide_eq_true (by omega)
      go_wp2
      go_ret
      exact ⟨rfl, Below.refl _ _⟩
    have e4 : decide ((4096 : Int) < nb) = false := decide_eq_false (by omega)
    by_cases l5 : nf ≤ 4096
    case neg =>
      have e5 : decide ((4096 : Int) < nf) = true := decide_eq_true (by omega)
      go_wp2
      go_ret
      exact ⟨rfl, Below.refl _ _⟩
    have e5 : decide ((4096 : Int) < nf) = false := decide_eq_false (by omega)
    have e6 : decide ((1048576 : Int) < op.size) = false := decide_eq_false (by omega)
    have e7 : decide ((1048576 : Int) < obj.size) = false := decide_eq_false (by omega)
    have K := strBytes_any ao no co GO w' HO.out (by omega) bO
    go_wp2_with fail
    refine K.mono ?_
    clear K
    rintro e w ⟨⟨z1, rfl, hz1, hz1'⟩, rfl⟩
    have K := strBytes_any ab nb cb GB w HB.out (by omega) bB
    go_wp2_with fail
    refine K.mono ?_
    clear K
    rintro e w' ⟨⟨z2, rfl, hz2, hz2'⟩, rfl⟩
    by_cases hsum : 8 * ((ml : Int) + mh + ng + nf) + z1 + z2 + op.size + obj.size ≤ 1048576
    case neg =>
      have e8 : decide ((1048576 : Int) < 8 * ((ml : Int) + mh + ng + nf) + z1 + z2 + op.size + obj.size) = true := decide_eq_true (by omega)
      go_wp2
      go_ret
      exact ⟨rfl, Below.refl _ _⟩
    have e8 : decide ((1048576 : Int) < 8 * ((ml : Int) + mh + ng + nf) + z1 + z2 + op.size + obj.size) = false := decide_eq_false (by omega)
    by_cases hn1 : n < 1
    case pos =>
      have e9 : decide (n < 1) = true := decide_eq_true hn1
      go_wp2
      go_ret
      exact ⟨rfl, Below.refl _ _⟩
    have e9 : decide (n < 1) = false := decide_eq_false hn1
    by_cases hn2 : n ≤ 4096
    case neg =>
      have e10 : decide (4096 < n) = true := decide_eq_true (by omega)
      go_wp2
      go_ret
      exact ⟨rfl, Below.refl _ _⟩
    have e10 : decide (4096 < n) = false := decide_eq_false (by omega)
    have K := edgesOK_any n al ah ml cl mh ch X Y w' HL.out HH.out (by omega) (by omega)
    go_wp2_with fail
    refine K.mono ?_
    clear K
    rintro e w1 ⟨⟨b, rfl, hb⟩, qq, rfl⟩
    have hbl1 : Below w'.heap.size w' (w'.drewN qq) := below_drewN (Below.refl _ _) qq
    cases b with
    | false =>
      clear hb
      go_wp2
      go_ret
      exact ⟨rfl, hbl1⟩
    | true =>
    have HE : Hid (ml = mh ∧ ∀ i, i < ml → 0 ≤ X i ∧ X i < Y i ∧ Y i < n) := hb rfl
    clear hb
    have K := grantsOK_any n ag ao ab ng cg no co nb cb Z (w'.drewN qq) (HG.out.drewN qq) (by omega) (by omega) (by omega)
    go_wp2_with fail
    refine K.mono ?_
    clear K
    rintro e w2 ⟨⟨b, rfl, hb⟩, rfl⟩
    cases b with
    | false =>
      clear hb
      go_wp2
      go_ret
      exact ⟨rfl, hbl1⟩
    | true =>
    have HGr : Hid (ng = no ∧ ng = nb ∧ ∀ i, i < ng → 0 ≤ Z i ∧ Z i < n) := hb rfl
    clear hb
    have K := indicesOK_any n af nf cf V (w'.drewN qq) (HF.out.drewN qq) (by omega)
    go_wp2_with fail
    refine K.mono ?_
    clear K
    rintro e w2 ⟨⟨b, rfl, hb⟩, rfl⟩
    cases b with
    | false =>
      clear hb
      go_wp2
      go_ret
      exact ⟨rfl, hbl1⟩
    | true =>
    have hfr := hb rfl
    obtain ⟨rfl, hed⟩ := HE.out
    obtain ⟨rfl, rfl, hgr⟩ := HGr.out
    clear hb HE HGr
    obtain ⟨n0, rfl⟩ : ∃ n0 : Nat, n = n0 := ⟨n.toNat, by omega⟩
    have hn0 : n0 ≤ 4096 := by omega
    obtain ⟨w, hw⟩ : ∃ w, w = w'.drewN qq := ⟨_, rfl⟩
    have hL1 := (HL.out.drewN qq).nat (fun i hi => (hed i hi).1)
    have hH1 := (HH.out.drewN qq).nat (fun i hi => by have := hed i hi; omega)
    have hG1 := (HG.out.drewN qq).nat (fun i hi => (hgr i hi).1)
    have hF1 := (HF.out.drewN qq).nat (fun i hi => (hfr i hi).1)
    have hO1 := HO.out.drewN qq
    have hB1 := HB.out.drewN qq
    have bl : ∀ i, i < ml → (X i).toNat < n0 := fun i hi => by have := hed i hi; omega
    have bh : ∀ i, i < ml → (Y i).toNat < n0 := fun i hi => by have := hed i hi; omega
    have bg : ∀ i, i < ng → (Z i).toNat < n0 := fun i hi => by have := hgr i hi; omega
    have bf : ∀ i, i < nf → (V i).toNat < n0 := fun i hi => by have := hfr i hi; omega
    have sO : ∀ i, i < ng → (GO i).size ≤ maxLen := fun i hi => by have := bO i hi; unfold maxLen; omega
    have sB : ∀ i, i < ng → (GB i).size ≤ maxLen := fun i hi => by have := bB i hi; unfold maxLen; omega
    have so : op.size ≤ maxLen := by unfold maxLen; omega
    have sb : obj.size ≤ maxLen := by unfold maxLen; omega
    rw [← hw] at hL1 hH1 hG1 hF1 hO1 hB1 hbl1
    generalize hLO : (fun i => (X i).toNat) = LO at *
    generalize hHI : (fun i => (Y i).toNat) = HI at *
    generalize hGR : (fun i => (Z i).toNat) = GR at *
    generalize hFR : (fun i => (V i).toNat) = FR at *
    have eLO : ∀ i, (X i).toNat = LO i := fun i => by rw [← hLO]
    have eHI : ∀ i, (Y i).toNat = HI i := fun i => by rw [← hHI]
    have eGR : ∀ i, (Z i).toNat = GR i := fun i => by rw [← hGR]
    have eFR : ∀ i, (V i).toNat = FR i := fun i => by rw [← hFR]
    simp only [eLO] at hL1 bl
    simp only [eHI] at hH1 bh
    simp only [eGR] at hG1 bg
    simp only [eFR] at hF1 bf
    have K := buildPolicy_any n0 al ah ag ao ab ml cl ch ng cg co cb LO HI GR GO GB w hL1 hH1 hG1 hO1 hB1 hn0 l0 l2 bl bh bg sO sB
    have JL : Hid (IsA encI w al ml (fun i => (LO i : Int)) ∧ IsA encI w ah ml (fun i => (HI i : Int)) ∧ IsA encI w ag ng (fun i => (GR i : Int)) ∧ IsA encI w af nf (fun i => (FR i : Int)) ∧ IsA encS w ao ng GO ∧ IsA encS w ab ng GB) := ⟨hL1, hH1, hG1, hF1, hO1, hB1⟩
    have JB : Hid (Below w'.heap.size w' w) := hbl1
    have JW : Hid (w'.heap.size = w.heap.size) := by unfold Hid; rw [hw]; rfl
    rw [← hw]
    clear hw
    clear hL1 hH1 hG1 hF1 hO1 hB1 hbl1 HL HH HG HO HB HF hed hgr hfr hLO hHI hGR hFR eLO eHI eGR eFR
    go_wp2_with fail
    refine K.mono ?_
    clear K
    rintro e w1 ⟨pb, rb, B, rfl, hP1, hA1, hb1⟩
    have hFS : ∀ x, FSk FR nf x → ∃ v : Fin n0, x = .string (nmL v) := by
      rintro x ⟨i, hi, rfl⟩
      exact ⟨⟨FR i, bf i hi⟩, rfl⟩
    have hJS : ∀ u x, JSk HI LO ml u x → ∃ v : Fin n0, x = .string (nmL v) := by
      rintro u x ⟨i, hi, _, rfl⟩
      exact ⟨⟨LO i, bl i hi⟩, rfl⟩
    have K := nameSet_any af nf cf FR w1 (JL.out.2.2.2.1.below hb1 (Nat.le_refl _)) l5 (fun i hi => by have := bf i hi; omega)
    have JP : Hid (Pol w1 pb rb B n0 16384 (PSk GR GO GB ng) (JSk HI LO ml)) := hP1
    have J1 : Hid (Below w.heap.size w w1) := hb1
    clear hP1 hA1 hb1
    go_wp2_with fail
    refine K.mono ?_
    clear K
    rintro e w2 ⟨rfl, hS2, hb2⟩
    have K := zzHolds_any hn0 16384 w1.heap.size nf pb rb B (FSk FR nf) (PSk GR GO GB ng) (JSk HI LO ml) hFS hJS op obj so sb w2 hS2 (JP.out.below hb2 (Nat.le_refl _))
    have J2 : Hid (Below w.heap.size w w2) := J1.out.trans (hb2.mono J1.out.size)
    clear hS2 hb2 J1 JP hFS hJS
    go_wp2_with fail
    refine K.mono ?_
    clear K
    rintro e w3 ⟨⟨r, rfl, hr⟩, hb3⟩
    have J3 : Hid (Below w.heap.size w w3) := J2.out.trans (hb3.mono J2.out.size)
    have K := downReach_any n0 al ah af ml cl ch nf cf LO HI FR w3 (JL.out.1.below J3.out (Nat.le_refl _)) (JL.out.2.1.below J3.out (Nat.le_refl _)) (JL.out.2.2.2.1.below J3.out (Nat.le_refl _)) hn0 l0 l5 bl bh bf
    have JR : Hid (r = true ↔ ∃ v, Rc (FrN n0 (FSk FR nf)) (EdN n0 (JSk HI LO ml)) v ∧ gives (PSk GR GO GB ng) op obj v) := hr
    clear hr hb3 J2
    go_wp2_with fail
    refine K.mono ?_
    clear K
    rintro e w4 ⟨s, T, rfl, hFl, hT, hb4⟩
    have J4 : Hid (Below w.heap.size w w4) := J3.out.trans (hb4.mono J3.out.size)
    have JT : Hid (Fl w4 s 4 n0 n0 (fun v => .bool (T v))) := hFl
    have JG : Hid (r = true ↔ ∃ g, g < ng ∧ condG T GR GO GB op obj g) := by
      unfold Hid
      rw [JR.out, ← want_iff (T := T) (R := Rc (FrL FR nf) (EdL HI LO ml)) hT sO sB so sb]
      constructor
      · rintro ⟨v, h1, h2⟩
        exact ⟨v, (rc_names hn0 bl bf v).1 h1, h2⟩
      · rintro ⟨v, h1, h2⟩
        exact ⟨v, (rc_names hn0 bl bf v).2 h1, h2⟩
    have K := wildcard_any obj w4
    clear hFl hT hb4 J3 JR
    go_wp2_with fail
    refine K.mono ?_
    clear K
    rintro e w5 ⟨rfl, rfl⟩
    generalize hwb : wildB obj = wb
    go_wp2
    go_loop [23, 24] (fun x i => ∃ (k : Nat) (b : Bool), k ≤ ng ∧ x = .bool b ∧ i = .int .i64 k ∧ (b = true ↔ ∃ g, g < k ∧ condG T GR GO GB op obj g)) (fun _ i => ng - (intOf i).toNat)
    case atStart => exact ⟨0, false, Nat.zero_le _, rfl, rfl, ⟨(fun h => by cases h), fun ⟨g, hg, _⟩ => absurd hg (Nat.not_lt_zero _)⟩⟩
    case round =>
      obtain ⟨k, b, hk, rfl, rfl, hbk⟩ := hrel
      have JK : Hid (b = true ↔ ∃ g, g < k ∧ condG T GR GO GB op obj g) := hbk
      clear hbk
      by_cases hlt : k < ng
      · have hga := JL.out.2.2.1.below J4.out (Nat.le_refl _)
        have hoa := JL.out.2.2.2.2.1.below J4.out (Nat.le_refl _)
        have hba := JL.out.2.2.2.2.2.below J4.out (Nat.le_refl _)
        rcases hga with h0 | ⟨gb, gof, rfl, hgb0, hgc⟩
        · omega
        rcases hoa with h0 | ⟨ob, oof, rfl, hob0, hoc⟩
        · omega
        rcases hba with h0 | ⟨bb, bof, rfl, hbb0, hbc⟩
        · omega
        have q1 := hgc k hlt
        have q2 := hoc k hlt
        have q3 := hbc k hlt
        clear hgc hoc hbc
        have hg1 := bg k hlt
        have q4 := JT.out.cell (GR k) hg1
        have ik0 : (0 : Int) ≤ k := by omega
        have ik1 : (k : Int) < ng := by omega
        have ig0 : (0 : Int) ≤ GR k := by omega
        have ig1 : (GR k : Int) < n0 := by omega
        have keep : (¬ condG T GR GO GB op obj k) → (b = true ↔ ∃ g, g < k + 1 ∧ condG T GR GO GB op obj g) := fun hno => by
          rw [JK.out]
          constructor
          · rintro ⟨g, h1, h2⟩
            exact ⟨g, by omega, h2⟩
          · rintro ⟨g, h1, h2⟩
            by_cases e : g = k
            · rw [e] at h2
              exact absurd h2 hno
            · exact ⟨g, by omega, h2⟩
        have gain : condG T GR GO GB op obj k → (true = true ↔ ∃ g, g < k + 1 ∧ condG T GR GO GB op obj g) := fun hy => ⟨fun _ => ⟨k, by omega, hy⟩, fun _ => rfl⟩
        cases hTk : T (GR k) with
        | false =>
          rw [hTk] at q4
          have R1 : Hid (b = true ↔ ∃ g, g < k + 1 ∧ condG T GR GO GB op obj g) := keep (fun h => by rw [h.1] at hTk; cases hTk)
          clear keep gain
          go_wp2
          go_round
          case rel => exact ⟨k + 1, b, by omega, rfl, by go_num, R1.out⟩
          case measure => simp [intOf]; omega
        | true =>
          rw [hTk] at q4
          cases h1 : ((GO k).toList == op.toList) with
          | false =>
            have h1' : ((GO k).toList != op.toList) = true := by simp [bne, h1]
            have R1 : Hid (b = true ↔ ∃ g, g < k + 1 ∧ condG T GR GO GB op obj g) := keep (fun h => by rw [(bytes_eq _ _).2 h.2.1] at h1; cases h1)
            clear keep gain
            go_wp2
            go_round
            case rel => exact ⟨k + 1, b, by omega, rfl, by go_num, R1.out⟩
            case measure => simp [intOf]; omega
          | true =>
            have h1' : ((GO k).toList != op.toList) = false := by simp [bne, h1]
            cases h2 : ((GB k).toList == obj.toList) with
            | true =>
              have R1 : Hid (true = true ↔ ∃ g, g < k + 1 ∧ condG T GR GO GB op obj g) := gain ⟨hTk, (bytes_eq _ _).1 h1, .inl ((bytes_eq _ _).1 h2)⟩
              clear keep gain
              go_wp2
              go_round
              case rel => exact ⟨k + 1, true, by omega, rfl, by go_num, R1.out⟩
              case measure => simp [intOf]; omega
            | false =>
              cases wb with
              | false =>
                have R1 : Hid (b = true ↔ ∃ g, g < k + 1 ∧ condG T GR GO GB op obj g) := keep (fun h => by
                  rcases h.2.2 with h | ⟨h, _⟩
                  · rw [(bytes_eq _ _).2 h] at h2; cases h2
                  · rw [hwb] at h; cases h)
                clear keep gain
                go_wp2
                go_round
                case rel => exact ⟨k + 1, b, by omega, rfl, by go_num, R1.out⟩
                case measure => simp [intOf]; omega
              | true =>
                cases h3 : ((GB k).toList == evL) with
                | true =>
                  have R1 : Hid (true = true ↔ ∃ g, g < k + 1 ∧ condG T GR GO GB op obj g) := gain ⟨hTk, (bytes_eq _ _).1 h1, .inr ⟨hwb, (evS_eq _).1 h3⟩⟩
                  clear keep gain
                  go_wp2
                  go_round
                  case rel => exact ⟨k + 1, true, by omega, rfl, by go_num, R1.out⟩
                  case measure => simp [intOf]; omega
                | false =>
                  have R1 : Hid (b = true ↔ ∃ g, g < k + 1 ∧ condG T GR GO GB op obj g) := keep (fun h => by
                    rcases h.2.2 with h | ⟨_, h⟩
                    · rw [(bytes_eq _ _).2 h] at h2; cases h2
                    · rw [(evS_eq _).2 h] at h3; cases h3)
                  clear keep gain
                  go_wp2
                  go_round
                  case rel => exact ⟨k + 1, b, by omega, rfl, by go_num, R1.out⟩
                  case measure => simp [intOf]; omega
      · obtain rfl : ng = k := by omega
        have hrb : r = b := by
          have h := JG.out.trans JK.out.symm
          cases r <;> cases b <;> simp_all
        subst hrb
        have hfin : Below w'.heap.size w' w5 := JB.out.trans (by rw [JW.out]; exact J4.out)
        have R1 : Hid (Below w'.heap.size w' w5) := hfin
        clear hfin
        go_wp2
        go_ret
        exact ⟨by simp, R1.out⟩
end Go.Proofs.Qxb6609411a
