/-
  Seat b6613151a: the float arithmetic of PodSizes: of 0 < r <= m < 2^63, 'uint64(float64(r)/float64(m)*2^20)' is a whole number that uint64 holds.
-/
import Derived.Laws.FloatArith
namespace Go.Proofs.Qxb6613151a
open Ieee
set_option linter.unusedVariables false

theorem log2_of {n k : Nat} (h1 : 2 ^ k ≤ n) (h2 : n < 2 ^ (k + 1)) : n.log2 = k := by
  have h0 : n ≠ 0 := by
    have := Nat.two_pow_pos k
    omega
  have a := (Nat.le_log2 h0).2 h1
  have b := (Nat.log2_lt h0).2 h2
  omega

theorem cut_le {neg : Bool} {n drop K : Nat} (h : n ≤ K * 2 ^ drop) : Toward.even.cut neg n drop ≤ K := by
  unfold Toward.cut
  simp only [Nat.shiftLeft_eq, Nat.one_mul]
  by_cases hd : drop ≤ n.log2 + 2
  · rw [Nat.min_eq_left hd]
    have hp := Nat.two_pow_pos drop
    generalize 2 ^ drop = g at h hp ⊢
    have hl : n / g ≤ K := Nat.div_le_of_le_mul (by rw [Nat.mul_comm]; exact h)
    by_cases he : n / g = K
    · have hm := Nat.div_add_mod n g
      rw [he, Nat.mul_comm] at hm
      have hr : n % g = 0 := by omega
      have hg0 : (g == 0) = false := by simp; omega
      rw [hr, he]
      simp [hg0]
    · have hb : ∀ b : Bool, b.toNat ≤ 1 := fun b => by cases b <;> simp
      have := hb (decide (g < 2 * (n % g)) || g == 2 * (n % g) && n / g % 2 == 1)
      omega
  · rw [Nat.min_eq_right (by omega)]
    have hn : n < 2 ^ (n.log2 + 1) := Nat.lt_log2_self
    have hg : 2 ^ (n.log2 + 2) = 2 * 2 ^ (n.log2 + 1) := by rw [Nat.pow_succ, Nat.mul_comm]
    rw [hg]
    generalize 2 ^ (n.log2 + 1) = g at hn
    rw [Nat.div_eq_of_lt (show n < 2 * g by omega), Nat.mod_eq_of_lt (show n < 2 * g by omega)]
    have h1 : decide (2 * g < 2 * n) = false := decide_eq_false (by omega)
    have h2 : (2 * g == 2 * n) = false := by simp; omega
    rw [h1, h2]
    simp

theorem cut_ge {way : Toward} {neg : Bool} {n drop K : Nat} (h : K * 2 ^ drop ≤ n) : K ≤ way.cut neg n drop := by
  unfold Toward.cut
  simp only [Nat.shiftLeft_eq, Nat.one_mul]
  have hg : 2 ^ min drop (n.log2 + 2) ≤ 2 ^ drop := Nat.pow_le_pow_right (by omega) (Nat.min_le_left _ _)
  have hp := Nat.two_pow_pos (min drop (n.log2 + 2))
  have : K ≤ n / 2 ^ min drop (n.log2 + 2) := by
    rw [Nat.le_div_iff_mul_le hp]
    exact Nat.le_trans (Nat.mul_le_mul_left _ hg) h
  omega

theorem cut_zero_le {neg : Bool} {n drop : Nat} : Toward.zero.cut neg n drop ≤ n := by
  unfold Toward.cut
  simp only [Nat.shiftLeft_eq, Nat.one_mul]
  simp only [Bool.toNat_false, Nat.add_zero]
  exact Nat.div_le_self _ _

theorem hbin : double.binade = 4503599627370496 := by decide
theorem hsw : double.signWeight = 9223372036854775808 := by decide
theorem hinf : double.infRung = 9218868437227405312 := by decide
theorem hleast : double.leastPlace = -1074 := by decide
theorem hfrac : (double.fractionBits : Int) = 52 := by decide

theorem read_mid (d f : Nat) (hf : f < 4503599627370496) (hd1 : 1 ≤ d) (hd2 : d < 2047) : double.read (d * 4503599627370496 + f) = .number false (4503599627370496 + f) (-1074 + ((d - 1 : Nat) : Int)) := by
  have hw : d * 4503599627370496 + f < 9223372036854775808 := by omega
  unfold Format.read
  simp only [hbin, hsw, hinf, hleast]
  rw [Nat.div_eq_of_lt hw, Nat.mod_eq_of_lt hw]
  rw [if_neg (by omega), if_pos (by omega)]
  rw [show (d * 4503599627370496 + f) % 4503599627370496 = f from by omega, show (d * 4503599627370496 + f) / 4503599627370496 = d from by omega]
  rfl

/-- a number in the middle of the range, rounded: its significand has 53 digits; its place is right or one more. -/
theorem near (mag : Nat) (place : Int) (E : Int) (h0 : mag ≠ 0) (hE : E = place + mag.log2) (h1 : -1000 ≤ E) (h2 : E ≤ 1000) :
    ∃ (m' : Nat) (p' : Int), double.read (double.nearest false mag place) = .number false m' p' ∧ 4503599627370496 ≤ m' ∧ m' < 9007199254740992 ∧ (p' = E - 52 ∨ p' = E - 51) := by
  have hlast : max (place + mag.log2 - (double.fractionBits : Nat)) double.leastPlace = E - 52 := by
    rw [hfrac, hleast]
    omega
  have hlo : 2 ^ mag.log2 ≤ mag := Nat.log2_self_le h0
  have hhi : mag < 2 ^ (mag.log2 + 1) := Nat.lt_log2_self
  generalize hl : mag.log2 = l at *
  have hk : ∃ kept, Toward.even.cut false (mag <<< (place - (E - 52)).toNat) ((E - 52) - place).toNat = kept ∧ 2 ^ 52 ≤ kept ∧ kept ≤ 2 ^ 53 := by
    refine ⟨_, rfl, cut_ge ?_, cut_le ?_⟩
    · rw [Nat.shiftLeft_eq]
      refine Nat.le_trans ?_ (Nat.mul_le_mul_right _ hlo)
      rw [← Nat.pow_add, ← Nat.pow_add]
      exact Nat.pow_le_pow_right (by omega) (by omega)
    · rw [Nat.shiftLeft_eq]
      refine Nat.le_trans (Nat.mul_le_mul_right _ (Nat.le_of_lt hhi)) ?_
      rw [← Nat.pow_add, ← Nat.pow_add]
      exact Nat.pow_le_pow_right (by omega) (by omega)
  obtain ⟨kept, hk, hk1', hk2'⟩ := hk
  have hk1 : 4503599627370496 ≤ kept := Nat.le_trans (by decide) hk1'
  have hk2 : kept ≤ 9007199254740992 := Nat.le_trans hk2' (by decide)
  clear hk1' hk2'
  have hnear : double.nearest false mag place = (E + 1022).toNat * 4503599627370496 + kept := by
    unfold Format.nearest
    rw [if_neg h0]
    simp only [hl, hlast, hk]
    simp only [hbin, hinf, hleast, Format.word, Bool.false_eq_true, if_false]
    have hx : E - 52 - (-1074) = E + 1022 := by omega
    rw [hx]
    have hy : (E + 1022).toNat ≤ 2022 := by omega
    generalize (E + 1022).toNat = e at hy ⊢
    clear hx hk hhi hlo hlast hE h0 h1 h2
    exact Nat.min_eq_left (by omega)
  obtain ⟨e, he⟩ : ∃ e : Nat, (E + 1022).toNat = e := ⟨_, rfl⟩
  have hek : (e : Int) = E + 1022 := by omega
  rw [hnear, he]
  clear hnear hk hhi hlo hlast hE h0
  by_cases h53 : kept = 9007199254740992
  · have hw : e * 4503599627370496 + kept = (e + 2) * 4503599627370496 + 0 := by omega
    rw [hw, read_mid (e + 2) 0 (by omega) (by omega) (by omega)]
    exact ⟨_, _, rfl, by omega, by omega, .inr (by omega)⟩
  · have hw : e * 4503599627370496 + kept = (e + 1) * 4503599627370496 + (kept - 4503599627370496) := by omega
    rw [hw, read_mid (e + 1) (kept - 4503599627370496) (by omega) (by omega) (by omega)]
    exact ⟨_, _, rfl, by omega, by omega, .inl (by omega)⟩

/-- float64 of a positive int64. -/
theorem ofInt_near (r : Int) (h0 : 0 < r) (h1 : r < 9223372036854775808) :
    ∃ (m' : Nat) (p' : Int), double.read (floatOfInt .f64 r) = .number false m' p' ∧ 4503599627370496 ≤ m' ∧ m' < 9007199254740992 ∧ (p' = (r.natAbs.log2 : Int) - 52 ∨ p' = (r.natAbs.log2 : Int) - 51) := by
  have hl : r.natAbs.log2 < 63 := (Nat.log2_lt (by omega)).2 (by omega)
  have h := near r.natAbs 0 r.natAbs.log2 (by omega) (by omega) (by omega) (by omega)
  have hd : decide (r < 0) = false := decide_eq_false (by omega)
  have e : floatOfInt .f64 r = double.nearest false r.natAbs 0 := by
    show double.nearest (decide (r < 0)) r.natAbs 0 = _
    rw [hd]
  rw [e]
  exact h

/-- the quotient's significand. -/
def quoMag (m1 m2 : Nat) : Nat := 2 * ((m1 <<< 54) / m2) + (((m1 <<< 54) % m2) != 0).toNat

theorem quoMag_in (m1 m2 : Nat) (a1 : 4503599627370496 ≤ m1) (b1 : m1 < 9007199254740992) (a2 : 4503599627370496 ≤ m2) (b2 : m2 < 9007199254740992) :
    18014398509481984 ≤ quoMag m1 m2 ∧ quoMag m1 m2 < 72057594037927936 := by
  unfold quoMag
  rw [Nat.shiftLeft_eq, show (2 : Nat) ^ 54 = 18014398509481984 from by decide]
  have h1 : 9007199254740992 ≤ m1 * 18014398509481984 / m2 := by
    rw [Nat.le_div_iff_mul_le (by omega)]
    omega
  have h2 : m1 * 18014398509481984 / m2 < 36028797018963968 := by
    rw [Nat.div_lt_iff_lt_mul (by omega)]
    omega
  have hb : ∀ b : Bool, b.toNat ≤ 1 := fun b => by cases b <;> simp
  have h3 := hb ((m1 * 18014398509481984 % m2) != 0)
  generalize (m1 * 18014398509481984 % m2 != 0).toNat = x at h3 ⊢
  generalize m1 * 18014398509481984 / m2 = y at h1 h2 ⊢
  omega

theorem fb2 : double.fractionBits + 2 = 54 := by decide

theorem div_num {x y m1 m2 : Nat} {p1 p2 : Int} (e1 : double.read x = .number false m1 p1) (e2 : double.read y = .number false m2 p2) (h0 : m2 ≠ 0) (g1 : m1.log2 = 52) (g2 : m2.log2 = 52) :
    double.div x y = some (double.nearest false (quoMag m1 m2) (p1 - p2 - 54 - 1)) := by
  unfold Format.div
  rw [e1, e2, fb2]
  unfold Datum.quotient
  simp only [if_neg h0, g1, g2, Nat.add_sub_cancel, Option.map_some, Format.write, quoMag, Bool.xor_self]
  rfl

theorem hscale : double.read 4697254411347427328 = .number false 4503599627370496 (-32) := by
  have := read_mid 1043 0 (by omega) (by omega) (by omega)
  rw [show 1043 * 4503599627370496 + 0 = 4697254411347427328 from by decide] at this
  rw [this]
  rfl

theorem mul_num {x m3 : Nat} {p3 : Int} (e3 : double.read x = .number false m3 p3) :
    double.mul x 4697254411347427328 = some (double.nearest false (m3 * 4503599627370496) (p3 + (-32))) := by
  unfold Format.mul
  rw [e3, hscale]
  unfold Datum.product
  simp only [Option.map_some, Format.write, Bool.xor_self]

theorem toInt_num {x m4 : Nat} {p4 : Int} (e4 : double.read x = .number false m4 p4) (h : m4 < 9007199254740992) (hp : p4 ≤ 0) : ∃ n, floatToIntVal .f64 x .u64 = some n := by
  have hc := @cut_zero_le false m4 (-p4).toNat
  have hto : (FloatKind.decode .f64 x).toInt .zero = some ((Toward.zero.cut false m4 (-p4).toNat : Nat) : Int) := by
    have h1 : FloatKind.decode .f64 x = .number false m4 p4 := e4
    rw [h1]
    unfold Datum.toInt Datum.integral
    simp only
    rw [show p4.toNat = 0 from by omega]
    simp [signed]
  unfold floatToIntVal
  rw [hto]
  generalize Toward.zero.cut false m4 (-p4).toNat = c at hc
  have hmin : IntKind.u64.min = 0 := by decide
  have hmax : IntKind.u64.max = 18446744073709551615 := by decide
  refine ⟨(c : Int), ?_⟩
  simp only [hmin, hmax]
  rw [if_pos (by omega)]

theorem size_ok (r m : Int) (h0 : 0 < r) (hrm : r ≤ m) (hm : m < 9223372036854775808) :
    ∃ (q p : Nat) (n : Int), floatBits .quo .f64 (floatOfInt .f64 r) (floatOfInt .f64 m) = some q ∧ floatBits .mul .f64 q 4697254411347427328 = some p ∧ floatToIntVal .f64 p .u64 = some n := by
  obtain ⟨m1, p1, e1, a1, b1, c1⟩ := ofInt_near r h0 (by omega)
  obtain ⟨m2, p2, e2, a2, b2, c2⟩ := ofInt_near m (by omega) hm
  have hl : r.natAbs.log2 ≤ m.natAbs.log2 := (Nat.le_log2 (by omega)).2 (Nat.le_trans (Nat.log2_self_le (by omega)) (by omega))
  have hl2 : m.natAbs.log2 < 63 := (Nat.log2_lt (by omega)).2 (by omega)
  generalize r.natAbs.log2 = lr at hl c1
  generalize m.natAbs.log2 = lm at hl hl2 c2
  have g1 : m1.log2 = 52 := log2_of (k := 52) (by omega) (by omega)
  have g2 : m2.log2 = 52 := log2_of (k := 52) (by omega) (by omega)
  have hq := div_num e1 e2 (by omega) g1 g2
  obtain ⟨aq, bq⟩ := quoMag_in m1 m2 a1 b1 a2 b2
  generalize quoMag m1 m2 = mq at hq aq bq
  have hlq1 : 54 ≤ mq.log2 := (Nat.le_log2 (by omega)).2 (by omega)
  have hlq2 : mq.log2 < 56 := (Nat.log2_lt (by omega)).2 (by omega)
  obtain ⟨m3, p3, e3, a3, b3, c3⟩ := near mq (p1 - p2 - 54 - 1) (p1 - p2 - 54 - 1 + mq.log2) (by omega) rfl (by omega) (by omega)
  have hp := mul_num e3
  have hlp : (m3 * 4503599627370496).log2 = 104 := log2_of (k := 104) (by omega) (by omega)
  obtain ⟨m4, p4, e4, a4, b4, c4⟩ := near (m3 * 4503599627370496) (p3 + (-32)) (p3 + (-32) + 104) (by omega) (by rw [hlp]; rfl) (by omega) (by omega)
  obtain ⟨n, hn⟩ := toInt_num e4 b4 (by omega)
  exact ⟨_, _, n, hq, hp, hn⟩
end Go.Proofs.Qxb6613151a
