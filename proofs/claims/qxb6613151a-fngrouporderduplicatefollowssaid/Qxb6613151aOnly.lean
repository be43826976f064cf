/-
  Seat b6613151a: fit (24), OnlyLimited (14).
-/
import Derived.Test.Qxb6613151aFits
import Derived.Laws.Cover3
namespace Go.Proofs.Qxb6613151a
open Go.ChangeShapes Go.WideShapes Go.ChangeAt Go.RowKit
set_option linter.unusedVariables false

/-- whether a node of row r takes a pod of group g. -/
noncomputable def fitB (D : PD) (r g : Nat) : Bool := D.O g r && decide (0 < fitsF (D.C r) (D.Q g) (D.nQ g))

def FitOut (b : Bool) (e : Ending) : Prop := ∃ x : Int, e = .returned (.int .i64 x) ∧ decide (0 < x) = b

set_option maxHeartbeats 1000000 in
theorem fit_any (pb rb gb : Nat) (D : PD) (w : World) (h : IsProb w pb rb gb D) (hd : Dom D) (r g : Nat) (hr : r < D.nR) (hg : g < D.nG) (a : Option Addr) (hC : IsA encI w a (D.nC r) (D.C r)) :
    Calls Try.prog 24 #[.pointer (some ⟨pb, 0, none⟩), .int .i64 r, .int .i64 g, .slice a (D.nC r) (D.nC r), .slice none 0 0] w fun e w' => FitOut (fitB D r g) e ∧ w = w' := by
  have hp1 := h.2.2.1
  have hgrps := hd.grps
  have hrows := hd.rows
  obtain ⟨a1, a2, a3, g0, g1, g2, g3, g4, g5, g6⟩ := (h.2.2.2.2).2 g hg
  have hon := hd.okn g hg
  have hos := hd.oks g hg
  have hap := hd.apn g hg
  have hcn := hd.capn r hr
  have hqs := Nat.le_trans (hd.asks g hg) (hd.caps r hr)
  have hpb := h.1
  have hgb := h.2.2.2.2.1
  rcases g5 with g5 | ⟨ob, oo, rfl, hob, hoc⟩
  · omega
  have ho := hoc r (by omega)
  have hft := fits_any a a1 (D.nC r) (D.nQ g) (D.nC r) (D.nQ g) (D.C r) (D.Q g) w hC g4 hqs hcn
  have HA3 : Hid (IsA encI w a3 (D.nA g) (D.A g)) := g6
  have hgI : (g : Int) < D.nG := by omega
  have hrI : (r : Int) < D.nO g := by omega
  clear h hd hoc hC g4 g6
  unfold fitB
  cases hO : D.O g r with
  | false =>
    rw [hO] at ho
    go_enter Try.func24, Try.ntmps24
    go_wp2
    go_ret
    exact ⟨⟨0, rfl, rfl⟩, rfl⟩
  | true =>
    rw [hO] at ho
    generalize fitsF (D.C r) (D.Q g) (D.nQ g) = f at hft
    go_enter Try.func24, Try.ntmps24
    go_wp2_with fail
    refine hft.mono ?_
    rintro e w' ⟨rfl, rfl⟩
    go_wp2
    go_loop [12, 40] (fun x i => ∃ (k : Nat) (n : Int), k ≤ D.nA g ∧ x = .int .i64 n ∧ i = .int .i64 k ∧ Hid (decide (0 < n) = decide (0 < f))) (fun _ i => D.nA g - (intOf i).toNat)
    case atStart => exact ⟨0, f, Nat.zero_le _, rfl, rfl, rfl⟩
    case round =>
      obtain ⟨k, n, hk, rfl, rfl, hnf⟩ := hrel
      by_cases hlt : k < D.nA g
      · rcases HA3.out with h3 | ⟨ab, ao, rfl, hab, hac⟩
        · omega
        have hak := hac k hlt
        clear hac
        cases hq : (D.A g k == (g : Int)) with
        | true =>
          go_wp2
          go_round
          case rel => exact ⟨k + 1, _, by omega, rfl, by go_num, by unfold Hid; rw [← hnf.out]; split <;> simp <;> omega⟩
          case measure => simp [intOf]; omega
        | false =>
          go_wp2
          go_round
          case rel => exact ⟨k + 1, n, by omega, rfl, by go_num, hnf⟩
          case measure => simp [intOf]; omega
      · have e : k = D.nA g := by omega
        subst e
        go_wp2
        go_ret
        exact ⟨⟨n, rfl, hnf.out⟩, rfl⟩

/-- whether only limited rows among the first n take a pod of group g. -/
noncomputable def onlyF (D : PD) (g : Nat) : Nat → Bool
  | 0 => true
  | r + 1 => onlyF D g r && !(decide (D.L r = 9223372036854775807) && fitB D r g)

theorem onlyF_false (D : PD) (g : Nat) {r : Nat} (h : onlyF D g r = false) : ∀ {n : Nat}, r ≤ n → onlyF D g n = false
  | 0, hn => by
    have : r = 0 := by omega
    subst this
    exact h
  | n + 1, hn => by
    by_cases e : r = n + 1
    · subst e; exact h
    · rw [onlyF, onlyF_false D g h (n := n) (by omega), Bool.false_and]

set_option maxHeartbeats 1000000 in
theorem only_any (pb rb gb : Nat) (D : PD) (w : World) (h : IsProb w pb rb gb D) (hd : Dom D) (g : Nat) (hg : g < D.nG) :
    Calls Try.prog 14 #[.pointer (some ⟨pb, 0, none⟩), .int .i64 g] w fun e w' => e = .returned (.bool (onlyF D g D.nR)) ∧ Below w.heap.size w w' := by
  have hp0 := h.2.1
  have hpb := h.1
  have hrb := h.2.2.2.1.1
  have hrows := hd.rows
  have hgrps := hd.grps
  have HP : Hid (IsProb w pb rb gb D) := h
  have HD : Hid (Dom D) := hd
  clear h hd
  go_enter Try.func14, Try.ntmps14
  go_wp2
  go_loopw [12] (fun i wr => ∃ r : Nat, r ≤ D.nR ∧ i = .int .i64 r ∧ Below w.heap.size w wr ∧ Hid (onlyF D g r = true)) (fun i _ => D.nR - (intOf i).toNat)
  case atStart => exact ⟨0, Nat.zero_le _, rfl, Below.refl _ _, rfl⟩
  case round =>
    obtain ⟨r, hr, rfl, hb, ho⟩ := hrel
    by_cases hlt : r < D.nR
    · have hP1 := HP.out.below hb (Nat.le_refl _)
      obtain ⟨a, r0, r1, r2, r3, r4, r5⟩ := hP1.2.2.2.1.2 r hlt
      have hsz := hb.size
      have hcn := HD.out.capn r hlt
      have hbx : Below wr.heap.size wr (wr.alloc (Obj.cells #[Value.int .i64 0, Value.slice a (D.nC r) (D.nC r), Value.slice none 0 0, Value.int .i64 (D.L r), Value.bool false] 39)) := (Below.refl _ _).alloc (Nat.le_refl _) _
      have hft := fit_any pb rb gb D _ (hP1.below hbx (Nat.le_refl _)) HD.out r g hlt hg a (r5.below hbx (Nat.le_refl _))
      have hB2 : Hid (Below w.heap.size w (wr.alloc (Obj.cells #[Value.int .i64 0, Value.slice a (D.nC r) (D.nC r), Value.slice none 0 0, Value.int .i64 (D.L r), Value.bool false] 39))) := hb.trans (hbx.mono hsz)
      clear hP1 hbx r5 hb
      have hstep : Hid (onlyF D g (r + 1) = !(decide (D.L r = 9223372036854775807) && fitB D r g)) := by
        unfold Hid
        rw [onlyF, ho.out, Bool.true_and]
      cases hL : (D.L r == 9223372036854775807) with
      | false =>
        have hL' : decide (D.L r = 9223372036854775807) = false := by simpa using hL
        rw [hL', Bool.false_and] at hstep
        go_wp2
        go_roundw
        case rel => exact ⟨r + 1, by omega, by go_num, hB2.out, hstep⟩
        case measure => simp [intOf]; omega
      | true =>
        have hL' : decide (D.L r = 9223372036854775807) = true := by simpa using hL
        rw [hL', Bool.true_and] at hstep
        go_wp2_with fail
        refine hft.mono ?_
        rintro e w' ⟨⟨x, rfl, hx⟩, rfl⟩
        cases hf : fitB D r g with
        | true =>
          rw [hf] at hstep hx
          go_wp2
          go_ret
          exact ⟨by rw [onlyF_false D g hstep.out hlt]; rfl, hB2.out⟩
        | false =>
          rw [hf] at hstep hx
          go_wp2
          go_roundw
          case rel => exact ⟨r + 1, by omega, by go_num, hB2.out, hstep⟩
          case measure => simp [intOf]; omega
    · have e : r = D.nR := by omega
      subst e
      go_wp2
      go_ret
      exact ⟨by rw [ho.out]; rfl, hb⟩
end Go.Proofs.Qxb6613151a
