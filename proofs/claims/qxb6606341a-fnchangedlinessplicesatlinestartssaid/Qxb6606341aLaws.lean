/-
  Seat b6606341a: ZZChangedLines; what a slice that came in is; the two laws' walks.
-/
import Derived.Test.Qxb6606341aModel
namespace Go.Proofs.Qxb6606341a
open Go.ChangeShapes Go.WideShapes Go.ChangeAt Go.RowKit
set_option linter.unusedVariables false

theorem zzchanged_any (a0 : Option Addr) (n0 c0 : Nat) (X : Nat → Int) (a1 : Option Addr) (n1 c1 : Nat) (Y : Nat → Int) (w : World) (hX : IsB w a0 n0 X) (hY : IsB w a1 n1 Y)
    (h0 : n0 ≤ 524288) (h1 : n1 ≤ 524288) (hc0 : n0 ≤ c0) (hc1 : n1 ≤ c1) :
    Calls Try.prog 8 #[.slice a0 n0 c0, .slice a1 n1 c1] w fun e w' => (∃ st en ee : Nat, CL X Y n0 n1 st en ee ∧ e = .returned (.tuple #[.int .i64 st, .int .i64 en, .int .i64 ee])) ∧ ∃ m, w' = w.drewN m := by
  go_enter Try.func8, Try.ntmps8
  go_wp2_with fail
  refine (changed_any _ _ _ X _ _ _ Y _ hX hY h0 h1 hc0 hc1).mono ?_
  rintro e w' ⟨⟨st, en, ee, hcl, rfl⟩, m, rfl⟩
  go_wp2
  go_ret3
  exact ⟨⟨st, en, ee, hcl, rfl⟩, m, rfl⟩

theorem add_none (b off i : Nat) : (⟨b, off, none⟩ : Addr).add i = ⟨b, off + i, none⟩ := by
  by_cases h : i = 0
  · subst h; simp [Addr.add]
  · simp [Addr.add, h]

theorem isB_of_cells {w : World} {x : Addr} {n : Nat} {zs : List Int} (hz : n ≤ zs.length) (hcell : ∀ i, i < zs.length → w.cell? (x.add i) = some (.int .u8 (zs.getD i 0))) :
    IsB w (some x) n (fun i => zs.getD i 0) := by
  by_cases h0 : n = 0
  · exact .inl h0
  · obtain ⟨b, off, spot⟩ := x
    have hc := hcell 0 (by omega)
    have hspot : spot = none := by simpa [Addr.add] using World.cell?_spot hc
    subst hspot
    refine .inr ⟨b, off, rfl, ?_, fun i hi => by rw [← add_none]; exact hcell i (by omega)⟩
    have := World.block_lt_of_cell? w _ hc
    rwa [add_none] at this

theorem below_drewN' {B : Nat} {a w : World} (h : Below B a w) (m : Nat) : Below B a (w.drewN m) := ⟨h.os, h.tape, h.output, h.size, h.block⟩

set_option maxHeartbeats 400000 in
theorem swap_walk (a0 : Option Addr) (n0 c0 : Nat) (X : Nat → Int) (a1 : Option Addr) (n1 c1 : Nat) (Y : Nat → Int) (w : World) (hX : IsB w a0 n0 X) (hY : IsB w a1 n1 Y)
    (h0 : n0 ≤ maxLen) (h1 : n1 ≤ maxLen) (z0 : a0 = none → c0 = 0) (z1 : a1 = none → c1 = 0) :
    Calls Try.prog 5 #[.slice a0 n0 c0, .slice a1 n1 c1] w fun e w' => e = .returned (.bool true) ∧ Below w.heap.size w w' := by
  unfold maxLen at h0 h1
  go_enter Try.func5, Try.ntmps5
  go_wp2_with fail
  refine (zzBytes14 _ _ _ _ _ _ _ (by omega) (by omega)).mono ?_
  rintro e w' ⟨⟨r, rfl⟩, hw⟩
  cases hw
  cases r with
  | false =>
    go_wp2
    go_ret
    exact ⟨rfl, Below.refl _ _⟩
  | true =>
    by_cases hl : n0 ≤ 524288
    · by_cases hl1 : n1 ≤ 524288
      · go_wp2_with fail
        refine (clone_any _ _ _ X _ hX hl z0).mono ?_
        rintro e w1 ⟨b0, rfl, hX1, hb1⟩
        go_wp2_with fail
        refine (clone_any _ _ _ Y _ (by exact hY.below hb1) hl1 z1).mono ?_
        rintro e w2 ⟨b1, rfl, hY2, hb2⟩
        have hX2 := hX1.below hb2
        have hb := hb1.trans (hb2.mono hb1.size)
        clear hX1 hb1 hb2 hX hY
        go_wp2_with fail
        refine (zzchanged_any _ _ _ X _ _ _ Y _ hX2 hY2 hl hl1 (Nat.le_refl _) (Nat.le_refl _)).mono ?_
        rintro e w3 ⟨⟨st, en, ee, hcl, rfl⟩, m, rfl⟩
        go_wp2_with fail
        refine (zzchanged_any _ _ _ Y _ _ _ X _ (hY2.drewN _) (hX2.drewN _) hl1 hl (Nat.le_refl _) (Nat.le_refl _)).mono ?_
        rintro e w4 ⟨⟨st', en', ee', hcl', rfl⟩, m', rfl⟩
        obtain ⟨rfl, rfl, rfl⟩ := hcl.swap.uniq hcl'
        go_wp2
        go_ret
        exact ⟨rfl, below_drewN' hb _⟩
      · go_wp2
        go_ret
        exact ⟨rfl, Below.refl _ _⟩
    · go_wp2
      go_ret
      exact ⟨rfl, Below.refl _ _⟩

set_option maxHeartbeats 400000 in
theorem model_walk (a0 : Option Addr) (n0 c0 : Nat) (X : Nat → Int) (a1 : Option Addr) (n1 c1 : Nat) (Y : Nat → Int) (w : World) (hX : IsB w a0 n0 X) (hY : IsB w a1 n1 Y)
    (h0 : n0 ≤ maxLen) (h1 : n1 ≤ maxLen) (z0 : a0 = none → c0 = 0) (z1 : a1 = none → c1 = 0) :
    Calls Try.prog 3 #[.slice a0 n0 c0, .slice a1 n1 c1] w fun e w' => e = .returned (.bool true) ∧ Below w.heap.size w w' := by
  unfold maxLen at h0 h1
  go_enter Try.func3, Try.ntmps3
  go_wp2_with fail
  refine (zzBytes6 _ _ _ _ _ _ _ (by omega) (by omega)).mono ?_
  rintro e w' ⟨⟨r, rfl⟩, hw⟩
  cases hw
  cases r with
  | false =>
    go_wp2
    go_ret
    exact ⟨rfl, Below.refl _ _⟩
  | true =>
    by_cases hl : n0 ≤ 524288
    · by_cases hl1 : n1 ≤ 524288
      · go_wp2_with fail
        refine (clone_any _ _ _ X _ hX hl z0).mono ?_
        rintro e w1 ⟨b0, rfl, hX1, hb1⟩
        go_wp2_with fail
        refine (clone_any _ _ _ Y _ (by exact hY.below hb1) hl1 z1).mono ?_
        rintro e w2 ⟨b1, rfl, hY2, hb2⟩
        have hX2 := hX1.below hb2
        have hb := hb1.trans (hb2.mono hb1.size)
        clear hX1 hb1 hb2 hX hY
        go_wp2_with fail
        refine (zzchanged_any _ _ _ X _ _ _ Y _ hX2 hY2 hl hl1 (Nat.le_refl _) (Nat.le_refl _)).mono ?_
        rintro e w3 ⟨⟨st, en, ee, hcl, rfl⟩, m, rfl⟩
        go_wp2_with fail
        refine (model_any _ _ _ X _ _ _ Y _ (hX2.drewN _) (hY2.drewN _) hl hl1 (Nat.le_refl _) (Nat.le_refl _)).mono ?_
        rintro e w4 ⟨⟨st', en', ee', hcl', rfl⟩, m', rfl⟩
        obtain ⟨rfl, rfl, rfl⟩ := hcl.uniq hcl'
        go_wp2
        go_ret
        exact ⟨rfl, below_drewN' hb _⟩
      · go_wp2
        go_ret
        exact ⟨rfl, Below.refl _ _⟩
    · go_wp2
      go_ret
      exact ⟨rfl, Below.refl _ _⟩
end Go.Proofs.Qxb6606341a
