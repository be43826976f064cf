/-
  Seat b6613151a: PodSizes (13).
-/
import Derived.Test.Qxb6613151aProb
import Derived.Test.Qxb6613151aFloat
import Derived.BigRegion
namespace Go.Proofs.Qxb6613151a
open Go.ChangeShapes Go.WideShapes Go.ChangeAt Go.RowKit
set_option linter.unusedVariables false

/-- Block b holds n cells, of which the first k are f 0 .. f (k-1). -/
def Fl (w : World) (b : Nat) (ty : TypeId) (n k : Nat) (f : Nat → Value) : Prop :=
  ∃ cur : Array Value, w.heap[b]? = some (.cells cur ty (0, 0)) ∧ cur.size = n ∧ ∀ i, i < k → cur[i]? = some (f i)

theorem Fl.lt {w : World} {b : Nat} {ty : TypeId} {n k : Nat} {f : Nat → Value} (h : Fl w b ty n k f) : b < w.heap.size := by
  obtain ⟨cur, h1, _⟩ := h
  exact (Array.getElem?_eq_some_iff.1 h1).1
theorem Fl.below {B : Nat} {w w' : World} {b : Nat} {ty : TypeId} {n k : Nat} {f : Nat → Value} (h : Fl w b ty n k f) (hb : Below B w w') (hB : w.heap.size ≤ B) : Fl w' b ty n k f := by
  have := h.lt
  obtain ⟨cur, h1, h2, h3⟩ := h
  exact ⟨cur, (hb.block b (by omega)).trans h1, h2, h3⟩
theorem Fl.cell {w : World} {b : Nat} {ty : TypeId} {n k : Nat} {f : Nat → Value} (h : Fl w b ty n k f) (i : Nat) (hi : i < k) : w.cell? ⟨b, i, none⟩ = some (f i) := by
  obtain ⟨cur, h1, h2, h3⟩ := h
  rw [cell_of_row _ _ i cur ty (0, 0) h1]
  exact h3 i hi
theorem Fl.room {w : World} {b : Nat} {ty : TypeId} {n k : Nat} {f : Nat → Value} (h : Fl w b ty n k f) (i : Nat) (hi : i < n) : ∃ v, w.cell? ⟨b, i, none⟩ = some v ∧ w.frozen? ⟨b, i, none⟩ = false := by
  obtain ⟨cur, h1, h2, h3⟩ := h
  exact ⟨cur[i]'(by omega), by rw [cell_of_row _ _ i cur ty (0, 0) h1]; simp [h2, hi], frozen_of_row w _ i cur ty h1⟩
theorem Fl.set {w : World} {b : Nat} {ty : TypeId} {n k : Nat} {f : Nat → Value} (h : Fl w b ty n k f) (j : Nat) (v : Value) (k' : Nat) (g : Nat → Value) (hj : j < n) (hk : ∀ i, i < k' → (i = j ∧ g i = v) ∨ (i ≠ j ∧ i < k ∧ g i = f i)) : Fl (w.setCell ⟨b, j, none⟩ v) b ty n k' g := by
  obtain ⟨cur, h1, h2, h3⟩ := h
  have heq := setCell_eq_setRow w b j cur ty (0, 0) v h1
  refine ⟨cur.setIfInBounds j v, ?_, by simpa using h2, fun i hi => ?_⟩
  · rw [heq]
    exact setRow_heap w b cur _ ty (0, 0) h1
  · rcases hk i hi with ⟨rfl, e⟩ | ⟨hne, hik, e⟩
    · rw [e]
      simp [h2, hj]
    · rw [Array.getElem?_setIfInBounds_ne (fun e' => hne e'.symm), e]
      exact h3 i hik
theorem Fl.other {w : World} {b : Nat} {ty : TypeId} {n k : Nat} {f : Nat → Value} (h : Fl w b ty n k f) (c j : Nat) (v : Value) (hne : b ≠ c) : Fl (w.setCell ⟨c, j, none⟩ v) b ty n k f := by
  obtain ⟨cur, h1, h2, h3⟩ := h
  exact ⟨cur, (Below.heap_setCell w ⟨c, j, none⟩ v b hne).trans h1, h2, h3⟩
theorem Fl.drewN {w : World} {b : Nat} {ty : TypeId} {n k : Nat} {f : Nat → Value} (h : Fl w b ty n k f) (m : Nat) : Fl (w.drewN m) b ty n k f := h
theorem Fl.alloc {w : World} {b : Nat} {ty : TypeId} {n k : Nat} {f : Nat → Value} (h : Fl w b ty n k f) (o : Obj) : Fl (w.alloc o) b ty n k f := by
  have := h.lt
  obtain ⟨cur, h1, h2, h3⟩ := h
  exact ⟨cur, (Below.heap_alloc w o b this).trans h1, h2, h3⟩
theorem Fl.made {w : World} {g base : Nat} {ty : TypeId} {n : Nat} {xs : List Value} {v : Value} (hx : ∀ x, x ∈ xs → x = v) (h : w.ownsRow base ty 1 (.slice (some ⟨g, 0, none⟩) n n) n xs) : Fl w g ty n n (fun _ => v) := by
  obtain ⟨hl, h⟩ := h
  rcases h with ⟨h', _⟩ | ⟨g', cap', cur, h', _, hg, hc1, hc2, hc3, hc4⟩
  · simp at h'
  · simp only [Value.slice.injEq, Option.some.injEq, Addr.mk.injEq, and_true, true_and] at h'
    obtain ⟨rfl, rfl⟩ := h'
    simp only [Nat.mul_one] at hl hc3 hc4
    refine ⟨cur, hg, hc3, fun i hi => ?_⟩
    rw [List.take_of_length_le (by simp [hc3])] at hc4
    have hi' : i < xs.length := by omega
    rw [← Array.getElem?_toList, hc4, List.getElem?_eq_getElem hi', hx _ (List.getElem_mem hi')]

/-- 'uint64(float64(r)/float64(m)*2^20)'. -/
def szF (r m : Int) : Int :=
  ((floatBits .quo .f64 (floatOfInt .f64 r) (floatOfInt .f64 m)).bind fun q => (floatBits .mul .f64 q 4697254411347427328).bind fun p => floatToIntVal .f64 p .u64).getD 0

theorem szF_ok (r m : Int) (h0 : 0 < r) (hrm : r ≤ m) (hm : m < 9223372036854775808) :
    ∃ q p : Nat, floatBits .quo .f64 (floatOfInt .f64 r) (floatOfInt .f64 m) = some q ∧ floatBits .mul .f64 q 4697254411347427328 = some p ∧ floatToIntVal .f64 p .u64 = some (szF r m) := by
  obtain ⟨q, p, n, h1, h2, h3⟩ := size_ok r m h0 hrm hm
  refine ⟨q, p, h1, h2, ?_⟩
  rw [h3]
  unfold szF
  rw [h1]
  simp only [Option.bind_some, h2, h3, Option.getD_some]

/-- the size of a pod that asks Q of the first k resources. -/
def sizeF (Q M : Nat → Int) : Nat → Int
  | 0 => 0
  | k + 1 => if 0 < Q k then (if sizeF Q M k < szF (Q k) (M k) then szF (Q k) (M k) else sizeF Q M k) else sizeF Q M k

/-- What the law's domain gives. -/
structure Dom (D : PD) : Prop where
  pos : 1 ≤ D.nR
  rows : D.nR ≤ 4096
  gpos : 1 ≤ D.nG
  grps : D.nG ≤ 4097
  caps : ∀ r, r < D.nR → D.nC 0 ≤ D.nC r
  capn : ∀ r, r < D.nR → D.nC r ≤ 1048576
  asks : ∀ g, g < D.nG → D.nQ g ≤ D.nC 0
  oks : ∀ g, g < D.nG → D.nR ≤ D.nO g
  okn : ∀ g, g < D.nG → D.nO g ≤ 1048576
  apn : ∀ g, g < D.nG → D.nA g ≤ 1048576
  most : ∀ g k, g < D.nG → k < D.nQ g → D.Q g k ≤ mostF D.C k D.nR
  cin : ∀ r k, r < D.nR → k < D.nC r → D.C r k < 9223372036854775808

theorem mostF_lt {C : Nat → Nat → Int} {k : Nat} : ∀ {n : Nat}, (∀ r, r < n → C r k < 9223372036854775808) → mostF C k n < 9223372036854775808
  | 0, _ => by rw [mostF]; omega
  | n + 1, h => by
    have h1 := mostF_lt (n := n) (fun r hr => h r (by omega))
    have h2 := h n (by omega)
    rw [mostF]
    split <;> omega

def sizesOf (D : PD) (g : Nat) : Int := sizeF (D.Q g) (fun k => mostF D.C k D.nR) (D.nQ g)

/-- sizes[i] ahead of group g's turn; and within it, behind k resources. -/
def szG (D : PD) (g i : Nat) : Int := if i < g then sizesOf D i else 0
def szP (D : PD) (g k i : Nat) : Int := if i < g then sizesOf D i else if i = g then sizeF (D.Q g) (fun k => mostF D.C k D.nR) k else 0
theorem szP_zero (D : PD) (g i : Nat) : szP D g 0 i = szG D g i := by
  unfold szP szG
  split
  · rfl
  · split <;> rfl
theorem szP_end (D : PD) (g i : Nat) : szP D g (D.nQ g) i = szG D (g + 1) i := by
  unfold szP szG
  by_cases e1 : i < g
  · rw [if_pos e1, if_pos (by omega)]
  · by_cases e2 : i = g
    · subst e2
      rw [if_neg e1, if_pos rfl, if_pos (by omega)]
      rfl
    · rw [if_neg e1, if_neg e2, if_neg (by omega)]
theorem szP_self (D : PD) (g k : Nat) : szP D g k g = sizeF (D.Q g) (fun k => mostF D.C k D.nR) k := by
  unfold szP
  rw [if_neg (by omega), if_pos rfl]
theorem szP_ne (D : PD) (g k k' i : Nat) (h : i ≠ g) : szP D g k i = szP D g k' i := by
  unfold szP
  rw [if_neg h, if_neg h]
theorem Fl.congr {w : World} {b : Nat} {ty : TypeId} {n k : Nat} {f : Nat → Value} (h : Fl w b ty n k f) (k' : Nat) (g : Nat → Value) (hk : k' ≤ k) (he : ∀ i, i < k' → g i = f i) : Fl w b ty n k' g := by
  obtain ⟨cur, h1, h2, h3⟩ := h
  exact ⟨cur, h1, h2, fun i hi => by rw [he i hi]; exact h3 i (by omega)⟩

theorem info57 : (Try.prog.info? 57).map (fun i => (i.zero, i.size, i.bytes)) = some (some (.float .f64 0), 1, 8) := by kernel_rfl
theorem info51 : (Try.prog.info? 51).map (fun i => (i.zero, i.size, i.bytes)) = some (some (.int .u64 0), 1, 8) := by kernel_rfl

theorem made_all {v : Value} {n : Nat} (h : v.cells = #[v]) : ∀ x, x ∈ (madeCells v.cells (n * 1)).toList → x = v := by
  intro x hx
  rw [h] at hx
  simp only [madeCells, Nat.mul_one] at hx
  simp [Nat.mod_one] at hx
  exact hx.2.symm

set_option maxHeartbeats 1000000 in
set_option maxRecDepth 100000 in
theorem podSizes_any (pb rb gb : Nat) (D : PD) (w : World) (h : IsProb w pb rb gb D) (hd : Dom D) :
    Calls Try.prog 13 #[.pointer (some ⟨pb, 0, none⟩)] w fun e w' => (∃ bs, e = .returned (.slice (some ⟨bs, 0, none⟩) D.nG D.nG) ∧ w.heap.size ≤ bs ∧ Fl w' bs 51 D.nG D.nG (fun g => .int .u64 (sizesOf D g))) ∧ Below w.heap.size w w' := by
  obtain ⟨i0, hi, hz0, hz1, hz2⟩ := info_parts info57
  obtain ⟨j0, hj, hy0, hy1, hy2⟩ := info_parts info51
  have hp := h.1
  have hp0 := h.2.1
  have hp1 := h.2.2.1
  have hpos := hd.pos
  have hrows := hd.rows
  have hgpos := hd.gpos
  have hgrps := hd.grps
  have hc0n := hd.capn 0 (by omega)
  have HP : Hid (IsProb w pb rb gb D) := h
  have HD : Hid (Dom D) := hd
  obtain ⟨a0, r0, r1, r2, r3, r4, _⟩ := h.2.2.2.1.2 0 (by omega)
  simp only [Nat.zero_mul, Nat.zero_add] at r0 r1 r2 r3 r4
  clear h hd
  go_enter Try.func13, Try.ntmps13
  go_wp2_with (at_make; refine wpList_make_full _ rfl _ _ 56 rfl w.heap.size 57 i0 (.float .f64 0) 1 Try.underlying56 hi hz0 hz1 .i64 .i64 _ _ (D.nC 0) rfl rfl (by omega) (by omega) (by rw [hz2]; omega) (by unfold maxLen; omega) (Nat.le_refl _) ?_; intro w0 hown0 hgrow0)
  have hb0 : Below w.heap.size w w0 := (Below.refl _ _).grown hgrow0 (Nat.le_refl _) (fun k h => by cases h)
  have hF0 : Fl w0 w.heap.size 57 (D.nC 0) (D.nC 0) (fun _ => .float .f64 0) := Fl.made (made_all rfl) hown0
  clear hown0 hgrow0
  go_loopw [21] (fun i wr => ∃ k : Nat, k ≤ D.nC 0 ∧ i = .int .i64 k ∧ Below w.heap.size w wr ∧ Fl wr w.heap.size 57 (D.nC 0) k (fun k => .float .f64 (floatOfInt .f64 (mostF D.C k D.nR)))) (fun i _ => D.nC 0 - (intOf i).toNat)
  case atStart => exact ⟨0, Nat.zero_le _, rfl, hb0, by obtain ⟨cur, h1, h2, h3⟩ := hF0; exact ⟨cur, h1, h2, fun i hi => absurd hi (Nat.not_lt_zero _)⟩⟩
  case round =>
    clear hb0 hF0
    obtain ⟨k, hk, rfl, hb, hF⟩ := hrel
    by_cases hlt : k < D.nC 0
    · have HB : Hid (Below w.heap.size w wr) := hb
      have HF : Hid (Fl wr w.heap.size 57 (D.nC 0) k (fun k => .float .f64 (floatOfInt .f64 (mostF D.C k D.nR)))) := hF
      have q0 : wr.cell? ⟨pb, 0, none⟩ = _ := (hb.cell (p := ⟨pb, 0, none⟩) hp).trans hp0
      have hlar := largest_any rb D k wr ((HP.out.2.2.2.1).below hb (Nat.le_refl _)) (by omega) (fun r hr => by have := HD.out.caps r hr; omega) HD.out.capn
      clear hb hF
      go_wp2_with fail
      refine hlar.mono ?_
      rintro e w1 ⟨rfl, hb1⟩
      clear hlar
      obtain ⟨v0, hv0, hf0⟩ := (HF.out.below hb1 (Nat.le_refl _)).room k hlt
      have R : Hid (Fl (w1.setCell ⟨w.heap.size, k, none⟩ (.float .f64 (floatOfInt .f64 (mostF D.C k D.nR)))) w.heap.size 57 (D.nC 0) (k + 1) (fun k => .float .f64 (floatOfInt .f64 (mostF D.C k D.nR)))) :=
        (HF.out.below hb1 (Nat.le_refl _)).set k _ (k + 1) _ hlt (fun i hi => by
          by_cases e : i = k
          · subst e; exact .inl ⟨rfl, rfl⟩
          · exact .inr ⟨e, by omega, rfl⟩)
      have R2 : Hid (Below w.heap.size w (w1.setCell ⟨w.heap.size, k, none⟩ (.float .f64 (floatOfInt .f64 (mostF D.C k D.nR))))) := (HB.out.trans (hb1.mono HB.out.size)).setCell (Nat.le_refl _) _
      clear hb1 HF HB
      have hst : ∀ (n : Nat) a m w, Sem.run Try.prog (store a (.float .f64 n) m) w = stored Try.prog w a (.float .f64 n) m := fun n a m w => run_store _ w a _ m rfl
      go_wp2
      go_roundw
      case rel => exact ⟨k + 1, by omega, by go_num, R2.out, R.out⟩
      case measure => simp [intOf]; omega
    · have e : k = D.nC 0 := by omega
      have q1 : wr.cell? ⟨pb, 1, none⟩ = _ := (hb.cell (p := ⟨pb, 1, none⟩) hp).trans hp1
      have HF : Hid (Fl wr w.heap.size 57 (D.nC 0) (D.nC 0) (fun k => .float .f64 (floatOfInt .f64 (mostF D.C k D.nR)))) := by rw [e] at hF; exact hF
      have HB : Hid (Below w.heap.size w wr) := hb
      have hsz := hb.size
      clear hF hb
      go_wp2_with (at_make; refine wpList_make_full _ rfl _ _ 46 rfl wr.heap.size 51 j0 (.int .u64 0) 1 Try.underlying46 hj hy0 hy1 .i64 .i64 _ _ D.nG rfl rfl (by omega) (by omega) (by rw [hy2]; omega) (by unfold maxLen; omega) (Nat.le_refl _) ?_; intro w2 hown2 hgrow2; have hb2 : Below wr.heap.size wr w2 := (Below.refl _ _).grown hgrow2 (Nat.le_refl _) (fun k h => by cases h); have q2 : w2.cell? ⟨pb, 1, none⟩ = _ := (hb2.cell (p := ⟨pb, 1, none⟩) (Nat.lt_of_lt_of_le hp hsz)).trans q1; clear q1)
      have hS0 : Fl w2 wr.heap.size 51 D.nG D.nG (fun _ => .int .u64 0) := Fl.made (made_all rfl) hown2
      have hM0 := HF.out.below hb2 (Nat.le_refl _)
      have hml : w.heap.size < wr.heap.size := HF.out.lt
      have hB0 := HB.out.trans (hb2.mono hsz)
      clear hown2 hgrow2 hb2 HF HB q2
      generalize hbs : wr.heap.size = bs at *
      go_loopw [46] (fun i wr => ∃ g : Nat, g ≤ D.nG ∧ i = .int .i64 g ∧ Below w.heap.size w wr ∧ Fl wr w.heap.size 57 (D.nC 0) (D.nC 0) (fun k => .float .f64 (floatOfInt .f64 (mostF D.C k D.nR))) ∧ Fl wr bs 51 D.nG D.nG (fun i => .int .u64 (szG D g i))) (fun i _ => D.nG - (intOf i).toNat)
      case atStart => exact ⟨0, Nat.zero_le _, rfl, hB0, hM0, hS0.congr _ _ (Nat.le_refl _) (fun i hi => rfl)⟩
      case round =>
        clear hB0 hM0 hS0
        obtain ⟨g, hg, rfl, hb, hM, hS⟩ := hrel
        by_cases hlt : g < D.nG
        · obtain ⟨a1, a2, a3, g0', g1', g2', g3', g4, g5, g6⟩ := (HP.out.2.2.2.2).2 g hlt
          have hcg : ∀ j, wr.cell? ⟨gb, j, none⟩ = w.cell? ⟨gb, j, none⟩ := fun j => hb.cell (p := ⟨gb, j, none⟩) HP.out.2.2.2.2.1
          have g0 := (hcg _).trans g0'
          have g1 := (hcg _).trans g1'
          have g2 := (hcg _).trans g2'
          have g3 := (hcg _).trans g3'
          clear hcg g0' g1' g2' g3'
          have hgb := Nat.lt_of_lt_of_le HP.out.2.2.2.2.1 hb.size
          have hqn : D.nQ g ≤ 1048576 := by have := HD.out.asks g hlt; omega
          have hqc : D.nQ g ≤ D.nC 0 := HD.out.asks g hlt
          have HB : Hid (Below w.heap.size w wr) := hb
          have HM : Hid (Fl wr w.heap.size 57 (D.nC 0) (D.nC 0) (fun k => .float .f64 (floatOfInt .f64 (mostF D.C k D.nR)))) := hM
          have HS : Hid (Fl wr bs 51 D.nG D.nG (fun i => .int .u64 (szG D g i))) := hS
          have HA : Hid (IsA encI w a1 (D.nQ g) (D.Q g)) := g4
          have hwsz := hb.size
          clear hb hM hS g4 g5 g6
          go_wp2
          have hbx : Below wr.heap.size wr (wr.alloc (Obj.cells #[Value.slice a1 (D.nQ g) (D.nQ g), Value.int .i64 0, Value.slice a2 (D.nO g) (D.nO g), Value.slice a3 (D.nA g) (D.nA g)] 42)) := (Below.refl _ _).alloc (Nat.le_refl _) _
          generalize wr.alloc (Obj.cells #[Value.slice a1 (D.nQ g) (D.nQ g), Value.int .i64 0, Value.slice a2 (D.nO g) (D.nO g), Value.slice a3 (D.nA g) (D.nA g)] 42) = wx at hbx ⊢
          have hB1 := HB.out.trans (hbx.mono hwsz)
          have hM1 := HM.out.below hbx (Nat.le_refl _)
          have hS1 := HS.out.below hbx (Nat.le_refl _)
          have hwx := hbx.size
          have hbsl := HS.out.lt
          clear HB HM HS g0 g1 g2 g3 hgb
          go_loopw [54] (fun i wv => ∃ k : Nat, k ≤ D.nQ g ∧ i = .int .i64 k ∧ Below w.heap.size w wv ∧ Fl wv w.heap.size 57 (D.nC 0) (D.nC 0) (fun k => .float .f64 (floatOfInt .f64 (mostF D.C k D.nR))) ∧ Fl wv bs 51 D.nG D.nG (fun i => .int .u64 (szP D g k i))) (fun i _ => D.nQ g - (intOf i).toNat)
          case atStart =>
            refine ⟨0, Nat.zero_le _, rfl, hB1, hM1, ?_⟩
            exact hS1.congr _ _ (Nat.le_refl _) (fun i hi => by show Value.int .u64 (szP D g 0 i) = Value.int .u64 (szG D g i); rw [szP_zero])
          case round =>
            clear hB1 hM1 hS1 hbx
            obtain ⟨k, hk, rfl, hb, hM, hS⟩ := hrel
            have hA := HA.out.below hb (Nat.le_refl _)
            by_cases hlt2 : k < D.nQ g
            · rcases hA with hA | ⟨ab, ao, rfl, hab, hac⟩
              · omega
              have hak := hac k hlt2
              have HB : Hid (Below w.heap.size w wr) := hb
              have HM : Hid (Fl wr w.heap.size 57 (D.nC 0) (D.nC 0) (fun k => .float .f64 (floatOfInt .f64 (mostF D.C k D.nR)))) := hM
              have HS : Hid (Fl wr bs 51 D.nG D.nG (fun i => .int .u64 (szP D g k i))) := hS
              clear hac hb hM hS
              by_cases hq : 0 < D.Q g k
              · have hqd : decide (0 < D.Q g k) = true := decide_eq_true hq
                have hkc : k < D.nC 0 := by omega
                obtain ⟨fq, fp, e1, e2, e3⟩ := szF_ok (D.Q g k) (mostF D.C k D.nR) hq (HD.out.most g k hlt hlt2) (mostF_lt (fun r hr => HD.out.cin r k hr (by have := HD.out.caps r hr; omega)))
                have cM : wr.cell? ⟨w.heap.size, k, none⟩ = some (.float .f64 (floatOfInt .f64 (mostF D.C k D.nR))) := HM.out.cell k hkc
                have cS : wr.cell? ⟨bs, g, none⟩ = some (.int .u64 (sizeF (D.Q g) (fun k => mostF D.C k D.nR) k)) := by
                  have := HS.out.cell g hlt
                  rwa [szP_self] at this
                have fS : wr.frozen? ⟨bs, g, none⟩ = false := by
                  obtain ⟨cur, h1, _, _⟩ := HS.out
                  exact frozen_of_row wr bs g cur 51 h1
                have hstep : Hid (sizeF (D.Q g) (fun k => mostF D.C k D.nR) (k + 1) = if sizeF (D.Q g) (fun k => mostF D.C k D.nR) k < szF (D.Q g k) (mostF D.C k D.nR) then szF (D.Q g k) (mostF D.C k D.nR) else sizeF (D.Q g) (fun k => mostF D.C k D.nR) k) := by
                  show _ = _
                  rw [sizeF, if_pos hq]
                generalize hfm : floatOfInt .f64 (mostF D.C k D.nR) = fm at e1 cM
                generalize hfr : floatOfInt .f64 (D.Q g k) = fr at e1
                have x0 : ∀ W, Sem.run Try.prog (convert 2 57 (.int .i64 (D.Q g k))) W = .ok (.float .f64 fr) W := fun W => by rw [← hfr]; exact run_convert_int_float W 2 57 .i64 .f64 _ (by rw [Try.underlying2]; rfl) Try.underlying57
                have x1 : ∀ W, Sem.run Try.prog (binOp .quo 57 (.float .f64 fr) (.float .f64 fm)) W = .ok (.float .f64 fq) W := fun W => run_float_arith W _ _ _ _ _ _ e1
                have x2 : ∀ W, Sem.run Try.prog (binOp .mul 57 (.float .f64 fq) (.float .f64 4697254411347427328)) W = .ok (.float .f64 fp) W := fun W => run_float_arith W _ _ _ _ _ _ e2
                generalize szF (D.Q g k) (mostF D.C k D.nR) = sz at e3 hstep
                have x3 : ∀ W, Sem.run Try.prog (convert 57 51 (.float .f64 fp)) W = .ok (.int .u64 sz) W := fun W => run_convert_float_int W 57 51 .f64 .u64 _ _ (by rw [Try.underlying57]; rfl) Try.underlying51 e3
                have hgI : (g : Int) < D.nG := by omega
                have hkI : (k : Int) < D.nC 0 := by omega
                have HFM : Hid (floatOfInt .f64 (mostF D.C k D.nR) = fm) := hfm
                clear e1 e2 e3 hfm hfr hq
                generalize hsk : sizeF (D.Q g) (fun k => mostF D.C k D.nR) k = sk at cS hstep
                have HSK : Hid (sizeF (D.Q g) (fun k => mostF D.C k D.nR) k = sk) := hsk
                clear hsk
                go_wp2
                go_region
                go_wp2
                go_roundw
                case rel =>
                  refine ⟨k + 1, by omega, by go_num, ?_, ?_, ?_⟩
                  · exact below_drewN (HB.out.setCell (by omega) _) 1
                  · exact (HM.out.other bs g _ (by omega)).drewN 1
                  · refine (HS.out.set g _ D.nG _ hlt (fun i hi => ?_)).drewN 1
                    by_cases e : i = g
                    · subst e
                      exact .inl ⟨rfl, by show Value.int .u64 (szP D i (k + 1) i) = _; rw [szP_self, hstep.out]⟩
                    · exact .inr ⟨e, hi, by show Value.int .u64 (szP D g (k + 1) i) = Value.int .u64 (szP D g k i); rw [szP_ne D g (k + 1) k i e]⟩
                case measure => simp [intOf]; omega
              · have hqd : decide (0 < D.Q g k) = false := decide_eq_false hq
                have R : Hid (Fl wr bs 51 D.nG D.nG (fun i => .int .u64 (szP D g (k + 1) i))) := HS.out.congr _ _ (Nat.le_refl _) (fun i hi => by
                  show Value.int .u64 (szP D g (k + 1) i) = Value.int .u64 (szP D g k i)
                  by_cases e : i = g
                  · subst e
                    rw [szP_self, szP_self, sizeF, if_neg hq]
                  · rw [szP_ne D g (k + 1) k i e])
                clear HS
                go_wp2
                go_roundw
                case rel => exact ⟨k + 1, by omega, by go_num, HB.out, HM.out, R.out⟩
                case measure => simp [intOf]; omega
            · have e : k = D.nQ g := by omega
              subst e
              have HB : Hid (Below w.heap.size w wr) := hb
              have HM : Hid (Fl wr w.heap.size 57 (D.nC 0) (D.nC 0) (fun k => .float .f64 (floatOfInt .f64 (mostF D.C k D.nR)))) := hM
              have HS : Hid (Fl wr bs 51 D.nG D.nG (fun i => .int .u64 (szG D (g + 1) i))) := hS.congr _ _ (Nat.le_refl _) (fun i hi => by show Value.int .u64 (szG D (g + 1) i) = Value.int .u64 (szP D g (D.nQ g) i); rw [szP_end])
              clear hb hM hS hA
              go_wp2
              go_roundw
              case rel => exact ⟨g + 1, by omega, by go_num, HB.out, HM.out, HS.out⟩
              case measure => simp [intOf]; omega
        · have e : g = D.nG := by omega
          subst e
          have HB : Hid (Below w.heap.size w wr) := hb
          have HS : Hid (Fl wr bs 51 D.nG D.nG (fun i => .int .u64 (sizesOf D i))) := by
            exact hS.congr _ _ (Nat.le_refl _) (fun i hi => by show Value.int .u64 (sizesOf D i) = Value.int .u64 (szG D D.nG i); unfold szG; rw [if_pos hi])
          clear hb hM hS
          go_wp2
          go_ret
          exact ⟨⟨bs, rfl, hsz, HS.out⟩, HB.out⟩
end Go.Proofs.Qxb6613151a
