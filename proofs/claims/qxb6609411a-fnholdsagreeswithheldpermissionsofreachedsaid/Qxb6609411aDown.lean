/-
  Seat b6609411a: downReach (26).
-/
import Derived.Test.Qxb6609411aReach
namespace Go.Proofs.Qxb6609411a
open Go.ChangeShapes Go.WideShapes Go.ChangeAt Go.RowKit
set_option linter.unusedVariables false

/-- Block b holds n cells, of which the first k are f 0 .. f (k-1). -/
def Fl (w : World) (b : Nat) (ty : TypeId) (n k : Nat) (f : Nat → Value) : Prop :=
  ∃ cur : Array Value, w.heap[b]? = some (.cells cur ty (0, 0)) ∧ cur.size = n ∧ ∀ i, i < k → cur[i]? = some (f i)

theorem Fl.lt {w : World} {b : Nat} {ty : TypeId} {n k : Nat} {f : Nat → Value} (h : Fl w b ty n k f) : b < w.heap.size := by
  obtain ⟨cur, h1, _⟩ := h
  exact (Array.getElem?_eq_some_iff.1 h1).1
theorem Fl.below {B : Nat} {w w' : World} {b : Nat} {ty : TypeId} {n k : Nat} {f : Nat → Value} (h : Fl w b ty n k f) (hb : Below B w w') (hB : w.heap.size ≤ B) : Fl w' b ty n k f := by
  have := h.lt
  obtain ⟨cur, h1, h2, h3⟩ := h
  exact ⟨cur, (hb.block b (by omega)).trans h1, h2, h3⟩
theorem Fl.cell {w : World} {b : Nat} {ty : TypeId} {n k : Nat} {f : Nat → Value} (h : Fl w b ty n k f) (i : Nat) (hi : i < k) : w.cell? ⟨b, i, none⟩ = some (f i) := by
  obtain ⟨cur, h1, h2, h3⟩ := h
  rw [cell_of_row _ _ i cur ty (0, 0) h1]
  exact h3 i hi
theorem Fl.room {w : World} {b : Nat} {ty : TypeId} {n k : Nat} {f : Nat → Value} (h : Fl w b ty n k f) (i : Nat) (hi : i < n) : ∃ v, w.cell? ⟨b, i, none⟩ = some v ∧ w.frozen? ⟨b, i, none⟩ = false := by
  obtain ⟨cur, h1, h2, h3⟩ := h
  exact ⟨cur[i]'(by omega), by rw [cell_of_row _ _ i cur ty (0, 0) h1]; simp [h2, hi], frozen_of_row w _ i cur ty h1⟩
theorem Fl.set {w : World} {b : Nat} {ty : TypeId} {n k : Nat} {f : Nat → Value} (h : Fl w b ty n k f) (j : Nat) (v : Value) (k' : Nat) (g : Nat → Value) (hj : j < n) (hk : ∀ i, i < k' → (i = j ∧ g i = v) ∨ (i ≠ j ∧ i < k ∧ g i = f i)) : Fl (w.setCell ⟨b, j, none⟩ v) b ty n k' g := by
  obtain ⟨cur, h1, h2, h3⟩ := h
  have heq := setCell_eq_setRow w b j cur ty (0, 0) v h1
  refine ⟨cur.setIfInBounds j v, ?_, by simpa using h2, fun i hi => ?_⟩
  · rw [heq]
    exact setRow_heap w b cur _ ty (0, 0) h1
  · rcases hk i hi with ⟨rfl, e⟩ | ⟨hne, hik, e⟩
    · rw [e]
      simp [h2, hj]
    · rw [Array.getElem?_setIfInBounds_ne (fun e' => hne e'.symm), e]
      exact h3 i hik
theorem Fl.other {w : World} {b : Nat} {ty : TypeId} {n k : Nat} {f : Nat → Value} (h : Fl w b ty n k f) (c j : Nat) (v : Value) (hne : b ≠ c) : Fl (w.setCell ⟨c, j, none⟩ v) b ty n k f := by
  obtain ⟨cur, h1, h2, h3⟩ := h
  exact ⟨cur, (Below.heap_setCell w ⟨c, j, none⟩ v b hne).trans h1, h2, h3⟩
theorem Fl.drewN {w : World} {b : Nat} {ty : TypeId} {n k : Nat} {f : Nat → Value} (h : Fl w b ty n k f) (m : Nat) : Fl (w.drewN m) b ty n k f := h
theorem Fl.alloc {w : World} {b : Nat} {ty : TypeId} {n k : Nat} {f : Nat → Value} (h : Fl w b ty n k f) (o : Obj) : Fl (w.alloc o) b ty n k f := by
  have := h.lt
  obtain ⟨cur, h1, h2, h3⟩ := h
  exact ⟨cur, (Below.heap_alloc w o b this).trans h1, h2, h3⟩
theorem Fl.made {w : World} {g base : Nat} {ty : TypeId} {n : Nat} {xs : List Value} {v : Value} (hx : ∀ x, x ∈ xs → x = v) (h : w.ownsRow base ty 1 (.slice (some ⟨g, 0, none⟩) n n) n xs) : Fl w g ty n n (fun _ => v) := by
  obtain ⟨hl, h⟩ := h
  rcases h with ⟨h', _⟩ | ⟨g', cap', cur, h', _, hg, hc1, hc2, hc3, hc4⟩
  · simp at h'
  · simp only [Value.slice.injEq, Option.some.injEq, Addr.mk.injEq, and_true, true_and] at h'
    obtain ⟨rfl, rfl⟩ := h'
    simp only [Nat.mul_one] at hl hc3 hc4
    refine ⟨cur, hg, hc3, fun i hi => ?_⟩
    rw [List.take_of_length_le (by simp [hc3])] at hc4
    have hi' : i < xs.length := by omega
    rw [← Array.getElem?_toList, hc4, List.getElem?_eq_getElem hi', hx _ (List.getElem_mem hi')]

theorem made_all {v : Value} {n : Nat} (h : v.cells = #[v]) : ∀ x, x ∈ (madeCells v.cells (n * 1)).toList → x = v := by
  intro x hx
  rw [h] at hx
  simp only [madeCells, Nat.mul_one] at hx
  simp [Nat.mod_one] at hx
  exact hx.2.symm

theorem info4 : (Try.prog.info? 4).map (fun i => (i.zero, i.size, i.bytes)) = some (some (.bool false), 1, 1) := by kernel_rfl

def upd (T : Nat → Bool) (v : Nat) (x : Nat) : Bool := if x = v then true else T x
def uns (T : Nat → Bool) : Nat → Nat
  | 0 => 0
  | n + 1 => uns T n + (if T n then 0 else 1)
theorem uns_upd_ge (T : Nat → Bool) (v : Nat) : ∀ n, n ≤ v → uns (upd T v) n = uns T n
  | 0, _ => rfl
  | n + 1, h => by
    have e : upd T v n = T n := if_neg (by omega)
    rw [uns, uns, uns_upd_ge T v n (by omega), e]
theorem uns_upd (T : Nat → Bool) (v : Nat) (hv : T v = false) : ∀ n, v < n → uns (upd T v) n + 1 = uns T n
  | 0, h => absurd h (Nat.not_lt_zero _)
  | n + 1, h => by
    by_cases e : v = n
    · subst e
      have e1 : upd T v v = true := if_pos rfl
      rw [uns, uns, uns_upd_ge T v v (Nat.le_refl _), e1, hv]
      rfl
    · have e1 : upd T v n = T n := if_neg (by omega)
      have := uns_upd T v hv n (by omega)
      rw [uns, uns, e1]
      omega
theorem uns_congr {T T' : Nat → Bool} : ∀ n, (∀ v, v < n → T v = T' v) → uns T n = uns T' n
  | 0, _ => rfl
  | n + 1, h => by rw [uns, uns, uns_congr n (fun v hv => h v (by omega)), h n (by omega)]

def isF : Option Value → Bool
  | some (.bool false) => true
  | _ => false
def cntF (W : World) (s : Nat) : Nat → Nat
  | 0 => 0
  | n + 1 => cntF W s n + (if isF (W.cell? ⟨s, n, none⟩) then 1 else 0)
def bit : Value → Nat
  | .bool true => 1
  | _ => 0
theorem cntF_eq {W : World} {s : Nat} {T : Nat → Bool} : ∀ n, (∀ v, v < n → W.cell? ⟨s, v, none⟩ = some (.bool (T v))) → cntF W s n = uns T n
  | 0, _ => rfl
  | n + 1, h => by
    rw [cntF, uns, cntF_eq n (fun v hv => h v (by omega)), h n (by omega)]
    cases T n <;> rfl

/-- roles below, by the lists of edges and of starts. -/
def FrL (FR : Nat → Nat) (nf : Nat) (v : Nat) : Prop := ∃ i, i < nf ∧ FR i = v
def EdL (HI LO : Nat → Nat) (m : Nat) (u v : Nat) : Prop := ∃ i, i < m ∧ HI i = u ∧ LO i = v

theorem upd_in {T : Nat → Bool} {v : Nat} {P : Nat → Prop} (h : ∀ x, T x = true → P x) (hv : P v) (x : Nat) (hx : upd T v x = true) : P x := by
  unfold upd at hx
  by_cases e : x = v
  · rw [e]; exact hv
  · rw [if_neg e] at hx; exact h x hx
theorem upd_ge {T : Nat → Bool} {v x : Nat} (h : T x = true) : upd T v x = true := by
  unfold upd
  split
  · rfl
  · exact h
theorem upd_at (T : Nat → Bool) (v : Nat) : upd T v v = true := if_pos rfl
theorem Fl.upd {w : World} {s n : Nat} {T : Nat → Bool} (h : Fl w s 4 n n (fun v => .bool (T v))) (v : Nat) (hv : v < n) : Fl (w.setCell ⟨s, v, none⟩ (.bool true)) s 4 n n (fun x => .bool (upd T v x)) :=
  h.set v _ n _ hv (fun i hi => by
    by_cases e : i = v
    · exact .inl ⟨e, by rw [e, upd_at]⟩
    · exact .inr ⟨e, hi, by show Value.bool (if i = v then true else T i) = _; rw [if_neg e]⟩)

set_option maxHeartbeats 4000000 in
set_option maxRecDepth 100000 in
theorem downReach_any (n : Nat) (al ah af : Option Addr) (m cl ch nf cf : Nat) (LO HI FR : Nat → Nat) (w : World)
    (hL : IsA encI w al m (fun i => (LO i : Int))) (hH : IsA encI w ah m (fun i => (HI i : Int))) (hF : IsA encI w af nf (fun i => (FR i : Int)))
    (hn : n ≤ 4096) (hm : m ≤ 4096) (hnf : nf ≤ 4096) (bl : ∀ i, i < m → LO i < n) (bh : ∀ i, i < m → HI i < n) (bf : ∀ i, i < nf → FR i < n) :
    Calls Try.prog 26 #[.int .i64 n, .slice al m cl, .slice ah m ch, .slice af nf cf] w fun e w' => ∃ (s : Nat) (T : Nat → Bool), e = .returned (.slice (some ⟨s, 0, none⟩) n n) ∧ Fl w' s 4 n n (fun v => .bool (T v)) ∧ (∀ v, T v = true ↔ Rc (FrL FR nf) (EdL HI LO m) v) ∧ Below w.heap.size w w' := by
  obtain ⟨i0, hi, hz0, hz1, hz2⟩ := info_parts info4
  have HL : Hid (IsA encI w al m (fun i => (LO i : Int))) := hL
  have HH : Hid (IsA encI w ah m (fun i => (HI i : Int))) := hH
  have HF : Hid (IsA encI w af nf (fun i => (FR i : Int))) := hF
  clear hL hH hF
  go_enter Try.func26, Try.ntmps26
  go_wp2_with (at_make; refine wpList_make_full _ rfl _ _ 33 rfl w.heap.size 4 i0 _ 1 Try.underlying33 hi hz0 hz1 .i64 .i64 _ _ n rfl rfl (by omega) (by omega) (by rw [hz2]; omega) (by unfold maxLen; omega) (Nat.le_refl _) ?_; intro w0 hown0 hgrow0)
  have hb0 : Below w.heap.size w w0 := (Below.refl _ _).grown hgrow0 (Nat.le_refl _) (fun k h => by cases h)
  have hF0 : Fl w0 w.heap.size 4 n n (fun _ => .bool false) := Fl.made (made_all rfl) hown0
  clear hown0 hgrow0
  go_loopw [10] (fun i wr => ∃ (k : Nat) (T : Nat → Bool), k ≤ nf ∧ i = .int .i64 k ∧ Fl wr w.heap.size 4 n n (fun v => .bool (T v)) ∧ (∀ v, T v = true → Rc (FrL FR nf) (EdL HI LO m) v) ∧ (∀ i, i < k → T (FR i) = true) ∧ Below w.heap.size w wr) (fun i _ => nf - (intOf i).toNat)
  case atStart => exact ⟨0, fun _ => false, Nat.zero_le _, rfl, hF0, (fun v h => by cases h), fun i hi => absurd hi (Nat.not_lt_zero _), hb0⟩
  case round =>
    clear hb0 hF0
    obtain ⟨k, T, hk, rfl, hFl, hT, hTF, hb⟩ := hrel
    by_cases hlt : k < nf
    · rcases HF.out with h0 | ⟨fb, fof, rfl, hfb0, hfc⟩
      · omega
      have q := (hb.cell (p := ⟨fb, fof + k, none⟩) hfb0).trans (hfc k hlt)
      clear hfc
      have hfn := bf k hlt
      obtain ⟨u, hu1, hu2⟩ := hFl.room (FR k) hfn
      have ik0 : (0 : Int) ≤ k := by omega
      have ik1 : (k : Int) < nf := by omega
      have if0 : (0 : Int) ≤ FR k := by omega
      have if1 : (FR k : Int) < n := by omega
      have R1 : Hid (Fl (wr.setCell ⟨w.heap.size, FR k, none⟩ (.bool true)) w.heap.size 4 n n (fun v => .bool (upd T (FR k) v))) := hFl.upd (FR k) hfn
      have R2 : Hid (∀ v, upd T (FR k) v = true → Rc (FrL FR nf) (EdL HI LO m) v) := upd_in hT (.base ⟨k, hlt, rfl⟩)
      have R3 : Hid (∀ i, i < k + 1 → upd T (FR k) (FR i) = true) := fun i hi => by
        by_cases e : i = k
        · rw [e]; exact upd_at T _
        · exact upd_ge (hTF i (by omega))
      have R4 : Hid (Below w.heap.size w (wr.setCell ⟨w.heap.size, FR k, none⟩ (.bool true))) := hb.setCell (Nat.le_refl _) _
      clear hFl hT hTF hb
      go_wp2
      go_roundw
      case rel => exact ⟨k + 1, _, by omega, by go_num, R1.out, R2.out, R3.out, R4.out⟩
      case measure => simp [intOf]; omega
    · obtain rfl : nf = k := by omega
      clear hlt hk
      have RT : Hid (∀ v, T v = true → Rc (FrL FR nf) (EdL HI LO m) v) := hT
      have RF : Hid (∀ i, i < nf → T (FR i) = true) := hTF
      obtain ⟨wo, rfl⟩ : ∃ wo, wo = wr := ⟨_, rfl⟩
      go_wp2
      go_loopw [11] (fun c wr => ∃ (cb : Bool) (T : Nat → Bool), c = .bool cb ∧ Fl wr w.heap.size 4 n n (fun v => .bool (T v)) ∧ (∀ v, T v = true → Rc (FrL FR nf) (EdL HI LO m) v) ∧ (∀ i, i < nf → T (FR i) = true) ∧ (cb = false → ∀ i, i < m → T (HI i) = true → T (LO i) = true) ∧ Below w.heap.size w wr) (fun c wr => 2 * cntF wr w.heap.size n + bit c)
      case atStart => exact ⟨true, T, rfl, hFl, hT, hTF, (fun h => by cases h), hb⟩
      case round =>
        clear hFl hT hTF hb RT RF T
        obtain ⟨cb, T, rfl, hFl, hT, hTF, hcl, hb⟩ := hrel
        have RT : Hid (∀ v, T v = true → Rc (FrL FR nf) (EdL HI LO m) v) := hT
        have RF : Hid (∀ i, i < nf → T (FR i) = true) := hTF
        have hcnt : cntF wr w.heap.size n = uns T n := cntF_eq n (fun v hv => hFl.cell v hv)
        cases cb with
        | false =>
          have hcl' : Hid (∀ i, i < m → T (HI i) = true → T (LO i) = true) := hcl rfl
          clear hT hTF hcl
          go_wp2
          go_ret
          refine ⟨w.heap.size, T, rfl, hFl, fun v => ⟨RT.out v, fun h => ?_⟩, hb⟩
          induction h with
          | base h => obtain ⟨i, h1, rfl⟩ := h; exact RF.out i h1
          | step _ h ih => obtain ⟨i, h1, rfl, rfl⟩ := h; exact hcl'.out i h1 ih
        | true =>
          clear hT hTF hcl
          obtain ⟨wv, rfl⟩ : ∃ wv, wv = wr := ⟨_, rfl⟩
          have HM : Hid (cntF wv w.heap.size n = uns T n) := hcnt
          clear hcnt
          go_wp2
          go_loopw [11, 12] (fun c i wr => ∃ (cb : Bool) (k : Nat) (T' : Nat → Bool), k ≤ m ∧ c = .bool cb ∧ i = .int .i64 k ∧ Fl wr w.heap.size 4 n n (fun v => .bool (T' v)) ∧ (∀ v, T' v = true → Rc (FrL FR nf) (EdL HI LO m) v) ∧ (∀ i, i < nf → T' (FR i) = true) ∧ (cb = false → ∀ i, i < k → T' (HI i) = true → T' (LO i) = true) ∧ (uns T' n + bit (.bool cb) ≤ uns T n) ∧ Below w.heap.size w wr) (fun _ i _ => m - (intOf i).toNat)
          case atStart => exact ⟨false, 0, T, Nat.zero_le _, rfl, rfl, hFl, RT.out, RF.out, fun _ i hi => absurd hi (Nat.not_lt_zero _), Nat.le_refl _, hb⟩
          case round =>
            clear hFl hb RT RF
            obtain ⟨cb, k, T', hk, rfl, rfl, hFl, hT, hTF, hcl, hun, hb⟩ := hrel
            by_cases hlt : k < m
            · rcases HL.out with h0 | ⟨lb, lof, rfl, hlb0, hlc⟩
              · omega
              rcases HH.out with h0 | ⟨hhb, hof, rfl, hhb0, hhc⟩
              · omega
              have q1 := (hb.cell (p := ⟨lb, lof + k, none⟩) hlb0).trans (hlc k hlt)
              have q2 := (hb.cell (p := ⟨hhb, hof + k, none⟩) hhb0).trans (hhc k hlt)
              clear hlc hhc
              have hl1 := bl k hlt
              have hh1 := bh k hlt
              have ik0 : (0 : Int) ≤ k := by omega
              have ik1 : (k : Int) < m := by omega
              have il0 : (0 : Int) ≤ LO k := by omega
              have il1 : (LO k : Int) < n := by omega
              have ih0 : (0 : Int) ≤ HI k := by omega
              have ih1 : (HI k : Int) < n := by omega
              have c1 := hFl.cell (HI k) hh1
              have c2 := hFl.cell (LO k) hl1
              obtain ⟨u, hu1, hu2⟩ := hFl.room (LO k) hl1
              clear hu1 u
              cases hc1 : T' (HI k) with
              | false =>
                rw [hc1] at c1
                have R1 : Hid (Fl wr w.heap.size 4 n n (fun v => .bool (T' v)) ∧ (∀ v, T' v = true → Rc (FrL FR nf) (EdL HI LO m) v) ∧ (∀ i, i < nf → T' (FR i) = true) ∧ (cb = false → ∀ i, i < k + 1 → T' (HI i) = true → T' (LO i) = true) ∧ (uns T' n + bit (.bool cb) ≤ uns T n) ∧ Below w.heap.size w wr) := ⟨hFl, hT, hTF, fun h i hi hh => by
                  by_cases e : i = k
                  · rw [e, hc1] at hh; cases hh
                  · exact hcl h i (by omega) hh, hun, hb⟩
                clear hFl hT hTF hcl hun hb c2
                go_wp2
                go_roundw
                case rel => exact ⟨cb, k + 1, T', by omega, rfl, by go_num, R1.out⟩
                case measure => simp [intOf]; omega
              | true =>
                rw [hc1] at c1
                cases hc2 : T' (LO k) with
                | true =>
                  rw [hc2] at c2
                  have R1 : Hid (Fl wr w.heap.size 4 n n (fun v => .bool (T' v)) ∧ (∀ v, T' v = true → Rc (FrL FR nf) (EdL HI LO m) v) ∧ (∀ i, i < nf → T' (FR i) = true) ∧ (cb = false → ∀ i, i < k + 1 → T' (HI i) = true → T' (LO i) = true) ∧ (uns T' n + bit (.bool cb) ≤ uns T n) ∧ Below w.heap.size w wr) := ⟨hFl, hT, hTF, fun h i hi hh => by
                    by_cases e : i = k
                    · rw [e]; exact hc2
                    · exact hcl h i (by omega) hh, hun, hb⟩
                  clear hFl hT hTF hcl hun hb
                  go_wp2
                  go_roundw
                  case rel => exact ⟨cb, k + 1, T', by omega, rfl, by go_num, R1.out⟩
                  case measure => simp [intOf]; omega
                | false =>
                  rw [hc2] at c2
                  have R1 : Hid (Fl (wr.setCell ⟨w.heap.size, LO k, none⟩ (.bool true)) w.heap.size 4 n n (fun v => .bool (upd T' (LO k) v)) ∧ (∀ v, upd T' (LO k) v = true → Rc (FrL FR nf) (EdL HI LO m) v) ∧ (∀ i, i < nf → upd T' (LO k) (FR i) = true) ∧ (true = false → ∀ i, i < k + 1 → upd T' (LO k) (HI i) = true → upd T' (LO k) (LO i) = true) ∧ (uns (upd T' (LO k)) n + bit (.bool true) ≤ uns T n) ∧ Below w.heap.size w (wr.setCell ⟨w.heap.size, LO k, none⟩ (.bool true))) := ⟨hFl.upd (LO k) hl1, upd_in hT (.step (hT _ hc1) ⟨k, hlt, rfl, rfl⟩), fun i hi => upd_ge (hTF i hi), (fun h => by cases h), by
                      have := uns_upd T' (LO k) hc2 n hl1
                      show uns (upd T' (LO k)) n + 1 ≤ _
                      omega, hb.setCell (Nat.le_refl _) _⟩
                  clear hFl hT hTF hcl hun hb
                  go_wp2
                  go_roundw
                  case rel => exact ⟨true, k + 1, _, by omega, rfl, by go_num, R1.out⟩
                  case measure => simp [intOf]; omega
            · obtain rfl : m = k := by omega
              have R1 : Hid (Fl wr w.heap.size 4 n n (fun v => .bool (T' v)) ∧ (∀ v, T' v = true → Rc (FrL FR nf) (EdL HI LO m) v) ∧ (∀ i, i < nf → T' (FR i) = true) ∧ (cb = false → ∀ i, i < m → T' (HI i) = true → T' (LO i) = true) ∧ Below w.heap.size w wr) := ⟨hFl, hT, hTF, hcl, hb⟩
              have hm1 : 2 * cntF wr w.heap.size n + bit (.bool cb) < 2 * cntF wv w.heap.size n + bit (.bool true) := by
                rw [HM.out, cntF_eq n (fun v hv => hFl.cell v hv)]
                have : bit (.bool true) = 1 := rfl
                have : bit (.bool cb) ≤ 1 := by cases cb <;> decide
                omega
              have R2 : Hid (2 * cntF wr w.heap.size n + bit (.bool cb) < 2 * cntF wv w.heap.size n + bit (.bool true)) := hm1
              clear hFl hT hTF hcl hun hb hm1 HM
              go_wp2
              go_roundw
              case rel => exact ⟨cb, T', rfl, R1.out⟩
              case measure => exact R2.out
end Go.Proofs.Qxb6609411a
