/-
  Seat b6604322a: the walk of FnPointTreeRankOfEachEntryIsItsIndex (6).
-/
import Derived.Test.Qxb6604322aPlain
import Derived.Deep.CutRange
namespace Go.Proofs.Qxb6604322a
open Go.ChangeShapes Go.WideShapes Go.ChangeAt Go.RowKit
set_option linter.unusedVariables false

/-- ZZPointTreeRank of a valid tree: the number of entries below x. -/
theorem zz_cnt (cnt0 sz : Int) (low : Bool) (cs27 cs28 cs30 cs31 cs32 cs33 : Array Value) (L K : Nat → Int) (N : Nat → Nat) (X : Nat → Nat → Int) (S : Nat → Int) (T : Nat → Nat → Int) (M : Nat → Nat → Nat) (Z : Nat → Nat → Nat → Int) (x : Int) (w : World)
    (h27 : Ar cs27 16 (fun i => .int .u64 (L i))) (h28 : Ar cs28 16 (fun i => .int .i32 (K i))) (h30 : Lvs w cs30 N X) (h31 : Ar cs31 16 (fun i => .int .i64 (S i))) (h32 : Ar2 cs32 (fun i j => .int .u64 (T i j))) (h33 : CLvs w cs33 M Z)
    (s : Nat) (hsz : sz = s) (hs : s ≤ 16) (hv : ∀ i, i < s → VldAt low L K N X S T M Z i) (hp : (entL low N X S M Z s).Pairwise (· < ·)) (hsm : Small N M) :
    Calls Try.prog 20 #[.int .i64 cnt0, .int .i64 sz, .bool low, .agg cs27, .agg cs28, .agg cs30, .agg cs31, .agg cs32, .agg cs33, .int .u64 x] w fun e w' => e = .returned (.int .i64 (cnt x (entL low N X S M Z s))) ∧ Below w.heap.size w w' := by
  subst hsz
  refine zz_any cnt0 s low cs27 cs28 cs30 cs31 cs32 cs33 L K N X S T M Z x w h27 h28 h30 h31 h32 h33 _ ?_
  intro W rb hb
  cases low with
  | true =>
    obtain ⟨h1, h2⟩ := low_law x hs hsm hv hp
    rw [← h2]
    exact rank_low rb s L N X W x cnt0 (hb.low h1)
  | false =>
    obtain ⟨h1, h2, h3, h4, h5, h6⟩ := two_law x hs hsm hv hp
    rw [← h6]
    exact rank_two rb s L _ _ T M Z W x cnt0 (hb.two _ _ hs h1 h2 h3 h4 h5)

/-- the law's six boxes. -/
structure Bx (w : World) (b : Nat) (c27 c28 c30 c31 c32 c33 : Array Value) : Prop where
  b27 : w.heap[b]? = some (.cells c27 27 (0, 0))
  b28 : w.heap[b + 1]? = some (.cells c28 28 (0, 0))
  b30 : w.heap[b + 2]? = some (.cells c30 30 (0, 0))
  b31 : w.heap[b + 3]? = some (.cells c31 31 (0, 0))
  b32 : w.heap[b + 4]? = some (.cells c32 32 (0, 0))
  b33 : w.heap[b + 5]? = some (.cells c33 33 (0, 0))

theorem block_kept {B : Nat} {w w' : World} {g : Nat} {o : Obj} (hb : Below B w w') (hB : w.heap.size ≤ B) (h : w.heap[g]? = some o) : w'.heap[g]? = some o :=
  (hb.block g (Nat.lt_of_lt_of_le (Array.getElem?_eq_some_iff.1 h).1 hB)).trans h
theorem Bx.below {B : Nat} {w w' : World} {b : Nat} {c27 c28 c30 c31 c32 c33 : Array Value} (h : Bx w b c27 c28 c30 c31 c32 c33) (hb : Below B w w') (hB : w.heap.size ≤ B) : Bx w' b c27 c28 c30 c31 c32 c33 :=
  ⟨block_kept hb hB h.b27, block_kept hb hB h.b28, block_kept hb hB h.b30, block_kept hb hB h.b31, block_kept hb hB h.b32, block_kept hb hB h.b33⟩
theorem Bx.set30 {w : World} {b : Nat} {c27 c28 c30 c31 c32 c33 : Array Value} (h : Bx w b c27 c28 c30 c31 c32 c33) (c : Array Value) : Bx (w.setRow (b + 2) c) b c27 c28 c c31 c32 c33 :=
  ⟨(setRow_other _ _ _ _ (by omega)).trans h.b27, (setRow_other _ _ _ _ (by omega)).trans h.b28, setRow_heap _ _ _ _ _ _ h.b30, (setRow_other _ _ _ _ (by omega)).trans h.b31, (setRow_other _ _ _ _ (by omega)).trans h.b32, (setRow_other _ _ _ _ (by omega)).trans h.b33⟩
theorem Bx.set33 {w : World} {b : Nat} {c27 c28 c30 c31 c32 c33 : Array Value} (h : Bx w b c27 c28 c30 c31 c32 c33) (c : Array Value) : Bx (w.setRow (b + 5) c) b c27 c28 c30 c31 c32 c :=
  ⟨(setRow_other _ _ _ _ (by omega)).trans h.b27, (setRow_other _ _ _ _ (by omega)).trans h.b28, (setRow_other _ _ _ _ (by omega)).trans h.b30, (setRow_other _ _ _ _ (by omega)).trans h.b31, (setRow_other _ _ _ _ (by omega)).trans h.b32, setRow_heap _ _ _ _ _ _ h.b33⟩

/-! ### regions that draw, over a class of worlds -/
theorem qstep {P : Program} {ops : Array Oper} {C : World → Prop} {Q : Act → Prop} {o : Oper} {rest : List Oper} {a : Act} (v : Value) (hw : Region.wanted o (yielded ops a.tmps) = true) (hy : ∀ w, C w → o.quietAt P a C w v)
    (h : wpQuiet P ops C Q rest (a.put o.dst v)) : wpQuiet P ops C Q (o :: rest) a := by
  unfold wpQuiet
  rw [if_pos hw]
  exact ⟨v, hy, h⟩
theorem qskip {P : Program} {ops : Array Oper} {C : World → Prop} {Q : Act → Prop} {o : Oper} {rest : List Oper} {a : Act} (hw : Region.wanted o (yielded ops a.tmps) = false) 
    (h : wpQuiet P ops C Q rest (a.put o.dst undef)) : wpQuiet P ops C Q (o :: rest) a := by
  unfold wpQuiet
  rw [if_neg (by rw [hw]; simp)]
  exact h
theorem q_load_row {P : Program} {C : World → Prop} {o : Oper} {a : Act} (ty : TypeId) (x : Operand) (ho : o.op = .load ty x) (g : Nat) (hx : a.eval x = .pointer (some ⟨g, 0, none⟩)) (t : TypeId) (cs : Array Value) (fr : Nat × Nat) (d : TypeDesc)
    (hg : ∀ w, C w → w.heap[g]? = some (.cells cs t fr)) (hu : P.underlying ty = some d) (hd : (match d with | .struct _ | .array _ _ => true | _ => false) = true) (hi : (P.info? ty).map (·.size) = some cs.size) : ∀ w, C w → o.quietAt P a C w (.agg cs) := by
  intro w hw
  unfold Oper.quietAt execOp
  simp only [ho, hx, Instr.loadAt, Instr.sureAddr, Sem.run_bind, Sem.run_pure, Result.andThen_ok, run_loadVar_row w g t ty cs fr d (hg w hw) hu hd hi]
  exact ⟨rfl, rfl⟩

theorem Lvs.size {w : World} {cs : Array Value} {N : Nat → Nat} {X : Nat → Nat → Int} (h : Lvs w cs N X) : cs.size = 16 := let ⟨_, _, h1, _⟩ := h; h1.1
theorem CLvs.size {w : World} {cs : Array Value} {M : Nat → Nat → Nat} {Z : Nat → Nat → Nat → Int} (h : CLvs w cs M Z) : cs.size = 256 := let ⟨_, _, h1, _⟩ := h; h1.1
theorem LvsN.one {B : Nat} {w : World} {cs : Array Value} {N : Nat → Nat} {X : Nat → Nat → Int} (h : LvsN B w cs N X) : cs.all (·.oneCell') = true := let ⟨_, _, h1⟩ := h; Array.all_eq_true_iff_forall_mem.2 h1
theorem CLvsN.one {B : Nat} {w : World} {cs : Array Value} {M : Nat → Nat → Nat} {Z : Nat → Nat → Nat → Int} (h : CLvsN B w cs M Z) : cs.all (·.oneCell') = true := let ⟨_, _, h1⟩ := h; Array.all_eq_true_iff_forall_mem.2 h1

theorem i64_in (n : Int) (h0 : -9223372036854775808 ≤ n) (h1 : n ≤ 9223372036854775807) : IntKind.i64.wrap n = n := by
  simp only [IntKind.wrap, IntKind.bits, IntKind.signed]
  simp
  omega

theorem ent_bound {N : Nat → Nat} {X : Nat → Nat → Int} {M : Nat → Nat → Nat} {Z : Nat → Nat → Nat → Int} (hX : ∀ i j, j < N i → 0 ≤ X i j ∧ X i j ≤ 18446744073709551615) (hZ : ∀ i j k, k < M i j → 0 ≤ Z i j k ∧ Z i j k ≤ 18446744073709551615) (low : Bool) (S : Nat → Int) (s : Nat) :
    ∀ a, a ∈ entL low N X S M Z s → 0 ≤ a ∧ a ≤ 18446744073709551615 := by
  intro a ha
  rw [ent_flat] at ha
  obtain ⟨i, hi, ha⟩ := mem_flat ha
  cases low with
  | true =>
    rw [part_low] at ha
    obtain ⟨j, hj, rfl⟩ := mem_leaf ha
    exact hX i j hj
  | false =>
    rw [part_two] at ha
    simp only [kids_flat] at ha
    obtain ⟨j, hj, ha⟩ := mem_flat ha
    obtain ⟨k, hk, rfl⟩ := mem_leaf ha
    exact hZ i j k hk

set_option maxHeartbeats 1000000 in
set_option maxRecDepth 100000 in
theorem law_walk (cnt0 sz : Int) (low : Bool) (cs27 cs28 cs30 cs31 cs32 cs33 : Array Value) (L K : Nat → Int) (N : Nat → Nat) (X : Nat → Nat → Int) (S : Nat → Int) (T : Nat → Nat → Int) (M : Nat → Nat → Nat) (Z : Nat → Nat → Nat → Int) (w : World)
    (h27 : Ar cs27 16 (fun i => .int .u64 (L i))) (h28 : Ar cs28 16 (fun i => .int .i32 (K i))) (h30 : Lvs w cs30 N X) (h31 : Ar cs31 16 (fun i => .int .i64 (S i))) (h32 : Ar2 cs32 (fun i j => .int .u64 (T i j))) (h33 : CLvs w cs33 M Z)
    (hN : ∀ i, N i ≤ 9223372036854775807) (hM : ∀ i j, M i j ≤ 9223372036854775807) (hK : ∀ i, i < 16 → -2147483648 ≤ K i ∧ K i ≤ 2147483647)
    (hX : ∀ i j, j < N i → 0 ≤ X i j ∧ X i j ≤ 18446744073709551615) (hZ : ∀ i j k, k < M i j → 0 ≤ Z i j k ∧ Z i j k ≤ 18446744073709551615) :
    Calls Try.prog 6 #[.int .i64 cnt0, .int .i64 sz, .bool low, .agg cs27, .agg cs28, .agg cs30, .agg cs31, .agg cs32, .agg cs33] w fun e w' => e = .returned (.bool true) ∧ Below w.heap.size w w' := by
  have HX : Hid (∀ i j, j < N i → 0 ≤ X i j ∧ X i j ≤ 18446744073709551615) := hX
  have HZ : Hid (∀ i j k, k < M i j → 0 ≤ Z i j k ∧ Z i j k ≤ 18446744073709551615) := hZ
  have HK : Hid (∀ i, i < 16 → -2147483648 ≤ K i ∧ K i ≤ 2147483647) := hK
  have HN : Hid (∀ i, N i ≤ 9223372036854775807) := hN
  have HM : Hid (∀ i j, M i j ≤ 9223372036854775807) := hM
  clear hX hZ hK hN hM
  have hs30 := h30.size
  have hs33 := h33.size
  have hbel := boxes_below [(cs27, 27), (cs28, 28), (cs30, 30), (cs31, 31), (cs32, 32), (cs33, 33)] w
  have hq : Hid (Bx (boxes w [(cs27, 27), (cs28, 28), (cs30, 30), (cs31, 31), (cs32, 32), (cs33, 33)]) w.heap.size cs27 cs28 cs30 cs31 cs32 cs33) := ⟨boxes_block _ w 0 _ _ rfl, boxes_block _ w 1 _ _ rfl, boxes_block _ w 2 _ _ rfl, boxes_block _ w 3 _ _ rfl, boxes_block _ w 4 _ _ rfl, boxes_block _ w 5 _ _ rfl⟩
  have hsz0 := boxes_size [(cs27, 27), (cs28, 28), (cs30, 30), (cs31, 31), (cs32, 32), (cs33, 33)] w
  simp only [List.length_cons, List.length_nil] at hsz0
  have l30 := h30.below hbel (Nat.le_refl _)
  have l33 := h33.below hbel (Nat.le_refl _)
  go_enter Try.func6, Try.ntmps6
  go_upto_region 1 with fail
  rw [show (((((w.alloc (Obj.cells cs27 27)).alloc (Obj.cells cs28 28)).alloc (Obj.cells cs30 30)).alloc (Obj.cells cs31 31)).alloc (Obj.cells cs32 32)).alloc (Obj.cells cs33 33) = boxes w [(cs27, 27), (cs28, 28), (cs30, 30), (cs31, 31), (cs32, 32), (cs33, 33)] from rfl]
  generalize boxes w [(cs27, 27), (cs28, 28), (cs30, 30), (cs31, 31), (cs32, 32), (cs33, 33)] = W0 at hbel hq hsz0 l30 l33 ⊢
  have hsz : w.heap.size + 6 ≤ W0.heap.size := by omega
  have h33w := h33
  clear hsz0 h30 h33
  go_wp2_with (first
    | (refine wpList_load_row (by rfl) 27 _ (by rfl) (w.heap.size) (by rfl) 27 cs27 (0, 0) _ (by exact hq.out.b27) Try.underlying27 (by rfl) (size_of info27 h27.1) ?_)
    | (refine wpList_load_row (by rfl) 28 _ (by rfl) (w.heap.size + 1) (by rfl) 28 cs28 (0, 0) _ (by exact hq.out.b28) Try.underlying28 (by rfl) (size_of info28 h28.1) ?_)
    | (refine wpList_load_row (by rfl) 30 _ (by rfl) (w.heap.size + 2) (by rfl) 30 cs30 (0, 0) _ (by exact hq.out.b30) Try.underlying30 (by rfl) (size_of info30 hs30) ?_)
    | (refine wpList_load_row (by rfl) 31 _ (by rfl) (w.heap.size + 3) (by rfl) 31 cs31 (0, 0) _ (by exact hq.out.b31) Try.underlying31 (by rfl) (size_of info31 h31.1) ?_)
    | (refine wpList_load_row (by rfl) 32 _ (by rfl) (w.heap.size + 4) (by rfl) 32 cs32 (0, 0) _ (by exact hq.out.b32) Try.underlying32 (by rfl) (size_of info32 h32.1) ?_)
    | (refine wpList_load_row (by rfl) 33 _ (by rfl) (w.heap.size + 5) (by rfl) 33 cs33 (0, 0) _ (by exact hq.out.b33) Try.underlying33 (by rfl) (size_of info33 hs33) ?_))
  refine (bytes_any _ _ _ cs27 cs28 cs30 cs31 cs32 cs33 N X M Z _ l30 l33 HN.out HM.out).mono ?_
  rintro e W1 ⟨⟨r, rfl, _⟩, hb1⟩
  have hbel1 := hbel.trans (hb1.mono hbel.size)
  have hq1 : Hid (Bx W1 w.heap.size cs27 cs28 cs30 cs31 cs32 cs33) := hq.out.below hb1 (Nat.le_refl _)
  have m30 := l30.below hb1 (Nat.le_refl _)
  have m33 := l33.below hb1 (Nat.le_refl _)
  have hsz1 : w.heap.size + 6 ≤ W1.heap.size := Nat.le_trans hsz hb1.size
  clear hbel hq l30 l33 hb1 hsz
  cases r with
  | false =>
    go_wp2
    go_ret
    exact ⟨rfl, hbel1⟩
  | true =>
    go_wp2_with (first
      | (refine wpList_load_row (by rfl) 27 _ (by rfl) (w.heap.size) (by rfl) 27 cs27 (0, 0) _ (by exact hq1.out.b27) Try.underlying27 (by rfl) (size_of info27 h27.1) ?_)
      | (refine wpList_load_row (by rfl) 28 _ (by rfl) (w.heap.size + 1) (by rfl) 28 cs28 (0, 0) _ (by exact hq1.out.b28) Try.underlying28 (by rfl) (size_of info28 h28.1) ?_)
      | (refine wpList_load_row (by rfl) 30 _ (by rfl) (w.heap.size + 2) (by rfl) 30 cs30 (0, 0) _ (by exact hq1.out.b30) Try.underlying30 (by rfl) (size_of info30 hs30) ?_)
      | (refine wpList_load_row (by rfl) 31 _ (by rfl) (w.heap.size + 3) (by rfl) 31 cs31 (0, 0) _ (by exact hq1.out.b31) Try.underlying31 (by rfl) (size_of info31 h31.1) ?_)
      | (refine wpList_load_row (by rfl) 32 _ (by rfl) (w.heap.size + 4) (by rfl) 32 cs32 (0, 0) _ (by exact hq1.out.b32) Try.underlying32 (by rfl) (size_of info32 h32.1) ?_)
      | (refine wpList_load_row (by rfl) 33 _ (by rfl) (w.heap.size + 5) (by rfl) 33 cs33 (0, 0) _ (by exact hq1.out.b33) Try.underlying33 (by rfl) (size_of info33 hs33) ?_))
    refine (small_any cs30 cs33 N X M Z _ m30 m33 HN.out HM.out).mono ?_
    rintro e W2 ⟨⟨r, rfl, hsm⟩, hb1⟩
    have hbel2 := hbel1.trans (hb1.mono hbel1.size)
    have hq2 : Hid (Bx W2 w.heap.size cs27 cs28 cs30 cs31 cs32 cs33) := hq1.out.below hb1 (Nat.le_refl _)
    have l30 := m30.below hb1 (Nat.le_refl _)
    have l33 := m33.below hb1 (Nat.le_refl _)
    have hsz2 : w.heap.size + 6 ≤ W2.heap.size := Nat.le_trans hsz1 hb1.size
    clear hbel1 hq1 m30 m33 hb1 hsz1
    cases r with
    | false =>
      go_wp2
      go_ret
      exact ⟨rfl, hbel2⟩
    | true =>
      have HSM : Hid (Small N M) := hsm rfl
      clear hsm
      go_wp2_with (first
        | (refine wpList_load_row (by rfl) 27 _ (by rfl) (w.heap.size) (by rfl) 27 cs27 (0, 0) _ (by exact hq2.out.b27) Try.underlying27 (by rfl) (size_of info27 h27.1) ?_)
        | (refine wpList_load_row (by rfl) 28 _ (by rfl) (w.heap.size + 1) (by rfl) 28 cs28 (0, 0) _ (by exact hq2.out.b28) Try.underlying28 (by rfl) (size_of info28 h28.1) ?_)
        | (refine wpList_load_row (by rfl) 30 _ (by rfl) (w.heap.size + 2) (by rfl) 30 cs30 (0, 0) _ (by exact hq2.out.b30) Try.underlying30 (by rfl) (size_of info30 hs30) ?_)
        | (refine wpList_load_row (by rfl) 31 _ (by rfl) (w.heap.size + 3) (by rfl) 31 cs31 (0, 0) _ (by exact hq2.out.b31) Try.underlying31 (by rfl) (size_of info31 h31.1) ?_)
        | (refine wpList_load_row (by rfl) 32 _ (by rfl) (w.heap.size + 4) (by rfl) 32 cs32 (0, 0) _ (by exact hq2.out.b32) Try.underlying32 (by rfl) (size_of info32 h32.1) ?_)
        | (refine wpList_load_row (by rfl) 33 _ (by rfl) (w.heap.size + 5) (by rfl) 33 cs33 (0, 0) _ (by exact hq2.out.b33) Try.underlying33 (by rfl) (size_of info33 hs33) ?_))
      refine (valid_any low sz cs27 cs28 cs30 cs31 cs32 cs33 L K N X S T M Z _ h27 h28 l30 h31 h32 l33 HK.out HSM.out).mono ?_
      rintro e W3 ⟨⟨r, rfl, hvl⟩, hb1⟩
      have hbel3 := hbel2.trans (hb1.mono hbel2.size)
      have hq3 : Hid (Bx W3 w.heap.size cs27 cs28 cs30 cs31 cs32 cs33) := hq2.out.below hb1 (Nat.le_refl _)
      have m30 := l30.below hb1 (Nat.le_refl _)
      have m33 := l33.below hb1 (Nat.le_refl _)
      have hsz3 : w.heap.size + 6 ≤ W3.heap.size := Nat.le_trans hsz2 hb1.size
      clear hbel2 hq2 l30 l33 hb1 hsz2
      cases r with
      | false =>
        go_wp2
        go_ret
        exact ⟨rfl, hbel3⟩
      | true =>
        obtain ⟨s, hss, hs16, hv, hasc⟩ := hvl rfl
        have hpw := asc_pairwise _ hasc
        clear hvl hasc
        have HV : Hid (∀ i, i < s → VldAt low L K N X S T M Z i) := hv
        have HP : Hid ((entL low N X S M Z s).Pairwise (· < ·)) := hpw
        clear hv hpw
        subst hss
        go_wp2_with (first
          | (refine wpList_load_row (by rfl) 27 _ (by rfl) (w.heap.size) (by rfl) 27 cs27 (0, 0) _ (by exact hq3.out.b27) Try.underlying27 (by rfl) (size_of info27 h27.1) ?_)
          | (refine wpList_load_row (by rfl) 28 _ (by rfl) (w.heap.size + 1) (by rfl) 28 cs28 (0, 0) _ (by exact hq3.out.b28) Try.underlying28 (by rfl) (size_of info28 h28.1) ?_)
          | (refine wpList_load_row (by rfl) 30 _ (by rfl) (w.heap.size + 2) (by rfl) 30 cs30 (0, 0) _ (by exact hq3.out.b30) Try.underlying30 (by rfl) (size_of info30 hs30) ?_)
          | (refine wpList_load_row (by rfl) 31 _ (by rfl) (w.heap.size + 3) (by rfl) 31 cs31 (0, 0) _ (by exact hq3.out.b31) Try.underlying31 (by rfl) (size_of info31 h31.1) ?_)
          | (refine wpList_load_row (by rfl) 32 _ (by rfl) (w.heap.size + 4) (by rfl) 32 cs32 (0, 0) _ (by exact hq3.out.b32) Try.underlying32 (by rfl) (size_of info32 h32.1) ?_)
          | (refine wpList_load_row (by rfl) 33 _ (by rfl) (w.heap.size + 5) (by rfl) 33 cs33 (0, 0) _ (by exact hq3.out.b33) Try.underlying33 (by rfl) (size_of info33 hs33) ?_))
        refine (cloneL_any cs30 N X _ m30 (fun i hi => small_N HSM.out i hi)).mono ?_
        rintro e W4 ⟨⟨d30, rfl, n30⟩, hb1⟩
        have hbel4 := hbel3.trans (hb1.mono hbel3.size)
        have hq4 : Hid (Bx W4 w.heap.size cs27 cs28 cs30 cs31 cs32 cs33) := hq3.out.below hb1 (Nat.le_refl _)
        have l33 := m33.below hb1 (Nat.le_refl _)
        have hsz4 : w.heap.size + 6 ≤ W4.heap.size := Nat.le_trans hsz3 hb1.size
        have hd30 := n30.lvs.size
        have ho30 := n30.one
        have n30' := n30.setRow (w.heap.size + 2) (by omega) d30
        have hq5 : Hid (Bx (W4.setRow (w.heap.size + 2) d30) w.heap.size cs27 cs28 d30 cs31 cs32 cs33) := hq4.out.set30 d30
        have hbel5 := below_setRow' hbel4 (w.heap.size + 2) (by omega) d30
        have l33' : CLvs (W4.setRow (w.heap.size + 2) d30) cs33 M Z := by
          obtain ⟨A, C, g1, g2⟩ := h33w
          exact ⟨A, C, g1, fun i j hi hj => (g2 i j hi hj).below hbel5 (Nat.le_refl _)⟩
        have hsz5 : w.heap.size + 6 ≤ (W4.setRow (w.heap.size + 2) d30).heap.size := by rw [setRow_size]; exact hsz4
        have HN30 : Hid (LvsN W3.heap.size (W4.setRow (w.heap.size + 2) d30) d30 N X) := n30'
        clear hbel3 hq3 m30 m33 hb1 l33 n30 n30' hbel4
        go_wp2_with (first
          | (refine wpList_store_row (by rfl) 30 _ _ (by rfl) (w.heap.size + 2) d30 (by rfl) (by rfl) 30 cs30 (by exact hq4.out.b30) (size_of info30 hd30) (by rw [hs30, hd30]) ho30 ?_)
          | (refine wpList_load_row (by rfl) 33 _ (by rfl) (w.heap.size + 5) (by rfl) 33 cs33 (0, 0) _ (by exact hq5.out.b33) Try.underlying33 (by rfl) (size_of info33 hs33) ?_))
        clear hq4
        refine (cloneLL_any cs33 M Z _ l33' (fun i j hi hj => small_M HSM.out i j hi hj)).mono ?_
        rintro e W6 ⟨⟨d33, rfl, n33⟩, hb1⟩
        have hbel6 := hbel5.trans (hb1.mono hbel5.size)
        have hq6 : Hid (Bx W6 w.heap.size cs27 cs28 d30 cs31 cs32 cs33) := hq5.out.below hb1 (Nat.le_refl _)
        have hd33 := n33.clvs.size
        have ho33 := n33.one
        have k30 := (HN30.out.below hb1 (Nat.le_refl _)).setRow (w.heap.size + 5) (by omega) d33
        have k33 := n33.setRow (w.heap.size + 5) (by omega) d33
        have hq7 : Hid (Bx (W6.setRow (w.heap.size + 5) d33) w.heap.size cs27 cs28 d30 cs31 cs32 d33) := hq6.out.set33 d33
        have hbel7 := below_setRow' hbel6 (w.heap.size + 5) (by omega) d33
        have hsz7 : w.heap.size + 6 ≤ (W6.setRow (w.heap.size + 5) d33).heap.size := by rw [setRow_size]; exact Nat.le_trans hsz5 hb1.size
        have j30 := k30.lvs
        have j33 := k33.clvs
        clear hbel5 hb1 HN30 hq5 hbel6 k30 k33 n33 l33' hsz5
        go_wp2_with (first
          | (refine wpList_store_row (by rfl) 33 _ _ (by rfl) (w.heap.size + 5) d33 (by rfl) (by rfl) 33 cs33 (by exact hq6.out.b33) (size_of info33 hd33) (by rw [hs33, hd33]) ho33 ?_)
          | (refine wpList_load_row (by rfl) 30 _ (by rfl) (w.heap.size + 2) (by rfl) 30 d30 (0, 0) _ (by exact hq7.out.b30) Try.underlying30 (by rfl) (size_of info30 hd30) ?_)
          | (refine wpList_load_row (by rfl) 31 _ (by rfl) (w.heap.size + 3) (by rfl) 31 cs31 (0, 0) _ (by exact hq7.out.b31) Try.underlying31 (by rfl) (size_of info31 h31.1) ?_)
          | (refine wpList_load_row (by rfl) 33 _ (by rfl) (w.heap.size + 5) (by rfl) 33 d33 (0, 0) _ (by exact hq7.out.b33) Try.underlying33 (by rfl) (size_of info33 hd33) ?_))
        clear hq6
        refine (entries_any low s d30 cs31 d33 N X S M Z _ j30 h31 j33 hs16 (fun h i hi => by have := HV.out i hi; unfold VldAt at this; rw [if_neg (by simp [h])] at this; exact ⟨by omega, this.2.1⟩) HSM.out).mono ?_
        rintro e W8 ⟨⟨ea, ec, rfl, hu⟩, hb1⟩
        have hbel8 := hbel7.trans (hb1.mono hbel7.size)
        have hq8 : Hid (Bx W8 w.heap.size cs27 cs28 d30 cs31 cs32 d33) := hq7.out.below hb1 (Nat.le_refl _)
        have p30 := j30.below hb1 (Nat.le_refl _)
        have p33 := j33.below hb1 (Nat.le_refl _)
        clear hbel7 hb1 hq7 j30 j33 hsz7 ho30 ho33 hs30 hs33
        have hcat := fun k hk => cnt_at HP.out k hk
        have hbd := ent_bound HX.out HZ.out low S s
        have hlen : (entL low N X S M Z s).length ≤ 131072 := by
          have h1 := entL_le low N X S M Z s (fun h i hi => by have := HV.out i hi; unfold VldAt at this; rw [if_neg (by simp [h])] at this; exact this.2.1)
          have h2 := totTo_mono N M hs16
          have h3 : totTo N M 16 ≤ 131072 := HSM.out
          omega
        have hzz : ∀ (x : Int) (w' : World), Below W8.heap.size W8 w' → Calls Try.prog 20 #[.int .i64 cnt0, .int .i64 (s : Int), .bool low, .agg cs27, .agg cs28, .agg d30, .agg cs31, .agg cs32, .agg d33, .int .u64 x] w' fun e w'' => e = .returned (.int .i64 (cnt x (entL low N X S M Z s))) ∧ Below W8.heap.size W8 w'' := fun x w' hw' =>
          (zz_cnt cnt0 s low cs27 cs28 d30 cs31 cs32 d33 L K N X S T M Z x w' h27 h28 (p30.below hw' (Nat.le_refl _)) h31 h32 (p33.below hw' (Nat.le_refl _)) s rfl hs16 HV.out HP.out HSM.out).mono fun e w'' ⟨he, hb⟩ => ⟨he, hw'.trans (hb.mono hw'.size)⟩
        clear p30 p33 HP HV HX HZ HK HN HM HSM
        generalize entL low N X S M Z s = xs at hu hcat hbd hlen hzz ⊢
        have hE : ∀ k, xs.getD k 0 = (fun i => xs.getD i 0) k := fun k => rfl
        have hEE : ∃ E : Nat → Int, (fun i => xs.getD i 0) = E := ⟨_, rfl⟩
        obtain ⟨E, hEq⟩ := hEE
        rw [hEq] at hu
        have HC1 : Hid (∀ k, k < xs.length → ∀ w', Below W8.heap.size W8 w' → Calls Try.prog 20 #[.int .i64 cnt0, .int .i64 (s : Int), .bool low, .agg cs27, .agg cs28, .agg d30, .agg cs31, .agg cs32, .agg d33, .int .u64 (E k)] w' fun e w'' => e = .returned (.int .i64 (k : Int)) ∧ Below W8.heap.size W8 w'') := fun k hk w' hw' => by
          have h := hzz (E k) w' hw'
          rw [← hEq] at h ⊢
          rwa [(hcat k hk).1] at h
        have HC2 : Hid (∀ k, k < xs.length → ∀ w', Below W8.heap.size W8 w' → Calls Try.prog 20 #[.int .i64 cnt0, .int .i64 (s : Int), .bool low, .agg cs27, .agg cs28, .agg d30, .agg cs31, .agg cs32, .agg d33, .int .u64 (E k + 1)] w' fun e w'' => e = .returned (.int .i64 ((k : Int) + 1)) ∧ Below W8.heap.size W8 w'') := fun k hk w' hw' => by
          have h := hzz (E k + 1) w' hw'
          rw [← hEq] at h ⊢
          rwa [(hcat k hk).2] at h
        have HBD : Hid (∀ k, k < xs.length → 0 ≤ E k ∧ E k ≤ 18446744073709551615) := fun k hk => by
          rw [← hEq]
          refine hbd _ ?_
          show xs.getD k 0 ∈ xs
          rw [List.getD_eq_getElem?_getD, List.getElem?_eq_getElem hk]
          exact List.getElem_mem _
        clear hcat hbd hzz hE hEq
        generalize xs.length = n at hu hlen HC1 HC2 HBD ⊢
        go_wp2_with fail
        go_loopw [20] (fun i wr => ∃ k : Nat, k ≤ n ∧ i = .int .i64 k ∧ Below W8.heap.size W8 wr) (fun i _ => n - (intOf i).toNat)
        case atStart => exact ⟨0, by omega, rfl, Below.refl _ _⟩
        case round =>
          obtain ⟨k, hk, rfl, hbr⟩ := hrel
          by_cases hlt : k < n
          · rcases hu with hu | ⟨eb, eo, rfl, heb, hec⟩
            · omega
            have hck := hec k hlt
            have ik0 : (0 : Int) ≤ (k : Int) := by omega
            have ik1 : (k : Int) < (n : Int) := by omega
            have hkk : ((k : Int) != (k : Int)) = false := by simp
            clear hec
            go_wp2_with fail
            refine wp_region_quiet (C := fun w' => Below W8.heap.size W8 w') (by kernel_rfl) (by kernel_rfl) (by exact ⟨hbr.os, hbr.tape, hbr.output, hbr.size, hbr.block⟩) ?_
            simp only
            refine qstep ?v1 (by rfl) ?h1 ?_
            case h1 => (intro w1 hw1; go_simp <;> with_reducible rfl)
            simp only [Act.put, List.setIfInBounds_toArray, List.set_cons_zero, List.set_cons_succ]
            refine qstep ?v2 (by rfl) ?h2 ?_
            case h2 => (intro w1 hw1; go_simp <;> with_reducible rfl)
            simp only [Act.put, List.setIfInBounds_toArray, List.set_cons_zero, List.set_cons_succ]
            refine qstep ?v3 (by rfl) ?h3 ?_
            case h3 => (intro w1 hw1; go_simp <;> with_reducible rfl)
            simp only [Act.put, List.setIfInBounds_toArray, List.set_cons_zero, List.set_cons_succ]
            refine qstep (.agg cs27) (by rfl) (q_load_row 27 _ (by rfl) (w.heap.size) (by rfl) 27 cs27 (0, 0) _ (fun w1 hw1 => block_kept hw1 (Nat.le_refl _) hq8.out.b27) Try.underlying27 (by rfl) (size_of info27 h27.1)) ?_
            simp only [Act.put, List.setIfInBounds_toArray, List.set_cons_zero, List.set_cons_succ]
            refine qstep (.agg cs28) (by rfl) (q_load_row 28 _ (by rfl) (w.heap.size + 1) (by rfl) 28 cs28 (0, 0) _ (fun w1 hw1 => block_kept hw1 (Nat.le_refl _) hq8.out.b28) Try.underlying28 (by rfl) (size_of info28 h28.1)) ?_
            simp only [Act.put, List.setIfInBounds_toArray, List.set_cons_zero, List.set_cons_succ]
            refine qstep (.agg d30) (by rfl) (q_load_row 30 _ (by rfl) (w.heap.size + 2) (by rfl) 30 d30 (0, 0) _ (fun w1 hw1 => block_kept hw1 (Nat.le_refl _) hq8.out.b30) Try.underlying30 (by rfl) (size_of info30 hd30)) ?_
            simp only [Act.put, List.setIfInBounds_toArray, List.set_cons_zero, List.set_cons_succ]
            refine qstep (.agg cs31) (by rfl) (q_load_row 31 _ (by rfl) (w.heap.size + 3) (by rfl) 31 cs31 (0, 0) _ (fun w1 hw1 => block_kept hw1 (Nat.le_refl _) hq8.out.b31) Try.underlying31 (by rfl) (size_of info31 h31.1)) ?_
            simp only [Act.put, List.setIfInBounds_toArray, List.set_cons_zero, List.set_cons_succ]
            refine qstep (.agg cs32) (by rfl) (q_load_row 32 _ (by rfl) (w.heap.size + 4) (by rfl) 32 cs32 (0, 0) _ (fun w1 hw1 => block_kept hw1 (Nat.le_refl _) hq8.out.b32) Try.underlying32 (by rfl) (size_of info32 h32.1)) ?_
            simp only [Act.put, List.setIfInBounds_toArray, List.set_cons_zero, List.set_cons_succ]
            refine qstep (.agg d33) (by rfl) (q_load_row 33 _ (by rfl) (w.heap.size + 5) (by rfl) 33 d33 (0, 0) _ (fun w1 hw1 => block_kept hw1 (Nat.le_refl _) hq8.out.b33) Try.underlying33 (by rfl) (size_of info33 hd33)) ?_
            simp only [Act.put, List.setIfInBounds_toArray, List.set_cons_zero, List.set_cons_succ]
            refine qstep ?v10 (by rfl) ?h10 ?_
            case h10 => (intro w1 hw1; go_simp <;> with_reducible rfl)
            simp only [Act.put, List.setIfInBounds_toArray, List.set_cons_zero, List.set_cons_succ]
            refine qstep ?v11 (by rfl) ?h11 ?_
            case h11 => (intro w1 hw1; go_simp <;> with_reducible rfl)
            simp only [Act.put, List.setIfInBounds_toArray, List.set_cons_zero, List.set_cons_succ]
            refine qstep ?v12 (by rfl) ?h12 ?_
            case h12 => (intro w1 hw1; go_simp <;> with_reducible rfl)
            simp only [Act.put, List.setIfInBounds_toArray, List.set_cons_zero, List.set_cons_succ]
            refine qstep (.int .u64 (E k)) (by rfl) ?h13 ?_
            case h13 => (intro w1 hw1; have hcc := (hw1.cell (p := ⟨eb, eo + k, none⟩) heb).trans hck; go_simp)
            simp only [Act.put, List.setIfInBounds_toArray, List.set_cons_zero, List.set_cons_succ]
            refine qstep (.int .i64 (k : Int)) (by rfl) ?h14 ?_
            case h14 => (intro w1 hw1; go_simp; exact HC1.out k hlt w1 hw1)
            simp only [Act.put, List.setIfInBounds_toArray, List.set_cons_zero, List.set_cons_succ]
            refine qstep ?v15 (by rfl) ?h15 ?_
            case h15 => (intro w1 hw1; go_simp <;> with_reducible rfl)
            simp only [Act.put, List.setIfInBounds_toArray, List.set_cons_zero, List.set_cons_succ]
            refine qstep ?v16 (by rfl) ?h16 ?_
            case h16 => (intro w1 hw1; go_simp <;> with_reducible rfl)
            simp only [Act.put, List.setIfInBounds_toArray, List.set_cons_zero, List.set_cons_succ]
            refine wpQuiet_nil ?_
            intro wr2 hbr2
            clear hbr
            have hbr := hbr2
            clear hbr2
            go_wp2_with fail
            by_cases hmx : E k = 18446744073709551615
            · have hne : (E k != 18446744073709551615) = false := by simp [hmx]
              clear hmx
              refine wp_region_quiet (C := fun w' => Below W8.heap.size W8 w') (by kernel_rfl) (by kernel_rfl) (by exact ⟨hbr.os, hbr.tape, hbr.output, hbr.size, hbr.block⟩) ?_
              simp only
              refine qstep ?v126 (by rfl) ?h126 ?_
              case h126 => (intro w1 hw1; go_simp <;> with_reducible rfl)
              simp only [Act.put, List.setIfInBounds_toArray, List.set_cons_zero, List.set_cons_succ]
              refine qstep ?v127 (by rfl) ?h127 ?_
              case h127 => (intro w1 hw1; go_simp <;> with_reducible rfl)
              simp only [Act.put, List.setIfInBounds_toArray, List.set_cons_zero, List.set_cons_succ]
              refine qstep ?v128 (by rfl) ?h128 ?_
              case h128 => (intro w1 hw1; go_simp <;> with_reducible rfl)
              simp only [Act.put, List.setIfInBounds_toArray, List.set_cons_zero, List.set_cons_succ]
              refine qstep (.int .u64 (E k)) (by rfl) ?h129 ?_
              case h129 => (intro w1 hw1; have hcc := (hw1.cell (p := ⟨eb, eo + k, none⟩) heb).trans hck; go_simp)
              simp only [Act.put, List.setIfInBounds_toArray, List.set_cons_zero, List.set_cons_succ]
              refine qstep (.bool false) (by rfl) ?h130 ?_
              case h130 => (intro w1 hw1; go_simp)
              simp only [Act.put, List.setIfInBounds_toArray, List.set_cons_zero, List.set_cons_succ]
              refine qstep ?v131 (by rfl) ?h131 ?_
              case h131 => (intro w1 hw1; go_simp <;> with_reducible rfl)
              simp only [Act.put, List.setIfInBounds_toArray, List.set_cons_zero, List.set_cons_succ]
              go_big_quiet_skip
              go_big_quiet_skip
              go_big_quiet_skip
              go_big_quiet_skip
              go_big_quiet_skip
              go_big_quiet_skip
              go_big_quiet_skip
              go_big_quiet_skip
              go_big_quiet_skip
              go_big_quiet_skip
              go_big_quiet_skip
              go_big_quiet_skip
              go_big_quiet_skip
              go_big_quiet_skip
              go_big_quiet_skip
              go_big_quiet_skip
              go_big_quiet_skip
              go_big_quiet_skip
              refine qstep ?v150 (by rfl) ?h150 ?_
              case h150 => (intro w1 hw1; go_simp <;> with_reducible rfl)
              simp only [Act.put, List.setIfInBounds_toArray, List.set_cons_zero, List.set_cons_succ]
              refine wpQuiet_nil ?_
              intro wr3 hbr3
              clear hbr
              go_wp2
              go_roundw
              case rel => exact ⟨k + 1, by omega, by go_num, hbr3⟩
              case measure => simp [intOf]; omega
            · have hne : (E k != 18446744073709551615) = true := by simp [hmx]
              have hb := HBD.out k hlt
              have hb0 : 0 ≤ E k := hb.1
              have hb1 : E k + 1 ≤ 18446744073709551615 := by omega
              clear hmx hb
              refine wp_region_quiet (C := fun w' => Below W8.heap.size W8 w') (by kernel_rfl) (by kernel_rfl) (by exact ⟨hbr.os, hbr.tape, hbr.output, hbr.size, hbr.block⟩) ?_
              simp only
              refine qstep ?v101 (by kernel_rfl) ?h101 ?_
              case h101 => (intro w1 hw1; go_simp <;> with_reducible rfl)
              simp only [Act.put, List.setIfInBounds_toArray, List.set_cons_zero, List.set_cons_succ]
              refine qstep ?v102 (by kernel_rfl) ?h102 ?_
              case h102 => (intro w1 hw1; go_simp <;> with_reducible rfl)
              simp only [Act.put, List.setIfInBounds_toArray, List.set_cons_zero, List.set_cons_succ]
              refine qstep ?v103 (by kernel_rfl) ?h103 ?_
              case h103 => (intro w1 hw1; go_simp <;> with_reducible rfl)
              simp only [Act.put, List.setIfInBounds_toArray, List.set_cons_zero, List.set_cons_succ]
              refine qstep (.int .u64 (E k)) (by kernel_rfl) ?h104 ?_
              case h104 => (intro w1 hw1; have hcc := (hw1.cell (p := ⟨eb, eo + k, none⟩) heb).trans hck; go_simp)
              simp only [Act.put, List.setIfInBounds_toArray, List.set_cons_zero, List.set_cons_succ]
              refine qstep (.bool true) (by kernel_rfl) ?h105 ?_
              case h105 => (intro w1 hw1; go_simp)
              simp only [Act.put, List.setIfInBounds_toArray, List.set_cons_zero, List.set_cons_succ]
              refine qstep ?v106 (by kernel_rfl) ?h106 ?_
              case h106 => (intro w1 hw1; go_simp <;> with_reducible rfl)
              simp only [Act.put, List.setIfInBounds_toArray, List.set_cons_zero, List.set_cons_succ]
              refine qstep ?v107 (by kernel_rfl) ?h107 ?_
              case h107 => (intro w1 hw1; go_simp <;> with_reducible rfl)
              simp only [Act.put, List.setIfInBounds_toArray, List.set_cons_zero, List.set_cons_succ]
              refine qstep ?v108 (by kernel_rfl) ?h108 ?_
              case h108 => (intro w1 hw1; go_simp <;> with_reducible rfl)
              simp only [Act.put, List.setIfInBounds_toArray, List.set_cons_zero, List.set_cons_succ]
              refine qstep ?v109 (by kernel_rfl) ?h109 ?_
              case h109 => (intro w1 hw1; go_simp <;> with_reducible rfl)
              simp only [Act.put, List.setIfInBounds_toArray, List.set_cons_zero, List.set_cons_succ]
              refine qstep (.agg cs27) (by kernel_rfl) (q_load_row 27 _ (by rfl) (w.heap.size) (by rfl) 27 cs27 (0, 0) _ (fun w1 hw1 => block_kept hw1 (Nat.le_refl _) hq8.out.b27) Try.underlying27 (by rfl) (size_of info27 h27.1)) ?_
              simp only [Act.put, List.setIfInBounds_toArray, List.set_cons_zero, List.set_cons_succ]
              refine qstep (.agg cs28) (by kernel_rfl) (q_load_row 28 _ (by rfl) (w.heap.size + 1) (by rfl) 28 cs28 (0, 0) _ (fun w1 hw1 => block_kept hw1 (Nat.le_refl _) hq8.out.b28) Try.underlying28 (by rfl) (size_of info28 h28.1)) ?_
              simp only [Act.put, List.setIfInBounds_toArray, List.set_cons_zero, List.set_cons_succ]
              refine qstep (.agg d30) (by kernel_rfl) (q_load_row 30 _ (by rfl) (w.heap.size + 2) (by rfl) 30 d30 (0, 0) _ (fun w1 hw1 => block_kept hw1 (Nat.le_refl _) hq8.out.b30) Try.underlying30 (by rfl) (size_of info30 hd30)) ?_
              simp only [Act.put, List.setIfInBounds_toArray, List.set_cons_zero, List.set_cons_succ]
              refine qstep (.agg cs31) (by kernel_rfl) (q_load_row 31 _ (by rfl) (w.heap.size + 3) (by rfl) 31 cs31 (0, 0) _ (fun w1 hw1 => block_kept hw1 (Nat.le_refl _) hq8.out.b31) Try.underlying31 (by rfl) (size_of info31 h31.1)) ?_
              simp only [Act.put, List.setIfInBounds_toArray, List.set_cons_zero, List.set_cons_succ]
              refine qstep (.agg cs32) (by kernel_rfl) (q_load_row 32 _ (by rfl) (w.heap.size + 4) (by rfl) 32 cs32 (0, 0) _ (fun w1 hw1 => block_kept hw1 (Nat.le_refl _) hq8.out.b32) Try.underlying32 (by rfl) (size_of info32 h32.1)) ?_
              simp only [Act.put, List.setIfInBounds_toArray, List.set_cons_zero, List.set_cons_succ]
              refine qstep (.agg d33) (by kernel_rfl) (q_load_row 33 _ (by rfl) (w.heap.size + 5) (by rfl) 33 d33 (0, 0) _ (fun w1 hw1 => block_kept hw1 (Nat.le_refl _) hq8.out.b33) Try.underlying33 (by rfl) (size_of info33 hd33)) ?_
              simp only [Act.put, List.setIfInBounds_toArray, List.set_cons_zero, List.set_cons_succ]
              refine qstep ?v116 (by kernel_rfl) ?h116 ?_
              case h116 => (intro w1 hw1; go_simp <;> with_reducible rfl)
              simp only [Act.put, List.setIfInBounds_toArray, List.set_cons_zero, List.set_cons_succ]
              refine qstep ?v117 (by kernel_rfl) ?h117 ?_
              case h117 => (intro w1 hw1; go_simp <;> with_reducible rfl)
              simp only [Act.put, List.setIfInBounds_toArray, List.set_cons_zero, List.set_cons_succ]
              refine qstep ?v118 (by kernel_rfl) ?h118 ?_
              case h118 => (intro w1 hw1; go_simp <;> with_reducible rfl)
              simp only [Act.put, List.setIfInBounds_toArray, List.set_cons_zero, List.set_cons_succ]
              refine qstep (.int .u64 (E k)) (by kernel_rfl) ?h119 ?_
              case h119 => (intro w1 hw1; have hcc := (hw1.cell (p := ⟨eb, eo + k, none⟩) heb).trans hck; go_simp)
              simp only [Act.put, List.setIfInBounds_toArray, List.set_cons_zero, List.set_cons_succ]
              refine qstep (.int .u64 (E k + 1)) (by kernel_rfl) ?h120 ?_
              case h120 => (intro w1 hw1; go_simp; exact IntWalk.u64_in _ ⟨by omega, hb1⟩)
              simp only [Act.put, List.setIfInBounds_toArray, List.set_cons_zero, List.set_cons_succ]
              refine qstep (.int .i64 ((k : Int) + 1)) (by kernel_rfl) ?h121 ?_
              case h121 => (intro w1 hw1; go_simp; exact HC2.out k hlt w1 hw1)
              simp only [Act.put, List.setIfInBounds_toArray, List.set_cons_zero, List.set_cons_succ]
              refine qstep ?v122 (by kernel_rfl) ?h122 ?_
              case h122 => (intro w1 hw1; go_simp <;> with_reducible rfl)
              simp only [Act.put, List.setIfInBounds_toArray, List.set_cons_zero, List.set_cons_succ]
              refine qstep (.int .i64 ((k : Int) + 1)) (by kernel_rfl) ?h123 ?_
              case h123 => (intro w1 hw1; go_simp; exact i64_in _ (by omega) (by omega))
              simp only [Act.put, List.setIfInBounds_toArray, List.set_cons_zero, List.set_cons_succ]
              refine qstep (.bool false) (by kernel_rfl) ?h124 ?_
              case h124 => (intro w1 hw1; go_simp)
              simp only [Act.put, List.setIfInBounds_toArray, List.set_cons_zero, List.set_cons_succ]
              refine qstep ?v125 (by kernel_rfl) ?h125 ?_
              case h125 => (intro w1 hw1; go_simp <;> with_reducible rfl)
              simp only [Act.put, List.setIfInBounds_toArray, List.set_cons_zero, List.set_cons_succ]
              refine wpQuiet_nil ?_
              intro wr3 hbr3
              clear hbr
              go_wp2
              go_roundw
              case rel => exact ⟨k + 1, by omega, by go_num, hbr3⟩
              case measure => simp [intOf]; omega
          · have e : k = n := by omega
            subst e
            go_wp2
            go_ret
            exact ⟨rfl, hbel8.trans (hbr.mono hbel8.size)⟩
end Go.Proofs.Qxb6604322a
