/-
  Seat b6609411a: reach (42) and its iterator (52).
-/
import Derived.Test.Qxb6609411aRange
import Derived.Test.Qxb6609411aBuild
namespace Go.Proofs.Qxb6609411a
open Go.ChangeShapes Go.WideShapes Go.ChangeAt Go.RowKit Go.Shelf
set_option linter.unusedVariables false
attribute [local go_sem] Oper.semAt_some

/-- the roles reached from F along E. -/
inductive Rc (F : Nat → Prop) (E : Nat → Nat → Prop) : Nat → Prop
  | base {v : Nat} : F v → Rc F E v
  | step {u v : Nat} : Rc F E u → E u v → Rc F E v

/-- start and edges, by the names that the sets hold. -/
def FrN (n0 : Nat) (FS : Lit → Prop) (v : Nat) : Prop := v < n0 ∧ FS (.string (nmL v))
def EdN (n0 : Nat) (JS : Nat → Lit → Prop) (u v : Nat) : Prop := v < n0 ∧ JS u (.string (nmL v))
theorem rc_lt {n0 : Nat} {FS : Lit → Prop} {JS : Nat → Lit → Prop} {v : Nat} (h : Rc (FrN n0 FS) (EdN n0 JS) v) : v < n0 := by
  cases h with
  | base h => exact h.1
  | step _ h => exact h.1

/-- blocks below K lie as they lay. -/
structure Lo (K : Nat) (W W' : World) : Prop where
  size : W.heap.size ≤ W'.heap.size
  block : ∀ k, k < K → W'.heap[k]? = W.heap[k]?
theorem Lo.refl (K : Nat) (W : World) : Lo K W W := ⟨Nat.le_refl _, fun _ _ => rfl⟩
theorem Lo.trans {K : Nat} {X Y Z : World} (h : Lo K X Y) (k : Lo K Y Z) : Lo K X Z := ⟨Nat.le_trans h.size k.size, fun i hi => (k.block i hi).trans (h.block i hi)⟩
theorem St.lo {B K : Nat} {W W' : World} (h : St B W W') (hK : K ≤ B) : Lo K W W' := ⟨h.size, fun k hk => h.block k (by omega)⟩
theorem Kp.lo {B K : Nat} {W W' : World} (h : Kp B K W W') (hK : K ≤ B) (hB : K ≤ W.heap.size) : Lo K W W' := ⟨h.size, fun k hk => h.same k (by omega) (by omega) (by omega) (by omega)⟩
theorem Lo.boxed {K : Nat} {W W' : World} (h : Lo K W W') {b : Nat} {t : TypeId} {v : Value} (hb : Boxed W b t v) (hK : b < K) : Boxed W' b t v := (h.block b hK).trans hb
theorem Lo.set {K : Nat} {W W' : World} (h : Lo K W W') {k : TypeId} {b n : Nat} {S : Lit → Prop} (hb : SetAt W k b n S) (hK : b < K) : SetAt W' k b n S := hb.keep (h.block b hK)

/-- what the iterator has captured, and the policy: all in blocks below K. -/
structure Cap (w : World) (K n0 c Bf Bp Bn bm fm nf pb rb : Nat) (B : Nat → Nat → Nat) (FS : Lit → Prop) (PS JS : Nat → Lit → Prop) : Prop where
  cf : Boxed w Bf 64 (.func (.func 54) #[] #[.pointer (some ⟨bm, 0, none⟩)])
  cp : Boxed w Bp 27 (.pointer (some ⟨pb, 0, none⟩))
  cn : Boxed w Bn 66 (.func (.func 46) #[] #[])
  cm : Boxed w bm 29 (.map (some fm))
  fs : SetAt w 9 fm nf FS
  pol : Pol w pb rb B n0 c PS JS
  lts : (Bf < K ∧ Bp < K) ∧ (Bn < K ∧ bm < K) ∧ (fm < K ∧ pb < K) ∧ rb < K
  ltB : ∀ k v, k < 4 → v < n0 → B k v < K

theorem Cap.lo {w w' : World} {K n0 c Bf Bp Bn bm fm nf pb rb : Nat} {B : Nat → Nat → Nat} {FS : Lit → Prop} {PS JS : Nat → Lit → Prop} (h : Cap w K n0 c Bf Bp Bn bm fm nf pb rb B FS PS JS) (hl : Lo K w w') : Cap w' K n0 c Bf Bp Bn bm fm nf pb rb B FS PS JS :=
  ⟨hl.boxed h.cf h.lts.1.1, hl.boxed h.cp h.lts.1.2, hl.boxed h.cn h.lts.2.1.1, hl.boxed h.cm h.lts.2.1.2, hl.set h.fs h.lts.2.2.1.1,
    h.pol.keep hl.size (hl.block _ h.lts.2.2.1.2) (hl.block _ h.lts.2.2.2) (fun k v hk hv => hl.block _ (h.ltB k v hk hv)), h.lts, h.ltB⟩

abbrev encR {n0 : Nat} (B : Nat → Nat → Nat) (v : Fin n0) : Array Value := #[.string (nm v), .pointer (some ⟨B 0 v, 0, none⟩)]

/-- between two rounds of the iterator: vis has been visited, L is pending, S has been seen. -/
structure Walk (n0 : Nat) (F : Nat → Prop) (E : Nat → Nat → Prop) (vis : List (Fin n0)) (S L : List Nat) : Prop where
  mem : ∀ v, v ∈ S ↔ v ∈ vis.map (·.1) ∨ v ∈ L
  nd : (vis.map (·.1) ++ L).Nodup
  cl : ∀ u, u ∈ vis → ∀ v, v < n0 → E u.1 v → v ∈ S
  fr : ∀ v, v < n0 → F v → v ∈ S
  rc : ∀ v, v ∈ S → Rc F E v

theorem ItSt.pop {n0 s0 : Nat} {S L : List Nat} {v : Nat} {W : World} (h : ItSt n0 s0 S (L ++ [v]) W) : ∃ g cap, Boxed W (s0 + 2) 37 (.slice (some ⟨g, 0, none⟩) (L.length + 1) cap) ∧ L.length + 1 ≤ cap ∧ W.cell? ⟨g, L.length, none⟩ = some (.string (nm v)) ∧
    ItSt n0 s0 S L (W.setCell ⟨s0 + 2, 0, none⟩ (.slice (some ⟨g, 0, none⟩) L.length cap)) ∧ St s0 W (W.setCell ⟨s0 + 2, 0, none⟩ (.slice (some ⟨g, 0, none⟩) L.length cap)) := by
  obtain ⟨bx, set, ⟨u, hv, hrow⟩, sn, sl, ln, ls⟩ := h
  have hrow0 := hrow
  obtain ⟨hl, hr⟩ := hrow
  rcases hr with ⟨_, h0⟩ | ⟨g, cap, cur, rfl, hb, hg, hc1, hc2, hc3, hc4⟩
  · simp at h0
  · have hlen : (L ++ [v]).length = L.length + 1 := by simp
    rw [hlen] at hv hc1 hc4
    have hne : s0 + 2 ≠ g := fun e => by
      have := hv.not_row (by decide) hrow0
      exact this (by simp [Value.ownBlock, e])
    have hg' : (W.setCell ⟨s0 + 2, 0, none⟩ (.slice (some ⟨g, 0, none⟩) L.length cap)).heap[g]? = some (.cells cur 9 (0, 0)) := (Below.heap_setCell W ⟨s0 + 2, 0, none⟩ _ g (fun e => hne e.symm)).trans hg
    have hgr := grownBy_setCell' W (s0 + 2) (.slice (some ⟨g, 0, none⟩) L.length cap)
    refine ⟨g, cap, hv, ?_, ?_, ⟨bx.other (by omega) _, set.keep (Below.heap_setCell W ⟨s0 + 2, 0, none⟩ _ s0 (by show s0 ≠ s0 + 2; omega)), ⟨_, hv.set _, ?_⟩, sn, sl, ?_, ?_⟩, ?_⟩
    · omega
    · rw [cell_of_row W g L.length cur 9 (0, 0) hg]
      have : (cur.toList.take ((L.length + 1) * 1))[L.length]? = some (.string (nm v)) := by
        rw [hc4]
        simp
      rw [List.getElem?_take, if_pos (by omega), Array.getElem?_toList] at this
      exact this
    · refine ⟨by simp, .inr ⟨g, cap, cur, rfl, hb, hg', ?_, hc2, hc3, ?_⟩⟩
      · omega
      · have := congrArg (fun x : List Value => x.take L.length) hc4
        simp only [List.take_take] at this
        rw [Nat.min_eq_left (by omega)] at this
        simpa using this
    · exact (List.nodup_append.1 ln).1
    · exact fun x hx => ls x (by simp [hx])
    · refine St.grown hgr (Nat.le_of_lt set.lt) (fun r e => ?_)
      cases e
      refine ⟨by omega, fun o ho => .inl ?_⟩
      rw [show W.heap[s0 + 2]? = _ from hv] at ho
      cases ho
      rfl

theorem ItSt.same {n0 s0 : Nat} {S L : List Nat} {W W' : World} (h : ItSt n0 s0 S L W) (hs : ∀ k, s0 ≤ k → k < W.heap.size → W'.heap[k]? = W.heap[k]?) : ItSt n0 s0 S L W' := by
  obtain ⟨bx, set, ⟨u, hv, hrow⟩, sn, sl, ln, ls⟩ := h
  refine ⟨(hs _ (by omega) bx.lt).trans bx, set.keep (hs _ (Nat.le_refl _) set.lt), ⟨u, (hs _ (by omega) hv.lt).trans hv, ?_⟩, sn, sl, ln, ls⟩
  obtain ⟨hl, hr⟩ := hrow
  refine ⟨hl, ?_⟩
  rcases hr with h0 | ⟨g, cap, cur, rfl, hb, hg, rest⟩
  · exact .inl h0
  · exact .inr ⟨g, cap, cur, rfl, hb, (hs g hb (Array.getElem?_eq_some_iff.1 hg).1).trans hg, rest⟩
theorem St.alloc (B : Nat) (W : World) (o : Obj) (hB : B ≤ W.heap.size) : St B W (W.alloc o) := St.grown (World.grownBy_alloc W o none) hB (fun r e => by cases e)

theorem itSt_unique {n0 s0 : Nat} (hn0 : n0 ≤ 10000) {S L S' L' : List Nat} {W : World} (h : ItSt n0 s0 S L W) (h' : ItSt n0 s0 S' L' W) : S.length = S'.length ∧ L.length = L'.length := by
  refine ⟨?_, ?_⟩
  · obtain ⟨D, d1, d2⟩ := h.set
    obtain ⟨D', e1, e2⟩ := h'.set
    obtain ⟨es, cl, a1, a2, a3, rfl⟩ := d1
    obtain ⟨es', cl', b1, b2, b3, rfl⟩ := e1
    rw [a1] at b1
    simp only [Option.some.injEq, Obj.map.injEq] at b1
    obtain ⟨rfl, rfl⟩ := b1
    have hmem : ∀ v, v ∈ S ↔ v ∈ S' := fun v => by
      have hx := (d2 (.string (nmL v))).symm.trans (e2 (.string (nmL v)))
      constructor
      · intro hv
        obtain ⟨u, hu, e⟩ := hx.1 ⟨v, hv, rfl⟩
        have e' : nmL v = nmL u := by simpa using e
        have hv1 := h.sl v hv
        have hu1 := h'.sl u hu
        have e'' : v = u := nmL_inj (by omega) (by omega) e'
        rw [e'']
        exact hu
      · intro hv
        obtain ⟨u, hu, e⟩ := hx.2 ⟨v, hv, rfl⟩
        have e' : nmL v = nmL u := by simpa using e
        have hv1 := h'.sl v hv
        have hu1 := h.sl u hu
        have e'' : v = u := nmL_inj (by omega) (by omega) e'
        rw [e'']
        exact hu
    exact ((List.perm_ext_iff_of_nodup h.sn h'.sn).2 hmem).length_eq
  · obtain ⟨u, hu, hr⟩ := h.pend
    obtain ⟨u', hu', hr'⟩ := h'.pend
    have e := (show W.heap[s0 + 2]? = _ from hu).symm.trans hu'
    simp only [Option.some.injEq, Obj.cells.injEq, and_true] at e
    have e' : u = u' := by simpa using e
    subst e'
    rcases hr.2 with ⟨h1, h2⟩ | ⟨g, cap, cur, h1, _⟩ <;> rcases hr'.2 with ⟨k1, k2⟩ | ⟨g', cap', cur', k1, _⟩
    · omega
    · rw [h1] at k1; cases k1
    · rw [h1] at k1; cases k1
    · rw [h1] at k1
      simp at k1
      omega

open Classical in
/-- how many roles are still to be visited: for the loop's measure. -/
noncomputable def leftOf (n0 s0 : Nat) (W : World) : Nat :=
  if h : ∃ p : List Nat × List Nat, ItSt n0 s0 p.1 p.2 W then n0 + (Classical.choose h).2.length - (Classical.choose h).1.length else 0
theorem leftOf_eq {n0 s0 : Nat} (hn0 : n0 ≤ 10000) {S L : List Nat} {W : World} (h : ItSt n0 s0 S L W) : leftOf n0 s0 W = n0 + L.length - S.length := by
  have hex : ∃ p : List Nat × List Nat, ItSt n0 s0 p.1 p.2 W := ⟨(S, L), h⟩
  unfold leftOf
  rw [dif_pos hex]
  obtain ⟨e1, e2⟩ := itSt_unique hn0 (Classical.choose_spec hex) h
  rw [e1, e2]

set_option maxRecDepth 100000 in
set_option maxHeartbeats 4000000 in
theorem reach1_in {n0 : Nat} (hn0 : n0 ≤ 4096) (n : Nat) (hn : 4 ≤ n) (K c Bf Bp Bn bm fm nf pb rb Bw : Nat) (B : Nat → Nat → Nat) (FS : Lit → Prop) (PS JS : Nat → Lit → Prop) (hFS : ∀ x, FS x → ∃ v : Fin n0, x = .string (nmL v)) (hJS : ∀ u x, JS u x → ∃ v : Fin n0, x = .string (nmL v))
    (l : Nat) (J Jx : List (Fin n0) → World → Prop) (W : World) (hKB : K ≤ Bw) (hBW : Bw + 2 ≤ W.heap.size) (hC : Cap W K n0 c Bf Bp Bn bm fm nf pb rb B FS PS JS) (hJ : AbX W.heap.size J) (hJx : AbX W.heap.size Jx)
    (hY : ∀ pre x W1, J pre W1 → YieldAt Fence.wide (n - 1) Try.prog l (encR B x) W1 fun e W' => (e = .returned (.bool true) ∧ J (pre ++ [x]) W' ∧ Kp Bw K W1 W') ∨ (e = .returned (.bool false) ∧ Jx (pre ++ [x]) W')) (h0 : J [] W) :
    CallsIn Fence.wide n Try.prog 52 #[.func (.yield l) #[] #[], .pointer (some ⟨Bf, 0, none⟩), .pointer (some ⟨Bp, 0, none⟩), .pointer (some ⟨Bn, 0, none⟩)] W fun e W' => (∃ v, e = .returned v) ∧
      ((∃ xs : List (Fin n0), (xs.Nodup ∧ ∀ v : Fin n0, v ∈ xs ↔ Rc (FrN n0 FS) (EdN n0 JS) v) ∧ J xs W') ∨ (∃ pre : List (Fin n0), (∀ v, v ∈ pre → Rc (FrN n0 FS) (EdN n0 JS) v.1) ∧ Jx pre W')) := by
  have hmm := @run_makeMap Try.prog
  refine callsIn_of_wp Try.func52 rfl trivial ?_ rfl
  simp only [Try.ntmps52, List.size_toArray, List.length_cons, List.length_nil, Nat.reduceAdd, Nat.reduceSub, Array.replicate_succ, Array.replicate_zero, List.push_toArray, List.append_toArray, List.nil_append, List.cons_append]
  have hbl : Below W.heap.size W (((W.alloc (.map #[] 0)).alloc (.cells #[.map (some W.heap.size)] 29)).alloc (.cells #[.slice none 0 0] 37)) := (((Below.refl _ _).alloc (Nat.le_refl _) _).alloc (by simp) _).alloc (by simp; omega) _
  have hst0 : St W.heap.size W (((W.alloc (.map #[] 0)).alloc (.cells #[.map (some W.heap.size)] 29)).alloc (.cells #[.slice none 0 0] 37)) := ((St.grown (World.grownBy_alloc W _ none) (Nat.le_refl _) (fun r e => by cases e)).trans (St.grown (World.grownBy_alloc _ _ none) (by simp) (fun r e => by cases e))).trans (St.grown (World.grownBy_alloc _ _ none) (by simp; omega) (fun r e => by cases e))
  have hC0 := hC.lo (hst0.lo (K := K) (by omega))
  have hI0 : ItSt n0 W.heap.size [] [] (((W.alloc (.map #[] 0)).alloc (.cells #[.map (some W.heap.size)] 29)).alloc (.cells #[.slice none 0 0] 37)) := by
    have b1 := Boxed.new (W.alloc (.map #[] 0)) 29 (.map (some W.heap.size))
    have b2 := Boxed.new ((W.alloc (.map #[] 0)).alloc (.cells #[.map (some W.heap.size)] 29)) 37 (.slice none 0 0)
    rw [World.size_alloc] at b1 b2
    rw [World.size_alloc] at b2
    refine ⟨b1.alloc _, ?_, ⟨_, b2, World.ownsRow_nil _ _ _ _⟩, List.nodup_nil, by simp, List.nodup_nil, by simp⟩
    refine ((SetAt.made W 9).keep ((Below.heap_alloc _ _ _ (by simp; omega)).trans (Below.heap_alloc _ _ _ (by simp)))).congr fun x => by simp
  have hJ0 := hJ [] _ _ h0 hst0
  obtain ⟨DF, hownF, hmemF⟩ := hC0.fs
  have hcf := hC0.cf.cell
  have hcm := hC0.cm.cell
  have hbmlt := hC0.cm.lt
  have hA := add_in (n0 := n0) hn0 (n - 1) (by omega) W.heap.size bm fm nf DF (fun x hx => by
    obtain ⟨v, hv⟩ := hFS _ ((hmemF _).1 hx)
    exact ⟨v, by simpa using hv⟩) [] [] _ hbmlt hcm hownF (by have := hC.lts; omega) hI0
  have HC0 : Hid (Cap (((W.alloc (.map #[] 0)).alloc (.cells #[.map (some W.heap.size)] 29)).alloc (.cells #[.slice none 0 0] 37)) K n0 c Bf Bp Bn bm fm nf pb rb B FS PS JS) := hC0
  clear hC0 hI0 hcm hbmlt hownF
  gi_wp2_with fail
  refine ⟨trivial, (fun h => by cases h), ?_⟩
  refine hA.mono ?_
  clear hA
  rintro e W2 ⟨⟨x, rfl⟩, new, hI2, hnd, hold, hall, hst2⟩
  have hC2 : Cap W2 K n0 c Bf Bp Bn bm fm nf pb rb B FS PS JS := HC0.out.lo (hst2.lo (by omega))
  have hJ2 := hJ [] _ _ hJ0 hst2
  have hW2 : Walk n0 (FrN n0 FS) (EdN n0 JS) [] ([] ++ new) ([] ++ new) := ⟨fun v => by simp, by simpa using hnd, fun u hu => by simp at hu, fun v hv hF => by
    have := hall ⟨v, hv⟩ ((hmemF _).2 hF.2)
    simpa using this, fun v hv => .base ⟨hI2.sl v (by simpa using hv), (hmemF _).1 (hold v (by simpa using hv)).1⟩⟩
  have hS2 := hst0.trans hst2
  clear hnd hold hall hst2 HC0 hJ0 hmemF hcf hst0 hbl hmm
  gi_wp2
  gi_loopw [8] (fun _ wr => ∃ (vis : List (Fin n0)) (S L : List Nat), ItSt n0 W.heap.size S L wr ∧ Walk n0 (FrN n0 FS) (EdN n0 JS) vis S L ∧ Cap wr K n0 c Bf Bp Bn bm fm nf pb rb B FS PS JS ∧ J vis wr) (fun _ wr => leftOf n0 W.heap.size wr)
  case atStart => exact ⟨[], _, _, hI2, hW2, hC2, hJ2⟩
  case round =>
    clear hI2 hW2 hC2 hJ2 hS2
    obtain ⟨vis, S, L, hIt, hWk, hCp, hJv⟩ := hrel
    have hs0 := hIt.set.lt
    have hlts := hCp.lts
    rcases List.eq_nil_or_concat L with rfl | ⟨L', v, hLe⟩
    · -- nothing is pending
      obtain ⟨u, hu, hr⟩ := hIt.pend
      have hin : ∀ v, Rc (FrN n0 FS) (EdN n0 JS) v → v ∈ vis.map (·.1) := fun v h => by
        induction h with
        | base h => simpa using (hWk.mem _).1 (hWk.fr _ h.1 h)
        | step _ h ih =>
          obtain ⟨q, hq, rfl⟩ := List.mem_map.1 ih
          simpa using (hWk.mem _).1 (hWk.cl q hq _ h.1 h)
      have hfin : ∃ xs : List (Fin n0), (xs.Nodup ∧ ∀ v : Fin n0, v ∈ xs ↔ Rc (FrN n0 FS) (EdN n0 JS) v) ∧ J xs wr := by
        refine ⟨vis, ⟨?_, fun v => ⟨fun h => hWk.rc v.1 ((hWk.mem v.1).2 (.inl (List.mem_map.2 ⟨v, h, rfl⟩))), fun h => ?_⟩⟩, hJv⟩
        · have := hWk.nd
          rw [List.append_nil] at this
          exact (List.pairwise_map.1 this).imp fun h e => h (congrArg _ e)
        · obtain ⟨q, hq, e⟩ := List.mem_map.1 (hin _ h)
          rwa [Fin.ext e] at hq
      have HF : Hid (∃ xs : List (Fin n0), (xs.Nodup ∧ ∀ v : Fin n0, v ∈ xs ↔ Rc (FrN n0 FS) (EdN n0 JS) v) ∧ J xs wr) := hfin
      obtain ⟨a0, c0, rfl⟩ : ∃ a0 c0, u = .slice a0 0 c0 := by
        rcases hr.2 with ⟨h1, _⟩ | ⟨g, cap, cur, h1, _⟩
        · exact ⟨none, 0, h1⟩
        · exact ⟨_, cap, h1⟩
      have hc : wr.cell? ⟨W.heap.size + 1 + 1, 0, none⟩ = some (.slice a0 0 c0) := hu.cell
      clear hfin hin hr hu hIt hWk hCp hJv
      gi_wp2
      go_end0
      exact ⟨⟨_, rfl⟩, .inl HF.out⟩
    · rw [List.concat_eq_append] at hLe
      subst hLe
      obtain ⟨g, cap, hbox, hcap, hcell, hIt', hst'⟩ := hIt.pop
      have hvS : v ∈ S := hIt.ls v (by simp)
      have hvn : v < n0 := hIt.sl v hvS
      have pc : wr.cell? ⟨W.heap.size + 1 + 1, 0, none⟩ = some (.slice (some ⟨g, 0, none⟩) (L'.length + 1) cap) := hbox.cell
      have pf : wr.frozen? ⟨W.heap.size + 1 + 1, 0, none⟩ = false := hbox.frozen
      obtain ⟨w1, hw1⟩ : ∃ w1, w1 = wr.setCell ⟨W.heap.size + 1 + 1, 0, none⟩ (.slice (some ⟨g, 0, none⟩) L'.length cap) := ⟨_, rfl⟩
      have hIt1 : ItSt n0 W.heap.size S L' w1 := by rw [hw1]; exact hIt'
      have hst1 : St W.heap.size wr w1 := by rw [hw1]; exact hst'
      have hC1 := hCp.lo (hst1.lo (K := K) (by omega))
      have hJ1 := hJ vis _ _ hJv hst1
      have kp := hC1.cp.cell
      have kr := hC1.pol.pc
      have kl := hC1.pol.tab.look v (by omega) (B 0 v) (tab_f hvn)
      obtain ⟨fn, tmps, assign, body, hy, hR⟩ := hY vis ⟨v, hvn⟩ w1 hJ1
      rw [hw1] at kp kr kl hy hR
      have hlen0 : (0 : Int) < (L'.length : Int) + 1 := by omega
      have hcap' : (L'.length : Int) ≤ cap := by omega
      have hLl := nodup_len n0 _ hIt1.ln (fun x hx => hIt1.sl x (hIt1.ls x hx))
      have hLl' : L'.length ≤ 4096 := by omega
      have hmeas0 := leftOf_eq (by omega) hIt
      clear hIt' hst' hbox hIt hCp hJv
      gi_wp2
      refine ⟨(fun h => by cases h), hR.mono ?_⟩
      rw [← hw1]
      clear hR hy pc pf kp kr kl hw1
      rintro e W3 (⟨rfl, hJ3, hk3⟩ | ⟨rfl, hJx3⟩)
      · have hs1 := hst1.size
        have hC3 := hC1.lo (hk3.lo hKB (by omega))
        have hIt3 : ItSt n0 W.heap.size S L' W3 := hIt1.same fun k hk hk' => hk3.same k hk' (by omega) (by omega) (by omega)
        have kn := hC3.cn.cell
        have kj := hC3.pol.c2 v hvn
        have hW3 := hIt3.set.lt
        obtain ⟨DJ, hownJ, hmemJ⟩ := hC3.pol.jun v hvn
        have hBJ := hC3.ltB 2 v (by omega) hvn
        have hst3 : St W.heap.size W3 (W3.alloc (.cells #[.map (some (B 2 v))] 29)) := St.alloc _ _ _ (by omega)
        have hIt4 : ItSt n0 W.heap.size S L' (W3.alloc (.cells #[.map (some (B 2 v))] 29)) := hIt3.same fun k hk hk' => Below.heap_alloc W3 _ k hk'
        have hbx4 := Boxed.new W3 29 (.map (some (B 2 v)))
        have hA := add_in (n0 := n0) hn0 (n - 1) (by omega) W.heap.size W3.heap.size (B 2 v) c DJ (fun x hx => by
          obtain ⟨q, hq⟩ := hJS v _ ((hmemJ _).1 hx)
          exact ⟨q, by simpa using hq⟩) S L' _ hbx4.lt hbx4.cell (hownJ.alloc _) (by omega) hIt4
        have HC3 : Hid (Cap W3 K n0 c Bf Bp Bn bm fm nf pb rb B FS PS JS) := hC3
        clear hC1 hJ1 hIt1 hst1 hcell hC3 hIt3 hIt4 hbx4 hownJ hk3
        gi_wp2_with fail
        refine ⟨trivial, (fun h => by cases h), (callsIn_wide.2 (juniorsOf_any (B 0 v) (B 2 v) W3 kj)).mono ?_⟩
        rintro e W4 ⟨rfl, rfl⟩
        gi_wp2_with fail
        refine ⟨trivial, (fun h => by cases h), (keys_in (n - 1) (some (B 2 v)) W4).mono ?_⟩
        rintro e W5 ⟨rfl, rfl⟩
        gi_wp2_with fail
        refine ⟨trivial, (fun h => by cases h), hA.mono ?_⟩
        clear hA
        rintro e W6 ⟨⟨y, rfl⟩, new, hI6, hnd, hold, hall, hst6⟩
        have hst36 := hst3.trans hst6
        have hC6 : Cap W6 K n0 c Bf Bp Bn bm fm nf pb rb B FS PS JS := HC3.out.lo (hst36.lo (by omega))
        have hJ6 := hJ _ _ _ hJ3 hst36
        have hvL : v ∉ L' := fun h => by
          have := hWk.nd
          rw [← List.append_assoc] at this
          exact (List.nodup_append.1 this).2.2 v (by simp [h]) v (by simp) rfl
        have hvV : v ∉ vis.map (·.1) := fun h => by
          have := hWk.nd
          rw [← List.append_assoc] at this
          exact (List.nodup_append.1 this).2.2 v (List.mem_append.2 (.inl h)) v (by simp) rfl
        have hW6 : Walk n0 (FrN n0 FS) (EdN n0 JS) (vis ++ [⟨v, hvn⟩]) (S ++ new) (L' ++ new) := by
          refine ⟨fun q => ?_, ?_, fun u hu q hq hE => ?_, fun q hq hF => List.mem_append.2 (.inl (hWk.fr q hq hF)), fun q hq => ?_⟩
          · have hm := hWk.mem q
            simp only [List.mem_append, List.mem_singleton, List.map_append, List.map_cons, List.map_nil] at hm ⊢
            constructor
            · rintro (h | h)
              · rcases hm.1 h with h | h | h
                · exact .inl (.inl h)
                · exact .inr (.inl h)
                · exact .inl (.inr h)
              · exact .inr (.inr h)
            · rintro ((h | h) | h | h)
              · exact .inl (hm.2 (.inl h))
              · exact .inl (hm.2 (.inr (.inr h)))
              · exact .inl (hm.2 (.inr (.inl h)))
              · exact .inr h
          · have h1 := hWk.nd
            rw [← List.append_assoc] at h1
            have h2 := List.nodup_append.1 h1
            have h3 := List.nodup_append.1 h2.1
            have hnew : ∀ a, a ∈ new → a ∉ vis.map (·.1) ∧ a ∉ L' ∧ a ≠ v := fun a ha => by
              have := (hold a ha).2
              have hm := hWk.mem a
              simp only [List.mem_append, List.mem_singleton] at hm
              exact ⟨fun h => this (hm.2 (.inl h)), fun h => this (hm.2 (.inr (.inl h))), fun h => this (hm.2 (.inr (.inr h)))⟩
            simp only [List.map_append, List.map_cons, List.map_nil]
            refine List.nodup_append.2 ⟨List.nodup_append.2 ⟨h3.1, by simp, fun a ha b hb e => ?_⟩, List.nodup_append.2 ⟨h3.2.1, hnd, fun a ha b hb e => ?_⟩, fun a ha b hb e => ?_⟩
            · rw [List.mem_singleton] at hb
              subst hb
              subst e
              exact hvV ha
            · subst e
              exact (hnew a hb).2.1 ha
            · subst e
              simp only [List.mem_append, List.mem_singleton] at ha hb
              rcases ha with ha | ha <;> rcases hb with hb | hb
              · exact h3.2.2 a ha a hb rfl
              · exact (hnew a hb).1 ha
              · subst ha
                exact hvL hb
              · exact (hnew a hb).2.2 ha
          · rcases List.mem_append.1 hu with hu | hu
            · exact List.mem_append.2 (.inl (hWk.cl u hu q hq hE))
            · rw [List.mem_singleton] at hu
              subst hu
              exact List.mem_append.2 (hall ⟨q, hq⟩ ((hmemJ _).2 hE.2))
          · rcases List.mem_append.1 hq with hq | hq
            · exact hWk.rc q hq
            · exact .step (hWk.rc v hvS) ⟨hI6.sl q (List.mem_append.2 (.inr hq)), (hmemJ _).1 (hold q hq).1⟩
        have hmeas : leftOf n0 W.heap.size W6 < n0 + (L' ++ [v]).length - S.length := by
          rw [leftOf_eq (by omega) hI6]
          have h1 := nodup_len n0 _ hI6.sn hI6.sl
          simp only [List.length_append, List.length_cons, List.length_nil] at h1 ⊢
          omega
        have hmeas2 := hmeas0
        clear hold hall hnd hst6 hst36 hst3 HC3 hJ3 hmemJ kn kj hvL hvV hWk
        gi_wp2
        go_roundw
        case rel => exact ⟨_, _, _, hI6, hW6, hC6, hJ6⟩
        case measure => rw [hmeas2]; exact hmeas
      · gi_wp2
        refine bodyPost_ret (results_none rfl _ _ _) rfl ?_
        refine ⟨⟨_, rfl⟩, .inr ⟨vis ++ [⟨v, hvn⟩], fun u hu => ?_, hJx3⟩⟩
        rcases List.mem_append.1 hu with hu | hu
        · exact hWk.rc u.1 ((hWk.mem u.1).2 (.inl (List.mem_map.2 ⟨u, hu, rfl⟩)))
        · rw [List.mem_singleton] at hu
          subst hu
          exact hWk.rc v hvS
end Go.Proofs.Qxb6609411a
