/-
  Seat b6613151a: the closure that GroupOrder hands to slices.SortFunc (16).
-/
import Derived.Test.Qxb6613151aCmp
import Derived.Deep.RegionHeld
import Derived.Deep.RegionHeld3
import Derived.Deep.RegionWith
import Derived.Sort.Grow
namespace Go.Proofs.Qxb6613151a
open Go.ChangeShapes Go.WideShapes Go.ChangeAt Go.RowKit Go.Sort
set_option linter.unusedVariables false

/-- 'wpAnyH_take' with the slot that is written named. -/
theorem takeD {P : Program} {md : Region.Mode} {ops : Array Oper} {Q : Exit → Act → World → Prop} {S : World → Prop} {fuel : Nat} {listed : Array Bool} {a : Act} {w : World} (i d : Nat) {v : Value}
    (hd : (ops[i]?).map (·.dst) = some (some d)) (hs : Region.noSelect ops = true) (hf : Region.free md ops listed i = true) (hr : (Region.ready md ops listed).contains i = true)
    (hQ : ∀ c a a' w, Q (.panic c) a w → Q (.panic c) a' w) (hy : ∀ oi, ops[i]? = some oi → YieldsIf P ops S oi v a) (hS : S w)
    (h : wpAnyH P md ops Q S fuel (listed.setIfInBounds i true) (a.put (some d) v) w) : wpAnyH P md ops Q S (fuel + 1) listed a w := by
  cases ho : ops[i]? with
  | none => rw [ho] at hd; cases hd
  | some oi =>
    rw [ho] at hd
    have he : oi.dst = some d := by simpa using hd
    exact wpAnyH_take ho hs hf hr (fun c a w h => hQ c _ _ w h) (hy oi ho) hS (by rw [he]; exact h)

/-- one operation alone may come up. -/
theorem oneD {P : Program} {md : Region.Mode} {ops : Array Oper} {Q : Exit → Act → World → Prop} {S : World → Prop} {fuel : Nat} {listed : Array Bool} {a : Act} {w : World} (i : Nat) (hlt : (ops[i]?).isSome = true) (hr : Region.ready md ops listed = [i])
    (h : ∀ o, ops[i]? = some o → ∀ K' : Act → World → Prop, Shut (∀ a w, S w → (S w → wpAnyH P md ops Q S fuel (listed.setIfInBounds i true) a w) → K' a w) → if Region.wanted o (yielded ops a.tmps) = true then Oper.wp P o a w K' Q else K' (a.put o.dst undef) w) :
    wpAnyH P md ops Q S (fuel + 1) listed a w := by
  obtain ⟨o, ho⟩ := Option.isSome_iff_exists.1 hlt
  exact wpAnyH_ready hr (by simp) (AllReadyH.cons ho (h o ho) AllReadyH.nil)

/-- what the closure reads. -/
structure CmpW (W : World) (s5 s7 s2 s3 bs bl pb rb gb : Nat) (D : PD) (lim : Nat → Int) : Prop where
  l5 : s5 < W.heap.size
  l7 : s7 < W.heap.size
  l2 : s2 < W.heap.size
  l3 : s3 < W.heap.size
  lbs : bs < W.heap.size
  lbl : bl < W.heap.size
  c5 : W.cell? ⟨s5, 0, none⟩ = some (.slice (some ⟨bs, 0, none⟩) D.nG D.nG)
  c7 : W.cell? ⟨s7, 0, none⟩ = some (.slice (some ⟨bl, 0, none⟩) D.nG D.nG)
  c2 : W.cell? ⟨s2, 0, none⟩ = some (.pointer (some ⟨pb, 0, none⟩))
  c3 : W.cell? ⟨s3, 0, none⟩ = some (.func (.func 10) #[] #[])
  sz : ∀ g, g < D.nG → W.cell? ⟨bs, g, none⟩ = some (.int .u64 (sizesOf D g))
  lm : ∀ g, g < D.nG → W.cell? ⟨bl, g, none⟩ = some (.int .i64 (lim g))
  pr : IsProb W pb rb gb D

/-- by size: larger first; where only limited rows can hold both, smaller first. -/
def bySz (D : PD) (lim : Nat → Int) (a b : Nat) : Int :=
  if lim a = 0 ∧ lim b = 0 then -(cmpF (sizesOf D b) (sizesOf D a)) else cmpF (sizesOf D b) (sizesOf D a)

def cfF (D : PD) (lim : Nat → Int) (a b : Nat) : Int :=
  orF (cmpF (lim a) (lim b)) (orF (bySz D lim a b) (orF (-(cmpL (tl (D.Q a) 0 (D.nQ a)) (tl (D.Q b) 0 (D.nQ b)))) (cmpF a b)))

theorem cmpF_in (x y : Int) : cmpF x y = -1 ∨ cmpF x y = 0 ∨ cmpF x y = 1 := by
  unfold cmpF
  split
  · exact .inl rfl
  · split
    · exact .inr (.inr rfl)
    · exact .inr (.inl rfl)
theorem cmpL_in : ∀ (x y : List Int), cmpL x y = -1 ∨ cmpL x y = 0 ∨ cmpL x y = 1
  | [], [] => .inr (.inl rfl)
  | [], _ :: _ => .inl rfl
  | _ :: _, [] => .inr (.inr rfl)
  | x :: xs, y :: ys => by
    rw [cmpL, orF]
    split
    · exact cmpL_in xs ys
    · exact cmpF_in x y

theorem or4_new (V : World) (x0 x1 x2 x3 : Int) :
    Calls Try.prog 18 #[.slice (some ⟨V.heap.size, 0, none⟩) 4 4] (V.alloc (.cells #[.int .i64 x0, .int .i64 x1, .int .i64 x2, .int .i64 x3] 3)).drew fun e w' => e = .returned (.int .i64 (orF x0 (orF x1 (orF x2 x3)))) ∧ w' = (V.alloc (.cells #[.int .i64 x0, .int .i64 x1, .int .i64 x2, .int .i64 x3] 3)).drew := by
  have hb : (V.alloc (.cells #[.int .i64 x0, .int .i64 x1, .int .i64 x2, .int .i64 x3] 3)).drew.heap[V.heap.size]? = some (.cells #[.int .i64 x0, .int .i64 x1, .int .i64 x2, .int .i64 x3] 3 (0, 0)) := heap_alloc_new V _
  exact or4 V.heap.size x0 x1 x2 x3 _ (cell_of_row _ _ 0 _ 3 (0, 0) hb) (cell_of_row _ _ 1 _ 3 (0, 0) hb) (cell_of_row _ _ 2 _ 3 (0, 0) hb) (cell_of_row _ _ 3 _ 3 (0, 0) hb)

theorem wrapN {k : Int} (h : k = -1 ∨ k = 0 ∨ k = 1) : IntKind.i64.wrap (-k) = -k := by
  rcases h with rfl | rfl | rfl <;> decide

theorem wrapM {k : Int} (h : k = -1 ∨ k = 0 ∨ k = 1) : wrap64 (-k) = -k := IntWalk.wrap64_in _ (by omega)

theorem grown_of {W V : World} {nq : Nat} (h : W.drewN nq = V) (o : Obj) : (V.alloc o).drew = grow (W.drewN (nq + 1)) #[o] := by
  subst h
  rw [alloc_eq_grow]
  rfl

set_option maxHeartbeats 2000000 in
set_option maxRecDepth 100000 in
theorem closure_any (W : World) (s5 s7 s2 s3 bs bl pb rb gb : Nat) (D : PD) (lim : Nat → Int) (hW : CmpW W s5 s7 s2 s3 bs bl pb rb gb D lim) (hd : Dom D) (a b : Nat) (ha : a < D.nG) (hb : b < D.nG) :
    Calls Try.prog 16 #[.int .i64 a, .int .i64 b, .pointer (some ⟨s5, 0, none⟩), .pointer (some ⟨s7, 0, none⟩), .pointer (some ⟨s2, 0, none⟩), .pointer (some ⟨s3, 0, none⟩)] W fun e w' => e = .returned (.int .i64 (cfF D lim a b)) ∧ ∃ q os, w' = grow (W.drewN q) os := by
  have c5 := hW.c5
  have c7 := hW.c7
  have c2 := hW.c2
  have c3 := hW.c3
  have za := hW.sz a ha
  have zb := hW.sz b hb
  have la := hW.lm a ha
  have lb := hW.lm b hb
  have hp1 := hW.pr.2.2.1
  obtain ⟨qa, _, _, ga, _, _, _, qqa, _, _⟩ := hW.pr.2.2.2.2.2 a ha
  obtain ⟨qb, _, _, gb', _, _, _, qqb, _, _⟩ := hW.pr.2.2.2.2.2 b hb
  have hgrps := hd.grps
  have hna : D.nQ a ≤ 1048576 := by have := hd.asks a ha; have := hd.capn 0 hd.pos; omega
  have hnb : D.nQ b ≤ 1048576 := by have := hd.asks b hb; have := hd.capn 0 hd.pos; omega
  have iaI : (a : Int) < D.nG := by omega
  have ibI : (b : Int) < D.nG := by omega
  have ia0 : (0 : Int) ≤ a := by omega
  have ib0 : (0 : Int) ≤ b := by omega
  have l7 := hW.l7
  have l2 := hW.l2
  have l3 := hW.l3
  have lbl := hW.lbl
  have lpb := hW.pr.1
  have lgb := hW.pr.2.2.2.2.1
  clear hW
  have hcu := fun w => cmpU64 (sizesOf D b) (sizesOf D a) w
  have hci := fun w => cmpInt (lim a) (lim b) w
  have hct := fun w => cmpInt a b w
  have hcs := fun w h1 h2 => compare_any qa qb (D.nQ a) (D.nQ b) (D.nQ a) (D.nQ b) (D.Q a) (D.Q b) w h1 h2 hna hnb
  have hin := cmpF_in (sizesOf D b) (sizesOf D a)
  have hli := cmpL_in (tl (D.Q a) 0 (D.nQ a)) (tl (D.Q b) 0 (D.nQ b))
  unfold cfF
  have hbz : Hid (bySz D lim a b = if lim a = 0 ∧ lim b = 0 then -(cmpF (sizesOf D b) (sizesOf D a)) else cmpF (sizesOf D b) (sizesOf D a)) := rfl
  generalize bySz D lim a b = kz at hbz
  generalize cmpF (sizesOf D b) (sizesOf D a) = k1 at hcu hin hbz
  generalize cmpF (lim a) (lim b) = k0 at hci
  generalize cmpF (a : Int) (b : Int) = k3 at hct
  generalize cmpL (tl (D.Q a) 0 (D.nQ a)) (tl (D.Q b) 0 (D.nQ b)) = k2 at hcs hli
  go_enter Try.func16, Try.ntmps16
  go_wp2
  go_quiet ((go_at_call 17; refine Calls.quiet_of_same (hcu _)))
  have HQA : Hid (IsA encI (W.drewN nq) qa (D.nQ a) (D.Q a)) := qqa.drewN nq
  have HQB : Hid (IsA encI (W.drewN nq) qb (D.nQ b) (D.Q b)) := qqb.drewN nq
  clear qqa qqb hcu za zb c5
  generalize hV : W.drewN nq = V at *
  have hcell : ∀ p, W.cell? p = V.cell? p := fun p => by rw [← hV]; rfl
  have hvs : W.heap.size = V.heap.size := by rw [← hV]; rfl
  rw [hvs] at l7 l2 l3 lbl lpb lgb
  rw [hcell] at c7 la lb c2 c3 hp1 ga gb'
  clear hcell hvs
  have HV : Hid (W.drewN nq = V) := hV
  clear hV
  cases e1 : (lim a == 0) with
  | false =>
    have e1' : ¬ lim a = 0 := by simpa using e1
    have hz : Hid (kz = k1) := hbz.out.trans <| if_neg (fun h => e1' h.1)
    clear e1'
    go_wp2_with fail
    refine wp_region_noPanic ?_
    refine wp_region_held_drew (S := fun w' => w'.cell? ⟨s7, 0, none⟩ = some (.slice (some ⟨bl, 0, none⟩) D.nG D.nG) ∧ w'.cell? ⟨bl, a, none⟩ = some (.int .i64 (lim a)) ∧ w'.cell? ⟨bl, b, none⟩ = some (.int .i64 (lim b)) ∧ w'.cell? ⟨s2, 0, none⟩ = some (.pointer (some ⟨pb, 0, none⟩)) ∧ w'.cell? ⟨pb, 1, none⟩ = some (.slice (some ⟨gb, 0, none⟩) D.nG D.nG) ∧ w'.cell? ⟨gb, a * 4, none⟩ = some (.slice qa (D.nQ a) (D.nQ a)) ∧ w'.cell? ⟨gb, b * 4, none⟩ = some (.slice qb (D.nQ b) (D.nQ b)) ∧ w'.cell? ⟨s3, 0, none⟩ = some (.func (.func 10) #[] #[])) (by kernel_rfl) ⟨c7, la, lb, c2, hp1, ga, gb', c3⟩ (fun hHeld => ?_)
    refine takeD 0 33 (v := ?v0) (by kernel_rfl) (by kernel_rfl) (by kernel_rfl) (by kernel_rfl) (fun _ _ _ _ h => h) ?h0 hHeld ?_
    case h0 => (intro oi ho; simp only [List.getElem?_toArray, List.getElem?_cons_zero, Option.some.injEq] at ho; subst ho; refine Or.inl ⟨by rfl, ?_⟩; intro w1 hSw; (try dsimp only at hSw); go_simp <;> with_reducible rfl)
    simp only [Act.put, List.setIfInBounds_toArray, List.set_cons_zero, List.set_cons_succ]
    refine takeD 1 34 (v := ?v1) (by kernel_rfl) (by kernel_rfl) (by kernel_rfl) (by kernel_rfl) (fun _ _ _ _ h => h) ?h1 hHeld ?_
    case h1 => (intro oi ho; simp only [List.getElem?_toArray, List.getElem?_cons_succ, List.getElem?_cons_zero, Option.some.injEq] at ho; subst ho; refine Or.inl ⟨by rfl, ?_⟩; intro w1 hSw; (try dsimp only at hSw); go_simp <;> with_reducible rfl)
    simp only [Act.put, List.setIfInBounds_toArray, List.set_cons_zero, List.set_cons_succ]
    refine takeD 2 35 (v := ?v2) (by kernel_rfl) (by kernel_rfl) (by kernel_rfl) (by kernel_rfl) (fun _ _ _ _ h => h) ?h2 hHeld ?_
    case h2 => (intro oi ho; simp only [List.getElem?_toArray, List.getElem?_cons_succ, List.getElem?_cons_zero, Option.some.injEq] at ho; subst ho; refine Or.inl ⟨by rfl, ?_⟩; intro w1 hSw; (try dsimp only at hSw); go_simp <;> with_reducible rfl)
    simp only [Act.put, List.setIfInBounds_toArray, List.set_cons_zero, List.set_cons_succ]
    refine takeD 3 36 (v := ?v3) (by kernel_rfl) (by kernel_rfl) (by kernel_rfl) (by kernel_rfl) (fun _ _ _ _ h => h) ?h3 hHeld ?_
    case h3 => (intro oi ho; simp only [List.getElem?_toArray, List.getElem?_cons_succ, List.getElem?_cons_zero, Option.some.injEq] at ho; subst ho; refine Or.inl ⟨by rfl, ?_⟩; intro w1 hSw; (try dsimp only at hSw); go_simp <;> with_reducible rfl)
    simp only [Act.put, List.setIfInBounds_toArray, List.set_cons_zero, List.set_cons_succ]
    refine takeD 4 37 (v := ?v4) (by kernel_rfl) (by kernel_rfl) (by kernel_rfl) (by kernel_rfl) (fun _ _ _ _ h => h) ?h4 hHeld ?_
    case h4 => (intro oi ho; simp only [List.getElem?_toArray, List.getElem?_cons_succ, List.getElem?_cons_zero, Option.some.injEq] at ho; subst ho; refine Or.inl ⟨by rfl, ?_⟩; intro w1 hSw; (try dsimp only at hSw); go_simp <;> with_reducible rfl)
    simp only [Act.put, List.setIfInBounds_toArray, List.set_cons_zero, List.set_cons_succ]
    refine takeD 5 38 (v := ?v5) (by kernel_rfl) (by kernel_rfl) (by kernel_rfl) (by kernel_rfl) (fun _ _ _ _ h => h) ?h5 hHeld ?_
    case h5 => (intro oi ho; simp only [List.getElem?_toArray, List.getElem?_cons_succ, List.getElem?_cons_zero, Option.some.injEq] at ho; subst ho; refine Or.inl ⟨by rfl, ?_⟩; intro w1 hSw; (try dsimp only at hSw); go_simp <;> with_reducible rfl)
    simp only [Act.put, List.setIfInBounds_toArray, List.set_cons_zero, List.set_cons_succ]
    refine takeD 6 39 (v := ?v6) (by kernel_rfl) (by kernel_rfl) (by kernel_rfl) (by kernel_rfl) (fun _ _ _ _ h => h) ?h6 hHeld ?_
    case h6 => (intro oi ho; simp only [List.getElem?_toArray, List.getElem?_cons_succ, List.getElem?_cons_zero, Option.some.injEq] at ho; subst ho; refine Or.inl ⟨by rfl, ?_⟩; intro w1 hSw; (try dsimp only at hSw); go_simp <;> with_reducible rfl)
    simp only [Act.put, List.setIfInBounds_toArray, List.set_cons_zero, List.set_cons_succ]
    refine takeD 7 40 (v := ?v7) (by kernel_rfl) (by kernel_rfl) (by kernel_rfl) (by kernel_rfl) (fun _ _ _ _ h => h) ?h7 hHeld ?_
    case h7 => (intro oi ho; simp only [List.getElem?_toArray, List.getElem?_cons_succ, List.getElem?_cons_zero, Option.some.injEq] at ho; subst ho; refine Or.inl ⟨by rfl, ?_⟩; intro w1 hSw; (try dsimp only at hSw); go_simp <;> with_reducible rfl)
    simp only [Act.put, List.setIfInBounds_toArray, List.set_cons_zero, List.set_cons_succ]
    refine takeD 9 42 (v := ?v9) (by kernel_rfl) (by kernel_rfl) (by kernel_rfl) (by kernel_rfl) (fun _ _ _ _ h => h) ?h9 hHeld ?_
    case h9 => (intro oi ho; simp only [List.getElem?_toArray, List.getElem?_cons_succ, List.getElem?_cons_zero, Option.some.injEq] at ho; subst ho; refine Or.inl ⟨by rfl, ?_⟩; intro w1 hSw; (try dsimp only at hSw); go_simp <;> with_reducible rfl)
    simp only [Act.put, List.setIfInBounds_toArray, List.set_cons_zero, List.set_cons_succ]
    refine takeD 10 43 (v := ?v10) (by kernel_rfl) (by kernel_rfl) (by kernel_rfl) (by kernel_rfl) (fun _ _ _ _ h => h) ?h10 hHeld ?_
    case h10 => (intro oi ho; simp only [List.getElem?_toArray, List.getElem?_cons_succ, List.getElem?_cons_zero, Option.some.injEq] at ho; subst ho; refine Or.inl ⟨by rfl, ?_⟩; intro w1 hSw; (try dsimp only at hSw); go_simp <;> with_reducible rfl)
    simp only [Act.put, List.setIfInBounds_toArray, List.set_cons_zero, List.set_cons_succ]
    refine takeD 11 44 (v := ?v11) (by kernel_rfl) (by kernel_rfl) (by kernel_rfl) (by kernel_rfl) (fun _ _ _ _ h => h) ?h11 hHeld ?_
    case h11 => (intro oi ho; simp only [List.getElem?_toArray, List.getElem?_cons_succ, List.getElem?_cons_zero, Option.some.injEq] at ho; subst ho; refine Or.inl ⟨by rfl, ?_⟩; intro w1 hSw; (try dsimp only at hSw); go_simp <;> with_reducible rfl)
    simp only [Act.put, List.setIfInBounds_toArray, List.set_cons_zero, List.set_cons_succ]
    refine takeD 12 45 (v := ?v12) (by kernel_rfl) (by kernel_rfl) (by kernel_rfl) (by kernel_rfl) (fun _ _ _ _ h => h) ?h12 hHeld ?_
    case h12 => (intro oi ho; simp only [List.getElem?_toArray, List.getElem?_cons_succ, List.getElem?_cons_zero, Option.some.injEq] at ho; subst ho; refine Or.inl ⟨by rfl, ?_⟩; intro w1 hSw; (try dsimp only at hSw); go_simp <;> with_reducible rfl)
    simp only [Act.put, List.setIfInBounds_toArray, List.set_cons_zero, List.set_cons_succ]
    refine takeD 13 46 (v := ?v13) (by kernel_rfl) (by kernel_rfl) (by kernel_rfl) (by kernel_rfl) (fun _ _ _ _ h => h) ?h13 hHeld ?_
    case h13 => (intro oi ho; simp only [List.getElem?_toArray, List.getElem?_cons_succ, List.getElem?_cons_zero, Option.some.injEq] at ho; subst ho; refine Or.inl ⟨by rfl, ?_⟩; intro w1 hSw; (try dsimp only at hSw); go_simp <;> with_reducible rfl)
    simp only [Act.put, List.setIfInBounds_toArray, List.set_cons_zero, List.set_cons_succ]
    refine takeD 14 47 (v := ?v14) (by kernel_rfl) (by kernel_rfl) (by kernel_rfl) (by kernel_rfl) (fun _ _ _ _ h => h) ?h14 hHeld ?_
    case h14 => (intro oi ho; simp only [List.getElem?_toArray, List.getElem?_cons_succ, List.getElem?_cons_zero, Option.some.injEq] at ho; subst ho; refine Or.inl ⟨by rfl, ?_⟩; intro w1 hSw; (try dsimp only at hSw); go_simp <;> with_reducible rfl)
    simp only [Act.put, List.setIfInBounds_toArray, List.set_cons_zero, List.set_cons_succ]
    refine takeD 15 48 (v := ?v15) (by kernel_rfl) (by kernel_rfl) (by kernel_rfl) (by kernel_rfl) (fun _ _ _ _ h => h) ?h15 hHeld ?_
    case h15 => (intro oi ho; simp only [List.getElem?_toArray, List.getElem?_cons_succ, List.getElem?_cons_zero, Option.some.injEq] at ho; subst ho; refine Or.inl ⟨by rfl, ?_⟩; intro w1 hSw; (try dsimp only at hSw); go_simp <;> with_reducible rfl)
    simp only [Act.put, List.setIfInBounds_toArray, List.set_cons_zero, List.set_cons_succ]
    refine takeD 16 49 (v := ?v16) (by kernel_rfl) (by kernel_rfl) (by kernel_rfl) (by kernel_rfl) (fun _ _ _ _ h => h) ?h16 hHeld ?_
    case h16 => (intro oi ho; simp only [List.getElem?_toArray, List.getElem?_cons_succ, List.getElem?_cons_zero, Option.some.injEq] at ho; subst ho; refine Or.inl ⟨by rfl, ?_⟩; intro w1 hSw; (try dsimp only at hSw); go_simp <;> with_reducible rfl)
    simp only [Act.put, List.setIfInBounds_toArray, List.set_cons_zero, List.set_cons_succ]
    refine takeD 17 50 (v := ?v17) (by kernel_rfl) (by kernel_rfl) (by kernel_rfl) (by kernel_rfl) (fun _ _ _ _ h => h) ?h17 hHeld ?_
    case h17 => (intro oi ho; simp only [List.getElem?_toArray, List.getElem?_cons_succ, List.getElem?_cons_zero, Option.some.injEq] at ho; subst ho; refine Or.inl ⟨by rfl, ?_⟩; intro w1 hSw; (try dsimp only at hSw); go_simp <;> with_reducible rfl)
    simp only [Act.put, List.setIfInBounds_toArray, List.set_cons_zero, List.set_cons_succ]
    refine takeD 18 51 (v := ?v18) (by kernel_rfl) (by kernel_rfl) (by kernel_rfl) (by kernel_rfl) (fun _ _ _ _ h => h) ?h18 hHeld ?_
    case h18 => (intro oi ho; simp only [List.getElem?_toArray, List.getElem?_cons_succ, List.getElem?_cons_zero, Option.some.injEq] at ho; subst ho; refine Or.inl ⟨by rfl, ?_⟩; intro w1 hSw; (try dsimp only at hSw); go_simp <;> with_reducible rfl)
    simp only [Act.put, List.setIfInBounds_toArray, List.set_cons_zero, List.set_cons_succ]
    refine takeD 19 52 (v := ?v19) (by kernel_rfl) (by kernel_rfl) (by kernel_rfl) (by kernel_rfl) (fun _ _ _ _ h => h) ?h19 hHeld ?_
    case h19 => (intro oi ho; simp only [List.getElem?_toArray, List.getElem?_cons_succ, List.getElem?_cons_zero, Option.some.injEq] at ho; subst ho; refine Or.inl ⟨by rfl, ?_⟩; intro w1 hSw; (try dsimp only at hSw); go_simp <;> with_reducible rfl)
    simp only [Act.put, List.setIfInBounds_toArray, List.set_cons_zero, List.set_cons_succ]
    refine takeD 20 53 (v := ?v20) (by kernel_rfl) (by kernel_rfl) (by kernel_rfl) (by kernel_rfl) (fun _ _ _ _ h => h) ?h20 hHeld ?_
    case h20 => (intro oi ho; simp only [List.getElem?_toArray, List.getElem?_cons_succ, List.getElem?_cons_zero, Option.some.injEq] at ho; subst ho; refine Or.inl ⟨by rfl, ?_⟩; intro w1 hSw; (try dsimp only at hSw); go_simp <;> with_reducible rfl)
    simp only [Act.put, List.setIfInBounds_toArray, List.set_cons_zero, List.set_cons_succ]
    refine takeD 21 54 (v := ?v21) (by kernel_rfl) (by kernel_rfl) (by kernel_rfl) (by kernel_rfl) (fun _ _ _ _ h => h) ?h21 hHeld ?_
    case h21 => (intro oi ho; simp only [List.getElem?_toArray, List.getElem?_cons_succ, List.getElem?_cons_zero, Option.some.injEq] at ho; subst ho; refine Or.inl ⟨by rfl, ?_⟩; intro w1 hSw; (try dsimp only at hSw); go_simp <;> with_reducible rfl)
    simp only [Act.put, List.setIfInBounds_toArray, List.set_cons_zero, List.set_cons_succ]
    refine takeD 22 55 (v := ?v22) (by kernel_rfl) (by kernel_rfl) (by kernel_rfl) (by kernel_rfl) (fun _ _ _ _ h => h) ?h22 hHeld ?_
    case h22 => (intro oi ho; simp only [List.getElem?_toArray, List.getElem?_cons_succ, List.getElem?_cons_zero, Option.some.injEq] at ho; subst ho; refine Or.inl ⟨by rfl, ?_⟩; intro w1 hSw; (try dsimp only at hSw); go_simp <;> with_reducible rfl)
    simp only [Act.put, List.setIfInBounds_toArray, List.set_cons_zero, List.set_cons_succ]
    refine takeD 23 56 (v := ?v23) (by kernel_rfl) (by kernel_rfl) (by kernel_rfl) (by kernel_rfl) (fun _ _ _ _ h => h) ?h23 hHeld ?_
    case h23 => (intro oi ho; simp only [List.getElem?_toArray, List.getElem?_cons_succ, List.getElem?_cons_zero, Option.some.injEq] at ho; subst ho; refine Or.inl ⟨by rfl, ?_⟩; intro w1 hSw; (try dsimp only at hSw); go_simp <;> with_reducible rfl)
    simp only [Act.put, List.setIfInBounds_toArray, List.set_cons_zero, List.set_cons_succ]
    refine takeD 24 57 (v := ?v24) (by kernel_rfl) (by kernel_rfl) (by kernel_rfl) (by kernel_rfl) (fun _ _ _ _ h => h) ?h24 hHeld ?_
    case h24 => (intro oi ho; simp only [List.getElem?_toArray, List.getElem?_cons_succ, List.getElem?_cons_zero, Option.some.injEq] at ho; subst ho; refine Or.inl ⟨by rfl, ?_⟩; intro w1 hSw; (try dsimp only at hSw); go_simp <;> with_reducible rfl)
    simp only [Act.put, List.setIfInBounds_toArray, List.set_cons_zero, List.set_cons_succ]
    refine takeD 25 58 (v := ?v25) (by kernel_rfl) (by kernel_rfl) (by kernel_rfl) (by kernel_rfl) (fun _ _ _ _ h => h) ?h25 hHeld ?_
    case h25 => (intro oi ho; simp only [List.getElem?_toArray, List.getElem?_cons_succ, List.getElem?_cons_zero, Option.some.injEq] at ho; subst ho; refine Or.inl ⟨by rfl, ?_⟩; intro w1 hSw; (try dsimp only at hSw); go_simp <;> with_reducible rfl)
    simp only [Act.put, List.setIfInBounds_toArray, List.set_cons_zero, List.set_cons_succ]
    refine takeD 28 61 (v := ?v28) (by kernel_rfl) (by kernel_rfl) (by kernel_rfl) (by kernel_rfl) (fun _ _ _ _ h => h) ?h28 hHeld ?_
    case h28 => (intro oi ho; simp only [List.getElem?_toArray, List.getElem?_cons_succ, List.getElem?_cons_zero, Option.some.injEq] at ho; subst ho; refine Or.inl ⟨by rfl, ?_⟩; intro w1 hSw; (try dsimp only at hSw); go_simp <;> with_reducible rfl)
    simp only [Act.put, List.setIfInBounds_toArray, List.set_cons_zero, List.set_cons_succ]
    refine takeD 29 62 (v := ?v29) (by kernel_rfl) (by kernel_rfl) (by kernel_rfl) (by kernel_rfl) (fun _ _ _ _ h => h) ?h29 hHeld ?_
    case h29 => (intro oi ho; simp only [List.getElem?_toArray, List.getElem?_cons_succ, List.getElem?_cons_zero, Option.some.injEq] at ho; subst ho; refine Or.inl ⟨by rfl, ?_⟩; intro w1 hSw; (try dsimp only at hSw); go_simp <;> with_reducible rfl)
    simp only [Act.put, List.setIfInBounds_toArray, List.set_cons_zero, List.set_cons_succ]
    refine takeD 30 63 (v := ?v30) (by kernel_rfl) (by kernel_rfl) (by kernel_rfl) (by kernel_rfl) (fun _ _ _ _ h => h) ?h30 hHeld ?_
    case h30 => (intro oi ho; simp only [List.getElem?_toArray, List.getElem?_cons_succ, List.getElem?_cons_zero, Option.some.injEq] at ho; subst ho; refine Or.inl ⟨by rfl, ?_⟩; intro w1 hSw; (try dsimp only at hSw); go_simp <;> with_reducible rfl)
    simp only [Act.put, List.setIfInBounds_toArray, List.set_cons_zero, List.set_cons_succ]
    refine oneD 8 (by kernel_rfl) (by kernel_rfl) ?_
    intro oi ho
    simp only [List.getElem?_toArray, List.getElem?_cons_succ, List.getElem?_cons_zero, Option.some.injEq] at ho; subst ho
    intro K' hK
    rw [if_pos (by rfl)]
    go_simp
    refine (hci _).mono ?_
    rintro e w1 ⟨rfl, rfl⟩
    refine hK.out _ _ hHeld (fun hHeld => ?_)
    clear hK K'
    refine oneD 26 (by kernel_rfl) (by kernel_rfl) ?_
    intro oi ho
    simp only [List.getElem?_toArray, List.getElem?_cons_succ, List.getElem?_cons_zero, Option.some.injEq] at ho; subst ho
    intro K' hK
    rw [if_pos (by rfl)]
    go_simp
    refine (hcs _ ?_ ?_).mono ?_
    · exact HQA.out.drewN 1
    · exact HQB.out.drewN 1
    rintro e w1 ⟨rfl, rfl⟩
    refine hK.out _ _ hHeld (fun hHeld => ?_)
    clear hK K'
    refine takeD 27 60 (v := ?v27) (by kernel_rfl) (by kernel_rfl) (by kernel_rfl) (by kernel_rfl) (fun _ _ _ _ h => h) ?h27 hHeld ?_
    case h27 => (intro oi ho; simp only [List.getElem?_toArray, List.getElem?_cons_succ, List.getElem?_cons_zero, Option.some.injEq] at ho; subst ho; refine Or.inl ⟨by rfl, ?_⟩; intro w1 hSw; (try dsimp only at hSw); go_simp <;> with_reducible rfl)
    simp only [Act.put, List.setIfInBounds_toArray, List.set_cons_zero, List.set_cons_succ]
    refine oneD 31 (by kernel_rfl) (by kernel_rfl) ?_
    intro oi ho
    simp only [List.getElem?_toArray, List.getElem?_cons_succ, List.getElem?_cons_zero, Option.some.injEq] at ho; subst ho
    intro K' hK
    rw [if_pos (by rfl)]
    go_simp
    refine (hct _).mono ?_
    rintro e w1 ⟨rfl, rfl⟩
    refine hK.out _ _ hHeld (fun hHeld => ?_)
    clear hK K'
    refine oneD 32 (by kernel_rfl) (by kernel_rfl) ?_
    intro oi ho
    simp only [List.getElem?_toArray, List.getElem?_cons_succ, List.getElem?_cons_zero, Option.some.injEq] at ho; subst ho
    intro K' hK
    rw [if_pos (by rfl)]
    go_simp
    refine hK.out _ _ ⟨(World.cell?_alloc_lt V _ _ l7).trans c7, (World.cell?_alloc_lt V _ _ lbl).trans la, (World.cell?_alloc_lt V _ _ lbl).trans lb, (World.cell?_alloc_lt V _ _ l2).trans c2, (World.cell?_alloc_lt V _ _ lpb).trans hp1, (World.cell?_alloc_lt V _ _ lgb).trans ga, (World.cell?_alloc_lt V _ _ lgb).trans gb', (World.cell?_alloc_lt V _ _ l3).trans c3⟩ (fun hHeld => ?_)
    clear hK K'
    refine oneD 33 (by kernel_rfl) (by kernel_rfl) ?_
    intro oi ho
    simp only [List.getElem?_toArray, List.getElem?_cons_succ, List.getElem?_cons_zero, Option.some.injEq] at ho; subst ho
    intro K' hK
    rw [if_pos (by rfl)]
    go_simp
    refine (or4_new _ _ _ _ _).mono ?_
    rintro e w1 ⟨rfl, rfl⟩
    refine hK.out _ _ hHeld (fun hHeld => ?_)
    clear hK K'
    refine takeD 34 8 (v := ?v34) (by kernel_rfl) (by kernel_rfl) (by kernel_rfl) (by kernel_rfl) (fun _ _ _ _ h => h) ?h34 hHeld ?_
    case h34 => (intro oi ho; simp only [List.getElem?_toArray, List.getElem?_cons_succ, List.getElem?_cons_zero, Option.some.injEq] at ho; subst ho; refine Or.inl ⟨by rfl, ?_⟩; intro w1 hSw; (try dsimp only at hSw); go_simp <;> with_reducible rfl)
    simp only [Act.put, List.setIfInBounds_toArray, List.set_cons_zero, List.set_cons_succ]
    refine wpAnyH_done (by kernel_rfl) ?_ _
    refine NoPanic.normal ?_
    clear hHeld c7 la lb c2 c3 hp1 ga gb' hci hct hcs
    go_wp2
    go_ret
    refine ⟨?_, _, _, grown_of HV.out _⟩
    rw [hz.out, wrapN hli]
    rfl
  | true =>
    cases e2 : (lim b == 0) with
    | false =>
      have e2' : ¬ lim b = 0 := by simpa using e2
      have hz : Hid (kz = k1) := hbz.out.trans <| if_neg (fun h => e2' h.2)
      clear e2'
      go_wp2_with fail
      refine wp_region_noPanic ?_
      refine wp_region_held_drew (S := fun w' => w'.cell? ⟨s7, 0, none⟩ = some (.slice (some ⟨bl, 0, none⟩) D.nG D.nG) ∧ w'.cell? ⟨bl, a, none⟩ = some (.int .i64 (lim a)) ∧ w'.cell? ⟨bl, b, none⟩ = some (.int .i64 (lim b)) ∧ w'.cell? ⟨s2, 0, none⟩ = some (.pointer (some ⟨pb, 0, none⟩)) ∧ w'.cell? ⟨pb, 1, none⟩ = some (.slice (some ⟨gb, 0, none⟩) D.nG D.nG) ∧ w'.cell? ⟨gb, a * 4, none⟩ = some (.slice qa (D.nQ a) (D.nQ a)) ∧ w'.cell? ⟨gb, b * 4, none⟩ = some (.slice qb (D.nQ b) (D.nQ b)) ∧ w'.cell? ⟨s3, 0, none⟩ = some (.func (.func 10) #[] #[])) (by kernel_rfl) ⟨c7, la, lb, c2, hp1, ga, gb', c3⟩ (fun hHeld => ?_)
      refine takeD 0 33 (v := ?p0) (by kernel_rfl) (by kernel_rfl) (by kernel_rfl) (by kernel_rfl) (fun _ _ _ _ h => h) ?q0 hHeld ?_
      case q0 => (intro oi ho; simp only [List.getElem?_toArray, List.getElem?_cons_zero, Option.some.injEq] at ho; subst ho; refine Or.inl ⟨by rfl, ?_⟩; intro w1 hSw; (try dsimp only at hSw); go_simp <;> with_reducible rfl)
      simp only [Act.put, List.setIfInBounds_toArray, List.set_cons_zero, List.set_cons_succ]
      refine takeD 1 34 (v := ?p1) (by kernel_rfl) (by kernel_rfl) (by kernel_rfl) (by kernel_rfl) (fun _ _ _ _ h => h) ?q1 hHeld ?_
      case q1 => (intro oi ho; simp only [List.getElem?_toArray, List.getElem?_cons_succ, List.getElem?_cons_zero, Option.some.injEq] at ho; subst ho; refine Or.inl ⟨by rfl, ?_⟩; intro w1 hSw; (try dsimp only at hSw); go_simp <;> with_reducible rfl)
      simp only [Act.put, List.setIfInBounds_toArray, List.set_cons_zero, List.set_cons_succ]
      refine takeD 2 35 (v := ?p2) (by kernel_rfl) (by kernel_rfl) (by kernel_rfl) (by kernel_rfl) (fun _ _ _ _ h => h) ?q2 hHeld ?_
      case q2 => (intro oi ho; simp only [List.getElem?_toArray, List.getElem?_cons_succ, List.getElem?_cons_zero, Option.some.injEq] at ho; subst ho; refine Or.inl ⟨by rfl, ?_⟩; intro w1 hSw; (try dsimp only at hSw); go_simp <;> with_reducible rfl)
      simp only [Act.put, List.setIfInBounds_toArray, List.set_cons_zero, List.set_cons_succ]
      refine takeD 3 36 (v := ?p3) (by kernel_rfl) (by kernel_rfl) (by kernel_rfl) (by kernel_rfl) (fun _ _ _ _ h => h) ?q3 hHeld ?_
      case q3 => (intro oi ho; simp only [List.getElem?_toArray, List.getElem?_cons_succ, List.getElem?_cons_zero, Option.some.injEq] at ho; subst ho; refine Or.inl ⟨by rfl, ?_⟩; intro w1 hSw; (try dsimp only at hSw); go_simp <;> with_reducible rfl)
      simp only [Act.put, List.setIfInBounds_toArray, List.set_cons_zero, List.set_cons_succ]
      refine takeD 4 37 (v := ?p4) (by kernel_rfl) (by kernel_rfl) (by kernel_rfl) (by kernel_rfl) (fun _ _ _ _ h => h) ?q4 hHeld ?_
      case q4 => (intro oi ho; simp only [List.getElem?_toArray, List.getElem?_cons_succ, List.getElem?_cons_zero, Option.some.injEq] at ho; subst ho; refine Or.inl ⟨by rfl, ?_⟩; intro w1 hSw; (try dsimp only at hSw); go_simp <;> with_reducible rfl)
      simp only [Act.put, List.setIfInBounds_toArray, List.set_cons_zero, List.set_cons_succ]
      refine takeD 5 38 (v := ?p5) (by kernel_rfl) (by kernel_rfl) (by kernel_rfl) (by kernel_rfl) (fun _ _ _ _ h => h) ?q5 hHeld ?_
      case q5 => (intro oi ho; simp only [List.getElem?_toArray, List.getElem?_cons_succ, List.getElem?_cons_zero, Option.some.injEq] at ho; subst ho; refine Or.inl ⟨by rfl, ?_⟩; intro w1 hSw; (try dsimp only at hSw); go_simp <;> with_reducible rfl)
      simp only [Act.put, List.setIfInBounds_toArray, List.set_cons_zero, List.set_cons_succ]
      refine takeD 6 39 (v := ?p6) (by kernel_rfl) (by kernel_rfl) (by kernel_rfl) (by kernel_rfl) (fun _ _ _ _ h => h) ?q6 hHeld ?_
      case q6 => (intro oi ho; simp only [List.getElem?_toArray, List.getElem?_cons_succ, List.getElem?_cons_zero, Option.some.injEq] at ho; subst ho; refine Or.inl ⟨by rfl, ?_⟩; intro w1 hSw; (try dsimp only at hSw); go_simp <;> with_reducible rfl)
      simp only [Act.put, List.setIfInBounds_toArray, List.set_cons_zero, List.set_cons_succ]
      refine takeD 7 40 (v := ?p7) (by kernel_rfl) (by kernel_rfl) (by kernel_rfl) (by kernel_rfl) (fun _ _ _ _ h => h) ?q7 hHeld ?_
      case q7 => (intro oi ho; simp only [List.getElem?_toArray, List.getElem?_cons_succ, List.getElem?_cons_zero, Option.some.injEq] at ho; subst ho; refine Or.inl ⟨by rfl, ?_⟩; intro w1 hSw; (try dsimp only at hSw); go_simp <;> with_reducible rfl)
      simp only [Act.put, List.setIfInBounds_toArray, List.set_cons_zero, List.set_cons_succ]
      refine takeD 9 42 (v := ?p9) (by kernel_rfl) (by kernel_rfl) (by kernel_rfl) (by kernel_rfl) (fun _ _ _ _ h => h) ?q9 hHeld ?_
      case q9 => (intro oi ho; simp only [List.getElem?_toArray, List.getElem?_cons_succ, List.getElem?_cons_zero, Option.some.injEq] at ho; subst ho; refine Or.inl ⟨by rfl, ?_⟩; intro w1 hSw; (try dsimp only at hSw); go_simp <;> with_reducible rfl)
      simp only [Act.put, List.setIfInBounds_toArray, List.set_cons_zero, List.set_cons_succ]
      refine takeD 10 43 (v := ?p10) (by kernel_rfl) (by kernel_rfl) (by kernel_rfl) (by kernel_rfl) (fun _ _ _ _ h => h) ?q10 hHeld ?_
      case q10 => (intro oi ho; simp only [List.getElem?_toArray, List.getElem?_cons_succ, List.getElem?_cons_zero, Option.some.injEq] at ho; subst ho; refine Or.inl ⟨by rfl, ?_⟩; intro w1 hSw; (try dsimp only at hSw); go_simp <;> with_reducible rfl)
      simp only [Act.put, List.setIfInBounds_toArray, List.set_cons_zero, List.set_cons_succ]
      refine takeD 11 44 (v := ?p11) (by kernel_rfl) (by kernel_rfl) (by kernel_rfl) (by kernel_rfl) (fun _ _ _ _ h => h) ?q11 hHeld ?_
      case q11 => (intro oi ho; simp only [List.getElem?_toArray, List.getElem?_cons_succ, List.getElem?_cons_zero, Option.some.injEq] at ho; subst ho; refine Or.inl ⟨by rfl, ?_⟩; intro w1 hSw; (try dsimp only at hSw); go_simp <;> with_reducible rfl)
      simp only [Act.put, List.setIfInBounds_toArray, List.set_cons_zero, List.set_cons_succ]
      refine takeD 12 45 (v := ?p12) (by kernel_rfl) (by kernel_rfl) (by kernel_rfl) (by kernel_rfl) (fun _ _ _ _ h => h) ?q12 hHeld ?_
      case q12 => (intro oi ho; simp only [List.getElem?_toArray, List.getElem?_cons_succ, List.getElem?_cons_zero, Option.some.injEq] at ho; subst ho; refine Or.inl ⟨by rfl, ?_⟩; intro w1 hSw; (try dsimp only at hSw); go_simp <;> with_reducible rfl)
      simp only [Act.put, List.setIfInBounds_toArray, List.set_cons_zero, List.set_cons_succ]
      refine takeD 13 46 (v := ?p13) (by kernel_rfl) (by kernel_rfl) (by kernel_rfl) (by kernel_rfl) (fun _ _ _ _ h => h) ?q13 hHeld ?_
      case q13 => (intro oi ho; simp only [List.getElem?_toArray, List.getElem?_cons_succ, List.getElem?_cons_zero, Option.some.injEq] at ho; subst ho; refine Or.inl ⟨by rfl, ?_⟩; intro w1 hSw; (try dsimp only at hSw); go_simp <;> with_reducible rfl)
      simp only [Act.put, List.setIfInBounds_toArray, List.set_cons_zero, List.set_cons_succ]
      refine takeD 14 47 (v := ?p14) (by kernel_rfl) (by kernel_rfl) (by kernel_rfl) (by kernel_rfl) (fun _ _ _ _ h => h) ?q14 hHeld ?_
      case q14 => (intro oi ho; simp only [List.getElem?_toArray, List.getElem?_cons_succ, List.getElem?_cons_zero, Option.some.injEq] at ho; subst ho; refine Or.inl ⟨by rfl, ?_⟩; intro w1 hSw; (try dsimp only at hSw); go_simp <;> with_reducible rfl)
      simp only [Act.put, List.setIfInBounds_toArray, List.set_cons_zero, List.set_cons_succ]
      refine takeD 15 48 (v := ?p15) (by kernel_rfl) (by kernel_rfl) (by kernel_rfl) (by kernel_rfl) (fun _ _ _ _ h => h) ?q15 hHeld ?_
      case q15 => (intro oi ho; simp only [List.getElem?_toArray, List.getElem?_cons_succ, List.getElem?_cons_zero, Option.some.injEq] at ho; subst ho; refine Or.inl ⟨by rfl, ?_⟩; intro w1 hSw; (try dsimp only at hSw); go_simp <;> with_reducible rfl)
      simp only [Act.put, List.setIfInBounds_toArray, List.set_cons_zero, List.set_cons_succ]
      refine takeD 16 49 (v := ?p16) (by kernel_rfl) (by kernel_rfl) (by kernel_rfl) (by kernel_rfl) (fun _ _ _ _ h => h) ?q16 hHeld ?_
      case q16 => (intro oi ho; simp only [List.getElem?_toArray, List.getElem?_cons_succ, List.getElem?_cons_zero, Option.some.injEq] at ho; subst ho; refine Or.inl ⟨by rfl, ?_⟩; intro w1 hSw; (try dsimp only at hSw); go_simp <;> with_reducible rfl)
      simp only [Act.put, List.setIfInBounds_toArray, List.set_cons_zero, List.set_cons_succ]
      refine takeD 17 50 (v := ?p17) (by kernel_rfl) (by kernel_rfl) (by kernel_rfl) (by kernel_rfl) (fun _ _ _ _ h => h) ?q17 hHeld ?_
      case q17 => (intro oi ho; simp only [List.getElem?_toArray, List.getElem?_cons_succ, List.getElem?_cons_zero, Option.some.injEq] at ho; subst ho; refine Or.inl ⟨by rfl, ?_⟩; intro w1 hSw; (try dsimp only at hSw); go_simp <;> with_reducible rfl)
      simp only [Act.put, List.setIfInBounds_toArray, List.set_cons_zero, List.set_cons_succ]
      refine takeD 18 51 (v := ?p18) (by kernel_rfl) (by kernel_rfl) (by kernel_rfl) (by kernel_rfl) (fun _ _ _ _ h => h) ?q18 hHeld ?_
      case q18 => (intro oi ho; simp only [List.getElem?_toArray, List.getElem?_cons_succ, List.getElem?_cons_zero, Option.some.injEq] at ho; subst ho; refine Or.inl ⟨by rfl, ?_⟩; intro w1 hSw; (try dsimp only at hSw); go_simp <;> with_reducible rfl)
      simp only [Act.put, List.setIfInBounds_toArray, List.set_cons_zero, List.set_cons_succ]
      refine takeD 19 52 (v := ?p19) (by kernel_rfl) (by kernel_rfl) (by kernel_rfl) (by kernel_rfl) (fun _ _ _ _ h => h) ?q19 hHeld ?_
      case q19 => (intro oi ho; simp only [List.getElem?_toArray, List.getElem?_cons_succ, List.getElem?_cons_zero, Option.some.injEq] at ho; subst ho; refine Or.inl ⟨by rfl, ?_⟩; intro w1 hSw; (try dsimp only at hSw); go_simp <;> with_reducible rfl)
      simp only [Act.put, List.setIfInBounds_toArray, List.set_cons_zero, List.set_cons_succ]
      refine takeD 20 53 (v := ?p20) (by kernel_rfl) (by kernel_rfl) (by kernel_rfl) (by kernel_rfl) (fun _ _ _ _ h => h) ?q20 hHeld ?_
      case q20 => (intro oi ho; simp only [List.getElem?_toArray, List.getElem?_cons_succ, List.getElem?_cons_zero, Option.some.injEq] at ho; subst ho; refine Or.inl ⟨by rfl, ?_⟩; intro w1 hSw; (try dsimp only at hSw); go_simp <;> with_reducible rfl)
      simp only [Act.put, List.setIfInBounds_toArray, List.set_cons_zero, List.set_cons_succ]
      refine takeD 21 54 (v := ?p21) (by kernel_rfl) (by kernel_rfl) (by kernel_rfl) (by kernel_rfl) (fun _ _ _ _ h => h) ?q21 hHeld ?_
      case q21 => (intro oi ho; simp only [List.getElem?_toArray, List.getElem?_cons_succ, List.getElem?_cons_zero, Option.some.injEq] at ho; subst ho; refine Or.inl ⟨by rfl, ?_⟩; intro w1 hSw; (try dsimp only at hSw); go_simp <;> with_reducible rfl)
      simp only [Act.put, List.setIfInBounds_toArray, List.set_cons_zero, List.set_cons_succ]
      refine takeD 22 55 (v := ?p22) (by kernel_rfl) (by kernel_rfl) (by kernel_rfl) (by kernel_rfl) (fun _ _ _ _ h => h) ?q22 hHeld ?_
      case q22 => (intro oi ho; simp only [List.getElem?_toArray, List.getElem?_cons_succ, List.getElem?_cons_zero, Option.some.injEq] at ho; subst ho; refine Or.inl ⟨by rfl, ?_⟩; intro w1 hSw; (try dsimp only at hSw); go_simp <;> with_reducible rfl)
      simp only [Act.put, List.setIfInBounds_toArray, List.set_cons_zero, List.set_cons_succ]
      refine takeD 23 56 (v := ?p23) (by kernel_rfl) (by kernel_rfl) (by kernel_rfl) (by kernel_rfl) (fun _ _ _ _ h => h) ?q23 hHeld ?_
      case q23 => (intro oi ho; simp only [List.getElem?_toArray, List.getElem?_cons_succ, List.getElem?_cons_zero, Option.some.injEq] at ho; subst ho; refine Or.inl ⟨by rfl, ?_⟩; intro w1 hSw; (try dsimp only at hSw); go_simp <;> with_reducible rfl)
      simp only [Act.put, List.setIfInBounds_toArray, List.set_cons_zero, List.set_cons_succ]
      refine takeD 24 57 (v := ?p24) (by kernel_rfl) (by kernel_rfl) (by kernel_rfl) (by kernel_rfl) (fun _ _ _ _ h => h) ?q24 hHeld ?_
      case q24 => (intro oi ho; simp only [List.getElem?_toArray, List.getElem?_cons_succ, List.getElem?_cons_zero, Option.some.injEq] at ho; subst ho; refine Or.inl ⟨by rfl, ?_⟩; intro w1 hSw; (try dsimp only at hSw); go_simp <;> with_reducible rfl)
      simp only [Act.put, List.setIfInBounds_toArray, List.set_cons_zero, List.set_cons_succ]
      refine takeD 25 58 (v := ?p25) (by kernel_rfl) (by kernel_rfl) (by kernel_rfl) (by kernel_rfl) (fun _ _ _ _ h => h) ?q25 hHeld ?_
      case q25 => (intro oi ho; simp only [List.getElem?_toArray, List.getElem?_cons_succ, List.getElem?_cons_zero, Option.some.injEq] at ho; subst ho; refine Or.inl ⟨by rfl, ?_⟩; intro w1 hSw; (try dsimp only at hSw); go_simp <;> with_reducible rfl)
      simp only [Act.put, List.setIfInBounds_toArray, List.set_cons_zero, List.set_cons_succ]
      refine takeD 28 61 (v := ?p28) (by kernel_rfl) (by kernel_rfl) (by kernel_rfl) (by kernel_rfl) (fun _ _ _ _ h => h) ?q28 hHeld ?_
      case q28 => (intro oi ho; simp only [List.getElem?_toArray, List.getElem?_cons_succ, List.getElem?_cons_zero, Option.some.injEq] at ho; subst ho; refine Or.inl ⟨by rfl, ?_⟩; intro w1 hSw; (try dsimp only at hSw); go_simp <;> with_reducible rfl)
      simp only [Act.put, List.setIfInBounds_toArray, List.set_cons_zero, List.set_cons_succ]
      refine takeD 29 62 (v := ?p29) (by kernel_rfl) (by kernel_rfl) (by kernel_rfl) (by kernel_rfl) (fun _ _ _ _ h => h) ?q29 hHeld ?_
      case q29 => (intro oi ho; simp only [List.getElem?_toArray, List.getElem?_cons_succ, List.getElem?_cons_zero, Option.some.injEq] at ho; subst ho; refine Or.inl ⟨by rfl, ?_⟩; intro w1 hSw; (try dsimp only at hSw); go_simp <;> with_reducible rfl)
      simp only [Act.put, List.setIfInBounds_toArray, List.set_cons_zero, List.set_cons_succ]
      refine takeD 30 63 (v := ?p30) (by kernel_rfl) (by kernel_rfl) (by kernel_rfl) (by kernel_rfl) (fun _ _ _ _ h => h) ?q30 hHeld ?_
      case q30 => (intro oi ho; simp only [List.getElem?_toArray, List.getElem?_cons_succ, List.getElem?_cons_zero, Option.some.injEq] at ho; subst ho; refine Or.inl ⟨by rfl, ?_⟩; intro w1 hSw; (try dsimp only at hSw); go_simp <;> with_reducible rfl)
      simp only [Act.put, List.setIfInBounds_toArray, List.set_cons_zero, List.set_cons_succ]
      refine oneD 8 (by kernel_rfl) (by kernel_rfl) ?_
      intro oi ho
      simp only [List.getElem?_toArray, List.getElem?_cons_succ, List.getElem?_cons_zero, Option.some.injEq] at ho; subst ho
      intro K' hK
      rw [if_pos (by rfl)]
      go_simp
      refine (hci _).mono ?_
      rintro e w1 ⟨rfl, rfl⟩
      refine hK.out _ _ hHeld (fun hHeld => ?_)
      clear hK K'
      refine oneD 26 (by kernel_rfl) (by kernel_rfl) ?_
      intro oi ho
      simp only [List.getElem?_toArray, List.getElem?_cons_succ, List.getElem?_cons_zero, Option.some.injEq] at ho; subst ho
      intro K' hK
      rw [if_pos (by rfl)]
      go_simp
      refine (hcs _ ?_ ?_).mono ?_
      · exact HQA.out.drewN 1
      · exact HQB.out.drewN 1
      rintro e w1 ⟨rfl, rfl⟩
      refine hK.out _ _ hHeld (fun hHeld => ?_)
      clear hK K'
      refine takeD 27 60 (v := ?p27) (by kernel_rfl) (by kernel_rfl) (by kernel_rfl) (by kernel_rfl) (fun _ _ _ _ h => h) ?q27 hHeld ?_
      case q27 => (intro oi ho; simp only [List.getElem?_toArray, List.getElem?_cons_succ, List.getElem?_cons_zero, Option.some.injEq] at ho; subst ho; refine Or.inl ⟨by rfl, ?_⟩; intro w1 hSw; (try dsimp only at hSw); go_simp <;> with_reducible rfl)
      simp only [Act.put, List.setIfInBounds_toArray, List.set_cons_zero, List.set_cons_succ]
      refine oneD 31 (by kernel_rfl) (by kernel_rfl) ?_
      intro oi ho
      simp only [List.getElem?_toArray, List.getElem?_cons_succ, List.getElem?_cons_zero, Option.some.injEq] at ho; subst ho
      intro K' hK
      rw [if_pos (by rfl)]
      go_simp
      refine (hct _).mono ?_
      rintro e w1 ⟨rfl, rfl⟩
      refine hK.out _ _ hHeld (fun hHeld => ?_)
      clear hK K'
      refine oneD 32 (by kernel_rfl) (by kernel_rfl) ?_
      intro oi ho
      simp only [List.getElem?_toArray, List.getElem?_cons_succ, List.getElem?_cons_zero, Option.some.injEq] at ho; subst ho
      intro K' hK
      rw [if_pos (by rfl)]
      go_simp
      refine hK.out _ _ ⟨(World.cell?_alloc_lt V _ _ l7).trans c7, (World.cell?_alloc_lt V _ _ lbl).trans la, (World.cell?_alloc_lt V _ _ lbl).trans lb, (World.cell?_alloc_lt V _ _ l2).trans c2, (World.cell?_alloc_lt V _ _ lpb).trans hp1, (World.cell?_alloc_lt V _ _ lgb).trans ga, (World.cell?_alloc_lt V _ _ lgb).trans gb', (World.cell?_alloc_lt V _ _ l3).trans c3⟩ (fun hHeld => ?_)
      clear hK K'
      refine oneD 33 (by kernel_rfl) (by kernel_rfl) ?_
      intro oi ho
      simp only [List.getElem?_toArray, List.getElem?_cons_succ, List.getElem?_cons_zero, Option.some.injEq] at ho; subst ho
      intro K' hK
      rw [if_pos (by rfl)]
      go_simp
      refine (or4_new _ _ _ _ _).mono ?_
      rintro e w1 ⟨rfl, rfl⟩
      refine hK.out _ _ hHeld (fun hHeld => ?_)
      clear hK K'
      refine takeD 34 8 (v := ?p34) (by kernel_rfl) (by kernel_rfl) (by kernel_rfl) (by kernel_rfl) (fun _ _ _ _ h => h) ?q34 hHeld ?_
      case q34 => (intro oi ho; simp only [List.getElem?_toArray, List.getElem?_cons_succ, List.getElem?_cons_zero, Option.some.injEq] at ho; subst ho; refine Or.inl ⟨by rfl, ?_⟩; intro w1 hSw; (try dsimp only at hSw); go_simp <;> with_reducible rfl)
      simp only [Act.put, List.setIfInBounds_toArray, List.set_cons_zero, List.set_cons_succ]
      refine wpAnyH_done (by kernel_rfl) ?_ _
      refine NoPanic.normal ?_
      clear hHeld c7 la lb c2 c3 hp1 ga gb' hci hct hcs
      go_wp2
      go_ret
      refine ⟨?_, _, _, grown_of HV.out _⟩
      rw [hz.out, wrapN hli]
      rfl
    | true =>
      have hz : Hid (kz = -k1) := hbz.out.trans <| if_pos ⟨by simpa using e1, by simpa using e2⟩
      have hw1 : wrap64 (-k1) = -k1 := wrapM hin
      have hw2 : IntKind.i64.wrap (-k1) = -k1 := wrapN hin
      go_wp2_with fail
      clear hw1 hw2 hbz
      generalize -k1 = kn at hz ⊢
      refine wp_region_noPanic ?_
      refine wp_region_held_drew (S := fun w' => w'.cell? ⟨s7, 0, none⟩ = some (.slice (some ⟨bl, 0, none⟩) D.nG D.nG) ∧ w'.cell? ⟨bl, a, none⟩ = some (.int .i64 (lim a)) ∧ w'.cell? ⟨bl, b, none⟩ = some (.int .i64 (lim b)) ∧ w'.cell? ⟨s2, 0, none⟩ = some (.pointer (some ⟨pb, 0, none⟩)) ∧ w'.cell? ⟨pb, 1, none⟩ = some (.slice (some ⟨gb, 0, none⟩) D.nG D.nG) ∧ w'.cell? ⟨gb, a * 4, none⟩ = some (.slice qa (D.nQ a) (D.nQ a)) ∧ w'.cell? ⟨gb, b * 4, none⟩ = some (.slice qb (D.nQ b) (D.nQ b)) ∧ w'.cell? ⟨s3, 0, none⟩ = some (.func (.func 10) #[] #[])) (by kernel_rfl) ⟨c7, la, lb, c2, hp1, ga, gb', c3⟩ (fun hHeld => ?_)
      refine takeD 0 33 (v := ?x0) (by kernel_rfl) (by kernel_rfl) (by kernel_rfl) (by kernel_rfl) (fun _ _ _ _ h => h) ?y0 hHeld ?_
      case y0 => (intro oi ho; simp only [List.getElem?_toArray, List.getElem?_cons_zero, Option.some.injEq] at ho; subst ho; refine Or.inl ⟨by rfl, ?_⟩; intro w1 hSw; (try dsimp only at hSw); go_simp <;> with_reducible rfl)
      simp only [Act.put, List.setIfInBounds_toArray, List.set_cons_zero, List.set_cons_succ]
      refine takeD 1 34 (v := ?x1) (by kernel_rfl) (by kernel_rfl) (by kernel_rfl) (by kernel_rfl) (fun _ _ _ _ h => h) ?y1 hHeld ?_
      case y1 => (intro oi ho; simp only [List.getElem?_toArray, List.getElem?_cons_succ, List.getElem?_cons_zero, Option.some.injEq] at ho; subst ho; refine Or.inl ⟨by rfl, ?_⟩; intro w1 hSw; (try dsimp only at hSw); go_simp <;> with_reducible rfl)
      simp only [Act.put, List.setIfInBounds_toArray, List.set_cons_zero, List.set_cons_succ]
      refine takeD 2 35 (v := ?x2) (by kernel_rfl) (by kernel_rfl) (by kernel_rfl) (by kernel_rfl) (fun _ _ _ _ h => h) ?y2 hHeld ?_
      case y2 => (intro oi ho; simp only [List.getElem?_toArray, List.getElem?_cons_succ, List.getElem?_cons_zero, Option.some.injEq] at ho; subst ho; refine Or.inl ⟨by rfl, ?_⟩; intro w1 hSw; (try dsimp only at hSw); go_simp <;> with_reducible rfl)
      simp only [Act.put, List.setIfInBounds_toArray, List.set_cons_zero, List.set_cons_succ]
      refine takeD 3 36 (v := ?x3) (by kernel_rfl) (by kernel_rfl) (by kernel_rfl) (by kernel_rfl) (fun _ _ _ _ h => h) ?y3 hHeld ?_
      case y3 => (intro oi ho; simp only [List.getElem?_toArray, List.getElem?_cons_succ, List.getElem?_cons_zero, Option.some.injEq] at ho; subst ho; refine Or.inl ⟨by rfl, ?_⟩; intro w1 hSw; (try dsimp only at hSw); go_simp <;> with_reducible rfl)
      simp only [Act.put, List.setIfInBounds_toArray, List.set_cons_zero, List.set_cons_succ]
      refine takeD 4 37 (v := ?x4) (by kernel_rfl) (by kernel_rfl) (by kernel_rfl) (by kernel_rfl) (fun _ _ _ _ h => h) ?y4 hHeld ?_
      case y4 => (intro oi ho; simp only [List.getElem?_toArray, List.getElem?_cons_succ, List.getElem?_cons_zero, Option.some.injEq] at ho; subst ho; refine Or.inl ⟨by rfl, ?_⟩; intro w1 hSw; (try dsimp only at hSw); go_simp <;> with_reducible rfl)
      simp only [Act.put, List.setIfInBounds_toArray, List.set_cons_zero, List.set_cons_succ]
      refine takeD 5 38 (v := ?x5) (by kernel_rfl) (by kernel_rfl) (by kernel_rfl) (by kernel_rfl) (fun _ _ _ _ h => h) ?y5 hHeld ?_
      case y5 => (intro oi ho; simp only [List.getElem?_toArray, List.getElem?_cons_succ, List.getElem?_cons_zero, Option.some.injEq] at ho; subst ho; refine Or.inl ⟨by rfl, ?_⟩; intro w1 hSw; (try dsimp only at hSw); go_simp <;> with_reducible rfl)
      simp only [Act.put, List.setIfInBounds_toArray, List.set_cons_zero, List.set_cons_succ]
      refine takeD 6 39 (v := ?x6) (by kernel_rfl) (by kernel_rfl) (by kernel_rfl) (by kernel_rfl) (fun _ _ _ _ h => h) ?y6 hHeld ?_
      case y6 => (intro oi ho; simp only [List.getElem?_toArray, List.getElem?_cons_succ, List.getElem?_cons_zero, Option.some.injEq] at ho; subst ho; refine Or.inl ⟨by rfl, ?_⟩; intro w1 hSw; (try dsimp only at hSw); go_simp <;> with_reducible rfl)
      simp only [Act.put, List.setIfInBounds_toArray, List.set_cons_zero, List.set_cons_succ]
      refine takeD 7 40 (v := ?x7) (by kernel_rfl) (by kernel_rfl) (by kernel_rfl) (by kernel_rfl) (fun _ _ _ _ h => h) ?y7 hHeld ?_
      case y7 => (intro oi ho; simp only [List.getElem?_toArray, List.getElem?_cons_succ, List.getElem?_cons_zero, Option.some.injEq] at ho; subst ho; refine Or.inl ⟨by rfl, ?_⟩; intro w1 hSw; (try dsimp only at hSw); go_simp <;> with_reducible rfl)
      simp only [Act.put, List.setIfInBounds_toArray, List.set_cons_zero, List.set_cons_succ]
      refine takeD 9 42 (v := ?x9) (by kernel_rfl) (by kernel_rfl) (by kernel_rfl) (by kernel_rfl) (fun _ _ _ _ h => h) ?y9 hHeld ?_
      case y9 => (intro oi ho; simp only [List.getElem?_toArray, List.getElem?_cons_succ, List.getElem?_cons_zero, Option.some.injEq] at ho; subst ho; refine Or.inl ⟨by rfl, ?_⟩; intro w1 hSw; (try dsimp only at hSw); go_simp <;> with_reducible rfl)
      simp only [Act.put, List.setIfInBounds_toArray, List.set_cons_zero, List.set_cons_succ]
      refine takeD 10 43 (v := ?x10) (by kernel_rfl) (by kernel_rfl) (by kernel_rfl) (by kernel_rfl) (fun _ _ _ _ h => h) ?y10 hHeld ?_
      case y10 => (intro oi ho; simp only [List.getElem?_toArray, List.getElem?_cons_succ, List.getElem?_cons_zero, Option.some.injEq] at ho; subst ho; refine Or.inl ⟨by rfl, ?_⟩; intro w1 hSw; (try dsimp only at hSw); go_simp <;> with_reducible rfl)
      simp only [Act.put, List.setIfInBounds_toArray, List.set_cons_zero, List.set_cons_succ]
      refine takeD 11 44 (v := ?x11) (by kernel_rfl) (by kernel_rfl) (by kernel_rfl) (by kernel_rfl) (fun _ _ _ _ h => h) ?y11 hHeld ?_
      case y11 => (intro oi ho; simp only [List.getElem?_toArray, List.getElem?_cons_succ, List.getElem?_cons_zero, Option.some.injEq] at ho; subst ho; refine Or.inl ⟨by rfl, ?_⟩; intro w1 hSw; (try dsimp only at hSw); go_simp <;> with_reducible rfl)
      simp only [Act.put, List.setIfInBounds_toArray, List.set_cons_zero, List.set_cons_succ]
      refine takeD 12 45 (v := ?x12) (by kernel_rfl) (by kernel_rfl) (by kernel_rfl) (by kernel_rfl) (fun _ _ _ _ h => h) ?y12 hHeld ?_
      case y12 => (intro oi ho; simp only [List.getElem?_toArray, List.getElem?_cons_succ, List.getElem?_cons_zero, Option.some.injEq] at ho; subst ho; refine Or.inl ⟨by rfl, ?_⟩; intro w1 hSw; (try dsimp only at hSw); go_simp <;> with_reducible rfl)
      simp only [Act.put, List.setIfInBounds_toArray, List.set_cons_zero, List.set_cons_succ]
      refine takeD 13 46 (v := ?x13) (by kernel_rfl) (by kernel_rfl) (by kernel_rfl) (by kernel_rfl) (fun _ _ _ _ h => h) ?y13 hHeld ?_
      case y13 => (intro oi ho; simp only [List.getElem?_toArray, List.getElem?_cons_succ, List.getElem?_cons_zero, Option.some.injEq] at ho; subst ho; refine Or.inl ⟨by rfl, ?_⟩; intro w1 hSw; (try dsimp only at hSw); go_simp <;> with_reducible rfl)
      simp only [Act.put, List.setIfInBounds_toArray, List.set_cons_zero, List.set_cons_succ]
      refine takeD 14 47 (v := ?x14) (by kernel_rfl) (by kernel_rfl) (by kernel_rfl) (by kernel_rfl) (fun _ _ _ _ h => h) ?y14 hHeld ?_
      case y14 => (intro oi ho; simp only [List.getElem?_toArray, List.getElem?_cons_succ, List.getElem?_cons_zero, Option.some.injEq] at ho; subst ho; refine Or.inl ⟨by rfl, ?_⟩; intro w1 hSw; (try dsimp only at hSw); go_simp <;> with_reducible rfl)
      simp only [Act.put, List.setIfInBounds_toArray, List.set_cons_zero, List.set_cons_succ]
      refine takeD 15 48 (v := ?x15) (by kernel_rfl) (by kernel_rfl) (by kernel_rfl) (by kernel_rfl) (fun _ _ _ _ h => h) ?y15 hHeld ?_
      case y15 => (intro oi ho; simp only [List.getElem?_toArray, List.getElem?_cons_succ, List.getElem?_cons_zero, Option.some.injEq] at ho; subst ho; refine Or.inl ⟨by rfl, ?_⟩; intro w1 hSw; (try dsimp only at hSw); go_simp <;> with_reducible rfl)
      simp only [Act.put, List.setIfInBounds_toArray, List.set_cons_zero, List.set_cons_succ]
      refine takeD 16 49 (v := ?x16) (by kernel_rfl) (by kernel_rfl) (by kernel_rfl) (by kernel_rfl) (fun _ _ _ _ h => h) ?y16 hHeld ?_
      case y16 => (intro oi ho; simp only [List.getElem?_toArray, List.getElem?_cons_succ, List.getElem?_cons_zero, Option.some.injEq] at ho; subst ho; refine Or.inl ⟨by rfl, ?_⟩; intro w1 hSw; (try dsimp only at hSw); go_simp <;> with_reducible rfl)
      simp only [Act.put, List.setIfInBounds_toArray, List.set_cons_zero, List.set_cons_succ]
      refine takeD 17 50 (v := ?x17) (by kernel_rfl) (by kernel_rfl) (by kernel_rfl) (by kernel_rfl) (fun _ _ _ _ h => h) ?y17 hHeld ?_
      case y17 => (intro oi ho; simp only [List.getElem?_toArray, List.getElem?_cons_succ, List.getElem?_cons_zero, Option.some.injEq] at ho; subst ho; refine Or.inl ⟨by rfl, ?_⟩; intro w1 hSw; (try dsimp only at hSw); go_simp <;> with_reducible rfl)
      simp only [Act.put, List.setIfInBounds_toArray, List.set_cons_zero, List.set_cons_succ]
      refine takeD 18 51 (v := ?x18) (by kernel_rfl) (by kernel_rfl) (by kernel_rfl) (by kernel_rfl) (fun _ _ _ _ h => h) ?y18 hHeld ?_
      case y18 => (intro oi ho; simp only [List.getElem?_toArray, List.getElem?_cons_succ, List.getElem?_cons_zero, Option.some.injEq] at ho; subst ho; refine Or.inl ⟨by rfl, ?_⟩; intro w1 hSw; (try dsimp only at hSw); go_simp <;> with_reducible rfl)
      simp only [Act.put, List.setIfInBounds_toArray, List.set_cons_zero, List.set_cons_succ]
      refine takeD 19 52 (v := ?x19) (by kernel_rfl) (by kernel_rfl) (by kernel_rfl) (by kernel_rfl) (fun _ _ _ _ h => h) ?y19 hHeld ?_
      case y19 => (intro oi ho; simp only [List.getElem?_toArray, List.getElem?_cons_succ, List.getElem?_cons_zero, Option.some.injEq] at ho; subst ho; refine Or.inl ⟨by rfl, ?_⟩; intro w1 hSw; (try dsimp only at hSw); go_simp <;> with_reducible rfl)
      simp only [Act.put, List.setIfInBounds_toArray, List.set_cons_zero, List.set_cons_succ]
      refine takeD 20 53 (v := ?x20) (by kernel_rfl) (by kernel_rfl) (by kernel_rfl) (by kernel_rfl) (fun _ _ _ _ h => h) ?y20 hHeld ?_
      case y20 => (intro oi ho; simp only [List.getElem?_toArray, List.getElem?_cons_succ, List.getElem?_cons_zero, Option.some.injEq] at ho; subst ho; refine Or.inl ⟨by rfl, ?_⟩; intro w1 hSw; (try dsimp only at hSw); go_simp <;> with_reducible rfl)
      simp only [Act.put, List.setIfInBounds_toArray, List.set_cons_zero, List.set_cons_succ]
      refine takeD 21 54 (v := ?x21) (by kernel_rfl) (by kernel_rfl) (by kernel_rfl) (by kernel_rfl) (fun _ _ _ _ h => h) ?y21 hHeld ?_
      case y21 => (intro oi ho; simp only [List.getElem?_toArray, List.getElem?_cons_succ, List.getElem?_cons_zero, Option.some.injEq] at ho; subst ho; refine Or.inl ⟨by rfl, ?_⟩; intro w1 hSw; (try dsimp only at hSw); go_simp <;> with_reducible rfl)
      simp only [Act.put, List.setIfInBounds_toArray, List.set_cons_zero, List.set_cons_succ]
      refine takeD 22 55 (v := ?x22) (by kernel_rfl) (by kernel_rfl) (by kernel_rfl) (by kernel_rfl) (fun _ _ _ _ h => h) ?y22 hHeld ?_
      case y22 => (intro oi ho; simp only [List.getElem?_toArray, List.getElem?_cons_succ, List.getElem?_cons_zero, Option.some.injEq] at ho; subst ho; refine Or.inl ⟨by rfl, ?_⟩; intro w1 hSw; (try dsimp only at hSw); go_simp <;> with_reducible rfl)
      simp only [Act.put, List.setIfInBounds_toArray, List.set_cons_zero, List.set_cons_succ]
      refine takeD 23 56 (v := ?x23) (by kernel_rfl) (by kernel_rfl) (by kernel_rfl) (by kernel_rfl) (fun _ _ _ _ h => h) ?y23 hHeld ?_
      case y23 => (intro oi ho; simp only [List.getElem?_toArray, List.getElem?_cons_succ, List.getElem?_cons_zero, Option.some.injEq] at ho; subst ho; refine Or.inl ⟨by rfl, ?_⟩; intro w1 hSw; (try dsimp only at hSw); go_simp <;> with_reducible rfl)
      simp only [Act.put, List.setIfInBounds_toArray, List.set_cons_zero, List.set_cons_succ]
      refine takeD 24 57 (v := ?x24) (by kernel_rfl) (by kernel_rfl) (by kernel_rfl) (by kernel_rfl) (fun _ _ _ _ h => h) ?y24 hHeld ?_
      case y24 => (intro oi ho; simp only [List.getElem?_toArray, List.getElem?_cons_succ, List.getElem?_cons_zero, Option.some.injEq] at ho; subst ho; refine Or.inl ⟨by rfl, ?_⟩; intro w1 hSw; (try dsimp only at hSw); go_simp <;> with_reducible rfl)
      simp only [Act.put, List.setIfInBounds_toArray, List.set_cons_zero, List.set_cons_succ]
      refine takeD 25 58 (v := ?x25) (by kernel_rfl) (by kernel_rfl) (by kernel_rfl) (by kernel_rfl) (fun _ _ _ _ h => h) ?y25 hHeld ?_
      case y25 => (intro oi ho; simp only [List.getElem?_toArray, List.getElem?_cons_succ, List.getElem?_cons_zero, Option.some.injEq] at ho; subst ho; refine Or.inl ⟨by rfl, ?_⟩; intro w1 hSw; (try dsimp only at hSw); go_simp <;> with_reducible rfl)
      simp only [Act.put, List.setIfInBounds_toArray, List.set_cons_zero, List.set_cons_succ]
      refine takeD 28 61 (v := ?x28) (by kernel_rfl) (by kernel_rfl) (by kernel_rfl) (by kernel_rfl) (fun _ _ _ _ h => h) ?y28 hHeld ?_
      case y28 => (intro oi ho; simp only [List.getElem?_toArray, List.getElem?_cons_succ, List.getElem?_cons_zero, Option.some.injEq] at ho; subst ho; refine Or.inl ⟨by rfl, ?_⟩; intro w1 hSw; (try dsimp only at hSw); go_simp <;> with_reducible rfl)
      simp only [Act.put, List.setIfInBounds_toArray, List.set_cons_zero, List.set_cons_succ]
      refine takeD 29 62 (v := ?x29) (by kernel_rfl) (by kernel_rfl) (by kernel_rfl) (by kernel_rfl) (fun _ _ _ _ h => h) ?y29 hHeld ?_
      case y29 => (intro oi ho; simp only [List.getElem?_toArray, List.getElem?_cons_succ, List.getElem?_cons_zero, Option.some.injEq] at ho; subst ho; refine Or.inl ⟨by rfl, ?_⟩; intro w1 hSw; (try dsimp only at hSw); go_simp <;> with_reducible rfl)
      simp only [Act.put, List.setIfInBounds_toArray, List.set_cons_zero, List.set_cons_succ]
      refine takeD 30 63 (v := ?x30) (by kernel_rfl) (by kernel_rfl) (by kernel_rfl) (by kernel_rfl) (fun _ _ _ _ h => h) ?y30 hHeld ?_
      case y30 => (intro oi ho; simp only [List.getElem?_toArray, List.getElem?_cons_succ, List.getElem?_cons_zero, Option.some.injEq] at ho; subst ho; refine Or.inl ⟨by rfl, ?_⟩; intro w1 hSw; (try dsimp only at hSw); go_simp <;> with_reducible rfl)
      simp only [Act.put, List.setIfInBounds_toArray, List.set_cons_zero, List.set_cons_succ]
      refine oneD 8 (by kernel_rfl) (by kernel_rfl) ?_
      intro oi ho
      simp only [List.getElem?_toArray, List.getElem?_cons_succ, List.getElem?_cons_zero, Option.some.injEq] at ho; subst ho
      intro K' hK
      rw [if_pos (by rfl)]
      go_simp
      refine (hci _).mono ?_
      rintro e w1 ⟨rfl, rfl⟩
      refine hK.out _ _ hHeld (fun hHeld => ?_)
      clear hK K'
      refine oneD 26 (by kernel_rfl) (by kernel_rfl) ?_
      intro oi ho
      simp only [List.getElem?_toArray, List.getElem?_cons_succ, List.getElem?_cons_zero, Option.some.injEq] at ho; subst ho
      intro K' hK
      rw [if_pos (by rfl)]
      go_simp
      refine (hcs _ ?_ ?_).mono ?_
      · exact HQA.out.drewN 1
      · exact HQB.out.drewN 1
      rintro e w1 ⟨rfl, rfl⟩
      refine hK.out _ _ hHeld (fun hHeld => ?_)
      clear hK K'
      refine takeD 27 60 (v := ?x27) (by kernel_rfl) (by kernel_rfl) (by kernel_rfl) (by kernel_rfl) (fun _ _ _ _ h => h) ?y27 hHeld ?_
      case y27 => (intro oi ho; simp only [List.getElem?_toArray, List.getElem?_cons_succ, List.getElem?_cons_zero, Option.some.injEq] at ho; subst ho; refine Or.inl ⟨by rfl, ?_⟩; intro w1 hSw; (try dsimp only at hSw); go_simp <;> with_reducible rfl)
      simp only [Act.put, List.setIfInBounds_toArray, List.set_cons_zero, List.set_cons_succ]
      refine oneD 31 (by kernel_rfl) (by kernel_rfl) ?_
      intro oi ho
      simp only [List.getElem?_toArray, List.getElem?_cons_succ, List.getElem?_cons_zero, Option.some.injEq] at ho; subst ho
      intro K' hK
      rw [if_pos (by rfl)]
      go_simp
      refine (hct _).mono ?_
      rintro e w1 ⟨rfl, rfl⟩
      refine hK.out _ _ hHeld (fun hHeld => ?_)
      clear hK K'
      refine oneD 32 (by kernel_rfl) (by kernel_rfl) ?_
      intro oi ho
      simp only [List.getElem?_toArray, List.getElem?_cons_succ, List.getElem?_cons_zero, Option.some.injEq] at ho; subst ho
      intro K' hK
      rw [if_pos (by rfl)]
      go_simp
      refine hK.out _ _ ⟨(World.cell?_alloc_lt V _ _ l7).trans c7, (World.cell?_alloc_lt V _ _ lbl).trans la, (World.cell?_alloc_lt V _ _ lbl).trans lb, (World.cell?_alloc_lt V _ _ l2).trans c2, (World.cell?_alloc_lt V _ _ lpb).trans hp1, (World.cell?_alloc_lt V _ _ lgb).trans ga, (World.cell?_alloc_lt V _ _ lgb).trans gb', (World.cell?_alloc_lt V _ _ l3).trans c3⟩ (fun hHeld => ?_)
      clear hK K'
      refine oneD 33 (by kernel_rfl) (by kernel_rfl) ?_
      intro oi ho
      simp only [List.getElem?_toArray, List.getElem?_cons_succ, List.getElem?_cons_zero, Option.some.injEq] at ho; subst ho
      intro K' hK
      rw [if_pos (by rfl)]
      go_simp
      refine (or4_new _ _ _ _ _).mono ?_
      rintro e w1 ⟨rfl, rfl⟩
      refine hK.out _ _ hHeld (fun hHeld => ?_)
      clear hK K'
      refine takeD 34 8 (v := ?x34) (by kernel_rfl) (by kernel_rfl) (by kernel_rfl) (by kernel_rfl) (fun _ _ _ _ h => h) ?y34 hHeld ?_
      case y34 => (intro oi ho; simp only [List.getElem?_toArray, List.getElem?_cons_succ, List.getElem?_cons_zero, Option.some.injEq] at ho; subst ho; refine Or.inl ⟨by rfl, ?_⟩; intro w1 hSw; (try dsimp only at hSw); go_simp <;> with_reducible rfl)
      simp only [Act.put, List.setIfInBounds_toArray, List.set_cons_zero, List.set_cons_succ]
      refine wpAnyH_done (by kernel_rfl) ?_ _
      refine NoPanic.normal ?_
      clear hHeld c7 la lb c2 c3 hp1 ga gb' hci hct hcs
      go_wp2
      go_ret
      refine ⟨?_, _, _, grown_of HV.out _⟩
      rw [hz.out, wrapN hli]
      rfl
end Go.Proofs.Qxb6613151a
