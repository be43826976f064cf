/-
  Seat b6609411a: the small functions that build a policy (35 to 41), juniorsOf (46).
-/
import Derived.Test.Qxb6609411aSets
import Derived.Deep.RegionHeld
import Derived.Deep.RegionHeld3
import Derived.Deep.RegionWith
namespace Go.Proofs.Qxb6609411a
open Go.ChangeShapes Go.WideShapes Go.ChangeAt Go.RowKit
set_option linter.unusedVariables false

theorem newPolicy_any (w : World) : Calls Try.prog 35 #[] w fun e w' => ∃ pb rb : Nat, e = .returned (.pointer (some ⟨pb, 0, none⟩)) ∧ w.heap.size ≤ rb ∧ rb < pb ∧ pb < w'.heap.size ∧
    w'.cell? ⟨pb, 1, none⟩ = some (.map (some rb)) ∧ TabAt w' rb 0 (fun _ => none) ∧ Below w.heap.size w w' := by
  have hmm := @run_makeMap Try.prog
  go_enter Try.func35, Try.ntmps35
  go_wp2
  go_ret
  refine ⟨_, w.heap.size, rfl, Nat.le_refl _, by omega, by simp, ?_, ?_, ?_⟩
  · rw [cell_of_row _ _ 1 _ 78 (0, 0) (by rw [← World.size_alloc w (.map #[] 0)]; exact heap_alloc_new _ _)]
    rfl
  · exact (TabAt.made w).keep (Below.heap_alloc _ _ _ (by simp))
  · exact ((Below.refl _ _).alloc (Nat.le_refl _) _).alloc (by simp) _

def roleB (s : Nat) : Nat → Nat
  | 0 => s + 4
  | 1 => s
  | 2 => s + 2
  | 3 => s + 3
  | _ => s + 1

theorem heap_alloc5 (w : World) (o1 o2 o3 o4 o5 : Obj) : ((((w.alloc o1).alloc o2).alloc o3).alloc o4 |>.alloc o5).heap[w.heap.size]? = some o1 ∧ ((((w.alloc o1).alloc o2).alloc o3).alloc o4 |>.alloc o5).heap[w.heap.size + 1]? = some o2 ∧
    ((((w.alloc o1).alloc o2).alloc o3).alloc o4 |>.alloc o5).heap[w.heap.size + 2]? = some o3 ∧ ((((w.alloc o1).alloc o2).alloc o3).alloc o4 |>.alloc o5).heap[w.heap.size + 3]? = some o4 ∧ ((((w.alloc o1).alloc o2).alloc o3).alloc o4 |>.alloc o5).heap[w.heap.size + 4]? = some o5 := by
  have e : ∀ (w : World) (o o' : Obj) (k : Nat), w.heap[k]? = some o → (w.alloc o').heap[k]? = some o := fun w o o' k h => (Below.heap_alloc w o' k (Array.getElem?_eq_some_iff.1 h).1).trans h
  have n : ∀ (w : World) (o : Obj) (k : Nat), w.heap.size = k → (w.alloc o).heap[k]? = some o := fun w o k h => by rw [← h]; exact heap_alloc_new w o
  exact ⟨e _ _ _ _ (e _ _ _ _ (e _ _ _ _ (e _ _ _ _ (n _ _ _ rfl)))), e _ _ _ _ (e _ _ _ _ (e _ _ _ _ (n _ _ _ (by simp)))), e _ _ _ _ (e _ _ _ _ (n _ _ _ (by simp))), e _ _ _ _ (n _ _ _ (by simp)), n _ _ _ (by simp)⟩

theorem set_empty {w : World} {b : Nat} (k : TypeId) (h : w.heap[b]? = some (.map #[] 0)) : SetAt w k b 0 (fun _ => False) := by
  obtain ⟨es, c, g1, g2, g3, g4⟩ := World.ownsMap_made w Try.prog k (unitElem (H := Unit))
  have e := (heap_alloc_new w (.map #[] 0)).symm.trans g1
  simp only [Option.some.injEq, Obj.map.injEq] at e
  obtain ⟨rfl, rfl⟩ := e
  exact ⟨_, ⟨_, _, h, g2, g3, g4⟩, fun kl => by simp [Maps.has]⟩

theorem newRole_any (w : World) : Calls Try.prog 37 #[] w fun e w' => e = .returned (.pointer (some ⟨roleB w.heap.size 0, 0, none⟩)) ∧ w.heap.size + 5 = w'.heap.size ∧
    (w'.cell? ⟨roleB w.heap.size 0, 0, none⟩ = some (.map (some (roleB w.heap.size 1))) ∧ w'.cell? ⟨roleB w.heap.size 0, 2, none⟩ = some (.map (some (roleB w.heap.size 2))) ∧ w'.cell? ⟨roleB w.heap.size 0, 3, none⟩ = some (.map (some (roleB w.heap.size 3)))) ∧
    SetAt w' 45 (roleB w.heap.size 1) 0 (fun _ => False) ∧ SetAt w' 9 (roleB w.heap.size 2) 0 (fun _ => False) ∧ SetAt w' 9 (roleB w.heap.size 3) 0 (fun _ => False) ∧ Below w.heap.size w w' := by
  have hmm := @run_makeMap Try.prog
  go_enter Try.func37, Try.ntmps37
  go_wp2
  go_ret
  obtain ⟨h0, h1, h2, h3, h4⟩ := heap_alloc5 w (.map #[] 0) (.map #[] 0) (.map #[] 0) (.map #[] 0) (.cells #[.map (some w.heap.size), .map (some (w.heap.size + 1)), .map (some (w.heap.size + 1 + 1)), .map (some (w.heap.size + 1 + 1 + 1)), .map none, .map none] 81)
  refine ⟨rfl, by simp, ⟨(cell_of_row _ _ 0 _ 81 (0, 0) h4).trans rfl, (cell_of_row _ _ 2 _ 81 (0, 0) h4).trans rfl, (cell_of_row _ _ 3 _ 81 (0, 0) h4).trans rfl⟩, set_empty _ h0, set_empty _ h2, set_empty _ h3, ?_⟩
  exact (((((Below.refl _ _).alloc (Nat.le_refl _) _).alloc (by simp) _).alloc (by simp; omega) _).alloc (by simp; omega) _).alloc (by simp; omega) _

theorem putRole_any (pb rb n v r : Nat) (f : Nat → Option Nat) (w : World) (hc : w.cell? ⟨pb, 1, none⟩ = some (.map (some rb))) (ht : TabAt w rb n f) (hn : n < maxLen) (hv : v < 10000) :
    Calls Try.prog 36 #[.pointer (some ⟨pb, 0, none⟩), .string (nm v), .pointer (some ⟨r, 0, none⟩)] w fun e w' => (∃ x, e = .returned x) ∧ TabAt w' rb (n + 1) (fun x => if x = v then some r else f x) ∧ w.grownBy w' (some rb) := by
  obtain ⟨w1, h1, h2, h3⟩ := ht.put hn v hv r
  have H2 : Hid (TabAt w1 rb (n + 1) (fun x => if x = v then some r else f x)) := h2
  clear ht h2
  go_enter Try.func36, Try.ntmps36
  go_wp2
  go_end0
  exact ⟨⟨_, rfl⟩, H2.out, h3⟩

theorem role_any (pb rb n v r : Nat) (f : Nat → Option Nat) (w : World) (hc : w.cell? ⟨pb, 1, none⟩ = some (.map (some rb))) (ht : TabAt w rb n f) (hv : v < 10000) (hf : f v = some r) :
    Calls Try.prog 39 #[.pointer (some ⟨pb, 0, none⟩), .string (nm v)] w fun e w' => e = .returned (.pointer (some ⟨r, 0, none⟩)) ∧ w' = w := by
  have h1 := ht.look v hv r hf
  clear ht
  go_enter Try.func39, Try.ntmps39
  go_wp2
  go_ret
  exact ⟨rfl, rfl⟩

theorem addJunior_any (rb jb n v : Nat) (S : Lit → Prop) (w : World) (hc : w.cell? ⟨rb, 2, none⟩ = some (.map (some jb))) (ht : SetAt w 9 jb n S) (hn : n < maxLen) :
    Calls Try.prog 38 #[.pointer (some ⟨rb, 0, none⟩), .string (nm v)] w fun e w' => (∃ x, e = .returned x) ∧ SetAt w' 9 jb (n + 1) (fun x => x = .string (nmL v) ∨ S x) ∧ w.grownBy w' (some jb) := by
  obtain ⟨w1, h1, h2, h3⟩ := ht.put keyed9 Try.underlying29 hn (key_nm v)
  have H2 : Hid (SetAt w1 9 jb (n + 1) (fun x => x = .string (nmL v) ∨ S x)) := h2
  clear ht h2
  go_enter Try.func38, Try.ntmps38
  go_wp2
  go_end0
  exact ⟨⟨_, rfl⟩, H2.out, h3⟩

theorem addSenior_any (rb jb n v : Nat) (S : Lit → Prop) (w : World) (hc : w.cell? ⟨rb, 3, none⟩ = some (.map (some jb))) (ht : SetAt w 9 jb n S) (hn : n < maxLen) :
    Calls Try.prog 40 #[.pointer (some ⟨rb, 0, none⟩), .string (nm v)] w fun e w' => (∃ x, e = .returned x) ∧ SetAt w' 9 jb (n + 1) (fun x => x = .string (nmL v) ∨ S x) ∧ w.grownBy w' (some jb) := by
  obtain ⟨w1, h1, h2, h3⟩ := ht.put keyed9 Try.underlying29 hn (key_nm v)
  have H2 : Hid (SetAt w1 9 jb (n + 1) (fun x => x = .string (nmL v) ∨ S x)) := h2
  clear ht h2
  go_enter Try.func40, Try.ntmps40
  go_wp2
  go_end0
  exact ⟨⟨_, rfl⟩, H2.out, h3⟩

theorem juniorsOf_any (rb jb : Nat) (w : World) (hc : w.cell? ⟨rb, 2, none⟩ = some (.map (some jb))) :
    Calls Try.prog 46 #[.pointer (some ⟨rb, 0, none⟩)] w fun e w' => e = .returned (.map (some jb)) ∧ w' = w := by
  go_enter Try.func46, Try.ntmps46
  go_wp2
  go_ret
  exact ⟨rfl, rfl⟩

/-- 'wpAnyH_take' with the slot that is written named. -/
theorem takeD {P : Program} {md : Region.Mode} {ops : Array Oper} {Q : Exit → Act → World → Prop} {S : World → Prop} {fuel : Nat} {listed : Array Bool} {a : Act} {w : World} (i d : Nat) {v : Value}
    (hd : (ops[i]?).map (·.dst) = some (some d)) (hs : Region.noSelect ops = true) (hf : Region.free md ops listed i = true) (hr : (Region.ready md ops listed).contains i = true)
    (hQ : ∀ c a a' w, Q (.panic c) a w → Q (.panic c) a' w) (hy : ∀ oi, ops[i]? = some oi → YieldsIf P ops S oi v a) (hS : S w)
    (h : wpAnyH P md ops Q S fuel (listed.setIfInBounds i true) (a.put (some d) v) w) : wpAnyH P md ops Q S (fuel + 1) listed a w := by
  cases ho : ops[i]? with
  | none => rw [ho] at hd; cases hd
  | some oi =>
    rw [ho] at hd
    have he : oi.dst = some d := by simpa using hd
    exact wpAnyH_take ho hs hf hr (fun c a w h => hQ c _ _ w h) (hy oi ho) hS (by rw [he]; exact h)

/-- one operation alone may come up. -/
theorem oneD {P : Program} {md : Region.Mode} {ops : Array Oper} {Q : Exit → Act → World → Prop} {S : World → Prop} {fuel : Nat} {listed : Array Bool} {a : Act} {w : World} (i : Nat) (hlt : (ops[i]?).isSome = true) (hr : Region.ready md ops listed = [i])
    (h : ∀ o, ops[i]? = some o → ∀ K' : Act → World → Prop, Shut (∀ a w, S w → (S w → wpAnyH P md ops Q S fuel (listed.setIfInBounds i true) a w) → K' a w) → if Region.wanted o (yielded ops a.tmps) = true then Oper.wp P o a w K' Q else K' (a.put o.dst undef) w) :
    wpAnyH P md ops Q S (fuel + 1) listed a w := by
  obtain ⟨o, ho⟩ := Option.isSome_iff_exists.1 hlt
  exact wpAnyH_ready hr (by simp) (AllReadyH.cons ho (h o ho) AllReadyH.nil)

set_option maxHeartbeats 1000000 in
set_option maxRecDepth 100000 in
theorem grant_any (rb jb n : Nat) (a b : ByteArray) (ha : a.size ≤ maxLen) (hb : b.size ≤ maxLen) (S : Lit → Prop) (w : World) (hr : rb < w.heap.size) (hc : w.cell? ⟨rb, 0, none⟩ = some (.map (some jb))) (ht : SetAt w 45 jb n S) (hn : n < maxLen) :
    Calls Try.prog 41 #[.pointer (some ⟨rb, 0, none⟩), pv a b] w fun e w' => (∃ x, e = .returned x) ∧ SetAt w' 45 jb (n + 1) (fun x => x = pk a b ∨ S x) ∧ w.grownBy w' (some jb) := by
  have hlt := ht.lt
  have hput : ∀ m, ∃ w', (Instr.mapUpdate 48 (.map (some jb)) (pv a b) (.agg #[])).run Try.prog ((w.alloc (.cells #[.string a, .string b] 45)).drewN m) = .ok () w' ∧ SetAt w' 45 jb (n + 1) (fun x => x = pk a b ∨ S x) ∧ w.grownBy w' (some jb) ∧ (w.alloc (.cells #[.string a, .string b] 45)).grownBy w' (some jb) := fun m => by
    have h0 : SetAt ((w.alloc (.cells #[.string a, .string b] 45)).drewN m) 45 jb n S := ht.keep (Below.heap_alloc w _ jb hlt)
    obtain ⟨w', h1, h2, h3⟩ := h0.put keyed45 Try.underlying48 hn (keyOf_pv a b ha hb)
    refine ⟨w', h1, h2, ?_⟩
    have hs : w.heap.size + 1 ≤ w'.heap.size := by
      have := h3.size
      simpa using this
    exact ⟨⟨h3.os, h3.tape, h3.output, by omega, fun k hk hne => (h3.block k (by simp; omega) hne).trans (Below.heap_alloc w _ k hk)⟩, ⟨h3.os, h3.tape, h3.output, h3.size, h3.block⟩⟩
  obtain ⟨w0, hw0⟩ : ∃ w0, w0 = w.alloc (.cells #[.string a, .string b] 45) := ⟨_, rfl⟩
  have k0 : w0.cell? ⟨rb, 0, none⟩ = some (.map (some jb)) := by rw [hw0]; exact (World.cell?_of_block (Below.heap_alloc w _ rb hr)).trans hc
  have k1 : w0.cell? ⟨w.heap.size, 0, none⟩ = some (.string a) := by rw [hw0, cell_of_row _ _ 0 _ 45 (0, 0) (heap_alloc_new w _)]; rfl
  have k2 : w0.cell? ⟨w.heap.size, 1, none⟩ = some (.string b) := by rw [hw0, cell_of_row _ _ 1 _ 45 (0, 0) (heap_alloc_new w _)]; rfl
  have hsz : w0.heap.size = w.heap.size + 1 := by rw [hw0]; simp
  have hne : rb ≠ jb := fun e => by
    obtain ⟨D, ⟨es, c, g1, _⟩, _⟩ := ht
    subst e
    simp [World.cell?, g1] at hc
  go_enter Try.func41, Try.ntmps41
  go_wp2_with fail
  rw [← hw0] at hput ⊢
  clear hw0 ht hc
  refine wp_region_noPanic ?_
  refine wp_region_held_drew (S := fun w' => w'.cell? ⟨rb, 0, none⟩ = some (.map (some jb)) ∧ w'.cell? ⟨w.heap.size, 0, none⟩ = some (.string a) ∧ w'.cell? ⟨w.heap.size, 1, none⟩ = some (.string b)) (by kernel_rfl) ⟨k0, k1, k2⟩ (fun hHeld => ?_)
  refine takeD 0 4 (v := ?av0) (by kernel_rfl) (by kernel_rfl) (by kernel_rfl) (by kernel_rfl) (fun _ _ _ _ h => h) ?ah0 hHeld ?_
  case ah0 => (intro oi ho; simp only [List.getElem?_toArray, List.getElem?_cons_zero, Option.some.injEq] at ho; subst ho; refine Or.inl ⟨by rfl, ?_⟩; intro w1 hSw; (try dsimp only at hSw); go_simp <;> with_reducible rfl)
  simp only [Act.put, List.setIfInBounds_toArray, List.set_cons_zero, List.set_cons_succ]
  refine takeD 1 5 (v := ?av1) (by kernel_rfl) (by kernel_rfl) (by kernel_rfl) (by kernel_rfl) (fun _ _ _ _ h => h) ?ah1 hHeld ?_
  case ah1 => (intro oi ho; simp only [List.getElem?_toArray, List.getElem?_cons_succ, List.getElem?_cons_zero, Option.some.injEq] at ho; subst ho; refine Or.inl ⟨by rfl, ?_⟩; intro w1 hSw; (try dsimp only at hSw); go_simp <;> with_reducible rfl)
  simp only [Act.put, List.setIfInBounds_toArray, List.set_cons_zero, List.set_cons_succ]
  refine takeD 2 6 (v := ?av2) (by kernel_rfl) (by kernel_rfl) (by kernel_rfl) (by kernel_rfl) (fun _ _ _ _ h => h) ?ah2 hHeld ?_
  case ah2 => (intro oi ho; simp only [List.getElem?_toArray, List.getElem?_cons_succ, List.getElem?_cons_zero, Option.some.injEq] at ho; subst ho; refine Or.inl ⟨by rfl, ?_⟩; intro w1 hSw; (try dsimp only at hSw); go_simp <;> with_reducible rfl)
  simp only [Act.put, List.setIfInBounds_toArray, List.set_cons_zero, List.set_cons_succ]
  refine takeD 3 7 (v := ?av3) (by kernel_rfl) (by kernel_rfl) (by kernel_rfl) (by kernel_rfl) (fun _ _ _ _ h => h) ?ah3 hHeld ?_
  case ah3 => (intro oi ho; simp only [List.getElem?_toArray, List.getElem?_cons_succ, List.getElem?_cons_zero, Option.some.injEq] at ho; subst ho; refine Or.inl ⟨by rfl, ?_⟩; intro w1 hSw; (try dsimp only at hSw); go_simp <;> with_reducible rfl)
  simp only [Act.put, List.setIfInBounds_toArray, List.set_cons_zero, List.set_cons_succ]
  refine takeD 4 8 (v := ?av4) (by kernel_rfl) (by kernel_rfl) (by kernel_rfl) (by kernel_rfl) (fun _ _ _ _ h => h) ?ah4 hHeld ?_
  case ah4 => (intro oi ho; simp only [List.getElem?_toArray, List.getElem?_cons_succ, List.getElem?_cons_zero, Option.some.injEq] at ho; subst ho; refine Or.inl ⟨by rfl, ?_⟩; intro w1 hSw; (try dsimp only at hSw); go_simp <;> with_reducible rfl)
  simp only [Act.put, List.setIfInBounds_toArray, List.set_cons_zero, List.set_cons_succ]
  refine takeD 5 9 (v := ?av5) (by kernel_rfl) (by kernel_rfl) (by kernel_rfl) (by kernel_rfl) (fun _ _ _ _ h => h) ?ah5 hHeld ?_
  case ah5 => (intro oi ho; simp only [List.getElem?_toArray, List.getElem?_cons_succ, List.getElem?_cons_zero, Option.some.injEq] at ho; subst ho; refine Or.inl ⟨by rfl, ?_⟩; intro w1 hSw; (try dsimp only at hSw); go_simp <;> with_reducible rfl)
  simp only [Act.put, List.setIfInBounds_toArray, List.set_cons_zero, List.set_cons_succ]
  refine oneD 6 (by kernel_rfl) (by kernel_rfl) ?_
  intro oi ho
  simp only [List.getElem?_toArray, List.getElem?_cons_succ, List.getElem?_cons_zero, Option.some.injEq] at ho; subst ho
  intro K' hK
  rw [if_pos (by rfl)]
  obtain ⟨w1, q1, q2, q3, q4⟩ := hput 1
  have q1x : (Instr.mapUpdate 48 (.map (some jb)) (.agg #[.string a, .string b]) (.agg #[])).run Try.prog w0.drew = .ok () w1 := q1
  clear q1 hput
  have Q2 : Hid (SetAt w1 45 jb (n + 1) (fun x => x = pk a b ∨ S x)) := q2
  clear q2
  go_simp
  refine hK.out _ _ ⟨(World.cell?_of_block (q4.block rb (by omega) (fun e => hne (by simpa using e)))).trans k0, (World.cell?_of_block (q4.block w.heap.size (by omega) (by simp; omega))).trans k1, (World.cell?_of_block (q4.block w.heap.size (by omega) (by simp; omega))).trans k2⟩ (fun hHeld => ?_)
  clear hK K'
  refine wpAnyH_done (by kernel_rfl) ?_ _
  refine NoPanic.normal ?_
  go_wp2
  go_end0
  exact ⟨⟨_, rfl⟩, Q2.out, q3⟩

end Go.Proofs.Qxb6609411a
