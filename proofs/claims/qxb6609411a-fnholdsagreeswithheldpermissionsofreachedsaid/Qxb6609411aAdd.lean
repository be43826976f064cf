/-
  Seat b6609411a: the iterator's own state; add (53).
-/
import Derived.Test.Qxb6609411aKeys
namespace Go.Proofs.Qxb6609411a
open Go.ChangeShapes Go.WideShapes Go.ChangeAt Go.RowKit Go.Shelf
open Go.Maps (Keyed IsMap Tidy)
set_option linter.unusedVariables false
attribute [local go_sem] Oper.semAt_some

theorem nodup_len : ∀ (n : Nat) (l : List Nat), l.Nodup → (∀ x, x ∈ l → x < n) → l.length ≤ n
  | 0, l, _, h => by
    cases l with
    | nil => exact Nat.le_refl _
    | cons a l => exact absurd (h a (by simp)) (Nat.not_lt_zero _)
  | n + 1, l, hn, h => by
    have h1 := nodup_len n (l.erase n) (hn.erase n) (fun x hx => by
      have hx1 := (List.Nodup.mem_erase_iff hn).1 hx
      have := h x hx1.2
      have := hx1.1
      omega)
    have h2 := List.length_erase (a := n) (l := l)
    split at h2 <;> omega

/-- blocks below B, and all that is neither cells nor a map, lie as they lay. -/
structure St (B : Nat) (W W' : World) : Prop where
  os : W'.os = W.os
  tape : W'.tape = W.tape
  output : W'.output = W.output
  size : W.heap.size ≤ W'.heap.size
  block : ∀ k, k < B → W'.heap[k]? = W.heap[k]?
  book : ∀ (k : Nat) (o : Obj), W.heap[k]? = some o → o.isCells = false → o.isWalk = false → W'.heap[k]? = some o

theorem St.refl (B : Nat) (W : World) : St B W W := ⟨rfl, rfl, rfl, Nat.le_refl _, fun _ _ => rfl, fun _ _ h _ _ => h⟩
theorem St.trans {B : Nat} {X Y Z : World} (h : St B X Y) (k : St B Y Z) : St B X Z :=
  ⟨k.os.trans h.os, k.tape.trans h.tape, k.output.trans h.output, Nat.le_trans h.size k.size, fun i hi => (k.block i hi).trans (h.block i hi), fun i o hi h1 h2 => k.book i o (h.book i o hi h1 h2) h1 h2⟩
theorem St.mono {B C : Nat} {X Y : World} (h : St B X Y) (hC : C ≤ B) : St C X Y := ⟨h.os, h.tape, h.output, h.size, fun k hk => h.block k (by omega), h.book⟩
/-- a step that turns one block at or beyond B, which is cells or a map. -/
theorem St.grown {B : Nat} {W W' : World} {row : Option Nat} (hg : W.grownBy W' row) (hB : B ≤ W.heap.size) (hr : ∀ r, row = some r → B ≤ r ∧ ∀ o : Obj, W.heap[r]? = some o → o.isCells = true ∨ o.isWalk = true) : St B W W' :=
  ⟨hg.os, hg.tape, hg.output, hg.size, fun k hk => hg.block k (by omega) (fun e => by have := (hr k e.symm).1; omega), fun k o hk h1 h2 => (hg.block k (Array.getElem?_eq_some_iff.1 hk).1 (fun e => by
    rcases (hr k e.symm).2 o hk with h | h
    · rw [h1] at h; cases h
    · rw [h2] at h; cases h)).trans hk⟩
/-- a step that turns what is no cells, laid since W0. -/
theorem St.later {B : Nat} {W0 W W' : World} {row : Option Nat} (h : St B W0 W) (hg : W.grownBy W' row) (hB : B ≤ W0.heap.size) (hr : ∀ r, row = some r → W0.heap.size ≤ r) : St B W0 W' :=
  ⟨hg.os.trans h.os, hg.tape.trans h.tape, hg.output.trans h.output, Nat.le_trans h.size hg.size,
    fun k hk => (hg.block k (by have := h.size; omega) (fun e => by have := hr k e.symm; omega)).trans (h.block k hk),
    fun k o hk h1 h2 => by
      have hlt := (Array.getElem?_eq_some_iff.1 hk).1
      have h3 := h.book k o hk h1 h2
      exact (hg.block k (by have := h.size; omega) (fun e => by have := hr k e.symm; omega)).trans h3⟩

theorem KeepBut.of_others {sb : Nat} {W W' : World} (h : KeepsOthers W W') : KeepBut sb W W' := ⟨h.size, fun k o _ hk ho => h.same k o hk (Obj.not_cells_of_walk ho)⟩
theorem KeepBut.of_grown {sb : Nat} {W W' : World} (hg : W.grownBy W' (some sb)) : KeepBut sb W W' := ⟨hg.size, fun k o hne hk _ => (hg.block k (Array.getElem?_eq_some_iff.1 hk).1 (fun e => hne (by simpa using e))).trans hk⟩
theorem St.of_others {B : Nat} {W W' : World} (hb : Below B W W') (h : KeepsOthers W W') : St B W W' := ⟨hb.os, hb.tape, hb.output, hb.size, hb.block, fun k o hk h1 _ => h.same k o hk h1⟩
theorem SetAt.walk {w : World} {k : TypeId} {b n : Nat} {S : Lit → Prop} (h : SetAt w k b n S) : ∃ o : Obj, w.heap[b]? = some o ∧ o.isWalk = true ∧ o.isCells = false := by
  obtain ⟨D, ⟨es, c, h1, _⟩, _⟩ := h
  exact ⟨_, h1, rfl, rfl⟩

structure ItSt (n0 s0 : Nat) (S L : List Nat) (W : World) : Prop where
  bx : Boxed W (s0 + 1) 29 (.map (some s0))
  set : SetAt W 9 s0 S.length (fun x => ∃ v, v ∈ S ∧ x = .string (nmL v))
  pend : ∃ v, Boxed W (s0 + 2) 37 v ∧ W.ownsRow s0 9 1 v L.length (L.map fun v => Value.string (nm v))
  sn : S.Nodup
  sl : ∀ v, v ∈ S → v < n0
  ln : L.Nodup
  ls : ∀ v, v ∈ L → v ∈ S

/-- the state abides the turn of a block that is no cells, and not the set. -/
theorem ItSt.own {n0 s0 : Nat} {S L : List Nat} {W W' : World} {row : Option Nat} (h : ItSt n0 s0 S L W) (hg : W.grownBy W' row) (hr : ∀ r, row = some r → r ≠ s0 ∧ ∃ o : Obj, W.heap[r]? = some o ∧ o.isCells = false) : ItSt n0 s0 S L W' := by
  obtain ⟨bx, set, ⟨v, hv, hrow⟩, sn, sl, ln, ls⟩ := h
  have nb : ∀ {B : Nat} {t : TypeId} {u : Value}, Boxed W B t u → some B ≠ row := fun hb e => by
    obtain ⟨_, o, ho, hc⟩ := hr _ e.symm
    rw [show W.heap[_]? = _ from hb] at ho
    cases ho
    cases hc
  refine ⟨bx.kept hg (nb bx), set.keep (hg.block s0 set.lt (fun e => (hr _ e.symm).1 rfl)), ⟨v, hv.kept hg (nb hv), hrow.kept hg ?_⟩, sn, sl, ln, ls⟩
  rcases hrow.2 with ⟨rfl, _⟩ | ⟨g, cap, cur, rfl, _, hgb, _⟩
  · exact .inl rfl
  · refine .inr fun e' => ?_
    obtain ⟨_, o, ho, hc⟩ := hr g (by simpa [Value.ownBlock] using e'.symm)
    rw [hgb] at ho
    cases ho
    cases hc

/-- what an 'add' has brought. -/
structure News (n0 : Nat) (S pre new : List Nat) : Prop where
  nd : new.Nodup
  old : ∀ x, x ∈ new → x ∈ pre ∧ x ∉ S
  all : ∀ x, x ∈ pre → x ∈ S ∨ x ∈ new

theorem info9 : (Try.prog.info? 9).map (fun i => (i.zero, i.size, i.bytes)) = some (some (.string ⟨#[]⟩), 1, 16) := by kernel_rfl

def AddI (n0 s0 : Nat) (S L : List Nat) (W0 : World) (pre : List (Fin n0)) (W : World) : Prop :=
  ∃ new, ItSt n0 s0 (S ++ new) (L ++ new) W ∧ News n0 S (pre.map (·.1)) new ∧ St s0 W0 W

theorem addI_own (n0 s0 : Nat) (S L : List Nat) (W0 : World) (hs : s0 < W0.heap.size) : OwnFrom W0.heap.size (AddI n0 s0 S L W0) := by
  rintro pre W W' row ⟨new, h1, h2, h3⟩ hg hr
  exact ⟨new, h1.own hg (fun r e => ⟨by have := (hr r e).1; omega, (hr r e).2⟩), h2, h3.later hg (by omega) (fun r e => (hr r e).1)⟩

set_option maxRecDepth 100000 in
set_option maxHeartbeats 2000000 in
theorem add_in {n0 : Nat} (hn0 : n0 ≤ 4096) (n : Nat) (hn : 3 ≤ n) (s0 bm mb nn : Nat) (D0 : DataW Unit) (hnm : ∀ x, Maps.has D0 (.string x) = true → ∃ v : Fin n0, x = nmL v) (S L : List Nat) (w : World)
    (hbm : bm < w.heap.size) (hm : w.cell? ⟨bm, 0, none⟩ = some (.map (some mb))) (hown : w.ownsMap Try.prog 9 unitElem mb nn D0) (hmb : mb ≠ s0) (hI : ItSt n0 s0 S L w) :
    CallsIn Fence.wide n Try.prog 53 #[.func (.func 54) #[] #[.pointer (some ⟨bm, 0, none⟩)], .pointer (some ⟨s0 + 1, 0, none⟩), .pointer (some ⟨s0 + 2, 0, none⟩)] w fun e W' => (∃ v, e = .returned v) ∧
      ∃ new, ItSt n0 s0 (S ++ new) (L ++ new) W' ∧ new.Nodup ∧ (∀ x, x ∈ new → Maps.has D0 (.string (nmL x)) = true ∧ x ∉ S) ∧ (∀ v : Fin n0, Maps.has D0 (.string (nmL v)) = true → v.1 ∈ S ∨ v.1 ∈ new) ∧ St s0 w W' := by
  have h1 : 1 ≤ n := by omega
  obtain ⟨i0, hi, hz0, hz1, hz2⟩ := info_parts info9
  have hs0 := hI.set.lt
  refine callsIn_of_wp_marks Try.func53 rfl trivial ?_ rfl
  simp only [Try.ntmps53, List.size_toArray, List.length_cons, List.length_nil, Nat.reduceAdd, Nat.reduceSub, Array.replicate_succ, Array.replicate_zero, List.push_toArray, List.append_toArray, List.nil_append, List.cons_append]
  gi_wp2
  refine wpIn_rangeFunc_ownG rfl h1 (gf := 54) (lb := #[.pointer (some ⟨bm, 0, none⟩)]) rfl trivial (enters_of Try.func54 (by kernel_rfl) rfl)
    (keys_stops (by omega) (n - 1) bm mb nn s0 hmb D0 hnm w hbm hs0 hm hown) KeepBut.t KeepBut.b (Below.refl _ _) (fun _ => rfl)
    (AddI n0 s0 S L w) (fun _ _ _ => False) (addI_own n0 s0 S L w hs0) (fun _ _ _ _ _ hs _ _ => hs)
    ⟨[], by simpa using hI, ⟨List.nodup_nil, by simp, by simp⟩, St.refl _ _⟩
    (fun x => { tmps := #[.func (.func 54) #[] #[.pointer (some ⟨bm, 0, none⟩)], .pointer (some ⟨s0 + 1, 0, none⟩), .pointer (some ⟨s0 + 2, 0, none⟩), undef, .string (nm x), undef, undef, .func (.func 54) #[] #[.pointer (some ⟨bm, 0, none⟩)], .string (nm x), undef, undef, undef, undef, undef, undef, undef, undef, undef, undef, undef, undef, undef, undef, undef], defers := [] }) ?assign ?body ?done ?stop
  case assign =>
    intro l x W K hK
    gi_wp2
    exact hK
  case body =>
    rintro l pre x W ⟨new, hIt, hNw, hSt⟩ hlt
    obtain ⟨ok, hlk, hok⟩ := hIt.set.look keyed9 Try.underlying29 (key_nm x)
    have hbx := hIt.bx.cell
    have hmem : ok = true ↔ x.1 ∈ S ++ new := by
      rw [hok]
      constructor
      · rintro ⟨v, hv, e⟩
        have : x.1 = v := nmL_inj (by omega) (by have := hIt.sl v hv; omega) (by simpa using e)
        rw [this]
        exact hv
      · exact fun h => ⟨x.1, h, rfl⟩
    have hsz := hSt.size
    cases ok with
    | true =>
      have hx : x.1 ∈ S ++ new := hmem.1 rfl
      gi_wp2
      refine ⟨(KeepsOthers.alloc _ _).from _, KeepBut.of_others (KeepsOthers.alloc _ _), new, hIt.own (World.grownBy_alloc W _ none) (fun r e => by cases e), ⟨hNw.nd, fun y hy => ⟨by simp [(hNw.old y hy).1], (hNw.old y hy).2⟩, fun y hy => ?_⟩, hSt.later (World.grownBy_alloc W _ none) (by omega) (fun r e => by cases e)⟩
      simp only [List.map_append, List.map_cons, List.map_nil, List.mem_append, List.mem_singleton] at hy
      rcases hy with hy | rfl
      · exact hNw.all y hy
      · simpa using hx
    | false =>
      have hx : x.1 ∉ S ++ new := fun h => by have := hmem.2 h; cases this
      have hlen1 := nodup_len n0 _ hIt.sn hIt.sl
      have hlen2 := nodup_len n0 _ hIt.ln (fun v hv => hIt.sl v (hIt.ls v hv))
      obtain ⟨w2, hup, hset2, hg2⟩ := (hIt.set.keep (Below.heap_alloc W (.cells #[] 32) s0 hIt.set.lt)).put keyed9 Try.underlying29 (by unfold maxLen; omega) (key_nm x)
      obtain ⟨v, hv, hrow⟩ := hIt.pend
      obtain ⟨ow, how1, how2, how3⟩ := (hIt.set.keep (Below.heap_alloc W (.cells #[] 32) s0 hIt.set.lt)).walk
      have hv2 : Boxed w2 (s0 + 2) 37 v := (hv.alloc _).kept hg2 (by simp)
      have bx2 : Boxed w2 (s0 + 1) 29 (.map (some s0)) := (hIt.bx.alloc _).kept hg2 (by simp)
      have hrow2 : w2.ownsRow s0 9 1 v (L ++ new).length ((L ++ new).map fun v => Value.string (nm v)) := (hrow.alloc (.cells #[] 32)).kept hg2 (by
        rcases (hrow.alloc (.cells #[] 32)).2 with ⟨rfl, _⟩ | ⟨g, cap, cur, rfl, _, hgb, _⟩
        · exact .inl rfl
        · refine .inr fun e' => ?_
          have e2 : g = s0 := by simpa [Value.ownBlock] using e'
          subst e2
          rw [hgb] at how1
          cases how1
          cases how3)
      have hsw2 : s0 ≤ w2.heap.size := Nat.le_of_lt hset2.lt
      have hc2 := hv2.cell
      have hb1c := (hIt.bx.alloc (.cells #[] 32)).cell
      have hs2 : W.heap.size + 1 ≤ w2.heap.size := by have := hg2.size; simpa using this
      gi_wp2_with (gi_at_builtin; refine wpListIn_append_own _ rfl _ _ 37 rfl s0 9 i0 (.string ⟨#[]⟩) 1 16 Try.underlying37 hi hz0 hz1 hz2 rfl (by decide) _ _ _ rfl (hrow2.alloc _) ⟨w2.heap.size, 0, none⟩ 1 1 [.string (nm x)] rfl rfl (cell_one_new _ _ _) (by simp [Value.oneCell']) (by unfold maxLen; omega) (by omega) (by simp; omega) ?_; intro v' w3 hown' hgrow _; obtain ⟨g', cap', rfl⟩ := ownsRow_succ hown'; obtain ⟨hv3, hv4, hr4, hk4, hb4⟩ := hv2.appended (by decide) hrow2 hsw2 (by omega) hown' hgrow; have hc3 := hv3.cell; have hf3 := hv3.frozen)
      · rename_i hfr
        rw [hf3] at hfr
        cases hfr
      · rw [show L.length + new.length + 1 = (L ++ new).length + 1 by simp]
        have bx3 : Boxed (w3.setCell ⟨s0 + 2, 0, none⟩ (.slice (some ⟨g', 0, none⟩) ((L ++ new).length + 1) cap')) (s0 + 1) 29 (.map (some s0)) := ((bx2.alloc _).kept hgrow (bx2.not_row (by decide) hrow2)).other (by omega) _
        obtain ⟨ox, hox1, hox2, hox3⟩ := hset2.walk
        have hset4 : SetAt (w3.setCell ⟨s0 + 2, 0, none⟩ (.slice (some ⟨g', 0, none⟩) ((L ++ new).length + 1) cap')) 9 s0 ((S ++ new).length + 1) _ := hset2.keep ((hk4.same s0 ox hox1 hox3).trans hox1.symm)
        have hSt4 : St s0 W (w3.setCell ⟨s0 + 2, 0, none⟩ (.slice (some ⟨g', 0, none⟩) ((L ++ new).length + 1) cap')) :=
          ((St.grown (World.grownBy_alloc W _ none) (by omega) (fun r e => by cases e)).trans (St.grown hg2 (by simp; omega) (fun r e => by
            cases e
            refine ⟨Nat.le_refl _, fun o ho => .inr ?_⟩
            rw [how1] at ho
            cases ho
            exact how2))).trans (St.of_others hb4 hk4)
        refine ⟨(((KeepsOthers.alloc W (.cells #[] 32)).from _).trans (KeepsFrom.of_grownBy hg2 (fun j e => by cases e; exact hs0))).trans (hk4.from _), ((KeepBut.of_others (KeepsOthers.alloc W (.cells #[] 32))).t (KeepBut.of_grown hg2)).t (KeepBut.of_others hk4),
          new ++ [x.1], ⟨bx3, ?_, ⟨_, hv4, ?_⟩, ?_, ?_, ?_, ?_⟩, ⟨?_, ?_, ?_⟩, hSt.trans hSt4⟩
        · have e1 : (S ++ (new ++ [x.1])).length = (S ++ new).length + 1 := by simp; omega
          rw [e1]
          refine hset4.congr fun y => ?_
          constructor
          · rintro (rfl | ⟨v, hv, rfl⟩)
            · exact ⟨x.1, by simp, rfl⟩
            · exact ⟨v, by simp only [List.mem_append] at hv ⊢; rcases hv with hv | hv; exact .inl hv; exact .inr (.inl hv), rfl⟩
          · rintro ⟨v, hv, rfl⟩
            simp only [List.mem_append, List.mem_singleton] at hv
            rcases hv with hv | hv | rfl
            · exact .inr ⟨v, by simp [hv], rfl⟩
            · exact .inr ⟨v, by simp [hv], rfl⟩
            · exact .inl rfl
        · have e1 : (L ++ (new ++ [x.1])).length = (L ++ new).length + 1 := by simp; omega
          rw [e1]
          simpa using hr4
        · rw [← List.append_assoc]
          exact List.nodup_append.2 ⟨hIt.sn, by simp, fun a ha b hb => by simp at hb; subst hb; exact fun e => hx (e ▸ ha)⟩
        · intro y hy
          simp only [List.mem_append, List.mem_singleton] at hy
          rcases hy with hy | hy | rfl
          · exact hIt.sl y (by simp [hy])
          · exact hIt.sl y (by simp [hy])
          · exact x.2
        · rw [← List.append_assoc]
          exact List.nodup_append.2 ⟨hIt.ln, by simp, fun a ha b hb => by simp at hb; subst hb; exact fun e => hx (hIt.ls _ (e ▸ ha))⟩
        · intro y hy
          simp only [List.mem_append, List.mem_singleton] at hy
          rcases hy with hy | hy | rfl
          · have := hIt.ls y (by simp [hy])
            simp only [List.mem_append] at this ⊢
            rcases this with h | h
            · exact .inl h
            · exact .inr (.inl h)
          · simp [hy]
          · simp
        · exact List.nodup_append.2 ⟨hNw.nd, by simp, fun a ha b hb => by simp at hb; subst hb; exact fun e => hx (by rw [← e]; simp [ha])⟩
        · intro y hy
          simp only [List.mem_append, List.mem_singleton] at hy
          rcases hy with hy | rfl
          · exact ⟨by simp [(hNw.old y hy).1], (hNw.old y hy).2⟩
          · exact ⟨by simp, fun h => hx (by simp [h])⟩
        · intro y hy
          simp only [List.map_append, List.map_cons, List.map_nil, List.mem_append, List.mem_singleton] at hy ⊢
          rcases hy with hy | rfl
          · rcases hNw.all y hy with h | h
            · exact .inl h
            · exact .inr (.inl h)
          · exact .inr (.inr rfl)
  case done =>
    rintro D ys W hD hys ⟨new, hIt, hNw, hSt⟩ hK
    gi_wp2
    have hg := grownBy_putObj' W D (.deferred none)
    have hno : ∀ r, some D = some r → r ≠ s0 ∧ ∃ o : Obj, W.heap[r]? = some o ∧ o.isCells = false := fun r e => by
      cases e
      exact ⟨by omega, _, hK, rfl⟩
    refine ⟨by simp, .inl ⟨_, _, rfl, run_takeDeferred hK, ?_⟩⟩
    refine ⟨_, results_none rfl _ _ _, ⟨_, rfl⟩, new, hIt.own hg hno, hNw.nd, fun x hx => ?_, fun v hv => ?_, hSt.later hg (by omega) (fun r e => by cases e; exact hD)⟩
    · obtain ⟨h1, h2⟩ := hNw.old x hx
      obtain ⟨v, hv, rfl⟩ := List.mem_map.1 h1
      exact ⟨(hys.2 v).1 hv, h2⟩
    · exact hNw.all v.1 (List.mem_map.2 ⟨v, (hys.2 v).2 hv, rfl⟩)
  case stop =>
    rintro D c pre W _ _ h _
    exact h.elim
end Go.Proofs.Qxb6609411a
