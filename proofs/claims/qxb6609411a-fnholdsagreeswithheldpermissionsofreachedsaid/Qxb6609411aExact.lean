/-
  Seat b6609411a: heldExactly (30).
-/
import Derived.Test.Qxb6609411aDistinct
import Derived.Test.Qxb6609411aUnion
namespace Go.Proofs.Qxb6609411a
open Go.ChangeShapes Go.WideShapes Go.ChangeAt Go.RowKit
open Go.Maps (Keyed IsMap Tidy)
set_option linter.unusedVariables false

/-- a set's keys, each once; 'len' counts them. -/
theorem SetAt.keys {w : World} {k : TypeId} {b n : Nat} {S : Lit → Prop} (h : SetAt w k b n S) (K : Keyed Try.prog k) {t : TypeId} (ht : Try.prog.underlying t = some (.map k 32)) :
    ∃ ks : List Lit, ks.Nodup ∧ (∀ x, x ∈ ks ↔ S x) ∧ ∀ ty, (Builtin.len_ #[t] ty #[.map (some b)]).run Try.prog w = .ok (.int .i64 (ks.length : Nat)) w := by
  obtain ⟨D, hown, hm⟩ := h
  obtain ⟨es', hD', hpw, hkl⟩ := hown.entries K
  have hlen := fun ty => hown.len ht ty
  subst hD'
  refine ⟨es'.map (·.1), List.pairwise_map.2 hpw, fun x => ?_, fun ty => by rw [hlen ty, List.length_map]; rfl⟩
  rw [← hm x, Maps.has_eq, List.any_eq_true]
  constructor
  · intro hx
    obtain ⟨q, hq, rfl⟩ := List.mem_map.1 hx
    exact ⟨q, hq, WideAt.sameKey_self (hkl q hq)⟩
  · rintro ⟨q, hq, hs⟩
    by_cases e : q.1 = x
    · exact List.mem_map.2 ⟨q, hq, e⟩
    · rw [Maps.sameKey_ne e] at hs
      cases hs

/-- the marked grants' pairs, each once: as many as dcount says. -/
theorem dcount_keys {M : Nat → Bool} {GO GB : Nat → ByteArray} {ng : Nat} (so : ∀ i, i < ng → (GO i).size ≤ maxLen) (sb : ∀ i, i < ng → (GB i).size ≤ maxLen) {ks : List Lit} (hn : ks.Nodup) (hk : ∀ x, x ∈ ks ↔ ∃ g, g < ng ∧ M g = true ∧ x = pk (GO g) (GB g)) : ks.length = dcount M GO GB ng := by
  have key : ∀ n, n ≤ ng → ∃ l : List Lit, l.length = dcount M GO GB n ∧ l.Nodup ∧ ∀ x, x ∈ l ↔ ∃ g, g < n ∧ M g = true ∧ x = pk (GO g) (GB g) := by
    intro n
    induction n with
    | zero => exact fun _ => ⟨[], rfl, List.nodup_nil, fun x => by simp⟩
    | succ n ih =>
      intro hn1
      obtain ⟨l, h1, h2, h3⟩ := ih (by omega)
      by_cases hf : isFst M GO GB n
      · refine ⟨pk (GO n) (GB n) :: l, by rw [List.length_cons, h1, dcount_yes hf], List.nodup_cons.2 ⟨fun hx => ?_, h2⟩, fun x => ?_⟩
        · obtain ⟨g, g1, g2, g3⟩ := (h3 _).1 hx
          obtain ⟨e1, e2⟩ := pk_inj (so n (by omega)) (sb n (by omega)) (so g (by omega)) (sb g (by omega)) g3
          exact hf.2 g g1 ⟨g2, e1.symm, e2.symm⟩
        · rw [List.mem_cons, h3 x]
          constructor
          · rintro (hx | ⟨g, g1, g2, g3⟩)
            · exact ⟨n, by omega, hf.1, hx⟩
            · exact ⟨g, by omega, g2, g3⟩
          · rintro ⟨g, g1, g2, g3⟩
            by_cases e : g = n
            · exact .inl (by rw [g3, e])
            · exact .inr ⟨g, by omega, g2, g3⟩
      · refine ⟨l, by rw [h1, dcount_no hf], h2, fun x => ?_⟩
        rw [h3 x]
        constructor
        · rintro ⟨g, g1, g2, g3⟩
          exact ⟨g, by omega, g2, g3⟩
        · rintro ⟨g, g1, g2, g3⟩
          by_cases e : g = n
          · subst e
            have : ∃ h, h < g ∧ M h = true ∧ GO h = GO g ∧ GB h = GB g := by
              refine Classical.byContradiction fun hno => hf ⟨g2, fun h hh hx => hno ⟨h, hh, hx⟩⟩
            obtain ⟨h, hh, m1, m2, m3⟩ := this
            exact ⟨h, hh, m1, by rw [g3, m2, m3]⟩
          · exact ⟨g, by omega, g2, g3⟩
  obtain ⟨l, h1, h2, h3⟩ := key ng (Nat.le_refl _)
  rw [← h1]
  exact ((List.perm_ext_iff_of_nodup hn h2).2 fun x => (hk x).trans (h3 x).symm).length_eq

set_option maxHeartbeats 4000000 in
set_option maxRecDepth 100000 in
theorem exact_any (hb nn s n0 : Nat) (ag ao ab : Option Addr) (ng cg co cb : Nat) (T : Nat → Bool) (GR : Nat → Nat) (GO GB : Nat → ByteArray) (w : World)
    (hS : SetAt w 45 hb nn (fun y => ∃ g, g < ng ∧ T (GR g) = true ∧ y = pk (GO g) (GB g)))
    (hT : Fl w s 4 n0 n0 (fun v => .bool (T v))) (hG : IsA encI w ag ng (fun i => (GR i : Int))) (hO : IsA encS w ao ng GO) (hB : IsA encS w ab ng GB) (hn0 : n0 ≤ 4096) (hng : ng ≤ 4096) (bg : ∀ i, i < ng → GR i < n0)
    (sO : ∀ i, i < ng → (GO i).size ≤ maxLen) (sB : ∀ i, i < ng → (GB i).size ≤ maxLen) :
    Calls Try.prog 30 #[.map (some hb), .slice (some ⟨s, 0, none⟩) n0 n0, .slice ag ng cg, .slice ao ng co, .slice ab ng cb] w fun e w' => e = .returned (.bool true) ∧ Below w.heap.size w w' := by
  have JS : Hid (SetAt w 45 hb nn (fun y => ∃ g, g < ng ∧ T (GR g) = true ∧ y = pk (GO g) (GB g))) := hS
  have JT : Hid (Fl w s 4 n0 n0 (fun v => .bool (T v))) := hT
  have HG : Hid (IsA encI w ag ng (fun i => (GR i : Int))) := hG
  have HO : Hid (IsA encS w ao ng GO) := hO
  have HB : Hid (IsA encS w ab ng GB) := hB
  clear hS hT hG hO hB
  go_enter Try.func30, Try.ntmps30
  go_wp2
  go_loopw [11] (fun i wr => ∃ k : Nat, k ≤ ng ∧ i = .int .i64 k ∧ Below w.heap.size w wr) (fun i _ => ng - (intOf i).toNat)
  case atStart => exact ⟨0, Nat.zero_le _, rfl, Below.refl _ _⟩
  case round =>
    obtain ⟨k, hk, rfl, hbb⟩ := hrel
    have HBB : Hid (Below w.heap.size w wr) := hbb
    by_cases hlt : k < ng
    · rcases HG.out with h0 | ⟨gb, gof, rfl, hgb0, hgc⟩
      · omega
      rcases HO.out with h0 | ⟨ob, oof, rfl, hob0, hoc⟩
      · omega
      rcases HB.out with h0 | ⟨bb, bof, rfl, hbb0, hbc⟩
      · omega
      have q1 := (hbb.cell (p := ⟨gb, gof + k, none⟩) hgb0).trans (hgc k hlt)
      have q2 := (hbb.cell (p := ⟨ob, oof + k, none⟩) hob0).trans (hoc k hlt)
      have q3 := (hbb.cell (p := ⟨bb, bof + k, none⟩) hbb0).trans (hbc k hlt)
      clear hgc hoc hbc
      have hg1 := bg k hlt
      have q4 := (JT.out.below hbb (Nat.le_refl _)).cell (GR k) hg1
      have ik0 : (0 : Int) ≤ k := by omega
      have ik1 : (k : Int) < ng := by omega
      have ig0 : (0 : Int) ≤ GR k := by omega
      have ig1 : (GR k : Int) < n0 := by omega
      have so := sO k hlt
      have sb := sB k hlt
      have hsz := hbb.size
      cases hTk : T (GR k) with
      | false =>
        rw [hTk] at q4
        clear hbb
        go_wp2
        go_roundw
        case rel => exact ⟨k + 1, by omega, by go_num, HBB.out⟩
        case measure => simp [intOf]; omega
      | true =>
        rw [hTk] at q4
        have hlk : ∀ w' : World, w'.heap[hb]? = wr.heap[hb]? → (Instr.lookup 48 (.map (some hb)) (.agg #[.string (GO k), .string (GB k)]) true).run Try.prog w' = .ok (.tuple #[.agg #[], .bool true]) w' := fun w' e => by
          obtain ⟨ok, h1, h2⟩ := ((JS.out.keep (hbb.block hb JS.out.lt)).keep e).look keyed45 Try.underlying48 (keyOf_pv (GO k) (GB k) so sb)
          have : ok = true := h2.2 ⟨k, hlt, hTk, rfl⟩
          rw [this] at h1
          exact h1
        have hhl : hb < wr.heap.size := Nat.lt_of_lt_of_le JS.out.lt hsz
        clear hbb
        go_wp2_with fail
        refine wp_region_noPanic ?_
        refine wp_region_held_drew (S := fun w' => w'.cell? ⟨ob, oof + k, none⟩ = some (.string (GO k)) ∧ w'.cell? ⟨bb, bof + k, none⟩ = some (.string (GB k)) ∧ (Instr.lookup 48 (.map (some hb)) (.agg #[.string (GO k), .string (GB k)]) true).run Try.prog w' = .ok (.tuple #[.agg #[], .bool true]) w') (by kernel_rfl) ⟨q2, q3, hlk _ rfl⟩ (fun hHeld => ?_)
        refine takeD 0 29 (v := ?av0) (by kernel_rfl) (by kernel_rfl) (by kernel_rfl) (by kernel_rfl) (fun _ _ _ _ h => h) ?ah0 hHeld ?_
        case ah0 => (intro oi ho; simp only [List.getElem?_toArray, List.getElem?_cons_zero, Option.some.injEq] at ho; subst ho; refine Or.inl ⟨by rfl, ?_⟩; intro w1 hSw; (try dsimp only at hSw); go_simp <;> with_reducible rfl)
        simp only [Act.put, List.setIfInBounds_toArray, List.set_cons_zero, List.set_cons_succ]
        refine takeD 1 30 (v := ?av1) (by kernel_rfl) (by kernel_rfl) (by kernel_rfl) (by kernel_rfl) (fun _ _ _ _ h => h) ?ah1 hHeld ?_
        case ah1 => (intro oi ho; simp only [List.getElem?_toArray, List.getElem?_cons_succ, List.getElem?_cons_zero, Option.some.injEq] at ho; subst ho; refine Or.inl ⟨by rfl, ?_⟩; intro w1 hSw; (try dsimp only at hSw); go_simp <;> with_reducible rfl)
        simp only [Act.put, List.setIfInBounds_toArray, List.set_cons_zero, List.set_cons_succ]
        refine takeD 2 31 (v := ?av2) (by kernel_rfl) (by kernel_rfl) (by kernel_rfl) (by kernel_rfl) (fun _ _ _ _ h => h) ?ah2 hHeld ?_
        case ah2 => (intro oi ho; simp only [List.getElem?_toArray, List.getElem?_cons_succ, List.getElem?_cons_zero, Option.some.injEq] at ho; subst ho; refine Or.inl ⟨by rfl, ?_⟩; intro w1 hSw; (try dsimp only at hSw); go_simp <;> with_reducible rfl)
        simp only [Act.put, List.setIfInBounds_toArray, List.set_cons_zero, List.set_cons_succ]
        refine takeD 3 32 (v := ?av3) (by kernel_rfl) (by kernel_rfl) (by kernel_rfl) (by kernel_rfl) (fun _ _ _ _ h => h) ?ah3 hHeld ?_
        case ah3 => (intro oi ho; simp only [List.getElem?_toArray, List.getElem?_cons_succ, List.getElem?_cons_zero, Option.some.injEq] at ho; subst ho; refine Or.inl ⟨by rfl, ?_⟩; intro w1 hSw; (try dsimp only at hSw); go_simp <;> with_reducible rfl)
        simp only [Act.put, List.setIfInBounds_toArray, List.set_cons_zero, List.set_cons_succ]
        refine takeD 4 33 (v := ?av4) (by kernel_rfl) (by kernel_rfl) (by kernel_rfl) (by kernel_rfl) (fun _ _ _ _ h => h) ?ah4 hHeld ?_
        case ah4 => (intro oi ho; simp only [List.getElem?_toArray, List.getElem?_cons_succ, List.getElem?_cons_zero, Option.some.injEq] at ho; subst ho; refine Or.inl ⟨by rfl, ?_⟩; intro w1 hSw; (try dsimp only at hSw); go_simp <;> with_reducible rfl)
        simp only [Act.put, List.setIfInBounds_toArray, List.set_cons_zero, List.set_cons_succ]
        refine takeD 5 34 (v := ?av5) (by kernel_rfl) (by kernel_rfl) (by kernel_rfl) (by kernel_rfl) (fun _ _ _ _ h => h) ?ah5 hHeld ?_
        case ah5 => (intro oi ho; simp only [List.getElem?_toArray, List.getElem?_cons_succ, List.getElem?_cons_zero, Option.some.injEq] at ho; subst ho; refine Or.inl ⟨by rfl, ?_⟩; intro w1 hSw; (try dsimp only at hSw); go_simp <;> with_reducible rfl)
        simp only [Act.put, List.setIfInBounds_toArray, List.set_cons_zero, List.set_cons_succ]
        refine takeD 6 35 (v := ?av6) (by kernel_rfl) (by kernel_rfl) (by kernel_rfl) (by kernel_rfl) (fun _ _ _ _ h => h) ?ah6 hHeld ?_
        case ah6 => (intro oi ho; simp only [List.getElem?_toArray, List.getElem?_cons_succ, List.getElem?_cons_zero, Option.some.injEq] at ho; subst ho; refine Or.inl ⟨by rfl, ?_⟩; intro w1 hSw; (try dsimp only at hSw); go_simp <;> with_reducible rfl)
        simp only [Act.put, List.setIfInBounds_toArray, List.set_cons_zero, List.set_cons_succ]
        refine takeD 7 36 (v := ?av7) (by kernel_rfl) (by kernel_rfl) (by kernel_rfl) (by kernel_rfl) (fun _ _ _ _ h => h) ?ah7 hHeld ?_
        case ah7 => (intro oi ho; simp only [List.getElem?_toArray, List.getElem?_cons_succ, List.getElem?_cons_zero, Option.some.injEq] at ho; subst ho; refine Or.inl ⟨by rfl, ?_⟩; intro w1 hSw; (try dsimp only at hSw); go_simp <;> with_reducible rfl)
        simp only [Act.put, List.setIfInBounds_toArray, List.set_cons_zero, List.set_cons_succ]
        refine takeD 8 37 (v := ?av8) (by kernel_rfl) (by kernel_rfl) (by kernel_rfl) (by kernel_rfl) (fun _ _ _ _ h => h) ?ah8 hHeld ?_
        case ah8 => (intro oi ho; simp only [List.getElem?_toArray, List.getElem?_cons_succ, List.getElem?_cons_zero, Option.some.injEq] at ho; subst ho; refine Or.inl ⟨by rfl, ?_⟩; intro w1 hSw; (try dsimp only at hSw); go_simp <;> with_reducible rfl)
        simp only [Act.put, List.setIfInBounds_toArray, List.set_cons_zero, List.set_cons_succ]
        refine takeD 9 38 (v := ?av9) (by kernel_rfl) (by kernel_rfl) (by kernel_rfl) (by kernel_rfl) (fun _ _ _ _ h => h) ?ah9 hHeld ?_
        case ah9 => (intro oi ho; simp only [List.getElem?_toArray, List.getElem?_cons_succ, List.getElem?_cons_zero, Option.some.injEq] at ho; subst ho; refine Or.inl ⟨by rfl, ?_⟩; intro w1 hSw; (try dsimp only at hSw); go_simp <;> with_reducible rfl)
        simp only [Act.put, List.setIfInBounds_toArray, List.set_cons_zero, List.set_cons_succ]
        refine takeD 10 39 (v := ?av10) (by kernel_rfl) (by kernel_rfl) (by kernel_rfl) (by kernel_rfl) (fun _ _ _ _ h => h) ?ah10 hHeld ?_
        case ah10 => (intro oi ho; simp only [List.getElem?_toArray, List.getElem?_cons_succ, List.getElem?_cons_zero, Option.some.injEq] at ho; subst ho; refine Or.inl ⟨by rfl, ?_⟩; intro w1 hSw; (try dsimp only at hSw); go_simp <;> with_reducible rfl)
        simp only [Act.put, List.setIfInBounds_toArray, List.set_cons_zero, List.set_cons_succ]
        refine takeD 11 28 (v := ?av11) (by kernel_rfl) (by kernel_rfl) (by kernel_rfl) (by kernel_rfl) (fun _ _ _ _ h => h) ?ah11 hHeld ?_
        case ah11 => (intro oi ho; simp only [List.getElem?_toArray, List.getElem?_cons_succ, List.getElem?_cons_zero, Option.some.injEq] at ho; subst ho; refine Or.inl ⟨by rfl, ?_⟩; intro w1 hSw; (try dsimp only at hSw); go_simp <;> with_reducible rfl)
        simp only [Act.put, List.setIfInBounds_toArray, List.set_cons_zero, List.set_cons_succ]
        refine takeD 12 40 (v := ?av12) (by kernel_rfl) (by kernel_rfl) (by kernel_rfl) (by kernel_rfl) (fun _ _ _ _ h => h) ?ah12 hHeld ?_
        case ah12 => (intro oi ho; simp only [List.getElem?_toArray, List.getElem?_cons_succ, List.getElem?_cons_zero, Option.some.injEq] at ho; subst ho; refine Or.inl ⟨by rfl, ?_⟩; intro w1 hSw; (try dsimp only at hSw); go_simp <;> with_reducible rfl)
        simp only [Act.put, List.setIfInBounds_toArray, List.set_cons_zero, List.set_cons_succ]
        refine takeD 13 41 (v := ?av13) (by kernel_rfl) (by kernel_rfl) (by kernel_rfl) (by kernel_rfl) (fun _ _ _ _ h => h) ?ah13 hHeld ?_
        case ah13 => (intro oi ho; simp only [List.getElem?_toArray, List.getElem?_cons_succ, List.getElem?_cons_zero, Option.some.injEq] at ho; subst ho; refine Or.inl ⟨by rfl, ?_⟩; intro w1 hSw; (try dsimp only at hSw); go_simp <;> with_reducible rfl)
        simp only [Act.put, List.setIfInBounds_toArray, List.set_cons_zero, List.set_cons_succ]
        refine oneD 14 (by kernel_rfl) (by kernel_rfl) ?_
        intro oi ho
        simp only [List.getElem?_toArray, List.getElem?_cons_succ, List.getElem?_cons_zero, Option.some.injEq] at ho; subst ho
        intro K' hK
        rw [if_pos (by rfl)]
        go_simp
        refine hK.out _ _ ⟨?_, ?_, ?_⟩ (fun hHeld => ?_)
        · exact (World.cell?_of_block (a := ⟨ob, oof + k, none⟩) (Below.heap_alloc wr.drew _ ob (by show ob < wr.heap.size; omega))).trans q2
        · exact (World.cell?_of_block (a := ⟨bb, bof + k, none⟩) (Below.heap_alloc wr.drew _ bb (by show bb < wr.heap.size; omega))).trans q3
        · exact hlk _ (Below.heap_alloc wr.drew _ hb hhl)
        clear hK K'
        refine oneD 15 (by kernel_rfl) (by kernel_rfl) ?_
        intro oi ho
        simp only [List.getElem?_toArray, List.getElem?_cons_succ, List.getElem?_cons_zero, Option.some.injEq] at ho; subst ho
        intro K' hK
        rw [if_pos (by rfl)]
        go_simp
        refine hK.out _ _ hHeld (fun hHeld => ?_)
        clear hK K'
        refine takeD 16 13 (v := ?av16) (by kernel_rfl) (by kernel_rfl) (by kernel_rfl) (by kernel_rfl) (fun _ _ _ _ h => h) ?ah16 hHeld ?_
        case ah16 => (intro oi ho; simp only [List.getElem?_toArray, List.getElem?_cons_succ, List.getElem?_cons_zero, Option.some.injEq] at ho; subst ho; refine Or.inl ⟨by rfl, ?_⟩; intro w1 hSw; (try dsimp only at hSw); go_simp <;> with_reducible rfl)
        simp only [Act.put, List.setIfInBounds_toArray, List.set_cons_zero, List.set_cons_succ]
        refine wpAnyH_done (by kernel_rfl) ?_ _
        refine NoPanic.normal ?_
        have R1 : Hid (∀ o, Below w.heap.size w (wr.drew.alloc o)) := fun o => (below_drewN HBB.out 1).alloc (by show w.heap.size ≤ wr.heap.size; omega) o
        clear hHeld hlk q1 q2 q3 q4
        go_wp2
        go_roundw
        case rel => exact ⟨k + 1, by omega, by go_num, R1.out _⟩
        case measure => simp [intOf]; omega
    · obtain rfl : ng = k := by omega
      have hset := JS.out.keep (hbb.block hb JS.out.lt)
      obtain ⟨ks, hk1, hk2, hk3⟩ := hset.keys keyed45 Try.underlying48
      have hcount : ks.length = dcount (fun g => T (GR g)) GO GB ng := dcount_keys (M := fun g => T (GR g)) sO sB hk1 hk2
      have K := distinct_any s n0 ag ao ab ng cg co cb T GR GO GB wr (JT.out.below hbb (Nat.le_refl _)) (HG.out.below hbb (Nat.le_refl _)) (HO.out.below hbb (Nat.le_refl _)) (HB.out.below hbb (Nat.le_refl _)) hn0 hng bg
      rw [← hcount] at K
      clear hset hk1 hk2 hcount hbb
      go_wp2_with fail
      refine K.mono ?_
      clear K
      rintro e w2 ⟨rfl, q, rfl⟩
      go_wp2
      go_ret
      exact ⟨by simp, below_drewN HBB.out q⟩
end Go.Proofs.Qxb6609411a
