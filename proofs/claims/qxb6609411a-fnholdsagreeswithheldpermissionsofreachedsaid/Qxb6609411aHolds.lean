/-
  Seat b6609411a: reach (42); holds (47), ZZholds (24).
-/
import Derived.Test.Qxb6609411aReach
import Derived.Test.Qxb6609411aHeld
namespace Go.Proofs.Qxb6609411a
open Go.ChangeShapes Go.WideShapes Go.ChangeAt Go.RowKit Go.Shelf
set_option linter.unusedVariables false
attribute [local go_sem] Oper.semAt_some

abbrev keysF (bm : Nat) : Value := .func (.func 54) #[] #[.pointer (some ⟨bm, 0, none⟩)]
abbrev juniF : Value := .func (.func 46) #[] #[]

set_option maxHeartbeats 1000000 in
theorem reach_in (n pb bm : Nat) (w : World) :
    CallsIn Fence.wide n Try.prog 42 #[.pointer (some ⟨pb, 0, none⟩), keysF bm, juniF] w fun e w' => e = .returned (.func (.func 52) #[] #[.pointer (some ⟨w.heap.size + 1, 0, none⟩), .pointer (some ⟨w.heap.size, 0, none⟩), .pointer (some ⟨w.heap.size + 1 + 1, 0, none⟩)]) ∧
      w' = ((w.alloc (.cells #[.pointer (some ⟨pb, 0, none⟩)] 27)).alloc (.cells #[keysF bm] 64)).alloc (.cells #[juniF] 66) := by
  refine callsIn_of_wp Try.func42 rfl trivial ?_ rfl
  simp only [Try.ntmps42, List.size_toArray, List.length_cons, List.length_nil, Nat.reduceAdd, Nat.reduceSub, Array.replicate_succ, Array.replicate_zero, List.push_toArray, List.append_toArray, List.nil_append, List.cons_append]
  gi_wp2
  go_ret
  exact ⟨rfl, rfl⟩

theorem reach_stops {n0 : Nat} (hn0 : n0 ≤ 4096) (n : Nat) (hn : 4 ≤ n) (K c Bf Bp Bn bm fm nf pb rb : Nat) (B : Nat → Nat → Nat) (FS : Lit → Prop) (PS JS : Nat → Lit → Prop) (hFS : ∀ x, FS x → ∃ v : Fin n0, x = .string (nmL v)) (hJS : ∀ u x, JS u x → ∃ v : Fin n0, x = .string (nmL v))
    (w : World) (hK : K ≤ w.heap.size) (hC : Cap w K n0 c Bf Bp Bn bm fm nf pb rb B FS PS JS) :
    SeqStopsX n 52 #[.pointer (some ⟨Bf, 0, none⟩), .pointer (some ⟨Bp, 0, none⟩), .pointer (some ⟨Bn, 0, none⟩)] (encR (n0 := n0) B) (Kp w.heap.size K)
      (fun xs => xs.Nodup ∧ ∀ v : Fin n0, v ∈ xs ↔ Rc (FrN n0 FS) (EdN n0 JS) v) (fun pre => ∀ v, v ∈ pre → Rc (FrN n0 FS) (EdN n0 JS) v.1) w := fun l J Jx W hW hs hJ hJx hY h0 =>
  reach1_in hn0 n hn K c Bf Bp Bn bm fm nf pb rb w.heap.size B FS PS JS hFS hJS l J Jx W hK hs (hC.lo ⟨hW.size, fun k hk => hW.block k (by omega)⟩) hJ hJx hY h0

/-- one role's grants give the permission. -/
def gives (PS : Nat → Lit → Prop) (a b : ByteArray) (v : Nat) : Prop := PS v (pk a b) ∨ (wildB b = true ∧ PS v (pk a evS))

structure HoldI {n0 : Nat} (w : World) (pb rb c : Nat) (B : Nat → Nat → Nat) (PS JS : Nat → Lit → Prop) (a b : ByteArray) (pre : List (Fin n0)) (W : World) : Prop where
  bp : W.heap[w.heap.size]? = some (.cells #[.string a, .string b] 45 (0, 0))
  br : Boxed W (w.heap.size + 1) 4 (.bool false)
  pol : Pol W pb rb B n0 c PS JS
  no : ∀ v, v ∈ pre → ¬ gives PS a b v.1
  bel : Below w.heap.size w W
structure HoldX {n0 : Nat} (w : World) (PS : Nat → Lit → Prop) (a b : ByteArray) (co : Code) (pre : List (Fin n0)) (W : World) : Prop where
  ret : co = .ret
  br : Boxed W (w.heap.size + 1) 4 (.bool true)
  yes : ∃ v, v ∈ pre ∧ gives PS a b v.1
  bel : Below w.heap.size w W

set_option maxRecDepth 100000 in
set_option maxHeartbeats 4000000 in
theorem holds_in {n0 : Nat} (hn0 : n0 ≤ 4096) (n : Nat) (hn : 6 ≤ n) (c fm nf pb rb : Nat) (B : Nat → Nat → Nat) (FS : Lit → Prop) (PS JS : Nat → Lit → Prop) (hFS : ∀ x, FS x → ∃ v : Fin n0, x = .string (nmL v)) (hJS : ∀ u x, JS u x → ∃ v : Fin n0, x = .string (nmL v))
    (a b : ByteArray) (ha : a.size ≤ maxLen) (hb : b.size ≤ maxLen) (w : World) (hF : SetAt w 9 fm nf FS) (hP : Pol w pb rb B n0 c PS JS) :
    CallsIn Fence.wide n Try.prog 47 #[.pointer (some ⟨pb, 0, none⟩), .map (some fm), pv a b] w fun e W' =>
      (∃ r : Bool, e = .returned (.bool r) ∧ (r = true ↔ ∃ v, Rc (FrN n0 FS) (EdN n0 JS) v ∧ gives PS a b v)) ∧ Below w.heap.size w W' := by
  have h1 : 1 ≤ n := by omega
  refine callsIn_of_wp_marks Try.func47 rfl trivial ?_ rfl
  simp only [Try.ntmps47, List.size_toArray, List.length_cons, List.length_nil, Nat.reduceAdd, Nat.reduceSub, Array.replicate_succ, Array.replicate_zero, List.push_toArray, List.append_toArray, List.nil_append, List.cons_append]
  gi_wp2_with fail
  refine ⟨trivial, (keys_in (n - 1) (some fm) _).mono ?_⟩
  rintro e W1 ⟨rfl, hW1⟩
  have hs1 : W1.heap.size = w.heap.size + 1 + 1 + 1 := by rw [hW1]; simp
  have hb1 : Below w.heap.size w W1 := by rw [hW1]; exact ((((Below.refl _ _).alloc (Nat.le_refl _) _).alloc (by simp) _).alloc (by simp; omega) _)
  have hbp1 : W1.heap[w.heap.size]? = some (.cells #[.string a, .string b] 45 (0, 0)) := by
    rw [hW1]
    exact ((Below.heap_alloc _ _ _ (by simp; omega)).trans (Below.heap_alloc _ _ _ (by simp))).trans (heap_alloc_new w _)
  have hbr1 : Boxed W1 (w.heap.size + 1) 4 (.bool false) := by
    rw [hW1]
    have := (Boxed.new (w.alloc (.cells #[.string a, .string b] 45)) 4 (.bool false)).alloc (.cells #[.map (some fm)] 29)
    rwa [World.size_alloc] at this
  have hbm1 : Boxed W1 (w.heap.size + 1 + 1) 29 (.map (some fm)) := by
    rw [hW1]
    have := Boxed.new ((w.alloc (.cells #[.string a, .string b] 45)).alloc (.cells #[.bool false] 4)) 29 (.map (some fm))
    rwa [World.size_alloc, World.size_alloc] at this
  clear hW1
  have HS1 : Hid (W1.heap.size = w.heap.size + 1 + 1 + 1) := hs1
  clear hs1
  gi_wp2_with fail
  refine ⟨trivial, (reach_in (n - 1) pb (w.heap.size + 1 + 1) W1).mono ?_⟩
  rintro e W2 ⟨rfl, hW2⟩
  have hs1 := HS1.out
  have hs2 : W2.heap.size = W1.heap.size + 1 + 1 + 1 := by rw [hW2]; simp
  have hb2 : Below W1.heap.size W1 W2 := by rw [hW2]; exact ((((Below.refl _ _).alloc (Nat.le_refl _) _).alloc (by simp) _).alloc (by simp; omega) _)
  have hbP : Boxed W2 W1.heap.size 27 (.pointer (some ⟨pb, 0, none⟩)) := by
    rw [hW2]
    exact ((Boxed.new W1 27 (.pointer (some ⟨pb, 0, none⟩))).alloc _).alloc _
  have hbF : Boxed W2 (W1.heap.size + 1) 64 (keysF (w.heap.size + 1 + 1)) := by
    rw [hW2]
    have := (Boxed.new (W1.alloc (.cells #[.pointer (some ⟨pb, 0, none⟩)] 27)) 64 (keysF (w.heap.size + 1 + 1))).alloc (.cells #[juniF] 66)
    rwa [World.size_alloc] at this
  have hbN : Boxed W2 (W1.heap.size + 1 + 1) 66 juniF := by
    rw [hW2]
    have := Boxed.new ((W1.alloc (.cells #[.pointer (some ⟨pb, 0, none⟩)] 27)).alloc (.cells #[keysF (w.heap.size + 1 + 1)] 64)) 66 juniF
    rwa [World.size_alloc, World.size_alloc] at this
  clear hW2
  have hbB : Below w.heap.size w W2 := hb1.trans (hb2.mono (by omega))
  have hP2 := (hP.below hb1 (Nat.le_refl _)).below hb2 (Nat.le_refl _)
  have hF2 := hF.keep (hbB.block fm hF.lt)
  have hC : Cap W2 W2.heap.size n0 c (W1.heap.size + 1) W1.heap.size (W1.heap.size + 1 + 1) (w.heap.size + 1 + 1) fm nf pb rb B FS PS JS :=
    ⟨hbF, hbP, hbN, (hb2.block _ (by omega)).trans hbm1, hF2, hP2, ⟨⟨hbF.lt, hbP.lt⟩, ⟨hbN.lt, by omega⟩, ⟨hF2.lt, hP2.pl⟩, hP2.tab.lt⟩, hP2.lt⟩
  have hI0 : HoldI (n0 := n0) w pb rb c B PS JS a b [] W2 := ⟨(hb2.block _ (by omega)).trans hbp1, (hb2.block _ (by omega)).trans hbr1, hP2, by simp, hbB⟩
  have hRS := reach_stops hn0 (n - 1) (by omega) W2.heap.size c (W1.heap.size + 1) W1.heap.size (W1.heap.size + 1 + 1) (w.heap.size + 1 + 1) fm nf pb rb B FS PS JS hFS hJS W2 (Nat.le_refl _) hC
  have HS2 : Hid (W2.heap.size = W1.heap.size + 1 + 1 + 1) := hs2
  clear hbP hbF hbN hb1 hb2 hbp1 hbr1 hbm1 hP2 hF2 hC hs1 hs2
  gi_wp2
  refine range_law h1 (gf := 52) (lb := #[.pointer (some ⟨W1.heap.size + 1, 0, none⟩), .pointer (some ⟨W1.heap.size, 0, none⟩), .pointer (some ⟨W1.heap.size + 1 + 1, 0, none⟩)]) rfl (enters_of Try.func52 (by kernel_rfl) rfl) hRS (fun _ => rfl)
    (HoldI w pb rb c B PS JS a b) (HoldX w PS a b) ?hI ?hIx hI0
    (fun x => { tmps := #[.pointer (some ⟨pb, 0, none⟩), .map (some fm), pv a b, undef, undef, .pointer (some ⟨w.heap.size, 0, none⟩), .pointer (some ⟨w.heap.size + 1, 0, none⟩), undef, .pointer (some ⟨B 0 x, 0, none⟩), .pointer (some ⟨pb, 0, none⟩), .map (some fm), keysF (w.heap.size + 1 + 1), .func (.func 52) #[] #[.pointer (some ⟨W1.heap.size + 1, 0, none⟩), .pointer (some ⟨W1.heap.size, 0, none⟩), .pointer (some ⟨W1.heap.size + 1 + 1, 0, none⟩)], .string (nm x), .pointer (some ⟨B 0 x, 0, none⟩), undef, undef, undef, undef, undef, undef], defers := [] }) ?assign ?body ?done ?stop
  case hI =>
    have hs1 := HS1.out
    have hs2 := HS2.out
    rintro pre A A' ⟨k1, k2, k3, k4, k5⟩ hbl
    exact ⟨(hbl.block _ (by omega)).trans k1, (hbl.block _ (by omega)).trans k2, k3.keep hbl.size (hbl.block _ (by have := hP.pl; omega)) (hbl.block _ (by have := hP.tab.lt; omega)) (fun k v hk hv => hbl.block _ (by have := hP.lt k v hk hv; omega)), k4, k5.trans (hbl.mono (by omega))⟩
  case hIx =>
    have hs1 := HS1.out
    have hs2 := HS2.out
    rintro co pre A A' ⟨k1, k2, k3, k4⟩ hbl
    exact ⟨k1, (hbl.block _ (by omega)).trans k2, k3, k4.trans (hbl.mono (by omega))⟩
  case assign =>
    intro l x W K hK
    gi_wp2
    exact hK
  case body =>
    rintro l pre x W hsz ⟨k1, k2, k3, k4, k5⟩
    have kc := k3.c0 x x.2
    have ka : W.cell? ⟨w.heap.size, 0, none⟩ = some (.string a) := by rw [cell_of_row _ _ 0 _ 45 (0, 0) k1]; rfl
    have kb : W.cell? ⟨w.heap.size, 1, none⟩ = some (.string b) := by rw [cell_of_row _ _ 1 _ 45 (0, 0) k1]; rfl
    have hH : ∀ m, CallsIn (Fence.wide.inRound l) (n - 1 - 1 - 1) Try.prog 50 #[.map (some (B 1 x)), .agg #[.string a, .string b]] (W.drewN m) fun e w' => HeldOut (PS x) a b e ∧ Below W.heap.size W w' := fun m => CallsIn.inRound l (callsIn_wide.2 ((heldIn_any (B 1 x) c (PS x) a b ha hb (W.drewN m) ((k3.perms x x.2).keep rfl)).mono fun e w' ⟨q1, q2⟩ => ⟨q1, q2.os, q2.tape, q2.output, q2.size, q2.block⟩))
    have hH1 : CallsIn (Fence.wide.inRound l) (n - 1 - 1 - 1) Try.prog 50 #[.map (some (B 1 x)), .agg #[.string a, .string b]] W.drew fun e w' => HeldOut (PS x) a b e ∧ Below W.heap.size W w' := hH 1
    clear hH
    have hd : 1 ≤ n - 1 - 1 := by omega
    have hmx : Try.prog.follows .mixedOrders = true := by kernel_rfl
    gi_wp2
    gi_region_with_o (refine ⟨trivial, ?_⟩; gi_at_call 50; refine hH1.mono ?_; rintro e w' ⟨⟨r, rfl, hr⟩, hb5⟩)
    all_goals
      have kr : Boxed w' (w.heap.size + 1) 4 (.bool false) := (hb5.block _ (by have := HS1.out; have := HS2.out; omega)).trans k2
      have krc := kr.cell
      have krf := kr.frozen
      have hbW : Below w.heap.size w w' := k5.trans (hb5.mono (by have := HS1.out; have := HS2.out; omega))
      have hkf : KeepsFrom W2.heap.size W w' := ⟨hb5.size, fun k o _ hk _ => (hb5.block k (Array.getElem?_eq_some_iff.1 hk).1).trans hk⟩
      cases r with
      | true =>
        have hyes : gives PS a b x.1 := hr.1 rfl
        clear hr
        gi_wp2
        exact ⟨hkf.trans ((KeepsOthers.setCell _ _ _).from _), rfl, kr.set _, ⟨x, by simp, hyes⟩, hbW.setCell (p := ⟨w.heap.size + 1, 0, none⟩) (by show w.heap.size ≤ w.heap.size + 1; omega) _⟩
      | false =>
        have hno : ¬ gives PS a b x.1 := fun h => by have := hr.2 h; cases this
        clear hr
        gi_wp2
        exact ⟨hkf, ⟨hb5.size, fun k hk _ _ _ => hb5.block k hk⟩, (hb5.block _ (by have := HS1.out; have := HS2.out; omega)).trans k1, kr, k3.below hb5 (Nat.le_refl _), fun v hv => by
          rcases List.mem_append.1 hv with hv | hv
          · exact k4 v hv
          · rw [List.mem_singleton] at hv
            subst hv
            exact hno, hbW⟩
  case done =>
    rintro D xs W hD hxs ⟨k1, k2, k3, k4, k5⟩ hK
    have kc := k2.cell
    have kf := k2.frozen
    gi_wp2
    have hK' := (KeepsOthers.setCell W ⟨w.heap.size + 1, 0, none⟩ (.bool false)).same D _ hK rfl
    refine ⟨by simp, .inl ⟨_, _, rfl, run_takeDeferred hK', ?_⟩⟩
    have hc5 := cell_kept (World.cell?_setCell_same' W ⟨w.heap.size + 1, 0, none⟩ (.bool false) (by rw [kc]; rfl)) (grownBy_putObj' _ D (.deferred none)) (fun r e => by cases e; exact ⟨_, hK', rfl⟩)
    refine ⟨.bool false, ?_, ⟨false, rfl, ?_⟩, ?_⟩
    · simp [results, Try.f47, go_sem, hc5]
    · constructor
      · intro h; cases h
      · rintro ⟨v, hv, hg⟩
        exact absurd hg (k4 ⟨v, rc_lt hv⟩ ((hxs.2 ⟨v, rc_lt hv⟩).2 hv))
    · have hlt := (Array.getElem?_eq_some_iff.1 hK').1
      exact (k5.setCell (p := ⟨w.heap.size + 1, 0, none⟩) (by show w.heap.size ≤ w.heap.size + 1; omega) _).trans (below_put _ _ _ (by have := HS1.out; have := HS2.out; omega) hlt)
  case stop =>
    rintro D co pre W hD hpre ⟨rfl, k2, ⟨v, hv, hg⟩, k4⟩ hK
    gi_wp2
    refine ⟨by simp, .inl ⟨_, _, rfl, run_takeDeferred hK, ?_⟩⟩
    have hc5 := cell_kept k2.cell (grownBy_putObj' _ D (.deferred none)) (fun r e => by cases e; exact ⟨_, hK, rfl⟩)
    refine ⟨.bool true, ?_, ⟨true, rfl, ?_⟩, ?_⟩
    · simp [results, Try.f47, go_sem, hc5]
    · exact ⟨fun _ => ⟨v.1, hpre v hv, hg⟩, fun _ => rfl⟩
    · have hlt := (Array.getElem?_eq_some_iff.1 hK).1
      exact k4.trans (below_put _ _ _ (by have := HS1.out; have := HS2.out; omega) hlt)
end Go.Proofs.Qxb6609411a
