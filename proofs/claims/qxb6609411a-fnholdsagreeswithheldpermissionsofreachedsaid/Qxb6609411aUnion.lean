/-
  Seat b6609411a: heldPermissions (48), ZZheldPermissionsReached (29).
-/
import Derived.Test.Qxb6609411aPerms
namespace Go.Proofs.Qxb6609411a
open Go.ChangeShapes Go.WideShapes Go.ChangeAt Go.RowKit Go.Shelf
open Go.Maps (Keyed IsMap Tidy)
set_option linter.unusedVariables false
attribute [local go_sem] Oper.semAt_some

structure UniI {n0 : Nat} (w : World) (pb rb c : Nat) (B : Nat → Nat → Nat) (PS JS : Nat → Lit → Prop) (Ks : List Lit) (pre : List (Fin n0)) (W : World) : Prop where
  set : SetAt W 45 w.heap.size Ks.length (fun y => ∃ v : Fin n0, v ∈ pre ∧ PS v y)
  bx : Boxed W (w.heap.size + 1) 48 (.map (some w.heap.size))
  pol : Pol W pb rb B n0 c PS JS
  bel : Below w.heap.size w W

theorem grown_keep {W wr w' : World} {s : Nat} {row : Option Nat} (h : W.grownBy wr (some s)) (hg : wr.grownBy w' row) (hr : ∀ r, row = some r → r = s ∨ W.heap.size ≤ r) : W.grownBy w' (some s) :=
  ⟨hg.os.trans h.os, hg.tape.trans h.tape, hg.output.trans h.output, Nat.le_trans h.size hg.size, fun k hk hne => (hg.block k (by have := h.size; omega) (fun e => by
    rcases hr k e.symm with h1 | h1
    · exact hne (by rw [h1])
    · omega)).trans (h.block k hk hne)⟩

set_option maxRecDepth 100000 in
set_option maxHeartbeats 4000000 in
theorem heldPerms_in {n0 : Nat} (hn0 : n0 ≤ 4096) (n : Nat) (hn : 6 ≤ n) (c Bf Bp Bn bm fm nf pb rb : Nat) (B : Nat → Nat → Nat) (FS : Lit → Prop) (PS JS : Nat → Lit → Prop) (hFS : ∀ x, FS x → ∃ v : Fin n0, x = .string (nmL v)) (hJS : ∀ u x, JS u x → ∃ v : Fin n0, x = .string (nmL v))
    (Ks : List Lit) (hKl : Ks.length ≤ 4096) (hKs : ∀ v y, PS v y → y ∈ Ks) (w : World) (hC : Cap w w.heap.size n0 c Bf Bp Bn bm fm nf pb rb B FS PS JS) :
    CallsIn Fence.wide n Try.prog 48 #[.func (.func 52) #[] #[.pointer (some ⟨Bf, 0, none⟩), .pointer (some ⟨Bp, 0, none⟩), .pointer (some ⟨Bn, 0, none⟩)]] w fun e W' =>
      e = .returned (.map (some w.heap.size)) ∧ SetAt W' 45 w.heap.size Ks.length (fun y => ∃ v, Rc (FrN n0 FS) (EdN n0 JS) v ∧ PS v y) ∧ Below w.heap.size w W' := by
  have h1 : 1 ≤ n := by omega
  have hmm := @run_makeMap Try.prog
  obtain ⟨W1, hW1⟩ : ∃ W1, W1 = (w.alloc (.map #[] 0)).alloc (.cells #[.map (some w.heap.size)] 48) := ⟨_, rfl⟩
  have hs1 : W1.heap.size = w.heap.size + 1 + 1 := by rw [hW1]; simp
  have hb1 : Below w.heap.size w W1 := by rw [hW1]; exact ((Below.refl _ _).alloc (Nat.le_refl _) _).alloc (by simp) _
  have hC1 := hC.lo (w' := W1) ⟨hb1.size, fun k hk => hb1.block k hk⟩
  have hbx1 : Boxed W1 (w.heap.size + 1) 48 (.map (some w.heap.size)) := by
    rw [hW1]
    have := Boxed.new (w.alloc (.map #[] 0)) 48 (.map (some w.heap.size))
    rwa [World.size_alloc] at this
  have hset1 : SetAt W1 45 w.heap.size Ks.length (fun y => ∃ v : Fin n0, v ∈ ([] : List (Fin n0)) ∧ PS v y) := by
    rw [hW1]
    exact (((SetAt.made w 45).keep (Below.heap_alloc _ _ _ (by simp))).congr fun x => by simp).mono (Nat.zero_le _)
  have hI0 : UniI (n0 := n0) w pb rb c B PS JS Ks [] W1 := ⟨hset1, hbx1, hC1.pol, hb1⟩
  have hRS := reach_stops hn0 (n - 1) (by omega) w.heap.size c Bf Bp Bn bm fm nf pb rb B FS PS JS hFS hJS W1 (by omega) hC1
  have HS1 : Hid (W1.heap.size = w.heap.size + 1 + 1) := hs1
  clear hs1 hb1 hC1 hbx1 hset1
  refine callsIn_of_wp_marks Try.func48 rfl trivial ?_ rfl
  simp only [Try.ntmps48, List.size_toArray, List.length_cons, List.length_nil, Nat.reduceAdd, Nat.reduceSub, Array.replicate_succ, Array.replicate_zero, List.push_toArray, List.append_toArray, List.nil_append, List.cons_append]
  gi_wp2
  rw [← hW1]
  clear hW1
  refine range_law h1 (gf := 52) (lb := #[.pointer (some ⟨Bf, 0, none⟩), .pointer (some ⟨Bp, 0, none⟩), .pointer (some ⟨Bn, 0, none⟩)]) rfl (enters_of Try.func52 (by kernel_rfl) rfl) hRS (fun _ => rfl)
    (UniI w pb rb c B PS JS Ks) (fun _ _ _ => False) ?hI (fun _ _ _ _ h _ => h) hI0
    (fun x => { tmps := #[.func (.func 52) #[] #[.pointer (some ⟨Bf, 0, none⟩), .pointer (some ⟨Bp, 0, none⟩), .pointer (some ⟨Bn, 0, none⟩)], undef, .map none, .pointer (some ⟨w.heap.size + 1, 0, none⟩), undef, .pointer (some ⟨B 0 x, 0, none⟩), undef, .map (some w.heap.size), .func (.func 52) #[] #[.pointer (some ⟨Bf, 0, none⟩), .pointer (some ⟨Bp, 0, none⟩), .pointer (some ⟨Bn, 0, none⟩)], .string (nm x), .pointer (some ⟨B 0 x, 0, none⟩), undef, undef, undef, undef, undef, undef, undef, undef, undef, undef, undef, undef, undef], defers := [] }) ?assign ?body ?done ?stop
  case hI =>
    have hs1 := HS1.out
    rintro pre A A' ⟨k1, k2, k3, k4⟩ hbl
    exact ⟨k1.keep (hbl.block _ (by omega)), (hbl.block _ (by omega)).trans k2, k3.keep hbl.size (hbl.block _ (by have := hC.pol.pl; omega)) (hbl.block _ (by have := hC.pol.tab.lt; omega)) (fun k v hk hv => hbl.block _ (by have := hC.pol.lt k v hk hv; omega)), k4.trans (hbl.mono (by omega))⟩
  case assign =>
    intro l x W K hK
    gi_wp2
    exact hK
  case body =>
    rintro l pre x W hsz ⟨k1, k2, k3, k4⟩
    have kc := k3.c0 x x.2
    obtain ⟨DP, hownP, hmP⟩ := k3.perms x x.2
    have hBP := hC.ltB 1 x.1 (by omega) x.2
    have hgW0 : W.grownBy W (some w.heap.size) := ⟨rfl, rfl, rfl, Nat.le_refl _, fun _ _ _ => rfl⟩
    gi_wp2_with (first
      | (gi_at_range; refine wpListIn_range_own _ rfl _ 48 rfl 45 32 keyed45 Try.underlying48 _ (B 1 x) c _ rfl hownP ?_; intro w0 hrg0 hg0 hs0)
      | gi_in)
    go_frame
    have hg0' : W.grownBy w0 (some w.heap.size) := grown_keep hgW0 hg0 (fun r e => by cases e)
    have hset0 : SetAt w0 45 w.heap.size Ks.length (fun y => (∃ v : Fin n0, v ∈ pre ∧ PS v y) ∨ (Maps.has DP y = true ∧ Maps.has DP y = false)) := (k1.keep (hg0.block _ k1.lt (by simp))).congr fun y => ⟨fun h => .inl h, fun h => h.elim id (fun h => by rw [h.1] at h; cases h.2)⟩
    have hbx0 : Boxed w0 (w.heap.size + 1) 48 (.map (some w.heap.size)) := k2.kept hg0 (by simp)
    gi_loopw [6] (fun _ wr => ∃ (left : Lit → Bool) (cnt : Nat), wr.ranges Try.prog 45 unitElem (B 1 x) W.heap.size c DP left cnt ∧ SetAt wr 45 w.heap.size Ks.length (fun y => (∃ v : Fin n0, v ∈ pre ∧ PS v y) ∨ (Maps.has DP y = true ∧ left y = false)) ∧ Boxed wr (w.heap.size + 1) 48 (.map (some w.heap.size)) ∧ W.grownBy wr (some w.heap.size))
      (fun _ wr => wr.rangeLeft (B 1 x) W.heap.size)
    case atStart => exact ⟨_, _, hrg0, hset0, hbx0, hg0'⟩
    case round =>
      clear hrg0 hset0 hbx0 hg0' hg0 hs0
      obtain ⟨left, cnt, hrg, hset, hbx, hgr⟩ := hrel
      gi_wp2_with (first
        | (gi_at_next; refine wpListIn_next_ranges _ rfl _ rfl 45 keyed45 unitElem (fun x : ByteArray × ByteArray => pv x.1 x.2) (fun _ : Unit => Value.agg #[]) (fun key kl hk => pv_inv hk) (fun v y hv => by obtain ⟨rfl, _⟩ := unitElem_inv hv; exact ⟨(), rfl⟩) (B 1 x) W.heap.size c _ _ _ rfl hrg ?_ ?_)
        | gi_in)
      · intro hc0 hl0
        gi_wp2
        have hs1 := HS1.out
        refine ⟨KeepsFrom.of_grownBy hgr (fun j e => by cases e; omega), ⟨hgr.size, fun k hk hne _ _ => hgr.block k hk (fun e => hne (by simpa using e))⟩, hset.congr fun y => ?_, hbx, ?_, ?_⟩
        · constructor
          · rintro (⟨v, hv, hy⟩ | ⟨hy, _⟩)
            · exact ⟨v, by simp [hv], hy⟩
            · exact ⟨x, by simp, (hmP y).1 hy⟩
          · rintro ⟨v, hv, hy⟩
            rcases List.mem_append.1 hv with hv | hv
            · exact .inl ⟨v, hv, hy⟩
            · rw [List.mem_singleton] at hv
              subst hv
              exact .inr ⟨(hmP y).2 hy, hl0 y⟩
        · exact k3.keep hgr.size (hgr.block _ k3.pl (by have := hC.pol.pl; simp; omega)) (hgr.block _ k3.tab.lt (by have := hC.pol.tab.lt; simp; omega)) (fun k v hk hv => hgr.block _ (k3.lt k v hk hv) (by have := hC.pol.lt k v hk hv; simp; omega))
        · exact below_grown k4 hgr (Nat.le_refl _) (Nat.le_refl _)
      · intro ka kb kl yd yp w2 cnt2 hkey hlk hv hat hrg2 hlt hg2 hs2 hen
        have hset2 := hset.keep (hg2.block _ hset.lt (by have := k4.size; have := HS1.out; simp; omega))
        have hbx2 : Boxed w2 (w.heap.size + 1) 48 (.map (some w.heap.size)) := hbx.kept hg2 (by have := HS1.out; simp; omega)
        obtain ⟨w4, hup, hset4, hg4⟩ := (hset2.keep (Below.heap_alloc w2 (.cells #[.string ka, .string kb] 45) _ hset2.lt)).put keyed45 Try.underlying48 (by unfold maxLen; omega) hkey
        have hbx4 : Boxed w4 (w.heap.size + 1) 48 (.map (some w.heap.size)) := (hbx2.alloc _).kept hg4 (by simp)
        have hkc := (hbx2.alloc (.cells #[.string ka, .string kb] 45)).cell
        have hs1 := HS1.out
        have hst := hgr.size
        obtain ⟨⟨ob, hob, hobw⟩, ⟨orr, hor, horw⟩⟩ := ranges_blocks hrg2
        have e1 : w4.heap[B 1 x]? = w2.heap[B 1 x]? := (hg4.block _ (by have := (Array.getElem?_eq_some_iff.1 hob).1; simp; omega) (by simp; omega)).trans (Below.heap_alloc w2 _ _ (Array.getElem?_eq_some_iff.1 hob).1)
        have e2 : w4.heap[W.heap.size]? = w2.heap[W.heap.size]? := (hg4.block _ (by have := (Array.getElem?_eq_some_iff.1 hor).1; simp; omega) (by simp; omega)).trans (Below.heap_alloc w2 _ _ (Array.getElem?_eq_some_iff.1 hor).1)
        have hrg4 := ranges_keep hrg2 e1 e2
        have hhas : Maps.has DP kl = true := Maps.has_true_of_atKey hat
        have hset5 : SetAt w4 45 w.heap.size Ks.length (fun z => (∃ v : Fin n0, v ∈ pre ∧ PS v z) ∨ (Maps.has DP z = true ∧ (left z && !z.sameKey kl) = false)) := by
          refine (hset4.cap keyed45 Ks ?_).congr fun z => ?_
          · rintro z (rfl | ⟨v, _, hv⟩ | ⟨hz, _⟩)
            · exact hKs x.1 z ((hmP z).1 hhas)
            · exact hKs v.1 z hv
            · exact hKs x.1 z ((hmP z).1 hz)
          · constructor
            · rintro (rfl | h | ⟨h1, h2⟩)
              · exact .inr ⟨hhas, by rw [WideAt.sameKey_self (keyed45.key hkey)]; simp⟩
              · exact .inl h
              · exact .inr ⟨h1, by simp [h2]⟩
            · rintro (h | ⟨h1, h2⟩)
              · exact .inr (.inl h)
              · by_cases e : z = kl
                · exact .inl e
                · rw [Maps.sameKey_ne e] at h2
                  exact .inr (.inr ⟨h1, by simpa using h2⟩)
        have hgr4 : W.grownBy w4 (some w.heap.size) := grown_keep (grown_keep (grown_keep hgr hg2 (fun r e => by cases e; exact .inr (Nat.le_refl _))) (World.grownBy_alloc w2 (.cells #[.string ka, .string kb] 45) none) (fun r e => by cases e)) hg4 (fun r e => by cases e; exact .inl rfl)
        have hmeas : w4.rangeLeft (B 1 x) W.heap.size < wr.rangeLeft (B 1 x) W.heap.size := by rw [hrg4.left_eq, hrg.left_eq]; exact hlt
        have R1 : Hid (SetAt w4 45 w.heap.size Ks.length (fun z => (∃ v : Fin n0, v ∈ pre ∧ PS v z) ∨ (Maps.has DP z = true ∧ (left z && !z.sameKey kl) = false))) := hset5
        have R2 : Hid (w4.ranges Try.prog 45 unitElem (B 1 x) W.heap.size c DP (fun z => left z && !z.sameKey kl) cnt2) := hrg4
        clear hset5 hset4 hset2 hrg4 hrg2 hset e1 e2 hs1 hst hs2 hat hv hhas hob hobw hor horw hrg hg2 hg4 hgr hbx hbx2
        gi_wp2
        exact ⟨⟨_, _, R2.out, R1.out, hbx4, hgr4⟩, hmeas⟩
  case done =>
    rintro D xs W hD hxs ⟨k1, k2, k3, k4⟩ hK
    have kc := k2.cell
    gi_wp2
    refine ⟨by simp, .inl ⟨_, _, rfl, run_takeDeferred hK, ?_⟩⟩
    have hlt := (Array.getElem?_eq_some_iff.1 hK).1
    refine ⟨_, results_tmp rfl _ _ _, rfl, ?_, k4.trans (below_put _ _ _ (by have := HS1.out; omega) hlt)⟩
    refine (k1.keep (World.putObj_heap_other (by have := HS1.out; omega))).congr fun y => ?_
    constructor
    · rintro ⟨v, hv, hy⟩
      exact ⟨v.1, (hxs.2 v).1 hv, hy⟩
    · rintro ⟨v, hv, hy⟩
      exact ⟨⟨v, rc_lt hv⟩, (hxs.2 ⟨v, rc_lt hv⟩).2 hv, hy⟩
  case stop =>
    rintro D co pre W _ _ h _
    exact h.elim

set_option maxHeartbeats 1000000 in
theorem reached_any {n0 : Nat} (hn0 : n0 ≤ 4096) (c fm nf pb rb : Nat) (B : Nat → Nat → Nat) (FS : Lit → Prop) (PS JS : Nat → Lit → Prop) (hFS : ∀ x, FS x → ∃ v : Fin n0, x = .string (nmL v)) (hJS : ∀ u x, JS u x → ∃ v : Fin n0, x = .string (nmL v))
    (Ks : List Lit) (hKl : Ks.length ≤ 4096) (hKs : ∀ v y, PS v y → y ∈ Ks) (w : World) (hF : SetAt w 9 fm nf FS) (hP : Pol w pb rb B n0 c PS JS) :
    Calls Try.prog 29 #[.pointer (some ⟨pb, 0, none⟩), .map (some fm)] w fun e W' => ∃ hb : Nat, e = .returned (.map (some hb)) ∧ w.heap.size ≤ hb ∧ SetAt W' 45 hb Ks.length (fun y => ∃ v, Rc (FrN n0 FS) (EdN n0 JS) v ∧ PS v y) ∧ Below w.heap.size w W' := by
  refine (callsIn_wide (n := 8)).1 ?_
  refine callsIn_of_wp Try.func29 rfl trivial ?_ rfl
  simp only [Try.ntmps29, List.size_toArray, List.length_cons, List.length_nil, Nat.reduceAdd, Nat.reduceSub, Array.replicate_succ, Array.replicate_zero, List.push_toArray, List.append_toArray, List.nil_append, List.cons_append]
  gi_wp2_with fail
  refine ⟨trivial, (keys_in 7 (some fm) _).mono ?_⟩
  rintro e W1 ⟨rfl, hW1⟩
  have hs1 : W1.heap.size = w.heap.size + 1 := by rw [hW1]; simp
  have hb1 : Below w.heap.size w W1 := by rw [hW1]; exact (Below.refl _ _).alloc (Nat.le_refl _) _
  have hbm1 : Boxed W1 w.heap.size 29 (.map (some fm)) := by
    rw [hW1]
    exact Boxed.new w 29 (.map (some fm))
  have HS1 : Hid (W1.heap.size = w.heap.size + 1) := hs1
  clear hW1 hs1
  gi_wp2_with fail
  refine ⟨trivial, (reach_in 7 pb w.heap.size W1).mono ?_⟩
  rintro e W2 ⟨rfl, hW2⟩
  have hs1 := HS1.out
  have hs2 : W2.heap.size = W1.heap.size + 1 + 1 + 1 := by rw [hW2]; simp
  have hb2 : Below W1.heap.size W1 W2 := by rw [hW2]; exact ((((Below.refl _ _).alloc (Nat.le_refl _) _).alloc (by simp) _).alloc (by simp; omega) _)
  have hbP : Boxed W2 W1.heap.size 27 (.pointer (some ⟨pb, 0, none⟩)) := by
    rw [hW2]
    exact ((Boxed.new W1 27 (.pointer (some ⟨pb, 0, none⟩))).alloc _).alloc _
  have hbF : Boxed W2 (W1.heap.size + 1) 64 (keysF w.heap.size) := by
    rw [hW2]
    have := (Boxed.new (W1.alloc (.cells #[.pointer (some ⟨pb, 0, none⟩)] 27)) 64 (keysF w.heap.size)).alloc (.cells #[juniF] 66)
    rwa [World.size_alloc] at this
  have hbN : Boxed W2 (W1.heap.size + 1 + 1) 66 juniF := by
    rw [hW2]
    have := Boxed.new ((W1.alloc (.cells #[.pointer (some ⟨pb, 0, none⟩)] 27)).alloc (.cells #[keysF w.heap.size] 64)) 66 juniF
    rwa [World.size_alloc, World.size_alloc] at this
  clear hW2
  have hbB : Below w.heap.size w W2 := hb1.trans (hb2.mono (by omega))
  have hP2 := (hP.below hb1 (Nat.le_refl _)).below hb2 (Nat.le_refl _)
  have hF2 := hF.keep (hbB.block fm hF.lt)
  have hC : Cap W2 W2.heap.size n0 c (W1.heap.size + 1) W1.heap.size (W1.heap.size + 1 + 1) w.heap.size fm nf pb rb B FS PS JS :=
    ⟨hbF, hbP, hbN, (hb2.block _ (by omega)).trans hbm1, hF2, hP2, ⟨⟨hbF.lt, hbP.lt⟩, ⟨hbN.lt, by omega⟩, ⟨hF2.lt, hP2.pl⟩, hP2.tab.lt⟩, hP2.lt⟩
  have Z := heldPerms_in hn0 7 (by omega) c (W1.heap.size + 1) W1.heap.size (W1.heap.size + 1 + 1) w.heap.size fm nf pb rb B FS PS JS hFS hJS Ks hKl hKs W2 hC
  clear hbP hbF hbN hb1 hb2 hbm1 hP2 hF2 hC hs1 hs2
  gi_wp2_with fail
  refine ⟨trivial, Z.mono ?_⟩
  clear Z
  rintro e W3 ⟨rfl, hset, hb3⟩
  have R1 : Hid (SetAt W3 45 W2.heap.size Ks.length (fun y => ∃ v, Rc (FrN n0 FS) (EdN n0 JS) v ∧ PS v y)) := hset
  have R2 : Hid (Below w.heap.size w W3 ∧ w.heap.size ≤ W2.heap.size) := ⟨hbB.trans (hb3.mono hbB.size), hbB.size⟩
  clear hset hb3 hbB
  gi_wp2
  go_ret
  exact ⟨_, rfl, R2.out.2, R1.out, R2.out.1⟩
end Go.Proofs.Qxb6609411a
