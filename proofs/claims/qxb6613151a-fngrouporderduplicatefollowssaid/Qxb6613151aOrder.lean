/-
  Seat b6613151a: GroupOrder (9), ZZGroupOrderByIndex (7).
-/
import Derived.Test.Qxb6613151aClos
import Derived.Test.Qxb6613151aSort
namespace Go.Proofs.Qxb6613151a
open Go.ChangeShapes Go.WideShapes Go.ChangeAt Go.RowKit Go.Sort
set_option linter.unusedVariables false

noncomputable def limOf (D : PD) (g : Nat) : Int := if onlyF D g D.nR then 0 else 1
noncomputable def limG (D : PD) (g i : Nat) : Int := if i < g then limOf D i else 0

/-- GroupOrder's memory behind g rounds of its loop. -/
structure GO (w wr : World) (s2 s3 bs s5 bo bl s7 pb : Nat) (D : PD) (g : Nat) : Prop where
  below : Below w.heap.size w wr
  b2 : Fl wr s2 30 1 1 (fun _ => .pointer (some ⟨pb, 0, none⟩))
  b3 : Fl wr s3 35 1 1 (fun _ => .func (.func 10) #[] #[])
  sz : Fl wr bs 51 D.nG D.nG (fun g => .int .u64 (sizesOf D g))
  b5 : Fl wr s5 46 1 1 (fun _ => .slice (some ⟨bs, 0, none⟩) D.nG D.nG)
  od : Fl wr bo 3 D.nG g (fun i => .int .i64 i)
  lm : Fl wr bl 3 D.nG D.nG (fun i => .int .i64 (limG D g i))
  b7 : Fl wr s7 23 1 1 (fun _ => .slice (some ⟨bl, 0, none⟩) D.nG D.nG)

theorem Fl.one (w : World) (v : Value) (ty : TypeId) : Fl (w.alloc (.cells #[v] ty)) w.heap.size ty 1 1 (fun _ => v) :=
  ⟨#[v], heap_alloc_new w _, rfl, fun i hi => by have : i = 0 := by omega
                                                 subst this; rfl⟩

theorem GO.later {w wr w' : World} {s2 s3 bs s5 bo bl s7 pb : Nat} {D : PD} {g : Nat} (h : GO w wr s2 s3 bs s5 bo bl s7 pb D g) (hb : Below wr.heap.size wr w') : GO w w' s2 s3 bs s5 bo bl s7 pb D g :=
  ⟨h.below.trans (hb.mono h.below.size), h.b2.below hb (Nat.le_refl _), h.b3.below hb (Nat.le_refl _), h.sz.below hb (Nat.le_refl _), h.b5.below hb (Nat.le_refl _), h.od.below hb (Nat.le_refl _), h.lm.below hb (Nat.le_refl _), h.b7.below hb (Nat.le_refl _)⟩

theorem limG_step (D : PD) (g i : Nat) (hne : i ≠ g) : limG D (g + 1) i = limG D g i := by
  unfold limG
  by_cases e : i < g
  · rw [if_pos e, if_pos (by omega)]
  · rw [if_neg e, if_neg (by omega)]
theorem limG_self (D : PD) (g : Nat) : limG D g g = 0 := by
  unfold limG
  rw [if_neg (by omega)]
theorem limG_next (D : PD) (g : Nat) : limG D (g + 1) g = limOf D g := by
  unfold limG
  rw [if_pos (by omega)]

/-- order[g] = g. -/
theorem GO.put {w wr : World} {s2 s3 bs s5 bo bl s7 pb : Nat} {D : PD} {g : Nat} (h : GO w wr s2 s3 bs s5 bo bl s7 pb D g) (hg : g < D.nG) (hw : w.heap.size ≤ bo) (d2 : s2 ≠ bo) (d3 : s3 ≠ bo) (ds : bs ≠ bo) (d5 : s5 ≠ bo) (dl : bl ≠ bo) (d7 : s7 ≠ bo) :
    Below w.heap.size w (wr.setCell ⟨bo, g, none⟩ (.int .i64 g)) ∧ Fl (wr.setCell ⟨bo, g, none⟩ (.int .i64 g)) bo 3 D.nG (g + 1) (fun i => .int .i64 i) ∧ GO w (wr.setCell ⟨bo, g, none⟩ (.int .i64 g)) s2 s3 bs s5 bo bl s7 pb D g := by
  have h1 : Below w.heap.size w (wr.setCell ⟨bo, g, none⟩ (.int .i64 g)) := h.below.setCell hw _
  have h2 : Fl (wr.setCell ⟨bo, g, none⟩ (.int .i64 g)) bo 3 D.nG (g + 1) (fun i => .int .i64 i) := h.od.set g _ (g + 1) _ hg (fun i hi => by
    by_cases e : i = g
    · subst e; exact .inl ⟨rfl, rfl⟩
    · exact .inr ⟨e, by omega, rfl⟩)
  exact ⟨h1, h2, h1, h.b2.other _ _ _ d2, h.b3.other _ _ _ d3, h.sz.other _ _ _ ds, h.b5.other _ _ _ d5, h2.congr _ _ (by omega) (fun _ _ => rfl), h.lm.other _ _ _ dl, h.b7.other _ _ _ d7⟩

theorem GO.next0 {w wr : World} {s2 s3 bs s5 bo bl s7 pb : Nat} {D : PD} {g : Nat} (h : GO w wr s2 s3 bs s5 bo bl s7 pb D g) (ho : Fl wr bo 3 D.nG (g + 1) (fun i => .int .i64 i)) (hon : onlyF D g D.nR = true) : GO w wr s2 s3 bs s5 bo bl s7 pb D (g + 1) :=
  ⟨h.below, h.b2, h.b3, h.sz, h.b5, ho, h.lm.congr _ _ (Nat.le_refl _) (fun i hi => by
    show Value.int .i64 (limG D (g + 1) i) = Value.int .i64 (limG D g i)
    by_cases e : i = g
    · subst e; rw [limG_next, limG_self, limOf, if_pos hon]
    · rw [limG_step D g i e]), h.b7⟩

theorem GO.next1 {w wr : World} {s2 s3 bs s5 bo bl s7 pb : Nat} {D : PD} {g : Nat} (h : GO w wr s2 s3 bs s5 bo bl s7 pb D g) (ho : Fl wr bo 3 D.nG (g + 1) (fun i => .int .i64 i)) (hon : onlyF D g D.nR = false) (hg : g < D.nG) (hw : w.heap.size ≤ bl) (d2 : s2 ≠ bl) (d3 : s3 ≠ bl) (ds : bs ≠ bl) (d5 : s5 ≠ bl) (dl : bo ≠ bl) (d7 : s7 ≠ bl) :
    GO w (wr.setCell ⟨bl, g, none⟩ (.int .i64 1)) s2 s3 bs s5 bo bl s7 pb D (g + 1) :=
  ⟨h.below.setCell hw _, h.b2.other _ _ _ d2, h.b3.other _ _ _ d3, h.sz.other _ _ _ ds, h.b5.other _ _ _ d5, ho.other _ _ _ dl, h.lm.set g _ D.nG _ hg (fun i hi => by
    by_cases e : i = g
    · subst e
      exact .inl ⟨rfl, by show Value.int .i64 (limG D (i + 1) i) = _; rw [limG_next, limOf, if_neg (by rw [hon]; decide)]⟩
    · exact .inr ⟨e, hi, by show Value.int .i64 (limG D (g + 1) i) = Value.int .i64 (limG D g i); rw [limG_step D g i e]⟩), h.b7.other _ _ _ d7⟩

/-- what GroupOrder hands back: a sorted permutation of the groups' indices. -/
def OrdOut (B : Nat) (D : PD) (e : Ending) (w' : World) : Prop :=
  ∃ (bo : Nat) (d : List Nat), e = .returned (.slice (some ⟨bo, 0, none⟩) D.nG D.nG) ∧ B ≤ bo ∧ d.Perm (List.range D.nG) ∧ d.Pairwise (fun x y => ¬ cfF D (limOf D) y x < 0) ∧ ∀ i, i < D.nG → w'.cell? ⟨bo, i, none⟩ = some (.int .i64 ((d[i]?.getD 0 : Nat) : Int))

set_option maxHeartbeats 2000000 in
set_option maxRecDepth 100000 in
theorem groupOrder_any (pb rb gb : Nat) (D : PD) (w : World) (h : IsProb w pb rb gb D) (hd : Dom D)
    (hsort : Hid (∀ W s2 s3 bs s5 bo bl s7, GO w W s2 s3 bs s5 bo bl s7 pb D D.nG → w.heap.size ≤ bo → s2 < bo → s3 < bo → bs < bo → s5 < bo → bo < bl → bl < s7 →
      Calls Try.prog 15 #[.slice (some ⟨bo, 0, none⟩) D.nG D.nG, .func (.func 16) #[] #[.pointer (some ⟨s5, 0, none⟩), .pointer (some ⟨s7, 0, none⟩), .pointer (some ⟨s2, 0, none⟩), .pointer (some ⟨s3, 0, none⟩)]] W fun e w' => e = .returned (.tuple #[]) ∧ OrdOut w.heap.size D (.returned (.slice (some ⟨bo, 0, none⟩) D.nG D.nG)) w' ∧ Below w.heap.size w w')) :
    Calls Try.prog 9 #[.pointer (some ⟨pb, 0, none⟩), .func (.func 10) #[] #[]] w fun e w' => OrdOut w.heap.size D e w' ∧ Below w.heap.size w w' := by
  obtain ⟨i0, hi, hz0, hz1, hz2⟩ := info_parts info3
  have hgpos := hd.gpos
  have hgrps := hd.grps
  have hp := h.1
  have HP : Hid (IsProb w pb rb gb D) := h
  have HD : Hid (Dom D) := hd
  have hp1 := h.2.2.1
  clear h hd
  obtain ⟨wa, hwa⟩ : ∃ wa, wa = w.alloc (.cells #[.pointer (some ⟨pb, 0, none⟩)] 30) := ⟨_, rfl⟩
  obtain ⟨wb, hwb⟩ : ∃ wb, wb = wa.alloc (.cells #[.func (.func 10) #[] #[]] 35) := ⟨_, rfl⟩
  have hba : Below w.heap.size w wa := by rw [hwa]; exact (Below.refl _ _).alloc (Nat.le_refl _) _
  have hsa : wa.heap.size = w.heap.size + 1 := by rw [hwa]; simp
  have hbb : Below wa.heap.size wa wb := by rw [hwb]; exact (Below.refl _ _).alloc (Nat.le_refl _) _
  have hsb : wb.heap.size = w.heap.size + 2 := by rw [hwb]; simp [hsa]
  have hBb : Below w.heap.size w wb := hba.trans (hbb.mono (by omega))
  have F2 : Fl wb w.heap.size 30 1 1 (fun _ => .pointer (some ⟨pb, 0, none⟩)) := by
    have := Fl.one w (.pointer (some ⟨pb, 0, none⟩)) 30
    rw [← hwa] at this
    exact this.below hbb (Nat.le_refl _)
  have F3 : Fl wb (w.heap.size + 1) 35 1 1 (fun _ => .func (.func 10) #[] #[]) := by
    have := Fl.one wa (.func (.func 10) #[] #[]) 35
    rw [← hwb, hsa] at this
    exact this
  have hps := podSizes_any pb rb gb D wb (HP.out.below hBb (Nat.le_refl _)) HD.out
  have hgo : Hid ((w.alloc (.cells #[.pointer (some ⟨pb, 0, none⟩)] 30)).alloc (.cells #[.func (.func 10) #[] #[]] 35) = wb) := by unfold Hid; rw [hwb, hwa]
  clear hwa hwb hba hbb hsa
  have q2 := F2.cell 0 (by omega)
  go_enter Try.func9, Try.ntmps9
  go_wp2_with fail
  rw [hgo.out]
  refine hps.mono ?_
  rintro e w1 ⟨⟨bs, rfl, hbs, hFs⟩, hb1⟩
  clear hps
  have hs1 := hb1.size
  have hbs1 := hFs.lt
  have F2' : Fl w1 w.heap.size 30 1 1 (fun _ => .pointer (some ⟨pb, 0, none⟩)) := F2.below hb1 (Nat.le_refl _)
  have F3' : Fl w1 (w.heap.size + 1) 35 1 1 (fun _ => .func (.func 10) #[] #[]) := F3.below hb1 (Nat.le_refl _)
  have hB1 : Below w.heap.size w w1 := hBb.trans (hb1.mono (by omega))
  clear F2 F3 hBb hb1 q2 hgo
  have HB1 : Hid (Below w.heap.size w w1) := hB1
  have HFs : Hid (Fl w1 bs 51 D.nG D.nG (fun g => .int .u64 (sizesOf D g))) := hFs
  have HF2 : Hid (Fl w1 w.heap.size 30 1 1 (fun _ => .pointer (some ⟨pb, 0, none⟩))) := F2'
  have HF3 : Hid (Fl w1 (w.heap.size + 1) 35 1 1 (fun _ => .func (.func 10) #[] #[])) := F3'
  have q2 : w1.cell? ⟨w.heap.size, 0, none⟩ = some (.pointer (some ⟨pb, 0, none⟩)) := F2'.cell 0 (by omega)
  have q1 : w1.cell? ⟨pb, 1, none⟩ = _ := (hB1.cell (p := ⟨pb, 1, none⟩) hp).trans hp1
  have hpl : pb < w1.heap.size := by omega
  have hwl : w.heap.size < w1.heap.size := by omega
  clear hB1 hFs F2' F3'
  obtain ⟨wc, hwc⟩ : ∃ wc, wc = w1.alloc (.cells #[.slice (some ⟨bs, 0, none⟩) D.nG D.nG] 46) := ⟨_, rfl⟩
  have hbc : Below w1.heap.size w1 wc := by rw [hwc]; exact (Below.refl _ _).alloc (Nat.le_refl _) _
  have hsc : wc.heap.size = w1.heap.size + 1 := by rw [hwc]; simp
  have F5 : Hid (Fl wc w1.heap.size 46 1 1 (fun _ => .slice (some ⟨bs, 0, none⟩) D.nG D.nG)) := by rw [hwc]; exact Fl.one w1 _ 46
  have HWC : Hid (wc = w1.alloc (.cells #[.slice (some ⟨bs, 0, none⟩) D.nG D.nG] 46)) := hwc
  clear hwc
  go_wp2_with (first
    | (at_make; refine wpList_make_full _ rfl _ _ 23 rfl w1.heap.size 3 i0 (.int .i64 0) 1 Try.underlying23 hi hz0 hz1 .i64 .i64 _ _ D.nG rfl rfl (by omega) (by omega) (by rw [hz2]; omega) (by unfold maxLen; omega) (by simp) ?_; rw [← HWC.out]; intro w2 hown2 hgrow2; have hb2 : Below wc.heap.size wc w2 := (Below.refl _ _).grown hgrow2 (Nat.le_refl _) (fun k h => by cases h); have r2 : w2.cell? ⟨w.heap.size, 0, none⟩ = _ := (hb2.cell (p := ⟨w.heap.size, 0, none⟩) (show w.heap.size < wc.heap.size by omega)).trans ((hbc.cell (p := ⟨w.heap.size, 0, none⟩) hwl).trans q2); have r1 : w2.cell? ⟨pb, 1, none⟩ = _ := (hb2.cell (p := ⟨pb, 1, none⟩) (show pb < wc.heap.size by omega)).trans ((hbc.cell (p := ⟨pb, 1, none⟩) hpl).trans q1); clear q1 q2)
    | (at_make; refine wpList_make_full _ rfl _ _ 23 rfl w2.heap.size 3 i0 (.int .i64 0) 1 Try.underlying23 hi hz0 hz1 .i64 .i64 _ _ D.nG rfl rfl (by omega) (by omega) (by rw [hz2]; omega) (by unfold maxLen; omega) (Nat.le_refl _) ?_; intro w3 hown3 hgrow3))
  have hs2 := hb2.size
  have hb3 : Below w2.heap.size w2 w3 := (Below.refl _ _).grown hgrow3 (Nat.le_refl _) (fun k h => by cases h)
  have hs3 := hb3.size
  rw [hsc] at hown2
  have G2 : Fl w2 (w1.heap.size + 1) 3 D.nG D.nG (fun _ => .int .i64 0) := Fl.made (made_all rfl) hown2
  have G3 : Fl w3 w2.heap.size 3 D.nG D.nG (fun _ => .int .i64 0) := Fl.made (made_all rfl) hown3
  have hl2 := G2.lt
  have hl3 := G3.lt
  clear hown2 hgrow2 hown3 hgrow3 r1 r2
  obtain ⟨w4, hw4⟩ : ∃ w4, w4 = w3.alloc (.cells #[.slice (some ⟨w2.heap.size, 0, none⟩) D.nG D.nG] 23) := ⟨_, rfl⟩
  have hb4 : Below w3.heap.size w3 w4 := by rw [hw4]; exact (Below.refl _ _).alloc (Nat.le_refl _) _
  have G7 : Fl w4 w3.heap.size 23 1 1 (fun _ => .slice (some ⟨w2.heap.size, 0, none⟩) D.nG D.nG) := by rw [hw4]; exact Fl.one w3 _ 23
  rw [← hw4]
  have k1 : Below w1.heap.size w1 w4 := hbc.trans ((hb2.trans ((hb3.trans (hb4.mono hs3)).mono hs2)).mono (by omega))
  have hGO : GO w w4 w.heap.size (w.heap.size + 1) bs w1.heap.size (w1.heap.size + 1) w2.heap.size w3.heap.size pb D 0 :=
    ⟨HB1.out.trans (k1.mono (by omega)), HF2.out.below k1 (Nat.le_refl _), HF3.out.below k1 (Nat.le_refl _), HFs.out.below k1 (Nat.le_refl _),
      F5.out.below (hb2.trans ((hb3.trans (hb4.mono hs3)).mono hs2)) (Nat.le_refl _),
      (G2.below (hb3.trans (hb4.mono hs3)) (Nat.le_refl _)).congr _ _ (Nat.zero_le _) (fun i hi => absurd hi (Nat.not_lt_zero _)),
      (G3.below hb4 (Nat.le_refl _)).congr _ _ (Nat.le_refl _) (fun i hi => rfl), G7⟩
  clear hw4 hb4 G7 k1 G2 G3 hb3 hb2 hbc HWC F5 HB1 HFs HF2 HF3
  generalize w3.heap.size = s7 at *
  generalize w2.heap.size = bl at *
  have hbl : w1.heap.size + 1 < bl := by omega
  go_loopw [25] (fun i wr => ∃ g : Nat, g ≤ D.nG ∧ i = .int .i64 g ∧ GO w wr w.heap.size (w.heap.size + 1) bs w1.heap.size (w1.heap.size + 1) bl s7 pb D g) (fun i _ => D.nG - (intOf i).toNat)
  case atStart => exact ⟨0, Nat.zero_le _, rfl, hGO⟩
  case round =>
    clear hGO
    obtain ⟨g, hg, rfl, hgo'⟩ := hrel
    by_cases hlt : g < D.nG
    · obtain ⟨p1, p2, p3⟩ := hgo'.put hlt (by omega) (by omega) (by omega) (by omega) (by omega) (by omega) (by omega)
      obtain ⟨v0, hv0, hf0⟩ := hgo'.od.room g hlt
      have hx2 := p3.b2.cell 0 (by omega)
      have hon := only_any pb rb gb D _ (HP.out.below p1 (Nat.le_refl _)) HD.out g hlt
      have hgI : (g : Int) < D.nG := by omega
      have P2 : Hid (Fl (wr.setCell ⟨w1.heap.size + 1, g, none⟩ (.int .i64 g)) (w1.heap.size + 1) 3 D.nG (g + 1) (fun i => .int .i64 i)) := p2
      have P3 : Hid (GO w (wr.setCell ⟨w1.heap.size + 1, g, none⟩ (.int .i64 g)) w.heap.size (w.heap.size + 1) bs w1.heap.size (w1.heap.size + 1) bl s7 pb D g) := p3
      clear hgo' p1 p2 p3
      go_wp2_with fail
      refine hon.mono ?_
      rintro e w5 ⟨rfl, hb5⟩
      have P4 := P3.out.later hb5
      have P5 := P2.out.below hb5 (Nat.le_refl _)
      clear hon P2 P3 hb5 hx2 hv0 hf0
      cases hq : onlyF D g D.nR with
      | true =>
        have P6 : Hid (GO w w5 w.heap.size (w.heap.size + 1) bs w1.heap.size (w1.heap.size + 1) bl s7 pb D (g + 1)) := P4.next0 P5 hq
        clear P4 P5
        go_wp2
        go_roundw
        case rel => exact ⟨g + 1, by omega, by go_num, P6.out⟩
        case measure => simp [intOf]; omega
      | false =>
        have P6 : Hid (GO w (w5.setCell ⟨bl, g, none⟩ (.int .i64 1)) w.heap.size (w.heap.size + 1) bs w1.heap.size (w1.heap.size + 1) bl s7 pb D (g + 1)) := P4.next1 P5 hq hlt (by omega) (by omega) (by omega) (by omega) (by omega) (by omega) (by omega)
        obtain ⟨v1, hv1, hf1⟩ := P4.lm.room g hlt
        have hx7 := P4.b7.cell 0 (by omega)
        clear P4 P5
        go_wp2
        go_roundw
        case rel => exact ⟨g + 1, by omega, by go_num, P6.out⟩
        case measure => simp [intOf]; omega
    · have e : g = D.nG := by omega
      subst e
      have hsr := hsort.out _ _ _ _ _ _ _ _ hgo' (by omega) (by omega) (by omega) (by omega) (by omega) hbl (by omega)
      clear hgo' hsort
      go_wp2_with fail
      refine hsr.mono ?_
      rintro e w5 ⟨rfl, ho, hb⟩
      have HO : Hid (OrdOut w.heap.size D (.returned (.slice (some ⟨w1.heap.size + 1, 0, none⟩) D.nG D.nG)) w5) := ho
      clear hsr ho
      go_wp2
      go_ret
      exact ⟨HO.out, hb⟩
end Go.Proofs.Qxb6613151a
