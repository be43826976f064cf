/-
  Seat b6609411a: the law's function (8).
-/
import Derived.Test.Qxb6609411aExact
import Derived.Test.Qxb6609411aBytes
namespace Go.Proofs.Qxb6609411a
open Go.ChangeShapes Go.WideShapes Go.ChangeAt Go.RowKit
set_option linter.unusedVariables false

set_option maxHeartbeats 8000000 in
set_option maxRecDepth 100000 in
theorem law8_any (n : Int) (al ah ag ao ab af : Option Addr) (ml cl mh ch ng cg no co nb cb nf cf : Nat) (X Y Z V : Nat → Int) (GO GB : Nat → ByteArray) (op obj : ByteArray) (w : World)
    (hL : IsA encI w al ml X) (hH : IsA encI w ah mh Y) (hG : IsA encI w ag ng Z) (hO : IsA encS w ao no GO) (hB : IsA encS w ab nb GB) (hF : IsA encI w af nf V)
    (m0 : ml ≤ 9223372036854775807) (m1 : mh ≤ 9223372036854775807) (m2 : ng ≤ 9223372036854775807) (m3 : no ≤ 9223372036854775807) (m4 : nb ≤ 9223372036854775807) (m5 : nf ≤ 9223372036854775807) (m6 : op.size ≤ 9223372036854775807) (m7 : obj.size ≤ 9223372036854775807)
    (mO : ∀ i, i < no → (GO i).size ≤ 9223372036854775807) (mB : ∀ i, i < nb → (GB i).size ≤ 9223372036854775807) :
    Calls Try.prog 8 #[.int .i64 n, .slice al ml cl, .slice ah mh ch, .slice ag ng cg, .slice ao no co, .slice ab nb cb, .slice af nf cf, .string op, .string obj] w fun e w' => e = .returned (.bool true) ∧ Below w.heap.size w w' := by
  have HL : Hid (IsA encI w al ml X) := hL
  have HH : Hid (IsA encI w ah mh Y) := hH
  have HG : Hid (IsA encI w ag ng Z) := hG
  have HO : Hid (IsA encS w ao no GO) := hO
  have HB : Hid (IsA encS w ab nb GB) := hB
  have HF : Hid (IsA encI w af nf V) := hF
  have K := bytes28_any n al ah ag ao ab af ml cl mh ch ng cg no co nb cb nf cf GO GB op obj w hO hB m0 m1 m2 m3 m4 m5 m6 m7 mO mB
  clear hL hH hG hO hB hF mO mB
  go_enter Try.func8, Try.ntmps8
  go_wp2_with fail
  refine K.mono ?_
  clear K
  rintro e w' ⟨⟨b, rfl, hb⟩, rfl⟩
  cases b with
  | false =>
    clear hb
    go_wp2
    go_ret
    exact ⟨rfl, Below.refl _ _⟩
  | true =>
    obtain ⟨⟨⟨b0, b1⟩, ⟨b2, b3⟩, ⟨b4, b5⟩⟩, ⟨b6, b7⟩, bO, bB⟩ := hb rfl
    clear hb m0 m1 m2 m3 m4 m5 m6 m7
    by_cases l0 : ml ≤ 4096
    case neg =>
      have e0 : decide ((4096 : Int) < ml) = true := decide_eq_true (by omega)
      go_wp2
      go_ret
      exact ⟨rfl, Below.refl _ _⟩
    have e0 : decide ((4096 : Int) < ml) = false := decide_eq_false (by omega)
    by_cases l1 : mh ≤ 4096
    case neg =>
      have e1 : decide ((4096 : Int) < mh) = true := decide_eq_true (by omega)
      go_wp2
      go_ret
      exact ⟨rfl, Below.refl _ _⟩
    have e1 : decide ((4096 : Int) < mh) = false := decide_eq_false (by omega)
    by_cases l2 : ng ≤ 4096
    case neg =>
      have e2 : decide ((4096 : Int) < ng) = true := decide_eq_true (by omega)
      go_wp2
      go_ret
      exact ⟨rfl, Below.refl _ _⟩
    have e2 : decide ((4096 : Int) < ng) = false := decide_eq_false (by omega)
    by_cases l3 : no ≤ 4096
    case neg =>
      have e3 : decide ((4096 : Int) < no) = true := decide_eq_true (by omega)
      go_wp2
      go_ret
      exact ⟨rfl, Below.refl _ _⟩
    have e3 : decide ((4096 : Int) < no) = false := decide_eq_false (by omega)
    by_cases l4 : nb ≤ 4096
    case neg =>
      have e4 : decide ((4096 : Int) < nb) = true := decide_eq_true (by omega)
      go_wp2
      go_ret
      exact ⟨rfl, Below.refl _ _⟩
    have e4 : decide ((4096 : Int) < nb) = false := decide_eq_false (by omega)
    by_cases l5 : nf ≤ 4096
    case neg =>
      have e5 : decide ((4096 : Int) < nf) = true := decide_eq_true (by omega)
      go_wp2
      go_ret
      exact ⟨rfl, Below.refl _ _⟩
    have e5 : decide ((4096 : Int) < nf) = false := decide_eq_false (by omega)
    have e6 : decide ((1048576 : Int) < op.size) = false := decide_eq_false (by omega)
    have e7 : decide ((1048576 : Int) < obj.size) = false := decide_eq_false (by omega)
    have K := strBytes_any ao no co GO w' HO.out (by omega) bO
    go_wp2_with fail
    refine K.mono ?_
    clear K
    rintro e w ⟨⟨z1, rfl, hz1, hz1'⟩, rfl⟩
    have K := strBytes_any ab nb cb GB w HB.out (by omega) bB
    go_wp2_with fail
    refine K.mono ?_
    clear K
    rintro e w' ⟨⟨z2, rfl, hz2, hz2'⟩, rfl⟩
    by_cases hsum : 8 * ((ml : Int) + mh + ng + nf) + z1 + z2 + op.size + obj.size ≤ 1048576
    case neg =>
      have e8 : decide ((1048576 : Int) < 8 * ((ml : Int) + mh + ng + nf) + z1 + z2 + op.size + obj.size) = true := decide_eq_true (by omega)
      go_wp2
      go_ret
      exact ⟨rfl, Below.refl _ _⟩
    have e8 : decide ((1048576 : Int) < 8 * ((ml : Int) + mh + ng + nf) + z1 + z2 + op.size + obj.size) = false := decide_eq_false (by omega)
    by_cases hn1 : n < 1
    case pos =>
      have e9 : decide (n < 1) = true := decide_eq_true hn1
      go_wp2
      go_ret
      exact ⟨rfl, Below.refl _ _⟩
    have e9 : decide (n < 1) = false := decide_eq_false hn1
    by_cases hn2 : n ≤ 4096
    case neg =>
      have e10 : decide (4096 < n) = true := decide_eq_true (by omega)
      go_wp2
      go_ret
      exact ⟨rfl, Below.refl _ _⟩
    have e10 : decide (4096 < n) = false := decide_eq_false (by omega)
    have K := edgesOK_any n al ah ml cl mh ch X Y w' HL.out HH.out (by omega) (by omega)
    go_wp2_with fail
    refine K.mono ?_
    clear K
    rintro e w1 ⟨⟨b, rfl, hb⟩, qq, rfl⟩
    have hbl1 : Below w'.heap.size w' (w'.drewN qq) := below_drewN (Below.refl _ _) qq
    cases b with
    | false =>
      clear hb
      go_wp2
      go_ret
      exact ⟨rfl, hbl1⟩
    | true =>
    have HE : Hid (ml = mh ∧ ∀ i, i < ml → 0 ≤ X i ∧ X i < Y i ∧ Y i < n) := hb rfl
    clear hb
    have K := grantsOK_any n ag ao ab ng cg no co nb cb Z (w'.drewN qq) (HG.out.drewN qq) (by omega) (by omega) (by omega)
    go_wp2_with fail
    refine K.mono ?_
    clear K
    rintro e w2 ⟨⟨b, rfl, hb⟩, rfl⟩
    cases b with
    | false =>
      clear hb
      go_wp2
      go_ret
      exact ⟨rfl, hbl1⟩
    | true =>
    have HGr : Hid (ng = no ∧ ng = nb ∧ ∀ i, i < ng → 0 ≤ Z i ∧ Z i < n) := hb rfl
    clear hb
    have K := indicesOK_any n af nf cf V (w'.drewN qq) (HF.out.drewN qq) (by omega)
    go_wp2_with fail
    refine K.mono ?_
    clear K
    rintro e w2 ⟨⟨b, rfl, hb⟩, rfl⟩
    cases b with
    | false =>
      clear hb
      go_wp2
      go_ret
      exact ⟨rfl, hbl1⟩
    | true =>
    have hfr := hb rfl
    obtain ⟨rfl, hed⟩ := HE.out
    obtain ⟨rfl, rfl, hgr⟩ := HGr.out
    clear hb HE HGr
    obtain ⟨n0, rfl⟩ : ∃ n0 : Nat, n = n0 := ⟨n.toNat, by omega⟩
    have hn0 : n0 ≤ 4096 := by omega
    obtain ⟨w, hw⟩ : ∃ w, w = w'.drewN qq := ⟨_, rfl⟩
    have hL1 := (HL.out.drewN qq).nat (fun i hi => (hed i hi).1)
    have hH1 := (HH.out.drewN qq).nat (fun i hi => by have := hed i hi; omega)
    have hG1 := (HG.out.drewN qq).nat (fun i hi => (hgr i hi).1)
    have hF1 := (HF.out.drewN qq).nat (fun i hi => (hfr i hi).1)
    have hO1 := HO.out.drewN qq
    have hB1 := HB.out.drewN qq
    have bl : ∀ i, i < ml → (X i).toNat < n0 := fun i hi => by have := hed i hi; omega
    have bh : ∀ i, i < ml → (Y i).toNat < n0 := fun i hi => by have := hed i hi; omega
    have bg : ∀ i, i < ng → (Z i).toNat < n0 := fun i hi => by have := hgr i hi; omega
    have bf : ∀ i, i < nf → (V i).toNat < n0 := fun i hi => by have := hfr i hi; omega
    have sO : ∀ i, i < ng → (GO i).size ≤ maxLen := fun i hi => by have := bO i hi; unfold maxLen; omega
    have sB : ∀ i, i < ng → (GB i).size ≤ maxLen := fun i hi => by have := bB i hi; unfold maxLen; omega
    have so : op.size ≤ maxLen := by unfold maxLen; omega
    have sb : obj.size ≤ maxLen := by unfold maxLen; omega
    rw [← hw] at hL1 hH1 hG1 hF1 hO1 hB1 hbl1
    generalize hLO : (fun i => (X i).toNat) = LO at *
    generalize hHI : (fun i => (Y i).toNat) = HI at *
    generalize hGR : (fun i => (Z i).toNat) = GR at *
    generalize hFR : (fun i => (V i).toNat) = FR at *
    have eLO : ∀ i, (X i).toNat = LO i := fun i => by rw [← hLO]
    have eHI : ∀ i, (Y i).toNat = HI i := fun i => by rw [← hHI]
    have eGR : ∀ i, (Z i).toNat = GR i := fun i => by rw [← hGR]
    have eFR : ∀ i, (V i).toNat = FR i := fun i => by rw [← hFR]
    simp only [eLO] at hL1 bl
    simp only [eHI] at hH1 bh
    simp only [eGR] at hG1 bg
    simp only [eFR] at hF1 bf
    have K := buildPolicy_any n0 al ah ag ao ab ml cl ch ng cg co cb LO HI GR GO GB w hL1 hH1 hG1 hO1 hB1 hn0 l0 l2 bl bh bg sO sB
    have JL : Hid (IsA encI w al ml (fun i => (LO i : Int)) ∧ IsA encI w ah ml (fun i => (HI i : Int)) ∧ IsA encI w ag ng (fun i => (GR i : Int)) ∧ IsA encI w af nf (fun i => (FR i : Int)) ∧ IsA encS w ao ng GO ∧ IsA encS w ab ng GB) := ⟨hL1, hH1, hG1, hF1, hO1, hB1⟩
    have JB : Hid (Below w'.heap.size w' w) := hbl1
    have JW : Hid (w'.heap.size = w.heap.size) := by unfold Hid; rw [hw]; rfl
    rw [← hw]
    clear hw
    clear hL1 hH1 hG1 hF1 hO1 hB1 hbl1 HL HH HG HO HB HF hed hgr hfr hLO hHI hGR hFR eLO eHI eGR eFR
    go_wp2_with fail
    refine K.mono ?_
    clear K
    rintro e w1 ⟨pb, rb, B, rfl, hP1, hA1, hb1⟩
    have hFS : ∀ x, FSk FR nf x → ∃ v : Fin n0, x = .string (nmL v) := by
      rintro x ⟨i, hi, rfl⟩
      exact ⟨⟨FR i, bf i hi⟩, rfl⟩
    have hJS : ∀ u x, JSk HI LO ml u x → ∃ v : Fin n0, x = .string (nmL v) := by
      rintro u x ⟨i, hi, _, rfl⟩
      exact ⟨⟨LO i, bl i hi⟩, rfl⟩
    have K := nameSet_any af nf cf FR w1 (JL.out.2.2.2.1.below hb1 (Nat.le_refl _)) l5 (fun i hi => by have := bf i hi; omega)
    have JP : Hid (Pol w1 pb rb B n0 16384 (PSk GR GO GB ng) (JSk HI LO ml)) := hP1
    have J1 : Hid (Below w.heap.size w w1) := hb1
    clear hP1 hA1 hb1
    go_wp2_with fail
    refine K.mono ?_
    clear K
    rintro e w2 ⟨rfl, hS2, hb2⟩
    obtain ⟨Ks, hKs0⟩ : ∃ Ks, Ks = (List.range ng).map (fun g => pk (GO g) (GB g)) := ⟨_, rfl⟩
    have hKl : Ks.length ≤ 4096 := by rw [hKs0]; simp; omega
    have hKs : ∀ v y, PSk GR GO GB ng v y → y ∈ Ks := by
      rintro v y ⟨g, h1, _, h3⟩
      rw [hKs0]
      exact List.mem_map.2 ⟨g, List.mem_range.2 h1, h3.symm⟩
    have K := reached_any hn0 16384 w1.heap.size nf pb rb B (FSk FR nf) (PSk GR GO GB ng) (JSk HI LO ml) hFS hJS Ks hKl hKs w2 hS2 (JP.out.below hb2 (Nat.le_refl _))
    have J2 : Hid (Below w.heap.size w w2) := J1.out.trans (hb2.mono J1.out.size)
    have JF2 : Hid (SetAt w2 9 w1.heap.size nf (FSk FR nf)) := hS2
    have JP2 : Hid (Pol w2 pb rb B n0 16384 (PSk GR GO GB ng) (JSk HI LO ml)) := JP.out.below hb2 (Nat.le_refl _)
    clear hS2 hb2 J1 JP hKs0 hKl hKs
    go_wp2_with fail
    refine K.mono ?_
    clear K
    rintro e w3 ⟨hb, rfl, hhb, hset3, hb3⟩
    have J3 : Hid (Below w.heap.size w w3) := J2.out.trans (hb3.mono J2.out.size)
    have JF3 : Hid (SetAt w3 9 w1.heap.size nf (FSk FR nf)) := JF2.out.keep (hb3.block _ JF2.out.lt)
    have JP3 : Hid (Pol w3 pb rb B n0 16384 (PSk GR GO GB ng) (JSk HI LO ml)) := JP2.out.below hb3 (Nat.le_refl _)
    have JS3 : Hid (SetAt w3 45 hb Ks.length (fun y => ∃ v, Rc (FrN n0 (FSk FR nf)) (EdN n0 (JSk HI LO ml)) v ∧ PSk GR GO GB ng v y)) := hset3
    have K := downReach_any n0 al ah af ml cl ch nf cf LO HI FR w3 (JL.out.1.below J3.out (Nat.le_refl _)) (JL.out.2.1.below J3.out (Nat.le_refl _)) (JL.out.2.2.2.1.below J3.out (Nat.le_refl _)) hn0 l0 l5 bl bh bf
    clear hset3 hb3 hhb J2 JF2 JP2
    go_wp2_with fail
    refine K.mono ?_
    clear K
    rintro e w4 ⟨s, T, rfl, hFl, hT, hb4⟩
    have J4 : Hid (Below w.heap.size w w4) := J3.out.trans (hb4.mono J3.out.size)
    have JF4 : Hid (SetAt w4 9 w1.heap.size nf (FSk FR nf)) := JF3.out.keep (hb4.block _ JF3.out.lt)
    have JP4 : Hid (Pol w4 pb rb B n0 16384 (PSk GR GO GB ng) (JSk HI LO ml)) := JP3.out.below hb4 (Nat.le_refl _)
    have hset4 := JS3.out.keep (hb4.block _ JS3.out.lt)
    have JS4 : Hid (SetAt w4 45 hb Ks.length (fun y => ∃ v, Rc (FrN n0 (FSk FR nf)) (EdN n0 (JSk HI LO ml)) v ∧ PSk GR GO GB ng v y)) := hset4
    have hset4' : SetAt w4 45 hb Ks.length (fun y => ∃ g, g < ng ∧ T (GR g) = true ∧ y = pk (GO g) (GB g)) := hset4.congr fun y => by
      constructor
      · rintro ⟨v, h1, g, g1, g2, g3⟩
        exact ⟨g, g1, by rw [g2]; exact (hT v).2 ((rc_names hn0 bl bf v).1 h1), g3⟩
      · rintro ⟨g, g1, g2, g3⟩
        exact ⟨GR g, (rc_names hn0 bl bf _).2 ((hT _).1 g2), g, g1, rfl, g3⟩
    have K := exact_any hb Ks.length s n0 ag ao ab ng cg co cb T GR GO GB w4 hset4' hFl (JL.out.2.2.1.below J4.out (Nat.le_refl _)) (JL.out.2.2.2.2.1.below J4.out (Nat.le_refl _)) (JL.out.2.2.2.2.2.below J4.out (Nat.le_refl _)) hn0 l2 bg sO sB
    clear hFl hT hb4 hset4 hset4' J3 JF3 JP3 JS3
    go_wp2_with fail
    refine K.mono ?_
    clear K
    rintro e w5 ⟨rfl, hb5⟩
    have J5 : Hid (Below w.heap.size w w5) := J4.out.trans (hb5.mono J4.out.size)
    have JF5 : Hid (SetAt w5 9 w1.heap.size nf (FSk FR nf)) := JF4.out.keep (hb5.block _ JF4.out.lt)
    have JP5 : Hid (Pol w5 pb rb B n0 16384 (PSk GR GO GB ng) (JSk HI LO ml)) := JP4.out.below hb5 (Nat.le_refl _)
    have JS5 : Hid (SetAt w5 45 hb Ks.length (fun y => ∃ v, Rc (FrN n0 (FSk FR nf)) (EdN n0 (JSk HI LO ml)) v ∧ PSk GR GO GB ng v y)) := JS4.out.keep (hb5.block _ JS4.out.lt)
    clear hb5 J4 JF4 JP4 JS4
    go_wp2_with fail
    obtain ⟨w6, hw6⟩ : ∃ w6, w6 = w5.alloc (.cells #[.string op, .string obj] 45) := ⟨_, rfl⟩
    rw [← hw6]
    have b6 : Below w5.heap.size w5 w6 := by rw [hw6]; exact (Below.refl _ _).alloc (Nat.le_refl _) _
    have s6 : w6.heap.size = w5.heap.size + 1 := by rw [hw6]; simp
    have k1 : w6.cell? ⟨w5.heap.size, 0, none⟩ = some (.string op) := by rw [hw6, cell_of_row _ _ 0 _ 45 (0, 0) (heap_alloc_new w5 _)]; rfl
    have k2 : w6.cell? ⟨w5.heap.size, 1, none⟩ = some (.string obj) := by rw [hw6, cell_of_row _ _ 1 _ 45 (0, 0) (heap_alloc_new w5 _)]; rfl
    have J6 : Hid (Below w.heap.size w w6) := J5.out.trans (b6.mono J5.out.size)
    have JF6 : Hid (SetAt w6 9 w1.heap.size nf (FSk FR nf)) := JF5.out.keep (b6.block _ JF5.out.lt)
    have JP6 : Hid (Pol w6 pb rb B n0 16384 (PSk GR GO GB ng) (JSk HI LO ml)) := JP5.out.below b6 (Nat.le_refl _)
    have JS6 : Hid (SetAt w6 45 hb Ks.length (fun y => ∃ v, Rc (FrN n0 (FSk FR nf)) (EdN n0 (JSk HI LO ml)) v ∧ PSk GR GO GB ng v y)) := JS5.out.keep (b6.block _ JS5.out.lt)
    have HS6 : Hid (w6.heap.size = w5.heap.size + 1) := s6
    clear hw6 b6 s6 J5 JF5 JP5 JS5
    refine wp_region_noPanic ?_
    refine wp_region_held_drew (S := fun w' => w'.cell? ⟨w5.heap.size, 0, none⟩ = some (.string op) ∧ w'.cell? ⟨w5.heap.size, 1, none⟩ = some (.string obj)) (by kernel_rfl) ⟨k1, k2⟩ (fun hHeld => ?_)
    refine takeD 0 148 (v := ?av0) (by kernel_rfl) (by kernel_rfl) (by kernel_rfl) (by kernel_rfl) (fun _ _ _ _ h => h) ?ah0 hHeld ?_
    case ah0 => (intro oi ho; simp only [List.getElem?_toArray, List.getElem?_cons_zero, Option.some.injEq] at ho; subst ho; refine Or.inl ⟨by rfl, ?_⟩; intro w1 hSw; (try dsimp only at hSw); go_simp <;> with_reducible rfl)
    simp only [Act.put, List.setIfInBounds_toArray, List.set_cons_zero, List.set_cons_succ]
    refine takeD 1 149 (v := ?av1) (by kernel_rfl) (by kernel_rfl) (by kernel_rfl) (by kernel_rfl) (fun _ _ _ _ h => h) ?ah1 hHeld ?_
    case ah1 => (intro oi ho; simp only [List.getElem?_toArray, List.getElem?_cons_succ, List.getElem?_cons_zero, Option.some.injEq] at ho; subst ho; refine Or.inl ⟨by rfl, ?_⟩; intro w1 hSw; (try dsimp only at hSw); go_simp <;> with_reducible rfl)
    simp only [Act.put, List.setIfInBounds_toArray, List.set_cons_zero, List.set_cons_succ]
    refine takeD 2 150 (v := ?av2) (by kernel_rfl) (by kernel_rfl) (by kernel_rfl) (by kernel_rfl) (fun _ _ _ _ h => h) ?ah2 hHeld ?_
    case ah2 => (intro oi ho; simp only [List.getElem?_toArray, List.getElem?_cons_succ, List.getElem?_cons_zero, Option.some.injEq] at ho; subst ho; refine Or.inl ⟨by rfl, ?_⟩; intro w1 hSw; (try dsimp only at hSw); go_simp <;> with_reducible rfl)
    simp only [Act.put, List.setIfInBounds_toArray, List.set_cons_zero, List.set_cons_succ]
    refine takeD 4 152 (v := ?av4) (by kernel_rfl) (by kernel_rfl) (by kernel_rfl) (by kernel_rfl) (fun _ _ _ _ h => h) ?ah4 hHeld ?_
    case ah4 => (intro oi ho; simp only [List.getElem?_toArray, List.getElem?_cons_succ, List.getElem?_cons_zero, Option.some.injEq] at ho; subst ho; refine Or.inl ⟨by rfl, ?_⟩; intro w1 hSw; (try dsimp only at hSw); go_simp <;> with_reducible rfl)
    simp only [Act.put, List.setIfInBounds_toArray, List.set_cons_zero, List.set_cons_succ]
    refine takeD 5 153 (v := ?av5) (by kernel_rfl) (by kernel_rfl) (by kernel_rfl) (by kernel_rfl) (fun _ _ _ _ h => h) ?ah5 hHeld ?_
    case ah5 => (intro oi ho; simp only [List.getElem?_toArray, List.getElem?_cons_succ, List.getElem?_cons_zero, Option.some.injEq] at ho; subst ho; refine Or.inl ⟨by rfl, ?_⟩; intro w1 hSw; (try dsimp only at hSw); go_simp <;> with_reducible rfl)
    simp only [Act.put, List.setIfInBounds_toArray, List.set_cons_zero, List.set_cons_succ]
    refine oneD 3 (by kernel_rfl) (by kernel_rfl) ?_
    intro oi ho
    simp only [List.getElem?_toArray, List.getElem?_cons_succ, List.getElem?_cons_zero, Option.some.injEq] at ho; subst ho
    intro K' hK
    rw [if_pos (by rfl)]
    go_simp
    refine (zzHolds_any hn0 16384 w1.heap.size nf pb rb B (FSk FR nf) (PSk GR GO GB ng) (JSk HI LO ml) hFS hJS op obj so sb (w6.drewN 1) (JF6.out.keep rfl) (JP6.out.drewN 1)).mono ?_
    rintro e w7 ⟨⟨r1, rfl, hr1⟩, hb7'⟩
    have hb7 : Below w6.heap.size w6 w7 := ⟨hb7'.os, hb7'.tape, hb7'.output, hb7'.size, hb7'.block⟩
    have hS7 := JS6.out.keep (hb7.block _ JS6.out.lt)
    have J7 : Hid (Below w.heap.size w w7) := J6.out.trans (hb7.mono J6.out.size)
    refine hK.out _ _ ⟨(hb7.cell (p := ⟨w5.heap.size, 0, none⟩) (by have := HS6.out; show w5.heap.size < _; omega)).trans k1, (hb7.cell (p := ⟨w5.heap.size, 1, none⟩) (by have := HS6.out; show w5.heap.size < _; omega)).trans k2⟩ (fun hHeld => ?_)
    clear hK K'
    refine oneD 6 (by kernel_rfl) (by kernel_rfl) ?_
    intro oi ho
    simp only [List.getElem?_toArray, List.getElem?_cons_succ, List.getElem?_cons_zero, Option.some.injEq] at ho; subst ho
    intro K' hK
    rw [if_pos (by rfl)]
    go_simp
    refine (zzHeldIn_any hb Ks.length _ op obj so sb w7 hS7).mono ?_
    rintro e w8 ⟨⟨r2, rfl, hr2⟩, hb8⟩
    have J8 : Hid (Below w.heap.size w w8) := J7.out.trans (hb8.mono J7.out.size)
    have hs8 := hb7.size
    have hrr : r1 = r2 := by
      have h : r1 = true ↔ r2 = true := by
        rw [hr1, hr2]
        constructor
        · rintro ⟨v, g1, (g2 | ⟨g2, g3⟩)⟩
          · exact .inl ⟨v, g1, g2⟩
          · exact .inr ⟨g2, v, g1, g3⟩
        · rintro (⟨v, g1, g2⟩ | ⟨g2, v, g1, g3⟩)
          · exact ⟨v, g1, .inl g2⟩
          · exact ⟨v, g1, .inr ⟨g2, g3⟩⟩
      cases r1 <;> cases r2 <;> simp_all
    subst hrr
    refine hK.out _ _ ⟨(hb8.cell (p := ⟨w5.heap.size, 0, none⟩) (by have := HS6.out; show w5.heap.size < _; omega)).trans hHeld.1, (hb8.cell (p := ⟨w5.heap.size, 1, none⟩) (by have := HS6.out; show w5.heap.size < _; omega)).trans hHeld.2⟩ (fun hHeld => ?_)
    clear hK K'
    refine takeD 7 155 (v := ?av7) (by kernel_rfl) (by kernel_rfl) (by kernel_rfl) (by kernel_rfl) (fun _ _ _ _ h => h) ?ah7 hHeld ?_
    case ah7 => (intro oi ho; simp only [List.getElem?_toArray, List.getElem?_cons_succ, List.getElem?_cons_zero, Option.some.injEq] at ho; subst ho; refine Or.inl ⟨by rfl, ?_⟩; intro w1 hSw; (try dsimp only at hSw); go_simp <;> with_reducible rfl)
    simp only [Act.put, List.setIfInBounds_toArray, List.set_cons_zero, List.set_cons_succ]
    refine takeD 8 18 (v := ?av8) (by kernel_rfl) (by kernel_rfl) (by kernel_rfl) (by kernel_rfl) (fun _ _ _ _ h => h) ?ah8 hHeld ?_
    case ah8 => (intro oi ho; simp only [List.getElem?_toArray, List.getElem?_cons_succ, List.getElem?_cons_zero, Option.some.injEq] at ho; subst ho; refine Or.inl ⟨by rfl, ?_⟩; intro w1 hSw; (try dsimp only at hSw); go_simp <;> with_reducible rfl)
    simp only [Act.put, List.setIfInBounds_toArray, List.set_cons_zero, List.set_cons_succ]
    refine wpAnyH_done (by kernel_rfl) ?_ _
    refine NoPanic.normal ?_
    have hfin : Below w'.heap.size w' w8 := JB.out.trans (by rw [JW.out]; exact J8.out)
    have R1 : Hid (Below w'.heap.size w' w8) := hfin
    clear hfin hHeld hb8 hr1 hr2 hS7 hb7 hb7' k1 k2
    go_wp2
    go_ret
    exact ⟨by simp, R1.out⟩
end Go.Proofs.Qxb6609411a
