/-
  Seat b6609411a: buildPolicy (14).
-/
import Derived.Test.Qxb6609411aPolicy
namespace Go.Proofs.Qxb6609411a
open Go.ChangeShapes Go.WideShapes Go.ChangeAt Go.RowKit
set_option linter.unusedVariables false

def JSk (HI LO : Nat → Nat) (k : Nat) (v : Nat) (x : Lit) : Prop := ∃ i, i < k ∧ HI i = v ∧ x = .string (nmL (LO i))
noncomputable def PSk (GR : Nat → Nat) (GO GB : Nat → ByteArray) (k : Nat) (v : Nat) (x : Lit) : Prop := ∃ g, g < k ∧ GR g = v ∧ x = pk (GO g) (GB g)
theorem JSk_succ (HI LO : Nat → Nat) (k v : Nat) (x : Lit) : ((v = HI k ∧ x = .string (nmL (LO k))) ∨ JSk HI LO k v x) ↔ JSk HI LO (k + 1) v x := by
  constructor
  · rintro (⟨rfl, rfl⟩ | ⟨i, h1, h2, h3⟩)
    · exact ⟨k, by omega, rfl, rfl⟩
    · exact ⟨i, by omega, h2, h3⟩
  · rintro ⟨i, h1, h2, h3⟩
    by_cases e : i = k
    · subst e
      exact .inl ⟨h2.symm, h3⟩
    · exact .inr ⟨i, by omega, h2, h3⟩
theorem PSk_succ (GR : Nat → Nat) (GO GB : Nat → ByteArray) (k v : Nat) (x : Lit) : ((v = GR k ∧ x = pk (GO k) (GB k)) ∨ PSk GR GO GB k v x) ↔ PSk GR GO GB (k + 1) v x := by
  constructor
  · rintro (⟨rfl, rfl⟩ | ⟨i, h1, h2, h3⟩)
    · exact ⟨k, by omega, rfl, rfl⟩
    · exact ⟨i, by omega, h2, h3⟩
  · rintro ⟨i, h1, h2, h3⟩
    by_cases e : i = k
    · subst e
      exact .inl ⟨h2.symm, h3⟩
    · exact .inr ⟨i, by omega, h2, h3⟩
theorem Pol.drewN {w : World} {pb rb : Nat} {B : Nat → Nat → Nat} {n c : Nat} {PS JS : Nat → Lit → Prop} (h : Pol w pb rb B n c PS JS) (m : Nat) : Pol (w.drewN m) pb rb B n c PS JS :=
  h.keep (Nat.le_refl _) rfl rfl (fun _ _ _ _ => rfl)
theorem tab_f {B : Nat → Nat → Nat} {n v : Nat} (h : v < n) : (fun v => if v < n then some (B 0 v) else none) v = some (B 0 v) := if_pos h

set_option maxHeartbeats 8000000 in
set_option maxRecDepth 100000 in
theorem buildPolicy_any (n : Nat) (al ah ag ao ab : Option Addr) (m cl ch ng cg co cb : Nat) (LO HI GR : Nat → Nat) (GO GB : Nat → ByteArray) (w : World)
    (hL : IsA encI w al m (fun i => (LO i : Int))) (hH : IsA encI w ah m (fun i => (HI i : Int))) (hG : IsA encI w ag ng (fun i => (GR i : Int))) (hO : IsA encS w ao ng GO) (hB : IsA encS w ab ng GB)
    (hn : n ≤ 4096) (hm : m ≤ 4096) (hng : ng ≤ 4096) (bl : ∀ i, i < m → LO i < n) (bh : ∀ i, i < m → HI i < n) (bg : ∀ i, i < ng → GR i < n) (sO : ∀ i, i < ng → (GO i).size ≤ maxLen) (sB : ∀ i, i < ng → (GB i).size ≤ maxLen) :
    Calls Try.prog 14 #[.int .i64 n, .slice al m cl, .slice ah m ch, .slice ag ng cg, .slice ao ng co, .slice ab ng cb] w fun e w' =>
      ∃ (pb rb : Nat) (B : Nat → Nat → Nat), e = .returned (.pointer (some ⟨pb, 0, none⟩)) ∧ Pol w' pb rb B n 16384 (PSk GR GO GB ng) (JSk HI LO m) ∧ Apart w.heap.size pb rb B n ∧ Below w.heap.size w w' := by
  have HL : Hid (IsA encI w al m (fun i => (LO i : Int))) := hL
  have HH : Hid (IsA encI w ah m (fun i => (HI i : Int))) := hH
  have HG : Hid (IsA encI w ag ng (fun i => (GR i : Int))) := hG
  have HO : Hid (IsA encS w ao ng GO) := hO
  have HB : Hid (IsA encS w ab ng GB) := hB
  clear hL hH hG hO hB
  have Z := newPolicy_any w
  go_enter Try.func14, Try.ntmps14
  go_wp2_with fail
  refine Z.mono ?_
  clear Z
  rintro e w0 ⟨pb, rb, rfl, hrb, hpr, hps, hpc, htab, hb0⟩
  have hP0 : Pol w0 pb rb (fun _ _ => 0) 0 0 (fun _ _ => False) (fun _ _ => False) := ⟨hps, hpc, by
    obtain ⟨D, d1, d2⟩ := htab
    exact ⟨D, d1, fun v r hv hf => by simp at hf⟩, fun k v _ hv => absurd hv (Nat.not_lt_zero _), fun v hv => absurd hv (Nat.not_lt_zero _), fun v hv => absurd hv (Nat.not_lt_zero _), fun v hv => absurd hv (Nat.not_lt_zero _), fun v hv => absurd hv (Nat.not_lt_zero _), fun v hv => absurd hv (Nat.not_lt_zero _), fun v hv => absurd hv (Nat.not_lt_zero _)⟩
  have hA0 : Apart w.heap.size pb rb (fun _ _ => 0) 0 := ⟨fun k v _ _ _ _ hv => absurd hv (Nat.not_lt_zero _), fun k v _ hv => absurd hv (Nat.not_lt_zero _), by omega, by omega, hrb, fun k v _ hv => absurd hv (Nat.not_lt_zero _)⟩
  clear hpc htab hps hpr hrb
  go_wp2
  go_loopw [14] (fun i wr => ∃ (k : Nat) (B : Nat → Nat → Nat), k ≤ n ∧ i = .int .i64 k ∧ Pol wr pb rb B k 0 (fun _ _ => False) (fun _ _ => False) ∧ Apart w.heap.size pb rb B k ∧ Below w.heap.size w wr) (fun i _ => n - (intOf i).toNat)
  case atStart => exact ⟨0, _, Nat.zero_le _, rfl, hP0, hA0, hb0⟩
  case round =>
    clear hP0 hA0 hb0
    obtain ⟨k, B, hk, rfl, hP, hA, hb⟩ := hrel
    by_cases hlt : k < n
    · have Z := roleName_any k (by omega) wr
      have HP : Hid (Pol wr pb rb B k 0 (fun _ _ => False) (fun _ _ => False)) := hP
      have HA : Hid (Apart w.heap.size pb rb B k) := hA
      have HBB : Hid (Below w.heap.size w wr) := hb
      clear hP hA hb
      go_wp2_with fail
      refine Z.mono ?_
      clear Z
      rintro e w1 ⟨rfl, hb1⟩
      have Z := newRole_any w1
      have HB1 : Hid (Below wr.heap.size wr w1) := hb1
      clear hb1
      go_wp2_with fail
      refine Z.mono ?_
      clear Z
      rintro e w2 ⟨rfl, hsz, hcc, s1, s2, s3, hb2⟩
      have hP2 := (HP.out.below HB1.out (Nat.le_refl _)).below hb2 (Nat.le_refl _)
      have Z := putRole_any pb rb k k (roleB w1.heap.size 0) _ w2 hP2.pc hP2.tab (by unfold maxLen; omega) (by omega)
      have HX : Hid (w1.heap.size + 5 = w2.heap.size ∧ (w2.cell? ⟨roleB w1.heap.size 0, 0, none⟩ = some (.map (some (roleB w1.heap.size 1))) ∧ w2.cell? ⟨roleB w1.heap.size 0, 2, none⟩ = some (.map (some (roleB w1.heap.size 2))) ∧ w2.cell? ⟨roleB w1.heap.size 0, 3, none⟩ = some (.map (some (roleB w1.heap.size 3)))) ∧
        SetAt w2 45 (roleB w1.heap.size 1) 0 (fun _ => False) ∧ SetAt w2 9 (roleB w1.heap.size 2) 0 (fun _ => False) ∧ SetAt w2 9 (roleB w1.heap.size 3) 0 (fun _ => False) ∧ Below w1.heap.size w1 w2) := ⟨hsz, hcc, s1, s2, s3, hb2⟩
      clear hsz hcc s1 s2 s3 hb2 hP2
      go_wp2_with fail
      refine Z.mono ?_
      clear Z
      rintro e w3 ⟨⟨x, rfl⟩, ht3, hg3⟩
      obtain ⟨B', hP', hA'⟩ := Pol.addR HP.out HA.out HBB.out.size HB1.out HX.out.2.2.2.2.2 HX.out.1 HX.out.2.1 HX.out.2.2.1 HX.out.2.2.2.1 HX.out.2.2.2.2.1 hg3 ht3
      have hb3 : Below w.heap.size w w3 := below_grown ((HBB.out.trans (HB1.out.mono HBB.out.size)).trans (HX.out.2.2.2.2.2.mono (Nat.le_trans HBB.out.size HB1.out.size))) hg3 HA.out.br (Nat.le_refl _)
      have R1 : Hid (Pol w3 pb rb B' (k + 1) 0 (fun _ _ => False) (fun _ _ => False)) := hP'
      have R2 : Hid (Apart w.heap.size pb rb B' (k + 1)) := hA'
      have R3 : Hid (Below w.heap.size w w3) := hb3
      clear hP' hA' hb3 HX HP HA HBB HB1 ht3 hg3
      go_wp2
      go_roundw
      case rel => exact ⟨k + 1, B', by omega, by go_num, R1.out, R2.out, R3.out⟩
      case measure => simp [intOf]; omega
    · obtain rfl : n = k := by omega
      have hP0 : Pol wr pb rb B n (0 + 0) (PSk GR GO GB 0) (JSk HI LO 0) := hP.congr (fun v x => by simp [PSk]) (fun v x => by simp [JSk])
      have HA : Hid (Apart w.heap.size pb rb B n) := hA
      obtain ⟨wo, rfl⟩ : ∃ wo, wo = wr := ⟨_, rfl⟩
      clear hP hA
      go_wp2
      go_loopw [15] (fun i wr => ∃ k : Nat, k ≤ m ∧ i = .int .i64 k ∧ Pol wr pb rb B n (k + k) (PSk GR GO GB 0) (JSk HI LO k) ∧ Below w.heap.size w wr) (fun i _ => m - (intOf i).toNat)
      case atStart => exact ⟨0, Nat.zero_le _, rfl, hP0, hb⟩
      case round =>
        clear hP0 hb
        obtain ⟨k, hk, rfl, hP, hb⟩ := hrel
        by_cases hlt : k < m
        · rcases HL.out with h0 | ⟨lb, lof, rfl, hlb0, hlc⟩
          · omega
          rcases HH.out with h0 | ⟨hhb, hof, rfl, hhb0, hhc⟩
          · omega
          have hszw := hb.size
          have q1 := (hb.cell (p := ⟨lb, lof + k, none⟩) hlb0).trans (hlc k hlt)
          have q2 := (hb.cell (p := ⟨hhb, hof + k, none⟩) hhb0).trans (hhc k hlt)
          clear hlc hhc
          have hl1 := bl k hlt
          have hh1 := bh k hlt
          have ik0 : (0 : Int) ≤ k := by omega
          have ik1 : (k : Int) < m := by omega
          have HP : Hid (Pol wr pb rb B n (k + k) (PSk GR GO GB 0) (JSk HI LO k)) := hP
          have HBB : Hid (Below w.heap.size w wr) := hb
          clear hP hb
          go_wp2_with fail
          refine wp_region_noPanic ?_
          refine wp_region_held_drew (S := fun w' => w'.cell? ⟨lb, lof + k, none⟩ = some (.int .i64 (LO k)) ∧ w'.cell? ⟨hhb, hof + k, none⟩ = some (.int .i64 (HI k))) (by kernel_rfl) ⟨q1, q2⟩ (fun hHeld => ?_)
          refine takeD 0 34 (v := ?av0) (by kernel_rfl) (by kernel_rfl) (by kernel_rfl) (by kernel_rfl) (fun _ _ _ _ h => h) ?ah0 hHeld ?_
          case ah0 => (intro oi ho; simp only [List.getElem?_toArray, List.getElem?_cons_zero, Option.some.injEq] at ho; subst ho; refine Or.inl ⟨by rfl, ?_⟩; intro w1 hSw; (try dsimp only at hSw); go_simp <;> with_reducible rfl)
          simp only [Act.put, List.setIfInBounds_toArray, List.set_cons_zero, List.set_cons_succ]
          refine takeD 1 35 (v := ?av1) (by kernel_rfl) (by kernel_rfl) (by kernel_rfl) (by kernel_rfl) (fun _ _ _ _ h => h) ?ah1 hHeld ?_
          case ah1 => (intro oi ho; simp only [List.getElem?_toArray, List.getElem?_cons_succ, List.getElem?_cons_zero, Option.some.injEq] at ho; subst ho; refine Or.inl ⟨by rfl, ?_⟩; intro w1 hSw; (try dsimp only at hSw); go_simp <;> with_reducible rfl)
          simp only [Act.put, List.setIfInBounds_toArray, List.set_cons_zero, List.set_cons_succ]
          refine takeD 2 36 (v := ?av2) (by kernel_rfl) (by kernel_rfl) (by kernel_rfl) (by kernel_rfl) (fun _ _ _ _ h => h) ?ah2 hHeld ?_
          case ah2 => (intro oi ho; simp only [List.getElem?_toArray, List.getElem?_cons_succ, List.getElem?_cons_zero, Option.some.injEq] at ho; subst ho; refine Or.inl ⟨by rfl, ?_⟩; intro w1 hSw; (try dsimp only at hSw); go_simp <;> with_reducible rfl)
          simp only [Act.put, List.setIfInBounds_toArray, List.set_cons_zero, List.set_cons_succ]
          refine takeD 3 37 (v := ?av3) (by kernel_rfl) (by kernel_rfl) (by kernel_rfl) (by kernel_rfl) (fun _ _ _ _ h => h) ?ah3 hHeld ?_
          case ah3 => (intro oi ho; simp only [List.getElem?_toArray, List.getElem?_cons_succ, List.getElem?_cons_zero, Option.some.injEq] at ho; subst ho; refine Or.inl ⟨by rfl, ?_⟩; intro w1 hSw; (try dsimp only at hSw); go_simp <;> with_reducible rfl)
          simp only [Act.put, List.setIfInBounds_toArray, List.set_cons_zero, List.set_cons_succ]
          refine takeD 4 38 (v := ?av4) (by kernel_rfl) (by kernel_rfl) (by kernel_rfl) (by kernel_rfl) (fun _ _ _ _ h => h) ?ah4 hHeld ?_
          case ah4 => (intro oi ho; simp only [List.getElem?_toArray, List.getElem?_cons_succ, List.getElem?_cons_zero, Option.some.injEq] at ho; subst ho; refine Or.inl ⟨by rfl, ?_⟩; intro w1 hSw; (try dsimp only at hSw); go_simp <;> with_reducible rfl)
          simp only [Act.put, List.setIfInBounds_toArray, List.set_cons_zero, List.set_cons_succ]
          refine takeD 7 41 (v := ?av7) (by kernel_rfl) (by kernel_rfl) (by kernel_rfl) (by kernel_rfl) (fun _ _ _ _ h => h) ?ah7 hHeld ?_
          case ah7 => (intro oi ho; simp only [List.getElem?_toArray, List.getElem?_cons_succ, List.getElem?_cons_zero, Option.some.injEq] at ho; subst ho; refine Or.inl ⟨by rfl, ?_⟩; intro w1 hSw; (try dsimp only at hSw); go_simp <;> with_reducible rfl)
          simp only [Act.put, List.setIfInBounds_toArray, List.set_cons_zero, List.set_cons_succ]
          refine takeD 8 42 (v := ?av8) (by kernel_rfl) (by kernel_rfl) (by kernel_rfl) (by kernel_rfl) (fun _ _ _ _ h => h) ?ah8 hHeld ?_
          case ah8 => (intro oi ho; simp only [List.getElem?_toArray, List.getElem?_cons_succ, List.getElem?_cons_zero, Option.some.injEq] at ho; subst ho; refine Or.inl ⟨by rfl, ?_⟩; intro w1 hSw; (try dsimp only at hSw); go_simp <;> with_reducible rfl)
          simp only [Act.put, List.setIfInBounds_toArray, List.set_cons_zero, List.set_cons_succ]
          refine takeD 9 43 (v := ?av9) (by kernel_rfl) (by kernel_rfl) (by kernel_rfl) (by kernel_rfl) (fun _ _ _ _ h => h) ?ah9 hHeld ?_
          case ah9 => (intro oi ho; simp only [List.getElem?_toArray, List.getElem?_cons_succ, List.getElem?_cons_zero, Option.some.injEq] at ho; subst ho; refine Or.inl ⟨by rfl, ?_⟩; intro w1 hSw; (try dsimp only at hSw); go_simp <;> with_reducible rfl)
          simp only [Act.put, List.setIfInBounds_toArray, List.set_cons_zero, List.set_cons_succ]
          refine takeD 10 44 (v := ?av10) (by kernel_rfl) (by kernel_rfl) (by kernel_rfl) (by kernel_rfl) (fun _ _ _ _ h => h) ?ah10 hHeld ?_
          case ah10 => (intro oi ho; simp only [List.getElem?_toArray, List.getElem?_cons_succ, List.getElem?_cons_zero, Option.some.injEq] at ho; subst ho; refine Or.inl ⟨by rfl, ?_⟩; intro w1 hSw; (try dsimp only at hSw); go_simp <;> with_reducible rfl)
          simp only [Act.put, List.setIfInBounds_toArray, List.set_cons_zero, List.set_cons_succ]
          refine oneD 5 (by kernel_rfl) (by kernel_rfl) ?_
          intro oi ho
          simp only [List.getElem?_toArray, List.getElem?_cons_succ, List.getElem?_cons_zero, Option.some.injEq] at ho; subst ho
          intro K' hK
          rw [if_pos (by rfl)]
          go_simp
          refine (roleName_any (HI k) (by omega) _).mono ?_
          rintro e a1 ⟨rfl, hb1'⟩
          have hb1 : Below wr.heap.size wr a1 := ⟨hb1'.os, hb1'.tape, hb1'.output, hb1'.size, hb1'.block⟩
          have hp1 := HP.out.below hb1 (Nat.le_refl _)
          have hBB1 := HBB.out.trans (hb1.mono HBB.out.size)
          clear hb1'
          refine hK.out _ _ ⟨(hb1.cell (p := ⟨lb, lof + k, none⟩) (by show lb < _; omega)).trans q1, (hb1.cell (p := ⟨hhb, hof + k, none⟩) (by show hhb < _; omega)).trans q2⟩ (fun hHeld => ?_)
          clear hK K'
          refine oneD 6 (by kernel_rfl) (by kernel_rfl) ?_
          intro oi ho
          simp only [List.getElem?_toArray, List.getElem?_cons_succ, List.getElem?_cons_zero, Option.some.injEq] at ho; subst ho
          intro K' hK
          rw [if_pos (by rfl)]
          go_simp
          refine (role_any pb rb n (HI k) (B 0 (HI k)) _ _ hp1.pc hp1.tab (by omega) (tab_f (by omega))).mono ?_
          rintro e a2 ⟨rfl, rfl⟩
          refine hK.out _ _ hHeld (fun hHeld => ?_)
          clear hK K'
          refine oneD 11 (by kernel_rfl) (by kernel_rfl) ?_
          intro oi ho
          simp only [List.getElem?_toArray, List.getElem?_cons_succ, List.getElem?_cons_zero, Option.some.injEq] at ho; subst ho
          intro K' hK
          rw [if_pos (by rfl)]
          go_simp
          refine (roleName_any (LO k) (by omega) _).mono ?_
          rintro e a3 ⟨rfl, hb3⟩
          have hp3 := hp1.below hb3 (Nat.le_refl _)
          have hs1 := hb1.size
          have hBB3 := hBB1.trans (hb3.mono hBB1.size)
          refine hK.out _ _ ⟨(hb3.cell (p := ⟨lb, lof + k, none⟩) (by show lb < _; omega)).trans hHeld.1, (hb3.cell (p := ⟨hhb, hof + k, none⟩) (by show hhb < _; omega)).trans hHeld.2⟩ (fun hHeld => ?_)
          clear hK K'
          refine oneD 12 (by kernel_rfl) (by kernel_rfl) ?_
          intro oi ho
          simp only [List.getElem?_toArray, List.getElem?_cons_succ, List.getElem?_cons_zero, Option.some.injEq] at ho; subst ho
          intro K' hK
          rw [if_pos (by rfl)]
          go_simp
          refine (addJunior_any (B 0 (HI k)) (B 2 (HI k)) (k + k) (LO k) _ _ (hp3.c2 _ hh1) (hp3.jun _ hh1) (by unfold maxLen; omega)).mono ?_
          rintro e a4 ⟨⟨x, rfl⟩, hs4, hg4⟩
          have hp4 := hp3.addJ HA.out (HI k) hh1 _ hg4 hs4
          have hBB4 := below_grown hBB3 hg4 (HA.out.bb 2 _ (by omega) hh1) (Nat.le_refl _)
          have hs3 := hb3.size
          have hnl := hs4.lt
          have hne1 : lb ≠ B 2 (HI k) := fun e => by have := HA.out.bb 2 _ (by omega) hh1; omega
          have hne2 : hhb ≠ B 2 (HI k) := fun e => by have := HA.out.bb 2 _ (by omega) hh1; omega
          have q1' := (World.cell?_of_block (a := ⟨lb, lof + k, none⟩) (hg4.block lb (by omega) (fun e => hne1 (by simpa using e)))).trans hHeld.1
          have q2' := (World.cell?_of_block (a := ⟨hhb, hof + k, none⟩) (hg4.block hhb (by omega) (fun e => hne2 (by simpa using e)))).trans hHeld.2
          refine hK.out _ _ ⟨q1', q2'⟩ (fun hHeld => ?_)
          clear hK K'
          refine wpAnyH_done (by kernel_rfl) ?_ _
          refine NoPanic.normal ?_
          have HP4 : Hid (Pol a4 pb rb B n (k + k + 1) (PSk GR GO GB 0) (JSk HI LO (k + 1))) := hp4.congr (fun v x => Iff.rfl) (JSk_succ HI LO k)
          have HB4 : Hid (Below w.heap.size w a4) := hBB4
          clear hp4 hBB4 hs4 hg4 hHeld hb1 hb3 hp1 hp3 hBB1 hBB3 HP HBB q1 q2 hs1 hs3 hne1 hne2 hnl hszw
          have q1 := q1'
          have q2 := q2'
          clear q1' q2'
          have hszw := HB4.out.size
          have HP : Hid (Pol a4 pb rb B n (k + k + 1) (PSk GR GO GB 0) (JSk HI LO (k + 1))) := HP4
          have HBB : Hid (Below w.heap.size w a4) := HB4
          clear HP4 HB4
          go_wp2_with fail
          refine wp_region_noPanic ?_
          refine wp_region_held_drew (S := fun w' => w'.cell? ⟨lb, lof + k, none⟩ = some (.int .i64 (LO k)) ∧ w'.cell? ⟨hhb, hof + k, none⟩ = some (.int .i64 (HI k))) (by kernel_rfl) ⟨q1, q2⟩ (fun hHeld => ?_)
          refine takeD 0 47 (v := ?bv0) (by kernel_rfl) (by kernel_rfl) (by kernel_rfl) (by kernel_rfl) (fun _ _ _ _ h => h) ?bh0 hHeld ?_
          case bh0 => (intro oi ho; simp only [List.getElem?_toArray, List.getElem?_cons_zero, Option.some.injEq] at ho; subst ho; refine Or.inl ⟨by rfl, ?_⟩; intro w1 hSw; (try dsimp only at hSw); go_simp <;> with_reducible rfl)
          simp only [Act.put, List.setIfInBounds_toArray, List.set_cons_zero, List.set_cons_succ]
          refine takeD 1 48 (v := ?bv1) (by kernel_rfl) (by kernel_rfl) (by kernel_rfl) (by kernel_rfl) (fun _ _ _ _ h => h) ?bh1 hHeld ?_
          case bh1 => (intro oi ho; simp only [List.getElem?_toArray, List.getElem?_cons_succ, List.getElem?_cons_zero, Option.some.injEq] at ho; subst ho; refine Or.inl ⟨by rfl, ?_⟩; intro w1 hSw; (try dsimp only at hSw); go_simp <;> with_reducible rfl)
          simp only [Act.put, List.setIfInBounds_toArray, List.set_cons_zero, List.set_cons_succ]
          refine takeD 2 49 (v := ?bv2) (by kernel_rfl) (by kernel_rfl) (by kernel_rfl) (by kernel_rfl) (fun _ _ _ _ h => h) ?bh2 hHeld ?_
          case bh2 => (intro oi ho; simp only [List.getElem?_toArray, List.getElem?_cons_succ, List.getElem?_cons_zero, Option.some.injEq] at ho; subst ho; refine Or.inl ⟨by rfl, ?_⟩; intro w1 hSw; (try dsimp only at hSw); go_simp <;> with_reducible rfl)
          simp only [Act.put, List.setIfInBounds_toArray, List.set_cons_zero, List.set_cons_succ]
          refine takeD 3 50 (v := ?bv3) (by kernel_rfl) (by kernel_rfl) (by kernel_rfl) (by kernel_rfl) (fun _ _ _ _ h => h) ?bh3 hHeld ?_
          case bh3 => (intro oi ho; simp only [List.getElem?_toArray, List.getElem?_cons_succ, List.getElem?_cons_zero, Option.some.injEq] at ho; subst ho; refine Or.inl ⟨by rfl, ?_⟩; intro w1 hSw; (try dsimp only at hSw); go_simp <;> with_reducible rfl)
          simp only [Act.put, List.setIfInBounds_toArray, List.set_cons_zero, List.set_cons_succ]
          refine takeD 4 51 (v := ?bv4) (by kernel_rfl) (by kernel_rfl) (by kernel_rfl) (by kernel_rfl) (fun _ _ _ _ h => h) ?bh4 hHeld ?_
          case bh4 => (intro oi ho; simp only [List.getElem?_toArray, List.getElem?_cons_succ, List.getElem?_cons_zero, Option.some.injEq] at ho; subst ho; refine Or.inl ⟨by rfl, ?_⟩; intro w1 hSw; (try dsimp only at hSw); go_simp <;> with_reducible rfl)
          simp only [Act.put, List.setIfInBounds_toArray, List.set_cons_zero, List.set_cons_succ]
          refine takeD 7 54 (v := ?bv7) (by kernel_rfl) (by kernel_rfl) (by kernel_rfl) (by kernel_rfl) (fun _ _ _ _ h => h) ?bh7 hHeld ?_
          case bh7 => (intro oi ho; simp only [List.getElem?_toArray, List.getElem?_cons_succ, List.getElem?_cons_zero, Option.some.injEq] at ho; subst ho; refine Or.inl ⟨by rfl, ?_⟩; intro w1 hSw; (try dsimp only at hSw); go_simp <;> with_reducible rfl)
          simp only [Act.put, List.setIfInBounds_toArray, List.set_cons_zero, List.set_cons_succ]
          refine takeD 8 55 (v := ?bv8) (by kernel_rfl) (by kernel_rfl) (by kernel_rfl) (by kernel_rfl) (fun _ _ _ _ h => h) ?bh8 hHeld ?_
          case bh8 => (intro oi ho; simp only [List.getElem?_toArray, List.getElem?_cons_succ, List.getElem?_cons_zero, Option.some.injEq] at ho; subst ho; refine Or.inl ⟨by rfl, ?_⟩; intro w1 hSw; (try dsimp only at hSw); go_simp <;> with_reducible rfl)
          simp only [Act.put, List.setIfInBounds_toArray, List.set_cons_zero, List.set_cons_succ]
          refine takeD 9 56 (v := ?bv9) (by kernel_rfl) (by kernel_rfl) (by kernel_rfl) (by kernel_rfl) (fun _ _ _ _ h => h) ?bh9 hHeld ?_
          case bh9 => (intro oi ho; simp only [List.getElem?_toArray, List.getElem?_cons_succ, List.getElem?_cons_zero, Option.some.injEq] at ho; subst ho; refine Or.inl ⟨by rfl, ?_⟩; intro w1 hSw; (try dsimp only at hSw); go_simp <;> with_reducible rfl)
          simp only [Act.put, List.setIfInBounds_toArray, List.set_cons_zero, List.set_cons_succ]
          refine takeD 10 57 (v := ?bv10) (by kernel_rfl) (by kernel_rfl) (by kernel_rfl) (by kernel_rfl) (fun _ _ _ _ h => h) ?bh10 hHeld ?_
          case bh10 => (intro oi ho; simp only [List.getElem?_toArray, List.getElem?_cons_succ, List.getElem?_cons_zero, Option.some.injEq] at ho; subst ho; refine Or.inl ⟨by rfl, ?_⟩; intro w1 hSw; (try dsimp only at hSw); go_simp <;> with_reducible rfl)
          simp only [Act.put, List.setIfInBounds_toArray, List.set_cons_zero, List.set_cons_succ]
          refine oneD 5 (by kernel_rfl) (by kernel_rfl) ?_
          intro oi ho
          simp only [List.getElem?_toArray, List.getElem?_cons_succ, List.getElem?_cons_zero, Option.some.injEq] at ho; subst ho
          intro K' hK
          rw [if_pos (by rfl)]
          go_simp
          refine (roleName_any (LO k) (by omega) _).mono ?_
          rintro e b1 ⟨rfl, hb1'⟩
          have hb1 : Below a4.heap.size a4 b1 := ⟨hb1'.os, hb1'.tape, hb1'.output, hb1'.size, hb1'.block⟩
          have hp1 := HP.out.below hb1 (Nat.le_refl _)
          have hBB1 := HBB.out.trans (hb1.mono HBB.out.size)
          clear hb1'
          refine hK.out _ _ ⟨(hb1.cell (p := ⟨lb, lof + k, none⟩) (by show lb < _; omega)).trans q1, (hb1.cell (p := ⟨hhb, hof + k, none⟩) (by show hhb < _; omega)).trans q2⟩ (fun hHeld => ?_)
          clear hK K'
          refine oneD 6 (by kernel_rfl) (by kernel_rfl) ?_
          intro oi ho
          simp only [List.getElem?_toArray, List.getElem?_cons_succ, List.getElem?_cons_zero, Option.some.injEq] at ho; subst ho
          intro K' hK
          rw [if_pos (by rfl)]
          go_simp
          refine (role_any pb rb n (LO k) (B 0 (LO k)) _ _ hp1.pc hp1.tab (by omega) (tab_f (by omega))).mono ?_
          rintro e b2 ⟨rfl, rfl⟩
          refine hK.out _ _ hHeld (fun hHeld => ?_)
          clear hK K'
          refine oneD 11 (by kernel_rfl) (by kernel_rfl) ?_
          intro oi ho
          simp only [List.getElem?_toArray, List.getElem?_cons_succ, List.getElem?_cons_zero, Option.some.injEq] at ho; subst ho
          intro K' hK
          rw [if_pos (by rfl)]
          go_simp
          refine (roleName_any (HI k) (by omega) _).mono ?_
          rintro e b3 ⟨rfl, hb3⟩
          have hp3 := hp1.below hb3 (Nat.le_refl _)
          have hs1 := hb1.size
          have hBB3 := hBB1.trans (hb3.mono hBB1.size)
          refine hK.out _ _ ⟨(hb3.cell (p := ⟨lb, lof + k, none⟩) (by show lb < _; omega)).trans hHeld.1, (hb3.cell (p := ⟨hhb, hof + k, none⟩) (by show hhb < _; omega)).trans hHeld.2⟩ (fun hHeld => ?_)
          clear hK K'
          obtain ⟨T0, hT0⟩ := hp3.sen _ hl1
          refine oneD 12 (by kernel_rfl) (by kernel_rfl) ?_
          intro oi ho
          simp only [List.getElem?_toArray, List.getElem?_cons_succ, List.getElem?_cons_zero, Option.some.injEq] at ho; subst ho
          intro K' hK
          rw [if_pos (by rfl)]
          go_simp
          refine (addSenior_any (B 0 (LO k)) (B 3 (LO k)) (k + k + 1) (HI k) _ _ (hp3.c3 _ hl1) hT0 (by unfold maxLen; omega)).mono ?_
          rintro e b4 ⟨⟨x, rfl⟩, hs4, hg4⟩
          have hp4 := hp3.addS HA.out (LO k) hl1 _ hg4 hs4
          have hBB4 := below_grown hBB3 hg4 (HA.out.bb 3 _ (by omega) hl1) (Nat.le_refl _)
          have hs3 := hb3.size
          have hne1 : lb ≠ B 3 (LO k) := fun e => by have := HA.out.bb 3 _ (by omega) hl1; omega
          have hne2 : hhb ≠ B 3 (LO k) := fun e => by have := HA.out.bb 3 _ (by omega) hl1; omega
          have q1' := (World.cell?_of_block (a := ⟨lb, lof + k, none⟩) (hg4.block lb (by omega) (fun e => hne1 (by simpa using e)))).trans hHeld.1
          have q2' := (World.cell?_of_block (a := ⟨hhb, hof + k, none⟩) (hg4.block hhb (by omega) (fun e => hne2 (by simpa using e)))).trans hHeld.2
          refine hK.out _ _ ⟨q1', q2'⟩ (fun hHeld => ?_)
          clear hK K'
          refine wpAnyH_done (by kernel_rfl) ?_ _
          refine NoPanic.normal ?_
          have R1 : Hid (Pol b4 pb rb B n ((k + 1) + (k + 1)) (PSk GR GO GB 0) (JSk HI LO (k + 1))) := hp4.mono (by omega)
          have R2 : Hid (Below w.heap.size w b4) := hBB4
          clear hp4 hBB4 hs4 hg4 hHeld hb1 hb3 hp1 hp3 hBB1 hBB3 HP HBB q1 q2 hs1 hs3 hne1 hne2 q1' q2' hT0
          go_wp2
          go_roundw
          case rel => exact ⟨k + 1, by omega, by go_num, R1.out, R2.out⟩
          case measure => simp [intOf]; omega
        · obtain rfl : m = k := by omega
          have hP0 : Pol wr pb rb B n (m + m + 0) (PSk GR GO GB 0) (JSk HI LO m) := hP
          obtain ⟨wp, rfl⟩ : ∃ wp, wp = wr := ⟨_, rfl⟩
          clear hP
          go_wp2
          go_loopw [16] (fun i wr => ∃ k : Nat, k ≤ ng ∧ i = .int .i64 k ∧ Pol wr pb rb B n (m + m + k) (PSk GR GO GB k) (JSk HI LO m) ∧ Below w.heap.size w wr) (fun i _ => ng - (intOf i).toNat)
          case atStart => exact ⟨0, Nat.zero_le _, rfl, hP0, hb⟩
          case round =>
            clear hP0 hb
            obtain ⟨k, hk, rfl, hP, hb⟩ := hrel
            by_cases hlt : k < ng
            · rcases HG.out with h0 | ⟨gb, gof, rfl, hgb0, hgc⟩
              · omega
              rcases HO.out with h0 | ⟨ob, oof, rfl, hob0, hoc⟩
              · omega
              rcases HB.out with h0 | ⟨bb, bof, rfl, hbb0, hbc⟩
              · omega
              have hszw := hb.size
              have q1 := (hb.cell (p := ⟨gb, gof + k, none⟩) hgb0).trans (hgc k hlt)
              have q2 := (hb.cell (p := ⟨ob, oof + k, none⟩) hob0).trans (hoc k hlt)
              have q3 := (hb.cell (p := ⟨bb, bof + k, none⟩) hbb0).trans (hbc k hlt)
              clear hgc hoc hbc
              have hg1 := bg k hlt
              have so := sO k hlt
              have sb := sB k hlt
              have ik0 : (0 : Int) ≤ k := by omega
              have ik1 : (k : Int) < ng := by omega
              have HP : Hid (Pol wr pb rb B n (m + m + k) (PSk GR GO GB k) (JSk HI LO m)) := hP
              have HBB : Hid (Below w.heap.size w wr) := hb
              clear hP hb
              go_wp2_with fail
              refine wp_region_noPanic ?_
              refine wp_region_held_drew (S := fun w' => w'.cell? ⟨gb, gof + k, none⟩ = some (.int .i64 (GR k)) ∧ w'.cell? ⟨ob, oof + k, none⟩ = some (.string (GO k)) ∧ w'.cell? ⟨bb, bof + k, none⟩ = some (.string (GB k))) (by kernel_rfl) ⟨q1, q2, q3⟩ (fun hHeld => ?_)
              refine takeD 0 66 (v := ?cv0) (by kernel_rfl) (by kernel_rfl) (by kernel_rfl) (by kernel_rfl) (fun _ _ _ _ h => h) ?ch0 hHeld ?_
              case ch0 => (intro oi ho; simp only [List.getElem?_toArray, List.getElem?_cons_zero, Option.some.injEq] at ho; subst ho; refine Or.inl ⟨by rfl, ?_⟩; intro w1 hSw; (try dsimp only at hSw); go_simp <;> with_reducible rfl)
              simp only [Act.put, List.setIfInBounds_toArray, List.set_cons_zero, List.set_cons_succ]
              refine takeD 1 67 (v := ?cv1) (by kernel_rfl) (by kernel_rfl) (by kernel_rfl) (by kernel_rfl) (fun _ _ _ _ h => h) ?ch1 hHeld ?_
              case ch1 => (intro oi ho; simp only [List.getElem?_toArray, List.getElem?_cons_succ, List.getElem?_cons_zero, Option.some.injEq] at ho; subst ho; refine Or.inl ⟨by rfl, ?_⟩; intro w1 hSw; (try dsimp only at hSw); go_simp <;> with_reducible rfl)
              simp only [Act.put, List.setIfInBounds_toArray, List.set_cons_zero, List.set_cons_succ]
              refine takeD 2 68 (v := ?cv2) (by kernel_rfl) (by kernel_rfl) (by kernel_rfl) (by kernel_rfl) (fun _ _ _ _ h => h) ?ch2 hHeld ?_
              case ch2 => (intro oi ho; simp only [List.getElem?_toArray, List.getElem?_cons_succ, List.getElem?_cons_zero, Option.some.injEq] at ho; subst ho; refine Or.inl ⟨by rfl, ?_⟩; intro w1 hSw; (try dsimp only at hSw); go_simp <;> with_reducible rfl)
              simp only [Act.put, List.setIfInBounds_toArray, List.set_cons_zero, List.set_cons_succ]
              refine takeD 3 69 (v := ?cv3) (by kernel_rfl) (by kernel_rfl) (by kernel_rfl) (by kernel_rfl) (fun _ _ _ _ h => h) ?ch3 hHeld ?_
              case ch3 => (intro oi ho; simp only [List.getElem?_toArray, List.getElem?_cons_succ, List.getElem?_cons_zero, Option.some.injEq] at ho; subst ho; refine Or.inl ⟨by rfl, ?_⟩; intro w1 hSw; (try dsimp only at hSw); go_simp <;> with_reducible rfl)
              simp only [Act.put, List.setIfInBounds_toArray, List.set_cons_zero, List.set_cons_succ]
              refine takeD 4 70 (v := ?cv4) (by kernel_rfl) (by kernel_rfl) (by kernel_rfl) (by kernel_rfl) (fun _ _ _ _ h => h) ?ch4 hHeld ?_
              case ch4 => (intro oi ho; simp only [List.getElem?_toArray, List.getElem?_cons_succ, List.getElem?_cons_zero, Option.some.injEq] at ho; subst ho; refine Or.inl ⟨by rfl, ?_⟩; intro w1 hSw; (try dsimp only at hSw); go_simp <;> with_reducible rfl)
              simp only [Act.put, List.setIfInBounds_toArray, List.set_cons_zero, List.set_cons_succ]
              refine takeD 7 73 (v := ?cv7) (by kernel_rfl) (by kernel_rfl) (by kernel_rfl) (by kernel_rfl) (fun _ _ _ _ h => h) ?ch7 hHeld ?_
              case ch7 => (intro oi ho; simp only [List.getElem?_toArray, List.getElem?_cons_succ, List.getElem?_cons_zero, Option.some.injEq] at ho; subst ho; refine Or.inl ⟨by rfl, ?_⟩; intro w1 hSw; (try dsimp only at hSw); go_simp <;> with_reducible rfl)
              simp only [Act.put, List.setIfInBounds_toArray, List.set_cons_zero, List.set_cons_succ]
              refine takeD 8 74 (v := ?cv8) (by kernel_rfl) (by kernel_rfl) (by kernel_rfl) (by kernel_rfl) (fun _ _ _ _ h => h) ?ch8 hHeld ?_
              case ch8 => (intro oi ho; simp only [List.getElem?_toArray, List.getElem?_cons_succ, List.getElem?_cons_zero, Option.some.injEq] at ho; subst ho; refine Or.inl ⟨by rfl, ?_⟩; intro w1 hSw; (try dsimp only at hSw); go_simp <;> with_reducible rfl)
              simp only [Act.put, List.setIfInBounds_toArray, List.set_cons_zero, List.set_cons_succ]
              refine takeD 9 75 (v := ?cv9) (by kernel_rfl) (by kernel_rfl) (by kernel_rfl) (by kernel_rfl) (fun _ _ _ _ h => h) ?ch9 hHeld ?_
              case ch9 => (intro oi ho; simp only [List.getElem?_toArray, List.getElem?_cons_succ, List.getElem?_cons_zero, Option.some.injEq] at ho; subst ho; refine Or.inl ⟨by rfl, ?_⟩; intro w1 hSw; (try dsimp only at hSw); go_simp <;> with_reducible rfl)
              simp only [Act.put, List.setIfInBounds_toArray, List.set_cons_zero, List.set_cons_succ]
              refine takeD 10 76 (v := ?cv10) (by kernel_rfl) (by kernel_rfl) (by kernel_rfl) (by kernel_rfl) (fun _ _ _ _ h => h) ?ch10 hHeld ?_
              case ch10 => (intro oi ho; simp only [List.getElem?_toArray, List.getElem?_cons_succ, List.getElem?_cons_zero, Option.some.injEq] at ho; subst ho; refine Or.inl ⟨by rfl, ?_⟩; intro w1 hSw; (try dsimp only at hSw); go_simp <;> with_reducible rfl)
              simp only [Act.put, List.setIfInBounds_toArray, List.set_cons_zero, List.set_cons_succ]
              refine takeD 11 77 (v := ?cv11) (by kernel_rfl) (by kernel_rfl) (by kernel_rfl) (by kernel_rfl) (fun _ _ _ _ h => h) ?ch11 hHeld ?_
              case ch11 => (intro oi ho; simp only [List.getElem?_toArray, List.getElem?_cons_succ, List.getElem?_cons_zero, Option.some.injEq] at ho; subst ho; refine Or.inl ⟨by rfl, ?_⟩; intro w1 hSw; (try dsimp only at hSw); go_simp <;> with_reducible rfl)
              simp only [Act.put, List.setIfInBounds_toArray, List.set_cons_zero, List.set_cons_succ]
              refine takeD 12 78 (v := ?cv12) (by kernel_rfl) (by kernel_rfl) (by kernel_rfl) (by kernel_rfl) (fun _ _ _ _ h => h) ?ch12 hHeld ?_
              case ch12 => (intro oi ho; simp only [List.getElem?_toArray, List.getElem?_cons_succ, List.getElem?_cons_zero, Option.some.injEq] at ho; subst ho; refine Or.inl ⟨by rfl, ?_⟩; intro w1 hSw; (try dsimp only at hSw); go_simp <;> with_reducible rfl)
              simp only [Act.put, List.setIfInBounds_toArray, List.set_cons_zero, List.set_cons_succ]
              refine takeD 13 79 (v := ?cv13) (by kernel_rfl) (by kernel_rfl) (by kernel_rfl) (by kernel_rfl) (fun _ _ _ _ h => h) ?ch13 hHeld ?_
              case ch13 => (intro oi ho; simp only [List.getElem?_toArray, List.getElem?_cons_succ, List.getElem?_cons_zero, Option.some.injEq] at ho; subst ho; refine Or.inl ⟨by rfl, ?_⟩; intro w1 hSw; (try dsimp only at hSw); go_simp <;> with_reducible rfl)
              simp only [Act.put, List.setIfInBounds_toArray, List.set_cons_zero, List.set_cons_succ]
              refine takeD 14 80 (v := ?cv14) (by kernel_rfl) (by kernel_rfl) (by kernel_rfl) (by kernel_rfl) (fun _ _ _ _ h => h) ?ch14 hHeld ?_
              case ch14 => (intro oi ho; simp only [List.getElem?_toArray, List.getElem?_cons_succ, List.getElem?_cons_zero, Option.some.injEq] at ho; subst ho; refine Or.inl ⟨by rfl, ?_⟩; intro w1 hSw; (try dsimp only at hSw); go_simp <;> with_reducible rfl)
              simp only [Act.put, List.setIfInBounds_toArray, List.set_cons_zero, List.set_cons_succ]
              refine takeD 15 81 (v := ?cv15) (by kernel_rfl) (by kernel_rfl) (by kernel_rfl) (by kernel_rfl) (fun _ _ _ _ h => h) ?ch15 hHeld ?_
              case ch15 => (intro oi ho; simp only [List.getElem?_toArray, List.getElem?_cons_succ, List.getElem?_cons_zero, Option.some.injEq] at ho; subst ho; refine Or.inl ⟨by rfl, ?_⟩; intro w1 hSw; (try dsimp only at hSw); go_simp <;> with_reducible rfl)
              simp only [Act.put, List.setIfInBounds_toArray, List.set_cons_zero, List.set_cons_succ]
              refine oneD 5 (by kernel_rfl) (by kernel_rfl) ?_
              intro oi ho
              simp only [List.getElem?_toArray, List.getElem?_cons_succ, List.getElem?_cons_zero, Option.some.injEq] at ho; subst ho
              intro K' hK
              rw [if_pos (by rfl)]
              go_simp
              refine (roleName_any (GR k) (by omega) _).mono ?_
              rintro e c1 ⟨rfl, hb1'⟩
              have hb1 : Below wr.heap.size wr c1 := ⟨hb1'.os, hb1'.tape, hb1'.output, hb1'.size, hb1'.block⟩
              have hp1 := HP.out.below hb1 (Nat.le_refl _)
              have hBB1 := HBB.out.trans (hb1.mono HBB.out.size)
              clear hb1'
              refine hK.out _ _ ⟨(hb1.cell (p := ⟨gb, gof + k, none⟩) (by show gb < _; omega)).trans q1, (hb1.cell (p := ⟨ob, oof + k, none⟩) (by show ob < _; omega)).trans q2, (hb1.cell (p := ⟨bb, bof + k, none⟩) (by show bb < _; omega)).trans q3⟩ (fun hHeld => ?_)
              clear hK K'
              refine oneD 6 (by kernel_rfl) (by kernel_rfl) ?_
              intro oi ho
              simp only [List.getElem?_toArray, List.getElem?_cons_succ, List.getElem?_cons_zero, Option.some.injEq] at ho; subst ho
              intro K' hK
              rw [if_pos (by rfl)]
              go_simp
              refine (role_any pb rb n (GR k) (B 0 (GR k)) _ _ hp1.pc hp1.tab (by omega) (tab_f (by omega))).mono ?_
              rintro e c2 ⟨rfl, rfl⟩
              refine hK.out _ _ hHeld (fun hHeld => ?_)
              clear hK K'
              refine oneD 16 (by kernel_rfl) (by kernel_rfl) ?_
              intro oi ho
              simp only [List.getElem?_toArray, List.getElem?_cons_succ, List.getElem?_cons_zero, Option.some.injEq] at ho; subst ho
              intro K' hK
              rw [if_pos (by rfl)]
              go_simp
              refine (grant_any (B 0 (GR k)) (B 1 (GR k)) (m + m + k) (GO k) (GB k) so sb _ _ (hp1.lt 0 _ (by omega) hg1) (hp1.c0 _ hg1) (hp1.perms _ hg1) (by unfold maxLen; omega)).mono ?_
              rintro e c4 ⟨⟨x, rfl⟩, hs4, hg4⟩
              have hp4 := hp1.addP HA.out (GR k) hg1 _ hg4 hs4
              have hBB4 := below_grown hBB1 hg4 (HA.out.bb 1 _ (by omega) hg1) (Nat.le_refl _)
              have hs1 := hb1.size
              have hbnd := HA.out.bb 1 _ (by omega) hg1
              have q1' := (World.cell?_of_block (a := ⟨gb, gof + k, none⟩) (hg4.block gb (by omega) (fun e => by simp at e; omega))).trans hHeld.1
              have q2' := (World.cell?_of_block (a := ⟨ob, oof + k, none⟩) (hg4.block ob (by omega) (fun e => by simp at e; omega))).trans hHeld.2.1
              have q3' := (World.cell?_of_block (a := ⟨bb, bof + k, none⟩) (hg4.block bb (by omega) (fun e => by simp at e; omega))).trans hHeld.2.2
              refine hK.out _ _ ⟨q1', q2', q3'⟩ (fun hHeld => ?_)
              clear hK K'
              refine wpAnyH_done (by kernel_rfl) ?_ _
              refine NoPanic.normal ?_
              have R1 : Hid (Pol c4 pb rb B n (m + m + (k + 1)) (PSk GR GO GB (k + 1)) (JSk HI LO m)) := hp4.congr (PSk_succ GR GO GB k) (fun v x => Iff.rfl)
              have R2 : Hid (Below w.heap.size w c4) := hBB4
              clear hp4 hBB4 hs4 hg4 hHeld hb1 hp1 hBB1 HP HBB q1 q2 q3 hs1 q1' q2' q3' hbnd
              go_wp2
              go_roundw
              case rel => exact ⟨k + 1, by omega, by go_num, R1.out, R2.out⟩
              case measure => simp [intOf]; omega
            · obtain rfl : ng = k := by omega
              go_wp2
              go_ret
              exact ⟨pb, rb, B, rfl, hP.mono (by omega), HA.out, hb⟩
end Go.Proofs.Qxb6609411a
