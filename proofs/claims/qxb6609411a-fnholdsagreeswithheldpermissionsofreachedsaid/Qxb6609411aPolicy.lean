/-
  Seat b6609411a: how a policy lies in memory.
-/
import Derived.Test.Qxb6609411aPol
namespace Go.Proofs.Qxb6609411a
open Go.ChangeShapes Go.WideShapes Go.ChangeAt Go.RowKit
set_option linter.unusedVariables false

/-- where a policy's blocks lie: all apart. -/
structure Apart (base pb rb : Nat) (B : Nat → Nat → Nat) (n : Nat) : Prop where
  inj : ∀ k v k' v', k < 4 → k' < 4 → v < n → v' < n → B k v = B k' v' → k = k' ∧ v = v'
  np : ∀ k v, k < 4 → v < n → pb ≠ B k v ∧ rb ≠ B k v
  npr : pb ≠ rb
  bp : base ≤ pb
  br : base ≤ rb
  bb : ∀ k v, k < 4 → v < n → base ≤ B k v

structure Pol (w : World) (pb rb : Nat) (B : Nat → Nat → Nat) (n c : Nat) (PS JS : Nat → Lit → Prop) : Prop where
  pl : pb < w.heap.size
  pc : w.cell? ⟨pb, 1, none⟩ = some (.map (some rb))
  tab : TabAt w rb n (fun v => if v < n then some (B 0 v) else none)
  lt : ∀ k v, k < 4 → v < n → B k v < w.heap.size
  c0 : ∀ v, v < n → w.cell? ⟨B 0 v, 0, none⟩ = some (.map (some (B 1 v)))
  c2 : ∀ v, v < n → w.cell? ⟨B 0 v, 2, none⟩ = some (.map (some (B 2 v)))
  c3 : ∀ v, v < n → w.cell? ⟨B 0 v, 3, none⟩ = some (.map (some (B 3 v)))
  perms : ∀ v, v < n → SetAt w 45 (B 1 v) c (PS v)
  jun : ∀ v, v < n → SetAt w 9 (B 2 v) c (JS v)
  sen : ∀ v, v < n → ∃ S, SetAt w 9 (B 3 v) c S

theorem Pol.keep {w w' : World} {pb rb : Nat} {B : Nat → Nat → Nat} {n c : Nat} {PS JS : Nat → Lit → Prop} (h : Pol w pb rb B n c PS JS) (hs : w.heap.size ≤ w'.heap.size) (hb : w'.heap[pb]? = w.heap[pb]?) (hr : w'.heap[rb]? = w.heap[rb]?)
    (hB : ∀ k v, k < 4 → v < n → w'.heap[B k v]? = w.heap[B k v]?) : Pol w' pb rb B n c PS JS where
  pl := Nat.lt_of_lt_of_le h.pl hs
  pc := (World.cell?_of_block (a := ⟨pb, 1, none⟩) hb).trans h.pc
  tab := h.tab.keep hr
  lt := fun k v hk hv => Nat.lt_of_lt_of_le (h.lt k v hk hv) hs
  c0 := fun v hv => (World.cell?_of_block (a := ⟨B 0 v, 0, none⟩) (hB 0 v (by omega) hv)).trans (h.c0 v hv)
  c2 := fun v hv => (World.cell?_of_block (a := ⟨B 0 v, 2, none⟩) (hB 0 v (by omega) hv)).trans (h.c2 v hv)
  c3 := fun v hv => (World.cell?_of_block (a := ⟨B 0 v, 3, none⟩) (hB 0 v (by omega) hv)).trans (h.c3 v hv)
  perms := fun v hv => (h.perms v hv).keep (hB 1 v (by omega) hv)
  jun := fun v hv => (h.jun v hv).keep (hB 2 v (by omega) hv)
  sen := fun v hv => let ⟨S, hS⟩ := h.sen v hv; ⟨S, hS.keep (hB 3 v (by omega) hv)⟩

theorem Pol.below {w w' : World} {pb rb : Nat} {B : Nat → Nat → Nat} {n c : Nat} {PS JS : Nat → Lit → Prop} (h : Pol w pb rb B n c PS JS) {K : Nat} (hb : Below K w w') (hK : w.heap.size ≤ K) : Pol w' pb rb B n c PS JS :=
  h.keep hb.size (hb.block _ (Nat.lt_of_lt_of_le h.pl hK)) (hb.block _ (Nat.lt_of_lt_of_le h.tab.lt hK)) (fun k v hk hv => hb.block _ (Nat.lt_of_lt_of_le (h.lt k v hk hv) hK))

theorem Pol.mono {w : World} {pb rb : Nat} {B : Nat → Nat → Nat} {n c c' : Nat} {PS JS : Nat → Lit → Prop} (h : Pol w pb rb B n c PS JS) (hc : c ≤ c') : Pol w pb rb B n c' PS JS :=
  { h with perms := fun v hv => (h.perms v hv).mono hc, jun := fun v hv => (h.jun v hv).mono hc, sen := fun v hv => let ⟨S, hS⟩ := h.sen v hv; ⟨S, hS.mono hc⟩ }

theorem Pol.congr {w : World} {pb rb : Nat} {B : Nat → Nat → Nat} {n c : Nat} {PS JS PS' JS' : Nat → Lit → Prop} (h : Pol w pb rb B n c PS JS) (e1 : ∀ v x, PS v x ↔ PS' v x) (e2 : ∀ v x, JS v x ↔ JS' v x) : Pol w pb rb B n c PS' JS' :=
  { h with perms := fun v hv => (h.perms v hv).congr (e1 v), jun := fun v hv => (h.jun v hv).congr (e2 v) }

/-- the four blocks of role v, in a world that has turned one of the sets. -/
theorem Pol.turn {w w' : World} {base pb rb : Nat} {B : Nat → Nat → Nat} {n c : Nat} {PS JS PS' JS' : Nat → Lit → Prop} (h : Pol w pb rb B n c PS JS) (ha : Apart base pb rb B n) (kk vv : Nat) (hk0 : 0 < kk) (hk : kk < 4) (hv : vv < n) (hg : w.grownBy w' (some (B kk vv)))
    (hp : ∀ v, v < n → SetAt w' 45 (B 1 v) (c + 1) (PS' v)) (hj : ∀ v, v < n → SetAt w' 9 (B 2 v) (c + 1) (JS' v)) (hs : ∀ v, v < n → ∃ S, SetAt w' 9 (B 3 v) (c + 1) S) : Pol w' pb rb B n (c + 1) PS' JS' := by
  have e0 : ∀ v, v < n → w'.heap[B 0 v]? = w.heap[B 0 v]? := fun v hv' => hg.block _ (h.lt 0 v (by omega) hv') (fun e => by
    have := (ha.inj 0 v kk vv (by omega) hk hv' hv (by simpa using e)).1
    omega)
  exact {
    pl := Nat.lt_of_lt_of_le h.pl hg.size
    pc := (World.cell?_of_block (a := ⟨pb, 1, none⟩) (hg.block _ h.pl (fun e => (ha.np kk vv hk hv).1 (by simpa using e)))).trans h.pc
    tab := h.tab.keep (hg.block _ h.tab.lt (fun e => (ha.np kk vv hk hv).2 (by simpa using e)))
    lt := fun k v hk hv => Nat.lt_of_lt_of_le (h.lt k v hk hv) hg.size
    c0 := fun v hv => (World.cell?_of_block (a := ⟨B 0 v, 0, none⟩) (e0 v hv)).trans (h.c0 v hv)
    c2 := fun v hv => (World.cell?_of_block (a := ⟨B 0 v, 2, none⟩) (e0 v hv)).trans (h.c2 v hv)
    c3 := fun v hv => (World.cell?_of_block (a := ⟨B 0 v, 3, none⟩) (e0 v hv)).trans (h.c3 v hv)
    perms := hp
    jun := hj
    sen := hs }

theorem Pol.other {w w' : World} {base pb rb : Nat} {B : Nat → Nat → Nat} {n c : Nat} {PS JS : Nat → Lit → Prop} (h : Pol w pb rb B n c PS JS) (ha : Apart base pb rb B n) {kk vv : Nat} (hk : kk < 4) (hv : vv < n) (hg : w.grownBy w' (some (B kk vv))) (k v : Nat) (hk' : k < 4) (hv' : v < n) (hne : ¬ (k = kk ∧ v = vv)) : w'.heap[B k v]? = w.heap[B k v]? :=
  hg.block _ (h.lt k v hk' hv') (fun e => hne (ha.inj k v kk vv hk' hk hv' hv (by simpa using e)))

theorem Pol.addJ {w w' : World} {base pb rb : Nat} {B : Nat → Nat → Nat} {n c : Nat} {PS JS : Nat → Lit → Prop} (h : Pol w pb rb B n c PS JS) (ha : Apart base pb rb B n) (vv : Nat) (hv : vv < n) (x0 : Lit) (hg : w.grownBy w' (some (B 2 vv))) (hS : SetAt w' 9 (B 2 vv) (c + 1) (fun x => x = x0 ∨ JS vv x)) :
    Pol w' pb rb B n (c + 1) PS (fun v x => (v = vv ∧ x = x0) ∨ JS v x) := by
  refine h.turn ha 2 vv (by omega) (by omega) hv hg (fun v hv' => ((h.perms v hv').keep (h.other ha (by omega) hv hg 1 v (by omega) hv' (by omega))).mono (by omega)) (fun v hv' => ?_) (fun v hv' => ?_)
  · by_cases e : v = vv
    · subst e
      exact hS.congr fun x => by simp
    · exact (((h.jun v hv').keep (h.other ha (by omega) hv hg 2 v (by omega) hv' (by omega))).mono (by omega)).congr fun x => by simp [e]
  · obtain ⟨S, hS'⟩ := h.sen v hv'
    exact ⟨S, (hS'.keep (h.other ha (by omega) hv hg 3 v (by omega) hv' (by omega))).mono (by omega)⟩

theorem Pol.addS {w w' : World} {base pb rb : Nat} {B : Nat → Nat → Nat} {n c : Nat} {PS JS : Nat → Lit → Prop} (h : Pol w pb rb B n c PS JS) (ha : Apart base pb rb B n) (vv : Nat) (hv : vv < n) (T : Lit → Prop) (hg : w.grownBy w' (some (B 3 vv))) (hS : SetAt w' 9 (B 3 vv) (c + 1) T) :
    Pol w' pb rb B n (c + 1) PS JS := by
  refine h.turn ha 3 vv (by omega) (by omega) hv hg (fun v hv' => ((h.perms v hv').keep (h.other ha (by omega) hv hg 1 v (by omega) hv' (by omega))).mono (by omega)) (fun v hv' => ((h.jun v hv').keep (h.other ha (by omega) hv hg 2 v (by omega) hv' (by omega))).mono (by omega)) (fun v hv' => ?_)
  by_cases e : v = vv
  · subst e
    exact ⟨_, hS⟩
  · obtain ⟨S, hS'⟩ := h.sen v hv'
    exact ⟨S, (hS'.keep (h.other ha (by omega) hv hg 3 v (by omega) hv' (by omega))).mono (by omega)⟩

theorem Pol.addP {w w' : World} {base pb rb : Nat} {B : Nat → Nat → Nat} {n c : Nat} {PS JS : Nat → Lit → Prop} (h : Pol w pb rb B n c PS JS) (ha : Apart base pb rb B n) (vv : Nat) (hv : vv < n) (x0 : Lit) (hg : w.grownBy w' (some (B 1 vv))) (hS : SetAt w' 45 (B 1 vv) (c + 1) (fun x => x = x0 ∨ PS vv x)) :
    Pol w' pb rb B n (c + 1) (fun v x => (v = vv ∧ x = x0) ∨ PS v x) JS := by
  refine h.turn ha 1 vv (by omega) (by omega) hv hg (fun v hv' => ?_) (fun v hv' => ((h.jun v hv').keep (h.other ha (by omega) hv hg 2 v (by omega) hv' (by omega))).mono (by omega)) (fun v hv' => ?_)
  · by_cases e : v = vv
    · subst e
      exact hS.congr fun x => by simp
    · exact (((h.perms v hv').keep (h.other ha (by omega) hv hg 1 v (by omega) hv' (by omega))).mono (by omega)).congr fun x => by simp [e]
  · obtain ⟨S, hS'⟩ := h.sen v hv'
    exact ⟨S, (hS'.keep (h.other ha (by omega) hv hg 3 v (by omega) hv' (by omega))).mono (by omega)⟩

theorem below_grown {K : Nat} {w0 w w' : World} {b : Nat} (hb : Below K w0 w) (hg : w.grownBy w' (some b)) (hB : K ≤ b) (hK : K ≤ w0.heap.size) : Below K w0 w' :=
  hb.grown hg (Nat.le_trans hK hb.size) (fun k e => by cases e; exact hB)

/-- one more role. -/
theorem Pol.addR {w w1 w2 w3 : World} {base pb rb : Nat} {B : Nat → Nat → Nat} {n c : Nat} (h : Pol w pb rb B n c (fun _ _ => False) (fun _ _ => False)) (ha : Apart base pb rb B n) (hbase : base ≤ w.heap.size)
    (h1 : Below w.heap.size w w1) (h2 : Below w1.heap.size w1 w2) (hsz : w1.heap.size + 5 = w2.heap.size)
    (hc : w2.cell? ⟨roleB w1.heap.size 0, 0, none⟩ = some (.map (some (roleB w1.heap.size 1))) ∧ w2.cell? ⟨roleB w1.heap.size 0, 2, none⟩ = some (.map (some (roleB w1.heap.size 2))) ∧ w2.cell? ⟨roleB w1.heap.size 0, 3, none⟩ = some (.map (some (roleB w1.heap.size 3))))
    (s1 : SetAt w2 45 (roleB w1.heap.size 1) 0 (fun _ => False)) (s2 : SetAt w2 9 (roleB w1.heap.size 2) 0 (fun _ => False)) (s3 : SetAt w2 9 (roleB w1.heap.size 3) 0 (fun _ => False))
    (hg : w2.grownBy w3 (some rb)) (ht : TabAt w3 rb (n + 1) (fun x => if x = n then some (roleB w1.heap.size 0) else if x < n then some (B 0 x) else none)) :
    ∃ B', Pol w3 pb rb B' (n + 1) c (fun _ _ => False) (fun _ _ => False) ∧ Apart base pb rb B' (n + 1) := by
  have hr := h.tab.lt
  have hp := h.pl
  have s1' := h1.size
  have hrole : ∀ k, k < 4 → w1.heap.size ≤ roleB w1.heap.size k ∧ roleB w1.heap.size k < w2.heap.size := fun k hk => by
    match k, hk with
    | 0, _ => simp only [roleB]; omega
    | 1, _ => simp only [roleB]; omega
    | 2, _ => simp only [roleB]; omega
    | 3, _ => simp only [roleB]; omega
  have hrinj : ∀ k k', k < 4 → k' < 4 → roleB w1.heap.size k = roleB w1.heap.size k' → k = k' := fun k k' hk hk' => by
    match k, hk, k', hk' with
    | 0, _, 0, _ => simp
    | 0, _, 1, _ => simp only [roleB]; omega
    | 0, _, 2, _ => simp only [roleB]; omega
    | 0, _, 3, _ => simp only [roleB]; omega
    | 1, _, 0, _ => simp only [roleB]; omega
    | 1, _, 1, _ => simp
    | 1, _, 2, _ => simp only [roleB]; omega
    | 1, _, 3, _ => simp only [roleB]; omega
    | 2, _, 0, _ => simp only [roleB]; omega
    | 2, _, 1, _ => simp only [roleB]; omega
    | 2, _, 2, _ => simp
    | 2, _, 3, _ => simp only [roleB]; omega
    | 3, _, 0, _ => simp only [roleB]; omega
    | 3, _, 1, _ => simp only [roleB]; omega
    | 3, _, 2, _ => simp only [roleB]; omega
    | 3, _, 3, _ => simp
  have old : ∀ b, b < w.heap.size → b ≠ rb → w3.heap[b]? = w.heap[b]? := fun b hb hne =>
    (hg.block b (by have := h2.size; omega) (fun e => hne (by simpa using e))).trans ((h2.block b (by omega)).trans (h1.block b hb))
  have new : ∀ b, w1.heap.size ≤ b → b < w2.heap.size → w3.heap[b]? = w2.heap[b]? := fun b hb hb' => hg.block b hb' (fun e => by simp at e; omega)
  let B' : Nat → Nat → Nat := fun k v => if v = n then roleB w1.heap.size k else B k v
  have bn : ∀ k, B' k n = roleB w1.heap.size k := fun k => if_pos rfl
  have bo : ∀ k v, v ≠ n → B' k v = B k v := fun k v e => if_neg e
  refine ⟨B', ?_, ?_⟩
  · refine ⟨?_, ?_, ?_, fun k v hk hv => ?_, fun v hv => ?_, fun v hv => ?_, fun v hv => ?_, fun v hv => ?_, fun v hv => ?_, fun v hv => ?_⟩
    · have := hg.size
      omega
    · exact (World.cell?_of_block (a := ⟨pb, 1, none⟩) (old pb hp ha.npr)).trans h.pc
    · obtain ⟨D, d1, d2⟩ := ht
      refine ⟨D, d1, fun v r hv hf => d2 v r hv ?_⟩
      by_cases e : v = n
      · subst e
        simp only [if_pos (Nat.lt_succ_self v), bn] at hf
        simpa using hf
      · by_cases e2 : v < n
        · simp only [if_pos (show v < n + 1 by omega), bo 0 v e] at hf
          simpa [e, e2] using hf
        · simp [show ¬ v < n + 1 by omega] at hf
    · have := hg.size
      by_cases e : v = n
      · subst e
        rw [bn]
        have := (hrole k hk).2
        omega
      · rw [bo k v e]
        have := h.lt k v hk (by omega)
        omega
    · by_cases e : v = n
      · subst e
        rw [bn, bn]
        exact (World.cell?_of_block (a := ⟨_, 0, none⟩) (new _ (hrole 0 (by omega)).1 (hrole 0 (by omega)).2)).trans hc.1
      · rw [bo 0 v e, bo 1 v e]
        exact (World.cell?_of_block (a := ⟨_, 0, none⟩) (old _ (h.lt 0 v (by omega) (by omega)) (Ne.symm (ha.np 0 v (by omega) (by omega)).2))).trans (h.c0 v (by omega))
    · by_cases e : v = n
      · subst e
        rw [bn, bn]
        exact (World.cell?_of_block (a := ⟨_, 2, none⟩) (new _ (hrole 0 (by omega)).1 (hrole 0 (by omega)).2)).trans hc.2.1
      · rw [bo 0 v e, bo 2 v e]
        exact (World.cell?_of_block (a := ⟨_, 2, none⟩) (old _ (h.lt 0 v (by omega) (by omega)) (Ne.symm (ha.np 0 v (by omega) (by omega)).2))).trans (h.c2 v (by omega))
    · by_cases e : v = n
      · subst e
        rw [bn, bn]
        exact (World.cell?_of_block (a := ⟨_, 3, none⟩) (new _ (hrole 0 (by omega)).1 (hrole 0 (by omega)).2)).trans hc.2.2
      · rw [bo 0 v e, bo 3 v e]
        exact (World.cell?_of_block (a := ⟨_, 3, none⟩) (old _ (h.lt 0 v (by omega) (by omega)) (Ne.symm (ha.np 0 v (by omega) (by omega)).2))).trans (h.c3 v (by omega))
    · by_cases e : v = n
      · subst e
        rw [bn]
        exact (s1.keep (new _ (hrole 1 (by omega)).1 (hrole 1 (by omega)).2)).mono (Nat.zero_le _)
      · rw [bo 1 v e]
        exact (h.perms v (by omega)).keep (old _ (h.lt 1 v (by omega) (by omega)) (Ne.symm (ha.np 1 v (by omega) (by omega)).2))
    · by_cases e : v = n
      · subst e
        rw [bn]
        exact (s2.keep (new _ (hrole 2 (by omega)).1 (hrole 2 (by omega)).2)).mono (Nat.zero_le _)
      · rw [bo 2 v e]
        exact (h.jun v (by omega)).keep (old _ (h.lt 2 v (by omega) (by omega)) (Ne.symm (ha.np 2 v (by omega) (by omega)).2))
    · by_cases e : v = n
      · subst e
        rw [bn]
        exact ⟨_, (s3.keep (new _ (hrole 3 (by omega)).1 (hrole 3 (by omega)).2)).mono (Nat.zero_le _)⟩
      · rw [bo 3 v e]
        obtain ⟨S, hS⟩ := h.sen v (by omega)
        exact ⟨S, hS.keep (old _ (h.lt 3 v (by omega) (by omega)) (Ne.symm (ha.np 3 v (by omega) (by omega)).2))⟩
  · refine ⟨fun k v k' v' hk hk' hv hv' e => ?_, fun k v hk hv => ?_, ha.npr, ha.bp, ha.br, fun k v hk hv => ?_⟩
    · by_cases e1 : v = n
      · subst e1
        rw [bn] at e
        by_cases e2 : v' = v
        · subst e2
          rw [bn] at e
          exact ⟨hrinj k k' hk hk' e, rfl⟩
        · rw [bo k' v' e2] at e
          have := h.lt k' v' hk' (by omega)
          have := (hrole k hk).1
          omega
      · rw [bo k v e1] at e
        by_cases e2 : v' = n
        · subst e2
          rw [bn] at e
          have := h.lt k v hk (by omega)
          have := (hrole k' hk').1
          omega
        · rw [bo k' v' e2] at e
          exact ha.inj k v k' v' hk hk' (by omega) (by omega) e
    · by_cases e1 : v = n
      · subst e1
        rw [bn]
        have := (hrole k hk).1
        exact ⟨by omega, by omega⟩
      · rw [bo k v e1]
        exact ha.np k v hk (by omega)
    · by_cases e1 : v = n
      · subst e1
        rw [bn]
        have := (hrole k hk).1
        omega
      · rw [bo k v e1]
        exact ha.bb k v hk (by omega)
end Go.Proofs.Qxb6609411a
