/-
  Seat b6609411a: a loop over an iterator that keeps a state of its own (in blocks that it lays itself).
-/
import Derived.Test.Qxb6609411aAdd
namespace Go.Proofs.Qxb6609411a
open Go.ChangeShapes Go.WideShapes Go.ChangeAt Go.RowKit Go.Shelf
set_option linter.unusedVariables false

/-- J does not mind what lies at or beyond B, but for the loops' own records. -/
def AbX {β : Type} (B : Nat) (J : β → World → Prop) : Prop := ∀ s W W', J s W → St B W W' → J s W'

/-- The contract of an iterator that may write what it has laid itself. B: the heap's size where the loop begins. -/
def SeqStopsX {α : Type} (n : Nat) (g : Nat) (lb : Array Value) (encs : α → Array Value) (Kp : World → World → Prop) (S Sp : List α → Prop) (w : World) : Prop :=
  ∀ (l : Nat) (J Jx : List α → World → Prop) (W : World), Below w.heap.size w W → w.heap.size + 2 ≤ W.heap.size → AbX W.heap.size J → AbX W.heap.size Jx →
    (∀ pre x W1, J pre W1 → YieldAt Fence.wide (n - 1) Try.prog l (encs x) W1 fun e W' =>
      (e = .returned (.bool true) ∧ J (pre ++ [x]) W' ∧ Kp W1 W') ∨ (e = .returned (.bool false) ∧ Jx (pre ++ [x]) W')) →
    J [] W →
    CallsIn Fence.wide n Try.prog g (#[.func (.yield l) #[] #[]] ++ lb) W fun e W' => (∃ v, e = .returned v) ∧ ((∃ xs, S xs ∧ J xs W') ∨ (∃ pre, Sp pre ∧ Jx pre W'))

/-- the caller's word speaks of blocks below B alone. -/
def OnlyBelow {β : Type} (B : Nat) (I : β → World → Prop) : Prop := ∀ s W W', I s W → Below B W W' → I s W'

theorem below_put {B : Nat} (W : World) (l : Nat) (o' : Obj) (hl : B ≤ l) (h : l < W.heap.size) : Below B W (W.putObj l o') :=
  (Below.refl B W).grown (grownBy_putObj' W l o') (by omega) (fun k e => by cases e; exact hl)

/-- what a round that goes on keeps: all but block hb and the loop's two records. -/
structure Kp (B hb : Nat) (W W' : World) : Prop where
  size : W.heap.size ≤ W'.heap.size
  same : ∀ k, k < W.heap.size → k ≠ hb → k ≠ B → k ≠ B + 1 → W'.heap[k]? = W.heap[k]?
theorem Kp.trans {B hb : Nat} {X Y Z : World} (h : Kp B hb X Y) (k : Kp B hb Y Z) : Kp B hb X Z :=
  ⟨Nat.le_trans h.size k.size, fun i hi h1 h2 h3 => (k.same i (by have := h.size; omega) h1 h2 h3).trans (h.same i hi h1 h2 h3)⟩
theorem Kp.put {B hb : Nat} (W : World) (o' : Obj) : Kp B hb W (W.putObj (B + 1) o') := ⟨by simp, fun k _ _ _ h3 => World.putObj_heap_other h3⟩

theorem range_law {α : Type} {g : Operand} {ps : Array Tmp} {assign body : Code} {Q : Exit → Act → World → Prop} {a : Act} {w : World} {n : Nat}
    (h1 : 1 ≤ n) {gf : Nat} {lb : Array Value} (hg : a.eval g = .func (.func gf) #[] lb) (eg : ∀ args w, (callFunc gf args).run Try.prog w = .ok (.enter gf args) w)
    {encs : α → Array Value} {S Sp : List α → Prop} {hb : Nat} (hseq : SeqStopsX (n - 1) gf lb encs (Kp w.heap.size hb) S Sp w) (hps : ∀ x, (encs x).size = ps.size)
    (I : List α → World → Prop) (Ix : Code → List α → World → Prop) (hI : OnlyBelow w.heap.size I) (hIx : ∀ c, OnlyBelow w.heap.size (Ix c)) (h0 : I [] w) (a₁ : α → Act)
    (hassign : ∀ (l : Nat) (x : α) (W : World) (K : Act → World → Prop), K (a₁ x) W →
      assign.wpIn (Fence.wide.inRound l) (n - 1 - 1) Try.prog (Exit.then K (fun _ _ _ => False)) { tmps := (ps.zip (encs x)).foldl (fun t (p, v) => t.setIfInBounds p v) a.tmps, defers := [] } W)
    (hbody : ∀ (l : Nat) (pre : List α) (x : α) (W : World), w.heap.size + 2 ≤ W.heap.size → I pre W → body.wpIn (Fence.wide.inRound l) (n - 1 - 1) Try.prog (ownPostG w.heap.size (Kp w.heap.size hb) I Ix (pre ++ [x]) W) (a₁ x) W)
    (hdone : ∀ (D : Nat) (xs : List α) (W : World), w.heap.size ≤ D → S xs → I xs W → W.heap[D]? = some (.deferred (some [])) → Q .normal { a with defers := { target := .collected D, args := #[] } :: a.defers } W)
    (hstop : ∀ (D : Nat) (c : Code) (pre : List α) (W : World), w.heap.size ≤ D → Sp pre → Ix c pre W → W.heap[D]? = some (.deferred (some [])) → c.wpIn Fence.wide n Try.prog Q { a with defers := { target := .collected D, args := #[] } :: a.defers } W) :
    (Code.rangeFunc g ps assign body).wpIn Fence.wide n Try.prog Q a w := by
  refine wpIn_rangeFunc ?_
  intro fn _
  -- the loop's record, by its state and its pending jump
  obtain ⟨rec, hrec⟩ : ∃ rec : LoopState → Option Code → Loop, rec = fun st pe => { state := st, pending := pe, fn, tmps := a.tmps, params := ps, assign, body, defers := w.heap.size } := ⟨_, rfl⟩
  obtain ⟨W1, hW1⟩ : ∃ W1, (w.alloc (.deferred (some []))).alloc (.loop (rec .ready none)) = W1 := ⟨_, rfl⟩
  have hs1 : W1.heap.size = w.heap.size + 2 := by rw [← hW1]; simp
  have hbl : Below w.heap.size w W1 := by rw [← hW1]; exact ((Below.refl _ w).alloc (Nat.le_refl _) _).alloc (by simp) _
  have hr1 : W1.heap[w.heap.size + 1]? = some (.loop (rec .ready none)) := by
    rw [← hW1]
    have := World.alloc_heap_new (w.alloc (.deferred (some []))) (.loop (rec .ready none))
    rwa [World.size_alloc] at this
  have hd1 : W1.heap[w.heap.size]? = some (.deferred (some [])) := by
    rw [← hW1]
    exact (Below.heap_alloc _ _ _ (by simp)).trans (World.alloc_heap_new w _)
  refine ⟨w.heap.size + 1, [{ target := .collected w.heap.size, args := #[] }], W1, { target := .fn (.func gf) lb, args := #[.func (.yield (w.heap.size + 1)) #[] #[]] }, W1, gf,
    #[.func (.yield (w.heap.size + 1)) #[] #[]] ++ lb, W1, ?_, ?_, fun _ _ => trivial, ?_, fun _ => h1, ?_⟩
  · rw [← hW1, hrec]
    exact run_enterLoop_outer _ _ _ _ _
  · simp only [resolve, hg]
    simp [go_sem]
  · simp [invoke, go_sem, eg]
  -- the two records beside the caller's own word
  let J : List α → World → Prop := fun pre W => I pre W ∧ W.heap[w.heap.size + 1]? = some (.loop (rec .ready none)) ∧ W.heap[w.heap.size]? = some (.deferred (some []))
  let Jx : List α → World → Prop := fun pre W => ∃ c, Ix c pre W ∧ W.heap[w.heap.size + 1]? = some (.loop (rec .done (some c))) ∧ W.heap[w.heap.size]? = some (.deferred (some []))
  have toB : ∀ {A B : World}, St W1.heap.size A B → Below w.heap.size A B := fun h => ⟨h.os, h.tape, h.output, h.size, fun k hk => h.block k (by omega)⟩
  have hJ : AbX W1.heap.size J := fun s A B ⟨k1, k2, k3⟩ hst => ⟨hI s A B k1 (toB hst), hst.book _ _ k2 rfl rfl, hst.book _ _ k3 rfl rfl⟩
  have hJx : AbX W1.heap.size Jx := fun s A B ⟨c, k1, k2, k3⟩ hst => ⟨c, hIx c s A B k1 (toB hst), hst.book _ _ k2 rfl rfl, hst.book _ _ k3 rfl rfl⟩
  refine (hseq (w.heap.size + 1) J Jx W1 hbl (by omega) hJ hJx ?_ ⟨hI _ _ _ h0 hbl, hr1, hd1⟩).mono ?_
  · rintro pre x W ⟨hi, hl, hk⟩
    have hlt : w.heap.size + 1 < W.heap.size := (Array.getElem?_eq_some_iff.1 hl).1
    have hy := run_yield (P := Try.prog) (args := encs x) hl (by rw [hrec]; exact hps x)
    rw [hrec] at hy
    refine ⟨fn, _, assign, body, hy, roundIn_of_wpIn trivial (hassign _ x W _ ⟨_, run_beginRound hl (by rw [hrec]), ?_⟩)⟩
    obtain ⟨W2, hW2⟩ : ∃ W2, W.putObj (w.heap.size + 1) (.loop { rec .ready none with state := .busy }) = W2 := ⟨_, rfl⟩
    have hs2 : W2.heap.size = W.heap.size := by rw [← hW2]; simp
    have hl2 : W2.heap[w.heap.size + 1]? = some (.loop { rec .ready none with state := .busy }) := by rw [← hW2]; exact World.putObj_heap_same hlt
    have hk2 : W2.heap[w.heap.size]? = some (.deferred (some [])) := by rw [← hW2]; exact (World.putObj_heap_other (by omega)).trans hk
    have hi2 : I pre W2 := hI _ _ _ hi (by rw [← hW2]; exact below_put W _ _ (by omega) hlt)
    have hkp2 : Kp w.heap.size hb W W2 := by rw [← hW2]; exact Kp.put W _
    rw [hW2]
    refine wpIn_mono (hbody _ pre x W2 (by omega) hi2) ?_
    -- the round's end, by the jump that it leaves pending
    have fin : ∀ (jump : Option Code) (W3 : World), KeepsFrom w.heap.size W2 W3 →
        (Instr.endRound (w.heap.size + 1) jump).run Try.prog W3 = .ok (.bool jump.isNone) (W3.putObj (w.heap.size + 1) (.loop (rec (if jump.isNone then .ready else .done) jump))) ∧ w.heap.size + 1 < W3.heap.size ∧
        (W3.putObj (w.heap.size + 1) (.loop (rec (if jump.isNone then .ready else .done) jump))).heap[w.heap.size + 1]? = some (.loop (rec (if jump.isNone then .ready else .done) jump)) ∧
        (W3.putObj (w.heap.size + 1) (.loop (rec (if jump.isNone then .ready else .done) jump))).heap[w.heap.size]? = some (.deferred (some [])) := fun jump W3 hk3 => by
      have hl3 := hk3.same _ _ (by omega) hl2 rfl
      have hd3 := hk3.same _ _ (Nat.le_refl _) hk2 rfl
      have hrun := run_endRound (P := Try.prog) jump hl3
      have hlt3 := (Array.getElem?_eq_some_iff.1 hl3).1
      rw [hrec] at hrun ⊢
      exact ⟨hrun, hlt3, World.putObj_heap_same hlt3, (World.putObj_heap_other (by omega)).trans hd3⟩
    rintro e a3 W3 hp
    cases e with
    | normal =>
      obtain ⟨p1, p2, p3⟩ := hp
      obtain ⟨f1, f2, f3, f4⟩ := fin none W3 p1
      exact ⟨_, _, f1, .inl ⟨rfl, ⟨hI _ _ _ p3 (below_put W3 _ _ (by omega) f2), f3, f4⟩, (hkp2.trans p2).trans (Kp.put W3 _)⟩⟩
    | ret =>
      obtain ⟨p1, p3⟩ := hp
      obtain ⟨f1, f2, f3, f4⟩ := fin (some .ret) W3 p1
      exact ⟨_, _, f1, .inr ⟨rfl, .ret, hIx _ _ _ _ p3 (below_put W3 _ _ (by omega) f2), f3, f4⟩⟩
    | exit id =>
      obtain ⟨p1, p3⟩ := hp
      obtain ⟨f1, f2, f3, f4⟩ := fin (some (.exit id)) W3 p1
      exact ⟨_, _, f1, .inr ⟨rfl, .exit id, hIx _ _ _ _ p3 (below_put W3 _ _ (by omega) f2), f3, f4⟩⟩
    | goto t =>
      obtain ⟨p1, p3⟩ := hp
      obtain ⟨f1, f2, f3, f4⟩ := fin (some (.goto t)) W3 p1
      exact ⟨_, _, f1, .inr ⟨rfl, .goto t, hIx _ _ _ _ p3 (below_put W3 _ _ (by omega) f2), f3, f4⟩⟩
    | panic ch => exact hp.elim
    | outgrown => exact hp.elim
  · rintro e W2 ⟨⟨v, rfl⟩, (⟨xs, hS, hi, hl, hk⟩ | ⟨pre, hSp, c, hi, hl, hk⟩)⟩
    · have hrun := run_endLoop (P := Try.prog) hl (by rw [hrec]; simp)
      have hlt := (Array.getElem?_eq_some_iff.1 hl).1
      rw [hrec] at hrun
      exact ⟨none, _, hrun, hdone _ xs _ (Nat.le_refl _) hS (hI _ _ _ hi (below_put W2 _ _ (by omega) hlt)) ((World.putObj_heap_other (by omega)).trans hk)⟩
    · have hrun := run_endLoop (P := Try.prog) hl (by rw [hrec]; simp)
      have hlt := (Array.getElem?_eq_some_iff.1 hl).1
      rw [hrec] at hrun
      exact ⟨some c, _, hrun, hstop _ c pre _ (Nat.le_refl _) hSp (hIx c _ _ _ hi (below_put W2 _ _ (by omega) hlt)) ((World.putObj_heap_other (by omega)).trans hk)⟩
end Go.Proofs.Qxb6609411a
