/-
  Seat b6609411a: words for the memory; itoa (45), roleName (16).
-/
import Derived.Test.Qxb6609411aRows
import Derived.WalkKit
import Derived.ProofKit
import Derived.OpenShut
import Derived.ShutString
import Derived.ChangeOld
import Derived.Below
import Derived.Deep.QuietTactic
import Derived.BigQuiet
import Derived.WalkLawsBesides
import Derived.Laws.IdiomStrings
import Derived.Deep.MidRow
namespace Go.Proofs.Qxb6609411a
open Go.ChangeShapes Go.WideShapes Go.ChangeAt Go.RowKit
set_option linter.unusedVariables false

/-- A slice of one-cell elements that can be read: empty, or X 0 .. X (n-1) lying from (b, off) on. -/
def IsA {β : Type} (enc : β → Value) (w : World) (a : Option Addr) (n : Nat) (X : Nat → β) : Prop :=
  n = 0 ∨ ∃ b off, a = some ⟨b, off, none⟩ ∧ b < w.heap.size ∧ ∀ i, i < n → w.cell? ⟨b, off + i, none⟩ = some (enc (X i))

theorem IsA.below {β : Type} {enc : β → Value} {B : Nat} {w w' : World} {a : Option Addr} {n : Nat} {X : Nat → β} (h : IsA enc w a n X) (hb : Below B w w') (hB : w.heap.size ≤ B) : IsA enc w' a n X := by
  rcases h with h | ⟨b, off, rfl, hlt, hc⟩
  · exact .inl h
  · exact .inr ⟨b, off, rfl, Nat.lt_of_lt_of_le hlt hb.size, fun i hi => (hb.cell (p := ⟨b, off + i, none⟩) (Nat.lt_of_lt_of_le hlt hB)).trans (hc i hi)⟩

theorem below_drewN {B : Nat} {a w : World} (h : Below B a w) (m : Nat) : Below B a (w.drewN m) := ⟨h.os, h.tape, h.output, h.size, h.block⟩

abbrev encI : Int → Value := Value.int .i64
abbrev encB : Bool → Value := Value.bool
abbrev encS : ByteArray → Value := Value.string

/-- the decimal digits of v, ahead of acc. -/
def digs : Nat → Nat → List UInt8 → List UInt8
  | 0, _, acc => acc
  | f + 1, v, acc => if v = 0 then acc else digs f (v / 10) (UInt8.ofNat (48 + v % 10) :: acc)

def itoaL (v : Nat) : List UInt8 := if v = 0 then [48] else digs 24 v []
def nmL (v : Nat) : List UInt8 := 114 :: itoaL v
def nm (v : Nat) : ByteArray := ⟨(nmL v).toArray⟩

theorem digs_zero (f : Nat) (acc : List UInt8) : digs f 0 acc = acc := by
  cases f with
  | zero => rfl
  | succ f => exact if_pos rfl
theorem digs_pos (f : Nat) {v : Nat} (acc : List UInt8) (h : v ≠ 0) : digs (f + 1) v acc = digs f (v / 10) (UInt8.ofNat (48 + v % 10) :: acc) := if_neg h

/-- The 24 bytes of itoa lie in block b; from place 24 - l.length on they are l. -/
def Buf (w : World) (b : Nat) (l : List UInt8) : Prop :=
  ∃ cur : Array Value, w.heap[b]? = some (.cells cur 84 (0, 0)) ∧ cur.size = 24 ∧ ∀ j, j < l.length → cur[24 - l.length + j]? = some (.int .u8 ((l[j]?.getD 0).toNat : Int))

theorem Buf.room {w : World} {b : Nat} {l : List UInt8} (h : Buf w b l) (i : Nat) (hi : i < 24) : ∃ v, w.cell? ⟨b, i, none⟩ = some v ∧ w.frozen? ⟨b, i, none⟩ = false := by
  obtain ⟨cur, h1, h2, h3⟩ := h
  exact ⟨cur[i]'(by omega), by rw [cell_of_row _ _ i cur 84 (0, 0) h1]; simp [h2, hi], frozen_of_row w _ i cur 84 h1⟩
theorem Buf.put {w : World} {b : Nat} {l : List UInt8} (h : Buf w b l) (hl : l.length < 24) (x : UInt8) : Buf (w.setCell ⟨b, 24 - (l.length + 1), none⟩ (.int .u8 (x.toNat : Int))) b (x :: l) := by
  obtain ⟨cur, h1, h2, h3⟩ := h
  have heq := setCell_eq_setRow w b (24 - (l.length + 1)) cur 84 (0, 0) (.int .u8 (x.toNat : Int)) h1
  refine ⟨cur.setIfInBounds (24 - (l.length + 1)) (.int .u8 (x.toNat : Int)), ?_, by simpa using h2, fun j hj => ?_⟩
  · rw [heq]
    exact setRow_heap w b cur _ 84 (0, 0) h1
  · cases j with
    | zero =>
      rw [show 24 - (x :: l).length + 0 = 24 - (l.length + 1) from rfl, Array.getElem?_setIfInBounds_self_of_lt (by omega)]
      rfl
    | succ j =>
      have hj' : j < l.length := by simpa using hj
      rw [List.length_cons, Array.getElem?_setIfInBounds_ne (by omega), show 24 - (l.length + 1) + (j + 1) = 24 - l.length + j by omega, h3 j hj']
      simp
theorem Buf.cell {w : World} {b : Nat} {l : List UInt8} (h : Buf w b l) (j : Nat) (hj : j < l.length) : w.cell? ⟨b, 24 - l.length + j, none⟩ = some (.int .u8 (l[j].toNat : Int)) := by
  obtain ⟨cur, h1, h2, h3⟩ := h
  rw [cell_of_row _ _ _ cur 84 (0, 0) h1, h3 j hj]
  simp [hj]

set_option maxHeartbeats 1000000 in
set_option maxRecDepth 100000 in
theorem itoa_any (v : Nat) (hv : v < 10000) (w : World) :
    Calls Try.prog 45 #[.int .i64 v] w fun e w' => e = .returned (.string ⟨(itoaL v).toArray⟩) ∧ Below w.heap.size w w' := by
  go_enter Try.func45, Try.ntmps45
  by_cases h0 : v = 0
  · subst h0
    go_wp2
    go_ret
    exact ⟨rfl, Below.refl _ _⟩
  · have d0 : decide ((v : Int) ≤ 0) = false := decide_eq_false (by omega)
    go_wp2
    obtain ⟨w0, hw0⟩ : ∃ w0, w0 = w.alloc (.cells #[.int .u8 0, .int .u8 0, .int .u8 0, .int .u8 0, .int .u8 0, .int .u8 0, .int .u8 0, .int .u8 0, .int .u8 0, .int .u8 0, .int .u8 0, .int .u8 0, .int .u8 0, .int .u8 0, .int .u8 0, .int .u8 0, .int .u8 0, .int .u8 0, .int .u8 0, .int .u8 0, .int .u8 0, .int .u8 0, .int .u8 0, .int .u8 0] 84) := ⟨_, rfl⟩
    have hb0 : Below w.heap.size w w0 := by rw [hw0]; exact (Below.refl _ _).alloc (Nat.le_refl _) _
    have hB0 : Buf w0 w.heap.size [] := ⟨_, by rw [hw0]; exact heap_alloc_new w _, rfl, fun j hj => absurd hj (Nat.not_lt_zero _)⟩
    rw [← hw0]
    clear hw0
    have HL : Hid (itoaL v = digs 24 v []) := if_neg h0
    go_loopw [0, 4] (fun x i wr => ∃ (x' i' : Nat) (l : List UInt8), x = .int .i64 x' ∧ i = .int .i64 i' ∧ i' + l.length = 24 ∧ ((i' = 24 ∧ x' = v) ∨ (i' = 23 ∧ x' < 1000) ∨ (i' = 22 ∧ x' < 100) ∨ (i' = 21 ∧ x' < 10) ∨ (i' = 20 ∧ x' = 0)) ∧ Hid (itoaL v = digs i' x' l) ∧ Below w.heap.size w wr ∧ Buf wr w.heap.size l) (fun x _ _ => (intOf x).toNat)
    case atStart => exact ⟨v, 24, [], rfl, rfl, rfl, .inl ⟨rfl, rfl⟩, HL, hb0, hB0⟩
    case round =>
      clear hb0 hB0 HL
      obtain ⟨x, i', l, rfl, rfl, hl, hx, HL, hb, hB⟩ := hrel
      by_cases hx0 : x = 0
      · subst hx0
        have HE : Hid (itoaL v = l) := by unfold Hid; rw [HL.out, digs_zero]
        have hlen : l.length = 24 - i' := by omega
        have hcv : (convert 85 9 (.slice (some ⟨w.heap.size, i', none⟩) (24 - i') (24 - i'))).run Try.prog wr = .ok (.string ⟨l.toArray⟩) wr := by
          rw [← hlen]
          refine run_convert_bytes_back wr 85 9 5 ⟨w.heap.size, i', none⟩ l.length l Try.underlying85 Try.underlying5 Try.underlying9 (fun j hj => ?_)
          rw [Addr.add_mid, show i' = 24 - l.length by omega]
          exact hB.cell j hj
        have hi1 : (i' : Int) ≤ 24 := by omega
        have hi2 : ¬ 24 = i' := by omega
        clear hB hlen HL
        go_wp2
        go_ret
        exact ⟨by rw [HE.out]; rfl, hb⟩
      · obtain ⟨i, rfl⟩ : ∃ i, i' = i + 1 := ⟨i' - 1, by omega⟩
        have hst : Hid (itoaL v = digs i (x / 10) (UInt8.ofNat (48 + x % 10) :: l)) := by unfold Hid; rw [HL.out, digs_pos _ _ hx0]
        have dx : decide ((0 : Int) < x) = true := decide_eq_true (by omega)
        obtain ⟨u, hu1, hu2⟩ := hB.room i (by omega)
        have HB : Hid (Buf wr w.heap.size l) := hB
        have HBB : Hid (Below w.heap.size w wr) := hb
        clear hB hb HL
        go_wp2
        go_roundw
        case rel => exact ⟨x / 10, i, UInt8.ofNat (48 + x % 10) :: l, by go_num, rfl, by simp; omega, by omega, hst, HBB.out.setCell (Nat.le_refl _) _, by
          have := HB.out.put (by omega) (UInt8.ofNat (48 + x % 10))
          rw [show 24 - (l.length + 1) = i by omega, show (((UInt8.ofNat (48 + x % 10)).toNat : Nat) : Int) = 48 + (x : Int) % 10 by rw [UInt8.toNat_ofNat']; omega] at this
          exact this⟩
        case measure => simp [intOf]; omega

theorem digs_len : ∀ (f v : Nat) (acc : List UInt8), (digs f v acc).length ≤ f + acc.length
  | 0, _, acc => by simp [digs]
  | f + 1, v, acc => by
    unfold digs
    split
    · omega
    · have := digs_len f (v / 10) (UInt8.ofNat (48 + v % 10) :: acc)
      simp only [List.length_cons] at this
      omega
theorem itoaL_len (v : Nat) : (itoaL v).length ≤ 24 := by
  unfold itoaL
  split
  · simp
  · exact digs_len 24 v []
theorem nm_eq (v : Nat) : (⟨#[114]⟩ : ByteArray) ++ ⟨(itoaL v).toArray⟩ = nm v := by
  apply ByteArray.ext
  simp [nm, nmL]
theorem nm_size (v : Nat) : (nm v).size ≤ 25 := by
  have := itoaL_len v
  simp only [nm, nmL, ByteArray.size, List.size_toArray, List.length_cons]
  omega

theorem roleName_any (v : Nat) (hv : v < 10000) (w : World) :
    Calls Try.prog 16 #[.int .i64 v] w fun e w' => e = .returned (.string (nm v)) ∧ Below w.heap.size w w' := by
  have hi := itoa_any v hv w
  go_enter Try.func16, Try.ntmps16
  go_wp2_with fail
  refine hi.mono ?_
  rintro e w' ⟨rfl, hb⟩
  have hl := itoaL_len v
  have hl' : ¬ 9223372036854775807 < 1 + (itoaL v).length := by omega
  have hr : ∀ w : World, (Op.stringOp .add ⟨#[114]⟩ ⟨(itoaL v).toArray⟩).run Try.prog w = .ok (.string (nm v)) w := fun w => by
    rw [← nm_eq]
    exact run_string_add_sum _ _ _ (by show 1 + (itoaL v).toArray.size ≤ _; rw [List.size_toArray]; omega)
  go_wp2
  go_ret
  exact ⟨rfl, hb⟩

/-! names tell roles apart -/
def val (l : List UInt8) : Nat := l.foldl (fun a b => 10 * a + (b.toNat - 48)) 0
theorem val_digs : ∀ (f v : Nat) (acc : List UInt8), v < 10 ^ f → (digs f v acc).foldl (fun a b => 10 * a + (b.toNat - 48)) 0 = acc.foldl (fun a b => 10 * a + (b.toNat - 48)) v
  | 0, v, acc, h => by
    obtain rfl : v = 0 := by omega
    rfl
  | f + 1, v, acc, h => by
    unfold digs
    split
    · subst_vars
      rfl
    · rw [val_digs f (v / 10) _ (by rw [Nat.pow_succ] at h; omega), List.foldl_cons, UInt8.toNat_ofNat']
      congr 1
      omega
theorem val_itoa (v : Nat) (h : v < 10000) : val (itoaL v) = v := by
  unfold itoaL
  split
  · subst_vars
    decide
  · rw [val, val_digs 24 v [] (by omega)]
    rfl
theorem nm_inj {v u : Nat} (hv : v < 10000) (hu : u < 10000) (h : nm v = nm u) : v = u := by
  have h1 : nmL v = nmL u := by
    have := congrArg (fun b : ByteArray => b.data.toList) h
    simpa [nm] using this
  have h2 : itoaL v = itoaL u := by simpa [nmL] using h1
  rw [← val_itoa v hv, h2, val_itoa u hu]
end Go.Proofs.Qxb6609411a
