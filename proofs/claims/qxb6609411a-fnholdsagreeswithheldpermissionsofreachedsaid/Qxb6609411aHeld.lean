/-
  Seat b6609411a: HasPrefix (59), CutPrefix (58, 57), singleRole (55), heldIn (50), ZZheldIn (31), wildcardGives (27).
-/
import Derived.Test.Qxb6609411aPolicy
namespace Go.Proofs.Qxb6609411a
open Go.ChangeShapes Go.WideShapes Go.ChangeAt Go.RowKit
set_option linter.unusedVariables false

abbrev preS : ByteArray := ⟨#[98, 97, 100, 103, 101, 100, 58, 114, 111, 108, 101, 47]⟩
abbrev evS : ByteArray := ⟨#[98, 97, 100, 103, 101, 100, 58, 114, 111, 108, 101, 47, 42]⟩
theorem preS_size : preS.size = 12 := rfl

abbrev preL : List UInt8 := [98, 97, 100, 103, 101, 100, 58, 114, 111, 108, 101, 47]
abbrev evL : List UInt8 := [98, 97, 100, 103, 101, 100, 58, 114, 111, 108, 101, 47, 42]
/-- s begins with the prefix. -/
def hp (s : ByteArray) : Bool := decide (12 ≤ s.size) && ((s.extract 0 12).toList == preL)

theorem hasPrefix_any (s : ByteArray) (w : World) :
    Calls Try.prog 59 #[.string s, .string preS] w fun e w' => e = .returned (.bool (hp s)) ∧ w' = w := by
  go_enter Try.func59, Try.ntmps59
  by_cases h : 12 ≤ s.size
  · have d : decide ((12 : Int) ≤ s.size) = true := decide_eq_true (by omega)
    have d1 : (12 : Int) ≤ s.size := by omega
    have hh : Hid (hp s = ((s.extract 0 12).toList == preL)) := by unfold Hid hp; rw [decide_eq_true h]; rfl
    go_wp2
    go_ret
    exact ⟨by rw [hh.out]; rfl, rfl⟩
  · have d : decide ((12 : Int) ≤ s.size) = false := decide_eq_false (by omega)
    have hh : Hid (hp s = false) := by unfold Hid hp; rw [decide_eq_false h]; rfl
    go_wp2
    go_ret
    exact ⟨by rw [hh.out]; rfl, rfl⟩

def CutOut (s : ByteArray) (e : Ending) : Prop := (hp s = true ∧ e = .returned (.tuple #[.string (s.extract 12 s.size), .bool true])) ∨ (hp s = false ∧ e = .returned (.tuple #[.string s, .bool false]))

theorem cutPrefix0_any (s : ByteArray) (w : World) : Calls Try.prog 58 #[.string s, .string preS] w fun e w' => CutOut s e ∧ w' = w := by
  have Z := hasPrefix_any s w
  go_enter Try.func58, Try.ntmps58
  go_wp2_with fail
  refine Z.mono ?_
  clear Z
  rintro e w' ⟨rfl, rfl⟩
  cases hs : hp s with
  | false =>
    go_wp2
    go_ret2
    exact ⟨.inr ⟨hs, rfl⟩, rfl⟩
  | true =>
    have h12 : (12 : Int) ≤ s.size := by
      unfold hp at hs
      simp only [Bool.and_eq_true, decide_eq_true_eq] at hs
      omega
    go_wp2
    go_ret2
    exact ⟨.inl ⟨hs, rfl⟩, rfl⟩

theorem cutPrefix_any (s : ByteArray) (w : World) : Calls Try.prog 57 #[.string s, .string preS] w fun e w' => CutOut s e ∧ w' = w := by
  have Z := cutPrefix0_any s w
  go_enter Try.func57, Try.ntmps57
  go_wp2_with fail
  refine Z.mono ?_
  clear Z
  rintro e w' ⟨⟨hs, rfl⟩ | ⟨hs, rfl⟩, rfl⟩
  · go_wp2
    go_ret2
    exact ⟨.inl ⟨hs, rfl⟩, rfl⟩
  · go_wp2
    go_ret2
    exact ⟨.inr ⟨hs, rfl⟩, rfl⟩

def SingleOut (s : ByteArray) (e : Ending) : Prop := (hp s = true ∧ e = .returned (.tuple #[.string (s.extract 12 s.size), .bool (s.toList != evL)])) ∨ (hp s = false ∧ e = .returned (.tuple #[.string s, .bool false]))

theorem singleRole_any (s : ByteArray) (w : World) : Calls Try.prog 55 #[.string s] w fun e w' => SingleOut s e ∧ w' = w := by
  have Z := cutPrefix_any s w
  go_enter Try.func55, Try.ntmps55
  go_wp2_with fail
  refine Z.mono ?_
  clear Z
  rintro e w' ⟨⟨hs, rfl⟩ | ⟨hs, rfl⟩, rfl⟩
  · go_wp2
    go_ret2
    exact ⟨.inl ⟨hs, rfl⟩, rfl⟩
  · go_wp2
    go_ret2
    exact ⟨.inr ⟨hs, rfl⟩, rfl⟩

/-- the object names one role: a right on every role gives it. -/
def wildB (b : ByteArray) : Bool := decide (12 < b.size) && (b.toList != evL) && ((b.extract 0 12).toList == preL)

theorem wildcard_any (s : ByteArray) (w : World) : Calls Try.prog 27 #[.string s] w fun e w' => e = .returned (.bool (wildB s)) ∧ w' = w := by
  go_enter Try.func27, Try.ntmps27
  by_cases h : s.size ≤ 12
  · have d : decide ((s.size : Int) ≤ 12) = true := decide_eq_true (by omega)
    have hh : Hid (wildB s = false) := by unfold Hid wildB; rw [decide_eq_false (by omega)]; rfl
    go_wp2
    go_ret
    exact ⟨by rw [hh.out]; rfl, rfl⟩
  · have d : decide ((s.size : Int) ≤ 12) = false := decide_eq_false (by omega)
    have d12 : (12 : Int) ≤ s.size := by omega
    cases he : (s.toList == evL) with
    | true =>
      have hh : Hid (wildB s = false) := by unfold Hid wildB; simp [bne, he]
      go_wp2
      go_ret
      exact ⟨by rw [hh.out]; rfl, rfl⟩
    | false =>
      have hh : Hid (wildB s = ((s.extract 0 12).toList == preL)) := by unfold Hid wildB; rw [decide_eq_true (by omega)]; simp [bne, he]
      go_wp2
      go_ret
      exact ⟨by rw [hh.out]; rfl, rfl⟩

def HeldOut (S : Lit → Prop) (a b : ByteArray) (e : Ending) : Prop := ∃ r : Bool, e = .returned (.bool r) ∧ (r = true ↔ S (pk a b) ∨ (wildB b = true ∧ S (pk a evS)))

theorem wild_hp {b : ByteArray} (h : wildB b = true) : hp b = true := by
  unfold wildB at h
  unfold hp
  simp only [Bool.and_eq_true, decide_eq_true_eq] at h ⊢
  exact ⟨by omega, h.2⟩

set_option maxHeartbeats 1000000 in
set_option maxRecDepth 100000 in
theorem heldIn_any (mb n : Nat) (S : Lit → Prop) (a b : ByteArray) (ha : a.size ≤ maxLen) (hb : b.size ≤ maxLen) (w : World) (hS : SetAt w 45 mb n S) :
    Calls Try.prog 50 #[.map (some mb), pv a b] w fun e w' => HeldOut S a b e ∧ Below w.heap.size w w' := by
  have hlt := hS.lt
  obtain ⟨ok, hlk, hok⟩ := (hS.keep (Below.heap_alloc w (.cells #[.string a, .string b] 45) mb hlt)).look keyed45 Try.underlying48 (keyOf_pv a b ha hb)
  go_enter Try.func50, Try.ntmps50
  cases ok with
  | true =>
    have hyes : Hid (S (pk a b)) := hok.1 rfl
    clear hok
    go_wp2
    go_ret
    exact ⟨⟨true, rfl, ⟨fun _ => .inl hyes.out, fun _ => rfl⟩⟩, ((Below.refl _ _).alloc (Nat.le_refl _) _).alloc (by simp) _⟩
  | false =>
    have hno : ¬ S (pk a b) := fun h => by have := hok.2 h; cases this
    have Z := singleRole_any b ((w.alloc (.cells #[.string a, .string b] 45)).alloc (.cells #[] 32))
    go_wp2_with fail
    refine Z.mono ?_
    clear Z
    rintro e w' ⟨⟨hs, rfl⟩ | ⟨hs, rfl⟩, rfl⟩
    · cases h1 : (b.toList != evL) with
      | false =>
        go_wp2
        go_ret
        exact ⟨⟨false, rfl, by simp [hno, wildB, h1]⟩, ((Below.refl _ _).alloc (Nat.le_refl _) _).alloc (by simp) _⟩
      | true =>
        have hemp : (b.extract 12 b.size).toList.isEmpty = decide (b.size ≤ 12) := by
          rw [ByteArray.toList_eq]
          have hsz : (b.extract 12 b.size).data.toList.length = b.size - 12 := by
            rw [Array.length_toList]
            show (b.extract 12 b.size).size = b.size - 12
            rw [ByteArray.size_extract]
            omega
          cases hl : (b.extract 12 b.size).data.toList with
          | nil =>
            rw [hl] at hsz
            simp only [List.length_nil] at hsz
            simp
            omega
          | cons x l =>
            rw [hl] at hsz
            simp only [List.length_cons] at hsz
            simp
            omega
        by_cases h12 : b.size ≤ 12
        · have h2 : (b.extract 12 b.size).toList.isEmpty = true := by rw [hemp]; exact decide_eq_true h12
          go_wp2
          go_ret
          have hwf : wildB b = false := by unfold wildB; rw [decide_eq_false (by omega)]; rfl
          exact ⟨⟨false, rfl, by simp [hno, hwf]⟩, ((Below.refl _ _).alloc (Nat.le_refl _) _).alloc (by simp) _⟩
        · have h2 : (b.extract 12 b.size).toList.isEmpty = false := by rw [hemp]; exact decide_eq_false h12
          have hw : wildB b = true := by
            unfold wildB
            unfold hp at hs
            simp only [Bool.and_eq_true, decide_eq_true_eq] at hs ⊢
            exact ⟨⟨by omega, h1⟩, hs.2⟩
          obtain ⟨ok2, hlk2, hok2⟩ := (hS.keep ((Below.heap_alloc (w.alloc (.cells #[.string a, .string b] 45)) (.cells #[] 32) mb (by simp; omega)).trans (Below.heap_alloc w (.cells #[.string a, .string b] 45) mb hlt))).look keyed45 Try.underlying48 (keyOf_pv a evS ha (by unfold maxLen; decide))
          have HO : Hid (ok2 = true ↔ S (pk a evS)) := hok2
          clear hok2 hok hlk
          go_wp2
          go_ret
          refine ⟨⟨ok2, rfl, ?_⟩, (((Below.refl _ _).alloc (Nat.le_refl _) _).alloc (by simp) _).alloc (by simp; omega) _⟩
          rw [HO.out]
          simp [hno, hw]
    · go_wp2
      go_ret
      refine ⟨⟨false, rfl, ?_⟩, ((Below.refl _ _).alloc (Nat.le_refl _) _).alloc (by simp) _⟩
      have : wildB b = false := by
        cases h : wildB b with
        | false => rfl
        | true => rw [wild_hp h] at hs; cases hs
      simp [hno, this]

theorem zzHeldIn_any (mb n : Nat) (S : Lit → Prop) (a b : ByteArray) (ha : a.size ≤ maxLen) (hb : b.size ≤ maxLen) (w : World) (hS : SetAt w 45 mb n S) :
    Calls Try.prog 31 #[.map (some mb), pv a b] w fun e w' => HeldOut S a b e ∧ Below w.heap.size w w' := by
  have hlt := hS.lt
  have Z := heldIn_any mb n S a b ha hb (w.alloc (.cells #[.string a, .string b] 45)) (hS.keep (Below.heap_alloc w _ mb hlt))
  go_enter Try.func31, Try.ntmps31
  go_wp2_with fail
  refine Z.mono ?_
  clear Z
  rintro e w' ⟨⟨r, rfl, hr⟩, hb1⟩
  have HR : Hid (r = true ↔ S (pk a b) ∨ (wildB b = true ∧ S (pk a evS))) := hr
  clear hr
  go_wp2
  go_ret
  exact ⟨⟨r, rfl, HR.out⟩, ((Below.refl _ w).alloc (Nat.le_refl _) _).trans (hb1.mono (by simp))⟩
end Go.Proofs.Qxb6609411a
