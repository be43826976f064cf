/-
  Seat b6604322a: the arguments opened: arrays of integers and of slices of uint64.
-/
import Derived.Test.Qxb6604322aLaw
namespace Go.Proofs.Qxb6604322a
open Go.ChangeShapes Go.WideShapes Go.ChangeAt Go.RowKit
set_option linter.unusedVariables false

/-- the number in a cell. -/
def num : Option Value → Int
  | some (.int _ n) => n
  | _ => 0
def sadr : Option Value → Option Addr
  | some (.slice a _ _) => a
  | _ => none
def slen : Option Value → Nat
  | some (.slice _ n _) => n
  | _ => 0
def scap : Option Value → Nat
  | some (.slice _ _ c) => c
  | _ => 0
/-- the j-th number of a slice that lies at a. -/
def numAt (w : World) (a : Option Addr) (j : Nat) : Int :=
  match a with
  | some x => num (w.cell? (x.add j))
  | none => 0

theorem take_one {l : List Value} {i : Nat} {v : Value} (h : (l.drop i).take 1 = [v]) : l[i]? = some v := by
  have h1 : ((l.drop i).take 1)[0]? = some v := by rw [h]; rfl
  rw [List.getElem?_take, if_pos (by omega), List.getElem?_drop] at h1
  exact h1
theorem take_mid {l : List Value} {o c j : Nat} (hj : j < c) : ((l.drop o).take c)[j]? = l[o + j]? := by
  rw [List.getElem?_take, if_pos hj, List.getElem?_drop]

section
variable {H : Type} {enc : TypeId × Value → H} {P : Program} {w : World} {base : Nat} {held : Bool} {fuel : Nat} {t e : TypeId} {l : List Value} {x : DataW H × List MemPlace}

theorem arr_int {n : Nat} {k : IntKind} (ht : P.underlying t = some (.array n e)) (he : P.underlying e = some (.int k)) (hc : P.cellsOf e = 1) (h : DataW.trod enc P w base (fun _ => true) held fuel t l = some x) :
    ∀ i, i < n → ∃ z, l[i]? = some (.int k z) ∧ (Lit.int k z).wf = true := by
  intro i hi
  obtain ⟨xs, m, _, _, _, hl, hx⟩ := DataW.trod_array ht h
  have h1 := hx i hi
  rw [List.getElem?_eq_getElem (by omega), hc, Nat.mul_one] at h1
  obtain ⟨z, hz, _, hw⟩ := DataW.trod_int he h1
  exact ⟨z, take_one hz, hw⟩

/-- what is known of one slice. -/
def SlOk (w : World) (v : Option Value) : Prop :=
  ∃ a n c, v = some (.slice a n c) ∧ IsU w a n (numAt w a) ∧ n ≤ maxLen ∧ ∀ j, j < n → 0 ≤ numAt w a j ∧ numAt w a j ≤ 18446744073709551615

theorem sl_open {u : TypeId} (he : P.underlying e = some (.slice u)) (hu : P.underlying u = some (.int .u64)) (hc : P.cellsOf u = 1) (h : DataW.trod enc P w base (fun _ => true) held fuel e l = some x) : ∃ v, l = [v] ∧ SlOk w (some v) := by
  rcases open_ints he hu hc h with ⟨hcs, _⟩ | ⟨a, n, c, zs, hcs, _, hl, hm, hz, _, hcell, hwz⟩
  · exact ⟨_, hcs, none, 0, 0, rfl, .inl rfl, Nat.zero_le _, fun j hj => absurd hj (Nat.not_lt_zero _)⟩
  · have hz' : zs.length = c := by simpa using hz
    have hna : ∀ j, j < n → numAt w (some a) j = zs.getD j 0 := fun j hj => by
      show num (w.cell? (a.add j)) = _
      rw [hcell j (by omega)]
      rfl
    refine ⟨_, hcs, some a, n, c, rfl, ?_, Nat.le_trans hl hm, fun j hj => ?_⟩
    · by_cases h0 : n = 0
      · exact .inl h0
      · obtain ⟨b, off, spot⟩ := a
        have hc0 := hcell 0 (by omega)
        have hspot : spot = none := by simpa [Addr.add] using World.cell?_spot hc0
        subst hspot
        refine .inr ⟨b, off, rfl, ?_, fun i hi => ?_⟩
        · have := World.block_lt_of_cell? w _ hc0
          rwa [Addr.add_mid] at this
        · rw [hna i hi, ← Addr.add_mid]
          exact hcell i (by omega)
    · rw [hna j hj]
      have hmem : zs.getD j 0 ∈ zs := by
        rw [List.getD_eq_getElem?_getD, List.getElem?_eq_getElem (by omega)]
        exact List.getElem_mem _
      have := hwz _ hmem
      simpa [Lit.wf, IntKind.min, IntKind.max, IntKind.signed, IntKind.bits] using this

theorem arr_sl {n : Nat} {u : TypeId} (ht : P.underlying t = some (.array n e)) (he : P.underlying e = some (.slice u)) (hu : P.underlying u = some (.int .u64)) (hce : P.cellsOf e = 1) (hc : P.cellsOf u = 1) (h : DataW.trod enc P w base (fun _ => true) held fuel t l = some x) :
    ∀ i, i < n → SlOk w l[i]? := by
  intro i hi
  obtain ⟨xs, m, _, _, _, hl, hx⟩ := DataW.trod_array ht h
  have h1 := hx i hi
  rw [List.getElem?_eq_getElem (by omega), hce, Nat.mul_one] at h1
  obtain ⟨v, hv, hok⟩ := sl_open he hu hc h1
  rw [take_one hv]
  exact hok

theorem arr2_int {k : IntKind} {g : TypeId} (ht : P.underlying t = some (.array 16 g)) (hg : P.underlying g = some (.array 16 e)) (he : P.underlying e = some (.int k)) (hcg : P.cellsOf g = 16) (hc : P.cellsOf e = 1) (h : DataW.trod enc P w base (fun _ => true) held fuel t l = some x) :
    ∀ i j, i < 16 → j < 16 → ∃ z, l[i * 16 + j]? = some (.int k z) ∧ (Lit.int k z).wf = true := by
  intro i j hi hj
  obtain ⟨xs, m, _, _, _, hl, hx⟩ := DataW.trod_array ht h
  have h1 := hx i hi
  rw [List.getElem?_eq_getElem (by omega), hcg] at h1
  obtain ⟨z, hz, hw⟩ := arr_int hg he hc h1 j hj
  rw [take_mid hj] at hz
  exact ⟨z, hz, hw⟩

theorem arr2_sl {g u : TypeId} (ht : P.underlying t = some (.array 16 g)) (hg : P.underlying g = some (.array 16 e)) (he : P.underlying e = some (.slice u)) (hu : P.underlying u = some (.int .u64)) (hcg : P.cellsOf g = 16) (hce : P.cellsOf e = 1) (hc : P.cellsOf u = 1)
    (h : DataW.trod enc P w base (fun _ => true) held fuel t l = some x) : ∀ i j, i < 16 → j < 16 → SlOk w l[i * 16 + j]? := by
  intro i j hi hj
  obtain ⟨xs, m, _, _, _, hl, hx⟩ := DataW.trod_array ht h
  have h1 := hx i hi
  rw [List.getElem?_eq_getElem (by omega), hcg] at h1
  have := arr_sl hg he hu hce hc h1 j hj
  rwa [take_mid hj] at this
end

theorem ar_of {cs : Array Value} {n : Nat} {k : IntKind} (hs : cs.size = n) (h : ∀ i, i < n → ∃ z, cs.toList[i]? = some (.int k z) ∧ (Lit.int k z).wf = true) : Ar cs n (fun i => .int k (num cs[i]?)) := by
  refine ⟨hs, fun i hi => ?_⟩
  obtain ⟨z, hz, _⟩ := h i hi
  rw [Array.getElem?_toList] at hz
  show cs[i]? = some (.int k (num cs[i]?))
  rw [hz]
  rfl
theorem ar2_of {cs : Array Value} {k : IntKind} (hs : cs.size = 256) (h : ∀ i j, i < 16 → j < 16 → ∃ z, cs.toList[i * 16 + j]? = some (.int k z) ∧ (Lit.int k z).wf = true) : Ar2 cs (fun i j => .int k (num cs[i * 16 + j]?)) := by
  refine ⟨hs, fun i j hi hj => ?_⟩
  obtain ⟨z, hz, _⟩ := h i j hi hj
  rw [Array.getElem?_toList] at hz
  show cs[i * 16 + j]? = some (.int k (num cs[i * 16 + j]?))
  rw [hz]
  rfl
theorem SlOk.eq {w : World} {v : Option Value} (h : SlOk w v) : v = some (.slice (sadr v) (slen v) (scap v)) ∧ IsU w (sadr v) (slen v) (numAt w (sadr v)) ∧ slen v ≤ maxLen ∧ ∀ j, j < slen v → 0 ≤ numAt w (sadr v) j ∧ numAt w (sadr v) j ≤ 18446744073709551615 := by
  obtain ⟨a, n, c, rfl, h1, h2, h3⟩ := h
  exact ⟨rfl, h1, h2, h3⟩
theorem lvs_of {w : World} {cs : Array Value} (hs : cs.size = 16) (h : ∀ i, i < 16 → SlOk w cs.toList[i]?) : Lvs w cs (fun i => slen cs[i]?) (fun i => numAt w (sadr cs[i]?)) := by
  refine ⟨fun i => sadr cs[i]?, fun i => scap cs[i]?, ⟨hs, fun i hi => ?_⟩, fun i hi => ?_⟩
  · have := (h i hi).eq.1
    rw [Array.getElem?_toList] at this
    exact this
  · have := (h i hi).eq.2.1
    rw [Array.getElem?_toList] at this
    exact this
theorem clvs_of {w : World} {cs : Array Value} (hs : cs.size = 256) (h : ∀ i j, i < 16 → j < 16 → SlOk w cs.toList[i * 16 + j]?) : CLvs w cs (fun i j => if i < 16 ∧ j < 16 then slen cs[i * 16 + j]? else 0) (fun i j => numAt w (sadr cs[i * 16 + j]?)) := by
  refine ⟨fun i j => sadr cs[i * 16 + j]?, fun i j => scap cs[i * 16 + j]?, ⟨hs, fun i j hi hj => ?_⟩, fun i j hi hj => ?_⟩
  · have := (h i j hi hj).eq.1
    rw [Array.getElem?_toList] at this
    show cs[i * 16 + j]? = some (.slice (sadr cs[i * 16 + j]?) (if i < 16 ∧ j < 16 then slen cs[i * 16 + j]? else 0) (scap cs[i * 16 + j]?))
    rw [if_pos ⟨hi, hj⟩]
    exact this
  · have := (h i j hi hj).eq.2.1
    rw [Array.getElem?_toList] at this
    show IsU w (sadr cs[i * 16 + j]?) (if i < 16 ∧ j < 16 then slen cs[i * 16 + j]? else 0) (numAt w (sadr cs[i * 16 + j]?))
    rw [if_pos ⟨hi, hj⟩]
    exact this

/-- THE WALK, OVER THE ARGUMENTS AS THEY CAME IN. -/
theorem walk (cnt0 sz : Int) (low : Bool) (c27 c28 c30 c31 c32 c33 : Array Value) (w : World) (s27 : c27.size = 16) (s28 : c28.size = 16) (s30 : c30.size = 16) (s31 : c31.size = 16) (s32 : c32.size = 256) (s33 : c33.size = 256)
    (h27 : ∀ i, i < 16 → ∃ z, c27.toList[i]? = some (.int .u64 z) ∧ (Lit.int .u64 z).wf = true) (h28 : ∀ i, i < 16 → ∃ z, c28.toList[i]? = some (.int .i32 z) ∧ (Lit.int .i32 z).wf = true)
    (h30 : ∀ i, i < 16 → SlOk w c30.toList[i]?) (h31 : ∀ i, i < 16 → ∃ z, c31.toList[i]? = some (.int .i64 z) ∧ (Lit.int .i64 z).wf = true)
    (h32 : ∀ i j, i < 16 → j < 16 → ∃ z, c32.toList[i * 16 + j]? = some (.int .u64 z) ∧ (Lit.int .u64 z).wf = true) (h33 : ∀ i j, i < 16 → j < 16 → SlOk w c33.toList[i * 16 + j]?) :
    Calls Try.prog 6 #[.int .i64 cnt0, .int .i64 sz, .bool low, .agg c27, .agg c28, .agg c30, .agg c31, .agg c32, .agg c33] w fun e w' => e = .returned (.bool true) ∧ Below w.heap.size w w' := by
  refine law_walk cnt0 sz low c27 c28 c30 c31 c32 c33 (fun i => num c27[i]?) (fun i => num c28[i]?) _ _ (fun i => num c31[i]?) (fun i j => num c32[i * 16 + j]?) _ _ w (ar_of s27 h27) (ar_of s28 h28) (lvs_of s30 h30) (ar_of s31 h31) (ar2_of s32 h32) (clvs_of s33 h33) ?_ ?_ ?_ ?_ ?_
  · intro i
    by_cases hi : i < 16
    · have := (h30 i hi).eq.2.2.1
      rw [Array.getElem?_toList] at this
      simpa [maxLen] using this
    · show slen c30[i]? ≤ _
      rw [Array.getElem?_eq_none (by omega)]
      exact Nat.zero_le _
  · intro i j
    by_cases hi : i < 16 ∧ j < 16
    · have := (h33 i j hi.1 hi.2).eq.2.2.1
      rw [Array.getElem?_toList] at this
      show (if i < 16 ∧ j < 16 then _ else _) ≤ _
      rw [if_pos hi]
      simpa [maxLen] using this
    · show (if i < 16 ∧ j < 16 then _ else _) ≤ _
      rw [if_neg hi]
      exact Nat.zero_le _
  · intro i hi
    obtain ⟨z, hz, hw⟩ := h28 i hi
    rw [Array.getElem?_toList] at hz
    show -2147483648 ≤ num c28[i]? ∧ num c28[i]? ≤ 2147483647
    rw [hz]
    simpa [num, Lit.wf, IntKind.min, IntKind.max, IntKind.signed, IntKind.bits] using hw
  · intro i j hj
    by_cases hi : i < 16
    · have := (h30 i hi).eq.2.2.2
      rw [Array.getElem?_toList] at this
      exact this j hj
    · have hj' : j < slen c30[i]? := hj
      rw [Array.getElem?_eq_none (by omega)] at hj'
      exact absurd hj' (Nat.not_lt_zero _)
  · intro i j k hk
    have hk' : k < if i < 16 ∧ j < 16 then slen c33[i * 16 + j]? else 0 := hk
    by_cases hi : i < 16 ∧ j < 16
    · rw [if_pos hi] at hk'
      have := (h33 i j hi.1 hi.2).eq.2.2.2
      rw [Array.getElem?_toList] at this
      exact this k hk'
    · rw [if_neg hi] at hk'
      exact absurd hk' (Nat.not_lt_zero _)
end Go.Proofs.Qxb6604322a
