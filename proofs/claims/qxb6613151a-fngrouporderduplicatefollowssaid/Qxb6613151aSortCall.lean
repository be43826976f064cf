/-
  Seat b6613151a: GroupOrder's call of slices.SortFunc; GroupOrder (9) and ZZGroupOrderByIndex (7) whole.
-/
import Derived.Test.Qxb6613151aSorted
namespace Go.Proofs.Qxb6613151a
open Go.ChangeShapes Go.WideShapes Go.ChangeAt Go.RowKit Go.Sort
set_option linter.unusedVariables false

section
variable {α : Type} [Inhabited α]
theorem sw_size (enc : α → Value) (w : World) (blk off m : Nat) (dk : Array α) (os : Array Obj) : w.heap.size ≤ (sortWorld enc w blk off m dk os).heap.size := by
  unfold sortWorld
  rw [size_grow, size_putRow]
  exact Nat.le_add_right _ _
theorem sw_block (enc : α → Value) (w : World) (blk off m : Nat) (dk : Array α) (os : Array Obj) (j : Nat) (hj : j < w.heap.size) (hne : j ≠ blk) : (sortWorld enc w blk off m dk os).heap[j]? = w.heap[j]? := by
  unfold sortWorld
  rw [heap_grow_old _ _ (by rw [size_putRow]; exact hj)]
  simp only [putRow, mapBlock, Array.getElem?_modify]
  rw [if_neg (fun h => hne h.symm)]
  rfl
theorem sw_below (enc : α → Value) (w : World) (blk off m : Nat) (dk : Array α) (os : Array Obj) (B : Nat) (hB : B ≤ blk) (hw : B ≤ w.heap.size) : RowKit.Below B w (sortWorld enc w blk off m dk os) :=
  ⟨rfl, rfl, rfl, sw_size .., fun k hk => sw_block enc w blk off m dk os k (by omega) (by omega)⟩
theorem sw_Fl (enc : α → Value) {w : World} {b : Nat} {ty : TypeId} {n k : Nat} {f : Nat → Value} (h : Fl w b ty n k f) (blk off m : Nat) (dk : Array α) (os : Array Obj) (hne : b ≠ blk) : Fl (sortWorld enc w blk off m dk os) b ty n k f := by
  have hl := h.lt
  obtain ⟨cur, h1, h2, h3⟩ := h
  exact ⟨cur, (sw_block enc w blk off m dk os b hl hne).trans h1, h2, h3⟩
end

theorem GO.cmpW {w W : World} {s2 s3 bs s5 bo bl s7 pb rb gb : Nat} {D : PD} (h : GO w W s2 s3 bs s5 bo bl s7 pb D D.nG) (hp : IsProb w pb rb gb D) {α : Type} [Inhabited α] (enc : α → Value) (m : Nat) (dk : Array α) (os : Array Obj)
    (hw : w.heap.size ≤ bo) (d2 : s2 ≠ bo) (d3 : s3 ≠ bo) (ds : bs ≠ bo) (d5 : s5 ≠ bo) (dl : bl ≠ bo) (d7 : s7 ≠ bo) : CmpW (sortWorld enc W bo 0 m dk os) s5 s7 s2 s3 bs bl pb rb gb D (limOf D) := by
  have f2 := sw_Fl enc h.b2 bo 0 m dk os d2
  have f3 := sw_Fl enc h.b3 bo 0 m dk os d3
  have fs := sw_Fl enc h.sz bo 0 m dk os ds
  have f5 := sw_Fl enc h.b5 bo 0 m dk os d5
  have fl := sw_Fl enc h.lm bo 0 m dk os dl
  have f7 := sw_Fl enc h.b7 bo 0 m dk os d7
  refine ⟨f5.lt, f7.lt, f2.lt, f3.lt, fs.lt, fl.lt, f5.cell 0 (by omega), f7.cell 0 (by omega), f2.cell 0 (by omega), f3.cell 0 (by omega), fun g hg => fs.cell g hg, fun g hg => ?_, ?_⟩
  · have := fl.cell g hg
    simp only [limG, if_pos hg] at this
    exact this
  · exact hp.below (h.below.trans (sw_below enc W bo 0 m dk os w.heap.size hw h.below.size)) (Nat.le_refl _)

theorem ofFn_range (n : Nat) : ((Array.ofFn (fun i : Fin n => i)).toList.map (·.val)) = List.range n := by
  apply List.ext_getElem
  · simp
  · intro i h1 h2
    simp

set_option maxHeartbeats 1000000 in
theorem sort_any (pb rb gb : Nat) (D : PD) (w : World) (h : IsProb w pb rb gb D) (hd : Dom D) :
    Hid (∀ W s2 s3 bs s5 bo bl s7, GO w W s2 s3 bs s5 bo bl s7 pb D D.nG → w.heap.size ≤ bo → s2 < bo → s3 < bo → bs < bo → s5 < bo → bo < bl → bl < s7 →
      Calls Try.prog 15 #[.slice (some ⟨bo, 0, none⟩) D.nG D.nG, .func (.func 16) #[] #[.pointer (some ⟨s5, 0, none⟩), .pointer (some ⟨s7, 0, none⟩), .pointer (some ⟨s2, 0, none⟩), .pointer (some ⟨s3, 0, none⟩)]] W fun e w' => e = .returned (.tuple #[]) ∧ OrdOut w.heap.size D (.returned (.slice (some ⟨bo, 0, none⟩) D.nG D.nG)) w' ∧ RowKit.Below w.heap.size w w') := by
  intro W s2 s3 bs s5 bo bl s7 hg hbo h2 h3 hs h5 hbl h7
  haveI : Inhabited (Fin D.nG) := ⟨⟨0, hd.gpos⟩⟩
  have hgrps := hd.grps
  obtain ⟨enc, henc⟩ : ∃ enc : Fin D.nG → Value, enc = fun x => .int .i64 (x.val : Int) := ⟨_, rfl⟩
  obtain ⟨d, hdd⟩ : ∃ d : Array (Fin D.nG), d = Array.ofFn (fun i => i) := ⟨_, rfl⟩
  have hds : d.size = D.nG := by rw [hdd]; simp
  have hH : Holds enc W bo 0 d := by
    intro j hj
    rw [hds] at hj
    rw [Nat.zero_add]
    refine ⟨(hg.od.cell j hj).trans ?_, ?_⟩
    · rw [henc, hdd, getElem!_pos _ j (by simpa using hj)]
      simp
    · obtain ⟨cur, hc1, _⟩ := hg.od
      exact frozen_of_row W bo j cur 3 hc1
  have c := Any.slices_SortFunc Try.sortL enc (by rw [henc]; exact fun _ => rfl) (fun x y => cfF D (limOf D) x.val y.val) (swo_of ((tc_cf D (limOf D)).comp (fun x : Fin D.nG => x.val))) 16
    #[.pointer (some ⟨s5, 0, none⟩), .pointer (some ⟨s7, 0, none⟩), .pointer (some ⟨s2, 0, none⟩), .pointer (some ⟨s3, 0, none⟩)] bo 0 D.nG d W (enters_of Try.func16 (by kernel_rfl) rfl)
    (by
      intro m os dk hdk x y
      have hcw := hg.cmpW h enc m dk os hbo (by omega) (by omega) (by omega) (by omega) (by omega) (by omega)
      have := closure_any _ s5 s7 s2 s3 bs bl pb rb gb D (limOf D) hcw hd x.val y.val x.isLt y.isLt
      rw [henc]
      rw [henc] at this
      exact this)
    hH hg.od.lt (by omega)
  rw [hds] at c
  refine Calls.mono (show Calls Try.prog 15 _ W _ from c) ?_
  rintro e w' ⟨rfl, d', n, os, hp, hsd, rfl⟩
  refine ⟨rfl, ⟨bo, d'.toList.map (·.val), rfl, hbo, ?_, ?_, ?_⟩, ?_⟩
  · have e1 : (d'.extract 0 D.nG).toList = d'.toList := by
      rw [Array.toList_extract, List.extract_eq_take_drop, List.drop_zero, Nat.sub_zero, List.take_of_length_le (by simp [hp.1, hds])]
    have e2 : (d.extract 0 D.nG).toList = d.toList := by
      rw [Array.toList_extract, List.extract_eq_take_drop, List.drop_zero, Nat.sub_zero, List.take_of_length_le (by simp [hds])]
    have hpp := hp.2.2
    rw [e1, e2] at hpp
    have := hpp.map (fun x : Fin D.nG => x.val)
    rw [hdd, ofFn_range] at this
    exact this
  · rw [List.pairwise_map, List.pairwise_iff_getElem]
    intro i j hi hj hij
    have hj' : j < d'.size := by simpa using hj
    have hi' : i < d'.size := by simpa using hi
    have := hsd i j (Nat.zero_le _) hij (by rw [← hds, ← hp.1]; exact hj')
    rw [getElem!_pos d' j hj', getElem!_pos d' i hi'] at this
    simpa [ltOf] using this
  · intro i hi
    have hi' : i < d'.size := by rw [hp.1, hds]; exact hi
    have hc := cell?_putRow enc (Sort.ahead W n) bo 0 d d' hH hp.1 i hi'
    unfold sortWorld
    rw [cell?_grow _ _ _ (by rw [size_putRow]; exact hg.od.lt)]
    rw [Nat.zero_add] at hc
    rw [hc, henc, getElem!_pos d' i hi']
    simp [hi']
  · exact hg.below.trans (sw_below enc W bo 0 n d' os w.heap.size hbo hg.below.size)

theorem order_any (pb rb gb : Nat) (D : PD) (w : World) (h : IsProb w pb rb gb D) (hd : Dom D) :
    Calls Try.prog 9 #[.pointer (some ⟨pb, 0, none⟩), .func (.func 10) #[] #[]] w fun e w' => OrdOut w.heap.size D e w' ∧ RowKit.Below w.heap.size w w' :=
  groupOrder_any pb rb gb D w h hd (sort_any pb rb gb D w h hd)

theorem zz_any (pb rb gb : Nat) (D : PD) (w : World) (h : IsProb w pb rb gb D) (hd : Dom D) :
    Calls Try.prog 7 #[.pointer (some ⟨pb, 0, none⟩)] w fun e w' => OrdOut w.heap.size D e w' ∧ RowKit.Below w.heap.size w w' := by
  have ho := order_any pb rb gb D w h hd
  clear h hd
  go_enter Try.func7, Try.ntmps7
  go_wp2_with fail
  refine ho.mono ?_
  rintro e w1 ⟨⟨bo, d, rfl, o1, o2, o3, o4⟩, hb⟩
  have HO : Hid (OrdOut w.heap.size D (.returned (.slice (some ⟨bo, 0, none⟩) D.nG D.nG)) w1) := ⟨bo, d, rfl, o1, o2, o3, o4⟩
  clear ho o1 o2 o3 o4
  go_wp2
  go_ret
  exact ⟨HO.out, hb⟩
end Go.Proofs.Qxb6613151a
