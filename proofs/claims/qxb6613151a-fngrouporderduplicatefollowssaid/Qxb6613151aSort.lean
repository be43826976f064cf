/-
  Seat b6613151a: the shelf's contract of slices.SortFunc laid at this program (function 15), in plain words.
-/
import Derived.Test.Qxb6613151aRows
import Derived.Shelf.SlSortCmp.Whole1
namespace Go.Proofs.Qxb6613151a
open Go.Shelf

def Try.sortL_ren : Go.Shelf.Ren := ⟨fun | 6 => 15 | 15 => 26 | 14 => 25 | 28 => 38 | 29 => 39 | 20 => 30 | 21 => 31 | 22 => 32 | 23 => 33 | 24 => 34 | 25 => 35 | 26 => 36 | 27 => 37 | 46 => 42 | 47 => 43 | 48 => 44 | 49 => 45 | 50 => 46 | 57 => 47 | n => n, fun | 22 => 23 | 24 => 3 | 25 => 35 | 3 => 3 | 39 => 62 | 0 => 0 | 53 => 75 | 55 => 51 | 4 => 4 | 46 => 68 | 45 => 67 | 50 => 72 | 5 => 5 | 9 => 9 | 66 => 80 | 70 => 84 | 76 => 86 | 77 => 87 | n => n, fun | n => n⟩

theorem Try.sortL : Go.Proofs.SlLaysF.n6 Try.prog Try.sortL_ren := {
  mixed := by kernel_rfl
  f6 := ⟨Try.f15.name, by decide, Try.func15.trans (congrArg some (by kernel_rfl))⟩
  f14 := ⟨Try.f25.name, by decide, Try.func25.trans (congrArg some (by kernel_rfl))⟩
  f15 := Try.func26.trans (congrArg some (by kernel_rfl))
  f20 := ⟨Try.f30.name, by decide, Try.func30.trans (congrArg some (by kernel_rfl))⟩
  f21 := ⟨Try.f31.name, by decide, Try.func31.trans (congrArg some (by kernel_rfl))⟩
  f22 := ⟨Try.f32.name, by decide, Try.func32.trans (congrArg some (by kernel_rfl))⟩
  f23 := ⟨Try.f33.name, by decide, Try.func33.trans (congrArg some (by kernel_rfl))⟩
  f24 := ⟨Try.f34.name, by decide, Try.func34.trans (congrArg some (by kernel_rfl))⟩
  f25 := ⟨Try.f35.name, by decide, Try.func35.trans (congrArg some (by kernel_rfl))⟩
  f26 := ⟨Try.f36.name, by decide, Try.func36.trans (congrArg some (by kernel_rfl))⟩
  f27 := ⟨Try.f37.name, by decide, Try.func37.trans (congrArg some (by kernel_rfl))⟩
  f28 := Try.func38.trans (congrArg some (by kernel_rfl))
  f29 := Try.func39.trans (congrArg some (by kernel_rfl))
  f46 := ⟨Try.f42.name, by decide, Try.func42.trans (congrArg some (by kernel_rfl))⟩
  f47 := Try.func43.trans (congrArg some (by kernel_rfl))
  f48 := Try.func44.trans (congrArg some (by kernel_rfl))
  f49 := ⟨Try.f45.name, by decide, Try.func45.trans (congrArg some (by kernel_rfl))⟩
  f50 := ⟨Try.f46.name, by decide, Try.func46.trans (congrArg some (by kernel_rfl))⟩
  f57 := ⟨Try.f47.name, by decide, Try.func47.trans (congrArg some (by kernel_rfl))⟩
  t0 := Try.underlying0
  a0 := Try.isAgg0
  z0 := Try.sizeOf0
  v0 := Try.zeroValue0
  t3 := Try.underlying3
  a3 := Try.isAgg3
  z3 := Try.sizeOf3
  v3 := Try.zeroValue3
  t4 := Try.underlying4
  a4 := Try.isAgg4
  z4 := Try.sizeOf4
  v4 := Try.zeroValue4
  t5 := Try.underlying5
  a5 := Try.isAgg5
  z5 := Try.sizeOf5
  v5 := Try.zeroValue5
  t9 := Try.underlying9
  a9 := Try.isAgg9
  z9 := Try.sizeOf9
  v9 := Try.zeroValue9
  t22 := Try.underlying23
  a22 := Try.isAgg23
  z22 := Try.sizeOf23
  v22 := Try.zeroValue23
  a24 := Try.isAgg3
  z24 := Try.sizeOf3
  t25 := Try.underlying35
  a25 := Try.isAgg35
  z25 := Try.sizeOf35
  v25 := Try.zeroValue35
  t39 := Try.underlying62
  a39 := Try.isAgg62
  z39 := Try.sizeOf62
  v39 := Try.zeroValue62
  t45 := Try.underlying67
  a45 := Try.isAgg67
  z45 := Try.sizeOf67
  v45 := Try.zeroValue67
  t46 := Try.underlying68
  a46 := Try.isAgg68
  z46 := Try.sizeOf68
  v46 := Try.zeroValue68
  t50 := Try.underlying72
  a50 := Try.isAgg72
  z50 := Try.sizeOf72
  v50 := Try.zeroValue72
  t53 := Try.underlying75
  a53 := Try.isAgg75
  z53 := Try.sizeOf75
  v53 := Try.zeroValue75
  t55 := Try.underlying51
  a55 := Try.isAgg51
  z55 := Try.sizeOf51
  v55 := Try.zeroValue51
  t66 := Try.underlying80
  a66 := Try.isAgg80
  z66 := Try.sizeOf80
  v66 := Try.zeroValue80
  t70 := Try.underlying84
  a70 := Try.isAgg84
  z70 := Try.sizeOf84
  v70 := Try.zeroValue84
  t76 := Try.underlying86
  a76 := Try.isAgg86
  z76 := Try.sizeOf86
  v76 := Try.zeroValue86
  t77 := Try.underlying87
  a77 := Try.isAgg87
  z77 := Try.sizeOf87
  v77 := Try.zeroValue87 }

end Go.Proofs.Qxb6613151a
