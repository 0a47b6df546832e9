/-
  slices.SortFunc's family laid at this program (function 13 and what it reaches), in plain words: what the kit's tool lay-plain.mjs writes for this program out of the laying 'SlLaysF0.n6 .. at Yba 13'.
-/
import Derived.Shelf.SlSortCmp.WholeK
import Derived.Test.YbulkykgProg
namespace Go.Proofs
open Go.Shelf
def Yba.sortK_ren : Go.Shelf.Ren := ⟨fun | 6 => 13 | 15 => 18 | 14 => 17 | 28 => 28 | 29 => 29 | 20 => 20 | 21 => 21 | 22 => 22 | 23 => 23 | 24 => 24 | 25 => 25 | 26 => 26 | 27 => 27 | 46 => 30 | 47 => 31 | 48 => 32 | 49 => 33 | 50 => 34 | 57 => 35 | n => n, fun | 22 => 32 | 24 => 50 | 25 => 61 | 3 => 3 | 39 => 25 | 0 => 0 | 53 => 75 | 55 => 24 | 4 => 4 | 46 => 68 | 45 => 67 | 50 => 72 | 5 => 5 | 9 => 9 | 66 => 77 | 70 => 81 | 76 => 83 | 77 => 84 | n => n, fun | n => n⟩
theorem Yba.sortK : Go.Proofs.SlLaysF0.n6 Yba.prog Yba.sortK_ren := {
  mixed := by kernel_rfl
  f6 := ⟨Yba.f13.name, by decide, Yba.func13.trans (congrArg some (by kernel_rfl))⟩
  f14 := ⟨Yba.f17.name, by decide, Yba.func17.trans (congrArg some (by kernel_rfl))⟩
  f15 := Yba.func18.trans (congrArg some (by kernel_rfl))
  f20 := ⟨Yba.f20.name, by decide, Yba.func20.trans (congrArg some (by kernel_rfl))⟩
  f21 := ⟨Yba.f21.name, by decide, Yba.func21.trans (congrArg some (by kernel_rfl))⟩
  f22 := ⟨Yba.f22.name, by decide, Yba.func22.trans (congrArg some (by kernel_rfl))⟩
  f23 := ⟨Yba.f23.name, by decide, Yba.func23.trans (congrArg some (by kernel_rfl))⟩
  f24 := ⟨Yba.f24.name, by decide, Yba.func24.trans (congrArg some (by kernel_rfl))⟩
  f25 := ⟨Yba.f25.name, by decide, Yba.func25.trans (congrArg some (by kernel_rfl))⟩
  f26 := ⟨Yba.f26.name, by decide, Yba.func26.trans (congrArg some (by kernel_rfl))⟩
  f27 := ⟨Yba.f27.name, by decide, Yba.func27.trans (congrArg some (by kernel_rfl))⟩
  f28 := Yba.func28.trans (congrArg some (by kernel_rfl))
  f29 := Yba.func29.trans (congrArg some (by kernel_rfl))
  f46 := ⟨Yba.f30.name, by decide, Yba.func30.trans (congrArg some (by kernel_rfl))⟩
  f47 := Yba.func31.trans (congrArg some (by kernel_rfl))
  f48 := Yba.func32.trans (congrArg some (by kernel_rfl))
  f49 := ⟨Yba.f33.name, by decide, Yba.func33.trans (congrArg some (by kernel_rfl))⟩
  f50 := ⟨Yba.f34.name, by decide, Yba.func34.trans (congrArg some (by kernel_rfl))⟩
  f57 := ⟨Yba.f35.name, by decide, Yba.func35.trans (congrArg some (by kernel_rfl))⟩
  t0 := Yba.underlying0
  a0 := Yba.isAgg0
  z0 := Yba.sizeOf0
  v0 := Yba.zeroValue0
  t3 := Yba.underlying3
  a3 := Yba.isAgg3
  z3 := Yba.sizeOf3
  v3 := Yba.zeroValue3
  t4 := Yba.underlying4
  a4 := Yba.isAgg4
  z4 := Yba.sizeOf4
  v4 := Yba.zeroValue4
  t5 := Yba.underlying5
  a5 := Yba.isAgg5
  z5 := Yba.sizeOf5
  v5 := Yba.zeroValue5
  t9 := Yba.underlying9
  a9 := Yba.isAgg9
  z9 := Yba.sizeOf9
  v9 := Yba.zeroValue9
  t22 := Yba.underlying32
  a22 := Yba.isAgg32
  z22 := Yba.sizeOf32
  v22 := Yba.zeroValue32
  t25 := Yba.underlying61
  a25 := Yba.isAgg61
  z25 := Yba.sizeOf61
  v25 := Yba.zeroValue61
  t39 := Yba.underlying25
  a39 := Yba.isAgg25
  z39 := Yba.sizeOf25
  v39 := Yba.zeroValue25
  t45 := Yba.underlying67
  a45 := Yba.isAgg67
  z45 := Yba.sizeOf67
  v45 := Yba.zeroValue67
  t46 := Yba.underlying68
  a46 := Yba.isAgg68
  z46 := Yba.sizeOf68
  v46 := Yba.zeroValue68
  t50 := Yba.underlying72
  a50 := Yba.isAgg72
  z50 := Yba.sizeOf72
  v50 := Yba.zeroValue72
  t53 := Yba.underlying75
  a53 := Yba.isAgg75
  z53 := Yba.sizeOf75
  v53 := Yba.zeroValue75
  t55 := Yba.underlying24
  a55 := Yba.isAgg24
  z55 := Yba.sizeOf24
  v55 := Yba.zeroValue24
  t66 := Yba.underlying77
  a66 := Yba.isAgg77
  z66 := Yba.sizeOf77
  v66 := Yba.zeroValue77
  t70 := Yba.underlying81
  a70 := Yba.isAgg81
  z70 := Yba.sizeOf81
  v70 := Yba.zeroValue81
  t76 := Yba.underlying83
  a76 := Yba.isAgg83
  z76 := Yba.sizeOf83
  v76 := Yba.zeroValue83
  t77 := Yba.underlying84
  a77 := Yba.isAgg84
  z77 := Yba.sizeOf84
  v77 := Yba.zeroValue84 }
end Go.Proofs
