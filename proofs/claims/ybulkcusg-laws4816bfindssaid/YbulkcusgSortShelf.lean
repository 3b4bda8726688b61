/- The shelf's laying of slices.SortFunc at []readBox at this dump, in plain words, as the kit's tool wrote it. -/
import Derived.Shelf.SlGeneric
import Derived.Shelf.SlSortCmp.WholeK
import Derived.Ground.SlsfProg
import Derived.Test.YbulkcusgProg
namespace Go.Proofs
open Go.Shelf
def Yba.sortRB_ren : Go.Shelf.Ren := ⟨fun | 6 => 17 | 15 => 22 | 14 => 21 | 28 => 33 | 29 => 34 | 20 => 25 | 21 => 26 | 22 => 27 | 23 => 28 | 24 => 29 | 25 => 30 | 26 => 31 | 27 => 32 | 46 => 35 | 47 => 36 | 48 => 37 | 49 => 38 | 50 => 39 | 57 => 40 | n => n, fun | 22 => 27 | 24 => 55 | 25 => 60 | 3 => 3 | 39 => 23 | 0 => 0 | 53 => 76 | 55 => 78 | 4 => 4 | 46 => 69 | 45 => 68 | 50 => 73 | 5 => 5 | 9 => 9 | 66 => 79 | 70 => 83 | 76 => 85 | 77 => 86 | n => n, fun | n => n⟩
theorem Yba.sortRB : Go.Proofs.SlLaysF0.n6 Yba.prog Yba.sortRB_ren := {
  mixed := by kernel_rfl
  f6 := ⟨Yba.f17.name, by decide, Yba.func17.trans (congrArg some (by kernel_rfl))⟩
  f14 := ⟨Yba.f21.name, by decide, Yba.func21.trans (congrArg some (by kernel_rfl))⟩
  f15 := Yba.func22.trans (congrArg some (by kernel_rfl))
  f20 := ⟨Yba.f25.name, by decide, Yba.func25.trans (congrArg some (by kernel_rfl))⟩
  f21 := ⟨Yba.f26.name, by decide, Yba.func26.trans (congrArg some (by kernel_rfl))⟩
  f22 := ⟨Yba.f27.name, by decide, Yba.func27.trans (congrArg some (by kernel_rfl))⟩
  f23 := ⟨Yba.f28.name, by decide, Yba.func28.trans (congrArg some (by kernel_rfl))⟩
  f24 := ⟨Yba.f29.name, by decide, Yba.func29.trans (congrArg some (by kernel_rfl))⟩
  f25 := ⟨Yba.f30.name, by decide, Yba.func30.trans (congrArg some (by kernel_rfl))⟩
  f26 := ⟨Yba.f31.name, by decide, Yba.func31.trans (congrArg some (by kernel_rfl))⟩
  f27 := ⟨Yba.f32.name, by decide, Yba.func32.trans (congrArg some (by kernel_rfl))⟩
  f28 := Yba.func33.trans (congrArg some (by kernel_rfl))
  f29 := Yba.func34.trans (congrArg some (by kernel_rfl))
  f46 := ⟨Yba.f35.name, by decide, Yba.func35.trans (congrArg some (by kernel_rfl))⟩
  f47 := Yba.func36.trans (congrArg some (by kernel_rfl))
  f48 := Yba.func37.trans (congrArg some (by kernel_rfl))
  f49 := ⟨Yba.f38.name, by decide, Yba.func38.trans (congrArg some (by kernel_rfl))⟩
  f50 := ⟨Yba.f39.name, by decide, Yba.func39.trans (congrArg some (by kernel_rfl))⟩
  f57 := ⟨Yba.f40.name, by decide, Yba.func40.trans (congrArg some (by kernel_rfl))⟩
  t0 := Yba.underlying0
  a0 := Yba.isAgg0
  z0 := Yba.sizeOf0
  v0 := Yba.zeroValue0
  t3 := Yba.underlying3
  a3 := Yba.isAgg3
  z3 := Yba.sizeOf3
  v3 := Yba.zeroValue3
  t4 := Yba.underlying4
  a4 := Yba.isAgg4
  z4 := Yba.sizeOf4
  v4 := Yba.zeroValue4
  t5 := Yba.underlying5
  a5 := Yba.isAgg5
  z5 := Yba.sizeOf5
  v5 := Yba.zeroValue5
  t9 := Yba.underlying9
  a9 := Yba.isAgg9
  z9 := Yba.sizeOf9
  v9 := Yba.zeroValue9
  t22 := Yba.underlying27
  a22 := Yba.isAgg27
  z22 := Yba.sizeOf27
  v22 := Yba.zeroValue27
  t25 := Yba.underlying60
  a25 := Yba.isAgg60
  z25 := Yba.sizeOf60
  v25 := Yba.zeroValue60
  t39 := Yba.underlying23
  a39 := Yba.isAgg23
  z39 := Yba.sizeOf23
  v39 := Yba.zeroValue23
  t45 := Yba.underlying68
  a45 := Yba.isAgg68
  z45 := Yba.sizeOf68
  v45 := Yba.zeroValue68
  t46 := Yba.underlying69
  a46 := Yba.isAgg69
  z46 := Yba.sizeOf69
  v46 := Yba.zeroValue69
  t50 := Yba.underlying73
  a50 := Yba.isAgg73
  z50 := Yba.sizeOf73
  v50 := Yba.zeroValue73
  t53 := Yba.underlying76
  a53 := Yba.isAgg76
  z53 := Yba.sizeOf76
  v53 := Yba.zeroValue76
  t55 := Yba.underlying78
  a55 := Yba.isAgg78
  z55 := Yba.sizeOf78
  v55 := Yba.zeroValue78
  t66 := Yba.underlying79
  a66 := Yba.isAgg79
  z66 := Yba.sizeOf79
  v66 := Yba.zeroValue79
  t70 := Yba.underlying83
  a70 := Yba.isAgg83
  z70 := Yba.sizeOf83
  v70 := Yba.zeroValue83
  t76 := Yba.underlying85
  a76 := Yba.isAgg85
  z76 := Yba.sizeOf85
  v76 := Yba.zeroValue85
  t77 := Yba.underlying86
  a77 := Yba.isAgg86
  z77 := Yba.sizeOf86
  v77 := Yba.zeroValue86 }
end Go.Proofs
