/-
  slices.SortFunc's laying at this dump, in plain words, as the kit's tool lay-plain.mjs writes it.
-/
import Derived.Shelf.SlSortCmp.NoneTotal
import Derived.Ground.SlsfProg
import Derived.Shelf.SlGeneric
import Derived.Test.YbulkdbnyProg
namespace Go.Proofs
open Go.Shelf
def Yba.sortL_ren : Go.Shelf.Ren := ⟨fun | 6 => 8 | 15 => 14 | 14 => 13 | 28 => 25 | 29 => 26 | 20 => 17 | 21 => 18 | 22 => 19 | 23 => 20 | 24 => 21 | 25 => 22 | 26 => 23 | 27 => 24 | 46 => 27 | 47 => 28 | 48 => 29 | 49 => 30 | 50 => 31 | 57 => 32 | n => n, fun | 22 => 23 | 24 => 3 | 25 => 57 | 3 => 3 | 39 => 60 | 0 => 0 | 53 => 71 | 55 => 35 | 4 => 4 | 46 => 65 | 45 => 64 | 50 => 43 | 5 => 5 | 9 => 9 | 66 => 73 | 70 => 77 | 76 => 79 | 77 => 80 | n => n, fun | n => n⟩
theorem Yba.sortL : Go.Proofs.SlLaysF.n6 Yba.prog Yba.sortL_ren := {
  mixed := by kernel_rfl
  f6 := ⟨Yba.f8.name, by decide, Yba.func8.trans (congrArg some (by kernel_rfl))⟩
  f14 := ⟨Yba.f13.name, by decide, Yba.func13.trans (congrArg some (by kernel_rfl))⟩
  f15 := Yba.func14.trans (congrArg some (by kernel_rfl))
  f20 := ⟨Yba.f17.name, by decide, Yba.func17.trans (congrArg some (by kernel_rfl))⟩
  f21 := ⟨Yba.f18.name, by decide, Yba.func18.trans (congrArg some (by kernel_rfl))⟩
  f22 := ⟨Yba.f19.name, by decide, Yba.func19.trans (congrArg some (by kernel_rfl))⟩
  f23 := ⟨Yba.f20.name, by decide, Yba.func20.trans (congrArg some (by kernel_rfl))⟩
  f24 := ⟨Yba.f21.name, by decide, Yba.func21.trans (congrArg some (by kernel_rfl))⟩
  f25 := ⟨Yba.f22.name, by decide, Yba.func22.trans (congrArg some (by kernel_rfl))⟩
  f26 := ⟨Yba.f23.name, by decide, Yba.func23.trans (congrArg some (by kernel_rfl))⟩
  f27 := ⟨Yba.f24.name, by decide, Yba.func24.trans (congrArg some (by kernel_rfl))⟩
  f28 := Yba.func25.trans (congrArg some (by kernel_rfl))
  f29 := Yba.func26.trans (congrArg some (by kernel_rfl))
  f46 := ⟨Yba.f27.name, by decide, Yba.func27.trans (congrArg some (by kernel_rfl))⟩
  f47 := Yba.func28.trans (congrArg some (by kernel_rfl))
  f48 := Yba.func29.trans (congrArg some (by kernel_rfl))
  f49 := ⟨Yba.f30.name, by decide, Yba.func30.trans (congrArg some (by kernel_rfl))⟩
  f50 := ⟨Yba.f31.name, by decide, Yba.func31.trans (congrArg some (by kernel_rfl))⟩
  f57 := ⟨Yba.f32.name, by decide, Yba.func32.trans (congrArg some (by kernel_rfl))⟩
  t0 := Yba.underlying0
  a0 := Yba.isAgg0
  z0 := Yba.sizeOf0
  v0 := Yba.zeroValue0
  t3 := Yba.underlying3
  a3 := Yba.isAgg3
  z3 := Yba.sizeOf3
  v3 := Yba.zeroValue3
  t4 := Yba.underlying4
  a4 := Yba.isAgg4
  z4 := Yba.sizeOf4
  v4 := Yba.zeroValue4
  t5 := Yba.underlying5
  a5 := Yba.isAgg5
  z5 := Yba.sizeOf5
  v5 := Yba.zeroValue5
  t9 := Yba.underlying9
  a9 := Yba.isAgg9
  z9 := Yba.sizeOf9
  v9 := Yba.zeroValue9
  t22 := Yba.underlying23
  a22 := Yba.isAgg23
  z22 := Yba.sizeOf23
  v22 := Yba.zeroValue23
  a24 := Yba.isAgg3
  z24 := Yba.sizeOf3
  t25 := Yba.underlying57
  a25 := Yba.isAgg57
  z25 := Yba.sizeOf57
  v25 := Yba.zeroValue57
  t39 := Yba.underlying60
  a39 := Yba.isAgg60
  z39 := Yba.sizeOf60
  v39 := Yba.zeroValue60
  t45 := Yba.underlying64
  a45 := Yba.isAgg64
  z45 := Yba.sizeOf64
  v45 := Yba.zeroValue64
  t46 := Yba.underlying65
  a46 := Yba.isAgg65
  z46 := Yba.sizeOf65
  v46 := Yba.zeroValue65
  t50 := Yba.underlying43
  a50 := Yba.isAgg43
  z50 := Yba.sizeOf43
  v50 := Yba.zeroValue43
  t53 := Yba.underlying71
  a53 := Yba.isAgg71
  z53 := Yba.sizeOf71
  v53 := Yba.zeroValue71
  t55 := Yba.underlying35
  a55 := Yba.isAgg35
  z55 := Yba.sizeOf35
  v55 := Yba.zeroValue35
  t66 := Yba.underlying73
  a66 := Yba.isAgg73
  z66 := Yba.sizeOf73
  v66 := Yba.zeroValue73
  t70 := Yba.underlying77
  a70 := Yba.isAgg77
  z70 := Yba.sizeOf77
  v70 := Yba.zeroValue77
  t76 := Yba.underlying79
  a76 := Yba.isAgg79
  z76 := Yba.sizeOf79
  v76 := Yba.zeroValue79
  t77 := Yba.underlying80
  a77 := Yba.isAgg80
  z77 := Yba.sizeOf80
  v77 := Yba.zeroValue80 }
end Go.Proofs
