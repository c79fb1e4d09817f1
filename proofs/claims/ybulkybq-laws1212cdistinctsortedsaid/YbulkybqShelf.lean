/-
  The layings of the kit's shelf for slices.SortFunc at this dump (by the kit's shelf_lay_g and lay-plain).
-/
import Derived.Shelf.SlGeneric
import Derived.Shelf.SlSortCmp.WholeK
import Derived.Ground.SlsfProg
import Derived.Test.YbulkybqProg
namespace Go.Proofs
open Go.Shelf
def Yba.sortL_ren : Go.Shelf.Ren := ⟨fun | 6 => 7 | 15 => 11 | 14 => 10 | 28 => 24 | 29 => 25 | 20 => 16 | 21 => 17 | 22 => 18 | 23 => 19 | 24 => 20 | 25 => 21 | 26 => 22 | 27 => 23 | 46 => 29 | 47 => 30 | 48 => 31 | 49 => 32 | 50 => 33 | 57 => 35 | n => n, fun | 22 => 24 | 24 => 30 | 25 => 41 | 3 => 3 | 39 => 48 | 0 => 0 | 53 => 33 | 55 => 52 | 4 => 4 | 46 => 56 | 45 => 55 | 50 => 60 | 5 => 5 | 9 => 9 | 66 => 66 | 70 => 70 | 76 => 72 | 77 => 73 | n => n, fun | n => n⟩
set_option maxRecDepth 1000000 in
theorem Yba.sortL : Go.Proofs.SlLaysF0.n6 Yba.prog Yba.sortL_ren := {
  mixed := by kernel_rfl
  f6 := ⟨Yba.f7.name, by decide, Yba.func7.trans (congrArg some (by kernel_rfl))⟩
  f14 := ⟨Yba.f10.name, by decide, Yba.func10.trans (congrArg some (by kernel_rfl))⟩
  f15 := Yba.func11.trans (congrArg some (by kernel_rfl))
  f20 := ⟨Yba.f16.name, by decide, Yba.func16.trans (congrArg some (by kernel_rfl))⟩
  f21 := ⟨Yba.f17.name, by decide, Yba.func17.trans (congrArg some (by kernel_rfl))⟩
  f22 := ⟨Yba.f18.name, by decide, Yba.func18.trans (congrArg some (by kernel_rfl))⟩
  f23 := ⟨Yba.f19.name, by decide, Yba.func19.trans (congrArg some (by kernel_rfl))⟩
  f24 := ⟨Yba.f20.name, by decide, Yba.func20.trans (congrArg some (by kernel_rfl))⟩
  f25 := ⟨Yba.f21.name, by decide, Yba.func21.trans (congrArg some (by kernel_rfl))⟩
  f26 := ⟨Yba.f22.name, by decide, Yba.func22.trans (congrArg some (by kernel_rfl))⟩
  f27 := ⟨Yba.f23.name, by decide, Yba.func23.trans (congrArg some (by kernel_rfl))⟩
  f28 := Yba.func24.trans (congrArg some (by kernel_rfl))
  f29 := Yba.func25.trans (congrArg some (by kernel_rfl))
  f46 := ⟨Yba.f29.name, by decide, Yba.func29.trans (congrArg some (by kernel_rfl))⟩
  f47 := Yba.func30.trans (congrArg some (by kernel_rfl))
  f48 := Yba.func31.trans (congrArg some (by kernel_rfl))
  f49 := ⟨Yba.f32.name, by decide, Yba.func32.trans (congrArg some (by kernel_rfl))⟩
  f50 := ⟨Yba.f33.name, by decide, Yba.func33.trans (congrArg some (by kernel_rfl))⟩
  f57 := ⟨Yba.f35.name, by decide, Yba.func35.trans (congrArg some (by kernel_rfl))⟩
  t0 := Yba.underlying0
  a0 := Yba.isAgg0
  z0 := Yba.sizeOf0
  v0 := Yba.zeroValue0
  t3 := Yba.underlying3
  a3 := Yba.isAgg3
  z3 := Yba.sizeOf3
  v3 := Yba.zeroValue3
  t4 := Yba.underlying4
  a4 := Yba.isAgg4
  z4 := Yba.sizeOf4
  v4 := Yba.zeroValue4
  t5 := Yba.underlying5
  a5 := Yba.isAgg5
  z5 := Yba.sizeOf5
  v5 := Yba.zeroValue5
  t9 := Yba.underlying9
  a9 := Yba.isAgg9
  z9 := Yba.sizeOf9
  v9 := Yba.zeroValue9
  t22 := Yba.underlying24
  a22 := Yba.isAgg24
  z22 := Yba.sizeOf24
  v22 := Yba.zeroValue24
  t25 := Yba.underlying41
  a25 := Yba.isAgg41
  z25 := Yba.sizeOf41
  v25 := Yba.zeroValue41
  t39 := Yba.underlying48
  a39 := Yba.isAgg48
  z39 := Yba.sizeOf48
  v39 := Yba.zeroValue48
  t45 := Yba.underlying55
  a45 := Yba.isAgg55
  z45 := Yba.sizeOf55
  v45 := Yba.zeroValue55
  t46 := Yba.underlying56
  a46 := Yba.isAgg56
  z46 := Yba.sizeOf56
  v46 := Yba.zeroValue56
  t50 := Yba.underlying60
  a50 := Yba.isAgg60
  z50 := Yba.sizeOf60
  v50 := Yba.zeroValue60
  t53 := Yba.underlying33
  a53 := Yba.isAgg33
  z53 := Yba.sizeOf33
  v53 := Yba.zeroValue33
  t55 := Yba.underlying52
  a55 := Yba.isAgg52
  z55 := Yba.sizeOf52
  v55 := Yba.zeroValue52
  t66 := Yba.underlying66
  a66 := Yba.isAgg66
  z66 := Yba.sizeOf66
  v66 := Yba.zeroValue66
  t70 := Yba.underlying70
  a70 := Yba.isAgg70
  z70 := Yba.sizeOf70
  v70 := Yba.zeroValue70
  t76 := Yba.underlying72
  a76 := Yba.isAgg72
  z76 := Yba.sizeOf72
  v76 := Yba.zeroValue72
  t77 := Yba.underlying73
  a77 := Yba.isAgg73
  z77 := Yba.sizeOf73
  v77 := Yba.zeroValue73 }
end Go.Proofs
