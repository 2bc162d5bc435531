/-
  The sort's contract at this program, in plain words (the kit's tools wrote it; the remarks are struck).
-/
import Derived.Shelf.SlSortCmp.NoneTotal
import Derived.Test.YbulkaticProg
namespace Go.Proofs
open Go.Shelf
def Yba.sortR_ren : Go.Shelf.Ren := ⟨fun | 6 => 19 | 15 => 25 | 14 => 24 | 28 => 36 | 29 => 37 | 20 => 28 | 21 => 29 | 22 => 30 | 23 => 31 | 24 => 32 | 25 => 33 | 26 => 34 | 27 => 35 | 46 => 38 | 47 => 39 | 48 => 40 | 49 => 41 | 50 => 42 | 57 => 43 | n => n, fun | 22 => 24 | 24 => 36 | 25 => 70 | 3 => 3 | 39 => 51 | 0 => 0 | 53 => 66 | 55 => 29 | 4 => 4 | 46 => 88 | 45 => 87 | 50 => 79 | 5 => 5 | 9 => 9 | 66 => 97 | 70 => 101 | 76 => 103 | 77 => 104 | n => n, fun | n => n⟩
set_option maxRecDepth 100000 in
theorem Yba.sortR : Go.Proofs.SlLaysF0.n6 Yba.prog Yba.sortR_ren := {
  mixed := by kernel_rfl
  f6 := ⟨Yba.f19.name, by decide, Yba.func19.trans (congrArg some (by kernel_rfl))⟩
  f14 := ⟨Yba.f24.name, by decide, Yba.func24.trans (congrArg some (by kernel_rfl))⟩
  f15 := Yba.func25.trans (congrArg some (by kernel_rfl))
  f20 := ⟨Yba.f28.name, by decide, Yba.func28.trans (congrArg some (by kernel_rfl))⟩
  f21 := ⟨Yba.f29.name, by decide, Yba.func29.trans (congrArg some (by kernel_rfl))⟩
  f22 := ⟨Yba.f30.name, by decide, Yba.func30.trans (congrArg some (by kernel_rfl))⟩
  f23 := ⟨Yba.f31.name, by decide, Yba.func31.trans (congrArg some (by kernel_rfl))⟩
  f24 := ⟨Yba.f32.name, by decide, Yba.func32.trans (congrArg some (by kernel_rfl))⟩
  f25 := ⟨Yba.f33.name, by decide, Yba.func33.trans (congrArg some (by kernel_rfl))⟩
  f26 := ⟨Yba.f34.name, by decide, Yba.func34.trans (congrArg some (by kernel_rfl))⟩
  f27 := ⟨Yba.f35.name, by decide, Yba.func35.trans (congrArg some (by kernel_rfl))⟩
  f28 := Yba.func36.trans (congrArg some (by kernel_rfl))
  f29 := Yba.func37.trans (congrArg some (by kernel_rfl))
  f46 := ⟨Yba.f38.name, by decide, Yba.func38.trans (congrArg some (by kernel_rfl))⟩
  f47 := Yba.func39.trans (congrArg some (by kernel_rfl))
  f48 := Yba.func40.trans (congrArg some (by kernel_rfl))
  f49 := ⟨Yba.f41.name, by decide, Yba.func41.trans (congrArg some (by kernel_rfl))⟩
  f50 := ⟨Yba.f42.name, by decide, Yba.func42.trans (congrArg some (by kernel_rfl))⟩
  f57 := ⟨Yba.f43.name, by decide, Yba.func43.trans (congrArg some (by kernel_rfl))⟩
  t0 := Yba.underlying0
  a0 := Yba.isAgg0
  z0 := Yba.sizeOf0
  v0 := Yba.zeroValue0
  t3 := Yba.underlying3
  a3 := Yba.isAgg3
  z3 := Yba.sizeOf3
  v3 := Yba.zeroValue3
  t4 := Yba.underlying4
  a4 := Yba.isAgg4
  z4 := Yba.sizeOf4
  v4 := Yba.zeroValue4
  t5 := Yba.underlying5
  a5 := Yba.isAgg5
  z5 := Yba.sizeOf5
  v5 := Yba.zeroValue5
  t9 := Yba.underlying9
  a9 := Yba.isAgg9
  z9 := Yba.sizeOf9
  v9 := Yba.zeroValue9
  t22 := Yba.underlying24
  a22 := Yba.isAgg24
  z22 := Yba.sizeOf24
  v22 := Yba.zeroValue24
  t25 := Yba.underlying70
  a25 := Yba.isAgg70
  z25 := Yba.sizeOf70
  v25 := Yba.zeroValue70
  t39 := Yba.underlying51
  a39 := Yba.isAgg51
  z39 := Yba.sizeOf51
  v39 := Yba.zeroValue51
  t45 := Yba.underlying87
  a45 := Yba.isAgg87
  z45 := Yba.sizeOf87
  v45 := Yba.zeroValue87
  t46 := Yba.underlying88
  a46 := Yba.isAgg88
  z46 := Yba.sizeOf88
  v46 := Yba.zeroValue88
  t50 := Yba.underlying79
  a50 := Yba.isAgg79
  z50 := Yba.sizeOf79
  v50 := Yba.zeroValue79
  t53 := Yba.underlying66
  a53 := Yba.isAgg66
  z53 := Yba.sizeOf66
  v53 := Yba.zeroValue66
  t55 := Yba.underlying29
  a55 := Yba.isAgg29
  z55 := Yba.sizeOf29
  v55 := Yba.zeroValue29
  t66 := Yba.underlying97
  a66 := Yba.isAgg97
  z66 := Yba.sizeOf97
  v66 := Yba.zeroValue97
  t70 := Yba.underlying101
  a70 := Yba.isAgg101
  z70 := Yba.sizeOf101
  v70 := Yba.zeroValue101
  t76 := Yba.underlying103
  a76 := Yba.isAgg103
  z76 := Yba.sizeOf103
  v76 := Yba.zeroValue103
  t77 := Yba.underlying104
  a77 := Yba.isAgg104
  z77 := Yba.sizeOf104
  v77 := Yba.zeroValue104 }
end Go.Proofs
