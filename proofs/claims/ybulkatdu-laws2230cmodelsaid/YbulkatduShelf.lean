/-
  The shelf's contracts at this program, in plain words (the kit's tools lay-shelf and lay-plain wrote it; the remarks are struck).
-/
import Derived.Shelf.Small.Strs
import Derived.Shelf.Sort.Plain
import Derived.Shelf.Slices.In.SortNone
import Derived.Test.YbulkatduProg
namespace Go.Proofs
open Go.Shelf
def Yba.lays213_ren : Go.Shelf.Ren := ⟨fun | 213 => 19 | 265 => 31 | n => n, fun | 9 => 9 | 3 => 3 | n => n, fun | n => n⟩
theorem Yba.lays213 : Go.Proofs.Lays.n213 Yba.prog Yba.lays213_ren := {
  mixed := by kernel_rfl
  f213 := Yba.func19.trans (congrArg some (by kernel_rfl))
  f265 := Yba.func31.trans (congrArg some (by kernel_rfl))
  t3 := Yba.underlying3
  a3 := Yba.isAgg3
  z3 := Yba.sizeOf3
  v3 := Yba.zeroValue3
  t9 := Yba.underlying9
  a9 := Yba.isAgg9
  z9 := Yba.sizeOf9
  v9 := Yba.zeroValue9 }
open Go.RowKit in
theorem Yba.bytealg_CompareString (a b : ByteArray) (w : World) :
    Calls Yba.prog 19 #[.string a, .string b] w fun e w' => e = .returned (.int .i64 (Lib.compareBytes a.data.toList b.data.toList)) ∧ w' = w := Any.bytealg_CompareString Yba.lays213 a b w
def Yba.lays106_ren : Go.Shelf.Ren := ⟨fun | 106 => 16 | 213 => 19 | 265 => 31 | n => n, fun | 9 => 9 | 3 => 3 | n => n, fun | n => n⟩
theorem Yba.lays106 : Go.Proofs.Lays.n106 Yba.prog Yba.lays106_ren := {
  mixed := by kernel_rfl
  f106 := Yba.func16.trans (congrArg some (by kernel_rfl))
  f213 := Yba.func19.trans (congrArg some (by kernel_rfl))
  f265 := Yba.func31.trans (congrArg some (by kernel_rfl))
  t3 := Yba.underlying3
  a3 := Yba.isAgg3
  z3 := Yba.sizeOf3
  v3 := Yba.zeroValue3
  t9 := Yba.underlying9
  a9 := Yba.isAgg9
  z9 := Yba.sizeOf9
  v9 := Yba.zeroValue9 }
open Go.RowKit in
theorem Yba.strings_Compare (a b : ByteArray) (w : World) :
    Calls Yba.prog 16 #[.string a, .string b] w fun e w' => e = .returned (.int .i64 (Lib.compareBytes a.data.toList b.data.toList)) ∧ w' = w := Any.strings_Compare Yba.lays106 a b w
def Yba.lays190_ren : Go.Shelf.Ren := ⟨fun | 190 => 12 | 125 => 18 | 258 => 17 | 128 => 29 | 129 => 30 | 302 => 20 | 303 => 21 | 304 => 22 | 305 => 23 | 306 => 24 | 307 => 25 | 308 => 26 | 309 => 27 | 310 => 28 | 333 => 32 | 329 => 33 | 330 => 34 | 334 => 35 | 335 => 36 | 336 => 37 | 344 => 38 | n => n, fun | 31 => 25 | 9 => 9 | 3 => 3 | 46 => 28 | 0 => 0 | 51 => 61 | 53 => 63 | 4 => 4 | 183 => 54 | 182 => 53 | 131 => 46 | 5 => 5 | 218 => 64 | 222 => 68 | 228 => 71 | 229 => 72 | n => n, fun | n => n⟩
theorem Yba.lays190 : Go.Proofs.Lays.n190 Yba.prog Yba.lays190_ren := {
  mixed := by kernel_rfl
  f125 := Yba.func18.trans (congrArg some (by kernel_rfl))
  f128 := Yba.func29.trans (congrArg some (by kernel_rfl))
  f129 := Yba.func30.trans (congrArg some (by kernel_rfl))
  f190 := Yba.func12.trans (congrArg some (by kernel_rfl))
  f258 := Yba.func17.trans (congrArg some (by kernel_rfl))
  f302 := Yba.func20.trans (congrArg some (by kernel_rfl))
  f303 := Yba.func21.trans (congrArg some (by kernel_rfl))
  f304 := Yba.func22.trans (congrArg some (by kernel_rfl))
  f305 := Yba.func23.trans (congrArg some (by kernel_rfl))
  f306 := Yba.func24.trans (congrArg some (by kernel_rfl))
  f307 := Yba.func25.trans (congrArg some (by kernel_rfl))
  f308 := Yba.func26.trans (congrArg some (by kernel_rfl))
  f309 := Yba.func27.trans (congrArg some (by kernel_rfl))
  f310 := Yba.func28.trans (congrArg some (by kernel_rfl))
  f329 := Yba.func33.trans (congrArg some (by kernel_rfl))
  f330 := Yba.func34.trans (congrArg some (by kernel_rfl))
  f333 := Yba.func32.trans (congrArg some (by kernel_rfl))
  f334 := Yba.func35.trans (congrArg some (by kernel_rfl))
  f335 := Yba.func36.trans (congrArg some (by kernel_rfl))
  f336 := Yba.func37.trans (congrArg some (by kernel_rfl))
  f344 := Yba.func38.trans (congrArg some (by kernel_rfl))
  t0 := Yba.underlying0
  a0 := Yba.isAgg0
  z0 := Yba.sizeOf0
  v0 := Yba.zeroValue0
  t3 := Yba.underlying3
  a3 := Yba.isAgg3
  z3 := Yba.sizeOf3
  v3 := Yba.zeroValue3
  t4 := Yba.underlying4
  a4 := Yba.isAgg4
  z4 := Yba.sizeOf4
  v4 := Yba.zeroValue4
  t5 := Yba.underlying5
  a5 := Yba.isAgg5
  z5 := Yba.sizeOf5
  v5 := Yba.zeroValue5
  t9 := Yba.underlying9
  a9 := Yba.isAgg9
  z9 := Yba.sizeOf9
  v9 := Yba.zeroValue9
  t31 := Yba.underlying25
  a31 := Yba.isAgg25
  z31 := Yba.sizeOf25
  v31 := Yba.zeroValue25
  t46 := Yba.underlying28
  a46 := Yba.isAgg28
  z46 := Yba.sizeOf28
  v46 := Yba.zeroValue28
  t51 := Yba.underlying61
  a51 := Yba.isAgg61
  z51 := Yba.sizeOf61
  v51 := Yba.zeroValue61
  t53 := Yba.underlying63
  a53 := Yba.isAgg63
  z53 := Yba.sizeOf63
  v53 := Yba.zeroValue63
  t131 := Yba.underlying46
  a131 := Yba.isAgg46
  z131 := Yba.sizeOf46
  v131 := Yba.zeroValue46
  t182 := Yba.underlying53
  a182 := Yba.isAgg53
  z182 := Yba.sizeOf53
  v182 := Yba.zeroValue53
  t183 := Yba.underlying54
  a183 := Yba.isAgg54
  z183 := Yba.sizeOf54
  v183 := Yba.zeroValue54
  t218 := Yba.underlying64
  a218 := Yba.isAgg64
  z218 := Yba.sizeOf64
  v218 := Yba.zeroValue64
  t222 := Yba.underlying68
  a222 := Yba.isAgg68
  z222 := Yba.sizeOf68
  v222 := Yba.zeroValue68
  t228 := Yba.underlying71
  a228 := Yba.isAgg71
  z228 := Yba.sizeOf71
  v228 := Yba.zeroValue71
  t229 := Yba.underlying72
  a229 := Yba.isAgg72
  z229 := Yba.sizeOf72
  v229 := Yba.zeroValue72 }
open Go.Sort Go.RowKit in
theorem Yba.slices_Sort_string (blk off cap : Nat) (ss : List (List UInt8)) (w : World) (hH : Holds encStr w blk off ss.toArray) (hblk : blk < w.heap.size) (hsz : ss.length < 4611686018427387904) :
    Calls Yba.prog 12 #[.slice (some ⟨blk, off, none⟩) ss.length cap] w fun e w' =>
      e = .returned (.tuple #[]) ∧ ∃ n os, w' = grow (putRow encStr (Sort.ahead w n) blk off (ss.mergeSort fun x y => decide (x ≤ y)).toArray) os := Any.slices_Sort_string Yba.lays190 blk off cap ss w hH hblk hsz
open Go.RowKit Go.Sort in
theorem Yba.slices_Sort_string_none (p : Option Addr) (cap : Nat) (w : World) :
    Calls Yba.prog 12 #[.slice p 0 cap] w fun e w' => e = .returned (.tuple #[]) ∧ w' = w := Any.slices_Sort_string_none Yba.lays190 p cap w
end Go.Proofs
