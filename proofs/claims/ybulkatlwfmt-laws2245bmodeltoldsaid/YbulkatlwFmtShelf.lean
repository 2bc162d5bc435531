/-
  The contract of strings.HasSuffix at this program, in plain words (the kit's tools wrote it; the remarks are struck).
-/
import Derived.Shelf.Strings.Prefix
import Derived.Test.YbulkatlwFmtProg
namespace Go.Proofs
open Go.Shelf
def Ybaf.suf_ren : Go.Shelf.Ren := ⟨fun | 100 => 10 | 207 => 13 | n => n, fun | 9 => 9 | 4 => 4 | 3 => 3 | n => n, fun | n => n⟩
theorem Ybaf.suf : Go.Proofs.Lays.n100 Ybaf.prog Ybaf.suf_ren := {
  mixed := by kernel_rfl
  f100 := Ybaf.func10.trans (congrArg some (by kernel_rfl))
  f207 := Ybaf.func13.trans (congrArg some (by kernel_rfl))
  t3 := Ybaf.underlying3
  a3 := Ybaf.isAgg3
  z3 := Ybaf.sizeOf3
  v3 := Ybaf.zeroValue3
  t4 := Ybaf.underlying4
  a4 := Ybaf.isAgg4
  z4 := Ybaf.sizeOf4
  v4 := Ybaf.zeroValue4
  t9 := Ybaf.underlying9
  a9 := Ybaf.isAgg9
  z9 := Ybaf.sizeOf9
  v9 := Ybaf.zeroValue9 }
end Go.Proofs
