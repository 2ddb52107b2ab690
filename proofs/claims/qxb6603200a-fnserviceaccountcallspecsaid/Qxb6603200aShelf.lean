/-
  Seat b6603200a: the shelf's structures for strings.LastIndex and strings.LastIndexByte laid at this dump (the kit's lay-plain tool wrote the fields).
-/
import Derived.Shelf.Lays
import Derived.Shelf.Strings.LastIndex
import Derived.Shelf.Strings.LastIndexAll
import Derived.Test.Qxb6603200aProg
namespace Go.Proofs
open Go.Shelf
def Try.lays148_ren : Go.Shelf.Ren := ⟨fun | 148 => 16 | 222 => 20 | 223 => 21 | 269 => 22 | n => n, fun | 9 => 9 | 3 => 3 | 4 => 4 | 5 => 5 | 146 => 44 | 51 => 43 | 46 => 46 | n => n, fun | n => n⟩
theorem Try.lays148 : Go.Proofs.Lays.n148 Try.prog Try.lays148_ren := {
  mixed := by kernel_rfl
  f148 := Try.func16.trans (congrArg some (by kernel_rfl))
  f222 := Try.func20.trans (congrArg some (by kernel_rfl))
  f223 := Try.func21.trans (congrArg some (by kernel_rfl))
  f269 := Try.func22.trans (congrArg some (by kernel_rfl))
  t3 := Try.underlying3
  a3 := Try.isAgg3
  z3 := Try.sizeOf3
  v3 := Try.zeroValue3
  t4 := Try.underlying4
  a4 := Try.isAgg4
  z4 := Try.sizeOf4
  v4 := Try.zeroValue4
  t5 := Try.underlying5
  a5 := Try.isAgg5
  z5 := Try.sizeOf5
  v5 := Try.zeroValue5
  t9 := Try.underlying9
  a9 := Try.isAgg9
  z9 := Try.sizeOf9
  v9 := Try.zeroValue9
  t46 := Try.underlying46
  a46 := Try.isAgg46
  z46 := Try.sizeOf46
  v46 := Try.zeroValue46
  t51 := Try.underlying43
  a51 := Try.isAgg43
  z51 := Try.sizeOf43
  v51 := Try.zeroValue43
  t146 := Try.underlying44
  a146 := Try.isAgg44
  z146 := Try.sizeOf44
  v146 := Try.zeroValue44 }
def Try.lays149_ren : Go.Shelf.Ren := ⟨fun | 149 => 17 | 222 => 20 | n => n, fun | 9 => 9 | 5 => 5 | 3 => 3 | 4 => 4 | n => n, fun | n => n⟩
theorem Try.lays149 : Go.Proofs.Lays.n149 Try.prog Try.lays149_ren := {
  mixed := by kernel_rfl
  f149 := Try.func17.trans (congrArg some (by kernel_rfl))
  f222 := Try.func20.trans (congrArg some (by kernel_rfl))
  t3 := Try.underlying3
  a3 := Try.isAgg3
  z3 := Try.sizeOf3
  v3 := Try.zeroValue3
  t4 := Try.underlying4
  a4 := Try.isAgg4
  z4 := Try.sizeOf4
  v4 := Try.zeroValue4
  t5 := Try.underlying5
  a5 := Try.isAgg5
  z5 := Try.sizeOf5
  v5 := Try.zeroValue5
  t9 := Try.underlying9
  a9 := Try.isAgg9
  z9 := Try.sizeOf9
  v9 := Try.zeroValue9 }
end Go.Proofs
