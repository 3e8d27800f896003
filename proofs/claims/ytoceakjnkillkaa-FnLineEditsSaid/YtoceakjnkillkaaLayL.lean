/-
  The numbers of the sort of this program: the library contract laid, in plain words (printed by the kit). No condition.
-/
import Derived.Shelf.Strings.LastIndex
import Derived.Shelf.Small.Strs
import Derived.Test.YtoceakjnkillkaaProg
namespace Go.Proofs
open Go.Shelf
def Try.li_ren : Go.Shelf.Ren := ⟨fun | 148 => 50 | 222 => 53 | 223 => 54 | 269 => 57 | n => n, fun | 9 => 9 | 3 => 3 | 4 => 4 | 5 => 5 | 146 => 91 | 51 => 90 | 46 => 89 | n => n, fun | n => n⟩
theorem Try.li : Go.Proofs.Lays.n148 Try.prog Try.li_ren := {
  mixed := by kernel_rfl
  f148 := Try.func50.trans (congrArg some (by kernel_rfl))
  f222 := Try.func53.trans (congrArg some (by kernel_rfl))
  f223 := Try.func54.trans (congrArg some (by kernel_rfl))
  f269 := Try.func57.trans (congrArg some (by kernel_rfl))
  t3 := Try.underlying3
  a3 := Try.isAgg3
  z3 := Try.sizeOf3
  v3 := Try.zeroValue3
  t4 := Try.underlying4
  a4 := Try.isAgg4
  z4 := Try.sizeOf4
  v4 := Try.zeroValue4
  t5 := Try.underlying5
  a5 := Try.isAgg5
  z5 := Try.sizeOf5
  v5 := Try.zeroValue5
  t9 := Try.underlying9
  a9 := Try.isAgg9
  z9 := Try.sizeOf9
  v9 := Try.zeroValue9
  t46 := Try.underlying89
  a46 := Try.isAgg89
  z46 := Try.sizeOf89
  v46 := Try.zeroValue89
  t51 := Try.underlying90
  a51 := Try.isAgg90
  z51 := Try.sizeOf90
  v51 := Try.zeroValue90
  t146 := Try.underlying91
  a146 := Try.isAgg91
  z146 := Try.sizeOf91
  v146 := Try.zeroValue91 }
def Try.ib_ren : Go.Shelf.Ren := ⟨fun | 137 => 51 | 217 => 55 | 266 => 58 | n => n, fun | 9 => 9 | 5 => 5 | 3 => 3 | n => n, fun | n => n⟩
theorem Try.ib : Go.Proofs.Lays.n137 Try.prog Try.ib_ren := {
  mixed := by kernel_rfl
  f137 := Try.func51.trans (congrArg some (by kernel_rfl))
  f217 := Try.func55.trans (congrArg some (by kernel_rfl))
  f266 := Try.func58.trans (congrArg some (by kernel_rfl))
  t3 := Try.underlying3
  a3 := Try.isAgg3
  z3 := Try.sizeOf3
  v3 := Try.zeroValue3
  t5 := Try.underlying5
  a5 := Try.isAgg5
  z5 := Try.sizeOf5
  v5 := Try.zeroValue5
  t9 := Try.underlying9
  a9 := Try.isAgg9
  z9 := Try.sizeOf9
  v9 := Try.zeroValue9 }
end Go.Proofs
