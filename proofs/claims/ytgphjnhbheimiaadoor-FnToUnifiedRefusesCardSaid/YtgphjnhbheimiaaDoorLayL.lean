/-
  The numbers of the sort of this program: the library contract laid, in plain words (printed by the kit). No condition.
-/
import Derived.Shelf.Strings.LastIndex
import Derived.Shelf.Small.Strs
import Derived.Test.YtgphjnhbheimiaaDoorProg
namespace Go.Proofs
open Go.Shelf
def Tryd.li_ren : Go.Shelf.Ren := ⟨fun | 148 => 37 | 222 => 42 | 223 => 43 | 269 => 50 | n => n, fun | 9 => 9 | 3 => 3 | 4 => 4 | 5 => 5 | 146 => 101 | 51 => 100 | 46 => 107 | n => n, fun | n => n⟩
theorem Tryd.li : Go.Proofs.Lays.n148 Tryd.prog Tryd.li_ren := {
  mixed := by kernel_rfl
  f148 := Tryd.func37.trans (congrArg some (by kernel_rfl))
  f222 := Tryd.func42.trans (congrArg some (by kernel_rfl))
  f223 := Tryd.func43.trans (congrArg some (by kernel_rfl))
  f269 := Tryd.func50.trans (congrArg some (by kernel_rfl))
  t3 := Tryd.underlying3
  a3 := Tryd.isAgg3
  z3 := Tryd.sizeOf3
  v3 := Tryd.zeroValue3
  t4 := Tryd.underlying4
  a4 := Tryd.isAgg4
  z4 := Tryd.sizeOf4
  v4 := Tryd.zeroValue4
  t5 := Tryd.underlying5
  a5 := Tryd.isAgg5
  z5 := Tryd.sizeOf5
  v5 := Tryd.zeroValue5
  t9 := Tryd.underlying9
  a9 := Tryd.isAgg9
  z9 := Tryd.sizeOf9
  v9 := Tryd.zeroValue9
  t46 := Tryd.underlying107
  a46 := Tryd.isAgg107
  z46 := Tryd.sizeOf107
  v46 := Tryd.zeroValue107
  t51 := Tryd.underlying100
  a51 := Tryd.isAgg100
  z51 := Tryd.sizeOf100
  v51 := Tryd.zeroValue100
  t146 := Tryd.underlying101
  a146 := Tryd.isAgg101
  z146 := Tryd.sizeOf101
  v146 := Tryd.zeroValue101 }
def Tryd.ib_ren : Go.Shelf.Ren := ⟨fun | 137 => 38 | 217 => 44 | 266 => 51 | n => n, fun | 9 => 9 | 5 => 5 | 3 => 3 | n => n, fun | n => n⟩
theorem Tryd.ib : Go.Proofs.Lays.n137 Tryd.prog Tryd.ib_ren := {
  mixed := by kernel_rfl
  f137 := Tryd.func38.trans (congrArg some (by kernel_rfl))
  f217 := Tryd.func44.trans (congrArg some (by kernel_rfl))
  f266 := Tryd.func51.trans (congrArg some (by kernel_rfl))
  t3 := Tryd.underlying3
  a3 := Tryd.isAgg3
  z3 := Tryd.sizeOf3
  v3 := Tryd.zeroValue3
  t5 := Tryd.underlying5
  a5 := Tryd.isAgg5
  z5 := Tryd.sizeOf5
  v5 := Tryd.zeroValue5
  t9 := Tryd.underlying9
  a9 := Tryd.isAgg9
  z9 := Tryd.sizeOf9
  v9 := Tryd.zeroValue9 }
end Go.Proofs
