/-
  The numbers of the sort of this program: the library contract laid, in plain words (printed by the kit). No condition.
-/
import Derived.Shelf.Strings.LastIndex
import Derived.Shelf.Small.Strs
import Derived.Test.YtgphjnhbheimiaaGreatDoorProg
namespace Go.Proofs
open Go.Shelf
def Tryz.li_ren : Go.Shelf.Ren := ⟨fun | 148 => 43 | 222 => 62 | 223 => 63 | 269 => 81 | n => n, fun | 9 => 9 | 3 => 3 | 4 => 4 | 5 => 5 | 146 => 140 | 51 => 139 | 46 => 147 | n => n, fun | n => n⟩
theorem Tryz.li : Go.Proofs.Lays.n148 Tryz.prog Tryz.li_ren := {
  mixed := by kernel_rfl
  f148 := Tryz.func43.trans (congrArg some (by kernel_rfl))
  f222 := Tryz.func62.trans (congrArg some (by kernel_rfl))
  f223 := Tryz.func63.trans (congrArg some (by kernel_rfl))
  f269 := Tryz.func81.trans (congrArg some (by kernel_rfl))
  t3 := Tryz.underlying3
  a3 := Tryz.isAgg3
  z3 := Tryz.sizeOf3
  v3 := Tryz.zeroValue3
  t4 := Tryz.underlying4
  a4 := Tryz.isAgg4
  z4 := Tryz.sizeOf4
  v4 := Tryz.zeroValue4
  t5 := Tryz.underlying5
  a5 := Tryz.isAgg5
  z5 := Tryz.sizeOf5
  v5 := Tryz.zeroValue5
  t9 := Tryz.underlying9
  a9 := Tryz.isAgg9
  z9 := Tryz.sizeOf9
  v9 := Tryz.zeroValue9
  t46 := Tryz.underlying147
  a46 := Tryz.isAgg147
  z46 := Tryz.sizeOf147
  v46 := Tryz.zeroValue147
  t51 := Tryz.underlying139
  a51 := Tryz.isAgg139
  z51 := Tryz.sizeOf139
  v51 := Tryz.zeroValue139
  t146 := Tryz.underlying140
  a146 := Tryz.isAgg140
  z146 := Tryz.sizeOf140
  v146 := Tryz.zeroValue140 }
def Tryz.ib_ren : Go.Shelf.Ren := ⟨fun | 137 => 44 | 217 => 64 | 266 => 82 | n => n, fun | 9 => 9 | 5 => 5 | 3 => 3 | n => n, fun | n => n⟩
theorem Tryz.ib : Go.Proofs.Lays.n137 Tryz.prog Tryz.ib_ren := {
  mixed := by kernel_rfl
  f137 := Tryz.func44.trans (congrArg some (by kernel_rfl))
  f217 := Tryz.func64.trans (congrArg some (by kernel_rfl))
  f266 := Tryz.func82.trans (congrArg some (by kernel_rfl))
  t3 := Tryz.underlying3
  a3 := Tryz.isAgg3
  z3 := Tryz.sizeOf3
  v3 := Tryz.zeroValue3
  t5 := Tryz.underlying5
  a5 := Tryz.isAgg5
  z5 := Tryz.sizeOf5
  v5 := Tryz.zeroValue5
  t9 := Tryz.underlying9
  a9 := Tryz.isAgg9
  z9 := Tryz.sizeOf9
  v9 := Tryz.zeroValue9 }
end Go.Proofs
