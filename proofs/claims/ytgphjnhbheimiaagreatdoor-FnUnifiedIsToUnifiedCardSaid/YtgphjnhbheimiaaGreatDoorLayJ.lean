/-
  The numbers of the sort of this program: the library contract laid, in plain words (printed by the kit). No condition.
-/
import Derived.Shelf.Strings.OnBuilder
import Derived.Test.YtgphjnhbheimiaaGreatDoorProg
namespace Go.Proofs
open Go.Shelf
def Tryz.jn_ren : Go.Shelf.Ren := ⟨fun | 156 => 19 | 165 => 28 | 166 => 23 | 169 => 26 | 240 => 32 | 241 => 37 | 276 => 45 | 277 => 60 | n => n, fun | 31 => 48 | 9 => 9 | 3 => 3 | 4 => 4 | 0 => 0 | 20 => 20 | 72 => 70 | 76 => 71 | 70 => 67 | 37 => 68 | 75 => 32 | 127 => 82 | 164 => 96 | 5 => 5 | 80 => 44 | n => n, fun | n => n⟩
theorem Tryz.jn : Go.Proofs.Lays.n156 Tryz.prog Tryz.jn_ren := {
  mixed := by kernel_rfl
  f156 := Tryz.func19.trans (congrArg some (by kernel_rfl))
  f165 := Tryz.func28.trans (congrArg some (by kernel_rfl))
  f166 := Tryz.func23.trans (congrArg some (by kernel_rfl))
  f169 := Tryz.func26.trans (congrArg some (by kernel_rfl))
  f240 := Tryz.func32.trans (congrArg some (by kernel_rfl))
  f241 := Tryz.func37.trans (congrArg some (by kernel_rfl))
  f276 := Tryz.func45.trans (congrArg some (by kernel_rfl))
  f277 := Tryz.func60.trans (congrArg some (by kernel_rfl))
  t0 := Tryz.underlying0
  a0 := Tryz.isAgg0
  z0 := Tryz.sizeOf0
  v0 := Tryz.zeroValue0
  t3 := Tryz.underlying3
  a3 := Tryz.isAgg3
  z3 := Tryz.sizeOf3
  v3 := Tryz.zeroValue3
  t4 := Tryz.underlying4
  a4 := Tryz.isAgg4
  z4 := Tryz.sizeOf4
  v4 := Tryz.zeroValue4
  t9 := Tryz.underlying9
  a9 := Tryz.isAgg9
  z9 := Tryz.sizeOf9
  v9 := Tryz.zeroValue9
  t20 := Tryz.underlying20
  a20 := Tryz.isAgg20
  z20 := Tryz.sizeOf20
  v20 := Tryz.zeroValue20
  t31 := Tryz.underlying48
  a31 := Tryz.isAgg48
  z31 := Tryz.sizeOf48
  v31 := Tryz.zeroValue48
  t37 := Tryz.underlying68
  a37 := Tryz.isAgg68
  z37 := Tryz.sizeOf68
  v37 := Tryz.zeroValue68
  t70 := Tryz.underlying67
  a70 := Tryz.isAgg67
  z70 := Tryz.sizeOf67
  v70 := Tryz.zeroValue67
  t72 := Tryz.underlying70
  a72 := Tryz.isAgg70
  z72 := Tryz.sizeOf70
  v72 := Tryz.zeroValue70
  t75 := Tryz.underlying32
  a75 := Tryz.isAgg32
  z75 := Tryz.sizeOf32
  v75 := Tryz.zeroValue32
  t76 := Tryz.underlying71
  a76 := Tryz.isAgg71
  z76 := Tryz.sizeOf71
  v76 := Tryz.zeroValue71
  t127 := Tryz.underlying82
  a127 := Tryz.isAgg82
  z127 := Tryz.sizeOf82
  v127 := Tryz.zeroValue82
  t164 := Tryz.underlying96
  a164 := Tryz.isAgg96
  z164 := Tryz.sizeOf96
  v164 := Tryz.zeroValue96 }
end Go.Proofs
