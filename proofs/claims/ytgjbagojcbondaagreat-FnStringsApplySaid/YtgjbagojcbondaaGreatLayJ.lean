/-
  The numbers of the sort of this program: the library contract laid, in plain words (printed by the kit). No condition.
-/
import Derived.Shelf.Strings.OnBuilder
import Derived.Test.YtgjbagojcbondaaGreatProg
namespace Go.Proofs
open Go.Shelf
def Tryz.jn_ren : Go.Shelf.Ren := ⟨fun | 156 => 29 | 165 => 39 | 166 => 40 | 169 => 41 | 240 => 46 | 241 => 47 | 276 => 62 | 277 => 63 | n => n, fun | 31 => 58 | 9 => 9 | 3 => 3 | 4 => 4 | 0 => 0 | 20 => 20 | 72 => 81 | 76 => 83 | 70 => 79 | 37 => 52 | 75 => 37 | 127 => 106 | 164 => 125 | 5 => 5 | 80 => 85 | n => n, fun | n => n⟩
theorem Tryz.jn : Go.Proofs.Lays.n156 Tryz.prog Tryz.jn_ren := {
  mixed := by kernel_rfl
  f156 := Tryz.func29.trans (congrArg some (by kernel_rfl))
  f165 := Tryz.func39.trans (congrArg some (by kernel_rfl))
  f166 := Tryz.func40.trans (congrArg some (by kernel_rfl))
  f169 := Tryz.func41.trans (congrArg some (by kernel_rfl))
  f240 := Tryz.func46.trans (congrArg some (by kernel_rfl))
  f241 := Tryz.func47.trans (congrArg some (by kernel_rfl))
  f276 := Tryz.func62.trans (congrArg some (by kernel_rfl))
  f277 := Tryz.func63.trans (congrArg some (by kernel_rfl))
  t0 := Tryz.underlying0
  a0 := Tryz.isAgg0
  z0 := Tryz.sizeOf0
  v0 := Tryz.zeroValue0
  t3 := Tryz.underlying3
  a3 := Tryz.isAgg3
  z3 := Tryz.sizeOf3
  v3 := Tryz.zeroValue3
  t4 := Tryz.underlying4
  a4 := Tryz.isAgg4
  z4 := Tryz.sizeOf4
  v4 := Tryz.zeroValue4
  t9 := Tryz.underlying9
  a9 := Tryz.isAgg9
  z9 := Tryz.sizeOf9
  v9 := Tryz.zeroValue9
  t20 := Tryz.underlying20
  a20 := Tryz.isAgg20
  z20 := Tryz.sizeOf20
  v20 := Tryz.zeroValue20
  t31 := Tryz.underlying58
  a31 := Tryz.isAgg58
  z31 := Tryz.sizeOf58
  v31 := Tryz.zeroValue58
  t37 := Tryz.underlying52
  a37 := Tryz.isAgg52
  z37 := Tryz.sizeOf52
  v37 := Tryz.zeroValue52
  t70 := Tryz.underlying79
  a70 := Tryz.isAgg79
  z70 := Tryz.sizeOf79
  v70 := Tryz.zeroValue79
  t72 := Tryz.underlying81
  a72 := Tryz.isAgg81
  z72 := Tryz.sizeOf81
  v72 := Tryz.zeroValue81
  t75 := Tryz.underlying37
  a75 := Tryz.isAgg37
  z75 := Tryz.sizeOf37
  v75 := Tryz.zeroValue37
  t76 := Tryz.underlying83
  a76 := Tryz.isAgg83
  z76 := Tryz.sizeOf83
  v76 := Tryz.zeroValue83
  t127 := Tryz.underlying106
  a127 := Tryz.isAgg106
  z127 := Tryz.sizeOf106
  v127 := Tryz.zeroValue106
  t164 := Tryz.underlying125
  a164 := Tryz.isAgg125
  z164 := Tryz.sizeOf125
  v164 := Tryz.zeroValue125 }
end Go.Proofs
