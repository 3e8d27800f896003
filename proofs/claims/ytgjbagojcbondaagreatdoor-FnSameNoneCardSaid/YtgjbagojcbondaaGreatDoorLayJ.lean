/-
  The numbers of the sort of this program: the library contract laid, in plain words (printed by the kit). No condition.
-/
import Derived.Shelf.Strings.OnBuilder
import Derived.Test.YtgjbagojcbondaaGreatDoorProg
namespace Go.Proofs
open Go.Shelf
def Tryz.jn_ren : Go.Shelf.Ren := ⟨fun | 156 => 43 | 165 => 53 | 166 => 54 | 169 => 55 | 240 => 67 | 241 => 68 | 276 => 90 | 277 => 91 | n => n, fun | 31 => 65 | 9 => 9 | 3 => 3 | 4 => 4 | 0 => 0 | 20 => 20 | 72 => 91 | 76 => 93 | 70 => 89 | 37 => 41 | 75 => 51 | 127 => 122 | 164 => 150 | 5 => 5 | 80 => 79 | n => n, fun | n => n⟩
theorem Tryz.jn : Go.Proofs.Lays.n156 Tryz.prog Tryz.jn_ren := {
  mixed := by kernel_rfl
  f156 := Tryz.func43.trans (congrArg some (by kernel_rfl))
  f165 := Tryz.func53.trans (congrArg some (by kernel_rfl))
  f166 := Tryz.func54.trans (congrArg some (by kernel_rfl))
  f169 := Tryz.func55.trans (congrArg some (by kernel_rfl))
  f240 := Tryz.func67.trans (congrArg some (by kernel_rfl))
  f241 := Tryz.func68.trans (congrArg some (by kernel_rfl))
  f276 := Tryz.func90.trans (congrArg some (by kernel_rfl))
  f277 := Tryz.func91.trans (congrArg some (by kernel_rfl))
  t0 := Tryz.underlying0
  a0 := Tryz.isAgg0
  z0 := Tryz.sizeOf0
  v0 := Tryz.zeroValue0
  t3 := Tryz.underlying3
  a3 := Tryz.isAgg3
  z3 := Tryz.sizeOf3
  v3 := Tryz.zeroValue3
  t4 := Tryz.underlying4
  a4 := Tryz.isAgg4
  z4 := Tryz.sizeOf4
  v4 := Tryz.zeroValue4
  t9 := Tryz.underlying9
  a9 := Tryz.isAgg9
  z9 := Tryz.sizeOf9
  v9 := Tryz.zeroValue9
  t20 := Tryz.underlying20
  a20 := Tryz.isAgg20
  z20 := Tryz.sizeOf20
  v20 := Tryz.zeroValue20
  t31 := Tryz.underlying65
  a31 := Tryz.isAgg65
  z31 := Tryz.sizeOf65
  v31 := Tryz.zeroValue65
  t37 := Tryz.underlying41
  a37 := Tryz.isAgg41
  z37 := Tryz.sizeOf41
  v37 := Tryz.zeroValue41
  t70 := Tryz.underlying89
  a70 := Tryz.isAgg89
  z70 := Tryz.sizeOf89
  v70 := Tryz.zeroValue89
  t72 := Tryz.underlying91
  a72 := Tryz.isAgg91
  z72 := Tryz.sizeOf91
  v72 := Tryz.zeroValue91
  t75 := Tryz.underlying51
  a75 := Tryz.isAgg51
  z75 := Tryz.sizeOf51
  v75 := Tryz.zeroValue51
  t76 := Tryz.underlying93
  a76 := Tryz.isAgg93
  z76 := Tryz.sizeOf93
  v76 := Tryz.zeroValue93
  t127 := Tryz.underlying122
  a127 := Tryz.isAgg122
  z127 := Tryz.sizeOf122
  v127 := Tryz.zeroValue122
  t164 := Tryz.underlying150
  a164 := Tryz.isAgg150
  z164 := Tryz.sizeOf150
  v164 := Tryz.zeroValue150 }
end Go.Proofs
