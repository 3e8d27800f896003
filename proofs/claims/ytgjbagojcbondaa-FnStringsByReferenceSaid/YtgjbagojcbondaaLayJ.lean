/-
  The numbers of the sort of this program: the library contract laid, in plain words (printed by the kit). No condition.
-/
import Derived.Shelf.Strings.OnBuilder
import Derived.Test.YtgjbagojcbondaaProg
namespace Go.Proofs
open Go.Shelf
def Try.jn_ren : Go.Shelf.Ren := ⟨fun | 156 => 31 | 165 => 36 | 166 => 37 | 169 => 38 | 240 => 42 | 241 => 43 | 276 => 57 | 277 => 58 | n => n, fun | 31 => 49 | 9 => 9 | 3 => 3 | 4 => 4 | 0 => 0 | 20 => 20 | 72 => 65 | 76 => 69 | 70 => 63 | 37 => 44 | 75 => 68 | 127 => 84 | 164 => 102 | 5 => 5 | 80 => 71 | n => n, fun | n => n⟩
theorem Try.jn : Go.Proofs.Lays.n156 Try.prog Try.jn_ren := {
  mixed := by kernel_rfl
  f156 := Try.func31.trans (congrArg some (by kernel_rfl))
  f165 := Try.func36.trans (congrArg some (by kernel_rfl))
  f166 := Try.func37.trans (congrArg some (by kernel_rfl))
  f169 := Try.func38.trans (congrArg some (by kernel_rfl))
  f240 := Try.func42.trans (congrArg some (by kernel_rfl))
  f241 := Try.func43.trans (congrArg some (by kernel_rfl))
  f276 := Try.func57.trans (congrArg some (by kernel_rfl))
  f277 := Try.func58.trans (congrArg some (by kernel_rfl))
  t0 := Try.underlying0
  a0 := Try.isAgg0
  z0 := Try.sizeOf0
  v0 := Try.zeroValue0
  t3 := Try.underlying3
  a3 := Try.isAgg3
  z3 := Try.sizeOf3
  v3 := Try.zeroValue3
  t4 := Try.underlying4
  a4 := Try.isAgg4
  z4 := Try.sizeOf4
  v4 := Try.zeroValue4
  t9 := Try.underlying9
  a9 := Try.isAgg9
  z9 := Try.sizeOf9
  v9 := Try.zeroValue9
  t20 := Try.underlying20
  a20 := Try.isAgg20
  z20 := Try.sizeOf20
  v20 := Try.zeroValue20
  t31 := Try.underlying49
  a31 := Try.isAgg49
  z31 := Try.sizeOf49
  v31 := Try.zeroValue49
  t37 := Try.underlying44
  a37 := Try.isAgg44
  z37 := Try.sizeOf44
  v37 := Try.zeroValue44
  t70 := Try.underlying63
  a70 := Try.isAgg63
  z70 := Try.sizeOf63
  v70 := Try.zeroValue63
  t72 := Try.underlying65
  a72 := Try.isAgg65
  z72 := Try.sizeOf65
  v72 := Try.zeroValue65
  t75 := Try.underlying68
  a75 := Try.isAgg68
  z75 := Try.sizeOf68
  v75 := Try.zeroValue68
  t76 := Try.underlying69
  a76 := Try.isAgg69
  z76 := Try.sizeOf69
  v76 := Try.zeroValue69
  t127 := Try.underlying84
  a127 := Try.isAgg84
  z127 := Try.sizeOf84
  v127 := Try.zeroValue84
  t164 := Try.underlying102
  a164 := Try.isAgg102
  z164 := Try.sizeOf102
  v164 := Try.zeroValue102 }
end Go.Proofs
