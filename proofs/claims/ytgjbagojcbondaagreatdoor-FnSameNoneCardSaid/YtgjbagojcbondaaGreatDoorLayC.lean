/-
  The numbers of the sort of this program: the library contract laid, in plain words (printed by the kit). No condition.
-/
import Derived.Shelf.Bytes.SlEqualAll
import Derived.Test.YtgjbagojcbondaaGreatDoorProg
namespace Go.Proofs
open Go.Shelf
def Tryz.be_ren : Go.Shelf.Ren := ⟨fun | 115 => 33 | n => n, fun | 37 => 41 | 4 => 4 | 9 => 9 | 5 => 5 | n => n, fun | n => n⟩
theorem Tryz.be : Go.Proofs.Lays.nb115 Tryz.prog Tryz.be_ren := {
  mixed := by kernel_rfl
  f115 := Tryz.func33.trans (congrArg some (by kernel_rfl))
  t4 := Tryz.underlying4
  a4 := Tryz.isAgg4
  z4 := Tryz.sizeOf4
  v4 := Tryz.zeroValue4
  t9 := Tryz.underlying9
  a9 := Tryz.isAgg9
  z9 := Tryz.sizeOf9
  v9 := Tryz.zeroValue9
  t37 := Tryz.underlying41
  a37 := Tryz.isAgg41
  z37 := Tryz.sizeOf41
  v37 := Tryz.zeroValue41
  t5 := Tryz.underlying5
  a5 := Tryz.isAgg5
  z5 := Tryz.sizeOf5
  v5 := Tryz.zeroValue5 }
end Go.Proofs
