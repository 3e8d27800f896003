/-
  The numbers of the sort of this program: the library contract laid, in plain words (printed by the kit). No condition.
-/
import Derived.Shelf.Bytes.SlEqualAll
import Derived.Test.YtgjbagojcbondaaDoorProg
namespace Go.Proofs
open Go.Shelf
def Tryd.be_ren : Go.Shelf.Ren := ⟨fun | 115 => 16 | n => n, fun | 37 => 34 | 4 => 4 | 9 => 9 | 5 => 5 | n => n, fun | n => n⟩
theorem Tryd.be : Go.Proofs.Lays.nb115 Tryd.prog Tryd.be_ren := {
  mixed := by kernel_rfl
  f115 := Tryd.func16.trans (congrArg some (by kernel_rfl))
  t4 := Tryd.underlying4
  a4 := Tryd.isAgg4
  z4 := Tryd.sizeOf4
  v4 := Tryd.zeroValue4
  t9 := Tryd.underlying9
  a9 := Tryd.isAgg9
  z9 := Tryd.sizeOf9
  v9 := Tryd.zeroValue9
  t37 := Tryd.underlying34
  a37 := Tryd.isAgg34
  z37 := Tryd.sizeOf34
  v37 := Tryd.zeroValue34
  t5 := Tryd.underlying5
  a5 := Tryd.isAgg5
  z5 := Tryd.sizeOf5
  v5 := Tryd.zeroValue5 }
end Go.Proofs
