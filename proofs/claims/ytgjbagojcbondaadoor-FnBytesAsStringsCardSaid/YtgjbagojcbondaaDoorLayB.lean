/-
  The numbers of the sort of this program: the library contract laid, in plain words (printed by the kit). No condition.
-/
import Derived.Shelf.Spec.RuneCount
import Derived.Shelf.Spec.DecodeRune
import Derived.Test.YtgjbagojcbondaaDoorProg
namespace Go.Proofs
open Go.Shelf
def Tryd.rc_ren : Go.Shelf.Ren := ⟨fun | 31 => 22 | 48 => 26 | n => n, fun | 30 => 34 | 3 => 3 | 4 => 4 | 0 => 0 | 5 => 5 | 9 => 9 | n => n, fun | n => n⟩
theorem Tryd.rc : Go.Proofs.Lays7.n31 Tryd.prog Tryd.rc_ren := {
  mixed := by kernel_rfl
  f31 := Tryd.func22.trans (congrArg some (by kernel_rfl))
  f48 := Tryd.func26.trans (congrArg some (by kernel_rfl))
  t0 := Tryd.underlying0
  a0 := Tryd.isAgg0
  z0 := Tryd.sizeOf0
  v0 := Tryd.zeroValue0
  i0 := by kernel_rfl
  t3 := Tryd.underlying3
  a3 := Tryd.isAgg3
  z3 := Tryd.sizeOf3
  v3 := Tryd.zeroValue3
  i3 := by kernel_rfl
  t4 := Tryd.underlying4
  a4 := Tryd.isAgg4
  z4 := Tryd.sizeOf4
  v4 := Tryd.zeroValue4
  i4 := by kernel_rfl
  t5 := Tryd.underlying5
  a5 := Tryd.isAgg5
  z5 := Tryd.sizeOf5
  v5 := Tryd.zeroValue5
  i5 := by kernel_rfl
  t9 := Tryd.underlying9
  a9 := Tryd.isAgg9
  z9 := Tryd.sizeOf9
  v9 := Tryd.zeroValue9
  i9 := by kernel_rfl
  t30 := Tryd.underlying34
  a30 := Tryd.isAgg34
  z30 := Tryd.sizeOf34
  v30 := Tryd.zeroValue34
  i30 := by kernel_rfl }
def Tryd.dr_ren : Go.Shelf.Ren := ⟨fun | 32 => 23 | 49 => 27 | n => n, fun | 30 => 34 | 21 => 21 | 3 => 3 | 0 => 0 | 5 => 5 | 4 => 4 | 33 => 51 | 66 => 67 | 25 => 37 | 69 => 70 | 68 => 69 | n => n, fun | 2 => 0 | 3 => 1 | n => n⟩
theorem Tryd.dr : Go.Proofs.Lays7.n32 Tryd.prog Tryd.dr_ren := {
  mixed := by kernel_rfl
  f32 := Tryd.func23.trans (congrArg some (by kernel_rfl))
  f49 := Tryd.func27.trans (congrArg some (by kernel_rfl))
  t0 := Tryd.underlying0
  a0 := Tryd.isAgg0
  z0 := Tryd.sizeOf0
  v0 := Tryd.zeroValue0
  i0 := by kernel_rfl
  t3 := Tryd.underlying3
  a3 := Tryd.isAgg3
  z3 := Tryd.sizeOf3
  v3 := Tryd.zeroValue3
  i3 := by kernel_rfl
  t4 := Tryd.underlying4
  a4 := Tryd.isAgg4
  z4 := Tryd.sizeOf4
  v4 := Tryd.zeroValue4
  i4 := by kernel_rfl
  t5 := Tryd.underlying5
  a5 := Tryd.isAgg5
  z5 := Tryd.sizeOf5
  v5 := Tryd.zeroValue5
  i5 := by kernel_rfl
  t21 := Tryd.underlying21
  a21 := Tryd.isAgg21
  z21 := Tryd.sizeOf21
  v21 := Tryd.zeroValue21
  i21 := by kernel_rfl
  t25 := Tryd.underlying37
  a25 := Tryd.isAgg37
  z25 := Tryd.sizeOf37
  v25 := Tryd.zeroValue37
  i25 := by kernel_rfl
  t30 := Tryd.underlying34
  a30 := Tryd.isAgg34
  z30 := Tryd.sizeOf34
  v30 := Tryd.zeroValue34
  i30 := by kernel_rfl
  t33 := Tryd.underlying51
  a33 := Tryd.isAgg51
  z33 := Tryd.sizeOf51
  v33 := Tryd.zeroValue51
  i33 := by kernel_rfl
  t66 := Tryd.underlying67
  a66 := Tryd.isAgg67
  z66 := Tryd.sizeOf67
  t68 := Tryd.underlying69
  a68 := Tryd.isAgg69
  z68 := Tryd.sizeOf69
  v68 := Tryd.zeroValue69
  i68 := by kernel_rfl
  t69 := Tryd.underlying70
  a69 := Tryd.isAgg70
  z69 := Tryd.sizeOf70
  v69 := Tryd.zeroValue70
  i69 := by kernel_rfl
  g2 := by kernel_rfl
  g3 := by kernel_rfl }
end Go.Proofs
