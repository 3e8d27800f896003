/-
  The numbers of the sort of this program: the library contract laid, in plain words (printed by the kit). No condition.
-/
import Derived.Shelf.Spec.RuneCount
import Derived.Shelf.Spec.DecodeRune
import Derived.Test.YtgjbagojcbondaaGreatDoorProg
namespace Go.Proofs
open Go.Shelf
def Tryz.rc_ren : Go.Shelf.Ren := ⟨fun | 31 => 50 | 48 => 63 | n => n, fun | 30 => 41 | 3 => 3 | 4 => 4 | 0 => 0 | 5 => 5 | 9 => 9 | n => n, fun | n => n⟩
theorem Tryz.rc : Go.Proofs.Lays7.n31 Tryz.prog Tryz.rc_ren := {
  mixed := by kernel_rfl
  f31 := Tryz.func50.trans (congrArg some (by kernel_rfl))
  f48 := Tryz.func63.trans (congrArg some (by kernel_rfl))
  t0 := Tryz.underlying0
  a0 := Tryz.isAgg0
  z0 := Tryz.sizeOf0
  v0 := Tryz.zeroValue0
  i0 := by kernel_rfl
  t3 := Tryz.underlying3
  a3 := Tryz.isAgg3
  z3 := Tryz.sizeOf3
  v3 := Tryz.zeroValue3
  i3 := by kernel_rfl
  t4 := Tryz.underlying4
  a4 := Tryz.isAgg4
  z4 := Tryz.sizeOf4
  v4 := Tryz.zeroValue4
  i4 := by kernel_rfl
  t5 := Tryz.underlying5
  a5 := Tryz.isAgg5
  z5 := Tryz.sizeOf5
  v5 := Tryz.zeroValue5
  i5 := by kernel_rfl
  t9 := Tryz.underlying9
  a9 := Tryz.isAgg9
  z9 := Tryz.sizeOf9
  v9 := Tryz.zeroValue9
  i9 := by kernel_rfl
  t30 := Tryz.underlying41
  a30 := Tryz.isAgg41
  z30 := Tryz.sizeOf41
  v30 := Tryz.zeroValue41
  i30 := by kernel_rfl }
def Tryz.dr_ren : Go.Shelf.Ren := ⟨fun | 32 => 51 | 49 => 64 | n => n, fun | 30 => 41 | 21 => 21 | 3 => 3 | 0 => 0 | 5 => 5 | 4 => 4 | 33 => 84 | 66 => 129 | 25 => 63 | 69 => 132 | 68 => 131 | n => n, fun | 2 => 0 | 3 => 1 | n => n⟩
theorem Tryz.dr : Go.Proofs.Lays7.n32 Tryz.prog Tryz.dr_ren := {
  mixed := by kernel_rfl
  f32 := Tryz.func51.trans (congrArg some (by kernel_rfl))
  f49 := Tryz.func64.trans (congrArg some (by kernel_rfl))
  t0 := Tryz.underlying0
  a0 := Tryz.isAgg0
  z0 := Tryz.sizeOf0
  v0 := Tryz.zeroValue0
  i0 := by kernel_rfl
  t3 := Tryz.underlying3
  a3 := Tryz.isAgg3
  z3 := Tryz.sizeOf3
  v3 := Tryz.zeroValue3
  i3 := by kernel_rfl
  t4 := Tryz.underlying4
  a4 := Tryz.isAgg4
  z4 := Tryz.sizeOf4
  v4 := Tryz.zeroValue4
  i4 := by kernel_rfl
  t5 := Tryz.underlying5
  a5 := Tryz.isAgg5
  z5 := Tryz.sizeOf5
  v5 := Tryz.zeroValue5
  i5 := by kernel_rfl
  t21 := Tryz.underlying21
  a21 := Tryz.isAgg21
  z21 := Tryz.sizeOf21
  v21 := Tryz.zeroValue21
  i21 := by kernel_rfl
  t25 := Tryz.underlying63
  a25 := Tryz.isAgg63
  z25 := Tryz.sizeOf63
  v25 := Tryz.zeroValue63
  i25 := by kernel_rfl
  t30 := Tryz.underlying41
  a30 := Tryz.isAgg41
  z30 := Tryz.sizeOf41
  v30 := Tryz.zeroValue41
  i30 := by kernel_rfl
  t33 := Tryz.underlying84
  a33 := Tryz.isAgg84
  z33 := Tryz.sizeOf84
  v33 := Tryz.zeroValue84
  i33 := by kernel_rfl
  t66 := Tryz.underlying129
  a66 := Tryz.isAgg129
  z66 := Tryz.sizeOf129
  t68 := Tryz.underlying131
  a68 := Tryz.isAgg131
  z68 := Tryz.sizeOf131
  v68 := Tryz.zeroValue131
  i68 := by kernel_rfl
  t69 := Tryz.underlying132
  a69 := Tryz.isAgg132
  z69 := Tryz.sizeOf132
  v69 := Tryz.zeroValue132
  i69 := by kernel_rfl
  g2 := by kernel_rfl
  g3 := by kernel_rfl }
end Go.Proofs
