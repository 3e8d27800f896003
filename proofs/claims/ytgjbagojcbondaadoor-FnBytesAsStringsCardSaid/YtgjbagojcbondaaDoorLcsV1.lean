/-
  The model's entries for reflectlite at a NAMED slice type: what sort.Slice's first three statements call; over any program. No condition but the types' rows.
-/
import Derived.Shelf.GgSortFunc.Slice
namespace Go.Proofs.YtgjbagojcbondaaDoor
set_option linter.unusedVariables false
open Go.Extern Go.Extern.Rtype Go.Lib
variable {P : Program}

section
variable {t u e : TypeId} {nm : String} {i iu : TypeInfo}
theorem nm_under (hi : P.info? t = some i) (hd : i.desc = .named nm u) (hiu : P.info? u = some iu) (w : World) : (under t).run P w = .ok (u, iu) w := by
  simp [under, rl_info t i hi, hd, rl_info u iu hiu, Result.andThen]
theorem nm_kind (hi : P.info? t = some i) (hd : i.desc = .named nm u) (hiu : P.info? u = some iu) (hdu : iu.desc = .slice e) (w : World) : (kind t).run P w = .ok 23 w := by
  simp [kind, nm_under hi hd hiu, hdu, Result.andThen]
theorem nm_valueOf (hi : P.info? t = some i) (hd : i.desc = .named nm u) (hiu : P.info? u = some iu) (hdu : iu.desc = .slice e) (p : Option Addr) (n c : Nat) (w : World) :
    (ReflectliteValue.unpack (.iface t (.slice p n c))).run P w = .ok (.agg #[typeHandle P t, .pointer (some ⟨w.heap.size, 0, none⟩), .int .u64 151]) (w.alloc (.cells #[.slice p n c] t)) := by
  simp [ReflectliteValue.unpack, ReflectliteValue.mk, newVar, newRow, handle, nm_kind hi hd hiu hdu, Result.andThen, Value.cells, ReflectliteValue.flagIndir]
theorem nm_valueLen (hi : P.info? t = some i) (hd : i.desc = .named nm u) (hiu : P.info? u = some iu) (hdu : iu.desc = .slice e) (hu : P.underlying t = some (.slice e)) (hpk : P.packed t = false) (a : Addr) (p : Option Addr) (n c : Nat) (w : World) (ha : w.cell? a = some (.slice p n c)) :
    (ReflectliteValue.method (ReflectliteValue.valueError "reflectlite.Value.Len" 0) ReflectliteValue.len #[.agg #[typeHandle P t, .pointer (some a), .int .u64 151]]).run P w = .ok (.int .i64 n) w := by
  rw [rl_method]
  simp only [Sem.run_bind, run_parts t a hpk w, Result.andThen]
  simp [ReflectliteValue.len, nm_under hi hd hiu, hdu, loadVar, isAgg, underlying, hu, ha, Builtin.len_, goInt, Result.andThen]
theorem nm_elem (hi : P.info? t = some i) (hd : i.desc = .named nm u) (hiu : P.info? u = some iu) (hdu : iu.desc = .slice e) (w : World) : (elem? t).run P w = .ok (some e) w := by
  simp [elem?, nm_under hi hd hiu, hdu, Result.andThen]
theorem nm_swapper {ie : TypeInfo} {pkg : String} (hi : P.info? t = some i) (hd : i.desc = .named nm u) (hiu : P.info? u = some iu) (hdu : iu.desc = .slice e) (hie : P.info? e = some ie) (ke : Nat) (hke : ∀ w, (kind e).run P w = .ok ke w)
    (p : Option Addr) (n c : Nat) (v : Value) (hf : ∀ w, (ReflectliteSwapper.literal pkg (swapperK n ie ke) (if swapperK n ie ke ≤ 2 then #[] else #[.slice p n c, typeHandle P e])).run P w = .ok v w) (w : World) :
    (ReflectliteSwapper.swapper pkg (ReflectliteValue.valueError "Swapper") #[.iface t (.slice p n c)]).run P w = .ok v w := by
  rw [rl_swapper]
  simp only [Sem.run_bind, nm_elem hi hd hiu hdu, Result.andThen, rl_info e ie hie, hke, handle, Sem.run_pure]
  exact hf w
end
end Go.Proofs.YtgjbagojcbondaaDoor
