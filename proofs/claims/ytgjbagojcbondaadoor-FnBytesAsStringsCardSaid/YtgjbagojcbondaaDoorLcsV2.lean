/-
  The walk of sort.Slice at a list of pieces (a named slice type): none or one, or more; the closure's contract is a premise. No condition but the length.
-/
import Derived.Test.YtgjbagojcbondaaDoorLcsV0
import Derived.Test.YtgjbagojcbondaaDoorLcsV1
import Derived.Test.YtgjbagojcbondaaDoorLay
import Derived.Shelf.GgSortFunc.Tiny
import Derived.Shelf.SlSortFuncK.PdqK
namespace Go.Proofs.YtgjbagojcbondaaDoor
set_option linter.unusedVariables false
open Go.RowKit Go.Sort Go.Lib Go.Shelf

def rlPkg : String := "internal" ++ String.singleton (Char.ofNat 47) ++ "reflectlite"
noncomputable def tiT : TypeInfo := (Tryd.prog.info? 63).get (by kernel_rfl)
noncomputable def tiU : TypeInfo := (Tryd.prog.info? 62).get (by kernel_rfl)
noncomputable def tiE : TypeInfo := (Tryd.prog.info? 89).get (by kernel_rfl)
noncomputable def nmT : String := match tiT.desc with | .named nm _ => nm | _ => "none"
theorem tiT_eq : Tryd.prog.info? 63 = some tiT := by kernel_rfl
theorem tiU_eq : Tryd.prog.info? 62 = some tiU := by kernel_rfl
theorem tiE_eq : Tryd.prog.info? 89 = some tiE := by kernel_rfl
theorem tiT_desc : tiT.desc = .named nmT 62 := by kernel_rfl
theorem tiU_desc : tiU.desc = .slice 89 := by kernel_rfl
theorem tiT_und : Tryd.prog.underlying 63 = some (.slice 89) := by kernel_rfl
theorem tiT_pk : Tryd.prog.packed 63 = false := by kernel_rfl
theorem tiE_kind : ∀ w, (Extern.Rtype.kind 89).run Tryd.prog w = .ok 25 w := fun _ => by kernel_rfl
theorem tiE_agg : ∀ w, (isAgg 89).run Tryd.prog w = .ok true w := fun _ => by kernel_rfl

theorem gsz : Tryd.prog.globals.size = 2 := by kernel_rfl
/-- the world in which pdqsort_func is called -/
noncomputable def slW (p : Option Addr) (n c : Nat) (w : World) : World :=
  (w.alloc (.cells #[.slice p n c] 63)).alloc (.cells #[.pointer (some ⟨Tryd.prog.globals.size, 63, none⟩), .pointer (some ⟨w.heap.size, 0, none⟩), .int .u64 151] 105)
set_option maxRecDepth 100000 in
set_option maxHeartbeats 1000000 in
theorem slice_walk (p : Option Addr) (n c : Nat) (hn : n < 4611686018427387904) (f : Nat) (B : Array Value) (hs : ∀ w, (Extern.ReflectliteSwapper.swapper rlPkg (Extern.ReflectliteValue.valueError "Swapper") #[.iface 63 (.slice p n c)]).run Tryd.prog w = .ok (.func (.func f) #[] B) w)
    (lf : Fn) (la lb : Array Value) (w : World) (R : World → Prop)
    (hp : Calls Tryd.prog 61 #[.agg #[.func lf la lb, .func (.func f) #[] B], .int .i64 0, .int .i64 n, .int .i64 (Lib.bitLen n)] (slW p n c w) fun e w' => e = .returned (.tuple #[]) ∧ R w') :
    Calls Tryd.prog 50 #[.iface 63 (.slice p n c), .func lf la lb] w fun e w' => e = .returned (.tuple #[]) ∧ R w' := by
  have hv := nm_valueOf (P := Tryd.prog) tiT_eq tiT_desc tiU_eq tiU_desc p n c w
  have hl := fun a w ha => nm_valueLen (P := Tryd.prog) tiT_eq tiT_desc tiU_eq tiU_desc tiT_und tiT_pk a p n c w ha
  have hb : ∀ w, Calls Tryd.prog 60 #[.int .u64 (n : Int)] w fun e w' => e = .returned (.int .i64 (Lib.bitLen n : Nat)) ∧ w' = w := fun w => by
    have := Any.bits_Len (LaysGg.n13.bits (P := Tryd.prog) (ρ := Tryd.sv6_ren) { Tryd.sv6 with }) (n : Int) w (by omega) (by omega)
    exact this
  unfold slW at hp
  simp only [typeHandle, gsz] at hv hl hp
  have wr : IntKind.u64.wrap (n : Int) = n := by simp [IntKind.wrap, IntKind.bits, IntKind.signed]; omega
  go_enter Tryd.func50, Tryd.ntmps50
  go_wp2
  rw [run_callFunc_extern Tryd.func57 (by kernel_rfl) (by kernel_rfl) (by kernel_rfl) (e := fun args => Extern.ReflectliteValue.unpack (args.getD 0 (.tuple #[]))) (by kernel_rfl),
    show Sem.run Tryd.prog ((fun args : Array Value => Extern.ReflectliteValue.unpack (args.getD 0 (.tuple #[]))) #[.iface 63 (.slice p n c)]) w = _ from hv]
  simp only [Result.andThen]
  rw [Oper.upon_value]
  go_wp2
  rw [run_callFunc_extern Tryd.func58 (by kernel_rfl) (by kernel_rfl) (by kernel_rfl) (e := Extern.ReflectliteSwapper.swapper rlPkg (Extern.ReflectliteValue.valueError "Swapper")) (by kernel_rfl), hs]
  simp only [Result.andThen]
  rw [Oper.upon_value]
  go_wp2
  rw [run_callFunc_extern Tryd.func59 (by kernel_rfl) (by kernel_rfl) (by kernel_rfl) (e := Extern.ReflectliteValue.method (Extern.ReflectliteValue.valueError "reflectlite.Value.Len" 0) Extern.ReflectliteValue.len) (by kernel_rfl),
    hl _ _ (by simp)]
  simp only [Result.andThen]
  rw [Oper.upon_value]
  go_wp2_with (fail)
  refine (hb _).mono ?_
  rintro e w' ⟨rfl, rfl⟩
  go_wp2_with (fail)
  refine hp.mono ?_
  rintro e w' ⟨rfl, hR⟩
  go_wp2
  go_end0
  exact ⟨rfl, hR⟩
end Go.Proofs.YtgjbagojcbondaaDoor
