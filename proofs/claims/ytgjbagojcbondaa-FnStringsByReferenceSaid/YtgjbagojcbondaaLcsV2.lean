/-
  The walk of sort.Slice at a list of pieces (a named slice type): none or one, or more; the closure's contract is a premise. No condition but the length.
-/
import Derived.Test.YtgjbagojcbondaaLcsV0
import Derived.Test.YtgjbagojcbondaaLcsV1
import Derived.Test.YtgjbagojcbondaaLay
import Derived.Shelf.GgSortFunc.Tiny
import Derived.Shelf.SlSortFuncK.PdqK
namespace Go.Proofs.Ytgjbagojcbondaa
set_option linter.unusedVariables false
open Go.RowKit Go.Sort Go.Lib Go.Shelf

def rlPkg : String := "internal" ++ String.singleton (Char.ofNat 47) ++ "reflectlite"
noncomputable def tiT : TypeInfo := (Try.prog.info? 80).get (by kernel_rfl)
noncomputable def tiU : TypeInfo := (Try.prog.info? 79).get (by kernel_rfl)
noncomputable def tiE : TypeInfo := (Try.prog.info? 106).get (by kernel_rfl)
noncomputable def nmT : String := match tiT.desc with | .named nm _ => nm | _ => "none"
theorem tiT_eq : Try.prog.info? 80 = some tiT := by kernel_rfl
theorem tiU_eq : Try.prog.info? 79 = some tiU := by kernel_rfl
theorem tiE_eq : Try.prog.info? 106 = some tiE := by kernel_rfl
theorem tiT_desc : tiT.desc = .named nmT 79 := by kernel_rfl
theorem tiU_desc : tiU.desc = .slice 106 := by kernel_rfl
theorem tiT_und : Try.prog.underlying 80 = some (.slice 106) := by kernel_rfl
theorem tiT_pk : Try.prog.packed 80 = false := by kernel_rfl
theorem tiE_kind : ∀ w, (Extern.Rtype.kind 106).run Try.prog w = .ok 25 w := fun _ => by kernel_rfl
theorem tiE_agg : ∀ w, (isAgg 106).run Try.prog w = .ok true w := fun _ => by kernel_rfl

theorem gsz : Try.prog.globals.size = 1 := by kernel_rfl
/-- the world in which pdqsort_func is called -/
noncomputable def slW (p : Option Addr) (n c : Nat) (w : World) : World :=
  (w.alloc (.cells #[.slice p n c] 80)).alloc (.cells #[.pointer (some ⟨Try.prog.globals.size, 80, none⟩), .pointer (some ⟨w.heap.size, 0, none⟩), .int .u64 151] 121)
set_option maxRecDepth 100000 in
set_option maxHeartbeats 1000000 in
theorem slice_walk (p : Option Addr) (n c : Nat) (hn : n < 4611686018427387904) (f : Nat) (B : Array Value) (hs : ∀ w, (Extern.ReflectliteSwapper.swapper rlPkg (Extern.ReflectliteValue.valueError "Swapper") #[.iface 80 (.slice p n c)]).run Try.prog w = .ok (.func (.func f) #[] B) w)
    (lf : Fn) (la lb : Array Value) (w : World) (R : World → Prop)
    (hp : Calls Try.prog 77 #[.agg #[.func lf la lb, .func (.func f) #[] B], .int .i64 0, .int .i64 n, .int .i64 (Lib.bitLen n)] (slW p n c w) fun e w' => e = .returned (.tuple #[]) ∧ R w') :
    Calls Try.prog 66 #[.iface 80 (.slice p n c), .func lf la lb] w fun e w' => e = .returned (.tuple #[]) ∧ R w' := by
  have hv := nm_valueOf (P := Try.prog) tiT_eq tiT_desc tiU_eq tiU_desc p n c w
  have hl := fun a w ha => nm_valueLen (P := Try.prog) tiT_eq tiT_desc tiU_eq tiU_desc tiT_und tiT_pk a p n c w ha
  have hb : ∀ w, Calls Try.prog 76 #[.int .u64 (n : Int)] w fun e w' => e = .returned (.int .i64 (Lib.bitLen n : Nat)) ∧ w' = w := fun w => by
    have := Any.bits_Len (LaysGg.n13.bits (P := Try.prog) (ρ := Try.sv6_ren) { Try.sv6 with }) (n : Int) w (by omega) (by omega)
    exact this
  unfold slW at hp
  simp only [typeHandle, gsz] at hv hl hp
  have wr : IntKind.u64.wrap (n : Int) = n := by simp [IntKind.wrap, IntKind.bits, IntKind.signed]; omega
  go_enter Try.func66, Try.ntmps66
  go_wp2
  rw [run_callFunc_extern Try.func73 (by kernel_rfl) (by kernel_rfl) (by kernel_rfl) (e := fun args => Extern.ReflectliteValue.unpack (args.getD 0 (.tuple #[]))) (by kernel_rfl),
    show Sem.run Try.prog ((fun args : Array Value => Extern.ReflectliteValue.unpack (args.getD 0 (.tuple #[]))) #[.iface 80 (.slice p n c)]) w = _ from hv]
  simp only [Result.andThen]
  rw [Oper.upon_value]
  go_wp2
  rw [run_callFunc_extern Try.func74 (by kernel_rfl) (by kernel_rfl) (by kernel_rfl) (e := Extern.ReflectliteSwapper.swapper rlPkg (Extern.ReflectliteValue.valueError "Swapper")) (by kernel_rfl), hs]
  simp only [Result.andThen]
  rw [Oper.upon_value]
  go_wp2
  rw [run_callFunc_extern Try.func75 (by kernel_rfl) (by kernel_rfl) (by kernel_rfl) (e := Extern.ReflectliteValue.method (Extern.ReflectliteValue.valueError "reflectlite.Value.Len" 0) Extern.ReflectliteValue.len) (by kernel_rfl),
    hl _ _ (by simp)]
  simp only [Result.andThen]
  rw [Oper.upon_value]
  go_wp2_with (fail)
  refine (hb _).mono ?_
  rintro e w' ⟨rfl, rfl⟩
  go_wp2_with (fail)
  refine hp.mono ?_
  rintro e w' ⟨rfl, hR⟩
  go_wp2
  go_end0
  exact ⟨rfl, hR⟩
end Go.Proofs.Ytgjbagojcbondaa
