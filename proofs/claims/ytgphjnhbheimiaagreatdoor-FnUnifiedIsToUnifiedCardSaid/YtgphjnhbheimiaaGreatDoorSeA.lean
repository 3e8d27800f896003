/-
  The model's entries for reflectlite at a NAMED slice type: what sort.Slice's first three statements call; over any program. No condition but the types' rows.
  The walk of sort.Slice at a list of pieces (a named slice type): none or one, or more; the closure's contract is a premise. No condition but the length.
  sort.Slice at a list of pieces: a permutation, sorted; the walks of (lcs).sort and of its closure. No condition but the length.
  The walks of (lcs).sort and of the two closures. No condition but the length.
-/
import Derived.Shelf.GgSortFunc.Slice
import Derived.Test.YtgphjnhbheimiaaGreatDoorLcsV0
import Derived.Test.YtgphjnhbheimiaaGreatDoorLay
import Derived.Shelf.GgSortFunc.Tiny
import Derived.Shelf.SlSortFuncK.PdqK
import Derived.Deep.QuietTactic
import Derived.BigQuiet
namespace Go.Proofs.YtgphjnhbheimiaaGreatDoor
set_option linter.unusedVariables false
open Go.Extern Go.Extern.Rtype Go.Lib
variable {P : Program}

section
variable {t u e : TypeId} {nm : String} {i iu : TypeInfo}
theorem nm_under (hi : P.info? t = some i) (hd : i.desc = .named nm u) (hiu : P.info? u = some iu) (w : World) : (under t).run P w = .ok (u, iu) w := by
  simp [under, rl_info t i hi, hd, rl_info u iu hiu, Result.andThen]
theorem nm_kind (hi : P.info? t = some i) (hd : i.desc = .named nm u) (hiu : P.info? u = some iu) (hdu : iu.desc = .slice e) (w : World) : (kind t).run P w = .ok 23 w := by
  simp [kind, nm_under hi hd hiu, hdu, Result.andThen]
theorem nm_valueOf (hi : P.info? t = some i) (hd : i.desc = .named nm u) (hiu : P.info? u = some iu) (hdu : iu.desc = .slice e) (p : Option Addr) (n c : Nat) (w : World) :
    (ReflectliteValue.unpack (.iface t (.slice p n c))).run P w = .ok (.agg #[typeHandle P t, .pointer (some ⟨w.heap.size, 0, none⟩), .int .u64 151]) (w.alloc (.cells #[.slice p n c] t)) := by
  simp [ReflectliteValue.unpack, ReflectliteValue.mk, newVar, newRow, handle, nm_kind hi hd hiu hdu, Result.andThen, Value.cells, ReflectliteValue.flagIndir]
theorem nm_valueLen (hi : P.info? t = some i) (hd : i.desc = .named nm u) (hiu : P.info? u = some iu) (hdu : iu.desc = .slice e) (hu : P.underlying t = some (.slice e)) (hpk : P.packed t = false) (a : Addr) (p : Option Addr) (n c : Nat) (w : World) (ha : w.cell? a = some (.slice p n c)) :
    (ReflectliteValue.method (ReflectliteValue.valueError "reflectlite.Value.Len" 0) ReflectliteValue.len #[.agg #[typeHandle P t, .pointer (some a), .int .u64 151]]).run P w = .ok (.int .i64 n) w := by
  rw [rl_method]
  simp only [Sem.run_bind, run_parts t a hpk w, Result.andThen]
  simp [ReflectliteValue.len, nm_under hi hd hiu, hdu, loadVar, isAgg, underlying, hu, ha, Builtin.len_, goInt, Result.andThen]
theorem nm_elem (hi : P.info? t = some i) (hd : i.desc = .named nm u) (hiu : P.info? u = some iu) (hdu : iu.desc = .slice e) (w : World) : (elem? t).run P w = .ok (some e) w := by
  simp [elem?, nm_under hi hd hiu, hdu, Result.andThen]
theorem nm_swapper {ie : TypeInfo} {pkg : String} (hi : P.info? t = some i) (hd : i.desc = .named nm u) (hiu : P.info? u = some iu) (hdu : iu.desc = .slice e) (hie : P.info? e = some ie) (ke : Nat) (hke : ∀ w, (kind e).run P w = .ok ke w)
    (p : Option Addr) (n c : Nat) (v : Value) (hf : ∀ w, (ReflectliteSwapper.literal pkg (swapperK n ie ke) (if swapperK n ie ke ≤ 2 then #[] else #[.slice p n c, typeHandle P e])).run P w = .ok v w) (w : World) :
    (ReflectliteSwapper.swapper pkg (ReflectliteValue.valueError "Swapper") #[.iface t (.slice p n c)]).run P w = .ok v w := by
  rw [rl_swapper]
  simp only [Sem.run_bind, nm_elem hi hd hiu hdu, Result.andThen, rl_info e ie hie, hke, handle, Sem.run_pure]
  exact hf w
end
end Go.Proofs.YtgphjnhbheimiaaGreatDoor

namespace Go.Proofs.YtgphjnhbheimiaaGreatDoor
set_option linter.unusedVariables false
open Go.RowKit Go.Sort Go.Lib Go.Shelf

def rlPkg : String := "internal" ++ String.singleton (Char.ofNat 47) ++ "reflectlite"
noncomputable def tiT : TypeInfo := (Tryz.prog.info? 86).get (by kernel_rfl)
noncomputable def tiU : TypeInfo := (Tryz.prog.info? 85).get (by kernel_rfl)
noncomputable def tiE : TypeInfo := (Tryz.prog.info? 131).get (by kernel_rfl)
noncomputable def nmT : String := match tiT.desc with | .named nm _ => nm | _ => "none"
theorem tiT_eq : Tryz.prog.info? 86 = some tiT := by kernel_rfl
theorem tiU_eq : Tryz.prog.info? 85 = some tiU := by kernel_rfl
theorem tiE_eq : Tryz.prog.info? 131 = some tiE := by kernel_rfl
theorem tiT_desc : tiT.desc = .named nmT 85 := by kernel_rfl
theorem tiU_desc : tiU.desc = .slice 131 := by kernel_rfl
theorem tiT_und : Tryz.prog.underlying 86 = some (.slice 131) := by kernel_rfl
theorem tiT_pk : Tryz.prog.packed 86 = false := by kernel_rfl
theorem tiE_kind : ∀ w, (Extern.Rtype.kind 131).run Tryz.prog w = .ok 25 w := fun _ => by kernel_rfl
theorem tiE_agg : ∀ w, (isAgg 131).run Tryz.prog w = .ok true w := fun _ => by kernel_rfl

theorem gsz : Tryz.prog.globals.size = 4 := by kernel_rfl
/-- the world in which pdqsort_func is called -/
noncomputable def slW (p : Option Addr) (n c : Nat) (w : World) : World :=
  (w.alloc (.cells #[.slice p n c] 86)).alloc (.cells #[.pointer (some ⟨Tryz.prog.globals.size, 86, none⟩), .pointer (some ⟨w.heap.size, 0, none⟩), .int .u64 151] 156)
set_option maxRecDepth 100000 in
set_option maxHeartbeats 1000000 in
theorem slice_walk (p : Option Addr) (n c : Nat) (hn : n < 4611686018427387904) (f : Nat) (B : Array Value) (hs : ∀ w, (Extern.ReflectliteSwapper.swapper rlPkg (Extern.ReflectliteValue.valueError "Swapper") #[.iface 86 (.slice p n c)]).run Tryz.prog w = .ok (.func (.func f) #[] B) w)
    (lf : Fn) (la lb : Array Value) (w : World) (R : World → Prop)
    (hp : Calls Tryz.prog 95 #[.agg #[.func lf la lb, .func (.func f) #[] B], .int .i64 0, .int .i64 n, .int .i64 (Lib.bitLen n)] (slW p n c w) fun e w' => e = .returned (.tuple #[]) ∧ R w') :
    Calls Tryz.prog 76 #[.iface 86 (.slice p n c), .func lf la lb] w fun e w' => e = .returned (.tuple #[]) ∧ R w' := by
  have hv := nm_valueOf (P := Tryz.prog) tiT_eq tiT_desc tiU_eq tiU_desc p n c w
  have hl := fun a w ha => nm_valueLen (P := Tryz.prog) tiT_eq tiT_desc tiU_eq tiU_desc tiT_und tiT_pk a p n c w ha
  have hb : ∀ w, Calls Tryz.prog 94 #[.int .u64 (n : Int)] w fun e w' => e = .returned (.int .i64 (Lib.bitLen n : Nat)) ∧ w' = w := fun w => by
    have := Any.bits_Len (LaysGg.n13.bits (P := Tryz.prog) (ρ := Tryz.sv6_ren) { Tryz.sv6 with }) (n : Int) w (by omega) (by omega)
    exact this
  unfold slW at hp
  simp only [typeHandle, gsz] at hv hl hp
  have wr : IntKind.u64.wrap (n : Int) = n := by simp [IntKind.wrap, IntKind.bits, IntKind.signed]; omega
  go_enter Tryz.func76, Tryz.ntmps76
  go_wp2
  rw [run_callFunc_extern Tryz.func91 (by kernel_rfl) (by kernel_rfl) (by kernel_rfl) (e := fun args => Extern.ReflectliteValue.unpack (args.getD 0 (.tuple #[]))) (by kernel_rfl),
    show Sem.run Tryz.prog ((fun args : Array Value => Extern.ReflectliteValue.unpack (args.getD 0 (.tuple #[]))) #[.iface 86 (.slice p n c)]) w = _ from hv]
  simp only [Result.andThen]
  rw [Oper.upon_value]
  go_wp2
  rw [run_callFunc_extern Tryz.func92 (by kernel_rfl) (by kernel_rfl) (by kernel_rfl) (e := Extern.ReflectliteSwapper.swapper rlPkg (Extern.ReflectliteValue.valueError "Swapper")) (by kernel_rfl), hs]
  simp only [Result.andThen]
  rw [Oper.upon_value]
  go_wp2
  rw [run_callFunc_extern Tryz.func93 (by kernel_rfl) (by kernel_rfl) (by kernel_rfl) (e := Extern.ReflectliteValue.method (Extern.ReflectliteValue.valueError "reflectlite.Value.Len" 0) Extern.ReflectliteValue.len) (by kernel_rfl),
    hl _ _ (by simp)]
  simp only [Result.andThen]
  rw [Oper.upon_value]
  go_wp2_with (fail)
  refine (hb _).mono ?_
  rintro e w' ⟨rfl, rfl⟩
  go_wp2_with (fail)
  refine hp.mono ?_
  rintro e w' ⟨rfl, hR⟩
  go_wp2
  go_end0
  exact ⟨rfl, hR⟩
end Go.Proofs.YtgphjnhbheimiaaGreatDoor

namespace Go.Proofs.YtgphjnhbheimiaaGreatDoor
set_option linter.unusedVariables false
open Go.RowKit Go.Sort Go.Lib Go.Shelf

theorem swK (n : Nat) (h2 : 2 ≤ n) : swapperK n tiE 25 = 9 := by
  have a : tiE.hasPointers = false := by kernel_rfl
  have b : tiE.bytes = 24 := by kernel_rfl
  have c : (n == 0) = false := by simp; omega
  have d : (n == 1) = false := by simp; omega
  simp [swapperK, a, b, c, d]
theorem sw_more (p : Option Addr) (n c : Nat) (h2 : 2 ≤ n) (w : World) : (Extern.ReflectliteSwapper.swapper rlPkg (Extern.ReflectliteValue.valueError "Swapper") #[.iface 86 (.slice p n c)]).run Tryz.prog w = .ok (.func (.func 108) #[] #[.slice p n c, typeHandle Tryz.prog 131]) w := by
  refine nm_swapper tiT_eq tiT_desc tiU_eq tiU_desc tiE_eq 25 tiE_kind p n c _ (fun w => ?_) w
  rw [swK n h2]
  kernel_rfl
theorem sw_tiny (p : Option Addr) (n c : Nat) (h2 : n ≤ 1) : ∃ f, ∀ w, (Extern.ReflectliteSwapper.swapper rlPkg (Extern.ReflectliteValue.valueError "Swapper") #[.iface 86 (.slice p n c)]).run Tryz.prog w = .ok (.func (.func f) #[] #[]) w := by
  rcases (show n = 0 ∨ n = 1 by omega) with rfl | rfl
  · refine ⟨100, fun w => nm_swapper tiT_eq tiT_desc tiU_eq tiU_desc tiE_eq 25 tiE_kind p 0 c (.func (.func 100) #[] #[]) (fun w => ?_) w⟩
    have e : swapperK 0 tiE 25 = 1 := rfl
    rw [e]
    show (Extern.ReflectliteSwapper.literal rlPkg 1 #[]).run Tryz.prog w = _
    kernel_rfl
  · refine ⟨101, fun w => nm_swapper tiT_eq tiT_desc tiU_eq tiU_desc tiE_eq 25 tiE_kind p 1 c (.func (.func 101) #[] #[]) (fun w => ?_) w⟩
    have e : swapperK 1 tiE 25 = 2 := rfl
    rw [e]
    show (Extern.ReflectliteSwapper.literal rlPkg 2 #[]).run Tryz.prog w = _
    kernel_rfl
/-- what sort.Slice leaves -/
def SlOut (b0 : Nat) (lt : Pc → Pc → Bool) (v : Value) (ps : List Pc) (w : World) (e : Ending) (w' : World) : Prop :=
  e = .returned (.tuple #[]) ∧ ∃ us, us = srt lt ps ∧ us.Perm ps ∧ us.Pairwise (fun p q => lt q p = false) ∧ w'.ownsRow b0 131 3 v us.length (pcCells us) ∧ w.grownBy w' v.ownBlock
set_option maxRecDepth 100000 in
theorem slice_tiny {w : World} {b0 : Nat} {v : Value} {ps : List Pc} (lt : Pc → Pc → Bool) (hr : w.ownsRow b0 131 3 v ps.length (pcCells ps)) (h1 : ps.length ≤ 1) (lf : Fn) (la lb : Array Value) :
    Calls Tryz.prog 76 #[.iface 86 v, .func lf la lb] w (SlOut b0 lt v ps w) := by
  obtain ⟨A, c, rfl⟩ := own_form hr
  obtain ⟨f, hf⟩ := sw_tiny A ps.length c h1
  refine (slice_walk A ps.length c (by omega) f #[] hf lf la lb w (fun w' => ∃ us : List Pc, us = srt lt ps ∧ us.Perm ps ∧ us.Pairwise (fun p q => lt q p = false) ∧ w'.ownsRow b0 131 3 (.slice A ps.length c) us.length (pcCells us) ∧ w.grownBy w' (Value.slice A ps.length c).ownBlock) ?_).mono (fun e w' h => h)
  refine (show Calls Tryz.prog 95 _ _ _ from Any.pdqsort_func_tiny (P := Tryz.prog) (ρ := Tryz.sv6_ren) { Tryz.sv6 with } lf la lb f #[] ps.length h1 _ (slW A ps.length c w)).mono ?_
  rintro e w' ⟨rfl, rfl⟩
  refine ⟨rfl, ps, by unfold srt; rw [if_pos (by omega)], List.Perm.refl _, ?_, ?_, ?_⟩
  · match ps, h1 with
    | [], _ => exact List.Pairwise.nil
    | [x], _ => simp
  · exact (((hr.alloc _).alloc _).alloc _).alloc _
  · have hb := ((((Below.refl w.heap.size w).alloc (Nat.le_refl _) (.cells #[.slice A ps.length c] 86)).alloc (by simp) (.cells #[.pointer (some ⟨Tryz.prog.globals.size, 86, none⟩), .pointer (some ⟨w.heap.size, 0, none⟩), .int .u64 151] 156)).alloc (by simp; omega) (.cells #[.func lf la lb, .func (.func f) #[] #[]] (Tryz.sv6_ren.t 44))).alloc (by simp; omega) (.cells #[.func lf la lb, .func (.func f) #[] #[]] (Tryz.sv6_ren.t 44))
    exact ⟨hb.os, hb.tape, hb.output, hb.size, fun k hk _ => hb.block k hk⟩
set_option maxRecDepth 100000 in
theorem slice_more {w : World} {b0 blk c : Nat} {ps : List Pc} (lt : Pc → Pc → Bool) (hO : SWO lt) (hr : w.ownsRow b0 131 3 (.slice (some ⟨blk, 0, none⟩) ps.length c) ps.length (pcCells ps)) (h2 : 2 ≤ ps.length) (hl : ps.length ≤ 4000004) (g : Nat) (lb : Array Value)
    (eg : ∀ args w, (callFunc g args).run Tryz.prog w = .ok (.enter g args) w) (hless : LessReadsK Tryz.prog g lb Pc.cells 3 lt blk 0 ps.length w) :
    Calls Tryz.prog 76 #[.iface 86 (.slice (some ⟨blk, 0, none⟩) ps.length c), .func (.func g) #[] lb] w (SlOut b0 lt (.slice (some ⟨blk, 0, none⟩) ps.length c) ps w) := by
  have hH := row_holds hr
  obtain ⟨cur, _, hblk0, _⟩ := own_blk hr
  have hblk : blk < w.heap.size := (Array.getElem?_eq_some_iff.1 hblk0).1
  have hsz : ps.toArray.size = ps.length := by simp
  refine (slice_walk _ ps.length c (by omega) 108 _ (sw_more _ _ _ h2) (.func g) #[] lb w (fun w' => ∃ us : List Pc, us = srt lt ps ∧ us.Perm ps ∧ us.Pairwise (fun p q => lt q p = false) ∧ w'.ownsRow b0 131 3 (.slice (some ⟨blk, 0, none⟩) ps.length c) us.length (pcCells us) ∧ w.grownBy w' (Value.slice (some ⟨blk, 0, none⟩) ps.length c).ownBlock) ?_).mono (fun e w' h => h)
  have hW : slW (some ⟨blk, 0, none⟩) ps.length c w = grow w #[.cells #[.slice (some ⟨blk, 0, none⟩) ps.length c] 86, .cells #[.pointer (some ⟨Tryz.prog.globals.size, 86, none⟩), .pointer (some ⟨w.heap.size, 0, none⟩), .int .u64 151] 156] := by
    unfold slW; rw [alloc_eq_grow, alloc_eq_grow, grow_grow]; rfl
  rw [hW]
  generalize (#[.cells #[.slice (some ⟨blk, 0, none⟩) ps.length c] 86, .cells #[.pointer (some ⟨Tryz.prog.globals.size, 86, none⟩), .pointer (some ⟨w.heap.size, 0, none⟩), .int .u64 151] 156] : Array Obj) = os0
  have hlim : Lib.bitLen ps.length < 4611686018427387904 := Nat.lt_of_le_of_lt (Lib.bitLen_le ps.length 62 (by omega) (by omega)) (by omega)
  have hp := Any.pdqsort_func_cells_all (P := Tryz.prog) (ρ := Tryz.sv6_ren) { Tryz.sv6 with } Pc.cells 3 (fun _ => rfl) lt hO g lb 108 #[.slice (some ⟨blk, 0, none⟩) ps.length c, typeHandle Tryz.prog 131] eg (ps.length + 1) blk 0 0 ps.length (Lib.bitLen ps.length) ps.toArray (grow w os0) (by omega) (by rw [hsz]; exact hless.grow hblk os0)
    (by rw [hsz]; exact swapSwapsK_of_literal false 108 (fun args W => run_callFunc_extern Tryz.func108 (by kernel_rfl) (by kernel_rfl) (by kernel_rfl) (e := Extern.ReflectliteSwapper.swap false) (by kernel_rfl) args W) 131 tiE tiE_eq Pc.cells 3 (fun _ => rfl) (by kernel_rfl) tiE_agg (fun x v hv => by simp [Pc.cells] at hv; rcases hv with rfl | rfl | rfl <;> rfl) blk 0 ps.length c)
    (holdsK_grow Pc.cells 3 w _ blk 0 ps.toArray hblk hH) (by rw [size_grow]; omega) (Nat.zero_le _) (by rw [hsz]; exact Nat.le_refl _) (by rw [hsz]; omega) hlim (Or.inl rfl)
  refine (show Calls Tryz.prog 95 _ _ _ from hp).mono ?_
  rintro e w' ⟨rfl, n, os, rfl⟩
  have h := pdq_sorts lt hO ps.toArray 0 ps.toArray.size (Lib.bitLen ps.length) true true (Nat.zero_le _) (Nat.le_refl _) (Or.inl rfl)
  rw [hsz] at h
  have hpm := perm_list (by rw [hsz]; exact h.1)
  have hst := sorted_list (lt := lt) (d' := pdq lt ps.toArray 0 ps.length (Lib.bitLen ps.length) true true) (by rw [hpm.1]; exact h.2)
  rw [ahead_grow, putRowK_grow Pc.cells 3 (Sort.ahead w n) _ blk 0 _ hblk, grow_grow]
  have hb := row_back (n := n) (os := os0 ++ os) hr hpm.1
  refine ⟨rfl, _, ?_, hpm.2, hst, hb.1, hb.2⟩
  unfold srt
  rw [if_neg (by omega)]
end Go.Proofs.YtgphjnhbheimiaaGreatDoor

namespace Go.Proofs.YtgphjnhbheimiaaGreatDoor
set_option linter.unusedVariables false
open Go.RowKit Go.Sort Go.Lib Go.Shelf

set_option maxHeartbeats 1000000 in
set_option maxRecDepth 100000 in
theorem lessL_any (blk c Bs size : Nat) (W : World) (i j : Nat) (a b : Int) (hs : W.cell? ⟨Bs, 0, none⟩ = some (.slice (some ⟨blk, 0, none⟩) size c)) (hi : i < size) (hj : j < size) (hsz : size ≤ 4000004)
    (c1 : W.cell? ⟨blk, i * 3 + 2, none⟩ = some (.int .i64 a)) (c2 : W.cell? ⟨blk, j * 3 + 2, none⟩ = some (.int .i64 b)) :
    Calls Tryz.prog 77 #[.int .i64 i, .int .i64 j, .pointer (some ⟨Bs, 0, none⟩)] W fun e w' => e = .returned (.bool (decide (b < a))) ∧ ∃ q, w' = W.drewN q := by
  have hi2 : (i : Int) < (size : Int) := by omega
  have hj2 : (j : Int) < (size : Int) := by omega
  have hi3 : (0 : Int) ≤ (i : Int) := by omega
  have hj3 : (0 : Int) ≤ (j : Int) := by omega
  go_enter Tryz.func77, Tryz.ntmps77
  go_wp2
  go_quiet (fail)
  go_wp2
  go_ret
  exact ⟨rfl, nq, rfl⟩
set_option maxHeartbeats 1000000 in
set_option maxRecDepth 100000 in
theorem lessS_any (blk c Bs size : Nat) (W : World) (i j : Nat) (a b a' b' : Int) (hs : W.cell? ⟨Bs, 0, none⟩ = some (.slice (some ⟨blk, 0, none⟩) size c)) (hi : i < size) (hj : j < size) (hsz : size ≤ 4000004)
    (c3 : W.cell? ⟨blk, i * 3, none⟩ = some (.int .i64 a')) (c4 : W.cell? ⟨blk, j * 3, none⟩ = some (.int .i64 b')) (c1 : W.cell? ⟨blk, i * 3 + 2, none⟩ = some (.int .i64 a)) (c2 : W.cell? ⟨blk, j * 3 + 2, none⟩ = some (.int .i64 b)) :
    Calls Tryz.prog 89 #[.int .i64 i, .int .i64 j, .pointer (some ⟨Bs, 0, none⟩)] W fun e w' => e = .returned (.bool (if a' = b' then decide (b < a) else decide (a' < b'))) ∧ ∃ q, w' = W.drewN q := by
  have hi2 : (i : Int) < (size : Int) := by omega
  have hj2 : (j : Int) < (size : Int) := by omega
  have hi3 : (0 : Int) ≤ (i : Int) := by omega
  have hj3 : (0 : Int) ≤ (j : Int) := by omega
  by_cases hx : a' = b'
  · subst hx
    rw [if_pos rfl]
    go_enter Tryz.func89, Tryz.ntmps89
    go_wp2
    go_quiet (fail)
    go_wp2
    go_quiet (fail)
    go_wp2
    go_ret
    exact ⟨rfl, _, World.drewN_drewN _ _ _⟩
  · have hx2 : (a' != b') = true := by simpa using hx
    rw [if_neg hx]
    go_enter Tryz.func89, Tryz.ntmps89
    go_wp2
    go_quiet (fail)
    go_wp2
    go_quiet (fail)
    go_wp2
    go_ret
    exact ⟨rfl, _, World.drewN_drewN _ _ _⟩

/-- what (lcs).sort gives -/
def SortOut (b0 : Nat) (ps : List Pc) (v : Value) (w : World) (e : Ending) (w' : World) : Prop :=
  e = .returned v ∧ ∃ us, us = srt ltS ps ∧ us.Perm ps ∧ us.Pairwise (fun p q => p.x ≤ q.x) ∧ w'.ownsRow b0 131 3 v us.length (pcCells us) ∧ Below b0 w w'
theorem box_cell (w : World) (v : Value) (t : TypeId) : (w.alloc (.cells #[v] t)).cell? ⟨w.heap.size, 0, none⟩ = some v := by simp
/-- what the sort's worlds hold: the box as it was, the row's cells -/
theorem reads_of {w : World} {blk Bs : Nat} {v : Value} {d : Array Pc} (hH : HoldsK Pc.cells 3 w blk 0 d) (hblk : blk < w.heap.size) (hB : w.cell? ⟨Bs, 0, none⟩ = some v) (hB1 : Bs < w.heap.size) (hB2 : Bs ≠ blk) (m : Nat) (os : Array Obj) (dk : Array Pc) (hs : dk.size = d.size) :
    (sortWorldK Pc.cells 3 w blk 0 m dk os).cell? ⟨Bs, 0, none⟩ = some v ∧ ∀ i, i < d.size → (sortWorldK Pc.cells 3 w blk 0 m dk os).cell? ⟨blk, i * 3, none⟩ = some (.int .i64 (dk[i]!.x : Nat)) ∧ (sortWorldK Pc.cells 3 w blk 0 m dk os).cell? ⟨blk, i * 3 + 2, none⟩ = some (.int .i64 (dk[i]!.l : Nat)) := by
  have e : sortWorldK Pc.cells 3 w blk 0 m dk os = putRowK Pc.cells 3 (grow (Sort.ahead w m) os) blk 0 dk := by
    unfold sortWorldK; rw [putRowK_grow _ _ (Sort.ahead w m) _ blk 0 _ hblk]
  have hHg : HoldsK Pc.cells 3 (grow (Sort.ahead w m) os) blk 0 d := holdsK_grow _ _ _ _ blk 0 d hblk (holdsK_ahead _ _ _ _ _ _ _ hH)
  rw [e]
  refine ⟨?_, fun i hi => ?_⟩
  · rw [cell?_putRowK_other _ _ _ blk 0 dk _ (by exact hB2), cell?_grow _ _ _ (by exact hB1)]; exact hB
  · have h1 := ((holdsK_putRowK _ _ _ blk 0 d dk hHg hs).cell (i := i) (c := 0) (by omega) (by omega)).1
    have h2 := ((holdsK_putRowK _ _ _ blk 0 d dk hHg hs).cell (i := i) (c := 2) (by omega) (by omega)).1
    simp only [Nat.zero_add, Nat.add_zero] at h1 h2
    exact ⟨h1, h2⟩
theorem ltS_int (p q : Pc) : (if ((p.x : Nat) : Int) = (q.x : Nat) then decide (((q.l : Nat) : Int) < (p.l : Nat)) else decide (((p.x : Nat) : Int) < (q.x : Nat))) = ltS p q := by
  unfold ltS
  by_cases h : p.x = q.x
  · rw [if_pos h, if_pos (by rw [h])]; simp
  · rw [if_neg h, if_neg (by omega)]; simp
theorem ltL_int (p q : Pc) : decide (((q.l : Nat) : Int) < (p.l : Nat)) = ltL p q := by unfold ltL; simp
/-- sort.Slice with sort's closure -/
theorem sliceS {w : World} {b0 Bs : Nat} {v : Value} {ps : List Pc} (hr : w.ownsRow b0 131 3 v ps.length (pcCells ps)) (hl : ps.length ≤ 4000004) (hB : w.cell? ⟨Bs, 0, none⟩ = some v) (hB1 : Bs < w.heap.size) (hB2 : ∀ k, v.ownBlock = some k → Bs ≠ k) :
    Calls Tryz.prog 76 #[.iface 86 v, .func (.func 89) #[] #[.pointer (some ⟨Bs, 0, none⟩)]] w (SlOut b0 ltS v ps w) := by
  rcases Nat.lt_or_ge ps.length 2 with h2 | h2
  · exact slice_tiny ltS hr (by omega) _ _ _
  · rcases own_nil_or hr with ⟨_, h⟩ | ⟨blk, c, rfl⟩
    · subst h; simp at h2
    · have hH := row_holds hr
      obtain ⟨cur, _, hblk0, _⟩ := own_blk hr
      have hblk : blk < w.heap.size := (Array.getElem?_eq_some_iff.1 hblk0).1
      refine slice_more ltS swo_ltS hr h2 hl 89 _ (enters_of Tryz.func89 (by kernel_rfl) rfl) ?_
      intro m os dk hs i j hi hj
      obtain ⟨r1, r2⟩ := reads_of hH hblk hB hB1 (hB2 blk rfl) m os dk (by simpa using hs)
      rw [← ltS_int]
      exact lessS_any blk c Bs ps.length _ i j _ _ _ _ r1 hi hj hl (r2 i (by simpa using hi)).1 (r2 j (by simpa using hj)).1 (r2 i (by simpa using hi)).2 (r2 j (by simpa using hj)).2
/-- sort.Slice with fix's closure -/
theorem sliceL {w : World} {b0 Bs : Nat} {v : Value} {ps : List Pc} (hr : w.ownsRow b0 131 3 v ps.length (pcCells ps)) (hl : ps.length ≤ 4000004) (hB : w.cell? ⟨Bs, 0, none⟩ = some v) (hB1 : Bs < w.heap.size) (hB2 : ∀ k, v.ownBlock = some k → Bs ≠ k) :
    Calls Tryz.prog 76 #[.iface 86 v, .func (.func 77) #[] #[.pointer (some ⟨Bs, 0, none⟩)]] w (SlOut b0 ltL v ps w) := by
  rcases Nat.lt_or_ge ps.length 2 with h2 | h2
  · exact slice_tiny ltL hr (by omega) _ _ _
  · rcases own_nil_or hr with ⟨_, h⟩ | ⟨blk, c, rfl⟩
    · subst h; simp at h2
    · have hH := row_holds hr
      obtain ⟨cur, _, hblk0, _⟩ := own_blk hr
      have hblk : blk < w.heap.size := (Array.getElem?_eq_some_iff.1 hblk0).1
      refine slice_more ltL swo_ltL hr h2 hl 77 _ (enters_of Tryz.func77 (by kernel_rfl) rfl) ?_
      intro m os dk hs i j hi hj
      obtain ⟨r1, r2⟩ := reads_of hH hblk hB hB1 (hB2 blk rfl) m os dk (by simpa using hs)
      rw [← ltL_int]
      exact lessL_any blk c Bs ps.length _ i j _ _ r1 hi hj hl (r2 i (by simpa using hi)).2 (r2 j (by simpa using hj)).2
set_option maxHeartbeats 1000000 in
set_option maxRecDepth 100000 in
theorem sort_any (b0 : Nat) (W : World) (v : Value) (ps : List Pc) (hb : b0 ≤ W.heap.size) (hr : W.ownsRow b0 131 3 v ps.length (pcCells ps)) (hl : ps.length ≤ 4000004) :
    Calls Tryz.prog 71 #[v] W (SortOut b0 ps v W) := by
  obtain ⟨W1, hW1⟩ : ∃ W1, W.alloc (.cells #[v] 86) = W1 := ⟨_, rfl⟩
  have hb1 : Below W.heap.size W W1 := by rw [← hW1]; exact (Below.refl _ _).alloc (Nat.le_refl _) _
  have hr1 : W1.ownsRow b0 131 3 v ps.length (pcCells ps) := by rw [← hW1]; exact hr.alloc _
  have hB : W1.cell? ⟨W.heap.size, 0, none⟩ = some v := by rw [← hW1]; exact box_cell _ _ _
  have hB1 : W.heap.size < W1.heap.size := by rw [← hW1]; simp
  have hs := sliceS hr1 hl hB hB1 (fun k hk => by have := (hr.lt k hk).2; omega)
  have hne : some W.heap.size ≠ v.ownBlock := fun h => by have := (hr.lt _ h.symm).2; omega
  have hbl : ∀ k, v.ownBlock = some k → b0 ≤ k := fun k hk => (hr.lt k hk).1
  obtain ⟨A, c, rfl⟩ := own_form hr
  clear hr hr1
  have HB := Lib.hid hB; have HS := Lib.hid hs; have HW1 := Lib.hid hW1; have HB1 := Lib.hid hb1
  clear hB hs hW1 hb1
  go_enter Tryz.func71, Tryz.ntmps71
  go_wp2_with (fail)
  rw [HW1.out]
  refine HS.out.mono ?_
  rintro e w2 ⟨rfl, us, hus, hp, hst, hown, hg⟩
  have hc2 : w2.cell? ⟨W.heap.size, 0, none⟩ = some (.slice A ps.length c) := hg.cell HB.out hne
  have HUS := Lib.hid hus; have HP := Lib.hid hp; have HST := Lib.hid hst; have HOWN := Lib.hid hown; have HG := Lib.hid hg
  clear hus hp hst hown hg
  go_wp2
  go_ret
  exact ⟨rfl, us, HUS.out, HP.out, HST.out.imp (fun h => ltS_le h), HOWN.out, (HB1.out.mono hb).grown HG.out (by omega) hbl⟩
end Go.Proofs.YtgphjnhbheimiaaGreatDoor
