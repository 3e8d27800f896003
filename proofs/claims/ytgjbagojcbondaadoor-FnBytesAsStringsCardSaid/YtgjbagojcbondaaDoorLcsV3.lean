/-
  sort.Slice at a list of pieces: a permutation, sorted; the walks of (lcs).sort and of its closure. No condition but the length.
-/
import Derived.Test.YtgjbagojcbondaaDoorLcsV2
namespace Go.Proofs.YtgjbagojcbondaaDoor
set_option linter.unusedVariables false
open Go.RowKit Go.Sort Go.Lib Go.Shelf

theorem swK (n : Nat) (h2 : 2 ≤ n) : swapperK n tiE 25 = 9 := by
  have a : tiE.hasPointers = false := by kernel_rfl
  have b : tiE.bytes = 24 := by kernel_rfl
  have c : (n == 0) = false := by simp; omega
  have d : (n == 1) = false := by simp; omega
  simp [swapperK, a, b, c, d]
theorem sw_more (p : Option Addr) (n c : Nat) (h2 : 2 ≤ n) (w : World) : (Extern.ReflectliteSwapper.swapper rlPkg (Extern.ReflectliteValue.valueError "Swapper") #[.iface 63 (.slice p n c)]).run Tryd.prog w = .ok (.func (.func 70) #[] #[.slice p n c, typeHandle Tryd.prog 89]) w := by
  refine nm_swapper tiT_eq tiT_desc tiU_eq tiU_desc tiE_eq 25 tiE_kind p n c _ (fun w => ?_) w
  rw [swK n h2]
  kernel_rfl
theorem sw_tiny (p : Option Addr) (n c : Nat) (h2 : n ≤ 1) : ∃ f, ∀ w, (Extern.ReflectliteSwapper.swapper rlPkg (Extern.ReflectliteValue.valueError "Swapper") #[.iface 63 (.slice p n c)]).run Tryd.prog w = .ok (.func (.func f) #[] #[]) w := by
  rcases (show n = 0 ∨ n = 1 by omega) with rfl | rfl
  · refine ⟨62, fun w => nm_swapper tiT_eq tiT_desc tiU_eq tiU_desc tiE_eq 25 tiE_kind p 0 c (.func (.func 62) #[] #[]) (fun w => ?_) w⟩
    have e : swapperK 0 tiE 25 = 1 := rfl
    rw [e]
    show (Extern.ReflectliteSwapper.literal rlPkg 1 #[]).run Tryd.prog w = _
    kernel_rfl
  · refine ⟨63, fun w => nm_swapper tiT_eq tiT_desc tiU_eq tiU_desc tiE_eq 25 tiE_kind p 1 c (.func (.func 63) #[] #[]) (fun w => ?_) w⟩
    have e : swapperK 1 tiE 25 = 2 := rfl
    rw [e]
    show (Extern.ReflectliteSwapper.literal rlPkg 2 #[]).run Tryd.prog w = _
    kernel_rfl
/-- what sort.Slice leaves -/
def SlOut (b0 : Nat) (lt : Pc → Pc → Bool) (v : Value) (ps : List Pc) (w : World) (e : Ending) (w' : World) : Prop :=
  e = .returned (.tuple #[]) ∧ ∃ us, us = srt lt ps ∧ us.Perm ps ∧ us.Pairwise (fun p q => lt q p = false) ∧ w'.ownsRow b0 89 3 v us.length (pcCells us) ∧ w.grownBy w' v.ownBlock
set_option maxRecDepth 100000 in
theorem slice_tiny {w : World} {b0 : Nat} {v : Value} {ps : List Pc} (lt : Pc → Pc → Bool) (hr : w.ownsRow b0 89 3 v ps.length (pcCells ps)) (h1 : ps.length ≤ 1) (lf : Fn) (la lb : Array Value) :
    Calls Tryd.prog 50 #[.iface 63 v, .func lf la lb] w (SlOut b0 lt v ps w) := by
  obtain ⟨A, c, rfl⟩ := own_form hr
  obtain ⟨f, hf⟩ := sw_tiny A ps.length c h1
  refine (slice_walk A ps.length c (by omega) f #[] hf lf la lb w (fun w' => ∃ us : List Pc, us = srt lt ps ∧ us.Perm ps ∧ us.Pairwise (fun p q => lt q p = false) ∧ w'.ownsRow b0 89 3 (.slice A ps.length c) us.length (pcCells us) ∧ w.grownBy w' (Value.slice A ps.length c).ownBlock) ?_).mono (fun e w' h => h)
  refine (show Calls Tryd.prog 61 _ _ _ from Any.pdqsort_func_tiny (P := Tryd.prog) (ρ := Tryd.sv6_ren) { Tryd.sv6 with } lf la lb f #[] ps.length h1 _ (slW A ps.length c w)).mono ?_
  rintro e w' ⟨rfl, rfl⟩
  refine ⟨rfl, ps, by unfold srt; rw [if_pos (by omega)], List.Perm.refl _, ?_, ?_, ?_⟩
  · match ps, h1 with
    | [], _ => exact List.Pairwise.nil
    | [x], _ => simp
  · exact (((hr.alloc _).alloc _).alloc _).alloc _
  · have hb := ((((Below.refl w.heap.size w).alloc (Nat.le_refl _) (.cells #[.slice A ps.length c] 63)).alloc (by simp) (.cells #[.pointer (some ⟨Tryd.prog.globals.size, 63, none⟩), .pointer (some ⟨w.heap.size, 0, none⟩), .int .u64 151] 105)).alloc (by simp; omega) (.cells #[.func lf la lb, .func (.func f) #[] #[]] (Tryd.sv6_ren.t 44))).alloc (by simp; omega) (.cells #[.func lf la lb, .func (.func f) #[] #[]] (Tryd.sv6_ren.t 44))
    exact ⟨hb.os, hb.tape, hb.output, hb.size, fun k hk _ => hb.block k hk⟩
set_option maxRecDepth 100000 in
theorem slice_more {w : World} {b0 blk c : Nat} {ps : List Pc} (lt : Pc → Pc → Bool) (hO : SWO lt) (hr : w.ownsRow b0 89 3 (.slice (some ⟨blk, 0, none⟩) ps.length c) ps.length (pcCells ps)) (h2 : 2 ≤ ps.length) (hl : ps.length ≤ 4000004) (g : Nat) (lb : Array Value)
    (eg : ∀ args w, (callFunc g args).run Tryd.prog w = .ok (.enter g args) w) (hless : LessReadsK Tryd.prog g lb Pc.cells 3 lt blk 0 ps.length w) :
    Calls Tryd.prog 50 #[.iface 63 (.slice (some ⟨blk, 0, none⟩) ps.length c), .func (.func g) #[] lb] w (SlOut b0 lt (.slice (some ⟨blk, 0, none⟩) ps.length c) ps w) := by
  have hH := row_holds hr
  obtain ⟨cur, _, hblk0, _⟩ := own_blk hr
  have hblk : blk < w.heap.size := (Array.getElem?_eq_some_iff.1 hblk0).1
  have hsz : ps.toArray.size = ps.length := by simp
  refine (slice_walk _ ps.length c (by omega) 70 _ (sw_more _ _ _ h2) (.func g) #[] lb w (fun w' => ∃ us : List Pc, us = srt lt ps ∧ us.Perm ps ∧ us.Pairwise (fun p q => lt q p = false) ∧ w'.ownsRow b0 89 3 (.slice (some ⟨blk, 0, none⟩) ps.length c) us.length (pcCells us) ∧ w.grownBy w' (Value.slice (some ⟨blk, 0, none⟩) ps.length c).ownBlock) ?_).mono (fun e w' h => h)
  have hW : slW (some ⟨blk, 0, none⟩) ps.length c w = grow w #[.cells #[.slice (some ⟨blk, 0, none⟩) ps.length c] 63, .cells #[.pointer (some ⟨Tryd.prog.globals.size, 63, none⟩), .pointer (some ⟨w.heap.size, 0, none⟩), .int .u64 151] 105] := by
    unfold slW; rw [alloc_eq_grow, alloc_eq_grow, grow_grow]; rfl
  rw [hW]
  generalize (#[.cells #[.slice (some ⟨blk, 0, none⟩) ps.length c] 63, .cells #[.pointer (some ⟨Tryd.prog.globals.size, 63, none⟩), .pointer (some ⟨w.heap.size, 0, none⟩), .int .u64 151] 105] : Array Obj) = os0
  have hlim : Lib.bitLen ps.length < 4611686018427387904 := Nat.lt_of_le_of_lt (Lib.bitLen_le ps.length 62 (by omega) (by omega)) (by omega)
  have hp := Any.pdqsort_func_cells_all (P := Tryd.prog) (ρ := Tryd.sv6_ren) { Tryd.sv6 with } Pc.cells 3 (fun _ => rfl) lt hO g lb 70 #[.slice (some ⟨blk, 0, none⟩) ps.length c, typeHandle Tryd.prog 89] eg (ps.length + 1) blk 0 0 ps.length (Lib.bitLen ps.length) ps.toArray (grow w os0) (by omega) (by rw [hsz]; exact hless.grow hblk os0)
    (by rw [hsz]; exact swapSwapsK_of_literal false 70 (fun args W => run_callFunc_extern Tryd.func70 (by kernel_rfl) (by kernel_rfl) (by kernel_rfl) (e := Extern.ReflectliteSwapper.swap false) (by kernel_rfl) args W) 89 tiE tiE_eq Pc.cells 3 (fun _ => rfl) (by kernel_rfl) tiE_agg (fun x v hv => by simp [Pc.cells] at hv; rcases hv with rfl | rfl | rfl <;> rfl) blk 0 ps.length c)
    (holdsK_grow Pc.cells 3 w _ blk 0 ps.toArray hblk hH) (by rw [size_grow]; omega) (Nat.zero_le _) (by rw [hsz]; exact Nat.le_refl _) (by rw [hsz]; omega) hlim (Or.inl rfl)
  refine (show Calls Tryd.prog 61 _ _ _ from hp).mono ?_
  rintro e w' ⟨rfl, n, os, rfl⟩
  have h := pdq_sorts lt hO ps.toArray 0 ps.toArray.size (Lib.bitLen ps.length) true true (Nat.zero_le _) (Nat.le_refl _) (Or.inl rfl)
  rw [hsz] at h
  have hpm := perm_list (by rw [hsz]; exact h.1)
  have hst := sorted_list (lt := lt) (d' := pdq lt ps.toArray 0 ps.length (Lib.bitLen ps.length) true true) (by rw [hpm.1]; exact h.2)
  rw [ahead_grow, putRowK_grow Pc.cells 3 (Sort.ahead w n) _ blk 0 _ hblk, grow_grow]
  have hb := row_back (n := n) (os := os0 ++ os) hr hpm.1
  refine ⟨rfl, _, ?_, hpm.2, hst, hb.1, hb.2⟩
  unfold srt
  rw [if_neg (by omega)]
end Go.Proofs.YtgjbagojcbondaaDoor
