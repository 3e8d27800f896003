/-
  The walk of (editsSort).Swap over edits. No condition but the length.
-/
import Derived.Test.YtgphjnhbheimiaaDoorStabQ
import Derived.Test.YtgphjnhbheimiaaDoorTxtB
import Derived.RegionTactic
import Derived.BigRegion
import Derived.ChangeAlike
namespace Go.Proofs.YtgphjnhbheimiaaDoor
set_option linter.unusedVariables false
open Go.RowKit Go.Shelf

/-- the row of edits that is sorted -/
def RowS (w : World) (base g n c : Nat) (f : RowT) : Prop := w.ownsRow base 50 3 (.slice (some ⟨g, 0, none⟩) n c) n (edCells (rowL n f))
theorem edAt_row (n : Nat) (f : RowT) {k : Nat} (h : k < n) : edAt (rowL n f) k = (f k).1 := by simp [edAt, rowL, h]
theorem RowS.eds {w : World} {base g n c : Nat} {f : RowT} (h : RowS w base g n c f) : EdsR w (some ⟨g, 0, none⟩) (rowL n f) := CellsR.of_own h
theorem RowS.drewN {w : World} {base g n c : Nat} {f : RowT} (h : RowS w base g n c f) (q : Nat) : RowS (w.drewN q) base g n c f := h
theorem RowS.drew {w : World} {base g n c : Nat} {f : RowT} (h : RowS w base g n c f) : RowS w.drew base g n c f := h
theorem RowS.alloc {w : World} {base g n c : Nat} {f : RowT} (h : RowS w base g n c f) (o : Obj) : RowS (w.alloc o) base g n c f := World.ownsRow.alloc h o
theorem rowL_set2 (n : Nat) (f : RowT) {i j : Nat} (hi : i < n) (hj : j < n) (hne : i ≠ j) : ((rowL n f).set i (f j).1).set j (f i).1 = rowL n (swapF f i j) := by
  apply List.ext_getElem
  · simp [rowL]
  · intro k h1 h2
    have hk : k < n := by simpa [rowL] using h2
    rw [List.getElem_set, List.getElem_set]
    simp only [rowL, List.getElem_map, List.getElem_range]
    by_cases e1 : j = k
    · subst e1; rw [if_pos rfl, swapF_r]
    · rw [if_neg e1]
      by_cases e2 : i = k
      · subst e2; rw [if_pos rfl, swapF_l]
      · rw [if_neg e2, swapF_o _ _ _ _ (fun h => e2 h.symm) (fun h => e1 h.symm)]
theorem row_swapped {w : World} {base g n c i j : Nat} {f : RowT} (h : RowS w base g n c f) (hi : i < n) (hj : j < n) (hne : i ≠ j) :
    RowS ((((((w.setCell ⟨g, i * 3, none⟩ (.int .i64 (f j).1.s)).setCell ⟨g, i * 3 + 1, none⟩ (.int .i64 (f j).1.e)).setCell ⟨g, i * 3 + 2, none⟩ (.string (f j).1.n)).setCell ⟨g, j * 3, none⟩ (.int .i64 (f i).1.s)).setCell ⟨g, j * 3 + 1, none⟩ (.int .i64 (f i).1.e)).setCell ⟨g, j * 3 + 2, none⟩ (.string (f i).1.n)) base g n c (swapF f i j) ∧
    Below base w ((((((w.setCell ⟨g, i * 3, none⟩ (.int .i64 (f j).1.s)).setCell ⟨g, i * 3 + 1, none⟩ (.int .i64 (f j).1.e)).setCell ⟨g, i * 3 + 2, none⟩ (.string (f j).1.n)).setCell ⟨g, j * 3, none⟩ (.int .i64 (f i).1.s)).setCell ⟨g, j * 3 + 1, none⟩ (.int .i64 (f i).1.e)).setCell ⟨g, j * 3 + 2, none⟩ (.string (f i).1.n)) := by
  have hg := (h.lt g rfl).1
  obtain ⟨h1, g1⟩ := World.ownsRow.stored h (i * 3) (.int .i64 (f j).1.s)
  obtain ⟨h2, g2⟩ := h1.stored (i * 3 + 1) (.int .i64 (f j).1.e)
  obtain ⟨h3, g3⟩ := h2.stored (i * 3 + 2) (.string (f j).1.n)
  rw [edCells_put _ _ (f j).1 (by simpa [rowL] using hi)] at h3
  obtain ⟨h4, g4⟩ := h3.stored (j * 3) (.int .i64 (f i).1.s)
  obtain ⟨h5, g5⟩ := h4.stored (j * 3 + 1) (.int .i64 (f i).1.e)
  obtain ⟨h6, g6⟩ := h5.stored (j * 3 + 2) (.string (f i).1.n)
  rw [edCells_put _ _ (f i).1 (by simpa [rowL] using hj), rowL_set2 n f hi hj hne] at h6
  exact ⟨h6, (((((((Below.refl base w).setCell (p := ⟨g, i * 3, none⟩) hg _).setCell (p := ⟨g, i * 3 + 1, none⟩) hg _).setCell (p := ⟨g, i * 3 + 2, none⟩) hg _).setCell (p := ⟨g, j * 3, none⟩) hg _).setCell (p := ⟨g, j * 3 + 1, none⟩) hg _).setCell (p := ⟨g, j * 3 + 2, none⟩) hg _)⟩

/-- what a swap gives -/
def SwapOut (base g n c : Nat) (f : RowT) (w : World) (e : Ending) (w' : World) : Prop := e = .returned (.tuple #[]) ∧ RowS w' base g n c f ∧ Below base w w'
set_option maxRecDepth 100000 in
set_option maxHeartbeats 4000000 in
theorem swap_any {w : World} {base g n c : Nat} {f : RowT} (h : RowS w base g n c f) {i j : Nat} (hi : i < n) (hj : j < n) (hne : i ≠ j) (hl : n ≤ 20000000) :
    Calls Tryd.prog 83 #[.slice (some ⟨g, 0, none⟩) n c, .int .i64 i, .int .i64 j] w (SwapOut base g n c (swapF f i j) w) := by
  obtain ⟨g0, g1, a1, a2, a3, fz⟩ := own_ed h (rowL_length n f) hi
  obtain ⟨_, _, b1, b2, b3, _⟩ := own_ed h (rowL_length n f) hj
  rw [edAt_row n f hi] at a1 a2 a3
  rw [edAt_row n f hj] at b1 b2 b3
  have hs := row_swapped h hi hj hne
  have HS := Lib.hid hs
  have hi2 : (i : Int) < (n : Int) := by omega
  have hj2 : (j : Int) < (n : Int) := by omega
  have hi3 : (0 : Int) ≤ (i : Int) := by omega
  have hj3 : (0 : Int) ≤ (j : Int) := by omega
  have n1 : ¬ i * 3 = j * 3 := by omega
  have n2 : ¬ i * 3 = j * 3 + 1 := by omega
  have n3 : ¬ i * 3 = j * 3 + 2 := by omega
  have n4 : ¬ i * 3 + 1 = j * 3 := by omega
  have n5 : ¬ i * 3 + 1 = j * 3 + 1 := by omega
  have n6 : ¬ i * 3 + 1 = j * 3 + 2 := by omega
  have n7 : ¬ i * 3 + 2 = j * 3 := by omega
  have n8 : ¬ i * 3 + 2 = j * 3 + 1 := by omega
  have n9 : ¬ i * 3 + 2 = j * 3 + 2 := by omega
  clear h hs hne hi hj
  generalize (f i).1.s = is at *
  generalize (f i).1.e = ie at *
  generalize (f i).1.n = inn at *
  generalize (f j).1.s = js at *
  generalize (f j).1.e = je at *
  generalize (f j).1.n = jn at *
  go_enter Tryd.func83, Tryd.ntmps83
  go_wp2
  go_region
  go_end0
  obtain ⟨x1, x2⟩ := HS.out
  exact ⟨rfl, x1.drew, x2.drew⟩

end Go.Proofs.YtgphjnhbheimiaaDoor
