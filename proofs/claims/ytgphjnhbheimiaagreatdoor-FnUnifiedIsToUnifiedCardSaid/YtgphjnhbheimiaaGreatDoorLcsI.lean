/-
  The walks of road, Forward, and of the thin package's Limit, parts, pieces, Forward. Condition: at most a million elements each.
-/
import Derived.Test.YtgphjnhbheimiaaGreatDoorLcsB
namespace Go.Proofs.YtgphjnhbheimiaaGreatDoor
set_option linter.unusedVariables false
open Go.RowKit

/-- impl.Limit -/
def limI (n : Int) : Int := 1 + (n.tmod 2000 + 2000).tmod 2000
theorem limI_bd (n : Int) : 1 ≤ limI n ∧ limI n ≤ 2000 := by
  unfold limI
  have h1 := Int.lt_tmod_of_pos n (show (0 : Int) < 2000 by omega)
  have h2 := Int.tmod_lt_of_pos n (show (0 : Int) < 2000 by omega)
  have h3 : 0 ≤ (n.tmod 2000 + 2000).tmod 2000 := Int.tmod_nonneg _ (by omega)
  have h4 := Int.tmod_lt_of_pos (n.tmod 2000 + 2000) (show (0 : Int) < 2000 by omega)
  omega
theorem dfs_at {w : World} {A : Option Addr} {ps : List Df} (h : CellsR w A (dfCells ps)) {k : Nat} (hk : k < ps.length) :
    ∃ b off, A = some ⟨b, off, none⟩ ∧ b < w.heap.size ∧ w.cell? ⟨b, off + k * 4, none⟩ = some (.int .i64 ps[k].s) ∧ w.cell? ⟨b, off + k * 4 + 1, none⟩ = some (.int .i64 ps[k].e) ∧ w.cell? ⟨b, off + k * 4 + 2, none⟩ = some (.int .i64 ps[k].rs) ∧ w.cell? ⟨b, off + k * 4 + 3, none⟩ = some (.int .i64 ps[k].re) := by
  obtain ⟨g1, g2, g3, g4⟩ := dfCells_get ps k hk
  rcases h with h | ⟨b, off, hA, hc⟩
  · rw [h] at g1; simp at g1
  · exact ⟨b, off, hA, World.block_lt_of_cell? _ _ (hc _ _ g1), hc _ _ g1, hc _ _ g2, hc _ _ g3, hc _ _ g4⟩
theorem dfTake (es : List Df) (k : Nat) (h : k < es.length) : dfCells (es.take (k + 1)) = dfCells (es.take k) ++ dfCells [es[k]] := by
  rw [List.take_succ_eq_append_getElem h, dfCells_append]
theorem pcTake (es : List Pc) (k : Nat) (h : k < es.length) : pcCells (es.take (k + 1)) = pcCells (es.take k) ++ pcCells [es[k]] := by
  rw [List.take_succ_eq_append_getElem h, pcCells_append]

/-- a list of portions in new memory, in a row of the call's own -/
def PcResT (B0 : Nat) (w : World) (t : TypeId) (ds : List Pc) (e : Ending) (w' : World) : Prop :=
  ∃ A c, e = .returned (.slice A ds.length c) ∧ w'.ownsRow B0 t 3 (.slice A ds.length c) ds.length (pcCells ds) ∧ Below B0 w w'


end Go.Proofs.YtgphjnhbheimiaaGreatDoor
