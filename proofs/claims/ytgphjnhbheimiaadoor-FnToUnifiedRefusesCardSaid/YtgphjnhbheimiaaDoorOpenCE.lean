/-
  The capacity of a slice of edits that came in is at least its length. No condition.
-/
import Derived.Test.YtgphjnhbheimiaaDoorOpen
namespace Go.Proofs.YtgphjnhbheimiaaDoor
set_option linter.unusedVariables false
open Go.RowKit Go.ChangeShapes Go.WideShapes Go.Deep
section
variable {H : Type} {enc : TypeId × Value → H} {P : Program} {w : World} {t e : TypeId} {A : Option Addr} {len cap : Nat} {d : DataW H} {p : List MemPlace}
theorem cap_eds {fs : Array Field} (ht : P.underlying t = some (.slice e)) (he : P.underlying e = some (.struct fs)) (hone : oneCellFields P fs = true) (hC : P.cellsOf e = fs.size)
    (h : DataW.Trod enc P w 0 (fun _ => true) true t (.slice A len cap) d p) : len ≤ cap := by
  obtain ⟨fuel, hf⟩ := h
  rcases open_slice_fields ht he hone hC hf with ⟨hcs, _⟩ | ⟨x, l, c, m, D, Pl, hcs, _, hl, hm, hmm, _, hcell⟩
  · simp [Value.cells] at hcs
    obtain ⟨rfl, rfl, rfl⟩ := hcs
    exact Nat.le_refl _
  · simp [Value.cells] at hcs
    obtain ⟨rfl, rfl, rfl⟩ := hcs
    omega
end
end Go.Proofs.YtgphjnhbheimiaaDoor
