/-
  The capacity of a slice that came in is at least its length. No condition.
-/
import Derived.Test.YtbolgikdadhaeaaOpen
namespace Go.Proofs.Ytbolgikdadhaeaa
set_option linter.unusedVariables false
open Go.RowKit Go.ChangeShapes Go.WideShapes Go.ChangeAt
section
variable {H : Type} {enc : TypeId × Value → H} {P : Program} {w : World} {t e : TypeId} {A : Option Addr} {len cap : Nat} {d : DataW H} {p : List MemPlace}
theorem cap_ints {k : IntKind} (ht : P.underlying t = some (.slice e)) (he : P.underlying e = some (.int k)) (hC : P.cellsOf e = 1)
    (h : DataW.Trod enc P w 0 (fun _ => true) true t (.slice A len cap) d p) : len ≤ cap := by
  obtain ⟨fuel, hf⟩ := h
  rcases open_ints ht he hC hf with ⟨hcs, _⟩ | ⟨x, l, c, zs, hcs, _, hl, hm, hz, _, hcell, hwz⟩
  · simp [Value.cells] at hcs
    obtain ⟨rfl, rfl, rfl⟩ := hcs
    exact Nat.le_refl _
  · simp [Value.cells] at hcs
    obtain ⟨rfl, rfl, rfl⟩ := hcs
    exact hl
theorem cap_strs (ht : P.underlying t = some (.slice e)) (he : P.underlying e = some .string) (hC : P.cellsOf e = 1)
    (h : DataW.Trod enc P w 0 (fun _ => true) true t (.slice A len cap) d p) : len ≤ cap := by
  obtain ⟨fuel, hf⟩ := h
  rcases open_strings ht he hC hf with ⟨hcs, _⟩ | ⟨x, l, c, zs, hcs, _, hl, hm, hz, _, hcell, hwz⟩
  · simp [Value.cells] at hcs
    obtain ⟨rfl, rfl, rfl⟩ := hcs
    exact Nat.le_refl _
  · simp [Value.cells] at hcs
    obtain ⟨rfl, rfl, rfl⟩ := hcs
    exact hl
end
end Go.Proofs.Ytbolgikdadhaeaa
