/-
  The contract of strings.Join without a separator, at lists of texts of at most 2000000 bytes together.
-/
import Derived.Test.YtgjbagojcbondaaLayJ
import Derived.Test.YtgjbagojcbondaaTextP
namespace Go.Proofs.Ytgjbagojcbondaa
set_option linter.unusedVariables false
open Go.RowKit Go.Shelf

theorem jnExtra : Builder.Extra Try.prog Try.jn_ren where
  sizeBuilder := by kernel_rfl
  liesBuilder := by kernel_rfl
  t5 := Try.underlying5
  a5 := Try.isAgg5
  z5 := Try.sizeOf5
  v5 := Try.zeroValue5
  infoByte := by kernel_rfl
  cellsByte := by kernel_rfl
  sizeByte := by kernel_rfl
  neB5 := by decide
theorem join_flat (L : List (List UInt8)) : Lib.join L [] = L.flatten := by
  cases L with
  | nil => rfl
  | cons x r => rw [Lib.join_cons]; simp [Lib.joinTail]
theorem joinB_data (L : List ByteArray) : (joinB L).data.toList = (L.map (·.data.toList)).flatten := by
  induction L with
  | nil => rfl
  | cons x l ih => simp only [joinB, ByteArray.data_append, Array.toList_append, ih, List.map_cons, List.flatten_cons]
theorem join_any (w : World) (A : Option Addr) (c : Nat) (xs : List ByteArray) (hr : StrsR w A xs) (hc : xs.length ≤ c) (hl : xs.length ≤ 2000000) (ht : totB xs ≤ 2000000) :
    Calls Try.prog 31 #[.slice A xs.length c, .string ⟨#[]⟩] w fun e w' => e = .returned (.string (joinB xs)) ∧ Below w.heap.size w w' := by
  have hflat : (⟨(Lib.join (xs.map (·.data.toList)) (⟨#[]⟩ : ByteArray).data.toList).toArray⟩ : ByteArray) = joinB xs := by
    show (⟨(Lib.join (xs.map (·.data.toList)) []).toArray⟩ : ByteArray) = joinB xs
    rw [join_flat, ← joinB_data]
  have hlen : (Lib.join (xs.map (·.data.toList)) (⟨#[]⟩ : ByteArray).data.toList).length ≤ 140737488355328 := by
    show (Lib.join (xs.map (·.data.toList)) []).length ≤ 140737488355328
    rw [join_flat, ← joinB_data]
    have := joinB_size xs
    have h2 : (joinB xs).data.toList.length = (joinB xs).size := by simp
    omega
  cases xs with
  | nil => exact (Any.strings_Join_none Try.jn jnExtra A c ⟨#[]⟩ w).mono fun e w' h => ⟨h.1, h.2 ▸ Below.refl _ _⟩
  | cons x r =>
    rcases hr with h | ⟨b, off, rfl, hcell⟩
    · cases h
    · have h1 : ∀ (j : Nat) y, (x :: r)[j]? = some y → w.cell? ⟨b, off + j, none⟩ = some (.string y) := fun j y hj => hcell j _ (by unfold strCells; rw [List.getElem?_map, hj]; rfl)
      have hb : b < w.heap.size := World.block_lt_of_cell? _ _ (h1 0 x rfl)
      have := Any.strings_Join Try.jn jnExtra b off c (x :: r) ⟨#[]⟩ w h1 hb (by omega) hc hlen
      rw [hflat] at this
      exact this
end Go.Proofs.Ytgjbagojcbondaa
