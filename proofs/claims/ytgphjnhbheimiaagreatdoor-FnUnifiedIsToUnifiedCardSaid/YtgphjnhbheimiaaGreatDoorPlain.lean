/-
  Plain words for lists of numbers and of edits; no program in sight. No condition.
-/
import Derived.Test.YtgphjnhbheimiaaGreatDoorKit
namespace Go.Proofs.YtgphjnhbheimiaaGreatDoor
set_option linter.unusedVariables false
open Go.RowKit

/-- the k-th number -/
def ix (zs : List Int) (k : Nat) : Int := zs.getD k 0

/-- an edit: start, end, new text -/
structure Ed where
  s : Int
  e : Int
  n : ByteArray

def edAt (es : List Ed) (k : Nat) : Ed := es.getD k ⟨0, 0, ⟨#[]⟩⟩
def eS (es : List Ed) (k : Nat) : Int := (edAt es k).s
def eE (es : List Ed) (k : Nat) : Int := (edAt es k).e
def eN (es : List Ed) (k : Nat) : ByteArray := (edAt es k).n

def Ed.cells (x : Ed) : List Value := [.int .i64 x.s, .int .i64 x.e, .string x.n]
def edCells (es : List Ed) : List Value := es.flatMap Ed.cells

theorem edCells_nil : edCells [] = [] := rfl
theorem edCells_cons (x : Ed) (l : List Ed) : edCells (x :: l) = x.cells ++ edCells l := rfl
theorem edCells_append (a b : List Ed) : edCells (a ++ b) = edCells a ++ edCells b := by simp [edCells]
theorem edCells_length (es : List Ed) : (edCells es).length = es.length * 3 := by
  induction es with
  | nil => rfl
  | cons x l ih => rw [edCells_cons, List.length_append, ih]; simp [Ed.cells]; omega
theorem edCells_get (es : List Ed) (k : Nat) (h : k < es.length) :
    (edCells es)[k * 3]? = some (.int .i64 (eS es k)) ∧ (edCells es)[k * 3 + 1]? = some (.int .i64 (eE es k)) ∧ (edCells es)[k * 3 + 2]? = some (.string (eN es k)) := by
  induction es generalizing k with
  | nil => simp at h
  | cons x l ih =>
    rw [edCells_cons]
    cases k with
    | zero => simp [Ed.cells, eS, eE, eN, edAt]
    | succ k =>
      have hl : x.cells.length = 3 := rfl
      have := ih k (by simpa using h)
      refine ⟨?_, ?_, ?_⟩
      · rw [List.getElem?_append_right (by omega), hl, show (k + 1) * 3 - 3 = k * 3 by omega, this.1]; rfl
      · rw [List.getElem?_append_right (by omega), hl, show (k + 1) * 3 + 1 - 3 = k * 3 + 1 by omega, this.2.1]; rfl
      · rw [List.getElem?_append_right (by omega), hl, show (k + 1) * 3 + 2 - 3 = k * 3 + 2 by omega, this.2.2]; rfl
theorem edCells_one (es : List Ed) : ∀ u ∈ edCells es, u.oneCell' = true := by
  intro u hu
  simp only [edCells, List.mem_flatMap] at hu
  obtain ⟨x, _, hx⟩ := hu
  simp only [Ed.cells, List.mem_cons, List.not_mem_nil, or_false] at hx
  rcases hx with rfl | rfl | rfl <;> rfl

/-- a slice of edits -/
def EdsR (w : World) (A : Option Addr) (es : List Ed) : Prop := CellsR w A (edCells es)
theorem EdsR.at_ {w : World} {A : Option Addr} {es : List Ed} (h : EdsR w A es) {k : Nat} (hk : k < es.length) :
    ∃ b off, A = some ⟨b, off, none⟩ ∧ b < w.heap.size ∧ w.cell? ⟨b, off + k * 3, none⟩ = some (.int .i64 (eS es k)) ∧ w.cell? ⟨b, off + k * 3 + 1, none⟩ = some (.int .i64 (eE es k)) ∧ w.cell? ⟨b, off + k * 3 + 2, none⟩ = some (.string (eN es k)) := by
  obtain ⟨g1, g2, g3⟩ := edCells_get es k hk
  rcases h with h | ⟨b, off, hA, hc⟩
  · rw [h] at g1; simp at g1
  · exact ⟨b, off, hA, World.block_lt_of_cell? _ _ (hc _ _ g1), hc _ _ g1, hc _ _ g2, hc _ _ g3⟩
theorem EdsR.below {w w' : World} {A : Option Addr} {es : List Ed} {B : Nat} (h : EdsR w A es) (hb : Below B w w') (hB : w.heap.size ≤ B) : EdsR w' A es := CellsR.below h hb hB

/-- how many bytes the new texts have, with one for each -/
def szE : List Ed → Nat
  | [] => 0
  | x :: l => x.n.size + 1 + szE l
/-- what SizeOfEdits tells -/
def szR (es : List Ed) : Int := if szE es ≤ 1000000 then (szE es : Int) else 1000001
theorem szE_append (a b : List Ed) : szE (a ++ b) = szE a + szE b := by
  induction a with
  | nil => simp [szE]
  | cons x a ih => simp only [List.cons_append, szE, ih]; omega
theorem take_snoc_ed (es : List Ed) (k : Nat) (h : k < es.length) : es.take (k + 1) = es.take k ++ [edAt es k] := by
  rw [List.take_succ_eq_append_getElem h]
  simp [edAt, h]
theorem szE_take (es : List Ed) (k : Nat) (h : k < es.length) : szE (es.take (k + 1)) = szE (es.take k) + ((eN es k).size + 1) := by
  rw [take_snoc_ed es k h, szE_append]
  simp [szE, eN]
theorem szE_take_le (es : List Ed) (k : Nat) : szE (es.take k) ≤ szE es := by
  have := szE_append (es.take k) (es.drop k)
  rw [List.take_append_drop] at this
  omega
theorem len_le_szE (es : List Ed) : es.length ≤ szE es := by
  induction es with
  | nil => simp [szE]
  | cons x l ih => simp only [szE, List.length_cons]; omega

/-! ### slices of numbers -/
def intCells (k : IntKind) (zs : List Int) : List Value := zs.map (Value.int k)
theorem intCells_get (k : IntKind) (zs : List Int) (i : Nat) (h : i < zs.length) : (intCells k zs)[i]? = some (.int k (ix zs i)) := by
  simp [intCells, ix, h]
theorem intCells_one (k : IntKind) (zs : List Int) : ∀ u ∈ intCells k zs, u.oneCell' = true := by
  intro u hu
  simp only [intCells, List.mem_map] at hu
  obtain ⟨x, _, rfl⟩ := hu
  rfl
def IntsR (k : IntKind) (w : World) (A : Option Addr) (zs : List Int) : Prop := CellsR w A (intCells k zs)
theorem IntsR.at_ {kd : IntKind} {w : World} {A : Option Addr} {zs : List Int} (h : IntsR kd w A zs) {k : Nat} (hk : k < zs.length) :
    ∃ b off, A = some ⟨b, off, none⟩ ∧ b < w.heap.size ∧ w.cell? ⟨b, off + k, none⟩ = some (.int kd (ix zs k)) := by
  have g1 := intCells_get kd zs k hk
  rcases h with h | ⟨b, off, hA, hc⟩
  · rw [h] at g1; simp at g1
  · exact ⟨b, off, hA, World.block_lt_of_cell? _ _ (hc _ _ g1), hc _ _ g1⟩
theorem IntsR.below {kd : IntKind} {w w' : World} {A : Option Addr} {zs : List Int} {B : Nat} (h : IntsR kd w A zs) (hb : Below B w w') (hB : w.heap.size ≤ B) : IntsR kd w' A zs := CellsR.below h hb hB
theorem IntsR.lit2 (kd : IntKind) (w : World) (t : TypeId) (x y : Int) : IntsR kd (w.alloc (.cells #[.int kd x, .int kd y] t)) (some ⟨w.heap.size, 0, none⟩) [x, y] := by
  refine .inr ⟨_, _, rfl, fun j u hu => ?_⟩
  have := (Blk.new w t #[.int kd x, .int kd y]).cell (0 + j)
  rw [this]
  simpa [intCells] using hu
theorem IntsR.lit1 (kd : IntKind) (w : World) (t : TypeId) (x : Int) : IntsR kd (w.alloc (.cells #[.int kd x] t)) (some ⟨w.heap.size, 0, none⟩) [x] := by
  refine .inr ⟨_, _, rfl, fun j u hu => ?_⟩
  have := (Blk.new w t #[.int kd x]).cell (0 + j)
  rw [this]
  simpa [intCells] using hu

def sumI (l : List Int) : Int := l.foldr (· + ·) 0
theorem sumI_append (a b : List Int) : sumI (a ++ b) = sumI a + sumI b := by
  induction a with
  | nil => simp [sumI]
  | cons x a ih => simp only [sumI, List.cons_append, List.foldr_cons] at *; omega
theorem sumI_take (l : List Int) (k : Nat) (h : k < l.length) : sumI (l.take (k + 1)) = sumI (l.take k) + ix l k := by
  rw [List.take_succ_eq_append_getElem h, sumI_append]
  simp [sumI, ix, h]
theorem sumI_nonneg (l : List Int) (h : ∀ x ∈ l, 0 ≤ x) : 0 ≤ sumI l := by
  induction l with
  | nil => simp [sumI]
  | cons x a ih =>
    have h1 := h x (by simp)
    have h2 := ih (fun y hy => h y (by simp [hy]))
    simp only [sumI, List.foldr_cons] at *
    omega
theorem sumI_take_le (l : List Int) (k : Nat) (h : ∀ x ∈ l, 0 ≤ x) : sumI (l.take k) ≤ sumI l := by
  have h1 := sumI_append (l.take k) (l.drop k)
  rw [List.take_append_drop] at h1
  have := sumI_nonneg (l.drop k) (fun x hx => h x (List.mem_of_mem_drop hx))
  omega
theorem ix_mem (l : List Int) (k : Nat) (h : k < l.length) : ix l k ∈ l := by
  simp [ix, h]

end Go.Proofs.YtgphjnhbheimiaaGreatDoor
