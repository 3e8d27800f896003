/-
  impl.Apply over the edits between two texts. Condition: texts of at most 1000000 bytes together.
-/
import Derived.Test.YtgjbagojcbondaaGreatStrB
import Derived.Test.YtgjbagojcbondaaGreatAplE
namespace Go.Proofs.YtgjbagojcbondaaGreat
set_option linter.unusedVariables false
open Go.RowKit

theorem lessW_far {x y : Ed} (hx : 0 ≤ x.s ∧ x.s ≤ 4000000) (hy : 0 ≤ y.s ∧ y.s ≤ 4000000) : lessW x y = true ↔ (x.s < y.s ∨ (x.s = y.s ∧ x.e < y.e)) := by
  have hw : IntKind.i64.wrap (x.s - y.s) = x.s - y.s := IntWalk.i64_in _ (by omega)
  unfold lessW
  rw [hw]
  by_cases h : x.s - y.s = 0
  · rw [if_pos h]; simp; omega
  · rw [if_neg h]; simp; omega
theorem order_sortedB {size : Int} (hs : size ≤ 4000000) : ∀ (es : List Ed) (at_ : Int), 0 ≤ at_ → inOrderF size at_ es = true → sortedW es = true := by
  intro es
  induction es with
  | nil => intros; rfl
  | cons x l ih =>
    intro at_ h0 h
    simp only [inOrderF, insideB, Bool.and_eq_true, decide_eq_true_eq] at h
    obtain ⟨⟨h1, h2⟩, h3⟩ := h
    have hl := ih x.e (by omega) h3
    cases l with
    | nil => rfl
    | cons y l =>
      simp only [inOrderF, insideB, Bool.and_eq_true, decide_eq_true_eq] at h3
      obtain ⟨⟨g1, g2⟩, g3⟩ := h3
      show (!lessW y x && sortedW (y :: l)) = true
      rw [hl, Bool.and_true]
      cases hw : lessW y x
      · rfl
      · have := (lessW_far (x := y) (y := x) ⟨by omega, by omega⟩ ⟨by omega, by omega⟩).1 hw
        omega
end Go.Proofs.YtgjbagojcbondaaGreat
