/-
  The text that edits make, plainly. No condition.
-/
import Derived.Test.YtoceakjnkillkaaSpecE
namespace Go.Proofs.Ytoceakjnkillkaa
set_option linter.unusedVariables false

/-- the text that edits make -/
def patchB (s : ByteArray) : Nat → List Ed → ByteArray
  | at_, [] => s.extract at_ s.size
  | at_, x :: l => s.extract at_ x.s.toNat ++ x.n ++ patchB s x.e.toNat l
theorem patchB_cons (s : ByteArray) (at_ : Nat) (x : Ed) (l : List Ed) : patchB s at_ (x :: l) = s.extract at_ x.s.toNat ++ x.n ++ patchB s x.e.toNat l := rfl
theorem inOrderF_cons {N at_ : Int} {x : Ed} {l : List Ed} (h : inOrderF N at_ (x :: l) = true) : 0 ≤ x.s ∧ x.s ≤ x.e ∧ x.e ≤ N ∧ at_ ≤ x.s ∧ inOrderF N x.e l = true := by
  simp only [inOrderF, insideB, Bool.and_eq_true, decide_eq_true_eq] at h
  exact ⟨h.1.1.1, h.1.1.2.1, h.1.1.2.2, h.1.2, h.2⟩
end Go.Proofs.Ytoceakjnkillkaa
