/-
  Texts in pieces: what edits between pieces of two texts make, if the differences lead from one to the other. Plain theory, no condition.
-/
import Derived.Test.YtgjbagojcbondaaTxtA
import Derived.Test.YtgjbagojcbondaaLinesP
import Derived.Test.YtgjbagojcbondaaLcsK
namespace Go.Proofs.Ytgjbagojcbondaa
set_option linter.unusedVariables false

/-- texts joined -/
def joinB : List ByteArray → ByteArray
  | [] => ByteArray.empty
  | x :: l => x ++ joinB l
theorem joinB_append (a b : List ByteArray) : joinB (a ++ b) = joinB a ++ joinB b := by
  induction a with
  | nil => simp [joinB]
  | cons x a ih => simp only [List.cons_append, joinB, ih, ByteArray.append_assoc]
theorem joinB_size (L : List ByteArray) : (joinB L).size = totB L := by
  induction L with
  | nil => rfl
  | cons x l ih => simp only [joinB, totB, ByteArray.size_append, ih]
theorem cut3 (X Y Z : ByteArray) : (X ++ Y ++ Z).extract X.size (X.size + Y.size) = Y := by
  rw [ByteArray.append_assoc, ByteArray.extract_append, ByteArray.extract_eq_empty_iff.2 (by omega), ByteArray.empty_append, Nat.sub_self, Nat.add_sub_cancel_left]
  exact ByteArray.extract_append_eq_left rfl
theorem totB_take_le (L : List ByteArray) {a b : Nat} (h : a ≤ b) : totB (L.take a) ≤ totB (L.take b) := by
  have : L.take b = L.take a ++ (L.drop a).take (b - a) := by
    rw [← List.take_append_drop a (L.take b), List.take_take, Nat.min_eq_left h, List.drop_take]
  rw [this, totB_append]
  omega
theorem totB_take_all (L : List ByteArray) (a : Nat) : totB (L.take a) ≤ totB L := by
  have := totB_append (L.take a) (L.drop a)
  rw [List.take_append_drop] at this
  omega
theorem joinB_cut (L : List ByteArray) {a b : Nat} (h : a ≤ b) : (joinB L).extract (totB (L.take a)) (totB (L.take b)) = joinB ((L.drop a).take (b - a)) := by
  have e1 : L.take b = L.take a ++ (L.drop a).take (b - a) := by
    rw [← List.take_append_drop a (L.take b), List.take_take, Nat.min_eq_left h, List.drop_take]
  have e2 : joinB L = joinB (L.take a) ++ joinB ((L.drop a).take (b - a)) ++ joinB (L.drop b) := by
    rw [← joinB_append, ← joinB_append, ← e1, List.take_append_drop]
  rw [e2, e1, totB_append, ← joinB_size, ← joinB_size, cut3]
theorem joinB_tail (L : List ByteArray) (a : Nat) : (joinB L).extract (totB (L.take a)) (joinB L).size = joinB (L.drop a) := by
  have h := joinB_cut L (a := min a L.length) (b := L.length) (by omega)
  rw [List.take_length, ← joinB_size L] at h
  rw [← List.take_take, List.take_length] at h
  rw [h]
  congr 1
  rw [List.take_of_length_le (by simp)]
  rcases Nat.le_total a L.length with h1 | h1
  · rw [Nat.min_eq_left h1]
  · rw [Nat.min_eq_right h1, List.drop_length, List.drop_of_length_le h1]

/-- edits out of differences of pieces -/
def edsOf (P Q : List ByteArray) (ds : List Df) : List Ed := ds.map fun d => ⟨(totB (P.take d.s) : Nat), (totB (P.take d.e) : Nat), joinB ((Q.drop d.rs).take (d.re - d.rs))⟩
theorem seg_eq {P Q : List ByteArray} {a b n : Nat} (h1 : a + n ≤ P.length) (h2 : b + n ≤ Q.length) (h : ∀ i, i < n → sx P (a + i) = sx Q (b + i)) : (P.drop a).take n = (Q.drop b).take n := by
  apply List.ext_getElem
  · simp; omega
  · intro i g1 g2
    have hi : i < n := by simp at g1; omega
    have := h i hi
    simp only [sx] at this
    rw [List.getD_eq_getElem?_getD, List.getD_eq_getElem?_getD, List.getElem?_eq_getElem (by omega), List.getElem?_eq_getElem (by omega)] at this
    simpa using this
theorem lead_order {E : EQT} {P Q : List ByteArray} {M : Nat} : ∀ {ds : List Df} {a b k : Nat}, Lead E P.length M a b ds k → inOrderF (totB P) (totB (P.take a)) (edsOf P Q ds) = true := by
  intro ds
  induction ds with
  | nil => intros; rfl
  | cons d ds ih =>
    intro a b k h
    obtain ⟨g1, g2, g3, g4, g5, g6, g7, g8, k', g9, g10⟩ := h
    have h1 := totB_take_le P g1
    have h2 := totB_take_le P g2
    have h3 := totB_take_all P d.e
    have h4 := ih g10
    simp only [edsOf, List.map_cons, inOrderF, insideB]
    simp only [edsOf] at h4
    rw [h4]
    simp
    omega
theorem lead_patch {E : EQT} {P Q : List ByteArray} (hE : ∀ i j, i < P.length → j < Q.length → E i j = true → sx P i = sx Q j) : ∀ {ds : List Df} {a b k : Nat}, Lead E P.length Q.length a b ds k → patchB (joinB P) (totB (P.take a)) (edsOf P Q ds) = joinB (Q.drop b) := by
  intro ds
  induction ds with
  | nil =>
    intro a b k h
    obtain ⟨g1, g2, g3, g4, g5⟩ := h
    simp only [edsOf, List.map_nil, patchB]
    rw [joinB_tail]
    have := seg_eq (P := P) (Q := Q) (a := a) (b := b) (n := P.length - a) (by omega) (by omega) (fun i hi => hE _ _ (by omega) (by omega) (g4 i (by omega)))
    rw [List.take_of_length_le (by simp), List.take_of_length_le (by simp; omega)] at this
    rw [this]
  | cons d ds ih =>
    intro a b k h
    obtain ⟨g1, g2, g3, g4, g5, g6, g7, g8, k', g9, g10⟩ := h
    have h4 := ih g10
    simp only [edsOf, List.map_cons, patchB_cons, Int.toNat_natCast]
    simp only [edsOf] at h4
    rw [h4, joinB_cut P g1, seg_eq (P := P) (Q := Q) (a := a) (b := b) (n := d.s - a) (by omega) (by omega) (fun i hi => hE _ _ (by omega) (by omega) (g8 i (by omega))), ← joinB_append, ← joinB_append]
    congr 1
    rw [List.append_assoc]
    have e1 : d.s - a = d.rs - b := by omega
    have e2 : (Q.drop d.rs).take (d.re - d.rs) ++ Q.drop d.re = Q.drop d.rs := by
      conv => rhs; rw [← List.take_append_drop (d.re - d.rs) (Q.drop d.rs), List.drop_drop]
      rw [show d.rs + (d.re - d.rs) = d.re by omega]
    rw [e2, e1]
    conv => rhs; rw [← List.take_append_drop (d.rs - b) (Q.drop b), List.drop_drop]
    rw [show b + (d.rs - b) = d.rs by omega]
end Go.Proofs.Ytgjbagojcbondaa
