/-
  Edits between lines: bounds, sums, one difference where nothing is alike. Plainly.
-/
import Derived.Test.YtgjbagojcbondaaGreatDoorTxtC
namespace Go.Proofs.YtgjbagojcbondaaGreatDoor
set_option linter.unusedVariables false

theorem lead_chain {E : EQT} {N M : Nat} {ps : List Pc} (h : Ch E 0 0 ps N M) : ∃ k, Lead E N M 0 0 (diffsFrom N M 0 0 ps) k :=
  ⟨_, lead_of h (Nat.le_refl _) (Nat.le_refl _) rfl (fun i hi => by omega)⟩
theorem lead_bounds {E : EQT} {N M : Nat} : ∀ {ds : List Df} {a b k : Nat}, Lead E N M a b ds k → ∀ d ∈ ds, d.s ≤ d.e ∧ d.e ≤ N ∧ d.rs ≤ d.re ∧ d.re ≤ M := by
  intro ds
  induction ds with
  | nil => intro a b k h d hd; cases hd
  | cons x ds ih =>
    intro a b k h d hd
    obtain ⟨g1, g2, g3, g4, g5, g6, g7, g8, k', g9, g10⟩ := h
    rcases List.mem_cons.1 hd with rfl | hd
    · exact ⟨g2, g3, g5, g6⟩
    · exact ih g10 d hd
theorem totB_drop_le (Q : List ByteArray) {a b : Nat} (h : a ≤ b) : totB (Q.drop b) ≤ totB (Q.drop a) := by
  have h1 := totB_append ((Q.drop a).take (b - a)) ((Q.drop a).drop (b - a))
  rw [List.take_append_drop, List.drop_drop, show a + (b - a) = b by omega] at h1
  omega
theorem totB_cut_le (Q : List ByteArray) {a b c : Nat} (h1 : a ≤ b) (h2 : b ≤ c) : totB ((Q.drop b).take (c - b)) + totB (Q.drop c) ≤ totB (Q.drop a) := by
  have h3 := totB_append ((Q.drop b).take (c - b)) ((Q.drop b).drop (c - b))
  rw [List.take_append_drop, List.drop_drop, show b + (c - b) = c by omega] at h3
  have := totB_drop_le Q h1
  omega
theorem lead_szE {E : EQT} {P Q : List ByteArray} {N M : Nat} : ∀ {ds : List Df} {a b k : Nat}, Lead E N M a b ds k → szE (edsOf P Q ds) ≤ totB (Q.drop b) + ds.length := by
  intro ds
  induction ds with
  | nil => intros; simp [edsOf, szE]
  | cons d ds ih =>
    intro a b k h
    obtain ⟨g1, g2, g3, g4, g5, g6, g7, g8, k', g9, g10⟩ := h
    have h1 := ih g10
    have h2 := totB_cut_le Q g4 g5
    simp only [edsOf, List.map_cons, szE, List.length_cons] at h1 ⊢
    rw [joinB_size]
    omega
theorem apart_nilM {E : EQT} {N M : Nat} {ps : List Pc} (h : ∀ i j, i < N → j < M → E i j = false) (hch : Ch E 0 0 ps N M) : ps = [] := by
  cases ps with
  | nil => rfl
  | cons p ps =>
    obtain ⟨g1, g2, ⟨g3, g4⟩, g5⟩ := hch
    have := g5.le
    have h1 := g4 0 g3
    rw [h _ _ (by omega) (by omega)] at h1
    cases h1
theorem linesF_a : linesF ⟨#[97]⟩ = [⟨#[97]⟩] := by decide +kernel
theorem linesF_b : linesF ⟨#[98]⟩ = [⟨#[98]⟩] := by decide +kernel
theorem psums_edge (L : List ByteArray) : totB L = totB (L.take L.length) := by rw [List.take_length]
/-- what is known of the edits between the lines of two texts -/
structure LinesEd (s t : ByteArray) (es : List Ed) : Prop where
  order : inOrderF s.size 0 es = true
  patch : patchB s 0 es = t
  size : szE es ≤ 4000000
  len : es.length ≤ 2000000
theorem linesEd_of {s t : ByteArray} {E : EQT} {ps : List Pc} (hE : ∀ i j, E i j = true → sx (linesF s) i = sx (linesF t) j) (hch : Ch E 0 0 ps (linesF s).length (linesF t).length) (hs : s.size ≤ 1000000) (ht : t.size ≤ 1000000) (hl : (diffsFrom (linesF s).length (linesF t).length 0 0 ps).length ≤ (linesF s).length + (linesF t).length) :
    LinesEd s t (edsOf (linesF s) (linesF t) (diffsFrom (linesF s).length (linesF t).length 0 0 ps)) := by
  obtain ⟨k, hk⟩ := lead_chain hch
  have h1 := lead_order (Q := linesF t) hk
  have h2 := lead_patch (P := linesF s) (Q := linesF t) (fun i j _ _ h => hE i j h) hk
  have h3 := lead_szE (P := linesF s) (Q := linesF t) hk
  have l1 := linesF_len s
  have l2 := linesF_len t
  have t1 := linesF_tot s
  have t2 := linesF_tot t
  rw [List.take_zero] at h1 h2
  rw [joinB_lines, List.drop_zero, joinB_lines] at h2
  rw [t1] at h1
  rw [List.drop_zero, t2] at h3
  exact ⟨h1, h2, by omega, by rw [show (edsOf (linesF s) (linesF t) (diffsFrom (linesF s).length (linesF t).length 0 0 ps)).length = (diffsFrom (linesF s).length (linesF t).length 0 0 ps).length by simp [edsOf]]; omega⟩
end Go.Proofs.YtgjbagojcbondaaGreatDoor
