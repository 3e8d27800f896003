/-
  More on labels: bounds, which label is the end's, a label inside at the limit: plain theory, no program in sight. No condition.
-/
import Derived.Test.YtgphjnhbheimiaaGreatDoorPlL
namespace Go.Proofs.YtgphjnhbheimiaaGreatDoor
set_option linter.unusedVariables false

section
variable {E : EQT} {N M : Nat}
theorem slide_le (x y : Nat) : slide E N M x y ≤ max x N ∧ slide E N M x y + y ≤ max y M + x := by
  unfold slide
  have := lead_le E (min (N - x) (M - y)) x y
  omega
theorem fwd_le (d j : Nat) (h : j ≤ d) : fwd E N M d j ≤ N + d ∧ fy E N M d j ≤ M + d := by
  induction d generalizing j with
  | zero =>
    obtain rfl : j = 0 := by omega
    have := slide_le (E := E) (N := N) (M := M) 0 0
    unfold fy
    show slide E N M 0 0 ≤ N + 0 ∧ slide E N M 0 0 + 0 - 2 * 0 ≤ M + 0
    omega
  | succ d ih =>
    have hs := fwd_slide E N M (d + 1) j h
    have hf := fst_fwd E N M (d + 1) j h
    have hl := slide_le (E := E) (N := N) (M := M) (fst0 E N M (d + 1) j) (fst0 E N M (d + 1) j + (d + 1) - 2 * j)
    rw [← hs] at hl
    unfold fy
    rcases fst_or E N M d j h with ⟨h1, h2⟩ | ⟨h1, h2⟩
    · have h3 := ih (j - 1) (by omega)
      have h4 := fwd_ge E N M d (j - 1) (by omega)
      unfold fy at h3
      omega
    · have h3 := ih j h1
      have h4 := fwd_ge E N M d j h1
      unfold fy at h3
      omega
theorem slide_two (a b c : Nat) (ha : c ≤ a) (hb : c ≤ b) (h : a ≤ b) : slide E N M a (a - c) ≤ slide E N M b (b - c) := by
  have := slide_mono E N M a (a - c) (b - a)
  rw [show a + (b - a) = b by omega, show a - c + (b - a) = b - c by omega] at this
  exact this
theorem slide_again (a c : Nat) (h : c ≤ a) : slide E N M (slide E N M a (a - c)) (slide E N M a (a - c) - c) = slide E N M a (a - c) := by
  have h1 := slide_idem E N M a (a - c)
  have h2 := slide_ge E N M a (a - c)
  rw [show slide E N M a (a - c) + (a - c) - a = slide E N M a (a - c) - c by omega] at h1
  exact h1
/-- what forward and twosided lay at an inner diagonal is the label -/
theorem fwd_mid (D q A B : Nat) (h1 : 1 ≤ q) (h2 : q ≤ D) (hA : A = slide E N M (fwd E N M D (q - 1) + 1) (fy E N M D (q - 1))) (hB : B = slide E N M (fwd E N M D q) (fy E N M D q + 1)) :
    slide E N M (if B < A then A else B) ((if B < A then A else B) + (D + 1) - 2 * q) = fwd E N M (D + 1) q ∧ 2 * q ≤ (if B < A then A else B) + (D + 1) := by
  have g1 := fwd_ge E N M D (q - 1) (by omega)
  have g2 := fwd_ge E N M D q h2
  have hst : fstart (fwd E N M D) D q = max (fwd E N M D (q - 1) + 1) (fwd E N M D q) := by
    unfold fstart
    rw [if_neg (by omega), if_neg (by omega)]
  have hf : fwd E N M (D + 1) q = slide E N M (max (fwd E N M D (q - 1) + 1) (fwd E N M D q)) (max (fwd E N M D (q - 1) + 1) (fwd E N M D q) + (D + 1) - 2 * q) := by
    rw [← hst]; rfl
  rw [hf]
  unfold fy at hA hB
  generalize fwd E N M D (q - 1) = F1 at *
  generalize fwd E N M D q = F2 at *
  clear hst hf
  -- everything shifted so that the second coordinate is 'first + s - 2 q', with s = D + 1
  by_cases hc : 2 * q ≤ D + 1
  · -- the second coordinate is ahead: use slide_mono directly
    have mono : ∀ a b : Nat, a ≤ b → slide E N M a (a + (D + 1) - 2 * q) ≤ slide E N M b (b + (D + 1) - 2 * q) := fun a b h => by
      have := slide_mono E N M a (a + (D + 1) - 2 * q) (b - a)
      rw [show a + (b - a) = b by omega, show a + (D + 1) - 2 * q + (b - a) = b + (D + 1) - 2 * q by omega] at this
      exact this
    have idem : ∀ a : Nat, slide E N M (slide E N M a (a + (D + 1) - 2 * q)) (slide E N M a (a + (D + 1) - 2 * q) + (D + 1) - 2 * q) = slide E N M a (a + (D + 1) - 2 * q) := fun a => by
      have h1 := slide_idem E N M a (a + (D + 1) - 2 * q)
      have h2 := slide_ge E N M a (a + (D + 1) - 2 * q)
      rw [show slide E N M a (a + (D + 1) - 2 * q) + (a + (D + 1) - 2 * q) - a = slide E N M a (a + (D + 1) - 2 * q) + (D + 1) - 2 * q by omega] at h1
      exact h1
    rw [show F1 + D - 2 * (q - 1) = F1 + 1 + (D + 1) - 2 * q by omega] at hA
    rw [show F2 + D - 2 * q + 1 = F2 + (D + 1) - 2 * q by omega] at hB
    have hge1 := slide_ge E N M (F1 + 1) (F1 + 1 + (D + 1) - 2 * q)
    have hge2 := slide_ge E N M F2 (F2 + (D + 1) - 2 * q)
    refine ⟨?_, by split <;> omega⟩
    rcases Nat.le_total (F1 + 1) F2 with h | h
    · have := mono _ _ h
      rw [if_neg (by omega), hB, show max (F1 + 1) F2 = F2 by omega]
      exact idem F2
    · have := mono _ _ h
      rw [show max (F1 + 1) F2 = F1 + 1 by omega]
      by_cases hlt : B < A
      · rw [if_pos hlt, hA]; exact idem _
      · rw [if_neg hlt, show B = A by omega, hA]; exact idem _
  · have e1 : ∀ a : Nat, a + (D + 1) - 2 * q = a - (2 * q - (D + 1)) := fun a => by omega
    rw [show F1 + D - 2 * (q - 1) = F1 + 1 - (2 * q - (D + 1)) by omega] at hA
    rw [show F2 + D - 2 * q + 1 = F2 - (2 * q - (D + 1)) by omega] at hB
    have hge1 := slide_ge E N M (F1 + 1) (F1 + 1 - (2 * q - (D + 1)))
    have hge2 := slide_ge E N M F2 (F2 - (2 * q - (D + 1)))
    refine ⟨?_, by split <;> omega⟩
    rw [e1, e1]
    have c1 : 2 * q - (D + 1) ≤ F1 + 1 := by omega
    have c2 : 2 * q - (D + 1) ≤ F2 := by omega
    rcases Nat.le_total (F1 + 1) F2 with h | h
    · have := slide_two (E := E) (N := N) (M := M) _ _ _ c1 c2 h
      rw [if_neg (by omega), hB, show max (F1 + 1) F2 = F2 by omega]
      exact slide_again F2 _ c2
    · have := slide_two (E := E) (N := N) (M := M) _ _ _ c2 c1 h
      rw [show max (F1 + 1) F2 = F1 + 1 by omega]
      by_cases hlt : B < A
      · rw [if_pos hlt, hA]; exact slide_again _ _ c1
      · rw [if_neg hlt, show B = A by omega, hA]; exact slide_again _ _ c1

/-- at the level of the shortest way one label is the end -/
theorem Short.label {T : Nat} (h : Short E N M T) : ∃ j, j ≤ T ∧ fwd E N M T j = N ∧ fy E N M T j = M := by
  obtain ⟨j, h1, h2, h3⟩ := fwd_max h.reach
  have h4 := h.inside (d := T) (j := j) h1 (by omega) (by omega)
  refine ⟨j, h1, by omega, ?_⟩
  unfold fy at h4 ⊢
  omega
/-- where no label of the levels up to d is the end, the shortest way is longer -/
theorem Short.more {T d : Nat} (h : Short E N M T) (hn : ∀ d' j, d' ≤ d → j ≤ d' → ¬ (fwd E N M d' j = N ∧ fy E N M d' j = M)) : d < T := by
  rcases Nat.lt_or_ge d T with h1 | h1
  · exact h1
  · obtain ⟨j, h2, h3⟩ := h.label
    exact absurd h3 (hn T j h1 h2)
theorem Short.here {T d j : Nat} (h : Short E N M T) (hj : j ≤ d) (h1 : fwd E N M d j = N) (h2 : fy E N M d j = M) : T ≤ d := by
  have := reach_fwd (E := E) (N := N) (M := M) d j hj
  rw [h1, h2] at this
  exact h.least _ this
/-- at a level ahead of the shortest way's a label lies inside -/
theorem Short.some_inside {T d : Nat} (h : Short E N M T) (hd : d < T) : ∃ j, j ≤ d ∧ fwd E N M d j ≤ N ∧ fy E N M d j ≤ M := by
  obtain ⟨m, hm, hm1, hm2⟩ := h.par
  have key : ∃ j, j ≤ d ∧ 2 * j + M + d ≤ d + N + T ∧ d + N + d ≤ 2 * j + M + T := by
    by_cases h1 : M ≤ N
    · by_cases h2 : d ≤ N - M
      · exact ⟨d, Nat.le_refl _, by omega, by omega⟩
      · exact ⟨(N - M + d) / 2, by omega, by omega, by omega⟩
    · by_cases h2 : d ≤ M - N
      · exact ⟨0, Nat.zero_le _, by omega, by omega⟩
      · exact ⟨(d + 1 - (M - N)) / 2, by omega, by omega, by omega⟩
  obtain ⟨j, h1, h2, h3⟩ := key
  exact ⟨j, h1, h.inside h1 h2 h3⟩
end
end Go.Proofs.YtgphjnhbheimiaaGreatDoor
