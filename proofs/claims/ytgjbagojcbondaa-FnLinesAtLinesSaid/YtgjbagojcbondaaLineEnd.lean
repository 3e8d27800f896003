/-
  Edits between lines begin and end at the ends of lines, and put in whole lines. Plainly.
-/
import Derived.Test.YtgjbagojcbondaaLinesI
namespace Go.Proofs.Ytgjbagojcbondaa
set_option linter.unusedVariables false

/-- a text that ends with a line's end -/
def Ends10 (x : ByteArray) : Prop := 0 < x.size ∧ byteAt x (x.size - 1) = 10
theorem byteAt_left (a b : ByteArray) (k : Nat) (h : k < a.size) : byteAt (a ++ b) k = byteAt a k := by
  have h2 : k < a.data.toList.length := by simpa using h
  simp only [byteAt, ByteArray.data_append, Array.toList_append, List.getD_eq_getElem?_getD]
  rw [List.getElem?_append_left h2]
theorem byteAt_right (a b : ByteArray) (k : Nat) : byteAt (a ++ b) (a.size + k) = byteAt b k := by
  have h2 : a.data.toList.length = a.size := by simp
  simp only [byteAt, ByteArray.data_append, Array.toList_append, List.getD_eq_getElem?_getD]
  rw [List.getElem?_append_right (by rw [h2]; omega), h2, Nat.add_sub_cancel_left]
theorem Ends10.app {x : ByteArray} (h : Ends10 x) (y : ByteArray) : Ends10 (y ++ x) := by
  obtain ⟨h1, h2⟩ := h
  refine ⟨by rw [ByteArray.size_append]; omega, ?_⟩
  rw [ByteArray.size_append, show y.size + x.size - 1 = y.size + (x.size - 1) by omega, byteAt_right]
  exact h2
theorem byteAt_extract (s : ByteArray) (a b k : Nat) (hb : b ≤ s.size) (h : a + k < b) : byteAt (s.extract a b) k = byteAt s (a + k) := by
  have h1 : k < (s.extract a b).size := by rw [ByteArray.size_extract]; omega
  rw [byteAt_get _ _ h1, byteAt_get s (a + k) (by omega), ByteArray.getElem_extract]
theorem lnL_ends (s : ByteArray) : ∀ k, k ≤ s.size → ∀ x ∈ lnL s k, Ends10 x := by
  intro k
  induction k with
  | zero => intro _ x hx; simp [lnL_zero] at hx
  | succ k ih =>
    intro hk x hx
    by_cases h : byteAt s k = 10
    · rw [lnL_nl s k h] at hx
      rcases List.mem_append.1 hx with hx | hx
      · exact ih (by omega) x hx
      · have hx : x = s.extract (lnF s k) (k + 1) := by simpa using hx
        subst hx
        have hle := lnF_le s k
        have hsz : (s.extract (lnF s k) (k + 1)).size = k + 1 - lnF s k := by rw [ByteArray.size_extract]; omega
        refine ⟨by omega, ?_⟩
        rw [hsz, byteAt_extract s _ _ _ hk (by omega), show lnF s k + (k + 1 - lnF s k - 1) = k by omega]
        exact h
    · rw [lnL_no s k h] at hx
      exact ih (by omega) x hx
theorem linesF_ends (s : ByteArray) (i : Nat) (h : i < (linesF s).length) : ∀ x ∈ (linesF s).take i, Ends10 x := by
  intro x hx
  refine lnL_ends s s.size (Nat.le_refl _) x ?_
  unfold linesF at h hx
  split at h
  · rename_i g
    rw [if_pos g] at hx
    rw [List.length_append] at h
    rw [List.take_append_of_le_length (by simp at h; omega)] at hx
    exact List.mem_of_mem_take hx
  · rename_i g
    rw [if_neg g] at hx
    exact List.mem_of_mem_take hx
theorem joinB_ends : ∀ (L : List ByteArray), L ≠ [] → (∀ x ∈ L, Ends10 x) → Ends10 (joinB L) := by
  intro L
  induction L with
  | nil => intro h; exact absurd rfl h
  | cons x L ih =>
    intro _ h
    by_cases hL : L = []
    · subst hL
      have := h x (by simp)
      simpa [joinB] using this
    · exact (ih hL (fun y hy => h y (by simp [hy]))).app x
/-- a place at an end, or behind the end of a line -/
def LineAt (s : ByteArray) (p : Nat) : Prop := p = 0 ∨ p = s.size ∨ (0 < p ∧ p < s.size ∧ byteAt s (p - 1) = 10)
theorem lineAt_sum (s : ByteArray) (i : Nat) : LineAt s (totB ((linesF s).take i)) := by
  by_cases hi : i < (linesF s).length
  · by_cases h0 : i = 0
    · subst h0; exact .inl rfl
    · have h1 := joinB_ends ((linesF s).take i) (fun h => by
        have := congrArg List.length h
        rw [List.length_take, List.length_nil] at this
        omega) (linesF_ends s i hi)
      have h2 : s = joinB ((linesF s).take i) ++ joinB ((linesF s).drop i) := by rw [← joinB_append, List.take_append_drop, joinB_lines]
      have h3 := congrArg ByteArray.size h2
      rw [ByteArray.size_append, joinB_size, joinB_size] at h3
      obtain ⟨h4, h5⟩ := h1
      rw [joinB_size] at h4 h5
      by_cases h6 : totB ((linesF s).take i) = s.size
      · exact .inr (.inl h6)
      · refine .inr (.inr ⟨h4, by omega, ?_⟩)
        have h7 := byteAt_left (joinB ((linesF s).take i)) (joinB ((linesF s).drop i)) (totB ((linesF s).take i) - 1) (by rw [joinB_size]; omega)
        rw [← h2, h5] at h7
        exact h7
  · refine .inr (.inl ?_)
    rw [List.take_of_length_le (by omega)]
    exact linesF_tot s
theorem diffs_end {E : EQT} {N M : Nat} {ps : List Pc} : ∀ {a b : Nat}, Ch E a b ps N M → ∀ d ∈ diffsFrom N M a b ps, d.re = M → d.e = N := by
  induction ps with
  | nil =>
    intro a b h d hd hr
    unfold diffsFrom at hd
    split at hd
    · have : d = ⟨a, N, b, M⟩ := by simpa using hd
      subst this
      rfl
    · cases hd
  | cons p ps ih =>
    intro a b h d hd hr
    obtain ⟨g1, g2, ⟨g3, g4⟩, g5⟩ := h
    unfold diffsFrom at hd
    rcases List.mem_append.1 hd with hd | hd
    · split at hd
      · have : d = ⟨a, p.x, b, p.y⟩ := by simpa using hd
        subst this
        have := g5.le
        simp only at hr
        omega
      · cases hd
    · exact ih g5 d hd hr
/-- a text put in: nothing, or whole lines -/
def Whole (n : ByteArray) : Prop := n.size = 0 ∨ Ends10 n
theorem linesP_at {s t : ByteArray} {es : List Ed} (h : LinesP s t es) : ∀ k, k < es.length → ∃ p q : Nat, eS es k = p ∧ eE es k = q ∧ LineAt s p ∧ LineAt s q ∧ (Whole (eN es k) ∨ q = s.size) := by
  obtain ⟨ps, h1, h2, rfl⟩ := h
  intro k hk
  rw [edsOf_len] at hk
  obtain ⟨kk, hkk⟩ := lead_chain h1
  have hb := lead_bounds hkk _ (List.getElem_mem hk)
  have he := diffs_end h1 _ (List.getElem_mem hk)
  have ha := edsOf_at (linesF s) (linesF t) _ k hk
  generalize (diffsFrom (linesF s).length (linesF t).length 0 0 ps)[k] = d at *
  unfold eS eE eN
  rw [ha]
  refine ⟨_, _, rfl, rfl, lineAt_sum s d.s, lineAt_sum s d.e, ?_⟩
  by_cases hr : d.re = (linesF t).length
  · right
    rw [he hr, List.take_length]
    exact linesF_tot s
  · left
    by_cases hq : d.rs = d.re
    · left
      rw [hq, Nat.sub_self, List.take_zero]
      rfl
    · right
      refine joinB_ends _ (fun h => ?_) (fun x hx => ?_)
      · have := congrArg List.length h
        rw [List.length_take, List.length_drop, List.length_nil] at this
        omega
      · refine linesF_ends t d.re (by omega) x ?_
        rw [List.take_drop, show d.rs + (d.re - d.rs) = d.re by omega] at hx
        exact List.mem_of_mem_drop hx
end Go.Proofs.Ytgjbagojcbondaa
