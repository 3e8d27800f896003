/-
  Differences out of pieces; what they keep; the table of the longest common subsequence: plain theory, no program in sight. No condition.
-/
import Derived.Test.YtgjbagojcbondaaDoorLcsQ
namespace Go.Proofs.YtgjbagojcbondaaDoor
set_option linter.unusedVariables false

/-- a difference: what it takes of the first, what it puts of the second -/
structure Df where
  s : Nat
  e : Nat
  rs : Nat
  re : Nat

/-- the differences between pieces, from (a, b) on -/
def diffsFrom (N M : Nat) : Nat → Nat → List Pc → List Df
  | a, b, [] => if a < N ∨ b < M then [⟨a, N, b, M⟩] else []
  | a, b, p :: ps => (if a < p.x ∨ b < p.y then [⟨a, p.x, b, p.y⟩] else []) ++ diffsFrom N M (p.x + p.l) (p.y + p.l) ps

/-- the differences lead from the first to the second from (a, b) on, and keep k -/
def Lead (E : EQT) (N M : Nat) : Nat → Nat → List Df → Nat → Prop
  | a, b, [], k => a ≤ N ∧ b ≤ M ∧ N + b = M + a ∧ (∀ i, a + i < N → E (a + i) (b + i) = true) ∧ k + a = N
  | a, b, d :: ds, k => a ≤ d.s ∧ d.s ≤ d.e ∧ d.e ≤ N ∧ b ≤ d.rs ∧ d.rs ≤ d.re ∧ d.re ≤ M ∧ d.s + b = d.rs + a ∧ (∀ i, a + i < d.s → E (a + i) (b + i) = true) ∧ ∃ k', k + a = d.s + k' ∧ Lead E N M d.e d.re ds k'

theorem lead_of {E : EQT} {N M : Nat} {ps : List Pc} : ∀ {a b a' b'}, Ch E a' b' ps N M → a ≤ a' → b ≤ b' → a' + b = b' + a → (∀ i, a + i < a' → E (a + i) (b + i) = true) → Lead E N M a b (diffsFrom N M a' b' ps) (a' - a + sumP ps) := by
  induction ps with
  | nil =>
    intro a b a' b' h h1 h2 h3 h4
    unfold diffsFrom
    by_cases h5 : a' < N ∨ b' < M
    · rw [if_pos h5]
      refine ⟨h1, h.1, Nat.le_refl _, h2, h.2, Nat.le_refl _, h3, h4, 0, ?_, Nat.le_refl _, Nat.le_refl _, Nat.add_comm _ _, fun i (hi : N + i < N) => by omega, Nat.zero_add _⟩
      show _ = a' + 0
      simp [sumP]; omega
    · rw [if_neg h5]
      have := h.1
      have := h.2
      obtain rfl : a' = N := by omega
      obtain rfl : b' = M := by omega
      exact ⟨h1, h2, by omega, h4, by simp [sumP]; omega⟩
  | cons p ps ih =>
    intro a b a' b' h h1 h2 h3 h4
    obtain ⟨g1, g2, ⟨g3, g4⟩, g5⟩ := h
    have hle := g5.le
    unfold diffsFrom
    by_cases h5 : a' < p.x ∨ b' < p.y
    · rw [if_pos h5]
      have := ih (a := p.x) (b := p.y) g5 (by omega) (by omega) (by omega) (fun i hi => g4 i (by omega))
      refine ⟨h1, g1, by show p.x ≤ N; omega, h2, g2, by show p.y ≤ M; omega, h3, h4, _, ?_, this⟩
      show _ = a' + _
      rw [sumP_cons]; omega
    · rw [if_neg h5]
      have := ih (a := a) (b := b) g5 (by omega) (by omega) (by omega) (fun i hi => by
        rcases Nat.lt_or_ge (a + i) a' with h6 | h6
        · exact h4 i h6
        · have := g4 (a + i - p.x) (by omega)
          rw [show p.x + (a + i - p.x) = a + i by omega, show p.y + (a + i - p.x) = b + i by omega] at this
          exact this)
      rw [List.nil_append, sumP_cons]
      rw [show a' - a + (p.l + sumP ps) = p.x + p.l - a + sumP ps by omega]
      exact this

/-- the table of the longest common subsequence -/
def lcsW (E : EQT) : Nat → Nat → Nat
  | 0, _ => 0
  | _ + 1, 0 => 0
  | i + 1, j + 1 => if E i j then lcsW E i j + 1 else max (lcsW E i (j + 1)) (lcsW E (i + 1) j)
section
variable {E : EQT}
theorem lcsW_zero (i : Nat) : lcsW E i 0 = 0 := by cases i <;> simp [lcsW]
theorem lcsW_step (n : Nat) : ∀ i j, i + j ≤ n → lcsW E i j ≤ lcsW E (i + 1) j ∧ lcsW E (i + 1) j ≤ lcsW E i j + 1 ∧ lcsW E i j ≤ lcsW E i (j + 1) ∧ lcsW E i (j + 1) ≤ lcsW E i j + 1 := by
  induction n with
  | zero =>
    intro i j h
    obtain rfl : i = 0 := by omega
    obtain rfl : j = 0 := by omega
    simp [lcsW]
  | succ n ih =>
    intro i j h
    constructor
    · cases j with
      | zero => simp [lcsW_zero]
      | succ j =>
        have h1 := ih i j (by omega)
        simp only [lcsW]
        split <;> omega
    constructor
    · cases j with
      | zero => simp [lcsW_zero]
      | succ j =>
        have h1 := ih i j (by omega)
        simp only [lcsW]
        split <;> omega
    constructor
    · cases i with
      | zero => simp [lcsW]
      | succ i =>
        have h1 := ih i j (by omega)
        simp only [lcsW]
        split <;> omega
    · cases i with
      | zero => simp [lcsW]
      | succ i =>
        have h1 := ih i j (by omega)
        simp only [lcsW]
        split <;> omega
theorem reach_lcsW {N M d x y : Nat} (h : Reach E N M d x y) : x + y ≤ d + 2 * lcsW E x y := by
  induction h with
  | zero => simp
  | @right d x y _ ih => have := lcsW_step (E := E) (x + y) x y (Nat.le_refl _); omega
  | @down d x y _ ih => have := lcsW_step (E := E) (x + y) x y (Nat.le_refl _); omega
  | @diag d x y _ _ _ hE ih =>
    have : lcsW E (x + 1) (y + 1) = lcsW E x y + 1 := by simp [lcsW, hE]
    omega
theorem lcsW_reach {N M : Nat} (n : Nat) : ∀ x y, x + y ≤ n → x ≤ N → y ≤ M → ∃ d, Reach E N M d x y ∧ d + 2 * lcsW E x y = x + y := by
  induction n with
  | zero =>
    intro x y h _ _
    obtain rfl : x = 0 := by omega
    obtain rfl : y = 0 := by omega
    exact ⟨0, .zero, by simp [lcsW]⟩
  | succ n ih =>
    intro x y h hx hy
    cases x with
    | zero => exact ⟨0 + y, reach_any 0 y, by simp [lcsW]⟩
    | succ x =>
      cases y with
      | zero => exact ⟨x + 1 + 0, reach_any (x + 1) 0, by simp [lcsW]⟩
      | succ y =>
        by_cases hE : E x y = true
        · obtain ⟨d, h1, h2⟩ := ih x y (by omega) (by omega) (by omega)
          exact ⟨d, h1.diag (by omega) (by omega) hE, by simp [lcsW, hE]; omega⟩
        · have e : lcsW E (x + 1) (y + 1) = max (lcsW E x (y + 1)) (lcsW E (x + 1) y) := by simp [lcsW, hE]
          rcases Nat.le_total (lcsW E x (y + 1)) (lcsW E (x + 1) y) with hm | hm
          · obtain ⟨d, h1, h2⟩ := ih (x + 1) y (by omega) (by omega) (by omega)
            exact ⟨d + 1, h1.down, by omega⟩
          · obtain ⟨d, h1, h2⟩ := ih x (y + 1) (by omega) (by omega) (by omega)
            exact ⟨d + 1, h1.right, by omega⟩
theorem short_lcsW {N M T : Nat} (h : Short E N M T) : T + 2 * lcsW E N M = N + M := by
  obtain ⟨d, h1, h2⟩ := lcsW_reach (E := E) (N := N) (M := M) (N + M) N M (Nat.le_refl _) (Nat.le_refl _) (Nat.le_refl _)
  have h3 := h.least _ h1
  have h4 := reach_lcsW h.reach
  omega
end
end Go.Proofs.YtgjbagojcbondaaDoor
