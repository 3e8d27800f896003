/-
  How long two sequences are alike at their beginnings and at their ends: the walks of commonPrefixLen and commonSuffixLen at bytes, and of the functions that call them. No condition.
-/
import Derived.Test.YtgphjnhbheimiaaGreatDoorSmall
namespace Go.Proofs.YtgphjnhbheimiaaGreatDoor
set_option linter.unusedVariables false
open Go.RowKit

/-- how long two lists are alike at their beginnings -/
def cpl {α : Type} [DecidableEq α] : List α → List α → Nat
  | a :: l, b :: r => if a = b then cpl l r + 1 else 0
  | _, _ => 0
def csl {α : Type} [DecidableEq α] (a b : List α) : Nat := cpl a.reverse b.reverse

theorem cpl_eq (a b : List Int) (k : Nat) (h0 : k ≤ a.length) (h1 : k ≤ b.length) (hall : ∀ j, j < k → ix a j = ix b j)
   (hend : k = a.length ∨ k = b.length ∨ ix a k ≠ ix b k) : cpl a b = k := by
  induction k generalizing a b with
  | zero =>
    cases a with
    | nil => simp [cpl]
    | cons x a =>
      cases b with
      | nil => simp [cpl]
      | cons y b => simp [ix] at hend; simp [cpl, hend]
  | succ k ih =>
    cases a with
    | nil => simp at h0
    | cons x a =>
      cases b with
      | nil => simp at h1
      | cons y b =>
        have h := hall 0 (by omega)
        simp [ix] at h
        subst h
        simp only [cpl, if_true]
        rw [ih a b (by simpa using h0) (by simpa using h1) (fun j hj => by simpa [ix] using hall (j+1) (by omega)) (by simpa [ix] using hend)]

theorem cpl_le {α : Type} [DecidableEq α] (a b : List α) : cpl a b ≤ a.length ∧ cpl a b ≤ b.length := by
  induction a generalizing b with
  | nil => simp [cpl]
  | cons x a ih =>
    cases b with
    | nil => simp [cpl]
    | cons y b =>
      simp only [cpl]
      have := ih b
      split
      · simp only [List.length_cons]; omega
      · simp
theorem cpl_all (a b : List Int) (j : Nat) (h : j < cpl a b) : ix a j = ix b j := by
  induction a generalizing b j with
  | nil => simp [cpl] at h
  | cons x a ih =>
    cases b with
    | nil => simp [cpl] at h
    | cons y b =>
      simp only [cpl] at h
      split at h
      · rename_i hxy
        cases j with
        | zero => simp [ix, hxy]
        | succ j => simpa [ix] using ih b j (by omega)
      · omega
theorem cpl_next (a b : List Int) (h0 : cpl a b < a.length) (h1 : cpl a b < b.length) : ix a (cpl a b) ≠ ix b (cpl a b) := by
  induction a generalizing b with
  | nil => simp at h0
  | cons x a ih =>
    cases b with
    | nil => simp at h1
    | cons y b =>
      simp only [cpl] at *
      split at h0
      · rename_i hxy
        rw [if_pos hxy] at h1 ⊢
        simpa [ix] using ih b (by simpa using h0) (by simpa using h1)
      · rename_i hxy
        rw [if_neg hxy]
        simpa [ix] using hxy
theorem ix_reverse (a : List Int) (j : Nat) (h : j < a.length) : ix a.reverse j = ix a (a.length - 1 - j) := by
  have h2 : a.length - 1 - j < a.length := by omega
  simp [ix, h, h2]
theorem csl_eq (a b : List Int) (k : Nat) (h0 : k ≤ a.length) (h1 : k ≤ b.length) (hall : ∀ j, j < k → ix a (a.length - 1 - j) = ix b (b.length - 1 - j))
   (hend : k = a.length ∨ k = b.length ∨ ix a (a.length - 1 - k) ≠ ix b (b.length - 1 - k)) : csl a b = k := by
  unfold csl
  refine cpl_eq _ _ k (by simpa using h0) (by simpa using h1) (fun j hj => ?_) ?_
  · rw [ix_reverse a j (by omega), ix_reverse b j (by omega)]
    exact hall j hj
  · by_cases e0 : k = a.length
    · left; simpa using e0
    · by_cases e1 : k = b.length
      · right; left; simpa using e1
      · right; right
        rw [ix_reverse a k (by omega), ix_reverse b k (by omega)]
        rcases hend with h | h | h
        · exact absurd h e0
        · exact absurd h e1
        · exact h

theorem csl_le {α : Type} [DecidableEq α] (a b : List α) : csl a b ≤ a.length ∧ csl a b ≤ b.length := by
  have := cpl_le a.reverse b.reverse
  simpa [csl] using this
theorem csl_all (a b : List Int) (j : Nat) (h : j < csl a b) : ix a (a.length - 1 - j) = ix b (b.length - 1 - j) := by
  have h1 := csl_le a b
  have h2 := cpl_all a.reverse b.reverse j h
  rw [ix_reverse a j (by omega), ix_reverse b j (by omega)] at h2
  exact h2
theorem csl_next (a b : List Int) (h0 : csl a b < a.length) (h1 : csl a b < b.length) : ix a (a.length - 1 - csl a b) ≠ ix b (b.length - 1 - csl a b) := by
  have h2 := cpl_next a.reverse b.reverse (by simpa [csl] using h0) (by simpa [csl] using h1)
  rw [ix_reverse a _ (by exact h0), ix_reverse b _ (by exact h1)] at h2
  exact h2

theorem run_min2 {P : Program} (w : World) (t : TypeId) (a b n : Nat) (h : n = min a b) :
   (Builtin.min_ #[t, t] t #[.int .i64 (a : Int), .int .i64 (b : Int)]).run P w = .ok (.int .i64 (n : Int)) w := by
  subst h
  simp only [Builtin.min_, List.foldlM, Builtin.min2]
  simp only [Sem.run_bind, Sem.run_pure, Result.andThen_ok]
  congr 2
  split <;> omega


end Go.Proofs.YtgphjnhbheimiaaGreatDoor
