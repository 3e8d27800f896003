/-
  How many differences there are where all is alike but one element at the end, and where nothing is alike: plain theory. No condition.
-/
import Derived.Test.YtbolgikdadhaeaaLcsN
import Derived.Test.YtbolgikdadhaeaaLcsT3
namespace Go.Proofs.Ytbolgikdadhaeaa
set_option linter.unusedVariables false

theorem reach_all {E : EQT} {N M : Nat} : ∀ n, n ≤ N → n ≤ M → (∀ i, i < n → E i i = true) → Reach E N M 0 n n := by
  intro n
  induction n with
  | zero => intros; exact .zero
  | succ n ih =>
    intro h1 h2 h3
    exact (ih (by omega) (by omega) (fun i hi => h3 i (by omega))).diag (by omega) (by omega) (h3 n (by omega))
theorem alike0 {E : EQT} {N : Nat} {ps : List Pc} (h : ∀ i, i < N → E i i = true) (hch : Ch E 0 0 ps N N) (hq : QT E N N 50 ps) : (diffsFrom N N 0 0 ps).length = 0 := by
  obtain ⟨T, hT⟩ := short_ex E N N
  have h1 := hT.least _ (reach_all N (Nat.le_refl _) (Nat.le_refl _) h)
  have h2 := hq T hT (by omega)
  have h3 := diffs_room hch
  omega
theorem alike1 {E : EQT} {N : Nat} {ps : List Pc} (h : ∀ i, i < N → E i i = true) (hch : Ch E 0 0 ps N (N + 1)) (hq : QT E N (N + 1) 50 ps) : (diffsFrom N (N + 1) 0 0 ps).length = 1 := by
  obtain ⟨T, hT⟩ := short_ex E N (N + 1)
  have h1 := hT.least _ (reach_all N (Nat.le_refl _) (by omega) h).down
  have h2 := hq T hT (by omega)
  have h3 := diffs_room hch
  have h4 : (diffsFrom N (N + 1) 0 0 ps).length ≠ 0 := fun h0 => by
    have := diffs_none hch (List.eq_nil_of_length_eq_zero h0)
    omega
  omega
theorem alike2 {E : EQT} {N : Nat} {ps : List Pc} (h : ∀ i, i < N → E i i = true) (hch : Ch E 0 0 ps (N + 1) N) (hq : QT E (N + 1) N 50 ps) : (diffsFrom (N + 1) N 0 0 ps).length = 1 := by
  obtain ⟨T, hT⟩ := short_ex E (N + 1) N
  have h1 := hT.least _ (reach_all N (by omega) (Nat.le_refl _) h).right
  have h2 := hq T hT (by omega)
  have h3 := diffs_room hch
  have h4 : (diffsFrom (N + 1) N 0 0 ps).length ≠ 0 := fun h0 => by
    have := diffs_none hch (List.eq_nil_of_length_eq_zero h0)
    omega
  omega
theorem apart_nil {E : EQT} {N M : Nat} {ps : List Pc} (h : ∀ i j, i < N → j < M → E i j = false) (hch : Ch E 0 0 ps N M) : ps = [] := by
  cases ps with
  | nil => rfl
  | cons p ps =>
    obtain ⟨g1, g2, ⟨g3, g4⟩, g5⟩ := hch
    have := g5.le
    have h1 := g4 0 g3
    rw [h _ _ (by omega) (by omega)] at h1
    cases h1
theorem apart_one {N M : Nat} (h : 0 < N) : diffsFrom N M 0 0 [] = [⟨0, N, 0, M⟩] := by
  unfold diffsFrom
  rw [if_pos (.inl h)]
theorem own_capA {w : World} {base e size n c : Nat} {A : Option Addr} {xs : List Value} (h : w.ownsRow base e size (.slice A n c) n xs) : n ≤ c := by
  rcases h.2 with ⟨h1, h2⟩ | ⟨g, cap, cur, hv, _, _, h3, _⟩
  · omega
  · injection hv with h1 h2 h4
    subst h4
    exact h3
theorem eqI_refl (xs : List Int) (i : Nat) : eqI xs xs i i = true := by simp [eqI]
theorem ix_app (xs : List Int) (x : Int) (i : Nat) (h : i < xs.length) : ix (xs ++ [x]) i = ix xs i := by simp [ix, List.getElem?_append_left h, h]
theorem eqI_more (xs : List Int) (x : Int) (i : Nat) (h : i < xs.length) : eqI xs (xs ++ [x]) i i = true := by simp [eqI, ix_app xs x i h]
theorem eqI_less (xs : List Int) (x : Int) (i : Nat) (h : i < xs.length) : eqI (xs ++ [x]) xs i i = true := by simp [eqI, ix_app xs x i h]
end Go.Proofs.Ytbolgikdadhaeaa
