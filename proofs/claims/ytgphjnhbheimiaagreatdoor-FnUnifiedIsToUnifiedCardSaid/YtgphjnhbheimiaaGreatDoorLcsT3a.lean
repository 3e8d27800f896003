/-
  What the backward loop's round needs of labels, in one lemma. No program in sight. No condition but bounds.
-/
import Derived.Test.YtgphjnhbheimiaaGreatDoorLcsT2
namespace Go.Proofs.YtgphjnhbheimiaaGreatDoor
set_option linter.unusedVariables false

/-- the numbers of a round of the backward loop at index i of level D + 1 -/
structure BwdPre (E : EQT) (N M D i : Nat) (rb : List LRow) (m F1 F2 Y1 Y2 A C : Nat) : Prop where
  m0 : m = D + 1 - i
  m1 : 1 ≤ m
  m2 : m ≤ D
  l1 : Lab rb D i ((N : Int) - (F1 : Nat))
  l2 : Lab rb D (i - 1) ((N : Int) - (F2 : Nat))
  a : slide (rev E N M) N M (F1 + 1) Y1 = A
  c : slide (rev E N M) N M F2 (Y2 + 1) = C
  y1 : Y1 + 2 * m = F1 + D + 2
  y2 : Y2 + 2 * m = F2 + D
  f1 : F1 ≤ N + D
  f2 : F2 ≤ N + D
  yb1 : Y1 ≤ M + D
  yb2 : Y2 ≤ M + D
  ba : A ≤ 1100000
  bc : C ≤ 1100000
  mid : slide (rev E N M) N M (if A < C then C else A) ((if A < C then C else A) + (D + 1) - 2 * m) = fwd (rev E N M) N M (D + 1) m ∧ 2 * m ≤ (if A < C then C else A) + (D + 1)
theorem bwd_pre {E : EQT} {N M D i : Nat} {rb : List LRow} (hB : FullB E N M rb D) (hi1 : 1 ≤ i) (hiD : i ≤ D) (hN : N ≤ 1000001) (hM : M ≤ 1000001) (hD : D ≤ 2001)
    (hmid : ∀ m A C, 1 ≤ m → m ≤ D → slide (rev E N M) N M (fwd (rev E N M) N M D (m - 1) + 1) (fy (rev E N M) N M D (m - 1)) = A → slide (rev E N M) N M (fwd (rev E N M) N M D m) (fy (rev E N M) N M D m + 1) = C →
      slide (rev E N M) N M (if A < C then C else A) ((if A < C then C else A) + (D + 1) - 2 * m) = fwd (rev E N M) N M (D + 1) m ∧ 2 * m ≤ (if A < C then C else A) + (D + 1)) :
    ∃ m F1 F2 Y1 Y2 A C, BwdPre E N M D i rb m F1 F2 Y1 Y2 A C := by
  obtain ⟨m, hm⟩ : ∃ m, m = D + 1 - i := ⟨_, rfl⟩
  have hm1 : 1 ≤ m := by omega
  have hm2 : m ≤ D := by omega
  have hF1 := fwd_le (E := rev E N M) (N := N) (M := M) D (m - 1) (by omega)
  have hF2 := fwd_le (E := rev E N M) (N := N) (M := M) D m hm2
  have hg1 := fwd_ge (rev E N M) N M D (m - 1) (by omega)
  have hg2 := fwd_ge (rev E N M) N M D m hm2
  have hy1 : fy (rev E N M) N M D (m - 1) + 2 * (m - 1) = fwd (rev E N M) N M D (m - 1) + D := by unfold fy; omega
  have hy2 : fy (rev E N M) N M D m + 2 * m = fwd (rev E N M) N M D m + D := by unfold fy; omega
  have hsA := slide_le (E := rev E N M) (N := N) (M := M) (fwd (rev E N M) N M D (m - 1) + 1) (fy (rev E N M) N M D (m - 1))
  have hsC := slide_le (E := rev E N M) (N := N) (M := M) (fwd (rev E N M) N M D m) (fy (rev E N M) N M D m + 1)
  have hl1 := hB D (m - 1) (Nat.le_refl _) (by omega)
  have hl2 := hB D m (Nat.le_refl _) hm2
  rw [show D - (m - 1) = i by omega] at hl1
  rw [show D - m = i - 1 by omega] at hl2
  exact ⟨m, _, _, _, _, _, _, ⟨hm, hm1, hm2, hl1, hl2, rfl, rfl, by omega, hy2, hF1.1, hF2.1, hF1.2, hF2.2, by omega, by omega, hmid m _ _ hm1 hm2 rfl rfl⟩⟩
end Go.Proofs.YtgphjnhbheimiaaGreatDoor
