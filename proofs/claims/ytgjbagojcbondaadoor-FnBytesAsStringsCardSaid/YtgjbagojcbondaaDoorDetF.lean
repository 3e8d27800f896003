/-
  The ways back from labels, as relations that leave no choice. No program in sight. No condition.
-/
import Derived.Test.YtgjbagojcbondaaDoorLcsQ
namespace Go.Proofs.YtgjbagojcbondaaDoor
set_option linter.unusedVariables false

section
variable (E : EQT) (N M : Nat)
/-- the way back goes left -/
def FwA (d j x : Nat) : Prop := 1 ≤ d ∧ 1 ≤ j ∧ x = fwd E N M (d - 1) (j - 1) + 1
/-- the way back goes down -/
def FwB (d j x : Nat) : Prop := 1 ≤ d ∧ j + 1 ≤ d ∧ x = fwd E N M (d - 1) j
/-- the pieces that the way back to the start leaves -/
inductive FwE : Nat → Nat → Nat → Nat → List Pc → List Pc → Prop
  | stop {d j x y : Nat} {ps : List Pc} : x = 0 → y = 0 → FwE d j x y ps ps
  | left {d j x y : Nat} {ps r : List Pc} : ¬ (x = 0 ∧ y = 0) → FwA E N M d j x → FwE (d - 1) (j - 1) (x - 1) y ps r → FwE d j x y ps r
  | down {d j x y : Nat} {ps r : List Pc} : ¬ (x = 0 ∧ y = 0) → ¬ FwA E N M d j x → FwB E N M d j x → FwE (d - 1) j x (y - 1) ps r → FwE d j x y ps r
  | diag {d j x y : Nat} {ps r : List Pc} : ¬ (x = 0 ∧ y = 0) → ¬ FwA E N M d j x → ¬ FwB E N M d j x → FwE d j (x - 1) (y - 1) (prep (x - 1) (y - 1) ps) r → FwE d j x y ps r
/-- the pieces that the way on to the end leaves -/
inductive BwE : Nat → Nat → Nat → Nat → List Pc → List Pc → Prop
  | stop {d j a b : Nat} {ps : List Pc} : a = N → b = M → BwE d j a b ps ps
  | down {d j a b : Nat} {ps r : List Pc} : ¬ (a = N ∧ b = M) → FwB (rev E N M) N M d j (N - a) → BwE (d - 1) j a (b + 1) ps r → BwE d j a b ps r
  | left {d j a b : Nat} {ps r : List Pc} : ¬ (a = N ∧ b = M) → ¬ FwB (rev E N M) N M d j (N - a) → FwA (rev E N M) N M d j (N - a) → BwE (d - 1) (j - 1) (a + 1) b ps r → BwE d j a b ps r
  | diag {d j a b : Nat} {ps r : List Pc} : ¬ (a = N ∧ b = M) → ¬ FwB (rev E N M) N M d j (N - a) → ¬ FwA (rev E N M) N M d j (N - a) → BwE d j (a + 1) (b + 1) (appd ps a b) r → BwE d j a b ps r
end
section
variable {E : EQT} {N M : Nat}
theorem FwE.uniq {d j x y : Nat} {ps r : List Pc} (h : FwE E N M d j x y ps r) : ∀ r', FwE E N M d j x y ps r' → r = r' := by
  induction h with
  | stop h1 h2 =>
    intro r' h'
    cases h' with
    | stop => rfl
    | left h3 => exact absurd ⟨h1, h2⟩ h3
    | down h3 => exact absurd ⟨h1, h2⟩ h3
    | diag h3 => exact absurd ⟨h1, h2⟩ h3
  | left h1 h2 h3 ih =>
    intro r' h'
    cases h' with
    | stop h4 h5 => exact absurd ⟨h4, h5⟩ h1
    | left _ _ h6 => exact ih r' h6
    | down _ h5 => exact absurd h2 h5
    | diag _ h5 => exact absurd h2 h5
  | down h1 h2 h3 h4 ih =>
    intro r' h'
    cases h' with
    | stop h5 h6 => exact absurd ⟨h5, h6⟩ h1
    | left _ h5 => exact absurd h5 h2
    | down _ _ _ h6 => exact ih r' h6
    | diag _ _ h5 => exact absurd h3 h5
  | diag h1 h2 h3 h4 ih =>
    intro r' h'
    cases h' with
    | stop h5 h6 => exact absurd ⟨h5, h6⟩ h1
    | left _ h5 => exact absurd h5 h2
    | down _ _ h5 => exact absurd h5 h3
    | diag _ _ _ h6 => exact ih r' h6
theorem BwE.uniq {d j a b : Nat} {ps r : List Pc} (h : BwE E N M d j a b ps r) : ∀ r', BwE E N M d j a b ps r' → r = r' := by
  induction h with
  | stop h1 h2 =>
    intro r' h'
    cases h' with
    | stop => rfl
    | left h3 => exact absurd ⟨h1, h2⟩ h3
    | down h3 => exact absurd ⟨h1, h2⟩ h3
    | diag h3 => exact absurd ⟨h1, h2⟩ h3
  | down h1 h2 h3 ih =>
    intro r' h'
    cases h' with
    | stop h4 h5 => exact absurd ⟨h4, h5⟩ h1
    | down _ _ h6 => exact ih r' h6
    | left _ h5 => exact absurd h2 h5
    | diag _ h5 => exact absurd h2 h5
  | left h1 h2 h3 h4 ih =>
    intro r' h'
    cases h' with
    | stop h5 h6 => exact absurd ⟨h5, h6⟩ h1
    | down _ h5 => exact absurd h5 h2
    | left _ _ _ h6 => exact ih r' h6
    | diag _ _ h5 => exact absurd h3 h5
  | diag h1 h2 h3 h4 ih =>
    intro r' h'
    cases h' with
    | stop h5 h6 => exact absurd ⟨h5, h6⟩ h1
    | down _ h5 => exact absurd h5 h2
    | left _ _ h5 => exact absurd h5 h3
    | diag _ _ _ h6 => exact ih r' h6
end

theorem of_beq_f {a b : Int} (h : (a == b) = false) : ¬ a = b := by simpa using h
theorem to_beq {a b : Int} (h : a = b) : (a == b) = true := by subst h; simp

/-! ### which label inside lies furthest -/
/-- the forward label seen so far that lies inside and furthest: its number (as the code keeps it) and how far it lies -/
def selF (E : EQT) (N M lim : Nat) : Nat → Int × Int
  | 0 => (-(lim : Int) - 1, -1)
  | i + 1 => if (selF E N M lim i).2 < (fwd E N M lim i : Int) + (fy E N M lim i : Nat) ∧ fwd E N M lim i ≤ N ∧ fy E N M lim i ≤ M then (2 * (i : Int) - (lim : Int), (fwd E N M lim i : Int) + (fy E N M lim i : Nat)) else selF E N M lim i
/-- the same from the end; k0 is what the code has kept before -/
def selB (E : EQT) (N M lim : Nat) (k0 : Int) : Nat → Int × Int
  | 0 => (k0, 33554432)
  | i + 1 =>
    if (N : Int) - (fwd (rev E N M) N M lim (lim - i) : Nat) + ((M : Int) - (fy (rev E N M) N M lim (lim - i) : Nat)) < (selB E N M lim k0 i).2 ∧ fwd (rev E N M) N M lim (lim - i) ≤ N ∧ fy (rev E N M) N M lim (lim - i) ≤ M
    then (2 * (i : Int) - (lim : Int), (N : Int) - (fwd (rev E N M) N M lim (lim - i) : Nat) + ((M : Int) - (fy (rev E N M) N M lim (lim - i) : Nat)))
    else selB E N M lim k0 i
theorem selF_yes {E : EQT} {N M lim i X Y : Nat} {k15 k16 k17 : Int} (h : (k15, k16) = selF E N M lim i) (hX : fwd E N M lim i = X) (hY : fy E N M lim i = Y) (t1 : k16 < (X : Int) + (Y : Int)) (t2 : X ≤ N) (t3 : Y ≤ M) (hk : k17 = 2 * (i : Int) - (lim : Int)) : (k17, (X : Int) + (Y : Int)) = selF E N M lim (i + 1) := by
  simp only [selF]
  rw [← h, hX, hY, if_pos ⟨t1, t2, t3⟩, hk]
theorem selF_no {E : EQT} {N M lim i X Y : Nat} {k15 k16 : Int} (h : (k15, k16) = selF E N M lim i) (hX : fwd E N M lim i = X) (hY : fy E N M lim i = Y) (hn : ¬ (k16 < (X : Int) + (Y : Int) ∧ X ≤ N ∧ Y ≤ M)) : (k15, k16) = selF E N M lim (i + 1) := by
  simp only [selF]
  rw [← h, hX, hY, if_neg hn]
theorem selB_yes {E : EQT} {N M lim i X Y : Nat} {k0 k14 k20 k21 u y : Int} (h : (k14, k20) = selB E N M lim k0 i) (hX : fwd (rev E N M) N M lim (lim - i) = X) (hY : fy (rev E N M) N M lim (lim - i) = Y) (hu : (N : Int) - (X : Int) = u) (hy : (M : Int) - (Y : Int) = y) (t1 : u + y < k20) (t2 : 0 ≤ u) (t3 : 0 ≤ y) (hk : k21 = 2 * (i : Int) - (lim : Int)) : (k21, u + y) = selB E N M lim k0 (i + 1) := by
  simp only [selB]
  rw [← h, hX, hY, hu, hy, if_pos ⟨t1, by omega, by omega⟩, hk]
theorem selB_no {E : EQT} {N M lim i X Y : Nat} {k0 k14 k20 u y : Int} (h : (k14, k20) = selB E N M lim k0 i) (hX : fwd (rev E N M) N M lim (lim - i) = X) (hY : fy (rev E N M) N M lim (lim - i) = Y) (hu : (N : Int) - (X : Int) = u) (hy : (M : Int) - (Y : Int) = y) (hn : ¬ (u + y < k20 ∧ 0 ≤ u ∧ 0 ≤ y)) : (k14, k20) = selB E N M lim k0 (i + 1) := by
  simp only [selB]
  rw [← h, hX, hY, hu, hy, if_neg (fun h9 => hn ⟨h9.1, by omega, by omega⟩)]
end Go.Proofs.YtgjbagojcbondaaDoor
