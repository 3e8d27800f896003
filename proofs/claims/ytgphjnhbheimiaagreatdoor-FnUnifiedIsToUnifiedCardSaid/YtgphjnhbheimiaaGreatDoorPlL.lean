/-
  The furthest-reaching labels of two sequences: plain theory, no program in sight. No condition.
  Pieces of a longest common subsequence: chains of them, taking a label's way back: plain theory, no program in sight. No condition.
  Differences out of pieces; what they keep; the table of the longest common subsequence: plain theory, no program in sight. No condition.
  The ways back from labels, as relations that leave no choice. No program in sight. No condition.
-/
import Derived.Test.YtgphjnhbheimiaaGreatDoorPlain
namespace Go.Proofs.YtgphjnhbheimiaaGreatDoor
set_option linter.unusedVariables false

abbrev EQT := Nat → Nat → Bool

/-- how many of n elements from (x, y) on are alike -/
def lead (E : EQT) : Nat → Nat → Nat → Nat
  | 0, _, _ => 0
  | n + 1, x, y => if E x y then lead E n (x + 1) (y + 1) + 1 else 0

theorem lead_le (E : EQT) (n x y : Nat) : lead E n x y ≤ n := by
  induction n generalizing x y with
  | zero => simp [lead]
  | succ n ih =>
    simp only [lead]
    split
    · have := ih (x + 1) (y + 1); omega
    · omega
theorem lead_all (E : EQT) (n x y i : Nat) (h : i < lead E n x y) : E (x + i) (y + i) = true := by
  induction n generalizing x y i with
  | zero => simp [lead] at h
  | succ n ih =>
    simp only [lead] at h
    split at h
    · rename_i hE
      cases i with
      | zero => simpa using hE
      | succ i =>
        have := ih (x + 1) (y + 1) i (by omega)
        rw [show x + 1 + i = x + (i + 1) by omega, show y + 1 + i = y + (i + 1) by omega] at this
        exact this
    · omega
theorem lead_next (E : EQT) (n x y : Nat) (h : lead E n x y < n) : E (x + lead E n x y) (y + lead E n x y) = false := by
  induction n generalizing x y with
  | zero => simp at h
  | succ n ih =>
    simp only [lead] at h ⊢
    split at h
    · rename_i hE
      rw [if_pos hE]
      have := ih (x + 1) (y + 1) (by omega)
      rw [show x + 1 + lead E n (x + 1) (y + 1) = x + (lead E n (x + 1) (y + 1) + 1) by omega, show y + 1 + lead E n (x + 1) (y + 1) = y + (lead E n (x + 1) (y + 1) + 1) by omega] at this
      exact this
    · rename_i hE
      rw [if_neg hE]
      simpa using hE
theorem lead_eq (E : EQT) (n x y k : Nat) (h0 : k ≤ n) (h1 : ∀ i, i < k → E (x + i) (y + i) = true) (h2 : k = n ∨ E (x + k) (y + k) = false) : lead E n x y = k := by
  rcases Nat.lt_trichotomy (lead E n x y) k with h | h | h
  · have := lead_next E n x y (by omega)
    rw [h1 _ h] at this
    cases this
  · exact h
  · have hl := lead_le E n x y
    have := lead_all E n x y k h
    rcases h2 with h2 | h2
    · omega
    · rw [h2] at this; cases this

/-- the furthest point of the diagonal run that begins at (x, y) -/
def slide (E : EQT) (N M x y : Nat) : Nat := x + lead E (min (N - x) (M - y)) x y

section
variable (E : EQT) (N M : Nat)

theorem slide_ge (x y : Nat) : x ≤ slide E N M x y := by unfold slide; omega
theorem slide_all (x y i : Nat) (h : x + i < slide E N M x y) : x + i < N ∧ y + i < M ∧ E (x + i) (y + i) = true := by
  unfold slide at h
  have h1 := lead_le E (min (N - x) (M - y)) x y
  have h2 := lead_all E (min (N - x) (M - y)) x y i (by omega)
  exact ⟨by omega, by omega, h2⟩
theorem slide_stop (x y : Nat) (h1 : slide E N M x y < N) (h2 : slide E N M x y + y < M + x) : E (slide E N M x y) (slide E N M x y + y - x) = false := by
  have h := lead_next E (min (N - x) (M - y)) x y (by unfold slide at h1 h2; omega)
  unfold slide
  rw [show x + lead E (min (N - x) (M - y)) x y + y - x = y + lead E (min (N - x) (M - y)) x y by omega]
  exact h
theorem slide_eq (x y s : Nat) (h0 : x ≤ s) (h1 : ∀ i, x + i < s → x + i < N ∧ y + i < M ∧ E (x + i) (y + i) = true) (h2 : s < N → s + y < M + x → E s (s + y - x) = false) : slide E N M x y = s := by
  have hs : x + (s - x) = s := by omega
  have : lead E (min (N - x) (M - y)) x y = s - x := by
    refine lead_eq E _ x y (s - x) ?_ (fun i hi => (h1 i (by omega)).2.2) ?_
    · rcases Nat.eq_or_lt_of_le h0 with h | h
      · omega
      · have := h1 (s - x - 1) (by omega)
        omega
    · by_cases h3 : s < N ∧ s + y < M + x
      · right
        have := h2 h3.1 h3.2
        rw [show x + (s - x) = s by omega, show y + (s - x) = s + y - x by omega]
        exact this
      · left
        rcases Nat.eq_or_lt_of_le h0 with h | h
        · omega
        · have := h1 (s - x - 1) (by omega)
          omega
  unfold slide
  omega
/-- on one diagonal: from a point further on the run ends no earlier -/
theorem slide_mono (x y e : Nat) : slide E N M x y ≤ slide E N M (x + e) (y + e) := by
  by_cases h : slide E N M x y ≤ x + e
  · exact Nat.le_trans h (slide_ge E N M _ _)
  · refine Nat.le_of_eq (Eq.symm (slide_eq E N M (x + e) (y + e) _ (by omega) (fun i hi => ?_) (fun h1 h2 => ?_)))
    · have := slide_all E N M x y (e + i) (by omega)
      rw [show x + e + i = x + (e + i) by omega, show y + e + i = y + (e + i) by omega]
      exact this
    · have := slide_stop E N M x y h1 (by omega)
      rw [show slide E N M x y + (y + e) - (x + e) = slide E N M x y + y - x by omega]
      exact this
theorem slide_idem (x y : Nat) : slide E N M (slide E N M x y) (slide E N M x y + y - x) = slide E N M x y := by
  have hg := slide_ge E N M x y
  refine slide_eq E N M _ _ _ (Nat.le_refl _) (fun i hi => by omega) (fun h1 h2 => ?_)
  have := slide_stop E N M x y h1 (by omega)
  rw [show slide E N M x y + (slide E N M x y + y - x) - slide E N M x y = slide E N M x y + y - x by omega]
  exact this
theorem slide_none (x y : Nat) (h : N ≤ x ∨ M ≤ y) : slide E N M x y = x := by
  unfold slide
  have : min (N - x) (M - y) = 0 := by omega
  rw [this]
  rfl

/-- where the run of label (d + 1, j) begins: f are the labels of level d -/
def fstart (f : Nat → Nat) (d j : Nat) : Nat := max (if j = 0 then 0 else f (j - 1) + 1) (if j = d + 1 then 0 else f j)
/-- the label of diagonal 2 j - d at level d -/
def fwd : Nat → Nat → Nat
  | 0, _ => slide E N M 0 0
  | d + 1, j => slide E N M (fstart (fwd d) d j) (fstart (fwd d) d j + (d + 1) - 2 * j)
/-- where the run of label (d, j) begins -/
def fst0 : Nat → Nat → Nat
  | 0, _ => 0
  | d + 1, j => fstart (fwd E N M d) d j
def fy (d j : Nat) : Nat := fwd E N M d j + d - 2 * j

theorem fwd_slide (d j : Nat) (h : j ≤ d) : fwd E N M d j = slide E N M (fst0 E N M d j) (fst0 E N M d j + d - 2 * j) := by
  cases d with
  | zero =>
    have : j = 0 := by omega
    subst this
    rfl
  | succ d => rfl
theorem fst_le (d j : Nat) (h : j ≤ d) : fst0 E N M d j ≤ fwd E N M d j := by
  rw [fwd_slide E N M d j h]; exact slide_ge E N M _ _
theorem fst_fwd (d j : Nat) (h : j ≤ d) : 2 * j ≤ fst0 E N M d j + d := by
  induction d generalizing j with
  | zero => omega
  | succ d ih =>
    show 2 * j ≤ fstart (fwd E N M d) d j + (d + 1)
    unfold fstart
    by_cases hj : j = 0
    · omega
    · rw [if_neg hj]
      have h1 := ih (j - 1) (by omega)
      have h2 := fst_le E N M d (j - 1) (by omega)
      omega
theorem fwd_ge (d j : Nat) (h : j ≤ d) : 2 * j ≤ fwd E N M d j + d := by
  have h1 := fst_le E N M d j h
  have h2 := fst_fwd E N M d j h
  omega
theorem fst_left (d j : Nat) (h : j + 1 ≤ d + 1) : fwd E N M d j + 1 ≤ fst0 E N M (d + 1) (j + 1) := by
  show _ ≤ fstart (fwd E N M d) d (j + 1)
  unfold fstart
  rw [if_neg (by omega)]
  simp only [Nat.add_sub_cancel]
  omega
theorem fst_down (d j : Nat) (h : j ≤ d) : fwd E N M d j ≤ fst0 E N M (d + 1) j := by
  show _ ≤ fstart (fwd E N M d) d j
  unfold fstart
  rw [if_neg (show ¬ j = d + 1 by omega)]
  omega
theorem fst_or (d j : Nat) (h : j ≤ d + 1) : (1 ≤ j ∧ fst0 E N M (d + 1) j = fwd E N M d (j - 1) + 1) ∨ (j ≤ d ∧ fst0 E N M (d + 1) j = fwd E N M d j) := by
  show (1 ≤ j ∧ fstart (fwd E N M d) d j = _) ∨ (j ≤ d ∧ fstart (fwd E N M d) d j = _)
  unfold fstart
  by_cases h0 : j = 0
  · right
    subst h0
    simp
  · by_cases h1 : j = d + 1
    · left
      subst h1
      simp
    · rw [if_neg h0, if_neg h1]
      rcases Nat.le_total (fwd E N M d (j - 1) + 1) (fwd E N M d j) with h2 | h2
      · right
        exact ⟨by omega, by omega⟩
      · left
        exact ⟨by omega, by omega⟩
/-- behind the start of a label's run all is alike -/
theorem fwd_run (d j x : Nat) (h : j ≤ d) (h1 : fst0 E N M d j ≤ x) (h2 : x < fwd E N M d j) : x < N ∧ x + d - 2 * j < M ∧ E x (x + d - 2 * j) = true := by
  rw [fwd_slide E N M d j h] at h2
  have h3 := fst_fwd E N M d j h
  have := slide_all E N M (fst0 E N M d j) (fst0 E N M d j + d - 2 * j) (x - fst0 E N M d j) (by omega)
  rw [show fst0 E N M d j + (x - fst0 E N M d j) = x by omega, show fst0 E N M d j + d - 2 * j + (x - fst0 E N M d j) = x + d - 2 * j by omega] at this
  exact this
theorem fwd_stop (d j : Nat) (h : j ≤ d) (h1 : fwd E N M d j < N) (h2 : fy E N M d j < M) : E (fwd E N M d j) (fy E N M d j) = false := by
  have h3 := fst_fwd E N M d j h
  have h4 := fst_le E N M d j h
  unfold fy at h2 ⊢
  rw [fwd_slide E N M d j h] at h1 h2 h4 ⊢
  have := slide_stop E N M (fst0 E N M d j) (fst0 E N M d j + d - 2 * j) h1 (by omega)
  rw [← this]
  congr 1
  omega

/-- (x, y) is reached from the start by d steps that go right or down, and by diagonals over what is alike -/
inductive Reach : Nat → Nat → Nat → Prop
  | zero : Reach 0 0 0
  | right {d x y : Nat} : Reach d x y → Reach (d + 1) (x + 1) y
  | down {d x y : Nat} : Reach d x y → Reach (d + 1) x (y + 1)
  | diag {d x y : Nat} : Reach d x y → x < N → y < M → E x y = true → Reach d (x + 1) (y + 1)
end
section
variable {E : EQT} {N M : Nat}

theorem Reach.rights {d x y : Nat} (h : Reach E N M d x y) (n : Nat) : Reach E N M (d + n) (x + n) y := by
  induction n with
  | zero => exact h
  | succ n ih => exact ih.right
theorem Reach.downs {d x y : Nat} (h : Reach E N M d x y) (n : Nat) : Reach E N M (d + n) x (y + n) := by
  induction n with
  | zero => exact h
  | succ n ih => exact ih.down
theorem Reach.diags {d x y : Nat} (h : Reach E N M d x y) (n : Nat) (ha : ∀ i, i < n → x + i < N ∧ y + i < M ∧ E (x + i) (y + i) = true) : Reach E N M d (x + n) (y + n) := by
  induction n with
  | zero => exact h
  | succ n ih =>
    have h1 := ih (fun i hi => ha i (by omega))
    obtain ⟨a, b, c⟩ := ha n (by omega)
    exact h1.diag a b c
theorem reach_any (x y : Nat) : Reach E N M (x + y) x y := by
  have := ((Reach.zero (E := E) (N := N) (M := M)).rights x).downs y
  simpa using this
theorem Reach.par {d x y : Nat} (h : Reach E N M d x y) : ∃ m, x + y = d + 2 * m ∧ m ≤ x ∧ m ≤ y := by
  induction h with
  | zero => exact ⟨0, rfl, Nat.le_refl _, Nat.le_refl _⟩
  | right _ ih => obtain ⟨m, h1, h2, h3⟩ := ih; exact ⟨m, by omega, by omega, by omega⟩
  | down _ ih => obtain ⟨m, h1, h2, h3⟩ := ih; exact ⟨m, by omega, by omega, by omega⟩
  | diag _ _ _ _ ih => obtain ⟨m, h1, h2, h3⟩ := ih; exact ⟨m + 1, by omega, by omega, by omega⟩
theorem reach_fwd (d j : Nat) (h : j ≤ d) : Reach E N M d (fwd E N M d j) (fy E N M d j) := by
  induction d generalizing j with
  | zero =>
    obtain rfl : j = 0 := by omega
    have h1 := (Reach.zero (E := E) (N := N) (M := M)).diags (fwd E N M 0 0) (fun i hi => by
      have := fwd_run E N M 0 0 i (Nat.le_refl _) (Nat.zero_le _) hi
      simpa using this)
    simpa [fy] using h1
  | succ d ih =>
    have hg := fst_fwd E N M (d + 1) j h
    have hs : Reach E N M (d + 1) (fst0 E N M (d + 1) j) (fst0 E N M (d + 1) j + (d + 1) - 2 * j) := by
      rcases fst_or E N M d j h with ⟨h1, h2⟩ | ⟨h1, h2⟩
      · have h3 := (ih (j - 1) (by omega)).right
        have h4 := fwd_ge E N M d (j - 1) (by omega)
        rw [h2]
        unfold fy at h3
        rw [show fwd E N M d (j - 1) + 1 + (d + 1) - 2 * j = fwd E N M d (j - 1) + d - 2 * (j - 1) by omega]
        exact h3
      · have h3 := (ih j h1).down
        have h4 := fwd_ge E N M d j h1
        rw [h2]
        unfold fy at h3
        rw [show fwd E N M d j + (d + 1) - 2 * j = fwd E N M d j + d - 2 * j + 1 by omega]
        exact h3
    have hl := fst_le E N M (d + 1) j h
    have := hs.diags (fwd E N M (d + 1) j - fst0 E N M (d + 1) j) (fun i hi => by
      have := fwd_run E N M (d + 1) j (fst0 E N M (d + 1) j + i) h (by omega) (by omega)
      rw [show fst0 E N M (d + 1) j + i + (d + 1) - 2 * j = fst0 E N M (d + 1) j + (d + 1) - 2 * j + i by omega] at this
      exact this)
    rw [show fst0 E N M (d + 1) j + (fwd E N M (d + 1) j - fst0 E N M (d + 1) j) = fwd E N M (d + 1) j by omega,
      show fst0 E N M (d + 1) j + (d + 1) - 2 * j + (fwd E N M (d + 1) j - fst0 E N M (d + 1) j) = fy E N M (d + 1) j by unfold fy; omega] at this
    exact this
theorem fwd_max {d x y : Nat} (h : Reach E N M d x y) : ∃ j, j ≤ d ∧ x + d = y + 2 * j ∧ x ≤ fwd E N M d j := by
  induction h with
  | zero => exact ⟨0, Nat.le_refl _, rfl, Nat.zero_le _⟩
  | @right d x y _ ih =>
    obtain ⟨j, h1, h2, h3⟩ := ih
    refine ⟨j + 1, by omega, by omega, ?_⟩
    have := fst_left E N M d j (by omega)
    have := fst_le E N M (d + 1) (j + 1) (by omega)
    omega
  | @down d x y _ ih =>
    obtain ⟨j, h1, h2, h3⟩ := ih
    refine ⟨j, by omega, by omega, ?_⟩
    have := fst_down E N M d j (by omega)
    have := fst_le E N M (d + 1) j (by omega)
    omega
  | @diag d x y _ hx hy hE ih =>
    obtain ⟨j, h1, h2, h3⟩ := ih
    refine ⟨j, h1, by omega, ?_⟩
    rcases Nat.eq_or_lt_of_le h3 with h4 | h4
    · exfalso
      have hfy : fy E N M d j = y := by unfold fy; omega
      have := fwd_stop E N M d j h1 (by omega) (by omega)
      rw [hfy, ← h4, hE] at this
      cases this
    · exact h4
theorem fwd_max' {d x y j : Nat} (h : Reach E N M d x y) (hj : x + d = y + 2 * j) : x ≤ fwd E N M d j := by
  obtain ⟨j', h1, h2, h3⟩ := fwd_max h
  obtain rfl : j = j' := by omega
  exact h3

theorem Reach.outX {d x y : Nat} (h : Reach E N M d x y) (hx : N ≤ x) : ∃ d', Reach E N M d' N y ∧ d' + (x - N) ≤ d := by
  induction h with
  | zero =>
    obtain rfl : N = 0 := by omega
    exact ⟨0, .zero, by omega⟩
  | @right d x y hr ih =>
    by_cases h1 : N ≤ x
    · obtain ⟨d', h2, h3⟩ := ih h1
      exact ⟨d', h2, by omega⟩
    · obtain rfl : N = x + 1 := by omega
      exact ⟨d + 1, hr.right, by omega⟩
  | @down d x y hr ih =>
    obtain ⟨d', h2, h3⟩ := ih hx
    exact ⟨d' + 1, h2.down, by omega⟩
  | @diag d x y hr h1 h2 h3 ih =>
    obtain rfl : N = x + 1 := by omega
    exact ⟨d, hr.diag h1 h2 h3, by omega⟩
theorem Reach.outY {d x y : Nat} (h : Reach E N M d x y) (hy : M ≤ y) : ∃ d', Reach E N M d' x M ∧ d' + (y - M) ≤ d := by
  induction h with
  | zero =>
    obtain rfl : M = 0 := by omega
    exact ⟨0, .zero, by omega⟩
  | @down d x y hr ih =>
    by_cases h1 : M ≤ y
    · obtain ⟨d', h2, h3⟩ := ih h1
      exact ⟨d', h2, by omega⟩
    · obtain rfl : M = y + 1 := by omega
      exact ⟨d + 1, hr.down, by omega⟩
  | @right d x y hr ih =>
    obtain ⟨d', h2, h3⟩ := ih hy
    exact ⟨d' + 1, h2.right, by omega⟩
  | @diag d x y hr h1 h2 h3 ih =>
    obtain rfl : M = y + 1 := by omega
    exact ⟨d, hr.diag h1 h2 h3, by omega⟩
theorem Reach.back {d a b : Nat} (h : Reach E N M d a b) : ∀ x y, a = x + 1 → b = y + 1 → ∃ d', d' ≤ d ∧ Reach E N M d' x y := by
  induction h with
  | zero => intro x y h1; omega
  | @right d a b hr ih =>
    intro x y h1 h2
    obtain rfl : x = a := by omega
    cases x with
    | zero =>
      obtain ⟨m, h3, h4, h5⟩ := hr.par
      exact ⟨y, by omega, by simpa using reach_any (E := E) (N := N) (M := M) 0 y⟩
    | succ x =>
      obtain ⟨d', h3, h4⟩ := ih x y rfl h2
      exact ⟨d' + 1, by omega, h4.right⟩
  | @down d a b hr ih =>
    intro x y h1 h2
    obtain rfl : y = b := by omega
    cases y with
    | zero =>
      obtain ⟨m, h3, h4, h5⟩ := hr.par
      exact ⟨x, by omega, by simpa using reach_any (E := E) (N := N) (M := M) x 0⟩
    | succ y =>
      obtain ⟨d', h3, h4⟩ := ih x y h1 rfl
      exact ⟨d' + 1, by omega, h4.down⟩
  | @diag d a b hr h1 h2 h3 ih =>
    intro x y h4 h5
    obtain rfl : x = a := by omega
    obtain rfl : y = b := by omega
    exact ⟨d, Nat.le_refl _, hr⟩
theorem Reach.backs (n : Nat) {d x y : Nat} (h : Reach E N M d (x + n) (y + n)) : ∃ d', d' ≤ d ∧ Reach E N M d' x y := by
  induction n generalizing d with
  | zero => exact ⟨d, Nat.le_refl _, h⟩
  | succ n ih =>
    obtain ⟨d', h1, h2⟩ := h.back (x + n) (y + n) rfl rfl
    obtain ⟨d'', h3, h4⟩ := ih h2
    exact ⟨d'', by omega, h4⟩

/-- the same sequences from their ends -/
def rev (E : EQT) (N M : Nat) : EQT := fun i j => E (N - 1 - i) (M - 1 - j)
theorem Reach.join {d' i j : Nat} (h : Reach (rev E N M) N M d' i j) : ∀ {d}, i ≤ N → j ≤ M → Reach E N M d (N - i) (M - j) → Reach E N M (d + d') N M := by
  induction h with
  | zero => intro d _ _ h; simpa using h
  | @right d' x y hr ih =>
    intro d h1 h2 h
    have h3 := h.right
    rw [show N - (x + 1) + 1 = N - x by omega] at h3
    have := ih (by omega) h2 h3
    rw [show d + (d' + 1) = d + 1 + d' by omega]
    exact this
  | @down d' x y hr ih =>
    intro d h1 h2 h
    have h3 := h.down
    rw [show M - (y + 1) + 1 = M - y by omega] at h3
    have := ih h1 (by omega) h3
    rw [show d + (d' + 1) = d + 1 + d' by omega]
    exact this
  | @diag d' x y hr hx hy hE ih =>
    intro d h1 h2 h
    have h3 := h.diag (by omega) (by omega) (show E (N - (x + 1)) (M - (y + 1)) = true by
      unfold rev at hE
      rw [show N - (x + 1) = N - 1 - x by omega, show M - (y + 1) = M - 1 - y by omega]
      exact hE)
    rw [show N - (x + 1) + 1 = N - x by omega, show M - (y + 1) + 1 = M - y by omega] at h3
    exact ih (by omega) (by omega) h3
theorem Reach.split {c x y : Nat} (h : Reach E N M c x y) : ∀ {e}, x ≤ N → y ≤ M → Reach (rev E N M) N M e (N - x) (M - y) → ∀ a, a ≤ c → ∃ p q, p ≤ N ∧ q ≤ M ∧ Reach E N M a p q ∧ Reach (rev E N M) N M (e + (c - a)) (N - p) (M - q) := by
  induction h with
  | zero =>
    intro e h1 h2 h a ha
    obtain rfl : a = 0 := by omega
    exact ⟨0, 0, h1, h2, .zero, h⟩
  | @right d x y hr ih =>
    intro e h1 h2 h a ha
    rcases Nat.eq_or_lt_of_le ha with h3 | h3
    · subst h3
      exact ⟨x + 1, y, h1, h2, hr.right, by simpa using h⟩
    · have h4 := h.right
      rw [show N - (x + 1) + 1 = N - x by omega] at h4
      obtain ⟨p, q, hp, hq, h5, h6⟩ := ih (by omega) h2 h4 a (by omega)
      refine ⟨p, q, hp, hq, h5, ?_⟩
      rw [show e + (d + 1 - a) = e + 1 + (d - a) by omega]
      exact h6
  | @down d x y hr ih =>
    intro e h1 h2 h a ha
    rcases Nat.eq_or_lt_of_le ha with h3 | h3
    · subst h3
      exact ⟨x, y + 1, h1, h2, hr.down, by simpa using h⟩
    · have h4 := h.down
      rw [show M - (y + 1) + 1 = M - y by omega] at h4
      obtain ⟨p, q, hp, hq, h5, h6⟩ := ih h1 (by omega) h4 a (by omega)
      refine ⟨p, q, hp, hq, h5, ?_⟩
      rw [show e + (d + 1 - a) = e + 1 + (d - a) by omega]
      exact h6
  | @diag d x y hr hx hy hE ih =>
    intro e h1 h2 h a ha
    have h4 := h.diag (by omega) (by omega) (show rev E N M (N - (x + 1)) (M - (y + 1)) = true by
      unfold rev
      rw [show N - 1 - (N - (x + 1)) = x by omega, show M - 1 - (M - (y + 1)) = y by omega]
      exact hE)
    rw [show N - (x + 1) + 1 = N - x by omega, show M - (y + 1) + 1 = M - y by omega] at h4
    exact ih (by omega) (by omega) h4 a ha

/-- T is the number of edits of a shortest way -/
structure Short (E : EQT) (N M T : Nat) : Prop where
  reach : Reach E N M T N M
  least : ∀ d, Reach E N M d N M → T ≤ d
theorem short_ex (E : EQT) (N M : Nat) : ∃ T, Short E N M T := by
  have key : ∀ n, (∃ d, d ≤ n ∧ Reach E N M d N M) → ∃ T, Short E N M T := by
    intro n
    induction n with
    | zero =>
      rintro ⟨d, h1, h2⟩
      obtain rfl : d = 0 := by omega
      exact ⟨0, h2, fun _ _ => Nat.zero_le _⟩
    | succ n ih =>
      rintro ⟨d, h1, h2⟩
      by_cases h : ∃ d, d ≤ n ∧ Reach E N M d N M
      · exact ih h
      · refine ⟨d, h2, fun d' h' => ?_⟩
        rcases Nat.lt_or_ge n d' with h3 | h3
        · omega
        · exact absurd ⟨d', h3, h'⟩ h
  exact key (N + M) ⟨N + M, Nat.le_refl _, reach_any N M⟩
theorem Short.le {T : Nat} (h : Short E N M T) : T ≤ N + M := h.least _ (reach_any N M)
theorem Short.par {T : Nat} (h : Short E N M T) : ∃ m, N + M = T + 2 * m ∧ m ≤ N ∧ m ≤ M := h.reach.par
/-- a label lies inside where its level and the way that is left are no more than T -/
theorem Short.inside {T d j : Nat} (h : Short E N M T) (hj : j ≤ d) (h1 : 2 * j + M + d ≤ d + N + T) (h2 : d + N + d ≤ 2 * j + M + T) : fwd E N M d j ≤ N ∧ fy E N M d j ≤ M := by
  have hr := reach_fwd (E := E) (N := N) (M := M) d j hj
  have hge := fwd_ge E N M d j hj
  have hfy : fy E N M d j + 2 * j = fwd E N M d j + d := by unfold fy; omega
  generalize fwd E N M d j = x at *
  generalize fy E N M d j = y at *
  by_cases hx : x ≤ N
  · refine ⟨hx, ?_⟩
    rcases Nat.lt_or_ge M y with hy | hy
    · exfalso
      obtain ⟨d', h3, h4⟩ := hr.outY (by omega)
      have h5 := h3.rights (N - x)
      rw [show x + (N - x) = N by omega] at h5
      have := h.least _ h5
      omega
    · exact hy
  · exfalso
    obtain ⟨d', h3, h4⟩ := hr.outX (by omega)
    by_cases hy : y ≤ M
    · have h5 := h3.downs (M - y)
      rw [show y + (M - y) = M by omega] at h5
      have := h.least _ h5
      omega
    · obtain ⟨d'', h5, h6⟩ := h3.outY (by omega)
      have := h.least _ h5
      omega
/-- labels from both ends that meet tell of a way -/
theorem Short.hit {T df db j j' : Nat} (h : Short E N M T) (hj : j ≤ df) (hj' : j' ≤ db) (hk : 2 * j + 2 * j' + M = df + db + N) (ho : N ≤ fwd E N M df j + fwd (rev E N M) N M db j') : T ≤ df + db := by
  have hr := reach_fwd (E := E) (N := N) (M := M) df j hj
  have hr' := reach_fwd (E := rev E N M) (N := N) (M := M) db j' hj'
  have hge := fwd_ge E N M df j hj
  have hge' := fwd_ge (rev E N M) N M db j' hj'
  have hfy : fy E N M df j + 2 * j = fwd E N M df j + df := by unfold fy; omega
  have hfy' : fy (rev E N M) N M db j' + 2 * j' = fwd (rev E N M) N M db j' + db := by unfold fy; omega
  generalize fwd E N M df j = x at *
  generalize fy E N M df j = y at *
  generalize fwd (rev E N M) N M db j' = x' at *
  generalize fy (rev E N M) N M db j' = y' at *
  have hle := h.le
  by_cases hk1 : x ≤ y + N
  · by_cases hk2 : y ≤ x + M
    · obtain ⟨a, b, ha, hb, hab, h1, h2, h3, h4⟩ : ∃ a b, a ≤ N ∧ b ≤ M ∧ a + y = b + x ∧ a ≤ x ∧ b ≤ y ∧ N ≤ a + x' ∧ M ≤ b + y' := by
        by_cases h1 : N - x' ≤ x - y
        · exact ⟨x - y, y - x, by omega, by omega, by omega, by omega, by omega, by omega, by omega⟩
        · by_cases h2 : M - y' ≤ y - x
          · exact ⟨x - y, y - x, by omega, by omega, by omega, by omega, by omega, by omega, by omega⟩
          · exact ⟨N - x', M - y', by omega, by omega, by omega, by omega, by omega, by omega, by omega⟩
      have hr2 : Reach E N M df (a + (x - a)) (b + (x - a)) := by
        rw [show a + (x - a) = x by omega, show b + (x - a) = y by omega]; exact hr
      have hr2' : Reach (rev E N M) N M db (N - a + (x' - (N - a))) (M - b + (x' - (N - a))) := by
        rw [show N - a + (x' - (N - a)) = x' by omega, show M - b + (x' - (N - a)) = y' by omega]; exact hr'
      obtain ⟨d1, h5, h6⟩ := hr2.backs
      obtain ⟨d2, h7, h8⟩ := hr2'.backs
      have h9 := h8.join (d := d1) (by omega) (by omega) (by
        rw [show N - (N - a) = a by omega, show M - (M - b) = b by omega]
        exact h6)
      have := h.least _ h9
      omega
    · omega
  · omega
/-- a way of df + db edits is met by labels from both ends -/
theorem meet {df db : Nat} (h : Reach E N M (df + db) N M) : ∃ j j', j ≤ df ∧ j' ≤ db ∧ 2 * j + 2 * j' + M = df + db + N ∧ N ≤ fwd E N M df j + fwd (rev E N M) N M db j' := by
  obtain ⟨p, q, hp, hq, h1, h2⟩ := h.split (e := 0) (Nat.le_refl _) (Nat.le_refl _) (by simpa using Reach.zero) df (by omega)
  obtain ⟨j, a1, a2, a3⟩ := fwd_max h1
  obtain ⟨j', b1, b2, b3⟩ := fwd_max h2
  rw [show 0 + (df + db - df) = db by omega] at b1 b2 b3
  exact ⟨j, j', a1, b1, by omega, by omega⟩
/-- backwards no shorter way -/
theorem Short.rev {T : Nat} (h : Short E N M T) : ∀ d, Reach (rev E N M) N M d N M → T ≤ d := fun d hd => by
  have := hd.join (d := 0) (Nat.le_refl _) (Nat.le_refl _) (by simpa using Reach.zero)
  have := h.least _ this
  omega
theorem Short.insideR {T d j : Nat} (h : Short E N M T) (hj : j ≤ d) (h1 : 2 * j + M + d ≤ d + N + T) (h2 : d + N + d ≤ 2 * j + M + T) : fwd (Proofs.YtgphjnhbheimiaaGreatDoor.rev E N M) N M d j ≤ N ∧ fy (Proofs.YtgphjnhbheimiaaGreatDoor.rev E N M) N M d j ≤ M := by
  obtain ⟨T', h'⟩ := short_ex (Proofs.YtgphjnhbheimiaaGreatDoor.rev E N M) N M
  have := h.rev _ h'.reach
  exact h'.inside hj (by omega) (by omega)
end
end Go.Proofs.YtgphjnhbheimiaaGreatDoor

namespace Go.Proofs.YtgphjnhbheimiaaGreatDoor
set_option linter.unusedVariables false

/-- a piece: where it begins in both, how long it is -/
structure Pc where
  x : Nat
  y : Nat
  l : Nat
  deriving DecidableEq

instance : Inhabited Pc := ⟨⟨0, 0, 0⟩⟩

/-- a piece is alike in both -/
def Pc.ok (E : EQT) (p : Pc) : Prop := 0 < p.l ∧ ∀ i, i < p.l → E (p.x + i) (p.y + i) = true
/-- pieces one behind the other, from (a, b) to (c, d) -/
def Ch (E : EQT) : Nat → Nat → List Pc → Nat → Nat → Prop
  | a, b, [], c, d => a ≤ c ∧ b ≤ d
  | a, b, p :: ps, c, d => a ≤ p.x ∧ b ≤ p.y ∧ p.ok E ∧ Ch E (p.x + p.l) (p.y + p.l) ps c d
def sumP (ps : List Pc) : Nat := (ps.map Pc.l).sum
theorem sumP_cons (p : Pc) (ps : List Pc) : sumP (p :: ps) = p.l + sumP ps := by simp [sumP]
theorem sumP_append (a b : List Pc) : sumP (a ++ b) = sumP a + sumP b := by simp [sumP]

section
variable {E : EQT}
theorem Ch.le {ps : List Pc} {a b c d : Nat} (h : Ch E a b ps c d) : a ≤ c ∧ b ≤ d := by
  induction ps generalizing a b with
  | nil => exact h
  | cons p ps ih =>
    obtain ⟨h1, h2, h3, h4⟩ := h
    have := ih h4
    exact ⟨by omega, by omega⟩
theorem Ch.lo {ps : List Pc} {a b c d a' b' : Nat} (h : Ch E a b ps c d) (h1 : a' ≤ a) (h2 : b' ≤ b) : Ch E a' b' ps c d := by
  cases ps with
  | nil => exact ⟨Nat.le_trans h1 h.1, Nat.le_trans h2 h.2⟩
  | cons p ps => exact ⟨Nat.le_trans h1 h.1, Nat.le_trans h2 h.2.1, h.2.2⟩
theorem Ch.hi {ps : List Pc} {a b c d c' d' : Nat} (h : Ch E a b ps c d) (h1 : c ≤ c') (h2 : d ≤ d') : Ch E a b ps c' d' := by
  induction ps generalizing a b with
  | nil => exact ⟨Nat.le_trans h.1 h1, Nat.le_trans h.2 h2⟩
  | cons p ps ih =>
    obtain ⟨h3, h4, h5, h6⟩ := h
    exact ⟨h3, h4, h5, ih h6⟩
theorem Ch.app {ps qs : List Pc} {a b c d c' d' : Nat} (h : Ch E a b ps c d) (k : Ch E c d qs c' d') : Ch E a b (ps ++ qs) c' d' := by
  induction ps generalizing a b with
  | nil => exact k.lo h.1 h.2
  | cons p ps ih =>
    obtain ⟨h3, h4, h5, h6⟩ := h
    exact ⟨h3, h4, h5, ih h6⟩
theorem Ch.split {ps qs : List Pc} {a b c' d' : Nat} (h : Ch E a b (ps ++ qs) c' d') : ∃ c d, Ch E a b ps c d ∧ Ch E c d qs c' d' := by
  induction ps generalizing a b with
  | nil => exact ⟨a, b, ⟨Nat.le_refl _, Nat.le_refl _⟩, h⟩
  | cons p ps ih =>
    obtain ⟨h3, h4, h5, h6⟩ := h
    obtain ⟨c, d, h7, h8⟩ := ih h6
    exact ⟨c, d, ⟨h3, h4, h5, h7⟩, h8⟩
theorem Ch.one {p : Pc} {a b c d : Nat} (h1 : a ≤ p.x) (h2 : b ≤ p.y) (h3 : p.ok E) (h4 : p.x + p.l ≤ c) (h5 : p.y + p.l ≤ d) : Ch E a b [p] c d := ⟨h1, h2, h3, h4, h5⟩
theorem Pc.ok_one {x y : Nat} (h : E x y = true) : (⟨x, y, 1⟩ : Pc).ok E := ⟨by simp, fun i hi => by
  have : i = 0 := by simpa using hi
  subst this
  exact h⟩
end

/-- a match laid ahead of pieces -/
def prep (x y : Nat) : List Pc → List Pc
  | [] => [⟨x, y, 1⟩]
  | p :: ps => if p.x = x + 1 ∧ p.y = y + 1 then ⟨x, y, p.l + 1⟩ :: ps else ⟨x, y, 1⟩ :: p :: ps
theorem prep_cons (x y : Nat) (p : Pc) (ps : List Pc) : prep x y (p :: ps) = if p.x = x + 1 ∧ p.y = y + 1 then ⟨x, y, p.l + 1⟩ :: ps else ⟨x, y, 1⟩ :: p :: ps := rfl
theorem prep_sum (x y : Nat) (ps : List Pc) : sumP (prep x y ps) = sumP ps + 1 := by
  cases ps with
  | nil => rfl
  | cons p ps =>
    rw [prep_cons]
    split
    · simp only [sumP_cons]; omega
    · simp only [sumP_cons]; omega
theorem prep_ch {E : EQT} {x y c d : Nat} {ps : List Pc} (h : Ch E (x + 1) (y + 1) ps c d) (hE : E x y = true) : Ch E x y (prep x y ps) c d := by
  cases ps with
  | nil => exact Ch.one (Nat.le_refl _) (Nat.le_refl _) (Pc.ok_one hE) h.1 h.2
  | cons p ps =>
    obtain ⟨h1, h2, ⟨h3, h3'⟩, h4⟩ := h
    rw [prep_cons]
    split
    · rename_i he
      refine ⟨Nat.le_refl _, Nat.le_refl _, ⟨by simp, fun i hi => ?_⟩, ?_⟩
      · cases i with
        | zero => exact hE
        | succ i =>
          have := h3' i (by simp at hi; omega)
          rw [he.1, he.2] at this
          show E (x + (i + 1)) (y + (i + 1)) = true
          rw [← this]
          congr 1 <;> omega
      · rw [he.1, he.2] at h4
        show Ch E (x + (p.l + 1)) (y + (p.l + 1)) ps c d
        rw [show x + (p.l + 1) = x + 1 + p.l by omega, show y + (p.l + 1) = y + 1 + p.l by omega]
        exact h4
    · exact ⟨Nat.le_refl _, Nat.le_refl _, Pc.ok_one hE, h1, h2, ⟨h3, h3'⟩, h4⟩

/-- a match laid behind pieces -/
def appd (ps : List Pc) (x y : Nat) : List Pc :=
  match ps.getLast? with
  | none => ps ++ [⟨x, y, 1⟩]
  | some p => if p.x + p.l = x ∧ p.y + p.l = y then ps.dropLast ++ [⟨p.x, p.y, p.l + 1⟩] else ps ++ [⟨x, y, 1⟩]
theorem snoc_form (ps : List Pc) : ps = [] ∨ ∃ qs q, ps = qs ++ [q] := by
  rcases List.eq_nil_or_concat ps with h | ⟨qs, q, h⟩
  · exact .inl h
  · exact .inr ⟨qs, q, by simpa using h⟩
theorem appd_nil (x y : Nat) : appd [] x y = [⟨x, y, 1⟩] := rfl
theorem appd_snoc (qs : List Pc) (q : Pc) (x y : Nat) : appd (qs ++ [q]) x y = if q.x + q.l = x ∧ q.y + q.l = y then qs ++ [⟨q.x, q.y, q.l + 1⟩] else qs ++ [q] ++ [⟨x, y, 1⟩] := by
  unfold appd
  simp
theorem appd_sum (ps : List Pc) (x y : Nat) : sumP (appd ps x y) = sumP ps + 1 := by
  rcases snoc_form ps with h | ⟨qs, q, h⟩
  · subst h; rfl
  · subst h
    rw [appd_snoc]
    split
    · simp only [sumP_append, sumP_cons]; simp [sumP]; omega
    · simp only [sumP_append, sumP_cons]; simp [sumP]
theorem appd_ch {E : EQT} {a b x y : Nat} {ps : List Pc} (h : Ch E a b ps x y) (hE : E x y = true) : Ch E a b (appd ps x y) (x + 1) (y + 1) := by
  rcases snoc_form ps with h' | ⟨qs, q, h'⟩
  · subst h'
    exact Ch.one h.1 h.2 (Pc.ok_one hE) (Nat.le_refl _) (Nat.le_refl _)
  · subst h'
    rw [appd_snoc]
    obtain ⟨c, d, h1, h2, h3, ⟨h4, h5⟩, h6, h7⟩ := h.split
    split
    · rename_i he
      refine h1.app (Ch.one h2 h3 ⟨by simp, fun i hi => ?_⟩ (by simp; omega) (by simp; omega))
      rcases Nat.lt_or_ge i q.l with hl | hl
      · exact h5 i hl
      · have : i = q.l := by simp at hi; omega
        subst this
        show E (q.x + q.l) (q.y + q.l) = true
        rw [he.1, he.2]
        exact hE
    · exact h.app (Ch.one (Nat.le_refl _) (Nat.le_refl _) (Pc.ok_one hE) (Nat.le_refl _) (Nat.le_refl _))

/-! ### pieces of which no two overlap, in any order -/
def Apart (p q : Pc) : Prop := (p.x + p.l ≤ q.x ∧ p.y + p.l ≤ q.y) ∨ (q.x + q.l ≤ p.x ∧ q.y + q.l ≤ p.y)
theorem Apart.symm {p q : Pc} (h : Apart p q) : Apart q p := h.elim .inr .inl
/-- pieces inside a rectangle, alike in both, no two of them overlapping -/
structure Good (E : EQT) (a b c d : Nat) (ps : List Pc) : Prop where
  all : ∀ p ∈ ps, p.ok E ∧ a ≤ p.x ∧ b ≤ p.y ∧ p.x + p.l ≤ c ∧ p.y + p.l ≤ d
  apart : ps.Pairwise Apart
theorem Ch.mem {E : EQT} {ps : List Pc} {a b c d : Nat} (h : Ch E a b ps c d) : ∀ p ∈ ps, p.ok E ∧ a ≤ p.x ∧ b ≤ p.y ∧ p.x + p.l ≤ c ∧ p.y + p.l ≤ d := by
  induction ps generalizing a b with
  | nil => intro p hp; simp at hp
  | cons q ps ih =>
    obtain ⟨h1, h2, h3, h4⟩ := h
    intro p hp
    have hle := h4.le
    rcases List.mem_cons.1 hp with h | h
    · subst h
      exact ⟨h3, h1, h2, hle.1, hle.2⟩
    · obtain ⟨g1, g2, g3, g4, g5⟩ := ih h4 p h
      exact ⟨g1, by omega, by omega, g4, g5⟩
theorem Ch.good {E : EQT} {ps : List Pc} {a b c d : Nat} (h : Ch E a b ps c d) : Good E a b c d ps := by
  refine ⟨h.mem, ?_⟩
  induction ps generalizing a b with
  | nil => exact List.Pairwise.nil
  | cons q ps ih =>
    obtain ⟨h1, h2, h3, h4⟩ := h
    refine List.Pairwise.cons (fun p hp => ?_) (ih h4)
    obtain ⟨g1, g2, g3, g4, g5⟩ := h4.mem p hp
    exact .inl ⟨g2, g3⟩
theorem Good.perm {E : EQT} {ps qs : List Pc} {a b c d : Nat} (h : Good E a b c d ps) (hp : ps.Perm qs) : Good E a b c d qs :=
  ⟨fun p hq => h.all p (hp.mem_iff.2 hq), hp.pairwise h.apart (fun h => h.symm)⟩
theorem sumP_perm {ps qs : List Pc} (h : ps.Perm qs) : sumP ps = sumP qs := (h.map Pc.l).sum_nat
/-- sorted by where they begin they are a chain -/
theorem Good.chain {E : EQT} {ps : List Pc} {a b c d : Nat} (h : Good E a b c d ps) (hs : ps.Pairwise fun p q => p.x ≤ q.x) (hab : a ≤ c ∧ b ≤ d) : Ch E a b ps c d := by
  induction ps generalizing a b with
  | nil => exact hab
  | cons p ps ih =>
    obtain ⟨g1, g2, g3, g4, g5⟩ := h.all p (by simp)
    refine ⟨g2, g3, g1, ih ⟨fun q hq => ?_, (List.pairwise_cons.1 h.apart).2⟩ (List.pairwise_cons.1 hs).2 ⟨g4, g5⟩⟩
    obtain ⟨k1, k2, k3, k4, k5⟩ := h.all q (by simp [hq])
    have h1 := (List.pairwise_cons.1 h.apart).1 q hq
    have h2 := (List.pairwise_cons.1 hs).1 q hq
    have h3 := g1.1
    have h4 := k1.1
    refine ⟨k1, ?_, ?_, k4, k5⟩
    · rcases h1 with h1 | h1 <;> omega
    · rcases h1 with h1 | h1 <;> omega
theorem Good.app {E : EQT} {ps qs : List Pc} {a b c d a' b' : Nat} (h : Good E a b a' b' ps) (k : Good E a' b' c d qs) (h1 : a ≤ a' ∧ b ≤ b') (h2 : a' ≤ c ∧ b' ≤ d) : Good E a b c d (ps ++ qs) := by
  refine ⟨fun p hp => ?_, List.pairwise_append.2 ⟨h.apart, k.apart, fun p hp q hq => ?_⟩⟩
  · rcases List.mem_append.1 hp with hp | hp
    · obtain ⟨g1, g2, g3, g4, g5⟩ := h.all p hp
      exact ⟨g1, g2, g3, by omega, by omega⟩
    · obtain ⟨g1, g2, g3, g4, g5⟩ := k.all p hp
      exact ⟨g1, by omega, by omega, g4, g5⟩
  · obtain ⟨g1, g2, g3, g4, g5⟩ := h.all p hp
    obtain ⟨k1, k2, k3, k4, k5⟩ := k.all q hq
    exact .inl ⟨by omega, by omega⟩

/-! ### the way back from a label -/
section
variable {E : EQT} {N M : Nat}
/-- at the way back the point (x, y) of level d lies on the run of label (d, j) -/
structure OnRun (E : EQT) (N M d j x y : Nat) : Prop where
  hj : j ≤ d
  hy : y + 2 * j = x + d
  lo : fst0 E N M d j ≤ x
  hi : x ≤ fwd E N M d j
theorem OnRun.top (E : EQT) (N M d j : Nat) (h : j ≤ d) : OnRun E N M d j (fwd E N M d j) (fy E N M d j) := by
  have := fwd_ge E N M d j h
  exact ⟨h, by unfold fy; omega, fst_le E N M d j h, Nat.le_refl _⟩
theorem OnRun.left {d j x y : Nat} (h : OnRun E N M (d + 1) (j + 1) x y) (hx : x = fwd E N M d j + 1) : OnRun E N M d j (fwd E N M d j) y := by
  have h1 := h.hj
  have h2 := h.hy
  exact ⟨by omega, by omega, fst_le E N M d j (by omega), Nat.le_refl _⟩
theorem OnRun.down {d j x y : Nat} (h : OnRun E N M (d + 1) j x y) (hj : j ≤ d) (hx : x = fwd E N M d j) : 0 < y ∧ OnRun E N M d j x (y - 1) := by
  have h2 := h.hy
  have h3 := fwd_ge E N M d j hj
  exact ⟨by omega, hj, by omega, by rw [hx]; exact fst_le E N M d j hj, by omega⟩
/-- where neither step fits there is a match -/
theorem OnRun.diag {d j x y : Nat} (h : OnRun E N M d j x y) (h0 : ¬ (x = 0 ∧ y = 0)) (h1 : ∀ d' j', d = d' + 1 → j = j' + 1 → x ≠ fwd E N M d' j' + 1) (h2 : ∀ d', d = d' + 1 → j ≤ d' → x ≠ fwd E N M d' j) :
    0 < x ∧ 0 < y ∧ x - 1 < N ∧ y - 1 < M ∧ E (x - 1) (y - 1) = true ∧ OnRun E N M d j (x - 1) (y - 1) := by
  obtain ⟨a, b, c, e⟩ := h
  have hs : fst0 E N M d j < x := by
    rcases Nat.eq_or_lt_of_le c with hc | hc
    · exfalso
      cases d with
      | zero =>
        have : j = 0 := by omega
        subst this
        have : fst0 E N M 0 0 = 0 := rfl
        omega
      | succ d =>
        rcases fst_or E N M d j a with ⟨k1, k2⟩ | ⟨k1, k2⟩
        · exact h1 d (j - 1) rfl (by omega) (by omega)
        · exact h2 d rfl k1 (by omega)
    · exact hc
  have hf := fst_fwd E N M d j a
  have hr := fwd_run E N M d j (x - 1) a (by omega) (by omega)
  rw [show x - 1 + d - 2 * j = y - 1 by omega] at hr
  exact ⟨by omega, by omega, hr.1, hr.2.1, hr.2.2, a, by omega, by omega, by omega⟩
/-- at the start nothing is left -/
theorem OnRun.start {d j : Nat} (h : OnRun E N M d j 0 0) : d = 0 := by
  obtain ⟨a, b, c, e⟩ := h
  cases d with
  | zero => rfl
  | succ d =>
    exfalso
    have h1 := fst_left E N M d (j - 1) (by omega)
    rw [show j - 1 + 1 = j by omega] at h1
    omega
end
end Go.Proofs.YtgphjnhbheimiaaGreatDoor

namespace Go.Proofs.YtgphjnhbheimiaaGreatDoor
set_option linter.unusedVariables false

/-- a difference: what it takes of the first, what it puts of the second -/
structure Df where
  s : Nat
  e : Nat
  rs : Nat
  re : Nat

/-- the differences between pieces, from (a, b) on -/
def diffsFrom (N M : Nat) : Nat → Nat → List Pc → List Df
  | a, b, [] => if a < N ∨ b < M then [⟨a, N, b, M⟩] else []
  | a, b, p :: ps => (if a < p.x ∨ b < p.y then [⟨a, p.x, b, p.y⟩] else []) ++ diffsFrom N M (p.x + p.l) (p.y + p.l) ps

/-- the differences lead from the first to the second from (a, b) on, and keep k -/
def Lead (E : EQT) (N M : Nat) : Nat → Nat → List Df → Nat → Prop
  | a, b, [], k => a ≤ N ∧ b ≤ M ∧ N + b = M + a ∧ (∀ i, a + i < N → E (a + i) (b + i) = true) ∧ k + a = N
  | a, b, d :: ds, k => a ≤ d.s ∧ d.s ≤ d.e ∧ d.e ≤ N ∧ b ≤ d.rs ∧ d.rs ≤ d.re ∧ d.re ≤ M ∧ d.s + b = d.rs + a ∧ (∀ i, a + i < d.s → E (a + i) (b + i) = true) ∧ ∃ k', k + a = d.s + k' ∧ Lead E N M d.e d.re ds k'

theorem lead_of {E : EQT} {N M : Nat} {ps : List Pc} : ∀ {a b a' b'}, Ch E a' b' ps N M → a ≤ a' → b ≤ b' → a' + b = b' + a → (∀ i, a + i < a' → E (a + i) (b + i) = true) → Lead E N M a b (diffsFrom N M a' b' ps) (a' - a + sumP ps) := by
  induction ps with
  | nil =>
    intro a b a' b' h h1 h2 h3 h4
    unfold diffsFrom
    by_cases h5 : a' < N ∨ b' < M
    · rw [if_pos h5]
      refine ⟨h1, h.1, Nat.le_refl _, h2, h.2, Nat.le_refl _, h3, h4, 0, ?_, Nat.le_refl _, Nat.le_refl _, Nat.add_comm _ _, fun i (hi : N + i < N) => by omega, Nat.zero_add _⟩
      show _ = a' + 0
      simp [sumP]; omega
    · rw [if_neg h5]
      have := h.1
      have := h.2
      obtain rfl : a' = N := by omega
      obtain rfl : b' = M := by omega
      exact ⟨h1, h2, by omega, h4, by simp [sumP]; omega⟩
  | cons p ps ih =>
    intro a b a' b' h h1 h2 h3 h4
    obtain ⟨g1, g2, ⟨g3, g4⟩, g5⟩ := h
    have hle := g5.le
    unfold diffsFrom
    by_cases h5 : a' < p.x ∨ b' < p.y
    · rw [if_pos h5]
      have := ih (a := p.x) (b := p.y) g5 (by omega) (by omega) (by omega) (fun i hi => g4 i (by omega))
      refine ⟨h1, g1, by show p.x ≤ N; omega, h2, g2, by show p.y ≤ M; omega, h3, h4, _, ?_, this⟩
      show _ = a' + _
      rw [sumP_cons]; omega
    · rw [if_neg h5]
      have := ih (a := a) (b := b) g5 (by omega) (by omega) (by omega) (fun i hi => by
        rcases Nat.lt_or_ge (a + i) a' with h6 | h6
        · exact h4 i h6
        · have := g4 (a + i - p.x) (by omega)
          rw [show p.x + (a + i - p.x) = a + i by omega, show p.y + (a + i - p.x) = b + i by omega] at this
          exact this)
      rw [List.nil_append, sumP_cons]
      rw [show a' - a + (p.l + sumP ps) = p.x + p.l - a + sumP ps by omega]
      exact this

/-- the table of the longest common subsequence -/
def lcsW (E : EQT) : Nat → Nat → Nat
  | 0, _ => 0
  | _ + 1, 0 => 0
  | i + 1, j + 1 => if E i j then lcsW E i j + 1 else max (lcsW E i (j + 1)) (lcsW E (i + 1) j)
section
variable {E : EQT}
theorem lcsW_zero (i : Nat) : lcsW E i 0 = 0 := by cases i <;> simp [lcsW]
theorem lcsW_step (n : Nat) : ∀ i j, i + j ≤ n → lcsW E i j ≤ lcsW E (i + 1) j ∧ lcsW E (i + 1) j ≤ lcsW E i j + 1 ∧ lcsW E i j ≤ lcsW E i (j + 1) ∧ lcsW E i (j + 1) ≤ lcsW E i j + 1 := by
  induction n with
  | zero =>
    intro i j h
    obtain rfl : i = 0 := by omega
    obtain rfl : j = 0 := by omega
    simp [lcsW]
  | succ n ih =>
    intro i j h
    constructor
    · cases j with
      | zero => simp [lcsW_zero]
      | succ j =>
        have h1 := ih i j (by omega)
        simp only [lcsW]
        split <;> omega
    constructor
    · cases j with
      | zero => simp [lcsW_zero]
      | succ j =>
        have h1 := ih i j (by omega)
        simp only [lcsW]
        split <;> omega
    constructor
    · cases i with
      | zero => simp [lcsW]
      | succ i =>
        have h1 := ih i j (by omega)
        simp only [lcsW]
        split <;> omega
    · cases i with
      | zero => simp [lcsW]
      | succ i =>
        have h1 := ih i j (by omega)
        simp only [lcsW]
        split <;> omega
theorem reach_lcsW {N M d x y : Nat} (h : Reach E N M d x y) : x + y ≤ d + 2 * lcsW E x y := by
  induction h with
  | zero => simp
  | @right d x y _ ih => have := lcsW_step (E := E) (x + y) x y (Nat.le_refl _); omega
  | @down d x y _ ih => have := lcsW_step (E := E) (x + y) x y (Nat.le_refl _); omega
  | @diag d x y _ _ _ hE ih =>
    have : lcsW E (x + 1) (y + 1) = lcsW E x y + 1 := by simp [lcsW, hE]
    omega
theorem lcsW_reach {N M : Nat} (n : Nat) : ∀ x y, x + y ≤ n → x ≤ N → y ≤ M → ∃ d, Reach E N M d x y ∧ d + 2 * lcsW E x y = x + y := by
  induction n with
  | zero =>
    intro x y h _ _
    obtain rfl : x = 0 := by omega
    obtain rfl : y = 0 := by omega
    exact ⟨0, .zero, by simp [lcsW]⟩
  | succ n ih =>
    intro x y h hx hy
    cases x with
    | zero => exact ⟨0 + y, reach_any 0 y, by simp [lcsW]⟩
    | succ x =>
      cases y with
      | zero => exact ⟨x + 1 + 0, reach_any (x + 1) 0, by simp [lcsW]⟩
      | succ y =>
        by_cases hE : E x y = true
        · obtain ⟨d, h1, h2⟩ := ih x y (by omega) (by omega) (by omega)
          exact ⟨d, h1.diag (by omega) (by omega) hE, by simp [lcsW, hE]; omega⟩
        · have e : lcsW E (x + 1) (y + 1) = max (lcsW E x (y + 1)) (lcsW E (x + 1) y) := by simp [lcsW, hE]
          rcases Nat.le_total (lcsW E x (y + 1)) (lcsW E (x + 1) y) with hm | hm
          · obtain ⟨d, h1, h2⟩ := ih (x + 1) y (by omega) (by omega) (by omega)
            exact ⟨d + 1, h1.down, by omega⟩
          · obtain ⟨d, h1, h2⟩ := ih x (y + 1) (by omega) (by omega) (by omega)
            exact ⟨d + 1, h1.right, by omega⟩
theorem short_lcsW {N M T : Nat} (h : Short E N M T) : T + 2 * lcsW E N M = N + M := by
  obtain ⟨d, h1, h2⟩ := lcsW_reach (E := E) (N := N) (M := M) (N + M) N M (Nat.le_refl _) (Nat.le_refl _) (Nat.le_refl _)
  have h3 := h.least _ h1
  have h4 := reach_lcsW h.reach
  omega
end
end Go.Proofs.YtgphjnhbheimiaaGreatDoor

namespace Go.Proofs.YtgphjnhbheimiaaGreatDoor
set_option linter.unusedVariables false

section
variable (E : EQT) (N M : Nat)
/-- the way back goes left -/
def FwA (d j x : Nat) : Prop := 1 ≤ d ∧ 1 ≤ j ∧ x = fwd E N M (d - 1) (j - 1) + 1
/-- the way back goes down -/
def FwB (d j x : Nat) : Prop := 1 ≤ d ∧ j + 1 ≤ d ∧ x = fwd E N M (d - 1) j
/-- the pieces that the way back to the start leaves -/
inductive FwE : Nat → Nat → Nat → Nat → List Pc → List Pc → Prop
  | stop {d j x y : Nat} {ps : List Pc} : x = 0 → y = 0 → FwE d j x y ps ps
  | left {d j x y : Nat} {ps r : List Pc} : ¬ (x = 0 ∧ y = 0) → FwA E N M d j x → FwE (d - 1) (j - 1) (x - 1) y ps r → FwE d j x y ps r
  | down {d j x y : Nat} {ps r : List Pc} : ¬ (x = 0 ∧ y = 0) → ¬ FwA E N M d j x → FwB E N M d j x → FwE (d - 1) j x (y - 1) ps r → FwE d j x y ps r
  | diag {d j x y : Nat} {ps r : List Pc} : ¬ (x = 0 ∧ y = 0) → ¬ FwA E N M d j x → ¬ FwB E N M d j x → FwE d j (x - 1) (y - 1) (prep (x - 1) (y - 1) ps) r → FwE d j x y ps r
/-- the pieces that the way on to the end leaves -/
inductive BwE : Nat → Nat → Nat → Nat → List Pc → List Pc → Prop
  | stop {d j a b : Nat} {ps : List Pc} : a = N → b = M → BwE d j a b ps ps
  | down {d j a b : Nat} {ps r : List Pc} : ¬ (a = N ∧ b = M) → FwB (rev E N M) N M d j (N - a) → BwE (d - 1) j a (b + 1) ps r → BwE d j a b ps r
  | left {d j a b : Nat} {ps r : List Pc} : ¬ (a = N ∧ b = M) → ¬ FwB (rev E N M) N M d j (N - a) → FwA (rev E N M) N M d j (N - a) → BwE (d - 1) (j - 1) (a + 1) b ps r → BwE d j a b ps r
  | diag {d j a b : Nat} {ps r : List Pc} : ¬ (a = N ∧ b = M) → ¬ FwB (rev E N M) N M d j (N - a) → ¬ FwA (rev E N M) N M d j (N - a) → BwE d j (a + 1) (b + 1) (appd ps a b) r → BwE d j a b ps r
end
section
variable {E : EQT} {N M : Nat}
theorem FwE.uniq {d j x y : Nat} {ps r : List Pc} (h : FwE E N M d j x y ps r) : ∀ r', FwE E N M d j x y ps r' → r = r' := by
  induction h with
  | stop h1 h2 =>
    intro r' h'
    cases h' with
    | stop => rfl
    | left h3 => exact absurd ⟨h1, h2⟩ h3
    | down h3 => exact absurd ⟨h1, h2⟩ h3
    | diag h3 => exact absurd ⟨h1, h2⟩ h3
  | left h1 h2 h3 ih =>
    intro r' h'
    cases h' with
    | stop h4 h5 => exact absurd ⟨h4, h5⟩ h1
    | left _ _ h6 => exact ih r' h6
    | down _ h5 => exact absurd h2 h5
    | diag _ h5 => exact absurd h2 h5
  | down h1 h2 h3 h4 ih =>
    intro r' h'
    cases h' with
    | stop h5 h6 => exact absurd ⟨h5, h6⟩ h1
    | left _ h5 => exact absurd h5 h2
    | down _ _ _ h6 => exact ih r' h6
    | diag _ _ h5 => exact absurd h3 h5
  | diag h1 h2 h3 h4 ih =>
    intro r' h'
    cases h' with
    | stop h5 h6 => exact absurd ⟨h5, h6⟩ h1
    | left _ h5 => exact absurd h5 h2
    | down _ _ h5 => exact absurd h5 h3
    | diag _ _ _ h6 => exact ih r' h6
theorem BwE.uniq {d j a b : Nat} {ps r : List Pc} (h : BwE E N M d j a b ps r) : ∀ r', BwE E N M d j a b ps r' → r = r' := by
  induction h with
  | stop h1 h2 =>
    intro r' h'
    cases h' with
    | stop => rfl
    | left h3 => exact absurd ⟨h1, h2⟩ h3
    | down h3 => exact absurd ⟨h1, h2⟩ h3
    | diag h3 => exact absurd ⟨h1, h2⟩ h3
  | down h1 h2 h3 ih =>
    intro r' h'
    cases h' with
    | stop h4 h5 => exact absurd ⟨h4, h5⟩ h1
    | down _ _ h6 => exact ih r' h6
    | left _ h5 => exact absurd h2 h5
    | diag _ h5 => exact absurd h2 h5
  | left h1 h2 h3 h4 ih =>
    intro r' h'
    cases h' with
    | stop h5 h6 => exact absurd ⟨h5, h6⟩ h1
    | down _ h5 => exact absurd h5 h2
    | left _ _ _ h6 => exact ih r' h6
    | diag _ _ h5 => exact absurd h3 h5
  | diag h1 h2 h3 h4 ih =>
    intro r' h'
    cases h' with
    | stop h5 h6 => exact absurd ⟨h5, h6⟩ h1
    | down _ h5 => exact absurd h5 h2
    | left _ _ h5 => exact absurd h5 h3
    | diag _ _ _ h6 => exact ih r' h6
end

theorem of_beq_f {a b : Int} (h : (a == b) = false) : ¬ a = b := by simpa using h
theorem to_beq {a b : Int} (h : a = b) : (a == b) = true := by subst h; simp

/-! ### which label inside lies furthest -/
/-- the forward label seen so far that lies inside and furthest: its number (as the code keeps it) and how far it lies -/
def selF (E : EQT) (N M lim : Nat) : Nat → Int × Int
  | 0 => (-(lim : Int) - 1, -1)
  | i + 1 => if (selF E N M lim i).2 < (fwd E N M lim i : Int) + (fy E N M lim i : Nat) ∧ fwd E N M lim i ≤ N ∧ fy E N M lim i ≤ M then (2 * (i : Int) - (lim : Int), (fwd E N M lim i : Int) + (fy E N M lim i : Nat)) else selF E N M lim i
/-- the same from the end; k0 is what the code has kept before -/
def selB (E : EQT) (N M lim : Nat) (k0 : Int) : Nat → Int × Int
  | 0 => (k0, 33554432)
  | i + 1 =>
    if (N : Int) - (fwd (rev E N M) N M lim (lim - i) : Nat) + ((M : Int) - (fy (rev E N M) N M lim (lim - i) : Nat)) < (selB E N M lim k0 i).2 ∧ fwd (rev E N M) N M lim (lim - i) ≤ N ∧ fy (rev E N M) N M lim (lim - i) ≤ M
    then (2 * (i : Int) - (lim : Int), (N : Int) - (fwd (rev E N M) N M lim (lim - i) : Nat) + ((M : Int) - (fy (rev E N M) N M lim (lim - i) : Nat)))
    else selB E N M lim k0 i
theorem selF_yes {E : EQT} {N M lim i X Y : Nat} {k15 k16 k17 : Int} (h : (k15, k16) = selF E N M lim i) (hX : fwd E N M lim i = X) (hY : fy E N M lim i = Y) (t1 : k16 < (X : Int) + (Y : Int)) (t2 : X ≤ N) (t3 : Y ≤ M) (hk : k17 = 2 * (i : Int) - (lim : Int)) : (k17, (X : Int) + (Y : Int)) = selF E N M lim (i + 1) := by
  simp only [selF]
  rw [← h, hX, hY, if_pos ⟨t1, t2, t3⟩, hk]
theorem selF_no {E : EQT} {N M lim i X Y : Nat} {k15 k16 : Int} (h : (k15, k16) = selF E N M lim i) (hX : fwd E N M lim i = X) (hY : fy E N M lim i = Y) (hn : ¬ (k16 < (X : Int) + (Y : Int) ∧ X ≤ N ∧ Y ≤ M)) : (k15, k16) = selF E N M lim (i + 1) := by
  simp only [selF]
  rw [← h, hX, hY, if_neg hn]
theorem selB_yes {E : EQT} {N M lim i X Y : Nat} {k0 k14 k20 k21 u y : Int} (h : (k14, k20) = selB E N M lim k0 i) (hX : fwd (rev E N M) N M lim (lim - i) = X) (hY : fy (rev E N M) N M lim (lim - i) = Y) (hu : (N : Int) - (X : Int) = u) (hy : (M : Int) - (Y : Int) = y) (t1 : u + y < k20) (t2 : 0 ≤ u) (t3 : 0 ≤ y) (hk : k21 = 2 * (i : Int) - (lim : Int)) : (k21, u + y) = selB E N M lim k0 (i + 1) := by
  simp only [selB]
  rw [← h, hX, hY, hu, hy, if_pos ⟨t1, by omega, by omega⟩, hk]
theorem selB_no {E : EQT} {N M lim i X Y : Nat} {k0 k14 k20 u y : Int} (h : (k14, k20) = selB E N M lim k0 i) (hX : fwd (rev E N M) N M lim (lim - i) = X) (hY : fy (rev E N M) N M lim (lim - i) = Y) (hu : (N : Int) - (X : Int) = u) (hy : (M : Int) - (Y : Int) = y) (hn : ¬ (u + y < k20 ∧ 0 ≤ u ∧ 0 ≤ y)) : (k14, k20) = selB E N M lim k0 (i + 1) := by
  simp only [selB]
  rw [← h, hX, hY, hu, hy, if_neg (fun h9 => hn ⟨h9.1, by omega, by omega⟩)]
end Go.Proofs.YtgphjnhbheimiaaGreatDoor
