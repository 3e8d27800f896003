/-
  The furthest-reaching labels of two sequences: plain theory, no program in sight. No condition.
-/
import Derived.Test.YtgjbagojcbondaaDoorPlain
namespace Go.Proofs.YtgjbagojcbondaaDoor
set_option linter.unusedVariables false

abbrev EQT := Nat → Nat → Bool

/-- how many of n elements from (x, y) on are alike -/
def lead (E : EQT) : Nat → Nat → Nat → Nat
  | 0, _, _ => 0
  | n + 1, x, y => if E x y then lead E n (x + 1) (y + 1) + 1 else 0

theorem lead_le (E : EQT) (n x y : Nat) : lead E n x y ≤ n := by
  induction n generalizing x y with
  | zero => simp [lead]
  | succ n ih =>
    simp only [lead]
    split
    · have := ih (x + 1) (y + 1); omega
    · omega
theorem lead_all (E : EQT) (n x y i : Nat) (h : i < lead E n x y) : E (x + i) (y + i) = true := by
  induction n generalizing x y i with
  | zero => simp [lead] at h
  | succ n ih =>
    simp only [lead] at h
    split at h
    · rename_i hE
      cases i with
      | zero => simpa using hE
      | succ i =>
        have := ih (x + 1) (y + 1) i (by omega)
        rw [show x + 1 + i = x + (i + 1) by omega, show y + 1 + i = y + (i + 1) by omega] at this
        exact this
    · omega
theorem lead_next (E : EQT) (n x y : Nat) (h : lead E n x y < n) : E (x + lead E n x y) (y + lead E n x y) = false := by
  induction n generalizing x y with
  | zero => simp at h
  | succ n ih =>
    simp only [lead] at h ⊢
    split at h
    · rename_i hE
      rw [if_pos hE]
      have := ih (x + 1) (y + 1) (by omega)
      rw [show x + 1 + lead E n (x + 1) (y + 1) = x + (lead E n (x + 1) (y + 1) + 1) by omega, show y + 1 + lead E n (x + 1) (y + 1) = y + (lead E n (x + 1) (y + 1) + 1) by omega] at this
      exact this
    · rename_i hE
      rw [if_neg hE]
      simpa using hE
theorem lead_eq (E : EQT) (n x y k : Nat) (h0 : k ≤ n) (h1 : ∀ i, i < k → E (x + i) (y + i) = true) (h2 : k = n ∨ E (x + k) (y + k) = false) : lead E n x y = k := by
  rcases Nat.lt_trichotomy (lead E n x y) k with h | h | h
  · have := lead_next E n x y (by omega)
    rw [h1 _ h] at this
    cases this
  · exact h
  · have hl := lead_le E n x y
    have := lead_all E n x y k h
    rcases h2 with h2 | h2
    · omega
    · rw [h2] at this; cases this

/-- the furthest point of the diagonal run that begins at (x, y) -/
def slide (E : EQT) (N M x y : Nat) : Nat := x + lead E (min (N - x) (M - y)) x y

section
variable (E : EQT) (N M : Nat)

theorem slide_ge (x y : Nat) : x ≤ slide E N M x y := by unfold slide; omega
theorem slide_all (x y i : Nat) (h : x + i < slide E N M x y) : x + i < N ∧ y + i < M ∧ E (x + i) (y + i) = true := by
  unfold slide at h
  have h1 := lead_le E (min (N - x) (M - y)) x y
  have h2 := lead_all E (min (N - x) (M - y)) x y i (by omega)
  exact ⟨by omega, by omega, h2⟩
theorem slide_stop (x y : Nat) (h1 : slide E N M x y < N) (h2 : slide E N M x y + y < M + x) : E (slide E N M x y) (slide E N M x y + y - x) = false := by
  have h := lead_next E (min (N - x) (M - y)) x y (by unfold slide at h1 h2; omega)
  unfold slide
  rw [show x + lead E (min (N - x) (M - y)) x y + y - x = y + lead E (min (N - x) (M - y)) x y by omega]
  exact h
theorem slide_eq (x y s : Nat) (h0 : x ≤ s) (h1 : ∀ i, x + i < s → x + i < N ∧ y + i < M ∧ E (x + i) (y + i) = true) (h2 : s < N → s + y < M + x → E s (s + y - x) = false) : slide E N M x y = s := by
  have hs : x + (s - x) = s := by omega
  have : lead E (min (N - x) (M - y)) x y = s - x := by
    refine lead_eq E _ x y (s - x) ?_ (fun i hi => (h1 i (by omega)).2.2) ?_
    · rcases Nat.eq_or_lt_of_le h0 with h | h
      · omega
      · have := h1 (s - x - 1) (by omega)
        omega
    · by_cases h3 : s < N ∧ s + y < M + x
      · right
        have := h2 h3.1 h3.2
        rw [show x + (s - x) = s by omega, show y + (s - x) = s + y - x by omega]
        exact this
      · left
        rcases Nat.eq_or_lt_of_le h0 with h | h
        · omega
        · have := h1 (s - x - 1) (by omega)
          omega
  unfold slide
  omega
/-- on one diagonal: from a point further on the run ends no earlier -/
theorem slide_mono (x y e : Nat) : slide E N M x y ≤ slide E N M (x + e) (y + e) := by
  by_cases h : slide E N M x y ≤ x + e
  · exact Nat.le_trans h (slide_ge E N M _ _)
  · refine Nat.le_of_eq (Eq.symm (slide_eq E N M (x + e) (y + e) _ (by omega) (fun i hi => ?_) (fun h1 h2 => ?_)))
    · have := slide_all E N M x y (e + i) (by omega)
      rw [show x + e + i = x + (e + i) by omega, show y + e + i = y + (e + i) by omega]
      exact this
    · have := slide_stop E N M x y h1 (by omega)
      rw [show slide E N M x y + (y + e) - (x + e) = slide E N M x y + y - x by omega]
      exact this
theorem slide_idem (x y : Nat) : slide E N M (slide E N M x y) (slide E N M x y + y - x) = slide E N M x y := by
  have hg := slide_ge E N M x y
  refine slide_eq E N M _ _ _ (Nat.le_refl _) (fun i hi => by omega) (fun h1 h2 => ?_)
  have := slide_stop E N M x y h1 (by omega)
  rw [show slide E N M x y + (slide E N M x y + y - x) - slide E N M x y = slide E N M x y + y - x by omega]
  exact this
theorem slide_none (x y : Nat) (h : N ≤ x ∨ M ≤ y) : slide E N M x y = x := by
  unfold slide
  have : min (N - x) (M - y) = 0 := by omega
  rw [this]
  rfl

/-- where the run of label (d + 1, j) begins: f are the labels of level d -/
def fstart (f : Nat → Nat) (d j : Nat) : Nat := max (if j = 0 then 0 else f (j - 1) + 1) (if j = d + 1 then 0 else f j)
/-- the label of diagonal 2 j - d at level d -/
def fwd : Nat → Nat → Nat
  | 0, _ => slide E N M 0 0
  | d + 1, j => slide E N M (fstart (fwd d) d j) (fstart (fwd d) d j + (d + 1) - 2 * j)
/-- where the run of label (d, j) begins -/
def fst0 : Nat → Nat → Nat
  | 0, _ => 0
  | d + 1, j => fstart (fwd E N M d) d j
def fy (d j : Nat) : Nat := fwd E N M d j + d - 2 * j

theorem fwd_slide (d j : Nat) (h : j ≤ d) : fwd E N M d j = slide E N M (fst0 E N M d j) (fst0 E N M d j + d - 2 * j) := by
  cases d with
  | zero =>
    have : j = 0 := by omega
    subst this
    rfl
  | succ d => rfl
theorem fst_le (d j : Nat) (h : j ≤ d) : fst0 E N M d j ≤ fwd E N M d j := by
  rw [fwd_slide E N M d j h]; exact slide_ge E N M _ _
theorem fst_fwd (d j : Nat) (h : j ≤ d) : 2 * j ≤ fst0 E N M d j + d := by
  induction d generalizing j with
  | zero => omega
  | succ d ih =>
    show 2 * j ≤ fstart (fwd E N M d) d j + (d + 1)
    unfold fstart
    by_cases hj : j = 0
    · omega
    · rw [if_neg hj]
      have h1 := ih (j - 1) (by omega)
      have h2 := fst_le E N M d (j - 1) (by omega)
      omega
theorem fwd_ge (d j : Nat) (h : j ≤ d) : 2 * j ≤ fwd E N M d j + d := by
  have h1 := fst_le E N M d j h
  have h2 := fst_fwd E N M d j h
  omega
theorem fst_left (d j : Nat) (h : j + 1 ≤ d + 1) : fwd E N M d j + 1 ≤ fst0 E N M (d + 1) (j + 1) := by
  show _ ≤ fstart (fwd E N M d) d (j + 1)
  unfold fstart
  rw [if_neg (by omega)]
  simp only [Nat.add_sub_cancel]
  omega
theorem fst_down (d j : Nat) (h : j ≤ d) : fwd E N M d j ≤ fst0 E N M (d + 1) j := by
  show _ ≤ fstart (fwd E N M d) d j
  unfold fstart
  rw [if_neg (show ¬ j = d + 1 by omega)]
  omega
theorem fst_or (d j : Nat) (h : j ≤ d + 1) : (1 ≤ j ∧ fst0 E N M (d + 1) j = fwd E N M d (j - 1) + 1) ∨ (j ≤ d ∧ fst0 E N M (d + 1) j = fwd E N M d j) := by
  show (1 ≤ j ∧ fstart (fwd E N M d) d j = _) ∨ (j ≤ d ∧ fstart (fwd E N M d) d j = _)
  unfold fstart
  by_cases h0 : j = 0
  · right
    subst h0
    simp
  · by_cases h1 : j = d + 1
    · left
      subst h1
      simp
    · rw [if_neg h0, if_neg h1]
      rcases Nat.le_total (fwd E N M d (j - 1) + 1) (fwd E N M d j) with h2 | h2
      · right
        exact ⟨by omega, by omega⟩
      · left
        exact ⟨by omega, by omega⟩
/-- behind the start of a label's run all is alike -/
theorem fwd_run (d j x : Nat) (h : j ≤ d) (h1 : fst0 E N M d j ≤ x) (h2 : x < fwd E N M d j) : x < N ∧ x + d - 2 * j < M ∧ E x (x + d - 2 * j) = true := by
  rw [fwd_slide E N M d j h] at h2
  have h3 := fst_fwd E N M d j h
  have := slide_all E N M (fst0 E N M d j) (fst0 E N M d j + d - 2 * j) (x - fst0 E N M d j) (by omega)
  rw [show fst0 E N M d j + (x - fst0 E N M d j) = x by omega, show fst0 E N M d j + d - 2 * j + (x - fst0 E N M d j) = x + d - 2 * j by omega] at this
  exact this
theorem fwd_stop (d j : Nat) (h : j ≤ d) (h1 : fwd E N M d j < N) (h2 : fy E N M d j < M) : E (fwd E N M d j) (fy E N M d j) = false := by
  have h3 := fst_fwd E N M d j h
  have h4 := fst_le E N M d j h
  unfold fy at h2 ⊢
  rw [fwd_slide E N M d j h] at h1 h2 h4 ⊢
  have := slide_stop E N M (fst0 E N M d j) (fst0 E N M d j + d - 2 * j) h1 (by omega)
  rw [← this]
  congr 1
  omega

/-- (x, y) is reached from the start by d steps that go right or down, and by diagonals over what is alike -/
inductive Reach : Nat → Nat → Nat → Prop
  | zero : Reach 0 0 0
  | right {d x y : Nat} : Reach d x y → Reach (d + 1) (x + 1) y
  | down {d x y : Nat} : Reach d x y → Reach (d + 1) x (y + 1)
  | diag {d x y : Nat} : Reach d x y → x < N → y < M → E x y = true → Reach d (x + 1) (y + 1)
end
section
variable {E : EQT} {N M : Nat}

theorem Reach.rights {d x y : Nat} (h : Reach E N M d x y) (n : Nat) : Reach E N M (d + n) (x + n) y := by
  induction n with
  | zero => exact h
  | succ n ih => exact ih.right
theorem Reach.downs {d x y : Nat} (h : Reach E N M d x y) (n : Nat) : Reach E N M (d + n) x (y + n) := by
  induction n with
  | zero => exact h
  | succ n ih => exact ih.down
theorem Reach.diags {d x y : Nat} (h : Reach E N M d x y) (n : Nat) (ha : ∀ i, i < n → x + i < N ∧ y + i < M ∧ E (x + i) (y + i) = true) : Reach E N M d (x + n) (y + n) := by
  induction n with
  | zero => exact h
  | succ n ih =>
    have h1 := ih (fun i hi => ha i (by omega))
    obtain ⟨a, b, c⟩ := ha n (by omega)
    exact h1.diag a b c
theorem reach_any (x y : Nat) : Reach E N M (x + y) x y := by
  have := ((Reach.zero (E := E) (N := N) (M := M)).rights x).downs y
  simpa using this
theorem Reach.par {d x y : Nat} (h : Reach E N M d x y) : ∃ m, x + y = d + 2 * m ∧ m ≤ x ∧ m ≤ y := by
  induction h with
  | zero => exact ⟨0, rfl, Nat.le_refl _, Nat.le_refl _⟩
  | right _ ih => obtain ⟨m, h1, h2, h3⟩ := ih; exact ⟨m, by omega, by omega, by omega⟩
  | down _ ih => obtain ⟨m, h1, h2, h3⟩ := ih; exact ⟨m, by omega, by omega, by omega⟩
  | diag _ _ _ _ ih => obtain ⟨m, h1, h2, h3⟩ := ih; exact ⟨m + 1, by omega, by omega, by omega⟩
theorem reach_fwd (d j : Nat) (h : j ≤ d) : Reach E N M d (fwd E N M d j) (fy E N M d j) := by
  induction d generalizing j with
  | zero =>
    obtain rfl : j = 0 := by omega
    have h1 := (Reach.zero (E := E) (N := N) (M := M)).diags (fwd E N M 0 0) (fun i hi => by
      have := fwd_run E N M 0 0 i (Nat.le_refl _) (Nat.zero_le _) hi
      simpa using this)
    simpa [fy] using h1
  | succ d ih =>
    have hg := fst_fwd E N M (d + 1) j h
    have hs : Reach E N M (d + 1) (fst0 E N M (d + 1) j) (fst0 E N M (d + 1) j + (d + 1) - 2 * j) := by
      rcases fst_or E N M d j h with ⟨h1, h2⟩ | ⟨h1, h2⟩
      · have h3 := (ih (j - 1) (by omega)).right
        have h4 := fwd_ge E N M d (j - 1) (by omega)
        rw [h2]
        unfold fy at h3
        rw [show fwd E N M d (j - 1) + 1 + (d + 1) - 2 * j = fwd E N M d (j - 1) + d - 2 * (j - 1) by omega]
        exact h3
      · have h3 := (ih j h1).down
        have h4 := fwd_ge E N M d j h1
        rw [h2]
        unfold fy at h3
        rw [show fwd E N M d j + (d + 1) - 2 * j = fwd E N M d j + d - 2 * j + 1 by omega]
        exact h3
    have hl := fst_le E N M (d + 1) j h
    have := hs.diags (fwd E N M (d + 1) j - fst0 E N M (d + 1) j) (fun i hi => by
      have := fwd_run E N M (d + 1) j (fst0 E N M (d + 1) j + i) h (by omega) (by omega)
      rw [show fst0 E N M (d + 1) j + i + (d + 1) - 2 * j = fst0 E N M (d + 1) j + (d + 1) - 2 * j + i by omega] at this
      exact this)
    rw [show fst0 E N M (d + 1) j + (fwd E N M (d + 1) j - fst0 E N M (d + 1) j) = fwd E N M (d + 1) j by omega,
      show fst0 E N M (d + 1) j + (d + 1) - 2 * j + (fwd E N M (d + 1) j - fst0 E N M (d + 1) j) = fy E N M (d + 1) j by unfold fy; omega] at this
    exact this
theorem fwd_max {d x y : Nat} (h : Reach E N M d x y) : ∃ j, j ≤ d ∧ x + d = y + 2 * j ∧ x ≤ fwd E N M d j := by
  induction h with
  | zero => exact ⟨0, Nat.le_refl _, rfl, Nat.zero_le _⟩
  | @right d x y _ ih =>
    obtain ⟨j, h1, h2, h3⟩ := ih
    refine ⟨j + 1, by omega, by omega, ?_⟩
    have := fst_left E N M d j (by omega)
    have := fst_le E N M (d + 1) (j + 1) (by omega)
    omega
  | @down d x y _ ih =>
    obtain ⟨j, h1, h2, h3⟩ := ih
    refine ⟨j, by omega, by omega, ?_⟩
    have := fst_down E N M d j (by omega)
    have := fst_le E N M (d + 1) j (by omega)
    omega
  | @diag d x y _ hx hy hE ih =>
    obtain ⟨j, h1, h2, h3⟩ := ih
    refine ⟨j, h1, by omega, ?_⟩
    rcases Nat.eq_or_lt_of_le h3 with h4 | h4
    · exfalso
      have hfy : fy E N M d j = y := by unfold fy; omega
      have := fwd_stop E N M d j h1 (by omega) (by omega)
      rw [hfy, ← h4, hE] at this
      cases this
    · exact h4
theorem fwd_max' {d x y j : Nat} (h : Reach E N M d x y) (hj : x + d = y + 2 * j) : x ≤ fwd E N M d j := by
  obtain ⟨j', h1, h2, h3⟩ := fwd_max h
  obtain rfl : j = j' := by omega
  exact h3

theorem Reach.outX {d x y : Nat} (h : Reach E N M d x y) (hx : N ≤ x) : ∃ d', Reach E N M d' N y ∧ d' + (x - N) ≤ d := by
  induction h with
  | zero =>
    obtain rfl : N = 0 := by omega
    exact ⟨0, .zero, by omega⟩
  | @right d x y hr ih =>
    by_cases h1 : N ≤ x
    · obtain ⟨d', h2, h3⟩ := ih h1
      exact ⟨d', h2, by omega⟩
    · obtain rfl : N = x + 1 := by omega
      exact ⟨d + 1, hr.right, by omega⟩
  | @down d x y hr ih =>
    obtain ⟨d', h2, h3⟩ := ih hx
    exact ⟨d' + 1, h2.down, by omega⟩
  | @diag d x y hr h1 h2 h3 ih =>
    obtain rfl : N = x + 1 := by omega
    exact ⟨d, hr.diag h1 h2 h3, by omega⟩
theorem Reach.outY {d x y : Nat} (h : Reach E N M d x y) (hy : M ≤ y) : ∃ d', Reach E N M d' x M ∧ d' + (y - M) ≤ d := by
  induction h with
  | zero =>
    obtain rfl : M = 0 := by omega
    exact ⟨0, .zero, by omega⟩
  | @down d x y hr ih =>
    by_cases h1 : M ≤ y
    · obtain ⟨d', h2, h3⟩ := ih h1
      exact ⟨d', h2, by omega⟩
    · obtain rfl : M = y + 1 := by omega
      exact ⟨d + 1, hr.down, by omega⟩
  | @right d x y hr ih =>
    obtain ⟨d', h2, h3⟩ := ih hy
    exact ⟨d' + 1, h2.right, by omega⟩
  | @diag d x y hr h1 h2 h3 ih =>
    obtain rfl : M = y + 1 := by omega
    exact ⟨d, hr.diag h1 h2 h3, by omega⟩
theorem Reach.back {d a b : Nat} (h : Reach E N M d a b) : ∀ x y, a = x + 1 → b = y + 1 → ∃ d', d' ≤ d ∧ Reach E N M d' x y := by
  induction h with
  | zero => intro x y h1; omega
  | @right d a b hr ih =>
    intro x y h1 h2
    obtain rfl : x = a := by omega
    cases x with
    | zero =>
      obtain ⟨m, h3, h4, h5⟩ := hr.par
      exact ⟨y, by omega, by simpa using reach_any (E := E) (N := N) (M := M) 0 y⟩
    | succ x =>
      obtain ⟨d', h3, h4⟩ := ih x y rfl h2
      exact ⟨d' + 1, by omega, h4.right⟩
  | @down d a b hr ih =>
    intro x y h1 h2
    obtain rfl : y = b := by omega
    cases y with
    | zero =>
      obtain ⟨m, h3, h4, h5⟩ := hr.par
      exact ⟨x, by omega, by simpa using reach_any (E := E) (N := N) (M := M) x 0⟩
    | succ y =>
      obtain ⟨d', h3, h4⟩ := ih x y h1 rfl
      exact ⟨d' + 1, by omega, h4.down⟩
  | @diag d a b hr h1 h2 h3 ih =>
    intro x y h4 h5
    obtain rfl : x = a := by omega
    obtain rfl : y = b := by omega
    exact ⟨d, Nat.le_refl _, hr⟩
theorem Reach.backs (n : Nat) {d x y : Nat} (h : Reach E N M d (x + n) (y + n)) : ∃ d', d' ≤ d ∧ Reach E N M d' x y := by
  induction n generalizing d with
  | zero => exact ⟨d, Nat.le_refl _, h⟩
  | succ n ih =>
    obtain ⟨d', h1, h2⟩ := h.back (x + n) (y + n) rfl rfl
    obtain ⟨d'', h3, h4⟩ := ih h2
    exact ⟨d'', by omega, h4⟩

/-- the same sequences from their ends -/
def rev (E : EQT) (N M : Nat) : EQT := fun i j => E (N - 1 - i) (M - 1 - j)
theorem Reach.join {d' i j : Nat} (h : Reach (rev E N M) N M d' i j) : ∀ {d}, i ≤ N → j ≤ M → Reach E N M d (N - i) (M - j) → Reach E N M (d + d') N M := by
  induction h with
  | zero => intro d _ _ h; simpa using h
  | @right d' x y hr ih =>
    intro d h1 h2 h
    have h3 := h.right
    rw [show N - (x + 1) + 1 = N - x by omega] at h3
    have := ih (by omega) h2 h3
    rw [show d + (d' + 1) = d + 1 + d' by omega]
    exact this
  | @down d' x y hr ih =>
    intro d h1 h2 h
    have h3 := h.down
    rw [show M - (y + 1) + 1 = M - y by omega] at h3
    have := ih h1 (by omega) h3
    rw [show d + (d' + 1) = d + 1 + d' by omega]
    exact this
  | @diag d' x y hr hx hy hE ih =>
    intro d h1 h2 h
    have h3 := h.diag (by omega) (by omega) (show E (N - (x + 1)) (M - (y + 1)) = true by
      unfold rev at hE
      rw [show N - (x + 1) = N - 1 - x by omega, show M - (y + 1) = M - 1 - y by omega]
      exact hE)
    rw [show N - (x + 1) + 1 = N - x by omega, show M - (y + 1) + 1 = M - y by omega] at h3
    exact ih (by omega) (by omega) h3
theorem Reach.split {c x y : Nat} (h : Reach E N M c x y) : ∀ {e}, x ≤ N → y ≤ M → Reach (rev E N M) N M e (N - x) (M - y) → ∀ a, a ≤ c → ∃ p q, p ≤ N ∧ q ≤ M ∧ Reach E N M a p q ∧ Reach (rev E N M) N M (e + (c - a)) (N - p) (M - q) := by
  induction h with
  | zero =>
    intro e h1 h2 h a ha
    obtain rfl : a = 0 := by omega
    exact ⟨0, 0, h1, h2, .zero, h⟩
  | @right d x y hr ih =>
    intro e h1 h2 h a ha
    rcases Nat.eq_or_lt_of_le ha with h3 | h3
    · subst h3
      exact ⟨x + 1, y, h1, h2, hr.right, by simpa using h⟩
    · have h4 := h.right
      rw [show N - (x + 1) + 1 = N - x by omega] at h4
      obtain ⟨p, q, hp, hq, h5, h6⟩ := ih (by omega) h2 h4 a (by omega)
      refine ⟨p, q, hp, hq, h5, ?_⟩
      rw [show e + (d + 1 - a) = e + 1 + (d - a) by omega]
      exact h6
  | @down d x y hr ih =>
    intro e h1 h2 h a ha
    rcases Nat.eq_or_lt_of_le ha with h3 | h3
    · subst h3
      exact ⟨x, y + 1, h1, h2, hr.down, by simpa using h⟩
    · have h4 := h.down
      rw [show M - (y + 1) + 1 = M - y by omega] at h4
      obtain ⟨p, q, hp, hq, h5, h6⟩ := ih h1 (by omega) h4 a (by omega)
      refine ⟨p, q, hp, hq, h5, ?_⟩
      rw [show e + (d + 1 - a) = e + 1 + (d - a) by omega]
      exact h6
  | @diag d x y hr hx hy hE ih =>
    intro e h1 h2 h a ha
    have h4 := h.diag (by omega) (by omega) (show rev E N M (N - (x + 1)) (M - (y + 1)) = true by
      unfold rev
      rw [show N - 1 - (N - (x + 1)) = x by omega, show M - 1 - (M - (y + 1)) = y by omega]
      exact hE)
    rw [show N - (x + 1) + 1 = N - x by omega, show M - (y + 1) + 1 = M - y by omega] at h4
    exact ih (by omega) (by omega) h4 a ha

/-- T is the number of edits of a shortest way -/
structure Short (E : EQT) (N M T : Nat) : Prop where
  reach : Reach E N M T N M
  least : ∀ d, Reach E N M d N M → T ≤ d
theorem short_ex (E : EQT) (N M : Nat) : ∃ T, Short E N M T := by
  have key : ∀ n, (∃ d, d ≤ n ∧ Reach E N M d N M) → ∃ T, Short E N M T := by
    intro n
    induction n with
    | zero =>
      rintro ⟨d, h1, h2⟩
      obtain rfl : d = 0 := by omega
      exact ⟨0, h2, fun _ _ => Nat.zero_le _⟩
    | succ n ih =>
      rintro ⟨d, h1, h2⟩
      by_cases h : ∃ d, d ≤ n ∧ Reach E N M d N M
      · exact ih h
      · refine ⟨d, h2, fun d' h' => ?_⟩
        rcases Nat.lt_or_ge n d' with h3 | h3
        · omega
        · exact absurd ⟨d', h3, h'⟩ h
  exact key (N + M) ⟨N + M, Nat.le_refl _, reach_any N M⟩
theorem Short.le {T : Nat} (h : Short E N M T) : T ≤ N + M := h.least _ (reach_any N M)
theorem Short.par {T : Nat} (h : Short E N M T) : ∃ m, N + M = T + 2 * m ∧ m ≤ N ∧ m ≤ M := h.reach.par
/-- a label lies inside where its level and the way that is left are no more than T -/
theorem Short.inside {T d j : Nat} (h : Short E N M T) (hj : j ≤ d) (h1 : 2 * j + M + d ≤ d + N + T) (h2 : d + N + d ≤ 2 * j + M + T) : fwd E N M d j ≤ N ∧ fy E N M d j ≤ M := by
  have hr := reach_fwd (E := E) (N := N) (M := M) d j hj
  have hge := fwd_ge E N M d j hj
  have hfy : fy E N M d j + 2 * j = fwd E N M d j + d := by unfold fy; omega
  generalize fwd E N M d j = x at *
  generalize fy E N M d j = y at *
  by_cases hx : x ≤ N
  · refine ⟨hx, ?_⟩
    rcases Nat.lt_or_ge M y with hy | hy
    · exfalso
      obtain ⟨d', h3, h4⟩ := hr.outY (by omega)
      have h5 := h3.rights (N - x)
      rw [show x + (N - x) = N by omega] at h5
      have := h.least _ h5
      omega
    · exact hy
  · exfalso
    obtain ⟨d', h3, h4⟩ := hr.outX (by omega)
    by_cases hy : y ≤ M
    · have h5 := h3.downs (M - y)
      rw [show y + (M - y) = M by omega] at h5
      have := h.least _ h5
      omega
    · obtain ⟨d'', h5, h6⟩ := h3.outY (by omega)
      have := h.least _ h5
      omega
/-- labels from both ends that meet tell of a way -/
theorem Short.hit {T df db j j' : Nat} (h : Short E N M T) (hj : j ≤ df) (hj' : j' ≤ db) (hk : 2 * j + 2 * j' + M = df + db + N) (ho : N ≤ fwd E N M df j + fwd (rev E N M) N M db j') : T ≤ df + db := by
  have hr := reach_fwd (E := E) (N := N) (M := M) df j hj
  have hr' := reach_fwd (E := rev E N M) (N := N) (M := M) db j' hj'
  have hge := fwd_ge E N M df j hj
  have hge' := fwd_ge (rev E N M) N M db j' hj'
  have hfy : fy E N M df j + 2 * j = fwd E N M df j + df := by unfold fy; omega
  have hfy' : fy (rev E N M) N M db j' + 2 * j' = fwd (rev E N M) N M db j' + db := by unfold fy; omega
  generalize fwd E N M df j = x at *
  generalize fy E N M df j = y at *
  generalize fwd (rev E N M) N M db j' = x' at *
  generalize fy (rev E N M) N M db j' = y' at *
  have hle := h.le
  by_cases hk1 : x ≤ y + N
  · by_cases hk2 : y ≤ x + M
    · obtain ⟨a, b, ha, hb, hab, h1, h2, h3, h4⟩ : ∃ a b, a ≤ N ∧ b ≤ M ∧ a + y = b + x ∧ a ≤ x ∧ b ≤ y ∧ N ≤ a + x' ∧ M ≤ b + y' := by
        by_cases h1 : N - x' ≤ x - y
        · exact ⟨x - y, y - x, by omega, by omega, by omega, by omega, by omega, by omega, by omega⟩
        · by_cases h2 : M - y' ≤ y - x
          · exact ⟨x - y, y - x, by omega, by omega, by omega, by omega, by omega, by omega, by omega⟩
          · exact ⟨N - x', M - y', by omega, by omega, by omega, by omega, by omega, by omega, by omega⟩
      have hr2 : Reach E N M df (a + (x - a)) (b + (x - a)) := by
        rw [show a + (x - a) = x by omega, show b + (x - a) = y by omega]; exact hr
      have hr2' : Reach (rev E N M) N M db (N - a + (x' - (N - a))) (M - b + (x' - (N - a))) := by
        rw [show N - a + (x' - (N - a)) = x' by omega, show M - b + (x' - (N - a)) = y' by omega]; exact hr'
      obtain ⟨d1, h5, h6⟩ := hr2.backs
      obtain ⟨d2, h7, h8⟩ := hr2'.backs
      have h9 := h8.join (d := d1) (by omega) (by omega) (by
        rw [show N - (N - a) = a by omega, show M - (M - b) = b by omega]
        exact h6)
      have := h.least _ h9
      omega
    · omega
  · omega
/-- a way of df + db edits is met by labels from both ends -/
theorem meet {df db : Nat} (h : Reach E N M (df + db) N M) : ∃ j j', j ≤ df ∧ j' ≤ db ∧ 2 * j + 2 * j' + M = df + db + N ∧ N ≤ fwd E N M df j + fwd (rev E N M) N M db j' := by
  obtain ⟨p, q, hp, hq, h1, h2⟩ := h.split (e := 0) (Nat.le_refl _) (Nat.le_refl _) (by simpa using Reach.zero) df (by omega)
  obtain ⟨j, a1, a2, a3⟩ := fwd_max h1
  obtain ⟨j', b1, b2, b3⟩ := fwd_max h2
  rw [show 0 + (df + db - df) = db by omega] at b1 b2 b3
  exact ⟨j, j', a1, b1, by omega, by omega⟩
/-- backwards no shorter way -/
theorem Short.rev {T : Nat} (h : Short E N M T) : ∀ d, Reach (rev E N M) N M d N M → T ≤ d := fun d hd => by
  have := hd.join (d := 0) (Nat.le_refl _) (Nat.le_refl _) (by simpa using Reach.zero)
  have := h.least _ this
  omega
theorem Short.insideR {T d j : Nat} (h : Short E N M T) (hj : j ≤ d) (h1 : 2 * j + M + d ≤ d + N + T) (h2 : d + N + d ≤ 2 * j + M + T) : fwd (Proofs.YtgjbagojcbondaaDoor.rev E N M) N M d j ≤ N ∧ fy (Proofs.YtgjbagojcbondaaDoor.rev E N M) N M d j ≤ M := by
  obtain ⟨T', h'⟩ := short_ex (Proofs.YtgjbagojcbondaaDoor.rev E N M) N M
  have := h.rev _ h'.reach
  exact h'.inside hj (by omega) (by omega)
end
end Go.Proofs.YtgjbagojcbondaaDoor
