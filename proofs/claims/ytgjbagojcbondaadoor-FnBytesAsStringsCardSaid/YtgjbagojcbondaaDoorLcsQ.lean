/-
  Pieces of a longest common subsequence: chains of them, taking a label's way back: plain theory, no program in sight. No condition.
-/
import Derived.Test.YtgjbagojcbondaaDoorLcsP
namespace Go.Proofs.YtgjbagojcbondaaDoor
set_option linter.unusedVariables false

/-- a piece: where it begins in both, how long it is -/
structure Pc where
  x : Nat
  y : Nat
  l : Nat
  deriving DecidableEq

instance : Inhabited Pc := ⟨⟨0, 0, 0⟩⟩

/-- a piece is alike in both -/
def Pc.ok (E : EQT) (p : Pc) : Prop := 0 < p.l ∧ ∀ i, i < p.l → E (p.x + i) (p.y + i) = true
/-- pieces one behind the other, from (a, b) to (c, d) -/
def Ch (E : EQT) : Nat → Nat → List Pc → Nat → Nat → Prop
  | a, b, [], c, d => a ≤ c ∧ b ≤ d
  | a, b, p :: ps, c, d => a ≤ p.x ∧ b ≤ p.y ∧ p.ok E ∧ Ch E (p.x + p.l) (p.y + p.l) ps c d
def sumP (ps : List Pc) : Nat := (ps.map Pc.l).sum
theorem sumP_cons (p : Pc) (ps : List Pc) : sumP (p :: ps) = p.l + sumP ps := by simp [sumP]
theorem sumP_append (a b : List Pc) : sumP (a ++ b) = sumP a + sumP b := by simp [sumP]

section
variable {E : EQT}
theorem Ch.le {ps : List Pc} {a b c d : Nat} (h : Ch E a b ps c d) : a ≤ c ∧ b ≤ d := by
  induction ps generalizing a b with
  | nil => exact h
  | cons p ps ih =>
    obtain ⟨h1, h2, h3, h4⟩ := h
    have := ih h4
    exact ⟨by omega, by omega⟩
theorem Ch.lo {ps : List Pc} {a b c d a' b' : Nat} (h : Ch E a b ps c d) (h1 : a' ≤ a) (h2 : b' ≤ b) : Ch E a' b' ps c d := by
  cases ps with
  | nil => exact ⟨Nat.le_trans h1 h.1, Nat.le_trans h2 h.2⟩
  | cons p ps => exact ⟨Nat.le_trans h1 h.1, Nat.le_trans h2 h.2.1, h.2.2⟩
theorem Ch.hi {ps : List Pc} {a b c d c' d' : Nat} (h : Ch E a b ps c d) (h1 : c ≤ c') (h2 : d ≤ d') : Ch E a b ps c' d' := by
  induction ps generalizing a b with
  | nil => exact ⟨Nat.le_trans h.1 h1, Nat.le_trans h.2 h2⟩
  | cons p ps ih =>
    obtain ⟨h3, h4, h5, h6⟩ := h
    exact ⟨h3, h4, h5, ih h6⟩
theorem Ch.app {ps qs : List Pc} {a b c d c' d' : Nat} (h : Ch E a b ps c d) (k : Ch E c d qs c' d') : Ch E a b (ps ++ qs) c' d' := by
  induction ps generalizing a b with
  | nil => exact k.lo h.1 h.2
  | cons p ps ih =>
    obtain ⟨h3, h4, h5, h6⟩ := h
    exact ⟨h3, h4, h5, ih h6⟩
theorem Ch.split {ps qs : List Pc} {a b c' d' : Nat} (h : Ch E a b (ps ++ qs) c' d') : ∃ c d, Ch E a b ps c d ∧ Ch E c d qs c' d' := by
  induction ps generalizing a b with
  | nil => exact ⟨a, b, ⟨Nat.le_refl _, Nat.le_refl _⟩, h⟩
  | cons p ps ih =>
    obtain ⟨h3, h4, h5, h6⟩ := h
    obtain ⟨c, d, h7, h8⟩ := ih h6
    exact ⟨c, d, ⟨h3, h4, h5, h7⟩, h8⟩
theorem Ch.one {p : Pc} {a b c d : Nat} (h1 : a ≤ p.x) (h2 : b ≤ p.y) (h3 : p.ok E) (h4 : p.x + p.l ≤ c) (h5 : p.y + p.l ≤ d) : Ch E a b [p] c d := ⟨h1, h2, h3, h4, h5⟩
theorem Pc.ok_one {x y : Nat} (h : E x y = true) : (⟨x, y, 1⟩ : Pc).ok E := ⟨by simp, fun i hi => by
  have : i = 0 := by simpa using hi
  subst this
  exact h⟩
end

/-- a match laid ahead of pieces -/
def prep (x y : Nat) : List Pc → List Pc
  | [] => [⟨x, y, 1⟩]
  | p :: ps => if p.x = x + 1 ∧ p.y = y + 1 then ⟨x, y, p.l + 1⟩ :: ps else ⟨x, y, 1⟩ :: p :: ps
theorem prep_cons (x y : Nat) (p : Pc) (ps : List Pc) : prep x y (p :: ps) = if p.x = x + 1 ∧ p.y = y + 1 then ⟨x, y, p.l + 1⟩ :: ps else ⟨x, y, 1⟩ :: p :: ps := rfl
theorem prep_sum (x y : Nat) (ps : List Pc) : sumP (prep x y ps) = sumP ps + 1 := by
  cases ps with
  | nil => rfl
  | cons p ps =>
    rw [prep_cons]
    split
    · simp only [sumP_cons]; omega
    · simp only [sumP_cons]; omega
theorem prep_ch {E : EQT} {x y c d : Nat} {ps : List Pc} (h : Ch E (x + 1) (y + 1) ps c d) (hE : E x y = true) : Ch E x y (prep x y ps) c d := by
  cases ps with
  | nil => exact Ch.one (Nat.le_refl _) (Nat.le_refl _) (Pc.ok_one hE) h.1 h.2
  | cons p ps =>
    obtain ⟨h1, h2, ⟨h3, h3'⟩, h4⟩ := h
    rw [prep_cons]
    split
    · rename_i he
      refine ⟨Nat.le_refl _, Nat.le_refl _, ⟨by simp, fun i hi => ?_⟩, ?_⟩
      · cases i with
        | zero => exact hE
        | succ i =>
          have := h3' i (by simp at hi; omega)
          rw [he.1, he.2] at this
          show E (x + (i + 1)) (y + (i + 1)) = true
          rw [← this]
          congr 1 <;> omega
      · rw [he.1, he.2] at h4
        show Ch E (x + (p.l + 1)) (y + (p.l + 1)) ps c d
        rw [show x + (p.l + 1) = x + 1 + p.l by omega, show y + (p.l + 1) = y + 1 + p.l by omega]
        exact h4
    · exact ⟨Nat.le_refl _, Nat.le_refl _, Pc.ok_one hE, h1, h2, ⟨h3, h3'⟩, h4⟩

/-- a match laid behind pieces -/
def appd (ps : List Pc) (x y : Nat) : List Pc :=
  match ps.getLast? with
  | none => ps ++ [⟨x, y, 1⟩]
  | some p => if p.x + p.l = x ∧ p.y + p.l = y then ps.dropLast ++ [⟨p.x, p.y, p.l + 1⟩] else ps ++ [⟨x, y, 1⟩]
theorem snoc_form (ps : List Pc) : ps = [] ∨ ∃ qs q, ps = qs ++ [q] := by
  rcases List.eq_nil_or_concat ps with h | ⟨qs, q, h⟩
  · exact .inl h
  · exact .inr ⟨qs, q, by simpa using h⟩
theorem appd_nil (x y : Nat) : appd [] x y = [⟨x, y, 1⟩] := rfl
theorem appd_snoc (qs : List Pc) (q : Pc) (x y : Nat) : appd (qs ++ [q]) x y = if q.x + q.l = x ∧ q.y + q.l = y then qs ++ [⟨q.x, q.y, q.l + 1⟩] else qs ++ [q] ++ [⟨x, y, 1⟩] := by
  unfold appd
  simp
theorem appd_sum (ps : List Pc) (x y : Nat) : sumP (appd ps x y) = sumP ps + 1 := by
  rcases snoc_form ps with h | ⟨qs, q, h⟩
  · subst h; rfl
  · subst h
    rw [appd_snoc]
    split
    · simp only [sumP_append, sumP_cons]; simp [sumP]; omega
    · simp only [sumP_append, sumP_cons]; simp [sumP]
theorem appd_ch {E : EQT} {a b x y : Nat} {ps : List Pc} (h : Ch E a b ps x y) (hE : E x y = true) : Ch E a b (appd ps x y) (x + 1) (y + 1) := by
  rcases snoc_form ps with h' | ⟨qs, q, h'⟩
  · subst h'
    exact Ch.one h.1 h.2 (Pc.ok_one hE) (Nat.le_refl _) (Nat.le_refl _)
  · subst h'
    rw [appd_snoc]
    obtain ⟨c, d, h1, h2, h3, ⟨h4, h5⟩, h6, h7⟩ := h.split
    split
    · rename_i he
      refine h1.app (Ch.one h2 h3 ⟨by simp, fun i hi => ?_⟩ (by simp; omega) (by simp; omega))
      rcases Nat.lt_or_ge i q.l with hl | hl
      · exact h5 i hl
      · have : i = q.l := by simp at hi; omega
        subst this
        show E (q.x + q.l) (q.y + q.l) = true
        rw [he.1, he.2]
        exact hE
    · exact h.app (Ch.one (Nat.le_refl _) (Nat.le_refl _) (Pc.ok_one hE) (Nat.le_refl _) (Nat.le_refl _))

/-! ### pieces of which no two overlap, in any order -/
def Apart (p q : Pc) : Prop := (p.x + p.l ≤ q.x ∧ p.y + p.l ≤ q.y) ∨ (q.x + q.l ≤ p.x ∧ q.y + q.l ≤ p.y)
theorem Apart.symm {p q : Pc} (h : Apart p q) : Apart q p := h.elim .inr .inl
/-- pieces inside a rectangle, alike in both, no two of them overlapping -/
structure Good (E : EQT) (a b c d : Nat) (ps : List Pc) : Prop where
  all : ∀ p ∈ ps, p.ok E ∧ a ≤ p.x ∧ b ≤ p.y ∧ p.x + p.l ≤ c ∧ p.y + p.l ≤ d
  apart : ps.Pairwise Apart
theorem Ch.mem {E : EQT} {ps : List Pc} {a b c d : Nat} (h : Ch E a b ps c d) : ∀ p ∈ ps, p.ok E ∧ a ≤ p.x ∧ b ≤ p.y ∧ p.x + p.l ≤ c ∧ p.y + p.l ≤ d := by
  induction ps generalizing a b with
  | nil => intro p hp; simp at hp
  | cons q ps ih =>
    obtain ⟨h1, h2, h3, h4⟩ := h
    intro p hp
    have hle := h4.le
    rcases List.mem_cons.1 hp with h | h
    · subst h
      exact ⟨h3, h1, h2, hle.1, hle.2⟩
    · obtain ⟨g1, g2, g3, g4, g5⟩ := ih h4 p h
      exact ⟨g1, by omega, by omega, g4, g5⟩
theorem Ch.good {E : EQT} {ps : List Pc} {a b c d : Nat} (h : Ch E a b ps c d) : Good E a b c d ps := by
  refine ⟨h.mem, ?_⟩
  induction ps generalizing a b with
  | nil => exact List.Pairwise.nil
  | cons q ps ih =>
    obtain ⟨h1, h2, h3, h4⟩ := h
    refine List.Pairwise.cons (fun p hp => ?_) (ih h4)
    obtain ⟨g1, g2, g3, g4, g5⟩ := h4.mem p hp
    exact .inl ⟨g2, g3⟩
theorem Good.perm {E : EQT} {ps qs : List Pc} {a b c d : Nat} (h : Good E a b c d ps) (hp : ps.Perm qs) : Good E a b c d qs :=
  ⟨fun p hq => h.all p (hp.mem_iff.2 hq), hp.pairwise h.apart (fun h => h.symm)⟩
theorem sumP_perm {ps qs : List Pc} (h : ps.Perm qs) : sumP ps = sumP qs := (h.map Pc.l).sum_nat
/-- sorted by where they begin they are a chain -/
theorem Good.chain {E : EQT} {ps : List Pc} {a b c d : Nat} (h : Good E a b c d ps) (hs : ps.Pairwise fun p q => p.x ≤ q.x) (hab : a ≤ c ∧ b ≤ d) : Ch E a b ps c d := by
  induction ps generalizing a b with
  | nil => exact hab
  | cons p ps ih =>
    obtain ⟨g1, g2, g3, g4, g5⟩ := h.all p (by simp)
    refine ⟨g2, g3, g1, ih ⟨fun q hq => ?_, (List.pairwise_cons.1 h.apart).2⟩ (List.pairwise_cons.1 hs).2 ⟨g4, g5⟩⟩
    obtain ⟨k1, k2, k3, k4, k5⟩ := h.all q (by simp [hq])
    have h1 := (List.pairwise_cons.1 h.apart).1 q hq
    have h2 := (List.pairwise_cons.1 hs).1 q hq
    have h3 := g1.1
    have h4 := k1.1
    refine ⟨k1, ?_, ?_, k4, k5⟩
    · rcases h1 with h1 | h1 <;> omega
    · rcases h1 with h1 | h1 <;> omega
theorem Good.app {E : EQT} {ps qs : List Pc} {a b c d a' b' : Nat} (h : Good E a b a' b' ps) (k : Good E a' b' c d qs) (h1 : a ≤ a' ∧ b ≤ b') (h2 : a' ≤ c ∧ b' ≤ d) : Good E a b c d (ps ++ qs) := by
  refine ⟨fun p hp => ?_, List.pairwise_append.2 ⟨h.apart, k.apart, fun p hp q hq => ?_⟩⟩
  · rcases List.mem_append.1 hp with hp | hp
    · obtain ⟨g1, g2, g3, g4, g5⟩ := h.all p hp
      exact ⟨g1, g2, g3, by omega, by omega⟩
    · obtain ⟨g1, g2, g3, g4, g5⟩ := k.all p hp
      exact ⟨g1, by omega, by omega, g4, g5⟩
  · obtain ⟨g1, g2, g3, g4, g5⟩ := h.all p hp
    obtain ⟨k1, k2, k3, k4, k5⟩ := k.all q hq
    exact .inl ⟨by omega, by omega⟩

/-! ### the way back from a label -/
section
variable {E : EQT} {N M : Nat}
/-- at the way back the point (x, y) of level d lies on the run of label (d, j) -/
structure OnRun (E : EQT) (N M d j x y : Nat) : Prop where
  hj : j ≤ d
  hy : y + 2 * j = x + d
  lo : fst0 E N M d j ≤ x
  hi : x ≤ fwd E N M d j
theorem OnRun.top (E : EQT) (N M d j : Nat) (h : j ≤ d) : OnRun E N M d j (fwd E N M d j) (fy E N M d j) := by
  have := fwd_ge E N M d j h
  exact ⟨h, by unfold fy; omega, fst_le E N M d j h, Nat.le_refl _⟩
theorem OnRun.left {d j x y : Nat} (h : OnRun E N M (d + 1) (j + 1) x y) (hx : x = fwd E N M d j + 1) : OnRun E N M d j (fwd E N M d j) y := by
  have h1 := h.hj
  have h2 := h.hy
  exact ⟨by omega, by omega, fst_le E N M d j (by omega), Nat.le_refl _⟩
theorem OnRun.down {d j x y : Nat} (h : OnRun E N M (d + 1) j x y) (hj : j ≤ d) (hx : x = fwd E N M d j) : 0 < y ∧ OnRun E N M d j x (y - 1) := by
  have h2 := h.hy
  have h3 := fwd_ge E N M d j hj
  exact ⟨by omega, hj, by omega, by rw [hx]; exact fst_le E N M d j hj, by omega⟩
/-- where neither step fits there is a match -/
theorem OnRun.diag {d j x y : Nat} (h : OnRun E N M d j x y) (h0 : ¬ (x = 0 ∧ y = 0)) (h1 : ∀ d' j', d = d' + 1 → j = j' + 1 → x ≠ fwd E N M d' j' + 1) (h2 : ∀ d', d = d' + 1 → j ≤ d' → x ≠ fwd E N M d' j) :
    0 < x ∧ 0 < y ∧ x - 1 < N ∧ y - 1 < M ∧ E (x - 1) (y - 1) = true ∧ OnRun E N M d j (x - 1) (y - 1) := by
  obtain ⟨a, b, c, e⟩ := h
  have hs : fst0 E N M d j < x := by
    rcases Nat.eq_or_lt_of_le c with hc | hc
    · exfalso
      cases d with
      | zero =>
        have : j = 0 := by omega
        subst this
        have : fst0 E N M 0 0 = 0 := rfl
        omega
      | succ d =>
        rcases fst_or E N M d j a with ⟨k1, k2⟩ | ⟨k1, k2⟩
        · exact h1 d (j - 1) rfl (by omega) (by omega)
        · exact h2 d rfl k1 (by omega)
    · exact hc
  have hf := fst_fwd E N M d j a
  have hr := fwd_run E N M d j (x - 1) a (by omega) (by omega)
  rw [show x - 1 + d - 2 * j = y - 1 by omega] at hr
  exact ⟨by omega, by omega, hr.1, hr.2.1, hr.2.2, a, by omega, by omega, by omega⟩
/-- at the start nothing is left -/
theorem OnRun.start {d j : Nat} (h : OnRun E N M d j 0 0) : d = 0 := by
  obtain ⟨a, b, c, e⟩ := h
  cases d with
  | zero => rfl
  | succ d =>
    exfalso
    have h1 := fst_left E N M d (j - 1) (by omega)
    rw [show j - 1 + 1 = j by omega] at h1
    omega
end
end Go.Proofs.YtgjbagojcbondaaDoor
