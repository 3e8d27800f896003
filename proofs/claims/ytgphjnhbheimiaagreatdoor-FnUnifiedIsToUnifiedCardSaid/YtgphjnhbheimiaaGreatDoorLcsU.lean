/-
  The road from both ends where the two meet: how many are kept; plain theory, no program in sight. No condition.
-/
import Derived.Test.YtgphjnhbheimiaaGreatDoorLcsX
import Derived.Test.YtgphjnhbheimiaaGreatDoorLcsR
import Derived.Test.YtgphjnhbheimiaaGreatDoorLcsT1
namespace Go.Proofs.YtgphjnhbheimiaaGreatDoor
set_option linter.unusedVariables false

section
variable {E : EQT} {N M : Nat}
/-- a way to a point inside a smaller rectangle stays inside it -/
theorem reach_sub {u v d x y : Nat} (h : Reach E N M d x y) : x ≤ u → y ≤ v → Reach E u v d x y := by
  induction h with
  | zero => exact fun _ _ => .zero
  | right _ ih => exact fun h1 h2 => (ih (by omega) h2).right
  | down _ ih => exact fun h1 h2 => (ih h1 (by omega)).down
  | diag _ _ _ hE ih => exact fun h1 h2 => (ih (by omega) (by omega)).diag (by omega) (by omega) hE
theorem reach_ch {ps : List Pc} : ∀ {a b c d k : Nat}, Ch E a b ps c d → c ≤ N → d ≤ M → Reach E N M k a b → ∃ k', k' + 2 * sumP ps + a + b = k + c + d ∧ Reach E N M k' c d := by
  induction ps with
  | nil =>
    intro a b c d k h h1 h2 hr
    obtain ⟨g1, g2⟩ : a ≤ c ∧ b ≤ d := h
    refine ⟨k + (c - a) + (d - b), by simp [sumP]; omega, ?_⟩
    have := (hr.rights (c - a)).downs (d - b)
    rw [show a + (c - a) = c by omega, show b + (d - b) = d by omega] at this
    exact this
  | cons p ps ih =>
    intro a b c d k h h1 h2 hr
    obtain ⟨g1, g2, ⟨g3, g4⟩, g5⟩ := h
    have hle := g5.le
    have h3 := (hr.rights (p.x - a)).downs (p.y - b)
    rw [show a + (p.x - a) = p.x by omega, show b + (p.y - b) = p.y by omega] at h3
    have h4 := h3.diags p.l (fun i hi => ⟨by omega, by omega, g4 i hi⟩)
    obtain ⟨k', h5, h6⟩ := ih g5 h1 h2 h4
    exact ⟨k', by rw [sumP_cons]; omega, h6⟩
theorem ch_short {T : Nat} {ps : List Pc} (h : Short E N M T) (hc : Ch E 0 0 ps N M) : 2 * sumP ps + T ≤ N + M := by
  obtain ⟨k', h1, h2⟩ := reach_ch hc (Nat.le_refl _) (Nat.le_refl _) Reach.zero
  have := h.least _ h2
  omega
end

/-- where the two labels lie that meet -/
structure Tw (E : EQT) (N M df db j j' x y u v n : Nat) : Prop where
  hx : fwd E N M df j = x
  hy : fy E N M df j = y
  hu : N - fwd (rev E N M) N M db j' = u
  hv : M - fy (rev E N M) N M db j' = v
  hu2 : fwd (rev E N M) N M db j' + u = N
  hv2 : fy (rev E N M) N M db j' + v = M
  hj : j ≤ df
  hj' : j' ≤ db
  xn : x = u + n
  yn : y = v + n
  xN : x ≤ N
  yM : y ≤ M
  kf : y + 2 * j = x + df
  kb : M + u + 2 * j' = N + v + db
theorem tw_of {E : EQT} {N M df db j j' : Nat} (h : Short E N M (df + db)) (ho : Over E N M df db j j') : ∃ x y u v n, Tw E N M df db j j' x y u v n := by
  obtain ⟨h1, h2, h3, h4⟩ := ho
  obtain ⟨g1, g2⟩ := h.inside h1 (by omega) (by omega)
  obtain ⟨k1, k2⟩ := h.insideR h2 (by omega) (by omega)
  have f1 := fwd_ge E N M df j h1
  have f2 := fwd_ge (rev E N M) N M db j' h2
  have e1 : fy E N M df j + 2 * j = fwd E N M df j + df := by unfold fy; omega
  have e2 : fy (rev E N M) N M db j' + 2 * j' = fwd (rev E N M) N M db j' + db := by unfold fy; omega
  generalize hx : fwd E N M df j = x at *
  generalize hy : fy E N M df j = y at *
  generalize hu : fwd (rev E N M) N M db j' = fu at *
  generalize hv : fy (rev E N M) N M db j' = fv at *
  exact ⟨x, y, N - fu, M - fv, x - (N - fu), hx, hy, by rw [hu], by rw [hv], by rw [hu]; omega, by rw [hv]; omega, h1, h2, by omega, by omega, g1, g2, e1, by omega⟩
section
variable {E : EQT} {N M df db j j' x y u v n : Nat}
theorem Tw.sub (h : Tw E N M df db j j' x y u v n) : ∃ T', Short E u v T' ∧ T' ≤ df := by
  have h1 := reach_fwd (E := E) (N := N) (M := M) df j h.hj
  rw [h.hx, h.hy, h.xn, h.yn] at h1
  obtain ⟨d', h2, h3⟩ := h1.backs n
  obtain ⟨T', hT⟩ := short_ex E u v
  exact ⟨T', hT, Nat.le_trans (hT.least _ (reach_sub h3 (Nat.le_refl _) (Nat.le_refl _))) h2⟩
end
/-- the pieces of both halves, sorted, are a chain as long as it can be -/
theorem tw_fin {E : EQT} {N M T a b c d : Nat} {ps qs us : List Pc} (hT : Short E N M T) (h1 : Ch E 0 0 ps a b) (h2 : Ch E c d qs N M) (hac : a ≤ c) (hbd : b ≤ d) (hp : us.Perm (ps ++ qs)) (hs : us.Pairwise fun p q => p.x ≤ q.x)
    (hk : N + M ≤ 2 * sumP ps + 2 * sumP qs + T) : Ch E 0 0 us N M ∧ 2 * sumP us + T = N + M := by
  have hg := Good.app h1.good (h2.lo hac hbd).good ⟨Nat.zero_le _, Nat.zero_le _⟩ ⟨Nat.le_trans hac h2.le.1, Nat.le_trans hbd h2.le.2⟩
  have hc := (hg.perm hp.symm).chain hs ⟨Nat.zero_le _, Nat.zero_le _⟩
  have h3 := sumP_perm hp
  rw [sumP_append] at h3
  exact ⟨hc, by have := ch_short hT hc; omega⟩
theorem tw_one {E : EQT} {N M T : Nat} {us : List Pc} (hT : Short E N M T) (h : Ch E 0 0 us N M) (hk : N + M ≤ 2 * sumP us + T) : Ch E 0 0 us N M ∧ 2 * sumP us + T = N + M :=
  ⟨h, by have := ch_short hT h; omega⟩
end Go.Proofs.YtgphjnhbheimiaaGreatDoor
