/-
  The walk of spec.Near; how many differences there are. Condition: at most a million elements each.
-/
import Derived.Test.YtbolgikdadhaeaaLcsL
import Derived.Test.YtbolgikdadhaeaaLcsR2
namespace Go.Proofs.Ytbolgikdadhaeaa
set_option linter.unusedVariables false
open Go.RowKit

/-- what spec.Near tells -/
def NearOut (E : EQT) (N M : Nat) (w : World) (e : Ending) (w' : World) : Prop :=
  ∃ (n : Nat) (b : Bool), e = .returned (.tuple #[.int .i64 n, .bool b]) ∧ (b = true → n = lcsW E N M ∧ N + M ≤ 60 + 2 * n) ∧ Below w.heap.size w w'
theorem lcsW_le2 (E : EQT) (i j : Nat) : lcsW E i j ≤ j := by
  induction i generalizing j with
  | zero => simp [lcsW]
  | succ i ih =>
    induction j with
    | zero => simp [lcsW]
    | succ j ihj =>
      have h1 := ih j
      have h2 := ih (j + 1)
      simp only [lcsW]
      split <;> omega
theorem lcsW_min (E : EQT) (N M : Nat) : lcsW E N M ≤ N ∧ lcsW E N M ≤ M := ⟨lcsW_le E N M, lcsW_le2 E N M⟩
set_option maxRecDepth 100000 in
set_option maxHeartbeats 400000 in
theorem near_any (A C : Option Addr) (c d : Nat) (xs ys : List Int) (w : World) (hx : IntsR .i64 w A xs) (hy : IntsR .i64 w C ys) (hl : xs.length ≤ 1000001) (hm : ys.length ≤ 1000001) :
    Calls Try.prog 25 #[.slice A xs.length c, .slice C ys.length d] w (NearOut (eqI xs ys) xs.length ys.length w) := by
  have HLG := Lib.hid (longest_any A C c d xs ys w hx hy hl hm)
  have hlw := lcsW_min (eqI xs ys) xs.length ys.length
  clear hx hy
  generalize eqI xs ys = E at *
  obtain ⟨l, hln⟩ : ∃ n, xs.length = n := ⟨_, rfl⟩
  obtain ⟨m, hlm⟩ : ∃ n, ys.length = n := ⟨_, rfl⟩
  rw [hln] at hl HLG hlw ⊢
  rw [hlm] at hm HLG hlw ⊢
  clear hln hlm
  obtain ⟨k, hk⟩ : ∃ k, lcsW E l m = k := ⟨_, rfl⟩
  rw [hk] at HLG hlw
  obtain ⟨hk1, hk2⟩ := hlw
  have HK := Lib.hid hk; clear hk
  by_cases c1 : (250000 : Int) < (l : Int)
  · go_enter Try.func25, Try.ntmps25
    go_wp2
    go_ret2
    exact ⟨0, false, rfl, (fun h => by cases h), Below.refl _ _⟩
  · by_cases c2 : (250000 : Int) < (m : Int)
    · go_enter Try.func25, Try.ntmps25
      go_wp2
      go_ret2
      exact ⟨0, false, rfl, (fun h => by cases h), Below.refl _ _⟩
    · obtain ⟨P, hP⟩ : ∃ P, l * m = P := ⟨_, rfl⟩
      have hPb : P ≤ 1000001 * 1000001 := by rw [← hP]; exact Nat.mul_le_mul (by omega) (by omega)
      have wP : IntKind.i64.wrap ((l : Int) * (m : Int)) = (P : Int) := by rw [← Int.natCast_mul, hP]; exact IntWalk.i64_in _ (by omega)
      clear hP
      by_cases c3 : (250000 : Int) < (P : Int)
      · go_enter Try.func25, Try.ntmps25
        go_wp2
        go_ret2
        exact ⟨0, false, rfl, (fun h => by cases h), Below.refl _ _⟩
      · go_enter Try.func25, Try.ntmps25
        go_wp2_with fail
        refine HLG.out.mono ?_
        rintro e w1 ⟨rfl, hb⟩
        have HB := Lib.hid hb; clear hb
        go_wp2
        go_ret2
        exact ⟨k, _, rfl, fun h => ⟨HK.out.symm, by simp at h; omega⟩, HB.out⟩

/-- each difference takes or puts at least one element -/
theorem diffs_room {E : EQT} {N M : Nat} {ps : List Pc} : ∀ {a b}, Ch E a b ps N M → (diffsFrom N M a b ps).length + 2 * sumP ps + a + b ≤ N + M := by
  induction ps with
  | nil =>
    intro a b h
    unfold diffsFrom
    have := h.1
    have := h.2
    by_cases h5 : a < N ∨ b < M
    · rw [if_pos h5]; simp [sumP]; omega
    · rw [if_neg h5]; simp [sumP]; omega
  | cons p ps ih =>
    intro a b h
    obtain ⟨g1, g2, ⟨g3, g4⟩, g5⟩ := h
    have := ih g5
    unfold diffsFrom
    rw [sumP_cons, List.length_append]
    by_cases h5 : a < p.x ∨ b < p.y
    · rw [if_pos h5]; simp; omega
    · rw [if_neg h5]; simp; omega
theorem diffs_none {E : EQT} {N M : Nat} {ps : List Pc} : ∀ {a b}, Ch E a b ps N M → diffsFrom N M a b ps = [] → N = a + sumP ps ∧ M = b + sumP ps := by
  induction ps with
  | nil =>
    intro a b h h0
    unfold diffsFrom at h0
    have := h.1
    have := h.2
    by_cases h5 : a < N ∨ b < M
    · rw [if_pos h5] at h0; cases h0
    · simp [sumP]; omega
  | cons p ps ih =>
    intro a b h h0
    obtain ⟨g1, g2, ⟨g3, g4⟩, g5⟩ := h
    unfold diffsFrom at h0
    by_cases h5 : a < p.x ∨ b < p.y
    · rw [if_pos h5] at h0; cases h0
    · rw [if_neg h5] at h0
      have := ih g5 h0
      rw [sumP_cons]; omega
end Go.Proofs.Ytbolgikdadhaeaa
