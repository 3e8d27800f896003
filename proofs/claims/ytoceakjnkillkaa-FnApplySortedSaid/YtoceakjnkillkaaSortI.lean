/-
  The walks of (editsSort).Len, Less and of sort.IsSorted over it. No condition but the length.
-/
import Derived.Test.YtoceakjnkillkaaEdits
import Derived.Deep.LoopGhost
import Derived.IntWalk
import Derived.Shelf.GgSortMore.Iface
namespace Go.Proofs.Ytoceakjnkillkaa
set_option linter.unusedVariables false
open Go.RowKit Go.Shelf

/-- (editsSort).Less, as the code reckons it -/
def lessW (x y : Ed) : Bool := if IntKind.i64.wrap (x.s - y.s) = 0 then decide (x.e < y.e) else decide (IntKind.i64.wrap (x.s - y.s) < 0)
/-- sort.IsSorted of it -/
def sortedW : List Ed → Bool
  | x :: y :: l => !lessW y x && sortedW (y :: l)
  | _ => true
theorem sortedW_iff (l : List Ed) : sortedW l = true ↔ ∀ k, k + 1 < l.length → lessW (edAt l (k + 1)) (edAt l k) = false := by
  induction l with
  | nil => simp [sortedW]
  | cons x l ih =>
    cases l with
    | nil => simp [sortedW]
    | cons y l =>
      simp only [sortedW, Bool.and_eq_true, ih, Bool.not_eq_true']
      constructor
      · rintro ⟨h1, h2⟩ k hk
        cases k with
        | zero => simpa [edAt] using h1
        | succ k =>
          have := h2 k (by simpa using hk)
          simpa [edAt] using this
      · intro h
        refine ⟨by simpa [edAt] using h 0 (by simp), fun k hk => ?_⟩
        have := h (k + 1) (by simpa using hk)
        simpa [edAt] using this

theorem len_any (A : Option Addr) (n c : Nat) (w : World) :
   Calls Try.prog 75 #[.slice A n c] w fun e w' => e = .returned (.int .i64 n) ∧ w' = w := by
  go_enter Try.func75, Try.ntmps75
  go_wp2
  go_ret
  exact ⟨rfl, rfl⟩

set_option maxHeartbeats 1000000 in
theorem less_any (A : Option Addr) (c : Nat) (es : List Ed) (w : World) (i j : Nat) (hr : EdsR w A es) (hi : i < es.length) (hj : j < es.length) (hl : es.length ≤ 20000000) :
   Calls Try.prog 76 #[.slice A es.length c, .int .i64 i, .int .i64 j] w fun e w' => e = .returned (.bool (lessW (edAt es i) (edAt es j))) ∧ ∃ q, w' = w.drewN q := by
  obtain ⟨b, off, rfl, hbb, g1, g2, g3⟩ := hr.at_ hi
  obtain ⟨b', off', hA, hbb', f1, f2, f3⟩ := hr.at_ hj
  cases hA
  clear hr hbb'
  obtain ⟨n, hln⟩ : ∃ n, es.length = n := ⟨_, rfl⟩
  rw [hln] at hl hi hj ⊢
  have LX := Lib.hid hln; clear hln
  have hi2 : (i : Int) < (n : Int) := by omega
  have hj2 : (j : Int) < (n : Int) := by omega
  have hi3 : (0 : Int) ≤ (i : Int) := by omega
  have hj3 : (0 : Int) ≤ (j : Int) := by omega
  obtain ⟨d, hd⟩ : ∃ d, IntKind.i64.wrap (eS es i - eS es j) = d := ⟨_, rfl⟩
  have hE : lessW (edAt es i) (edAt es j) = (if d = 0 then decide (eE es i < eE es j) else decide (d < 0)) := by rw [← hd]; rfl
  by_cases h0 : d = 0
  · have hb1 : (d != 0) = false := by simp [h0]
    have hb2 : (d == 0) = true := by simp [h0]
    rw [if_pos h0] at hE
    have HE := Lib.hid hE; clear hE h0
    by_cases he : eE es i < eE es j
    all_goals
      go_enter Try.func76, Try.ntmps76
      go_wp2
      go_quiet (fail)
      go_wp2
      go_quiet (fail)
      go_wp2
      go_ret
      exact ⟨ret_bool (by rw [HE.out] <;> first | (simp; done) | (simp; omega)), _, World.drewN_drewN _ _ _⟩
  · have hb1 : (d != 0) = true := by simp [h0]
    have hb2 : (d == 0) = false := by simp [h0]
    rw [if_neg h0] at hE
    have HE := Lib.hid hE; clear hE h0
    go_enter Try.func76, Try.ntmps76
    go_wp2
    go_quiet (fail)
    go_wp2
    go_ret
    exact ⟨ret_bool HE.out.symm, _, rfl⟩

theorem findsLen (p : Option Addr) (n c : Nat) : ∀ w, (method (Try.prog.types.size + Made.depth) 68 (.slice p n c) "Len").run Try.prog w = .ok (75, .slice p n c) w := fun _ => by kernel_rfl
theorem findsLess (p : Option Addr) (n c : Nat) : ∀ w, (method (Try.prog.types.size + Made.depth) 68 (.slice p n c) "Less").run Try.prog w = .ok (76, .slice p n c) w := fun _ => by kernel_rfl
theorem findsSwap (p : Option Addr) (n c : Nat) : ∀ w, (method (Try.prog.types.size + Made.depth) 68 (.slice p n c) "Swap").run Try.prog w = .ok (77, .slice p n c) w := fun _ => by kernel_rfl

set_option maxHeartbeats 1000000 in
theorem isSorted_any (A : Option Addr) (c : Nat) (es : List Ed) (w : World) (hr : EdsR w A es) (hl : es.length ≤ 20000000) :
   Calls Try.prog 42 #[.iface 68 (.slice A es.length c)] w fun e w' => e = .returned (.bool (sortedW es)) ∧ ∃ q, w' = w.drewN q := by
  have hle := fun q i j (hi : i < es.length) (hj : j < es.length) => less_any A c es (w.drewN q) i j (hr.drewN q) hi hj hl
  have hln := fun q => len_any A es.length c (w.drewN q)
  have HLE := Lib.hid hle; clear hle
  have HLN := Lib.hid hln; clear hln hr
  obtain ⟨n, hn⟩ : ∃ n, es.length = n := ⟨_, rfl⟩
  rw [hn] at hl HLE HLN ⊢
  have LX := Lib.hid hn; clear hn
  have m1 : ∀ w, Sem.run Try.prog (method 208 68 (.slice A n c) "Len") w = .ok (75, .slice A n c) w := findsLen A n c
  have m2 : ∀ w, Sem.run Try.prog (method 208 68 (.slice A n c) "Less") w = .ok (76, .slice A n c) w := findsLess A n c
  have e1 := enters_of Try.func75 (by kernel_rfl) rfl
  have e2 := enters_of Try.func76 (by kernel_rfl) rfl
  go_enter Try.func42, Try.ntmps42
  go_wp2_with fail
  refine (HLN.out 0).mono ?_
  rintro e w' ⟨rfl, rfl⟩
  go_wp2
  go_loopg [4] n (fun q i wr => ∃ k r : Nat, q = k ∧ k ≤ n ∧ i = .int .i64 ((k : Int) - 1) ∧ (∀ j, k ≤ j → j < n → 1 ≤ j → lessW (edAt es j) (edAt es (j - 1)) = false) ∧ wr = w.drewN r)
  case atStart => exact ⟨n, 0, rfl, Nat.le_refl _, rfl, fun j h1 h2 => by omega, rfl⟩
  case round =>
    obtain ⟨k, r, hq, hk, rfl, hall, rfl⟩ := hrel
    have HALL := Lib.hid hall; clear hall
    have HQ := Lib.hid hq; clear hq
    by_cases h2 : 2 ≤ k
    · have hc1 : decide ((0 : Int) < (k : Int) - 1) = true := by simp; omega
      have hc2 : (0 : Int) < (k : Int) - 1 := by omega
      have hs1 : IntKind.i64.wrap ((k : Int) - 1 - 1) = (k : Int) - 1 - 1 := IntWalk.i64_in _ (by omega)
      have hle := HLE.out r (k - 1) (k - 2) (by omega) (by omega)
      rw [show ((k - 1 : Nat) : Int) = (k : Int) - 1 by omega, show ((k - 2 : Nat) : Int) = (k : Int) - 1 - 1 by omega] at hle
      cases hb : lessW (edAt es (k - 1)) (edAt es (k - 2)) with
      | true =>
        rw [hb] at hle
        have HLT := Lib.hid hle; clear hle
        go_wp2_with fail
        refine HLT.out.mono ?_
        rintro e w' ⟨rfl, r2, rfl⟩
        go_wp2
        go_ret
        refine ⟨ret_bool ?_, r + r2, rfl⟩
        cases hs : sortedW es with
        | false => rfl
        | true =>
          have := (sortedW_iff es).1 hs (k - 2) (by rw [LX.out]; omega)
          rw [show k - 2 + 1 = k - 1 by omega, hb] at this
          cases this
      | false =>
        rw [hb] at hle
        have HLT := Lib.hid hle; clear hle
        go_wp2_with fail
        refine HLT.out.mono ?_
        rintro e w' ⟨rfl, r2, rfl⟩
        go_wp2
        go_roundg (k - 1)
        case measure => have := HQ.out; omega
        case rel => exact ⟨k - 1, r + r2, rfl, by omega, by go_num, fun j h1 h2 h3 => by
          by_cases hj : j = k - 1
          · subst hj
            rw [show k - 1 - 1 = k - 2 by omega]
            exact hb
          · exact HALL.out j (by omega) h2 h3, rfl⟩
    · have hc1 : decide ((0 : Int) < (k : Int) - 1) = false := by simp; omega
      have hc2 : ¬ (0 : Int) < (k : Int) - 1 := by omega
      go_wp2
      go_ret
      refine ⟨ret_bool ?_, _, rfl⟩
      symm
      rw [sortedW_iff]
      intro j hj
      rw [LX.out] at hj
      have := HALL.out (j + 1) (by omega) hj (by omega)
      simpa using this
end Go.Proofs.Ytoceakjnkillkaa
