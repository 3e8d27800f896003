/-
  The walks of spec.RunePlace and spec.AtRunes, where all holds.
-/
import Derived.Test.YtgjbagojcbondaaTxtA
import Derived.Test.YtgjbagojcbondaaRuneSzW
namespace Go.Proofs.Ytgjbagojcbondaa
set_option linter.unusedVariables false
open Go.RowKit

set_option maxRecDepth 100000 in
set_option maxHeartbeats 1000000 in
theorem runePlace_any (s : ByteArray) (p : Nat) (w : World) (hs : s.size ≤ 3000000) (h : RuneAt s p) :
   Calls Try.prog 18 #[.string s, .int .i64 p] w fun e w' => e = .returned (.bool true) ∧ w = w' := by
  unfold RuneAt at h
  by_cases h0 : p = 0
  · subst h0
    clear h
    go_enter Try.func18, Try.ntmps18
    go_wp2
    go_ret
    exact ⟨rfl, rfl⟩
  · by_cases h1 : p = s.size
    · have e0 : ((p : Int) == 0) = false := by simp; omega
      have e1 : ((p : Int) == (s.size : Int)) = true := by simp; omega
      clear h h0 h1
      go_enter Try.func18, Try.ntmps18
      go_wp2
      go_ret
      exact ⟨rfl, rfl⟩
    · obtain ⟨h2, h3, h4⟩ : 0 < p ∧ p < s.size ∧ (byteAt s p < 128 ∨ 191 < byteAt s p) := by omega
      have e0 : ((p : Int) == 0) = false := by simp; omega
      have e1 : ((p : Int) == (s.size : Int)) = false := by simp; omega
      have e2 : (0 : Int) < (p : Int) := by omega
      have e3 : (p : Int) < (s.size : Int) := by omega
      rw [byteAt_get s p h3] at h4
      obtain ⟨b, hb⟩ : ∃ b, (s[p]'h3).toNat = b := ⟨_, rfl⟩
      rw [hb] at h4
      have hidx : ((s[p]'h3).toNat : Int) = (b : Int) := by rw [hb]
      clear h h0 h1 hb
      by_cases h5 : b < 128
      · have h5' : (b : Int) < 128 := by omega
        go_enter Try.func18, Try.ntmps18
        go_wp2
        go_ret
        exact ⟨rfl, rfl⟩
      · have h5' : ¬ ((b : Int) < 128) := by omega
        have h6 : (191 : Int) < (b : Int) := by omega
        have h7 : decide ((b : Int) < 128) = false := decide_eq_false h5'
        go_enter Try.func18, Try.ntmps18
        go_wp2
        go_ret
        exact ⟨rfl, rfl⟩
set_option maxRecDepth 100000 in
set_option maxHeartbeats 2000000 in
theorem atRunes_any (s : ByteArray) (A : Option Addr) (c : Nat) (es : List Ed) (w : World) (hs : s.size ≤ 3000000) (hr : EdsR w A es) (hl : es.length ≤ 20000000)
    (hn : ∀ k, k < es.length → (eN es k).size ≤ 4000000)
    (h : ∀ k, k < es.length → ∃ p q : Nat, eS es k = p ∧ eE es k = q ∧ RuneAt s p ∧ RuneAt s q ∧ wfB (eN es k) = true) :
   Calls Try.prog 10 #[.string s, .slice A es.length c] w fun e w' => e = .returned (.bool true) ∧ Below w.heap.size w w' := by
  have HR := Lib.hid hr; clear hr
  have HN := Lib.hid hn; have HH := Lib.hid h; clear hn h
  obtain ⟨n, hln⟩ : ∃ n, es.length = n := ⟨_, rfl⟩
  rw [hln] at hl ⊢
  have HL := Lib.hid hln; clear hln
  go_enter Try.func10, Try.ntmps10
  go_wp2
  go_loopw [6, 9] (fun _ i wr => ∃ k : Nat, k ≤ n ∧ i = .int .i64 k ∧ Below w.heap.size w wr) (fun _ i _ => n - (intOf i).toNat)
  case atStart => exact ⟨0, by omega, rfl, Below.refl _ _⟩
  case round =>
    obtain ⟨k, hk, rfl, hb⟩ := hrel
    by_cases hlt : k < n
    · obtain ⟨b, off, rfl, hbb, g1, g2, g3⟩ := (EdsR.below HR.out hb (Nat.le_refl _)).at_ (k := k) (by rw [HL.out]; exact hlt)
      have hbs := hb.size
      have hsz := HN.out k (by rw [HL.out]; exact hlt)
      obtain ⟨p, q, hp, hq, lp, lq, hw⟩ := HH.out k (by rw [HL.out]; exact hlt)
      rw [hp] at g1
      rw [hq] at g2
      clear hp hq
      generalize eN es k = m at *
      have LP := Lib.hid (fun W => runePlace_any s p W hs lp)
      have LQ := Lib.hid (fun W => runePlace_any s q W hs lq)
      have hwf := fun W => wellFormed_any m W hsz
      rw [hw] at hwf
      have LW := Lib.hid hwf
      clear lp lq hw hwf hsz
      have HB := Lib.hid (hb.alloc hbs (.cells #[.int .i64 (p : Int), .int .i64 (q : Int), .string m] 37))
      go_wp2_with fail
      refine (LP.out _).mono ?_
      rintro e w1 ⟨rfl, rfl⟩
      go_wp2_with fail
      refine (LQ.out _).mono ?_
      rintro e w1 ⟨rfl, rfl⟩
      go_wp2_with fail
      refine (LW.out _).mono ?_
      rintro e w1 ⟨rfl, rfl⟩
      go_wp2
      go_roundw
      case rel => exact ⟨k + 1, by omega, by go_num, HB.out⟩
      case measure => simp [intOf]; omega
    · go_wp2
      go_ret
      exact ⟨rfl, hb⟩
end Go.Proofs.Ytgjbagojcbondaa
