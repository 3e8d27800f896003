/-
  The walk of laws.FnStringsByReference: for every input it returns true. No condition.
-/
import Derived.Test.YtgjbagojcbondaaStrC
import Derived.Test.YtgjbagojcbondaaRuneSzW
import Derived.Test.YtgjbagojcbondaaTxtB
namespace Go.Proofs.Ytgjbagojcbondaa
set_option linter.unusedVariables false
open Go.RowKit

/-- what the reference makes of edits in order -/
theorem appTo_str {s t : ByteArray} {es : List Ed} {c : Nat} (h : LinesEd s t es) (hs : s.size ≤ 1000000) (A : Option Addr) (w : World) (hr : EdsR w A es) (hc : es.length ≤ c) :
    Calls Try.prog 11 #[.string s, .slice A es.length c] w fun e w' => e = .returned (.tuple #[.string t, .int .i64 0]) ∧ Below w.heap.size w w' := by
  have h1 := sortE_order h.order
  have h2 := toldF_order h.order
  have h3 := h.size
  have h4 := h.len
  refine (applyTo_any s A c es w hr hc (by omega) (by omega) (by rw [h1]; omega) (fun _ => by rw [h1]; exact h.order)).mono ?_
  rintro e w' ⟨he, hb⟩
  rw [h2, if_pos rfl, h1, h.patch] at he
  exact ⟨he, hb⟩
theorem inOrder_str {s t : ByteArray} {es : List Ed} {c : Nat} (h : LinesEd s t es) (A : Option Addr) (w : World) (hr : EdsR w A es) :
    Calls Try.prog 12 #[.slice A es.length c, .int .i64 s.size] w fun e w' => e = .returned (.bool true) ∧ Below w.heap.size w w' := by
  have h4 := h.len
  refine (inOrder_any A c es s.size w hr (by omega)).mono ?_
  rintro e w' ⟨he, hb⟩
  rw [h.order] at he
  exact ⟨he, hb⟩
set_option maxRecDepth 100000 in
set_option maxHeartbeats 1000000 in
theorem FnStringsByReference_walk (s0 s1 : ByteArray) (w : World) (ws0 : s0.size ≤ maxLen) (ws1 : s1.size ≤ maxLen) :
   Calls Try.prog 4 #[.string s0, .string s1] w fun e w' => e = .returned (.bool true) ∧ Below w.heap.size w w' := by
  have ht := fun A c w' x y (h : IntsR .i64 w' A [x, y]) => tooLong_any A c [x, y] w' h (by simp)
  have HT := Lib.hid ht; clear ht
  have hl1 := fun W (g0 : s0.size ≤ 1000000) (g1 : s1.size ≤ 1000000) => implStrings_any s0 s1 W g0 g1
  have hl2 := fun W => implStrings_any ⟨#[97]⟩ ⟨#[98]⟩ W (by decide) (by decide)
  unfold StrOut at hl1 hl2
  have HL1 := Lib.hid hl1; have HL2 := Lib.hid hl2; clear hl1 hl2
  have HW0 := Lib.hid (fun W (h : s0.size ≤ 4000000) => wellFormed_any s0 W h)
  have HW1 := Lib.hid (fun W (h : s1.size ≤ 4000000) => wellFormed_any s1 W h)
  unfold maxLen at ws0 ws1
  by_cases hb0 : (2147483647 : Int) < (s0.size : Int)
  · go_enter Try.func4, Try.ntmps4
    go_wp2
    go_ret
    exact ⟨rfl, Below.refl _ _⟩
  · by_cases hb1 : (2147483647 : Int) < (s1.size : Int)
    · go_enter Try.func4, Try.ntmps4
      go_wp2
      go_ret
      exact ⟨rfl, Below.refl _ _⟩
    · go_enter Try.func4, Try.ntmps4
      go_wp2_with fail
      refine (HT.out _ _ _ s0.size s1.size (IntsR.lit2 _ _ _ _ _) (by simp; omega)).mono ?_
      rintro e w3 ⟨rfl, rfl⟩
      have hsum : sumI [(s0.size : Int), (s1.size : Int)] = (s0.size : Int) + s1.size := by simp [sumI]
      by_cases hbig : 1000000 < (s0.size : Int) + s1.size
      · have hd : decide (1000000 < sumI [(s0.size : Int), (s1.size : Int)]) = true := by rw [hsum]; simp; omega
        rw [hd]
        clear hd hsum
        go_wp2
        go_ret
        exact ⟨rfl, (Below.refl _ _).alloc (Nat.le_refl _) _⟩
      · have hd : decide (1000000 < sumI [(s0.size : Int), (s1.size : Int)]) = false := by rw [hsum]; simp; omega
        rw [hd]
        have HB1 := Lib.hid ((Below.refl w.heap.size w).alloc (Nat.le_refl _) (.cells #[.int .i64 (s0.size : Int), .int .i64 (s1.size : Int)] 3))
        clear hd hsum
        have g0 : s0.size ≤ 1000000 := by omega
        have g1 : s1.size ≤ 1000000 := by omega
        have g2 : s0.size + s1.size ≤ 1000000 := by omega
        clear hbig
        go_wp2_with fail
        refine (HL1.out _ g0 g1).mono ?_
        rintro e w4 ⟨es, A, c, rfl, hr, hc, hb, hp⟩
        have HB4 := Lib.hid (HB1.out.trans (hb.mono HB1.out.size))
        have hln := (hp.gen g2).len
        have hap := fun (h0 : wfB s0 = true) (h1 : wfB s1 = true) W (hr : EdsR W A es) => appTo_str (c := c) (hp.ed g2 h0 h1) g0 A W hr hc
        have hio := fun (h0 : wfB s0 = true) (h1 : wfB s1 = true) W (hr : EdsR W A es) => inOrder_str (c := c) (hp.ed g2 h0 h1) A W hr
        have HA := Lib.hid hap; have HI := Lib.hid hio; have HR := Lib.hid hr
        clear hp hr hc hb hap hio
        generalize es.length = n at *
        go_wp2_with fail
        refine (HW0.out _ (by omega)).mono ?_
        rintro e w5 ⟨rfl, rfl⟩
        cases h0 : wfB s0 with
        | false =>
          go_wp2_with fail
          refine (HL2.out _).mono ?_
          rintro e w6 ⟨es2, A2, c2, rfl, hr2, hc2, hb2, hp2⟩
          have hone := hp2.one
          have HB6 := Lib.hid (HB4.out.trans (hb2.mono HB4.out.size))
          rw [hone]
          clear hone hp2 hr2 hc2 hb2
          go_wp2
          go_ret
          exact ⟨rfl, HB6.out⟩
        | true =>
          go_wp2_with fail
          refine (HW1.out _ (by omega)).mono ?_
          rintro e w7 ⟨rfl, rfl⟩
          cases h1 : wfB s1 with
          | false =>
            go_wp2_with fail
            refine (HL2.out _).mono ?_
            rintro e w6 ⟨es2, A2, c2, rfl, hr2, hc2, hb2, hp2⟩
            have hone := hp2.one
            have HB6 := Lib.hid (HB4.out.trans (hb2.mono HB4.out.size))
            rw [hone]
            clear hone hp2 hr2 hc2 hb2
            go_wp2
            go_ret
            exact ⟨rfl, HB6.out⟩
          | true =>
            go_wp2_with fail
            refine (HA.out h0 h1 _ HR.out).mono ?_
            rintro e w8 ⟨rfl, hb8⟩
            have HR8 := Lib.hid (EdsR.below HR.out hb8 (Nat.le_refl _))
            have HB8 := Lib.hid (HB4.out.trans (hb8.mono HB4.out.size)); clear hb8
            have heq : (s1.toList == s1.toList) = true := by simp
            go_wp2_with fail
            refine (HI.out h0 h1 _ HR8.out).mono ?_
            rintro e w9 ⟨rfl, hb9⟩
            have HB9 := Lib.hid (HB8.out.trans (hb9.mono HB8.out.size)); clear hb9
            go_wp2
            go_ret
            exact ⟨rfl, HB9.out⟩
end Go.Proofs.Ytgjbagojcbondaa
