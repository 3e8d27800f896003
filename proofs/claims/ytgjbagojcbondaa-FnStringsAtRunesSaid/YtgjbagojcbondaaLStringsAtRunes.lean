/-
  The walk of laws.FnStringsAtRunes: for every input it returns true. No condition.
-/
import Derived.Test.YtgjbagojcbondaaStrC
import Derived.Test.YtgjbagojcbondaaRunePlW
namespace Go.Proofs.Ytgjbagojcbondaa
set_option linter.unusedVariables false
open Go.RowKit

theorem szE_nthS {es : List Ed} {k : Nat} (h : k < es.length) : (eN es k).size ≤ szE es := by
  induction es generalizing k with
  | nil => simp at h
  | cons x l ih =>
    cases k with
    | zero => simp [eN, edAt, szE]; omega
    | succ k =>
      have := ih (k := k) (by simpa using h)
      have e : eN (x :: l) (k + 1) = eN l k := by simp [eN, edAt]
      rw [e]
      simp only [szE]
      omega
set_option maxRecDepth 100000 in
set_option maxHeartbeats 1000000 in
theorem FnStringsAtRunes_walk (s0 s1 : ByteArray) (w : World) (ws0 : s0.size ≤ maxLen) (ws1 : s1.size ≤ maxLen) :
   Calls Try.prog 3 #[.string s0, .string s1] w fun e w' => e = .returned (.bool true) ∧ Below w.heap.size w w' := by
  have ht := fun A c w' x y (h : IntsR .i64 w' A [x, y]) => tooLong_any A c [x, y] w' h (by simp)
  have HT := Lib.hid ht; clear ht
  have hl1 := fun W (g0 : s0.size ≤ 1000000) (g1 : s1.size ≤ 1000000) => implStrings_any s0 s1 W g0 g1
  have hl2 := fun W => implStrings_any ⟨#[97]⟩ ⟨#[98]⟩ W (by decide) (by decide)
  unfold StrOut at hl1 hl2
  have HL1 := Lib.hid hl1; have HL2 := Lib.hid hl2; clear hl1 hl2
  have HW0 := Lib.hid (fun W (h : s0.size ≤ 4000000) => wellFormed_any s0 W h)
  have HW1 := Lib.hid (fun W (h : s1.size ≤ 4000000) => wellFormed_any s1 W h)
  unfold maxLen at ws0 ws1
  by_cases hb0 : (2147483647 : Int) < (s0.size : Int)
  · go_enter Try.func3, Try.ntmps3
    go_wp2
    go_ret
    exact ⟨rfl, Below.refl _ _⟩
  · by_cases hb1 : (2147483647 : Int) < (s1.size : Int)
    · go_enter Try.func3, Try.ntmps3
      go_wp2
      go_ret
      exact ⟨rfl, Below.refl _ _⟩
    · go_enter Try.func3, Try.ntmps3
      go_wp2_with fail
      refine (HT.out _ _ _ s0.size s1.size (IntsR.lit2 _ _ _ _ _) (by simp; omega)).mono ?_
      rintro e w3 ⟨rfl, rfl⟩
      have hsum : sumI [(s0.size : Int), (s1.size : Int)] = (s0.size : Int) + s1.size := by simp [sumI]
      by_cases hbig : 1000000 < (s0.size : Int) + s1.size
      · have hd : decide (1000000 < sumI [(s0.size : Int), (s1.size : Int)]) = true := by rw [hsum]; simp; omega
        rw [hd]
        clear hd hsum
        go_wp2
        go_ret
        exact ⟨rfl, (Below.refl _ _).alloc (Nat.le_refl _) _⟩
      · have hd : decide (1000000 < sumI [(s0.size : Int), (s1.size : Int)]) = false := by rw [hsum]; simp; omega
        rw [hd]
        have HB1 := Lib.hid ((Below.refl w.heap.size w).alloc (Nat.le_refl _) (.cells #[.int .i64 (s0.size : Int), .int .i64 (s1.size : Int)] 3))
        clear hd hsum
        have g0 : s0.size ≤ 1000000 := by omega
        have g1 : s1.size ≤ 1000000 := by omega
        have g2 : s0.size + s1.size ≤ 1000000 := by omega
        clear hbig
        go_wp2_with fail
        refine (HL1.out _ g0 g1).mono ?_
        rintro e w4 ⟨es, A, c, rfl, hr, hc, hb, hp⟩
        have HB4 := Lib.hid (HB1.out.trans (hb.mono HB1.out.size))
        have hg := hp.gen g2
        have hln := hg.len
        have hszs := hg.size
        have hat := fun (h0 : wfB s0 = true) W (hr : EdsR W A es) => atRunes_any s0 A c es W (by omega) hr (by omega) (fun k hk => by have := szE_nthS hk; omega) (hp.runes h0)
        have HA := Lib.hid hat; have HR := Lib.hid hr
        clear hp hr hc hb hg hat hszs
        generalize es.length = n at *
        go_wp2_with fail
        refine (HW0.out _ (by omega)).mono ?_
        rintro e w5 ⟨rfl, rfl⟩
        cases h0 : wfB s0 with
        | false =>
          go_wp2_with fail
          refine (HL2.out _).mono ?_
          rintro e w6 ⟨es2, A2, c2, rfl, hr2, hc2, hb2, hp2⟩
          have hone := hp2.one
          have HB6 := Lib.hid (HB4.out.trans (hb2.mono HB4.out.size))
          rw [hone]
          clear hone hp2 hr2 hc2 hb2
          go_wp2
          go_ret
          exact ⟨rfl, HB6.out⟩
        | true =>
          go_wp2_with fail
          refine (HW1.out _ (by omega)).mono ?_
          rintro e w7 ⟨rfl, rfl⟩
          cases h1 : wfB s1 with
          | false =>
            go_wp2_with fail
            refine (HL2.out _).mono ?_
            rintro e w6 ⟨es2, A2, c2, rfl, hr2, hc2, hb2, hp2⟩
            have hone := hp2.one
            have HB6 := Lib.hid (HB4.out.trans (hb2.mono HB4.out.size))
            rw [hone]
            clear hone hp2 hr2 hc2 hb2
            go_wp2
            go_ret
            exact ⟨rfl, HB6.out⟩
          | true =>
            go_wp2_with fail
            refine (HL2.out _).mono ?_
            rintro e w6 ⟨es2, A2, c2, rfl, hr2, hc2, hb2, hp2⟩
            have hone := hp2.one
            have HB6 := Lib.hid (HB4.out.trans (hb2.mono HB4.out.size))
            have HR6 := Lib.hid (EdsR.below HR.out hb2 (Nat.le_refl _))
            rw [hone]
            clear hone hp2 hr2 hc2 hb2
            go_wp2_with fail
            refine (HA.out h0 _ HR6.out).mono ?_
            rintro e w8 ⟨rfl, hb8⟩
            have HB8 := Lib.hid (HB6.out.trans (hb8.mono HB6.out.size)); clear hb8
            go_wp2
            go_ret
            exact ⟨rfl, HB8.out⟩
end Go.Proofs.Ytgjbagojcbondaa
