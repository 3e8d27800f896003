/-
  The walk of laws.FnLinesAtLines: for every input it returns true. No condition.
-/
import Derived.Test.YtgjbagojcbondaaLinesE
import Derived.Test.YtgjbagojcbondaaLineEnd
import Derived.Test.YtgjbagojcbondaaLinesR2
namespace Go.Proofs.Ytgjbagojcbondaa
set_option linter.unusedVariables false
open Go.RowKit
theorem szE_nth {es : List Ed} {k : Nat} (h : k < es.length) : (eN es k).size ≤ szE es := by
  induction es generalizing k with
  | nil => simp at h
  | cons x l ih =>
    cases k with
    | zero => simp [eN, edAt, szE]; omega
    | succ k =>
      have := ih (k := k) (by simpa using h)
      have e : eN (x :: l) (k + 1) = eN l k := by simp [eN, edAt]
      rw [e]
      simp only [szE]
      omega
set_option maxRecDepth 100000 in
set_option maxHeartbeats 1000000 in
theorem FnLinesAtLines_walk (s0 s1 : ByteArray) (w : World) (ws0 : s0.size ≤ maxLen) (ws1 : s1.size ≤ maxLen) :
   Calls Try.prog 5 #[.string s0, .string s1] w fun e w' => e = .returned (.bool true) ∧ Below w.heap.size w w' := by
  have hli := fun s t W => implLines_any s t W
  have ht := fun A c w' x y (h : IntsR .i64 w' A [x, y]) => tooLong_any A c [x, y] w' h (by simp)
  have HT := Lib.hid ht; clear ht
  unfold EdsOutI at hli
  have hl1 := fun W (g0 : s0.size ≤ 1000000) (g1 : s1.size ≤ 1000000) => hli s0 s1 W g0 g1
  have hl2 := fun W => hli ⟨#[97]⟩ ⟨#[98]⟩ W (by decide) (by decide)
  have HL1 := Lib.hid hl1; have HL2 := Lib.hid hl2; clear hl1 hl2 hli
  unfold maxLen at ws0 ws1
  by_cases hb0 : (2147483647 : Int) < (s0.size : Int)
  · go_enter Try.func5, Try.ntmps5
    go_wp2
    go_ret
    exact ⟨rfl, Below.refl _ _⟩
  · by_cases hb1 : (2147483647 : Int) < (s1.size : Int)
    · go_enter Try.func5, Try.ntmps5
      go_wp2
      go_ret
      exact ⟨rfl, Below.refl _ _⟩
    · go_enter Try.func5, Try.ntmps5
      go_wp2_with fail
      refine (HT.out _ _ _ s0.size s1.size (IntsR.lit2 _ _ _ _ _) (by simp; omega)).mono ?_
      rintro e w3 ⟨rfl, rfl⟩
      have hsum : sumI [(s0.size : Int), (s1.size : Int)] = (s0.size : Int) + s1.size := by simp [sumI]
      by_cases hbig : 1000000 < (s0.size : Int) + s1.size
      · have hd : decide (1000000 < sumI [(s0.size : Int), (s1.size : Int)]) = true := by rw [hsum]; simp; omega
        rw [hd]
        clear hd hsum
        go_wp2
        go_ret
        exact ⟨rfl, (Below.refl _ _).alloc (Nat.le_refl _) _⟩
      · have hd : decide (1000000 < sumI [(s0.size : Int), (s1.size : Int)]) = false := by rw [hsum]; simp; omega
        rw [hd]
        have HB1 := Lib.hid ((Below.refl w.heap.size w).alloc (Nat.le_refl _) (.cells #[.int .i64 (s0.size : Int), .int .i64 (s1.size : Int)] 3))
        clear hd hsum
        have g0 : s0.size ≤ 1000000 := by omega
        have g1 : s1.size ≤ 1000000 := by omega
        clear hbig
        go_wp2_with fail
        refine (HL2.out _).mono ?_
        rintro e w6 ⟨es2, A2, c2, rfl, hr2, hc2, hb2, hp2⟩
        have hone := hp2.one
        have HB6 := Lib.hid (HB1.out.trans (hb2.mono HB1.out.size))
        rw [hone]
        clear hone hp2 hr2 hc2 hb2
        go_wp2_with fail
        refine (HL1.out _ g0 g1).mono ?_
        rintro e w4 ⟨es, A, c, rfl, hr, hc, hb, hp⟩
        have hed := hp.ed g0 g1
        have HB4 := Lib.hid (HB6.out.trans (hb.mono HB6.out.size))
        have hz := hed.size
        have hA := atLines_any s0 A c es w4 (by omega) hr (by have := hed.len; omega) (fun k hk => by
          have h1 := szE_nth hk
          omega) (linesP_at hp)
        have HA := Lib.hid hA
        clear hed hp hr hc hb hA hz
        generalize es.length = n at *
        go_wp2_with fail
        refine HA.out.mono ?_
        rintro e w5 ⟨rfl, hb5⟩
        have HB5 := Lib.hid (HB4.out.trans (hb5.mono HB4.out.size)); clear hb5
        go_wp2
        go_ret
        exact ⟨rfl, HB5.out⟩
end Go.Proofs.Ytgjbagojcbondaa
