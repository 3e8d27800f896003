/-
  The walk of laws.FnLinesByReference over a contract of impl.Lines.
-/
import Derived.Test.YtgjbagojcbondaaLinesI
import Derived.Test.YtgjbagojcbondaaTxtB
namespace Go.Proofs.Ytgjbagojcbondaa
set_option linter.unusedVariables false
open Go.RowKit

/-- what the reference makes of edits in order -/
theorem appTo_ed {s t : ByteArray} {es : List Ed} {c : Nat} (h : LinesEd s t es) (hs : s.size ≤ 1000000) (A : Option Addr) (w : World) (hr : EdsR w A es) (hc : es.length ≤ c) :
    Calls Try.prog 11 #[.string s, .slice A es.length c] w fun e w' => e = .returned (.tuple #[.string t, .int .i64 0]) ∧ Below w.heap.size w w' := by
  have h1 := sortE_order h.order
  have h2 := toldF_order h.order
  have h3 := h.size
  have h4 := h.len
  refine (applyTo_any s A c es w hr hc (by omega) (by omega) (by rw [h1]; omega) (fun _ => by rw [h1]; exact h.order)).mono ?_
  rintro e w' ⟨he, hb⟩
  rw [h2, if_pos rfl, h1, h.patch] at he
  exact ⟨he, hb⟩
theorem inOrder_ed {s t : ByteArray} {es : List Ed} {c : Nat} (h : LinesEd s t es) (A : Option Addr) (w : World) (hr : EdsR w A es) :
    Calls Try.prog 12 #[.slice A es.length c, .int .i64 s.size] w fun e w' => e = .returned (.bool true) ∧ Below w.heap.size w w' := by
  have h4 := h.len
  refine (inOrder_any A c es s.size w hr (by omega)).mono ?_
  rintro e w' ⟨he, hb⟩
  rw [h.order] at he
  exact ⟨he, hb⟩
set_option maxRecDepth 100000 in
set_option maxHeartbeats 1000000 in
theorem FnLinesByReference_walk0 (hli : ∀ s t W, s.size ≤ 1000000 → t.size ≤ 1000000 → Calls Try.prog 13 #[.string s, .string t] W (EdsOutI (LinesP s t) W)) (s0 s1 : ByteArray) (w : World) (ws0 : s0.size ≤ maxLen) (ws1 : s1.size ≤ maxLen) :
   Calls Try.prog 6 #[.string s0, .string s1] w fun e w' => e = .returned (.bool true) ∧ Below w.heap.size w w' := by
  have ht := fun A c w' x y (h : IntsR .i64 w' A [x, y]) => tooLong_any A c [x, y] w' h (by simp)
  have HT := Lib.hid ht; clear ht
  unfold EdsOutI at hli
  have hl1 := fun W (g0 : s0.size ≤ 1000000) (g1 : s1.size ≤ 1000000) => hli s0 s1 W g0 g1
  have hl2 := fun W => hli ⟨#[97]⟩ ⟨#[98]⟩ W (by decide) (by decide)
  have HL1 := Lib.hid hl1; have HL2 := Lib.hid hl2; clear hl1 hl2 hli
  unfold maxLen at ws0 ws1
  by_cases hb0 : (2147483647 : Int) < (s0.size : Int)
  · go_enter Try.func6, Try.ntmps6
    go_wp2
    go_ret
    exact ⟨rfl, Below.refl _ _⟩
  · by_cases hb1 : (2147483647 : Int) < (s1.size : Int)
    · go_enter Try.func6, Try.ntmps6
      go_wp2
      go_ret
      exact ⟨rfl, Below.refl _ _⟩
    · go_enter Try.func6, Try.ntmps6
      go_wp2_with fail
      refine (HT.out _ _ _ s0.size s1.size (IntsR.lit2 _ _ _ _ _) (by simp; omega)).mono ?_
      rintro e w3 ⟨rfl, rfl⟩
      have hsum : sumI [(s0.size : Int), (s1.size : Int)] = (s0.size : Int) + s1.size := by simp [sumI]
      by_cases hbig : 1000000 < (s0.size : Int) + s1.size
      · have hd : decide (1000000 < sumI [(s0.size : Int), (s1.size : Int)]) = true := by rw [hsum]; simp; omega
        rw [hd]
        clear hd hsum
        go_wp2
        go_ret
        exact ⟨rfl, (Below.refl _ _).alloc (Nat.le_refl _) _⟩
      · have hd : decide (1000000 < sumI [(s0.size : Int), (s1.size : Int)]) = false := by rw [hsum]; simp; omega
        rw [hd]
        have HB1 := Lib.hid ((Below.refl w.heap.size w).alloc (Nat.le_refl _) (.cells #[.int .i64 (s0.size : Int), .int .i64 (s1.size : Int)] 3))
        clear hd hsum
        have g0 : s0.size ≤ 1000000 := by omega
        have g1 : s1.size ≤ 1000000 := by omega
        clear hbig
        go_wp2_with fail
        refine (HL1.out _ g0 g1).mono ?_
        rintro e w4 ⟨es, A, c, rfl, hr, hc, hb, hp⟩
        have hed := hp.ed g0 g1
        have HB4 := Lib.hid (HB1.out.trans (hb.mono HB1.out.size))
        have HA := Lib.hid (appTo_ed hed g0 A w4 hr hc)
        have HI := Lib.hid (fun W (hW : Below w4.heap.size w4 W) => inOrder_ed (c := c) hed A W (EdsR.below hr hW (Nat.le_refl _)))
        clear hed hp hr hc hb
        generalize es.length = n at *
        go_wp2_with fail
        refine HA.out.mono ?_
        rintro e w5 ⟨rfl, hb5⟩
        have HB5 := Lib.hid hb5; clear hb5
        go_wp2_with fail
        refine (HL2.out _).mono ?_
        rintro e w6 ⟨es2, A2, c2, rfl, hr2, hc2, hb2, hp2⟩
        have hone := hp2.one
        have HB6 := Lib.hid (HB5.out.trans (hb2.mono HB5.out.size))
        rw [hone]
        clear hone hp2 hr2 hc2 hb2
        have heq : (s1.toList == s1.toList) = true := by simp
        go_wp2_with fail
        refine (HI.out _ HB6.out).mono ?_
        rintro e w7 ⟨rfl, hb7⟩
        have HB7 := Lib.hid (HB4.out.trans ((HB6.out.trans (hb7.mono HB6.out.size)).mono HB4.out.size)); clear hb7
        go_wp2
        go_ret
        exact ⟨rfl, HB7.out⟩
end Go.Proofs.Ytgjbagojcbondaa
