/-
  impl.Apply over edits in their order, and the walk of laws.FnLinesApply over a contract of impl.Lines.
-/
import Derived.Test.YtgjbagojcbondaaGreatLinesI
import Derived.Test.YtgjbagojcbondaaGreatAplE
namespace Go.Proofs.YtgjbagojcbondaaGreat
set_option linter.unusedVariables false
open Go.RowKit

theorem order_sorted {size : Int} (hs : size ≤ 2000000) : ∀ (es : List Ed) (at_ : Int), 0 ≤ at_ → inOrderF size at_ es = true → sortedW es = true := by
  intro es
  induction es with
  | nil => intros; rfl
  | cons x l ih =>
    intro at_ h0 h
    simp only [inOrderF, insideB, Bool.and_eq_true, decide_eq_true_eq] at h
    obtain ⟨⟨h1, h2⟩, h3⟩ := h
    have hl := ih x.e (by omega) h3
    cases l with
    | nil => rfl
    | cons y l =>
      simp only [inOrderF, insideB, Bool.and_eq_true, decide_eq_true_eq] at h3
      obtain ⟨⟨g1, g2⟩, g3⟩ := h3
      show (!lessW y x && sortedW (y :: l)) = true
      rw [hl, Bool.and_true]
      cases hw : lessW y x
      · rfl
      · have := (lessW_good (x := y) (y := x) ⟨by omega, by omega⟩ ⟨by omega, by omega⟩).1 hw
        omega
/-- what Apply makes of edits in order -/
theorem apply_ed {s t : ByteArray} {es : List Ed} {c : Nat} (h1 : inOrderF s.size 0 es = true) (h2 : patchB s 0 es = t) (h3 : szE es ≤ 4000000) (h4 : es.length ≤ 2000000) (hs : s.size ≤ 2000000) (A : Option Addr) (w : World) (hr : EdsR w A es) :
    Calls Tryz.prog 8 #[.string s, .slice A es.length c] w fun e w' => e = .returned (.tuple #[.string t, .bool true]) ∧ Below w.heap.size w w' := by
  refine (implApply_any s A c es es w hr hs h4 h4 h3 (validate_sorted s es hs h4 h3 (order_sorted (by omega) es 0 (by omega) h1))).mono ?_
  rintro e w' ⟨he, hb⟩
  unfold apF at he
  rw [if_pos h1, h2] at he
  exact ⟨he, hb⟩
set_option maxRecDepth 100000 in
set_option maxHeartbeats 1000000 in
theorem FnLinesApply_walk0 (hli : ∀ s t W, s.size ≤ 1000000 → t.size ≤ 1000000 → Calls Tryz.prog 11 #[.string s, .string t] W (EdsOutI (LinesP s t) W)) (s0 s1 : ByteArray) (w : World) (ws0 : s0.size ≤ maxLen) (ws1 : s1.size ≤ maxLen) :
   Calls Tryz.prog 4 #[.string s0, .string s1] w fun e w' => e = .returned (.bool true) ∧ Below w.heap.size w w' := by
  have ht := fun A c w' x y (h : IntsR .i64 w' A [x, y]) => tooLong_any A c [x, y] w' h (by simp)
  have HT := Lib.hid ht; clear ht
  unfold EdsOutI at hli
  have hl1 := fun W (g0 : s0.size ≤ 1000000) (g1 : s1.size ≤ 1000000) => hli s0 s1 W g0 g1
  have HL1 := Lib.hid hl1; clear hl1 hli
  unfold maxLen at ws0 ws1
  by_cases hb0 : (2147483647 : Int) < (s0.size : Int)
  · go_enter Tryz.func4, Tryz.ntmps4
    go_wp2
    go_ret
    exact ⟨rfl, Below.refl _ _⟩
  · by_cases hb1 : (2147483647 : Int) < (s1.size : Int)
    · go_enter Tryz.func4, Tryz.ntmps4
      go_wp2
      go_ret
      exact ⟨rfl, Below.refl _ _⟩
    · go_enter Tryz.func4, Tryz.ntmps4
      go_wp2_with fail
      refine (HT.out _ _ _ s0.size s1.size (IntsR.lit2 _ _ _ _ _) (by simp; omega)).mono ?_
      rintro e w3 ⟨rfl, rfl⟩
      have hsum : sumI [(s0.size : Int), (s1.size : Int)] = (s0.size : Int) + s1.size := by simp [sumI]
      by_cases hbig : 1000000 < (s0.size : Int) + s1.size
      · have hd : decide (1000000 < sumI [(s0.size : Int), (s1.size : Int)]) = true := by rw [hsum]; simp; omega
        rw [hd]
        clear hd hsum
        go_wp2
        go_ret
        exact ⟨rfl, (Below.refl _ _).alloc (Nat.le_refl _) _⟩
      · have hd : decide (1000000 < sumI [(s0.size : Int), (s1.size : Int)]) = false := by rw [hsum]; simp; omega
        rw [hd]
        have HB1 := Lib.hid ((Below.refl w.heap.size w).alloc (Nat.le_refl _) (.cells #[.int .i64 (s0.size : Int), .int .i64 (s1.size : Int)] 3))
        clear hd hsum
        have g0 : s0.size ≤ 1000000 := by omega
        have g1 : s1.size ≤ 1000000 := by omega
        clear hbig
        go_wp2_with fail
        refine (HL1.out _ g0 g1).mono ?_
        rintro e w4 ⟨es, A, c, rfl, hr, hc, hb, hp⟩
        have hed := hp.ed g0 g1
        have HB4 := Lib.hid (HB1.out.trans (hb.mono HB1.out.size))
        have HA := Lib.hid (apply_ed (c := c) hed.order hed.patch hed.size hed.len (by omega) A w4 hr)
        clear hed hp hr hc hb
        generalize es.length = n at *
        go_wp2_with fail
        refine HA.out.mono ?_
        rintro e w5 ⟨rfl, hb5⟩
        have HB5 := Lib.hid (HB4.out.trans (hb5.mono HB4.out.size)); clear hb5
        have heq : (s1.toList == s1.toList) = true := by simp
        go_wp2
        go_ret
        exact ⟨rfl, HB5.out⟩
end Go.Proofs.YtgjbagojcbondaaGreat
