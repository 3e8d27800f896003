/-
  The walk of laws.FnSplitLines: it returns true. No condition.
-/
import Derived.Test.YtpbmjnjcjjombaaLinesW
import Derived.Deep.QuietTactic
import Derived.BigQuiet
namespace Go.Proofs.Ytpbmjnjcjjombaa
set_option linter.unusedVariables false
open Go.RowKit

theorem lines_a : (linesF ⟨#[97]⟩).length = 1 := by decide
theorem totB_take (L : List ByteArray) (k : Nat) (h : k < L.length) : totB (L.take (k + 1)) = totB (L.take k) + (sx L k).size := by
  rw [List.take_succ_eq_append_getElem h, totB_append]
  simp [totB, sx, h]
theorem totB_take_le (L : List ByteArray) (k : Nat) : totB (L.take k) ≤ totB L := by
  have := totB_append (L.take k) (L.drop k)
  rw [List.take_append_drop] at this
  omega
theorem own_keepB {w w' : World} {B base e size n : Nat} {v : Value} {xs : List Value} (ho : w.ownsRow base e size v n xs) (hb : Below B w w') (hB : w.heap.size ≤ B) : w'.ownsRow base e size v n xs := by
  refine ⟨ho.1, ?_⟩
  rcases ho.2 with hn | ⟨g', cap, cur, hv, hg, hgg, rest⟩
  · exact .inl hn
  · exact .inr ⟨g', cap, cur, hv, hg, by rw [hb.block g' (by have := (Array.getElem?_eq_some_iff.1 hgg).1; omega)]; exact hgg, rest⟩

set_option maxHeartbeats 1000000 in
theorem FnSplitLines_walk (s : ByteArray) (w : World) (hs : s.size ≤ maxLen) :
   Calls Try.prog 5 #[.string s] w fun e w' => e = .returned (.bool true) ∧ Below w.heap.size w w' := by
  unfold maxLen at hs
  have ht := fun A c w' x (h : IntsR .i64 w' A [x]) => tooLong_any A c [x] w' h (by simp)
  have HT := Lib.hid ht; clear ht
  by_cases hb0 : 2147483647 < s.size
  · go_enter Try.func5, Try.ntmps5
    go_wp2
    go_ret
    exact ⟨rfl, Below.refl _ _⟩
  · go_enter Try.func5, Try.ntmps5
    go_wp2_with fail
    refine (HT.out _ _ _ s.size (IntsR.lit1 _ _ _ _) (by simp; omega)).mono ?_
    rintro e w' ⟨rfl, rfl⟩
    have hsum : sumI [(s.size : Int)] = (s.size : Int) := by simp [sumI]
    by_cases hbig : 1000000 < s.size
    · have hd : decide (1000000 < sumI [(s.size : Int)]) = true := by rw [hsum]; simp; omega
      rw [hd]
      clear hd hsum
      go_wp2
      go_ret
      exact ⟨rfl, (Below.refl _ _).alloc (Nat.le_refl _) _⟩
    · have hd : decide (1000000 < sumI [(s.size : Int)]) = false := by rw [hsum]; simp; omega
      rw [hd]
      clear hd hsum
      have hc1 := fun w => implSplitLines_any s w (by omega)
      have hc2 := fun w => linesOf_any s w (by omega)
      have hc3 := fun w => implSplitLines_any ⟨#[97]⟩ w (by decide)
      have hll := linesF_len s
      have htot := linesF_tot s
      have HC1 := Lib.hid hc1; clear hc1
      have HC2 := Lib.hid hc2; clear hc2
      have HC3 := Lib.hid hc3; clear hc3
      generalize hL : linesF s = L at *
      clear hL
      have hpl := psums_len L
      have htl := fun k => totB_take_le L k
      rw [htot] at htl
      have HTL := Lib.hid htl
      have HPL := Lib.hid hpl; clear hpl htot htl
      go_wp2_with fail
      refine (HC1.out _).mono ?_
      rintro e w1 ⟨A, c, B, d, rfl, h1, h2, hb1⟩
      have hb1' := ((Below.refl w.heap.size w).alloc (Nat.le_refl _) (.cells #[.int .i64 (s.size : Int)] 3)).trans (hb1.mono (by simp))
      have HB1 := Lib.hid hb1'; clear hb1 hb1'
      have H1 := Lib.hid h1; clear h1
      have H2 := Lib.hid h2; clear h2
      go_wp2_with fail
      refine (HC2.out _).mono ?_
      rintro e w2 ⟨A3, c3, rfl, h3, hb2⟩
      have HB2 := Lib.hid (HB1.out.trans (hb2.mono HB1.out.size))
      have H1' := Lib.hid (own_keepB H1.out hb2 (Nat.le_refl _))
      have H2' := Lib.hid (own_keepB H2.out hb2 (Nat.le_refl _))
      have H3 := Lib.hid h3; clear h3 hb2 H1 H2
      go_wp2_with fail
      refine (HC3.out _).mono ?_
      rintro e w3 ⟨A4, c4, B4, d4, rfl, h4, h5, hb3⟩
      have HB3 := Lib.hid (HB2.out.trans (hb3.mono HB2.out.size))
      have R1 := Lib.hid (show StrsR w3 A L from CellsR.of_own (own_keepB H1'.out hb3 (Nat.le_refl _)))
      have R2 := Lib.hid (show IntsR .i64 w3 B (psums L) from CellsR.of_own (own_keepB H2'.out hb3 (Nat.le_refl _)))
      have R3 := Lib.hid (show StrsR w3 A3 L from CellsR.of_own (own_keepB H3.out hb3 (Nat.le_refl _)))
      clear h4 h5 hb3 H1' H2' H3 HB1 HB2
      rw [lines_a]
      go_wp2
      go_loopg [8, 9, 10, 48] L.length (fun q s8 _ _ i wr => ∃ k : Nat, q = L.length - k ∧ k ≤ L.length ∧ i = .int .i64 k ∧ s8 = .int .i64 (totB (L.take k) : Nat) ∧ wr = w3)
      case atStart => exact ⟨0, rfl, by omega, rfl, rfl, rfl⟩
      case round =>
        obtain ⟨k, hq, hk, rfl, rfl, rfl⟩ := hrel
        have HQ := Lib.hid hq; clear hq
        by_cases hlt : k < L.length
        · obtain ⟨b1, o1, rfl, _, g1⟩ := StrsR.at_ R1.out hlt
          obtain ⟨b2, o2, rfl, _, g2⟩ := IntsR.at_ R2.out (k := k) (by rw [HPL.out]; omega)
          obtain ⟨b3, o3, rfl, _, g3⟩ := StrsR.at_ R3.out hlt
          rw [psums_ix L k (by omega)] at g2
          have ht := totB_take L k hlt
          have htl := HTL.out (k + 1)
          have HTT := Lib.hid ht
          generalize totB (L.take k) = T at *
          have e1 : ((T : Int) == T) = true := by simp
          have hT : T + (sx L k).size ≤ s.size := by omega
          clear ht htl
          go_wp2
          go_roundg (L.length - (k + 1))
          case measure => rw [HQ.out]; omega
          case rel => exact ⟨k + 1, rfl, by omega, by go_num, by rw [HTT.out]; go_num, rfl⟩
        · go_wp2
          go_ret
          exact ⟨rfl, HB3.out⟩
end Go.Proofs.Ytpbmjnjcjjombaa
