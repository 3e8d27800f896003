/-
  The walks of spec.LinePlace and spec.AtLines, where all holds.
-/
import Derived.Test.YtoceakjnkillkaaTxtA
import Derived.Test.YtoceakjnkillkaaLinesP
namespace Go.Proofs.Ytoceakjnkillkaa
set_option linter.unusedVariables false
open Go.RowKit

set_option maxRecDepth 100000 in
set_option maxHeartbeats 1000000 in
theorem linePlace_any (s : ByteArray) (p : Nat) (w : World) (hs : s.size ≤ 3000000) (h : p = 0 ∨ p = s.size ∨ (0 < p ∧ p < s.size ∧ byteAt s (p - 1) = 10)) :
   Calls Try.prog 35 #[.string s, .int .i64 p] w fun e w' => e = .returned (.bool true) ∧ w = w' := by
  by_cases h0 : p = 0
  · subst h0
    clear h
    go_enter Try.func35, Try.ntmps35
    go_wp2
    go_ret
    exact ⟨rfl, rfl⟩
  · by_cases h1 : p = s.size
    · have e0 : ((p : Int) == 0) = false := by simp; omega
      have e1 : ((p : Int) == (s.size : Int)) = true := by simp; omega
      clear h h0 h1
      go_enter Try.func35, Try.ntmps35
      go_wp2
      go_ret
      exact ⟨rfl, rfl⟩
    · obtain ⟨h2, h3, h4⟩ : 0 < p ∧ p < s.size ∧ byteAt s (p - 1) = 10 := by omega
      obtain ⟨q, rfl⟩ : ∃ q, p = q + 1 := ⟨p - 1, by omega⟩
      rw [Nat.add_sub_cancel] at h4
      have hq : q < s.size := by omega
      have e0 : (((q + 1 : Nat) : Int) == 0) = false := by simp; omega
      have e1 : (((q + 1 : Nat) : Int) == (s.size : Int)) = false := by simp; omega
      have e2 : (((s[q]'hq).toNat : Int) == 10) = true := by rw [byteAt_get s q hq] at h4; simp [h4]
      have e3 : IntKind.i64.wrap (((q + 1 : Nat) : Int) - 1) = (q : Int) := by rw [show ((q + 1 : Nat) : Int) - 1 = (q : Int) by omega]; exact IntWalk.i64_in _ (by omega)
      clear h h0 h1 h4
      go_enter Try.func35, Try.ntmps35
      go_wp2
      go_ret
      exact ⟨rfl, rfl⟩
set_option maxRecDepth 100000 in
set_option maxHeartbeats 2000000 in
theorem atLines_any (s : ByteArray) (A : Option Addr) (c : Nat) (es : List Ed) (w : World) (hs : s.size ≤ 3000000) (hr : EdsR w A es) (hl : es.length ≤ 20000000)
    (hn : ∀ k, k < es.length → (eN es k).size ≤ 4000000)
    (h : ∀ k, k < es.length → ∃ p q : Nat, eS es k = p ∧ eE es k = q ∧ (p = 0 ∨ p = s.size ∨ (0 < p ∧ p < s.size ∧ byteAt s (p - 1) = 10)) ∧ (q = 0 ∨ q = s.size ∨ (0 < q ∧ q < s.size ∧ byteAt s (q - 1) = 10)) ∧ (((eN es k).size = 0 ∨ (0 < (eN es k).size ∧ byteAt (eN es k) ((eN es k).size - 1) = 10)) ∨ q = s.size)) :
   Calls Try.prog 23 #[.string s, .slice A es.length c] w fun e w' => e = .returned (.bool true) ∧ Below w.heap.size w w' := by
  have HR := Lib.hid hr; clear hr
  have HN := Lib.hid hn; have HH := Lib.hid h; clear hn h
  obtain ⟨n, hln⟩ : ∃ n, es.length = n := ⟨_, rfl⟩
  rw [hln] at hl ⊢
  have HL := Lib.hid hln; clear hln
  go_enter Try.func23, Try.ntmps23
  go_wp2
  go_loopw [6, 7, 10] (fun _ _ i wr => ∃ k : Nat, k ≤ n ∧ i = .int .i64 k ∧ Below w.heap.size w wr) (fun _ _ i _ => n - (intOf i).toNat)
  case atStart => exact ⟨0, by omega, rfl, Below.refl _ _⟩
  case round =>
    obtain ⟨k, hk, rfl, hb⟩ := hrel
    by_cases hlt : k < n
    · obtain ⟨b, off, rfl, hbb, g1, g2, g3⟩ := (EdsR.below HR.out hb (Nat.le_refl _)).at_ (k := k) (by rw [HL.out]; exact hlt)
      have hbs := hb.size
      have hsz := HN.out k (by rw [HL.out]; exact hlt)
      obtain ⟨p, q, hp, hq, lp, lq, hw⟩ := HH.out k (by rw [HL.out]; exact hlt)
      rw [hp] at g1
      rw [hq] at g2
      clear hp hq
      generalize eN es k = m at *
      have LP := Lib.hid (fun W => linePlace_any s p W hs lp)
      have LQ := Lib.hid (fun W => linePlace_any s q W hs lq)
      clear lp lq
      have HB := Lib.hid (hb.alloc hb.size (.cells #[.int .i64 (p : Int), .int .i64 (q : Int), .string m] 28))
      by_cases hm : m = ⟨#[]⟩
      · subst hm
        clear hw hsz
        go_wp2_with fail
        refine (LP.out _).mono ?_
        rintro e w1 ⟨rfl, rfl⟩
        go_wp2_with fail
        refine (LQ.out _).mono ?_
        rintro e w1 ⟨rfl, rfl⟩
        go_wp2
        go_roundw
        case rel => exact ⟨k + 1, by omega, by go_num, HB.out⟩
        case measure => simp [intOf]; omega
      · have e1 : (m.toList == ByteArray.toList ⟨#[]⟩) = false := strEq_false hm
        have e5 : m.toList.isEmpty = false := by
          cases hx : m.toList with
          | nil => rw [hx] at e1; simp at e1
          | cons a l => rfl
        have hpos : 0 < m.size := by
          cases hz : m.size
          · exact absurd (ByteArray.size_eq_zero_iff.1 hz) hm
          · omega
        obtain ⟨z, hz⟩ : ∃ z, m.size = z + 1 := ⟨m.size - 1, by omega⟩
        have hzl : z < m.size := by omega
        have e3 : IntKind.i64.wrap ((m.size : Int) - 1) = (z : Int) := by rw [show (m.size : Int) - 1 = (z : Int) by omega]; exact IntWalk.i64_in _ (by omega)
        by_cases h10 : byteAt m z = 10
        · have e2 : (((m[z]'hzl).toNat : Int) == 10) = true := by rw [byteAt_get m z hzl] at h10; simp [h10]
          clear hw h10 hm hz hpos
          go_wp2_with fail
          refine (LP.out _).mono ?_
          rintro e w1 ⟨rfl, rfl⟩
          go_wp2_with fail
          refine (LQ.out _).mono ?_
          rintro e w1 ⟨rfl, rfl⟩
          go_wp2
          go_roundw
          case rel => exact ⟨k + 1, by omega, by go_num, HB.out⟩
          case measure => simp [intOf]; omega
        · have e2 : (((m[z]'hzl).toNat : Int) == 10) = false := by rw [byteAt_get m z hzl] at h10; simp; omega
          have hqs : q = s.size := by
            rcases hw with hw | hw
            · rw [hz, Nat.add_sub_cancel] at hw
              omega
            · exact hw
          have e4 : ((q : Int) == (s.size : Int)) = true := by simp; omega
          clear hw h10 hm hz hpos hqs
          go_wp2_with fail
          refine (LP.out _).mono ?_
          rintro e w1 ⟨rfl, rfl⟩
          go_wp2_with fail
          refine (LQ.out _).mono ?_
          rintro e w1 ⟨rfl, rfl⟩
          go_wp2
          go_roundw
          case rel => exact ⟨k + 1, by omega, by go_num, HB.out⟩
          case measure => simp [intOf]; omega
    · go_wp2
      go_ret
      exact ⟨rfl, hb⟩
end Go.Proofs.Ytoceakjnkillkaa
