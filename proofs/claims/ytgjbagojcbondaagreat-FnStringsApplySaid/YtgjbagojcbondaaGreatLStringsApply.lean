/-
  The walk of laws.FnStringsApply: for every input it returns true. No condition.
-/
import Derived.Test.YtgjbagojcbondaaGreatStrC
import Derived.Test.YtgjbagojcbondaaGreatStrA
import Derived.Test.YtgjbagojcbondaaGreatRuneSzW
namespace Go.Proofs.YtgjbagojcbondaaGreat
set_option linter.unusedVariables false
open Go.RowKit

theorem apF_none : apF ⟨#[]⟩ [] = some ⟨#[]⟩ := by
  unfold apF
  rw [if_pos (by decide)]
  rfl
theorem StrP.app {s t : ByteArray} {es : List Ed} (h : StrP s t es) (hst : s.size + t.size ≤ 1000000) (hs : wfB s = true) (ht : wfB t = true) : apF s es = some t := by
  have h1 := h.ed hst hs ht
  unfold apF
  rw [if_pos h1.order, h1.patch]
set_option maxRecDepth 100000 in
set_option maxHeartbeats 1000000 in
theorem FnStringsApply_walk (s0 s1 : ByteArray) (w : World) (ws0 : s0.size ≤ maxLen) (ws1 : s1.size ≤ maxLen) :
   Calls Tryz.prog 3 #[.string s0, .string s1] w fun e w' => e = .returned (.bool true) ∧ Below w.heap.size w w' := by
  have ht := fun A c w' x y (h : IntsR .i64 w' A [x, y]) => tooLong_any A c [x, y] w' h (by simp)
  have HT := Lib.hid ht; clear ht
  have hl1 := fun W (g0 : s0.size ≤ 1000000) (g1 : s1.size ≤ 1000000) => implStrings_any s0 s1 W g0 g1
  unfold StrOut at hl1
  have HL1 := Lib.hid hl1; clear hl1
  have HW0 := Lib.hid (fun W (h : s0.size ≤ 4000000) => wellFormed_any s0 W h)
  have HW1 := Lib.hid (fun W (h : s1.size ≤ 4000000) => wellFormed_any s1 W h)
  have hone := fun (W : World) => implApply_any ⟨#[]⟩ none 0 [] [] W (.inl rfl) (by decide) (by simp) (by simp) (by simp [szE]) (validate_sorted ⟨#[]⟩ [] (by decide) (by simp) (by simp [szE]) rfl)
  unfold ImplApplyOut at hone
  rw [apF_none] at hone
  have HO := Lib.hid hone; clear hone
  unfold maxLen at ws0 ws1
  by_cases hb0 : (2147483647 : Int) < (s0.size : Int)
  · go_enter Tryz.func3, Tryz.ntmps3
    go_wp2
    go_ret
    exact ⟨rfl, Below.refl _ _⟩
  · by_cases hb1 : (2147483647 : Int) < (s1.size : Int)
    · go_enter Tryz.func3, Tryz.ntmps3
      go_wp2
      go_ret
      exact ⟨rfl, Below.refl _ _⟩
    · go_enter Tryz.func3, Tryz.ntmps3
      go_wp2_with fail
      refine (HT.out _ _ _ s0.size s1.size (IntsR.lit2 _ _ _ _ _) (by simp; omega)).mono ?_
      rintro e w3 ⟨rfl, rfl⟩
      have hsum : sumI [(s0.size : Int), (s1.size : Int)] = (s0.size : Int) + s1.size := by simp [sumI]
      by_cases hbig : 1000000 < (s0.size : Int) + s1.size
      · have hd : decide (1000000 < sumI [(s0.size : Int), (s1.size : Int)]) = true := by rw [hsum]; simp; omega
        rw [hd]
        clear hd hsum
        go_wp2
        go_ret
        exact ⟨rfl, (Below.refl _ _).alloc (Nat.le_refl _) _⟩
      · have hd : decide (1000000 < sumI [(s0.size : Int), (s1.size : Int)]) = false := by rw [hsum]; simp; omega
        rw [hd]
        have HB1 := Lib.hid ((Below.refl w.heap.size w).alloc (Nat.le_refl _) (.cells #[.int .i64 (s0.size : Int), .int .i64 (s1.size : Int)] 3))
        clear hd hsum
        have g0 : s0.size ≤ 1000000 := by omega
        have g1 : s1.size ≤ 1000000 := by omega
        have g2 : s0.size + s1.size ≤ 1000000 := by omega
        clear hbig
        go_wp2_with fail
        refine (HL1.out _ g0 g1).mono ?_
        rintro e w4 ⟨es, A, c, rfl, hr, hc, hb, hp⟩
        have hg := hp.gen g2
        obtain ⟨⟨T, hT, hor⟩, hsz, hln⟩ := hg
        have HB4 := Lib.hid (HB1.out.trans (hb.mono HB1.out.size))
        have hap := implApply_any s0 A c es es w4 hr (by omega) hln hln hsz (validate_sorted s0 es (by omega) hln hsz (order_sortedB (by omega) es 0 (by omega) hor))
        have hyes := fun h1 h2 => hp.app g2 h1 h2
        unfold ImplApplyOut at hap
        generalize hpf : apF s0 es = pf at *
        have HA := Lib.hid hap; have HY := Lib.hid hyes
        clear hp hr hc hb hap hyes hor hsz hln hpf hT
        generalize es.length = n at *
        go_wp2_with fail
        refine HA.out.mono ?_
        rintro e w5 ⟨rfl, hb5⟩
        have HB5 := Lib.hid (HB4.out.trans (hb5.mono HB4.out.size)); clear hb5
        go_wp2_with fail
        refine (HW0.out _ (by omega)).mono ?_
        rintro e w6 ⟨rfl, rfl⟩
        cases h0 : wfB s0 with
        | false =>
          go_wp2_with fail
          refine (HO.out _).mono ?_
          rintro e w7 ⟨rfl, hb7⟩
          have HB7 := Lib.hid (HB5.out.trans (hb7.mono HB5.out.size)); clear hb7
          simp only [Option.getD_some, Option.isSome_some]
          go_wp2
          go_ret
          exact ⟨rfl, HB7.out⟩
        | true =>
          go_wp2_with fail
          refine (HW1.out _ (by omega)).mono ?_
          rintro e w7 ⟨rfl, rfl⟩
          cases h1 : wfB s1 with
          | false =>
            go_wp2_with fail
            refine (HO.out _).mono ?_
            rintro e w8 ⟨rfl, hb8⟩
            have HB8 := Lib.hid (HB5.out.trans (hb8.mono HB5.out.size)); clear hb8
            simp only [Option.getD_some, Option.isSome_some]
            go_wp2
            go_ret
            exact ⟨rfl, HB8.out⟩
          | true =>
            have hpf := HY.out h0 h1
            subst hpf
            simp only [Option.getD_some, Option.isSome_some]
            have heq : (s1.toList == s1.toList) = true := by simp
            go_wp2_with fail
            refine (HO.out _).mono ?_
            rintro e w8 ⟨rfl, hb8⟩
            have HB8 := Lib.hid (HB5.out.trans (hb8.mono HB5.out.size)); clear hb8
            simp only [Option.getD_some, Option.isSome_some]
            go_wp2
            go_ret
            exact ⟨rfl, HB8.out⟩
end Go.Proofs.YtgjbagojcbondaaGreat
