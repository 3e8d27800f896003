/-
  The walk of laws.FnLinesLongest: for every input it returns true. No condition.
-/
import Derived.Test.YtbolgikdadhaeaaLcsCl
import Derived.Test.YtbolgikdadhaeaaLcsN
namespace Go.Proofs.Ytbolgikdadhaeaa
set_option linter.unusedVariables false
open Go.RowKit

set_option maxRecDepth 100000 in
set_option maxHeartbeats 1000000 in
theorem FnLinesLongest_walk (A0 : Option Addr) (cap0 : Nat) (z0 : List ByteArray) (A1 : Option Addr) (cap1 : Nat) (z1 : List ByteArray) (w : World) (h0 : StrsR w A0 z0) (l0 : z0.length ≤ maxLen) (wf0 : ∀ x ∈ z0, x.size ≤ maxLen) (kc0 : z0.length ≤ cap0) (h1 : StrsR w A1 z1) (l1 : z1.length ≤ maxLen) (wf1 : ∀ x ∈ z1, x.size ≤ maxLen) (kc1 : z1.length ≤ cap1) :
   Calls Try.prog 13 #[.slice A0 z0.length cap0, .slice A1 z1.length cap1] w fun e w' => e = .returned (.bool true) ∧ Below w.heap.size w w' := by
  obtain ⟨X, hX⟩ : ∃ X, (numsS (z0 ++ z1)).take z0.length = X := ⟨_, rfl⟩
  obtain ⟨Y, hY⟩ : ∃ Y, (numsS (z0 ++ z1)).drop z0.length = Y := ⟨_, rfl⟩
  have hXl : X.length = z0.length := by rw [← hX, List.length_take, numsS_length]; simp
  have hYl : Y.length = z1.length := by rw [← hY, List.length_drop, numsS_length]; simp
  have hE := numsS_eq z0 z1
  rw [hX, hY] at hE
  have HF0 := Lib.hid (zzFits3_any A0 cap0 z0 w h0 l0 wf0); have HF1 := Lib.hid (zzFits3_any A1 cap1 z1 w h1 l1 wf1)
  have HS0 := Lib.hid (sizeOf_any A0 cap0 z0 w h0 l0 wf0); have HS1 := Lib.hid (sizeOf_any A1 cap1 z1 w h1 l1 wf1)
  have hfw := fun W (hW : Below w.heap.size w W) (g1 : z0.length ≤ 1000001) (g2 : z1.length ≤ 1000001) => difLines hE (StrsR.below h0 hW (Nat.le_refl _)) (StrsR.below h1 hW (Nat.le_refl _)) kc0 kc1 g1 g2
  have hol := fun W (hW : Below w.heap.size w W) (g1 : z0.length ≤ 1000001) (g2 : z1.length ≤ 1000001) => ofLines_any A0 A1 cap0 cap1 z0 z1 W (StrsR.below h0 hW (Nat.le_refl _)) (StrsR.below h1 hW (Nat.le_refl _)) g1 g2
  unfold LinesOut at hol
  rw [hX, hY] at hol
  have ht := fun A c w' x y (h : IntsR .i64 w' A [x, y]) => tooLong_any A c [x, y] w' h (by simp)
  have hkp := fun A C D c d e ds k W hx hy hd g1 g2 g3 hL g4 => kept_any A C D c d e X Y ds k W hx hy hd g1 g2 g3 hL g4
  have hnr := fun A C c d W hx hy g1 g2 => near_any A C c d X Y W hx hy g1 g2
  have hz0 := szSR_nonneg z0; have hz1 := szSR_nonneg z1
  have hq0 := len_le_szS z0; have hq1 := len_le_szS z1
  have hs0 : ¬ 1000000 < szSR z0 → szS z0 ≤ 1000000 := szSR_le
  have hs1 : ¬ 1000000 < szSR z1 → szS z1 ≤ 1000000 := szSR_le
  rw [hXl, hYl] at hkp hnr
  have HFW := Lib.hid hfw; have HOL := Lib.hid hol; have HT := Lib.hid ht; have HKP := Lib.hid hkp; have HNR := Lib.hid hnr
  clear hfw hol ht hkp hnr h0 h1 wf0 wf1 kc0 kc1 hE hX hY hXl hYl
  unfold maxLen at l0 l1
  generalize eqI X Y = E at *
  generalize szSR z0 = s0 at *
  generalize szSR z1 = s1 at *
  generalize szS z0 = t0 at *
  generalize szS z1 = t1 at *
  obtain ⟨l, hln⟩ : ∃ n, z0.length = n := ⟨_, rfl⟩
  obtain ⟨m, hlm⟩ : ∃ n, z1.length = n := ⟨_, rfl⟩
  rw [hln] at l0 HF0 HS0 HFW HOL HKP HNR hq0 ⊢
  rw [hlm] at l1 HF1 HS1 HFW HOL HKP HNR hq1 ⊢
  clear hln hlm
  go_enter Try.func13, Try.ntmps13
  go_wp2_with fail
  refine HF0.out.mono ?_
  rintro e wA ⟨⟨b0, rfl⟩, rfl⟩
  cases b0
  · go_wp2
    go_ret
    exact ⟨rfl, Below.refl _ _⟩
  · go_wp2_with fail
    refine HF1.out.mono ?_
    rintro e wB ⟨⟨b1, rfl⟩, rfl⟩
    cases b1
    · go_wp2
      go_ret
      exact ⟨rfl, Below.refl _ _⟩
    · go_wp2_with fail
      refine HS0.out.mono ?_
      rintro e wC ⟨rfl, rfl⟩
      go_wp2_with fail
      refine HS1.out.mono ?_
      rintro e wD ⟨rfl, rfl⟩
      go_wp2_with fail
      refine (HT.out _ _ _ s0 s1 (IntsR.lit2 _ _ _ _ _) (by simp; omega)).mono ?_
      rintro e wE ⟨rfl, rfl⟩
      have hsum : sumI [s0, s1] = s0 + s1 := by simp [sumI]
      by_cases hbig : 1000000 < s0 + s1
      · have hd : decide (1000000 < sumI [s0, s1]) = true := by rw [hsum]; simp; omega
        rw [hd]
        clear hd hsum
        go_wp2
        go_ret
        exact ⟨rfl, (Below.refl _ _).alloc (Nat.le_refl _) _⟩
      · have hd : decide (1000000 < sumI [s0, s1]) = false := by rw [hsum]; simp; omega
        rw [hd]
        have g1 : l ≤ 1000001 := by have := hs0 (by omega); omega
        have g2 : m ≤ 1000001 := by have := hs1 (by omega); omega
        clear hd hsum hs0 hs1 hq0 hq1 hbig
        have hb1 := (Below.refl wD.heap.size wD).alloc (Nat.le_refl _) (.cells #[.int .i64 s0, .int .i64 s1] 3)
        have HB1 := Lib.hid hb1; clear hb1
        go_wp2_with fail
        refine (HOL.out _ HB1.out g1 g2).mono ?_
        rintro e w3 ⟨X1, cx, Y1, cy, rfl, o3, o4, b4⟩
        have hb4 := HB1.out.trans (b4.mono HB1.out.size)
        have O34 := Lib.hid o3; have O4 := Lib.hid o4; have HB4 := Lib.hid hb4
        have hsz4 := hb4.size
        clear o3 o4 b4 hb4
        go_wp2_with fail
        refine (HNR.out X1 Y1 cx cy w3 O34.out O4.out (by omega) (by omega)).mono ?_
        rintro e wN ⟨n, nb, rfl, hnr, bN⟩
        have HN := Lib.hid hnr
        have hbN := HB4.out.trans (bN.mono (by omega))
        have O34' := O34; have O4' := O4
        have O34 := Lib.hid (CellsR.below O34'.out bN (Nat.le_refl _)); have O4 := Lib.hid (CellsR.below O4'.out bN (Nat.le_refl _))
        have HB4' := HB4
        have HB4 := Lib.hid hbN
        have hsz4 := hbN.size
        clear hnr bN hbN HB4' O34' O4'
        go_wp2_with fail
        refine (HFW.out _ HB4.out g1 g2).mono ?_
        rintro e w1 ⟨ps, D, cd, rfl, o1, b1, hch, hq⟩
        have hb2 := HB4.out.trans (b1.mono (by omega))
        have O1 := Lib.hid (CellsR.of_own o1); have HCH := Lib.hid hch; have HB2 := Lib.hid hb2; have HQ := Lib.hid hq
        have O5 := Lib.hid (CellsR.below O34.out b1 (Nat.le_refl _)); have O6 := Lib.hid (CellsR.below O4.out b1 (Nat.le_refl _))
        have hsz2 := hb2.size
        have hlen := ch_len hch
        have hdl0 := diffs_len l m ps 0 0
        have hkp := HKP.out X1 Y1 D cx cy cd (diffsFrom l m 0 0 ps) (sumP ps) w1 O5.out O6.out O1.out (by omega) (by omega) (by omega) (lead_ch hch) (by omega)
        obtain ⟨dl, hdl⟩ : ∃ dl, (diffsFrom l m 0 0 ps).length = dl := ⟨_, rfl⟩
        obtain ⟨k, hk⟩ : ∃ k, sumP ps = k := ⟨_, rfl⟩
        rw [hdl, hk] at hkp
        rw [hdl]
        have HKP2 := Lib.hid hkp
        have HK := Lib.hid hk
        clear o1 b1 hch hq hb2 hlen hdl0 hkp hdl hk
        go_wp2_with fail
        refine HKP2.out.mono ?_
        rintro e w4 ⟨rfl, b5⟩
        have HB5 := Lib.hid (HB2.out.trans (b5.mono hsz2))
        clear b5
        cases nb with
        | false =>
          go_wp2
          go_ret
          exact ⟨rfl, HB5.out⟩
        | true =>
          have hkW : k = n := by
            obtain ⟨g1, g2⟩ := HN.out rfl
            obtain ⟨T, hT⟩ := short_ex (E) l m
            have h3 := short_lcsW hT
            have h2 := HQ.out T hT (by omega)
            have h4 := HK.out
            omega
          rw [hkW]
          have c3 : ((n : Int) == (n : Int)) = true := by simp
          clear hkW
          go_wp2
          go_ret
          exact ⟨rfl, HB5.out⟩
end Go.Proofs.Ytbolgikdadhaeaa
