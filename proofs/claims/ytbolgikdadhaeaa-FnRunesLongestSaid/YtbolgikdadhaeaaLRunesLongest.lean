/-
  The walk of laws.FnRunesLongest: for every input it returns true. No condition.
-/
import Derived.Test.YtbolgikdadhaeaaLcsC
import Derived.Test.YtbolgikdadhaeaaLcsN
import Derived.Test.YtbolgikdadhaeaaLcsSr
namespace Go.Proofs.Ytbolgikdadhaeaa
set_option linter.unusedVariables false
open Go.RowKit

set_option maxRecDepth 100000 in
set_option maxHeartbeats 1000000 in
theorem FnRunesLongest_walk (A0 : Option Addr) (cap0 : Nat) (z0 : List Int) (A1 : Option Addr) (cap1 : Nat) (z1 : List Int) (w : World) (h0 : IntsR .i32 w A0 z0) (l0 : z0.length ≤ maxLen) (wf0 : ∀ n ∈ z0, (Lit.int .i32 n).wf = true) (kc0 : z0.length ≤ cap0) (h1 : IntsR .i32 w A1 z1) (l1 : z1.length ≤ maxLen) (wf1 : ∀ n ∈ z1, (Lit.int .i32 n).wf = true) (kc1 : z1.length ≤ cap1) :
   Calls Try.prog 16 #[.slice A0 z0.length cap0, .slice A1 z1.length cap1] w fun e w' => e = .returned (.bool true) ∧ Below w.heap.size w w' := by
  have hfw := fun W (hW : Below w.heap.size w W) (g1 : z0.length ≤ 1000001) (g2 : z1.length ≤ 1000001) => difRunes (IntsR.below h0 hW (Nat.le_refl _)) (IntsR.below h1 hW (Nat.le_refl _)) kc0 kc1 g1 g2
  have ho0 := fun W (hW : Below w.heap.size w W) (g1 : z0.length ≤ 2000002) => ofRunes_any A0 cap0 z0 W (IntsR.below h0 hW (Nat.le_refl _)) g1 wf0
  have ho1 := fun W (hW : Below w.heap.size w W) (g1 : z1.length ≤ 2000002) => ofRunes_any A1 cap1 z1 W (IntsR.below h1 hW (Nat.le_refl _)) g1 wf1
  have HFW := Lib.hid hfw; have HO0 := Lib.hid ho0; have HO1 := Lib.hid ho1
  have ht := fun A c w' x y (h : IntsR .i64 w' A [x, y]) => tooLong_any A c [x, y] w' h (by simp)
  have HT := Lib.hid ht; clear ht hfw ho0 ho1 h0 h1 wf0 wf1 kc0 kc1
  unfold maxLen at l0 l1
  have HKP := Lib.hid (fun A C D c d e ds k W hx hy hd g1 g2 g3 hL g4 => kept_any A C D c d e z0 z1 ds k W hx hy hd g1 g2 g3 hL g4)
  have HNR := Lib.hid (fun A C c d W hx hy g1 g2 => near_any A C c d z0 z1 W hx hy g1 g2)
  obtain ⟨l, hln⟩ : ∃ n, z0.length = n := ⟨_, rfl⟩
  obtain ⟨m, hlm⟩ : ∃ n, z1.length = n := ⟨_, rfl⟩
  rw [hln] at l0 HFW HO0 HKP HNR ⊢
  rw [hlm] at l1 HFW HO1 HKP HNR ⊢
  have LX := Lib.hid hln; clear hln
  have LY := Lib.hid hlm; clear hlm
  by_cases hb0 : 2147483647 < l
  · go_enter Try.func16, Try.ntmps16
    go_wp2
    go_ret
    exact ⟨rfl, Below.refl _ _⟩
  · by_cases hb1 : 2147483647 < m
    · go_enter Try.func16, Try.ntmps16
      go_wp2
      go_ret
      exact ⟨rfl, Below.refl _ _⟩
    · go_enter Try.func16, Try.ntmps16
      go_wp2_with fail
      refine (HT.out _ _ _ l m (IntsR.lit2 _ _ _ _ _) (by simp; omega)).mono ?_
      rintro e w' ⟨rfl, rfl⟩
      have hsum : sumI [(l : Int), (m : Int)] = (l : Int) + m := by simp [sumI]
      by_cases hbig : 1000000 < l + m
      · have hd : decide (1000000 < sumI [(l : Int), (m : Int)]) = true := by rw [hsum]; simp; omega
        rw [hd]
        clear hd hsum
        go_wp2
        go_ret
        exact ⟨rfl, (Below.refl _ _).alloc (Nat.le_refl _) _⟩
      · have hd : decide (1000000 < sumI [(l : Int), (m : Int)]) = false := by rw [hsum]; simp; omega
        rw [hd]
        clear hd hsum
        have hb1 := (Below.refl w.heap.size w).alloc (Nat.le_refl _) (.cells #[.int .i64 (l : Int), .int .i64 (m : Int)] 3)
        have HB1 := Lib.hid hb1; clear hb1
        go_wp2_with fail
        refine (HO0.out _ HB1.out (by omega)).mono ?_
        rintro e w2 ⟨X, cx, rfl, o3, b3⟩
        have hb3 := HB1.out.trans (b3.mono (by simp))
        have O3 := Lib.hid (CellsR.of_own o3); have HB3 := Lib.hid hb3
        have hsz3 := hb3.size
        clear o3 b3 hb3
        rw [LX.out]
        go_wp2_with fail
        refine (HO1.out _ HB3.out (by omega)).mono ?_
        rintro e w3 ⟨Y, cy, rfl, o4, b4⟩
        have hb4 := HB3.out.trans (b4.mono (by omega))
        have O4 := Lib.hid (CellsR.of_own o4); have HB4 := Lib.hid hb4; have O34 := Lib.hid (CellsR.below O3.out b4 (Nat.le_refl _))
        have hsz4 := hb4.size
        clear o4 b4 hb4
        rw [LY.out]
        go_wp2_with fail
        refine (HNR.out X Y cx cy w3 O34.out O4.out (by omega) (by omega)).mono ?_
        rintro e wN ⟨n, nb, rfl, hnr, bN⟩
        have HN := Lib.hid hnr
        have hbN := HB4.out.trans (bN.mono (by omega))
        have O34' := O34; have O4' := O4
        have O34 := Lib.hid (CellsR.below O34'.out bN (Nat.le_refl _)); have O4 := Lib.hid (CellsR.below O4'.out bN (Nat.le_refl _))
        have HB4' := HB4
        have HB4 := Lib.hid hbN
        have hsz4 := hbN.size
        clear hnr bN hbN HB4' O34' O4'
        go_wp2_with fail
        refine (HFW.out _ HB4.out (by omega) (by omega)).mono ?_
        rintro e w1 ⟨ps, D, cd, rfl, o1, b1, hch, hq⟩
        have hb2 := HB4.out.trans (b1.mono (by omega))
        have O1 := Lib.hid (CellsR.of_own o1); have HCH := Lib.hid hch; have HB2 := Lib.hid hb2; have HQ := Lib.hid hq
        have O5 := Lib.hid (CellsR.below O34.out b1 (Nat.le_refl _)); have O6 := Lib.hid (CellsR.below O4.out b1 (Nat.le_refl _))
        have hsz2 := hb2.size
        have hlen := ch_len hch
        have hdl0 := diffs_len l m ps 0 0
        have hkp := HKP.out X Y D cx cy cd (diffsFrom l m 0 0 ps) (sumP ps) w1 O5.out O6.out O1.out (by omega) (by omega) (by omega) (lead_ch hch) (by omega)
        obtain ⟨dl, hdl⟩ : ∃ dl, (diffsFrom l m 0 0 ps).length = dl := ⟨_, rfl⟩
        obtain ⟨k, hk⟩ : ∃ k, sumP ps = k := ⟨_, rfl⟩
        rw [hdl, hk] at hkp
        rw [hdl]
        have HKP2 := Lib.hid hkp
        have HK := Lib.hid hk
        clear o1 b1 hch hq hb2 hlen hdl0 hkp hdl hk
        go_wp2_with fail
        refine HKP2.out.mono ?_
        rintro e w4 ⟨rfl, b5⟩
        have HB5 := Lib.hid (HB2.out.trans (b5.mono hsz2))
        clear b5
        cases nb with
        | false =>
          go_wp2
          go_ret
          exact ⟨rfl, HB5.out⟩
        | true =>
          have hkW : k = n := by
            obtain ⟨g1, g2⟩ := HN.out rfl
            obtain ⟨T, hT⟩ := short_ex (eqI z0 z1) l m
            have h3 := short_lcsW hT
            have h2 := HQ.out T hT (by omega)
            have h4 := HK.out
            omega
          rw [hkW]
          have c3 : ((n : Int) == (n : Int)) = true := by simp
          clear hkW
          go_wp2
          go_ret
          exact ⟨rfl, HB5.out⟩
end Go.Proofs.Ytbolgikdadhaeaa
