/-
  The walk of laws.FnTwoSidedLead: for every input it returns true. No condition.
-/
import Derived.Test.YtbolgikdadhaeaaLcsF2
import Derived.Test.YtbolgikdadhaeaaLcsR2
namespace Go.Proofs.Ytbolgikdadhaeaa
set_option linter.unusedVariables false
open Go.RowKit

set_option maxRecDepth 100000 in
set_option maxHeartbeats 1000000 in
theorem FnTwoSidedLead_walk (A0 : Option Addr) (cap0 : Nat) (z0 : List Int) (A1 : Option Addr) (cap1 : Nat) (z1 : List Int) (a2 : Int) (w : World) (h0 : IntsR .u8 w A0 z0) (l0 : z0.length ≤ maxLen) (wf0 : ∀ n ∈ z0, (Lit.int .u8 n).wf = true) (kc0 : z0.length ≤ cap0) (h1 : IntsR .u8 w A1 z1) (l1 : z1.length ≤ maxLen) (wf1 : ∀ n ∈ z1, (Lit.int .u8 n).wf = true) (kc1 : z1.length ≤ cap1) (wf2 : (Lit.int .i64 a2).wf = true) :
   Calls Try.prog 9 #[.slice A0 z0.length cap0, .slice A1 z1.length cap1, .int .i64 a2] w fun e w' => e = .returned (.bool true) ∧ Below w.heap.size w w' := by
  have hfw := fun W (hW : Below w.heap.size w W) (g1 : z0.length ≤ 1000001) (g2 : z1.length ≤ 1000001) => iTwoSided_any a2 (IntsR.below h0 hW (Nat.le_refl _)) (IntsR.below h1 hW (Nat.le_refl _)) kc0 kc1 g1 g2
  have ho0 := fun W (hW : Below w.heap.size w W) (g1 : z0.length ≤ 2000002) => ofBytes_any A0 cap0 z0 W (IntsR.below h0 hW (Nat.le_refl _)) g1 wf0
  have ho1 := fun W (hW : Below w.heap.size w W) (g1 : z1.length ≤ 2000002) => ofBytes_any A1 cap1 z1 W (IntsR.below h1 hW (Nat.le_refl _)) g1 wf1
  have HFW := Lib.hid hfw; have HO0 := Lib.hid ho0; have HO1 := Lib.hid ho1
  have ht := fun A c w' x y (h : IntsR .i64 w' A [x, y]) => tooLong_any A c [x, y] w' h (by simp)
  have HT := Lib.hid ht; clear ht hfw ho0 ho1 h0 h1 wf0 wf1 wf2 kc0 kc1
  unfold maxLen at l0 l1
  have HRD := Lib.hid (fun A C D F c d e f ps W hx hy hd hp g1 g2 hch => specRoad_any A C D F c d e f z0 z1 ps W hx hy hd hp g1 g2 hch)
  obtain ⟨l, hln⟩ : ∃ n, z0.length = n := ⟨_, rfl⟩
  obtain ⟨m, hlm⟩ : ∃ n, z1.length = n := ⟨_, rfl⟩
  rw [hln] at l0 HFW HO0 HRD ⊢
  rw [hlm] at l1 HFW HO1 HRD ⊢
  have LX := Lib.hid hln; clear hln
  have LY := Lib.hid hlm; clear hlm
  by_cases hb0 : 2147483647 < l
  · go_enter Try.func9, Try.ntmps9
    go_wp2
    go_ret
    exact ⟨rfl, Below.refl _ _⟩
  · by_cases hb1 : 2147483647 < m
    · go_enter Try.func9, Try.ntmps9
      go_wp2
      go_ret
      exact ⟨rfl, Below.refl _ _⟩
    · go_enter Try.func9, Try.ntmps9
      go_wp2_with fail
      refine (HT.out _ _ _ l m (IntsR.lit2 _ _ _ _ _) (by simp; omega)).mono ?_
      rintro e w' ⟨rfl, rfl⟩
      have hsum : sumI [(l : Int), (m : Int)] = (l : Int) + m := by simp [sumI]
      by_cases hbig : 1000000 < l + m
      · have hd : decide (1000000 < sumI [(l : Int), (m : Int)]) = true := by rw [hsum]; simp; omega
        rw [hd]
        clear hd hsum
        go_wp2
        go_ret
        exact ⟨rfl, (Below.refl _ _).alloc (Nat.le_refl _) _⟩
      · have hd : decide (1000000 < sumI [(l : Int), (m : Int)]) = false := by rw [hsum]; simp; omega
        rw [hd]
        clear hd hsum
        have hb1 := (Below.refl w.heap.size w).alloc (Nat.le_refl _) (.cells #[.int .i64 (l : Int), .int .i64 (m : Int)] 3)
        have HB1 := Lib.hid hb1; clear hb1
        go_wp2_with fail
        refine (HFW.out _ HB1.out (by omega) (by omega)).mono ?_
        rintro e w1 ⟨ps, D, cd, F, cf, rfl, o1, o2, b1, hch, hq⟩
        have hb2 := HB1.out.trans (b1.mono (by simp))
        have O1 := Lib.hid (CellsR.of_own o1); have O2 := Lib.hid (CellsR.of_own o2); have HCH := Lib.hid hch; have HB2 := Lib.hid hb2
        have hsz2 := hb2.size
        clear o1 o2 b1 hch hq hb2
        have HRD2 := Lib.hid (fun A C c d W hx hy hd hp => HRD.out A C D F c d cd cf ps W hx hy hd hp (by omega) (by omega) HCH.out)
        obtain ⟨dl, hdl⟩ : ∃ dl, (diffsFrom l m 0 0 ps).length = dl := ⟨_, rfl⟩
        obtain ⟨pl, hpl⟩ : ∃ pl, ps.length = pl := ⟨_, rfl⟩
        rw [hdl, hpl] at HRD2
        rw [hdl, hpl]
        clear hdl hpl
        go_wp2_with fail
        refine (HO0.out _ HB2.out (by omega)).mono ?_
        rintro e w2 ⟨X, cx, rfl, o3, b3⟩
        have hb3 := HB2.out.trans (b3.mono hsz2)
        have O3 := Lib.hid (CellsR.of_own o3); have HB3 := Lib.hid hb3; have B3 := Lib.hid b3
        have hsz3 := b3.size
        clear o3 b3 hb3
        rw [LX.out]
        go_wp2_with fail
        refine (HO1.out _ HB3.out (by omega)).mono ?_
        rintro e w3 ⟨Y, cy, rfl, o4, b4⟩
        have hb4 := HB3.out.trans (b4.mono (by omega))
        have O4 := Lib.hid (CellsR.of_own o4); have HB4 := Lib.hid hb4; have B4 := Lib.hid b4
        have hsz4 := hb4.size
        clear o4 b4 hb4
        rw [LY.out]
        go_wp2_with fail
        refine (HRD2.out X Y cx cy _ (CellsR.below O3.out B4.out (Nat.le_refl _)) O4.out ((O1.out.below B3.out (Nat.le_refl _)).below B4.out (Nat.le_refl _)) ((O2.out.below B3.out (Nat.le_refl _)).below B4.out (Nat.le_refl _))).mono ?_
        rintro e w4 ⟨rfl, b5⟩
        have HB5 := Lib.hid (HB4.out.trans (b5.mono hsz4)); clear b5
        go_wp2
        go_ret
        exact ⟨rfl, HB5.out⟩
end Go.Proofs.Ytbolgikdadhaeaa
