/-
  The walk of laws.FnPrefixLongest: it returns true. No condition.
-/
import Derived.Test.YtpbmjnjcjjombaaCpl
namespace Go.Proofs.Ytpbmjnjcjjombaa
open Go.RowKit

theorem cpl_112 : cpl ([1] : List Int) [1, 2] = 1 := by decide

set_option maxHeartbeats 1000000 in
theorem FnPrefixLongest_walk (A0 : Option Addr) (c0 : Nat) (z0 : List Int) (A1 : Option Addr) (c1 : Nat) (z1 : List Int) (w : World)
    (h0 : IntsR .u8 w A0 z0) (l0 : z0.length ≤ maxLen) (_ : ∀ n ∈ z0, (Lit.int .u8 n).wf = true) (h1 : IntsR .u8 w A1 z1) (l1 : z1.length ≤ maxLen) (_ : ∀ n ∈ z1, (Lit.int .u8 n).wf = true) :
   Calls Try.prog 3 #[.slice A0 z0.length c0, .slice A1 z1.length c1] w fun e w' => e = .returned (.bool true) ∧ Below w.heap.size w w' := by
  have hp := fun w' (hb : Below w.heap.size w w') => prefix_any A0 A1 c0 c1 z0 z1 w' (CellsR.below h0 hb (Nat.le_refl _)) (CellsR.below h1 hb (Nat.le_refl _)) l0 l1
  have HP := Lib.hid hp; clear hp
  have hle := cpl_le z0 z1
  obtain ⟨hle0, hle1⟩ := hle
  have hall := cpl_all z0 z1
  have HALL := Lib.hid hall; clear hall
  have hnext := cpl_next z0 z1
  have HNEXT := Lib.hid hnext; clear hnext
  have HX := Lib.hid h0; clear h0
  have HY := Lib.hid h1; clear h1
  have ht := fun A c w' x y (h : IntsR .i64 w' A [x, y]) => tooLong_any A c [x, y] w' h (by simp)
  have HT := Lib.hid ht; clear ht
  unfold maxLen at l0 l1
  obtain ⟨l, hln⟩ : ∃ n, z0.length = n := ⟨_, rfl⟩
  obtain ⟨m, hlm⟩ : ∃ n, z1.length = n := ⟨_, rfl⟩
  rw [hln] at l0 hle0 HP HNEXT ⊢
  rw [hlm] at l1 hle1 HP HNEXT ⊢
  have LX := Lib.hid hln; clear hln
  have LY := Lib.hid hlm; clear hlm
  generalize hK : cpl z0 z1 = K at *
  clear hK
  by_cases hb0 : 2147483647 < l
  · go_enter Try.func3, Try.ntmps3
    go_wp2
    go_ret
    exact ⟨rfl, Below.refl _ _⟩
  · by_cases hb1 : 2147483647 < m
    · go_enter Try.func3, Try.ntmps3
      go_wp2
      go_ret
      exact ⟨rfl, Below.refl _ _⟩
    · go_enter Try.func3, Try.ntmps3
      go_wp2_with fail
      refine (HT.out _ _ _ l m (IntsR.lit2 _ _ _ _ _) (by simp; omega)).mono ?_
      rintro e w' ⟨rfl, rfl⟩
      have hsum : sumI [(l : Int), (m : Int)] = (l : Int) + m := by simp [sumI]
      by_cases hbig : 1000000 < l + m
      · have hd : decide (1000000 < sumI [(l : Int), (m : Int)]) = true := by rw [hsum]; simp; omega
        rw [hd]
        clear hd hsum
        go_wp2
        go_ret
        exact ⟨rfl, (Below.refl _ _).alloc (Nat.le_refl _) _⟩
      · have hd : decide (1000000 < sumI [(l : Int), (m : Int)]) = false := by rw [hsum]; simp; omega
        rw [hd]
        clear hd hsum
        go_wp2_with fail
        refine (HP.out _ ((Below.refl _ _).alloc (Nat.le_refl _) _)).mono ?_
        rintro e w' ⟨rfl, q1, rfl⟩
        go_wp2_with fail
        have hL1 := CellsR.alloc (IntsR.lit1 .u8 ((w.alloc (.cells #[.int .i64 (l : Int), .int .i64 (m : Int)] 3)).drewN q1) 5 1) (.cells #[.int .u8 1, .int .u8 2] 5)
        have hL2 := IntsR.lit2 .u8 (((w.alloc (.cells #[.int .i64 (l : Int), .int .i64 (m : Int)] 3)).drewN q1).alloc (.cells #[.int .u8 1] 5)) 5 1 2
        simp only [World.size_alloc, World.heap_drewN] at hL1 hL2
        refine (prefix_any _ _ 1 2 [1] [1, 2] _ hL1 hL2 (by simp [maxLen]) (by simp [maxLen])).mono ?_
        clear hL1 hL2
        rintro e w' ⟨rfl, q2, rfl⟩
        rw [cpl_112]
        have hB : Below w.heap.size w (((((w.alloc (.cells #[.int .i64 (l : Int), .int .i64 (m : Int)] 3)).drewN q1).alloc (.cells #[.int .u8 1] 5)).alloc (.cells #[.int .u8 1, .int .u8 2] 5)).drewN q2) :=
          below_drewN (((below_drewN ((Below.refl _ _).alloc (Nat.le_refl _) _) q1).alloc (by simp) _).alloc (by simp; omega) _) q2
        generalize hW : ((((w.alloc (.cells #[.int .i64 (l : Int), .int .i64 (m : Int)] 3)).drewN q1).alloc (.cells #[.int .u8 1] 5)).alloc (.cells #[.int .u8 1, .int .u8 2] 5)).drewN q2 = W at *
        clear hW
        have HXW := Lib.hid (CellsR.below HX.out hB (Nat.le_refl _))
        have HYW := Lib.hid (CellsR.below HY.out hB (Nat.le_refl _))
        have HB := Lib.hid hB; clear hB
        go_wp2
        go_loopw [6, 45] (fun _ i wr => ∃ k q : Nat, k ≤ K ∧ i = .int .i64 k ∧ wr = W.drewN q) (fun _ i _ => K - (intOf i).toNat)
        case atStart => exact ⟨0, 0, by omega, rfl, rfl⟩
        case round =>
          obtain ⟨k, q, hk, rfl, rfl⟩ := hrel
          by_cases hlt : k < K
          · obtain ⟨b0, o0, rfl, _, g0⟩ := IntsR.at_ HXW.out (k := k) (by rw [LX.out]; omega)
            obtain ⟨b1, o1, rfl, _, g1⟩ := IntsR.at_ HYW.out (k := k) (by rw [LY.out]; omega)
            have he := HALL.out k hlt
            have he' : (ix z0 k == ix z1 k) = true := by simp [he]
            have hne : (ix z0 k != ix z1 k) = false := by simp [he]
            clear he
            go_wp2
            go_quiet (fail)
            go_wp2
            go_roundw
            case rel => exact ⟨k + 1, _, by omega, by go_num, rfl⟩
            case measure => simp [intOf]; omega
          · by_cases hKl : K = l
            · have e1 : ((K : Int) == l) = true := by simp; omega
              have HE := Lib.hid hKl; clear hKl
              go_wp2
              go_quiet (fail)
              go_wp2
              go_ret
              exact ⟨rfl, below_drewN (below_drewN HB.out _) _⟩
            · have e1 : ((K : Int) == l) = false := by simp; omega
              by_cases hKm : K = m
              · have e2 : ((K : Int) == m) = true := by simp; omega
                have HE := Lib.hid hKl; clear hKl
                have HE2 := Lib.hid hKm; clear hKm
                go_wp2
                go_quiet (fail)
                go_wp2
                go_ret
                exact ⟨rfl, below_drewN (below_drewN HB.out _) _⟩
              · have e2 : ((K : Int) == m) = false := by simp; omega
                obtain ⟨b0, o0, rfl, _, g0⟩ := IntsR.at_ HXW.out (k := K) (by rw [LX.out]; omega)
                obtain ⟨b1, o1, rfl, _, g1⟩ := IntsR.at_ HYW.out (k := K) (by rw [LY.out]; omega)
                have he := HNEXT.out (by omega) (by omega)
                have hne : (ix z0 K != ix z1 K) = true := by simp [he]
                have hlt0 : K < l := by omega
                have hlt1 : K < m := by omega
                clear he
                go_wp2
                go_quiet (fail)
                go_wp2
                go_ret
                exact ⟨rfl, below_drewN (below_drewN HB.out _) _⟩
end Go.Proofs.Ytpbmjnjcjjombaa
