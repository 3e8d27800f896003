/-
  The walk of laws.FnApplyOne: it returns true. No condition.
-/
import Derived.Test.YtoceakjnkillkaaImplA
import Derived.Test.YtoceakjnkillkaaSmall
namespace Go.Proofs.Ytoceakjnkillkaa
set_option linter.unusedVariables false
open Go.RowKit Go.Shelf

theorem IntsR.lit4 (kd : IntKind) (w : World) (t : TypeId) (x y z u : Int) : IntsR kd (w.alloc (.cells #[.int kd x, .int kd y, .int kd z, .int kd u] t)) (some ⟨w.heap.size, 0, none⟩) [x, y, z, u] := by
  refine .inr ⟨_, _, rfl, fun j v hu => ?_⟩
  have := (Blk.new w t #[.int kd x, .int kd y, .int kd z, .int kd u]).cell (0 + j)
  rw [this]
  simpa [intCells] using hu
theorem edLit1 (w : World) (t : TypeId) (s e : Int) (n : ByteArray) : EdsR (w.alloc (.cells #[.int .i64 s, .int .i64 e, .string n] t)) (some ⟨w.heap.size, 0, none⟩) [⟨s, e, n⟩] := by
  have := cells_lit3 w t ⟨s, e, n⟩
  simpa [EdsR, edCells] using this
theorem apF_one (b t r p : ByteArray) : apF (b ++ t ++ r) [⟨(b.size : Int), (b.size : Int) + t.size, p⟩] = some (b ++ p ++ r) := by
  have h : inOrderF ((b ++ t ++ r).size : Nat) 0 [⟨(b.size : Int), (b.size : Int) + t.size, p⟩] = true := by
    simp only [inOrderF, insideB, Bool.and_true, Bool.and_eq_true, decide_eq_true_eq, ByteArray.size_append]
    omega
  unfold apF
  rw [if_pos h, patchB_cons]
  simp only [patchB]
  have e1 : ((b.size : Int) + t.size).toNat = b.size + t.size := by omega
  rw [Int.toNat_natCast, e1]
  congr 1
  have e2 : (b ++ t ++ r).extract 0 b.size = b := by rw [ByteArray.append_assoc, ByteArray.extract_append_eq_left rfl]
  have e3 : (b ++ t ++ r).extract (b.size + t.size) (b ++ t ++ r).size = r := by rw [ByteArray.extract_append_eq_right (by simp) (by simp)]
  rw [e2, e3]

set_option maxHeartbeats 1000000 in
theorem FnApplyOne_walk (b t r p : ByteArray) (w : World) (l0 : b.size ≤ maxLen) (l1 : t.size ≤ maxLen) (l2 : r.size ≤ maxLen) (l3 : p.size ≤ maxLen) :
   Calls Try.prog 4 #[.string b, .string t, .string r, .string p] w fun e w' => e = .returned (.bool true) ∧ Below w.heap.size w w' := by
  unfold maxLen at l0 l1 l2 l3
  have ht := fun A c w' x y z u (h : IntsR .i64 w' A [x, y, z, u]) => tooLong_any A c [x, y, z, u] w' h (by simp)
  have HT := Lib.hid ht; clear ht
  by_cases h0 : 2147483647 < b.size
  · go_enter Try.func4, Try.ntmps4
    go_wp2
    go_ret
    exact ⟨rfl, Below.refl _ _⟩
  · by_cases h1 : 2147483647 < t.size
    · go_enter Try.func4, Try.ntmps4
      go_wp2
      go_ret
      exact ⟨rfl, Below.refl _ _⟩
    · by_cases h2 : 2147483647 < r.size
      · go_enter Try.func4, Try.ntmps4
        go_wp2
        go_ret
        exact ⟨rfl, Below.refl _ _⟩
      · by_cases h3 : 2147483647 < p.size
        · go_enter Try.func4, Try.ntmps4
          go_wp2
          go_ret
          exact ⟨rfl, Below.refl _ _⟩
        · go_enter Try.func4, Try.ntmps4
          go_wp2_with fail
          refine (HT.out _ _ _ b.size t.size r.size p.size (IntsR.lit4 _ _ _ _ _ _ _) (by simp; omega)).mono ?_
          rintro e w' ⟨rfl, rfl⟩
          have hsum : sumI [(b.size : Int), (t.size : Int), (r.size : Int), (p.size : Int)] = (b.size : Int) + t.size + r.size + p.size := by simp [sumI]; omega
          by_cases hbig : 1000000 < b.size + t.size + r.size + p.size
          · have hd : decide (1000000 < sumI [(b.size : Int), (t.size : Int), (r.size : Int), (p.size : Int)]) = true := by rw [hsum]; simp; omega
            rw [hd]
            clear hd hsum
            go_wp2
            go_ret
            exact ⟨rfl, (Below.refl _ _).alloc (Nat.le_refl _) _⟩
          · have hd : decide (1000000 < sumI [(b.size : Int), (t.size : Int), (r.size : Int), (p.size : Int)]) = false := by rw [hsum]; simp; omega
            rw [hd]
            clear hd hsum
            have hap := apF_one b t r p
            have HAP := Lib.hid hap; clear hap
            have hL := edLit1 ((w.alloc (.cells #[.int .i64 (b.size : Int), .int .i64 (t.size : Int), .int .i64 (r.size : Int), .int .i64 (p.size : Int)] 3)).alloc (.cells #[.int .i64 (b.size : Int), .int .i64 ((b.size : Int) + t.size), .string p] 28)) 28 b.size ((b.size : Int) + t.size) p
            simp only [World.size_alloc] at hL
            have hval := validate_sorted (b ++ t ++ r) [⟨(b.size : Int), (b.size : Int) + t.size, p⟩] (by simp only [ByteArray.size_append]; omega) (by simp) (by simp [szE]; omega) rfl
            have himp := implApply_any (b ++ t ++ r) _ 1 [⟨(b.size : Int), (b.size : Int) + t.size, p⟩] _ _ hL (by simp only [ByteArray.size_append]; omega) (by simp) (by simp) (by simp [szE]; omega) hval
            have HIM := Lib.hid himp; clear himp hval hL
            go_wp2_with fail
            refine HIM.out.mono ?_
            rintro e w4 ⟨rfl, hb4⟩
            rw [HAP.out]
            have hb4' : Below w.heap.size w w4 := ((((Below.refl _ _).alloc (Nat.le_refl _) _).alloc (by simp) _).alloc (by simp; omega) _).trans (hb4.mono (by simp; omega))
            have HB4 := Lib.hid hb4'
            clear hb4 hb4'
            go_wp2
            go_ret
            exact ⟨rfl, HB4.out⟩
end Go.Proofs.Ytoceakjnkillkaa
