/-
  The walk of laws.FnMergeInsertions: it returns true. No condition.
-/
import Derived.Test.YtoceakjnkillkaaLApplyInsertions
import Derived.Test.YtoceakjnkillkaaImplM
import Derived.Test.YtoceakjnkillkaaLApplyOne
namespace Go.Proofs.Ytoceakjnkillkaa
set_option linter.unusedVariables false
open Go.RowKit Go.Shelf

theorem mg_insertions (a : Nat) (n n' : ByteArray) :
    mg (insL a [n]) (insL a [n']) [] = some (insL a (if (n.toList == n'.toList) = true then [n] else [n, n'])) := by
  show mg [⟨a, a, n⟩] [⟨a, a, n'⟩] [] = _
  rw [mg_step]
  by_cases hn : n.toList = n'.toList
  · rw [if_pos (by simp [edEqB, hn]), if_pos (by simp [hn]), mg_end _ _ _ (.inl rfl)]
    rfl
  · rw [if_neg (by simp [edEqB, hn]), if_pos (by simp only; omega), if_neg (by simp [hn]), mg_end _ _ _ (.inl rfl)]
    rfl

set_option maxHeartbeats 1000000 in
theorem FnMergeInsertions_walk (b r p q : ByteArray) (w : World) (l0 : b.size ≤ maxLen) (l1 : r.size ≤ maxLen) (l2 : p.size ≤ maxLen) (l3 : q.size ≤ maxLen) :
   Calls Try.prog 8 #[.string b, .string r, .string p, .string q] w fun e w' => e = .returned (.bool true) ∧ Below w.heap.size w w' := by
  unfold maxLen at l0 l1 l2 l3
  have ht := fun A c w' x y z u (h : IntsR .i64 w' A [x, y, z, u]) => tooLong_any A c [x, y, z, u] w' h (by simp)
  have HT := Lib.hid ht; clear ht
  by_cases h0 : 2147483647 < b.size
  · go_enter Try.func8, Try.ntmps8
    go_wp2
    go_ret
    exact ⟨rfl, Below.refl _ _⟩
  · by_cases h1 : 2147483647 < r.size
    · go_enter Try.func8, Try.ntmps8
      go_wp2
      go_ret
      exact ⟨rfl, Below.refl _ _⟩
    · by_cases h2 : 2147483647 < p.size
      · go_enter Try.func8, Try.ntmps8
        go_wp2
        go_ret
        exact ⟨rfl, Below.refl _ _⟩
      · by_cases h3 : 2147483647 < q.size
        · go_enter Try.func8, Try.ntmps8
          go_wp2
          go_ret
          exact ⟨rfl, Below.refl _ _⟩
        · go_enter Try.func8, Try.ntmps8
          go_wp2_with fail
          refine (HT.out _ _ _ b.size r.size p.size q.size (IntsR.lit4 _ _ _ _ _ _ _) (by simp; omega)).mono ?_
          rintro e w' ⟨rfl, rfl⟩
          have hsum : sumI [(b.size : Int), (r.size : Int), (p.size : Int), (q.size : Int)] = (b.size : Int) + r.size + p.size + q.size := by simp [sumI]; omega
          by_cases hbig : 1000000 < b.size + r.size + p.size + q.size
          · have hd : decide (1000000 < sumI [(b.size : Int), (r.size : Int), (p.size : Int), (q.size : Int)]) = true := by rw [hsum]; simp; omega
            rw [hd]
            clear hd hsum
            go_wp2
            go_ret
            exact ⟨rfl, (Below.refl _ _).alloc (Nat.le_refl _) _⟩
          · have hd : decide (1000000 < sumI [(b.size : Int), (r.size : Int), (p.size : Int), (q.size : Int)]) = false := by rw [hsum]; simp; omega
            rw [hd]
            clear hd hsum
            have hbw : Below w.heap.size w (w.alloc (.cells #[.int .i64 (b.size : Int), .int .i64 (r.size : Int), .int .i64 (p.size : Int), .int .i64 (q.size : Int)] 3)) := (Below.refl _ _).alloc (Nat.le_refl _) _
            generalize hW : w.alloc (.cells #[.int .i64 (b.size : Int), .int .i64 (r.size : Int), .int .i64 (p.size : Int), .int .i64 (q.size : Int)] 3) = W at *
            have hws := hbw.size
            have hL1 := EdsR.below (edLit1 W 28 b.size b.size p) ((Below.refl (W.alloc (.cells #[.int .i64 (b.size : Int), .int .i64 (b.size : Int), .string p] 28)).heap.size _).alloc (Nat.le_refl _) (.cells #[.int .i64 (b.size : Int), .int .i64 (b.size : Int), .string q] 28)) (Nat.le_refl _)
            have hL2 := edLit1 (W.alloc (.cells #[.int .i64 (b.size : Int), .int .i64 (b.size : Int), .string p] 28)) 28 b.size b.size q
            simp only [World.size_alloc] at hL2
            have hM := implMerge_any _ _ 1 1 (insL b.size [p]) (insL b.size [q]) _ hL1 hL2 (by simp [insL]) (by simp [insL])
            rw [mg_insertions] at hM
            have HM := Lib.hid hM; clear hM hL1 hL2
            go_wp2_with fail
            refine HM.out.mono ?_
            rintro e w4 ⟨A4, c4, rfl, ho4, hb4⟩
            simp only [Option.getD_some, Option.isSome_some, insL_len] at ho4 ⊢
            have hb4' : Below w.heap.size w w4 := hbw.trans ((((Below.refl _ _).alloc (Nat.le_refl _) _).alloc (by simp) _).trans (hb4.mono (by simp; omega)) |>.mono hws)
            have HB4 := Lib.hid hb4'
            clear hb4 hb4' HM
            cases hpq : (p.toList == q.toList) with
            | true =>
              rw [hpq] at ho4
              simp only [if_true, List.length_cons, List.length_nil] at ho4 ⊢
              have hap : apF (b ++ r) (insL b.size [p]) = some (b ++ p ++ r) := by
                rw [apF_ins]
                simp only [catB, ByteArray.append_empty]
              have hval := validate_sorted (b ++ r) (insL b.size [p]) (by simp only [ByteArray.size_append]; omega) (by simp [insL]) (by rw [insL_sz]; simp [szS]; omega) (insL_sorted _ _)
              have himp := implApply_any (b ++ r) A4 c4 (insL b.size [p]) (insL b.size [p]) w4 (CellsR.of_own ho4) (by simp only [ByteArray.size_append]; omega) (by simp [insL]) (by simp [insL]) (by rw [insL_sz]; simp [szS]; omega) hval
              unfold ImplApplyOut at himp
              rw [hap] at himp
              have HIM := Lib.hid himp; clear himp hval hap ho4
              go_wp2_with fail
              refine HIM.out.mono ?_
              rintro e w6 ⟨rfl, hb6⟩
              simp only [Option.getD_some, Option.isSome_some]
              have HB6 := Lib.hid (HB4.out.trans (hb6.mono HB4.out.size))
              clear hb6
              go_wp2
              go_ret
              exact ⟨rfl, HB6.out⟩
            | false =>
              rw [hpq] at ho4
              simp only [Bool.false_eq_true, if_false, List.length_cons, List.length_nil] at ho4 ⊢
              have hap : apF (b ++ r) (insL b.size [p, q]) = some (b ++ p ++ q ++ r) := by
                rw [apF_ins]
                simp only [catB, ByteArray.append_empty, ByteArray.append_assoc]
              have hval := validate_sorted (b ++ r) (insL b.size [p, q]) (by simp only [ByteArray.size_append]; omega) (by simp [insL]) (by rw [insL_sz]; simp [szS]; omega) (insL_sorted _ _)
              have himp := implApply_any (b ++ r) A4 c4 (insL b.size [p, q]) (insL b.size [p, q]) w4 (CellsR.of_own ho4) (by simp only [ByteArray.size_append]; omega) (by simp [insL]) (by simp [insL]) (by rw [insL_sz]; simp [szS]; omega) hval
              unfold ImplApplyOut at himp
              rw [hap] at himp
              have HIM := Lib.hid himp; clear himp hval hap ho4
              go_wp2_with fail
              refine HIM.out.mono ?_
              rintro e w6 ⟨rfl, hb6⟩
              simp only [Option.getD_some, Option.isSome_some]
              have HB6 := Lib.hid (HB4.out.trans (hb6.mono HB4.out.size))
              clear hb6
              go_wp2
              go_ret
              exact ⟨rfl, HB6.out⟩
end Go.Proofs.Ytoceakjnkillkaa
