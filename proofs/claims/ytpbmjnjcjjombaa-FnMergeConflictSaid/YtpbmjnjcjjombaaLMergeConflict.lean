/-
  The walk of laws.FnMergeConflict: it returns true. No condition.
-/
import Derived.Test.YtpbmjnjcjjombaaLMergeAlone
namespace Go.Proofs.Ytpbmjnjcjjombaa
set_option linter.unusedVariables false
open Go.RowKit

theorem run_min2I {P : Program} (w : World) (t : TypeId) (a b n : Int) (h : n = min a b) :
   (Builtin.min_ #[t, t] t #[.int .i64 a, .int .i64 b]).run P w = .ok (.int .i64 n) w := by
  subst h
  simp only [Builtin.min_, List.foldlM, Builtin.min2]
  simp only [Sem.run_bind, Sem.run_pure, Result.andThen_ok]
  congr 2
  split <;> omega
theorem run_max2I {P : Program} (w : World) (t : TypeId) (a b n : Int) (h : n = max a b) :
   (Builtin.max_ #[t, t] t #[.int .i64 a, .int .i64 b]).run P w = .ok (.int .i64 n) w := by
  subst h
  simp only [Builtin.max_, List.foldlM, Builtin.max2]
  simp only [Sem.run_bind, Sem.run_pure, Result.andThen_ok]
  congr 2
  split <;> omega

theorem mg_conflict (s e : Int) (n n' : ByteArray) (h : s < e) :
    mg [⟨s, e, n⟩] [⟨s, e, n'⟩] [] = if (n.toList == n'.toList) = true then some [⟨s, e, n⟩] else none := by
  rw [mg_step]
  by_cases hn : n.toList = n'.toList
  · rw [if_pos (by simp [edEqB, hn]), if_pos (by simp [hn]), mg_end _ _ _ (.inl rfl)]
    rfl
  · rw [if_neg (by simp [edEqB, hn]), if_neg (by simp only; omega), if_neg (by simp only; omega), if_neg (by simp), if_neg (by simp), if_neg (by simp [hn])]

theorem szLit1 (w : World) (t : TypeId) (s e : Int) (n : ByteArray) : EdsR (w.alloc (.cells #[.int .i64 s, .int .i64 e, .string n] t)) (some ⟨w.heap.size, 0, none⟩) [⟨s, e, n⟩] := by
  have := cells_lit3 w t ⟨s, e, n⟩
  simpa [EdsR, edCells] using this

set_option maxHeartbeats 1000000 in
theorem FnMergeConflict_walk (a0 a1 : Int) (s2 s3 : ByteArray) (w : World) (wa : (Lit.int .i64 a0).wf = true) (wb : (Lit.int .i64 a1).wf = true) (l2 : s2.size ≤ maxLen) (l3 : s3.size ≤ maxLen) :
   Calls Try.prog 7 #[.int .i64 a0, .int .i64 a1, .string s2, .string s3] w fun e w' => e = .returned (.bool true) ∧ Below w.heap.size w w' := by
  clear wa wb
  unfold maxLen at l2 l3
  have ht := fun A c w' x y (h : IntsR .i64 w' A [x, y]) => tooLong_any A c [x, y] w' h (by simp)
  have HT := Lib.hid ht; clear ht
  obtain ⟨l, hln⟩ : ∃ n, s2.size = n := ⟨_, rfl⟩
  obtain ⟨m, hlm⟩ : ∃ n, s3.size = n := ⟨_, rfl⟩
  rw [hln] at l2
  rw [hlm] at l3
  have hl := hln
  have hm := hlm
  have LX := Lib.hid hln; clear hln
  have LY := Lib.hid hlm; clear hlm
  by_cases hb0 : 2147483647 < l
  · go_enter Try.func7, Try.ntmps7
    go_wp2
    go_ret
    exact ⟨rfl, Below.refl _ _⟩
  · by_cases hb1 : 2147483647 < m
    · go_enter Try.func7, Try.ntmps7
      go_wp2
      go_ret
      exact ⟨rfl, Below.refl _ _⟩
    · go_enter Try.func7, Try.ntmps7
      go_wp2_with fail
      refine (HT.out _ _ _ l m (IntsR.lit2 _ _ _ _ _) (by simp; omega)).mono ?_
      rintro e w' ⟨rfl, rfl⟩
      have hsum : sumI [(l : Int), (m : Int)] = (l : Int) + m := by simp [sumI]
      by_cases hbig : 1000000 < l + m
      · have hd : decide (1000000 < sumI [(l : Int), (m : Int)]) = true := by rw [hsum]; simp; omega
        rw [hd]
        clear hd hsum
        go_wp2
        go_ret
        exact ⟨rfl, (Below.refl _ _).alloc (Nat.le_refl _) _⟩
      · have hd : decide (1000000 < sumI [(l : Int), (m : Int)]) = false := by rw [hsum]; simp; omega
        rw [hd]
        clear hd hsum
        obtain ⟨p1, hp1⟩ : ∃ p, p = min a0 1000 := ⟨_, rfl⟩
        obtain ⟨s, hs⟩ : ∃ p, p = max 0 p1 := ⟨_, rfl⟩
        obtain ⟨p2, hp2⟩ : ∃ p, p = min a1 1000 := ⟨_, rfl⟩
        obtain ⟨k, hk⟩ : ∃ p, p = max 0 p2 := ⟨_, rfl⟩
        have r1 := fun w => run_min2I (P := Try.prog) w 3 a0 1000 p1 hp1
        have r2 := fun w => run_max2I (P := Try.prog) w 3 0 p1 s hs
        have r3 := fun w => run_min2I (P := Try.prog) w 3 a1 1000 p2 hp2
        have r4 := fun w => run_max2I (P := Try.prog) w 3 0 p2 k hk
        have b1 : 0 ≤ s := by omega
        have b2 : s ≤ 1000 := by omega
        have b3 : 0 ≤ k := by omega
        have b4 : k ≤ 1000 := by omega
        clear hp1 hs hp2 hk
        clear hl hm
        go_wp2_with fail
        have hL1 := EdsR.below (szLit1 (w.alloc (.cells #[.int .i64 (l : Int), .int .i64 (m : Int)] 3)) 41 s (s + (1 + k)) s2) ((Below.refl _ _).alloc (Nat.le_refl _) (.cells #[.int .i64 s, .int .i64 (s + (1 + k)), .string s3] 41)) (Nat.le_refl _)
        have hL2 := szLit1 ((w.alloc (.cells #[.int .i64 (l : Int), .int .i64 (m : Int)] 3)).alloc (.cells #[.int .i64 s, .int .i64 (s + (1 + k)), .string s2] 41)) 41 s (s + (1 + k)) s3
        simp only [World.size_alloc] at hL1 hL2
        have hM := implMerge_any _ _ 1 1 [⟨s, s + (1 + k), s2⟩] [⟨s, s + (1 + k), s3⟩] _ hL1 hL2 (by simp) (by simp)
        rw [mg_conflict _ _ _ _ (by omega)] at hM
        have HM := Lib.hid hM; clear hM hL1 hL2
        refine HM.out.mono ?_
        rintro e w4 ⟨A4, c4, rfl, ho4, hb4⟩
        have hb4' : Below w.heap.size w w4 := ((((Below.refl _ _).alloc (Nat.le_refl _) _).alloc (by simp) _).alloc (by simp; omega) _).trans (hb4.mono (by simp; omega))
        have HB4 := Lib.hid hb4'
        clear hb4 hb4' ho4 HM
        have hM0 := implMerge_any none none 0 0 [] [] w4 (.inl rfl) (.inl rfl) (by simp) (by simp)
        have HM0 := Lib.hid hM0
        rw [mg_nil_left] at HM0
        clear hM0
        cases hq : (s2.toList == s3.toList)
        · simp only [Bool.false_eq_true, if_false, Option.getD_none, Option.isSome_none, List.length_nil]
          go_wp2_with fail
          refine HM0.out.mono ?_
          rintro e w5 ⟨A5, c5, rfl, ho5, hb5⟩
          have hb5' := HB4.out.trans (hb5.mono HB4.out.size)
          have HB5 := Lib.hid hb5'
          clear hb5 hb5' HM0
          go_wp2
          go_ret
          exact ⟨rfl, HB5.out⟩
        · simp only [if_true, Option.getD_some, Option.isSome_some]
          go_wp2_with fail
          refine HM0.out.mono ?_
          rintro e w5 ⟨A5, c5, rfl, ho5, hb5⟩
          have hb5' := HB4.out.trans (hb5.mono HB4.out.size)
          have HB5 := Lib.hid hb5'
          clear hb5 hb5' HM0
          go_wp2
          go_ret
          exact ⟨rfl, HB5.out⟩
end Go.Proofs.Ytpbmjnjcjjombaa
