/-
  The walk of laws.FnMergeApplies over a contract of impl.Lines.
-/
import Derived.Test.YtgjbagojcbondaaGreatLinesA
import Derived.Test.YtgjbagojcbondaaGreatMrgE
namespace Go.Proofs.YtgjbagojcbondaaGreat
set_option linter.unusedVariables false
open Go.RowKit

theorem IntsR.lit3M (kd : IntKind) (w : World) (t : TypeId) (x y z : Int) : IntsR kd (w.alloc (.cells #[.int kd x, .int kd y, .int kd z] t)) (some ⟨w.heap.size, 0, none⟩) [x, y, z] := by
  refine .inr ⟨_, _, rfl, fun j v hu => ?_⟩
  have := (Blk.new w t #[.int kd x, .int kd y, .int kd z]).cell (0 + j)
  rw [this]
  simpa [intCells] using hu
theorem LinesP.fine {s t : ByteArray} {es : List Ed} (h : LinesP s t es) : szE es ≤ t.size + es.length ∧ es.length ≤ s.size + 1 ∧ es.length ≤ t.size + 1 := by
  obtain ⟨ps, h1, h2, rfl⟩ := h
  obtain ⟨k, hk⟩ := lead_chain h1
  have h3 := lead_szE (P := linesF s) (Q := linesF t) hk
  have t2 := linesF_tot t
  rw [List.drop_zero, t2] at h3
  rw [edsOf_len]
  have l1 := linesF_len s
  have l2 := linesF_len t
  have h4 := ch_len h1
  have h5 := diffs_len (linesF s).length (linesF t).length ps 0 0
  exact ⟨h3, by omega, by omega⟩
theorem merged_ok {s : ByteArray} {xs ys : List Ed} {m : Nat} (hx : inOrderF s.size 0 xs = true) (hy : inOrderF s.size 0 ys = true) (hz : szE xs + szE ys + 2 * (xs.length + ys.length) + 1 ≤ 4000000) (hl : 2 * (xs.length + ys.length) + 1 ≤ 2000000) :
    inOrderF s.size 0 ((mg xs ys []).getD []) = true ∧ szE ((mg xs ys []).getD []) ≤ 4000000 ∧ ((mg xs ys []).getD []).length ≤ 2000000 := by
  cases h : mg xs ys [] with
  | none => exact ⟨rfl, by simp [szE], by simp⟩
  | some r =>
    have h1 := mg_in_order h hx hy
    have h2 := mg_len' h
    exact ⟨h1.1, by have := h1.2; simp only [Option.getD_some]; omega, by simp only [Option.getD_some]; omega⟩
theorem inOrder_l {s : ByteArray} {es : List Ed} {c : Nat} (h1 : inOrderF s.size 0 es = true) (h4 : es.length ≤ 2000000) (A : Option Addr) (w : World) (hr : EdsR w A es) :
    Calls Tryz.prog 13 #[.slice A es.length c, .int .i64 s.size] w fun e w' => e = .returned (.bool true) ∧ Below w.heap.size w w' := by
  refine (inOrder_any A c es s.size w hr (by omega)).mono ?_
  rintro e w' ⟨he, hb⟩
  rw [h1] at he
  exact ⟨he, hb⟩
theorem merge_nil (w : World) : Calls Tryz.prog 12 #[.slice none 0 0, .slice none 0 0] w fun e w' => (∃ A c, e = .returned (.tuple #[.slice A 0 c, .bool true])) ∧ Below w.heap.size w w' := by
  refine (implMerge_any none none 0 0 [] [] w (.inl rfl) (.inl rfl) (by simp) (by simp)).mono ?_
  rintro e w' ⟨A, c, he, ho, hb⟩
  rw [mg_end _ _ _ (.inl rfl)] at he
  exact ⟨⟨A, c, he⟩, hb⟩
set_option maxRecDepth 100000 in
set_option maxHeartbeats 1000000 in
theorem FnMergeApplies_walk0 (hli : ∀ s t W, s.size ≤ 1000000 → t.size ≤ 1000000 → Calls Tryz.prog 11 #[.string s, .string t] W (EdsOutI (LinesP s t) W)) (s0 s1 s2 : ByteArray) (w : World) (ws0 : s0.size ≤ maxLen) (ws1 : s1.size ≤ maxLen) (ws2 : s2.size ≤ maxLen) :
   Calls Tryz.prog 5 #[.string s0, .string s1, .string s2] w fun e w' => e = .returned (.bool true) ∧ Below w.heap.size w w' := by
  have ht := fun A c w' x y z (h : IntsR .i64 w' A [x, y, z]) => tooLong_any A c [x, y, z] w' h (by simp)
  have HT := Lib.hid ht; clear ht
  unfold EdsOutI at hli
  have hl1 := fun W (g0 : s0.size ≤ 1000000) (g1 : s1.size ≤ 1000000) => hli s0 s1 W g0 g1
  have hl2 := fun W (g0 : s0.size ≤ 1000000) (g1 : s2.size ≤ 1000000) => hli s0 s2 W g0 g1
  have HL1 := Lib.hid hl1; have HL2 := Lib.hid hl2; clear hl1 hl2 hli
  have HM := Lib.hid (fun A B c d xs ys W hx hy hl hm => implMerge_any A B c d xs ys W hx hy hl hm)
  unfold MergeOut at HM
  have HN := Lib.hid merge_nil
  unfold maxLen at ws0 ws1 ws2
  by_cases hb0 : (2147483647 : Int) < (s0.size : Int)
  · go_enter Tryz.func5, Tryz.ntmps5
    go_wp2
    go_ret
    exact ⟨rfl, Below.refl _ _⟩
  · by_cases hb1 : (2147483647 : Int) < (s1.size : Int)
    · go_enter Tryz.func5, Tryz.ntmps5
      go_wp2
      go_ret
      exact ⟨rfl, Below.refl _ _⟩
    · by_cases hb2 : (2147483647 : Int) < (s2.size : Int)
      · go_enter Tryz.func5, Tryz.ntmps5
        go_wp2
        go_ret
        exact ⟨rfl, Below.refl _ _⟩
      · go_enter Tryz.func5, Tryz.ntmps5
        go_wp2_with fail
        refine (HT.out _ _ _ s0.size s1.size s2.size (IntsR.lit3M _ _ _ _ _ _) (by simp; omega)).mono ?_
        rintro e w3 ⟨rfl, rfl⟩
        have hsum : sumI [(s0.size : Int), (s1.size : Int), (s2.size : Int)] = (s0.size : Int) + s1.size + s2.size := by simp [sumI]; omega
        by_cases hbig : 1000000 < (s0.size : Int) + s1.size + s2.size
        · have hd : decide (1000000 < sumI [(s0.size : Int), (s1.size : Int), (s2.size : Int)]) = true := by rw [hsum]; simp; omega
          rw [hd]
          clear hd hsum
          go_wp2
          go_ret
          exact ⟨rfl, (Below.refl _ _).alloc (Nat.le_refl _) _⟩
        · have hd : decide (1000000 < sumI [(s0.size : Int), (s1.size : Int), (s2.size : Int)]) = false := by rw [hsum]; simp; omega
          rw [hd]
          have HB1 := Lib.hid ((Below.refl w.heap.size w).alloc (Nat.le_refl _) (.cells #[.int .i64 (s0.size : Int), .int .i64 (s1.size : Int), .int .i64 (s2.size : Int)] 3))
          clear hd hsum
          have g0 : s0.size ≤ 1000000 := by omega
          have g1 : s1.size ≤ 1000000 := by omega
          have g2 : s2.size ≤ 1000000 := by omega
          have gs : s0.size + s1.size + s2.size ≤ 1000000 := by omega
          clear hbig
          go_wp2_with fail
          refine (HL1.out _ g0 g1).mono ?_
          rintro e w4 ⟨xs, A, c, rfl, hr, hc, hb, hp⟩
          have HB4 := Lib.hid (HB1.out.trans (hb.mono HB1.out.size))
          have HR := Lib.hid hr; have HP := Lib.hid hp
          have hxl := hp.fine
          clear hr hb hp hc
          obtain ⟨lx, hlx⟩ : ∃ n, xs.length = n := ⟨_, rfl⟩
          rw [hlx] at hxl ⊢
          have HLX := Lib.hid hlx; clear hlx
          go_wp2_with fail
          refine (HL2.out _ g0 g2).mono ?_
          rintro e w5 ⟨ys, B, d, rfl, hr2, hc2, hb2', hp2⟩
          have HB5 := Lib.hid (HB4.out.trans (hb2'.mono HB4.out.size))
          have hyl := hp2.fine
          have hm := merged_ok (m := 0) (HP.out.ed g0 g1).order (hp2.ed g0 g2).order (by rw [HLX.out]; omega) (by rw [HLX.out]; omega)
          have hmm := HM.out A B c d xs ys w5 (EdsR.below HR.out hb2' (Nat.le_refl _)) hr2 (by rw [HLX.out]; omega) (by omega)
          obtain ⟨ly, hly⟩ : ∃ n, ys.length = n := ⟨_, rfl⟩
          rw [HLX.out, hly] at hmm
          rw [hly]
          generalize hR : mg xs ys [] = R at *
          have HMM := Lib.hid hmm
          clear hmm hr2 hc2 hb2' hp2 hyl hxl hly hR
          go_wp2_with fail
          refine HMM.out.mono ?_
          rintro e w6 ⟨C, f, rfl, ho, hb6⟩
          have HB6 := Lib.hid (HB5.out.trans (hb6.mono HB5.out.size))
          have hrr : EdsR w6 C (R.getD []) := CellsR.of_own ho
          generalize hok : R.isSome = ok at *
          generalize R.getD [] = r at *
          clear ho hb6 hok
          obtain ⟨hm1, hm2, hm3⟩ := hm
          have HAP := Lib.hid (fun W (hW : Below w6.heap.size w6 W) => apply_ed (c := f) hm1 rfl hm2 hm3 (by omega) C W (EdsR.below hrr hW (Nat.le_refl _)))
          have HIO := Lib.hid (fun W (hW : Below w6.heap.size w6 W) => inOrder_l (c := f) hm1 hm3 C W (EdsR.below hrr hW (Nat.le_refl _)))
          clear hm1 hm2 hm3 hrr
          generalize patchB s0 0 r = pb at *
          generalize r.length = n at *
          go_wp2_with fail
          refine (HN.out _).mono ?_
          rintro e w7 ⟨⟨D, g, rfl⟩, hb7⟩
          have HB7 := Lib.hid hb7; clear hb7
          go_wp2_with fail
          refine (HAP.out _ HB7.out).mono ?_
          rintro e w8 ⟨rfl, hb8⟩
          have HB8 := Lib.hid (HB7.out.trans (hb8.mono HB7.out.size)); clear hb8
          cases ok
          · go_wp2
            go_ret
            exact ⟨rfl, HB6.out.trans (HB8.out.mono HB6.out.size)⟩
          · go_wp2_with fail
            refine (HIO.out _ HB8.out).mono ?_
            rintro e w9 ⟨rfl, hb9⟩
            have HB9 := Lib.hid (HB8.out.trans (hb9.mono HB8.out.size)); clear hb9
            go_wp2
            go_ret
            exact ⟨rfl, HB6.out.trans (HB9.out.mono HB6.out.size)⟩
end Go.Proofs.YtgjbagojcbondaaGreat
