/-
  impl.Apply over edits in their order, and the walk of laws.FnLinesApply over a contract of impl.Lines.
  The walk of laws.FnMergeApplies over a contract of impl.Lines.
  Edits of the two halves of a text, merged either way, make both changes. Plainly.
  The walk of spec.Moved.
  The walk of laws.FnMergeHalves over a contract of impl.Lines.
-/
import Derived.Test.YtgjbagojcbondaaGreatLinesI
import Derived.Test.YtgjbagojcbondaaGreatAplE
import Derived.Test.YtgjbagojcbondaaGreatMrgE
import Derived.Test.YtgjbagojcbondaaGreatTxtA
import Derived.Test.YtgjbagojcbondaaGreatTxtC
import Derived.IntWalk
namespace Go.Proofs.YtgjbagojcbondaaGreat
set_option linter.unusedVariables false
open Go.RowKit

theorem order_sorted {size : Int} (hs : size ≤ 2000000) : ∀ (es : List Ed) (at_ : Int), 0 ≤ at_ → inOrderF size at_ es = true → sortedW es = true := by
  intro es
  induction es with
  | nil => intros; rfl
  | cons x l ih =>
    intro at_ h0 h
    simp only [inOrderF, insideB, Bool.and_eq_true, decide_eq_true_eq] at h
    obtain ⟨⟨h1, h2⟩, h3⟩ := h
    have hl := ih x.e (by omega) h3
    cases l with
    | nil => rfl
    | cons y l =>
      simp only [inOrderF, insideB, Bool.and_eq_true, decide_eq_true_eq] at h3
      obtain ⟨⟨g1, g2⟩, g3⟩ := h3
      show (!lessW y x && sortedW (y :: l)) = true
      rw [hl, Bool.and_true]
      cases hw : lessW y x
      · rfl
      · have := (lessW_good (x := y) (y := x) ⟨by omega, by omega⟩ ⟨by omega, by omega⟩).1 hw
        omega
/-- what Apply makes of edits in order -/
theorem apply_ed {s t : ByteArray} {es : List Ed} {c : Nat} (h1 : inOrderF s.size 0 es = true) (h2 : patchB s 0 es = t) (h3 : szE es ≤ 4000000) (h4 : es.length ≤ 2000000) (hs : s.size ≤ 2000000) (A : Option Addr) (w : World) (hr : EdsR w A es) :
    Calls Tryz.prog 8 #[.string s, .slice A es.length c] w fun e w' => e = .returned (.tuple #[.string t, .bool true]) ∧ Below w.heap.size w w' := by
  refine (implApply_any s A c es es w hr hs h4 h4 h3 (validate_sorted s es hs h4 h3 (order_sorted (by omega) es 0 (by omega) h1))).mono ?_
  rintro e w' ⟨he, hb⟩
  unfold apF at he
  rw [if_pos h1, h2] at he
  exact ⟨he, hb⟩
set_option maxRecDepth 100000 in
set_option maxHeartbeats 1000000 in
theorem FnLinesApply_walk0 (hli : ∀ s t W, s.size ≤ 1000000 → t.size ≤ 1000000 → Calls Tryz.prog 11 #[.string s, .string t] W (EdsOutI (LinesP s t) W)) (s0 s1 : ByteArray) (w : World) (ws0 : s0.size ≤ maxLen) (ws1 : s1.size ≤ maxLen) :
   Calls Tryz.prog 4 #[.string s0, .string s1] w fun e w' => e = .returned (.bool true) ∧ Below w.heap.size w w' := by
  have ht := fun A c w' x y (h : IntsR .i64 w' A [x, y]) => tooLong_any A c [x, y] w' h (by simp)
  have HT := Lib.hid ht; clear ht
  unfold EdsOutI at hli
  have hl1 := fun W (g0 : s0.size ≤ 1000000) (g1 : s1.size ≤ 1000000) => hli s0 s1 W g0 g1
  have HL1 := Lib.hid hl1; clear hl1 hli
  unfold maxLen at ws0 ws1
  by_cases hb0 : (2147483647 : Int) < (s0.size : Int)
  · go_enter Tryz.func4, Tryz.ntmps4
    go_wp2
    go_ret
    exact ⟨rfl, Below.refl _ _⟩
  · by_cases hb1 : (2147483647 : Int) < (s1.size : Int)
    · go_enter Tryz.func4, Tryz.ntmps4
      go_wp2
      go_ret
      exact ⟨rfl, Below.refl _ _⟩
    · go_enter Tryz.func4, Tryz.ntmps4
      go_wp2_with fail
      refine (HT.out _ _ _ s0.size s1.size (IntsR.lit2 _ _ _ _ _) (by simp; omega)).mono ?_
      rintro e w3 ⟨rfl, rfl⟩
      have hsum : sumI [(s0.size : Int), (s1.size : Int)] = (s0.size : Int) + s1.size := by simp [sumI]
      by_cases hbig : 1000000 < (s0.size : Int) + s1.size
      · have hd : decide (1000000 < sumI [(s0.size : Int), (s1.size : Int)]) = true := by rw [hsum]; simp; omega
        rw [hd]
        clear hd hsum
        go_wp2
        go_ret
        exact ⟨rfl, (Below.refl _ _).alloc (Nat.le_refl _) _⟩
      · have hd : decide (1000000 < sumI [(s0.size : Int), (s1.size : Int)]) = false := by rw [hsum]; simp; omega
        rw [hd]
        have HB1 := Lib.hid ((Below.refl w.heap.size w).alloc (Nat.le_refl _) (.cells #[.int .i64 (s0.size : Int), .int .i64 (s1.size : Int)] 3))
        clear hd hsum
        have g0 : s0.size ≤ 1000000 := by omega
        have g1 : s1.size ≤ 1000000 := by omega
        clear hbig
        go_wp2_with fail
        refine (HL1.out _ g0 g1).mono ?_
        rintro e w4 ⟨es, A, c, rfl, hr, hc, hb, hp⟩
        have hed := hp.ed g0 g1
        have HB4 := Lib.hid (HB1.out.trans (hb.mono HB1.out.size))
        have HA := Lib.hid (apply_ed (c := c) hed.order hed.patch hed.size hed.len (by omega) A w4 hr)
        clear hed hp hr hc hb
        generalize es.length = n at *
        go_wp2_with fail
        refine HA.out.mono ?_
        rintro e w5 ⟨rfl, hb5⟩
        have HB5 := Lib.hid (HB4.out.trans (hb5.mono HB4.out.size)); clear hb5
        have heq : (s1.toList == s1.toList) = true := by simp
        go_wp2
        go_ret
        exact ⟨rfl, HB5.out⟩
end Go.Proofs.YtgjbagojcbondaaGreat

namespace Go.Proofs.YtgjbagojcbondaaGreat
set_option linter.unusedVariables false
open Go.RowKit

theorem IntsR.lit3M (kd : IntKind) (w : World) (t : TypeId) (x y z : Int) : IntsR kd (w.alloc (.cells #[.int kd x, .int kd y, .int kd z] t)) (some ⟨w.heap.size, 0, none⟩) [x, y, z] := by
  refine .inr ⟨_, _, rfl, fun j v hu => ?_⟩
  have := (Blk.new w t #[.int kd x, .int kd y, .int kd z]).cell (0 + j)
  rw [this]
  simpa [intCells] using hu
theorem LinesP.fine {s t : ByteArray} {es : List Ed} (h : LinesP s t es) : szE es ≤ t.size + es.length ∧ es.length ≤ s.size + 1 ∧ es.length ≤ t.size + 1 := by
  obtain ⟨ps, h1, h2, rfl⟩ := h
  obtain ⟨k, hk⟩ := lead_chain h1
  have h3 := lead_szE (P := linesF s) (Q := linesF t) hk
  have t2 := linesF_tot t
  rw [List.drop_zero, t2] at h3
  rw [edsOf_len]
  have l1 := linesF_len s
  have l2 := linesF_len t
  have h4 := ch_len h1
  have h5 := diffs_len (linesF s).length (linesF t).length ps 0 0
  exact ⟨h3, by omega, by omega⟩
theorem merged_ok {s : ByteArray} {xs ys : List Ed} {m : Nat} (hx : inOrderF s.size 0 xs = true) (hy : inOrderF s.size 0 ys = true) (hz : szE xs + szE ys + 2 * (xs.length + ys.length) + 1 ≤ 4000000) (hl : 2 * (xs.length + ys.length) + 1 ≤ 2000000) :
    inOrderF s.size 0 ((mg xs ys []).getD []) = true ∧ szE ((mg xs ys []).getD []) ≤ 4000000 ∧ ((mg xs ys []).getD []).length ≤ 2000000 := by
  cases h : mg xs ys [] with
  | none => exact ⟨rfl, by simp [szE], by simp⟩
  | some r =>
    have h1 := mg_in_order h hx hy
    have h2 := mg_len' h
    exact ⟨h1.1, by have := h1.2; simp only [Option.getD_some]; omega, by simp only [Option.getD_some]; omega⟩
theorem inOrder_l {s : ByteArray} {es : List Ed} {c : Nat} (h1 : inOrderF s.size 0 es = true) (h4 : es.length ≤ 2000000) (A : Option Addr) (w : World) (hr : EdsR w A es) :
    Calls Tryz.prog 13 #[.slice A es.length c, .int .i64 s.size] w fun e w' => e = .returned (.bool true) ∧ Below w.heap.size w w' := by
  refine (inOrder_any A c es s.size w hr (by omega)).mono ?_
  rintro e w' ⟨he, hb⟩
  rw [h1] at he
  exact ⟨he, hb⟩
theorem merge_nil (w : World) : Calls Tryz.prog 12 #[.slice none 0 0, .slice none 0 0] w fun e w' => (∃ A c, e = .returned (.tuple #[.slice A 0 c, .bool true])) ∧ Below w.heap.size w w' := by
  refine (implMerge_any none none 0 0 [] [] w (.inl rfl) (.inl rfl) (by simp) (by simp)).mono ?_
  rintro e w' ⟨A, c, he, ho, hb⟩
  rw [mg_end _ _ _ (.inl rfl)] at he
  exact ⟨⟨A, c, he⟩, hb⟩
set_option maxRecDepth 100000 in
set_option maxHeartbeats 1000000 in
theorem FnMergeApplies_walk0 (hli : ∀ s t W, s.size ≤ 1000000 → t.size ≤ 1000000 → Calls Tryz.prog 11 #[.string s, .string t] W (EdsOutI (LinesP s t) W)) (s0 s1 s2 : ByteArray) (w : World) (ws0 : s0.size ≤ maxLen) (ws1 : s1.size ≤ maxLen) (ws2 : s2.size ≤ maxLen) :
   Calls Tryz.prog 5 #[.string s0, .string s1, .string s2] w fun e w' => e = .returned (.bool true) ∧ Below w.heap.size w w' := by
  have ht := fun A c w' x y z (h : IntsR .i64 w' A [x, y, z]) => tooLong_any A c [x, y, z] w' h (by simp)
  have HT := Lib.hid ht; clear ht
  unfold EdsOutI at hli
  have hl1 := fun W (g0 : s0.size ≤ 1000000) (g1 : s1.size ≤ 1000000) => hli s0 s1 W g0 g1
  have hl2 := fun W (g0 : s0.size ≤ 1000000) (g1 : s2.size ≤ 1000000) => hli s0 s2 W g0 g1
  have HL1 := Lib.hid hl1; have HL2 := Lib.hid hl2; clear hl1 hl2 hli
  have HM := Lib.hid (fun A B c d xs ys W hx hy hl hm => implMerge_any A B c d xs ys W hx hy hl hm)
  unfold MergeOut at HM
  have HN := Lib.hid merge_nil
  unfold maxLen at ws0 ws1 ws2
  by_cases hb0 : (2147483647 : Int) < (s0.size : Int)
  · go_enter Tryz.func5, Tryz.ntmps5
    go_wp2
    go_ret
    exact ⟨rfl, Below.refl _ _⟩
  · by_cases hb1 : (2147483647 : Int) < (s1.size : Int)
    · go_enter Tryz.func5, Tryz.ntmps5
      go_wp2
      go_ret
      exact ⟨rfl, Below.refl _ _⟩
    · by_cases hb2 : (2147483647 : Int) < (s2.size : Int)
      · go_enter Tryz.func5, Tryz.ntmps5
        go_wp2
        go_ret
        exact ⟨rfl, Below.refl _ _⟩
      · go_enter Tryz.func5, Tryz.ntmps5
        go_wp2_with fail
        refine (HT.out _ _ _ s0.size s1.size s2.size (IntsR.lit3M _ _ _ _ _ _) (by simp; omega)).mono ?_
        rintro e w3 ⟨rfl, rfl⟩
        have hsum : sumI [(s0.size : Int), (s1.size : Int), (s2.size : Int)] = (s0.size : Int) + s1.size + s2.size := by simp [sumI]; omega
        by_cases hbig : 1000000 < (s0.size : Int) + s1.size + s2.size
        · have hd : decide (1000000 < sumI [(s0.size : Int), (s1.size : Int), (s2.size : Int)]) = true := by rw [hsum]; simp; omega
          rw [hd]
          clear hd hsum
          go_wp2
          go_ret
          exact ⟨rfl, (Below.refl _ _).alloc (Nat.le_refl _) _⟩
        · have hd : decide (1000000 < sumI [(s0.size : Int), (s1.size : Int), (s2.size : Int)]) = false := by rw [hsum]; simp; omega
          rw [hd]
          have HB1 := Lib.hid ((Below.refl w.heap.size w).alloc (Nat.le_refl _) (.cells #[.int .i64 (s0.size : Int), .int .i64 (s1.size : Int), .int .i64 (s2.size : Int)] 3))
          clear hd hsum
          have g0 : s0.size ≤ 1000000 := by omega
          have g1 : s1.size ≤ 1000000 := by omega
          have g2 : s2.size ≤ 1000000 := by omega
          have gs : s0.size + s1.size + s2.size ≤ 1000000 := by omega
          clear hbig
          go_wp2_with fail
          refine (HL1.out _ g0 g1).mono ?_
          rintro e w4 ⟨xs, A, c, rfl, hr, hc, hb, hp⟩
          have HB4 := Lib.hid (HB1.out.trans (hb.mono HB1.out.size))
          have HR := Lib.hid hr; have HP := Lib.hid hp
          have hxl := hp.fine
          clear hr hb hp hc
          obtain ⟨lx, hlx⟩ : ∃ n, xs.length = n := ⟨_, rfl⟩
          rw [hlx] at hxl ⊢
          have HLX := Lib.hid hlx; clear hlx
          go_wp2_with fail
          refine (HL2.out _ g0 g2).mono ?_
          rintro e w5 ⟨ys, B, d, rfl, hr2, hc2, hb2', hp2⟩
          have HB5 := Lib.hid (HB4.out.trans (hb2'.mono HB4.out.size))
          have hyl := hp2.fine
          have hm := merged_ok (m := 0) (HP.out.ed g0 g1).order (hp2.ed g0 g2).order (by rw [HLX.out]; omega) (by rw [HLX.out]; omega)
          have hmm := HM.out A B c d xs ys w5 (EdsR.below HR.out hb2' (Nat.le_refl _)) hr2 (by rw [HLX.out]; omega) (by omega)
          obtain ⟨ly, hly⟩ : ∃ n, ys.length = n := ⟨_, rfl⟩
          rw [HLX.out, hly] at hmm
          rw [hly]
          generalize hR : mg xs ys [] = R at *
          have HMM := Lib.hid hmm
          clear hmm hr2 hc2 hb2' hp2 hyl hxl hly hR
          go_wp2_with fail
          refine HMM.out.mono ?_
          rintro e w6 ⟨C, f, rfl, ho, hb6⟩
          have HB6 := Lib.hid (HB5.out.trans (hb6.mono HB5.out.size))
          have hrr : EdsR w6 C (R.getD []) := CellsR.of_own ho
          generalize hok : R.isSome = ok at *
          generalize R.getD [] = r at *
          clear ho hb6 hok
          obtain ⟨hm1, hm2, hm3⟩ := hm
          have HAP := Lib.hid (fun W (hW : Below w6.heap.size w6 W) => apply_ed (c := f) hm1 rfl hm2 hm3 (by omega) C W (EdsR.below hrr hW (Nat.le_refl _)))
          have HIO := Lib.hid (fun W (hW : Below w6.heap.size w6 W) => inOrder_l (c := f) hm1 hm3 C W (EdsR.below hrr hW (Nat.le_refl _)))
          clear hm1 hm2 hm3 hrr
          generalize patchB s0 0 r = pb at *
          generalize r.length = n at *
          go_wp2_with fail
          refine (HN.out _).mono ?_
          rintro e w7 ⟨⟨D, g, rfl⟩, hb7⟩
          have HB7 := Lib.hid hb7; clear hb7
          go_wp2_with fail
          refine (HAP.out _ HB7.out).mono ?_
          rintro e w8 ⟨rfl, hb8⟩
          have HB8 := Lib.hid (HB7.out.trans (hb8.mono HB7.out.size)); clear hb8
          cases ok
          · go_wp2
            go_ret
            exact ⟨rfl, HB6.out.trans (HB8.out.mono HB6.out.size)⟩
          · go_wp2_with fail
            refine (HIO.out _ HB8.out).mono ?_
            rintro e w9 ⟨rfl, hb9⟩
            have HB9 := Lib.hid (HB8.out.trans (hb9.mono HB8.out.size)); clear hb9
            go_wp2
            go_ret
            exact ⟨rfl, HB6.out.trans (HB9.out.mono HB6.out.size)⟩
end Go.Proofs.YtgjbagojcbondaaGreat

namespace Go.Proofs.YtgjbagojcbondaaGreat
set_option linter.unusedVariables false

/-- edits so many bytes farther on -/
def mvE (by_ : Int) (es : List Ed) : List Ed := es.map fun x => ⟨x.s + by_, x.e + by_, x.n⟩
theorem mvE_len (d : Int) (es : List Ed) : (mvE d es).length = es.length := by simp [mvE]
theorem mvE_sz (d : Int) (es : List Ed) : szE (mvE d es) = szE es := by
  induction es with
  | nil => rfl
  | cons x l ih => simp only [mvE, List.map_cons, szE] at ih ⊢; omega
theorem mvE_order {N d T : Int} (hT : N + d ≤ T) (hd : 0 ≤ d) : ∀ {es : List Ed} {at_ : Int}, inOrderF N at_ es = true → inOrderF T (at_ + d) (mvE d es) = true := by
  intro es
  induction es with
  | nil => intros; rfl
  | cons x l ih =>
    intro at_ h
    obtain ⟨h1, h2, h3⟩ := inOrder_c.1 h
    show inOrderF T (at_ + d) (⟨x.s + d, x.e + d, x.n⟩ :: mvE d l) = true
    exact inOrder_c.2 ⟨⟨by simp only; omega, by simp only; omega, by simp only; omega⟩, by simp only; omega, ih h3⟩
/-- all before, then all behind -/
theorem mg_apart {F : Int} : ∀ (xs ys acc : List Ed), (∀ x ∈ xs, x.s ≤ x.e ∧ x.e ≤ F) → (∀ y ∈ ys, F < y.s ∧ y.s ≤ y.e) → mg xs ys acc = some (acc ++ xs ++ ys) := by
  intro xs
  induction xs with
  | nil => intro ys acc _ _; exact mg_end _ _ _ (.inl rfl)
  | cons x xs ih =>
    intro ys acc hx hy
    cases ys with
    | nil => exact mg_end _ _ _ (.inr rfl)
    | cons y ys =>
      have h1 := hx x (by simp)
      have h2 := hy y (by simp)
      rw [mg_step, if_neg (by unfold edEqB; simp only [Bool.and_eq_true, beq_iff_eq]; omega), if_pos (by omega), ih _ _ (fun a ha => hx a (by simp [ha])) hy]
      simp
theorem mg_apart2 {F : Int} : ∀ (xs ys acc : List Ed), (∀ x ∈ xs, x.s ≤ x.e ∧ x.e ≤ F) → (∀ y ∈ ys, F < y.s ∧ y.s ≤ y.e) → mg ys xs acc = some (acc ++ xs ++ ys) := by
  intro xs
  induction xs with
  | nil => intro ys acc _ _; rw [mg_end _ _ _ (.inr rfl)]; simp
  | cons x xs ih =>
    intro ys acc hx hy
    cases ys with
    | nil => rw [mg_end _ _ _ (.inl rfl)]; simp
    | cons y ys =>
      have h1 := hx x (by simp)
      have h2 := hy y (by simp)
      rw [mg_step, if_neg (by unfold edEqB; simp only [Bool.and_eq_true, beq_iff_eq]; omega), if_neg (by omega), if_pos (by omega), ih _ _ (fun a ha => hx a (by simp [ha])) hy]
      simp
theorem extract_left (a b : ByteArray) (i j : Nat) (h : j ≤ a.size) : (a ++ b).extract i j = a.extract i j := by
  rw [ByteArray.extract_append]
  have : b.extract (i - a.size) (j - a.size) = ByteArray.empty := by
    rw [show j - a.size = 0 by omega]
    apply ByteArray.size_eq_zero_iff.1
    rw [ByteArray.size_extract]; omega
  rw [this, ByteArray.append_empty]
theorem extract_right (a b : ByteArray) (i j : Nat) : (a ++ b).extract (a.size + i) (a.size + j) = b.extract i j := by
  rw [ByteArray.extract_append]
  have : a.extract (a.size + i) (a.size + j) = ByteArray.empty := by
    apply ByteArray.size_eq_zero_iff.1
    rw [ByteArray.size_extract]; omega
  rw [this, ByteArray.empty_append, Nat.add_sub_cancel_left, Nat.add_sub_cancel_left]
/-- the second half -/
theorem patchB_right (p g : ByteArray) : ∀ (es : List Ed) (at_ : Nat), inOrderF g.size at_ es = true → patchB (p ++ g) (p.size + at_) (mvE p.size es) = patchB g at_ es := by
  intro es
  induction es with
  | nil =>
    intro at_ _
    show (p ++ g).extract (p.size + at_) (p ++ g).size = g.extract at_ g.size
    rw [ByteArray.size_append, extract_right]
  | cons x l ih =>
    intro at_ h
    obtain ⟨h1, h2, h3⟩ := inOrder_c.1 h
    show (p ++ g).extract (p.size + at_) (x.s + (p.size : Int)).toNat ++ x.n ++ patchB (p ++ g) (x.e + (p.size : Int)).toNat (mvE p.size l) = g.extract at_ x.s.toNat ++ x.n ++ patchB g x.e.toNat l
    rw [show (x.s + (p.size : Int)).toNat = p.size + x.s.toNat by omega, show (x.e + (p.size : Int)).toNat = p.size + x.e.toNat by omega, extract_right, ih x.e.toNat (by rw [Int.toNat_of_nonneg (by omega)]; exact h3)]
/-- from an earlier place on -/
theorem patchB_from (s : ByteArray) (a b : Nat) (es : List Ed) (h : a ≤ b) (hb : b ≤ s.size) (he : ∀ x ∈ es, (b : Int) ≤ x.s) : patchB s a es = s.extract a b ++ patchB s b es := by
  cases es with
  | nil =>
    show s.extract a s.size = s.extract a b ++ s.extract b s.size
    rw [ByteArray.extract_append_extract, Nat.min_eq_left h, Nat.max_eq_right hb]
  | cons x l =>
    have := he x (by simp)
    show s.extract a x.s.toNat ++ x.n ++ patchB s x.e.toNat l = s.extract a b ++ (s.extract b x.s.toNat ++ x.n ++ patchB s x.e.toNat l)
    rw [← ByteArray.append_assoc, ← ByteArray.append_assoc, ByteArray.extract_append_extract, Nat.min_eq_left h, Nat.max_eq_right (by omega)]
/-- the first half -/
theorem patchB_left (f r : ByteArray) (ys : List Ed) (hy : ∀ y ∈ ys, (f.size : Int) ≤ y.s) : ∀ (xs : List Ed) (at_ : Nat), at_ ≤ f.size → inOrderF f.size at_ xs = true → patchB (f ++ r) at_ (xs ++ ys) = patchB f at_ xs ++ patchB (f ++ r) f.size ys := by
  intro xs
  induction xs with
  | nil =>
    intro at_ h _
    rw [List.nil_append, patchB_from _ _ _ _ h (by rw [ByteArray.size_append]; omega) hy, extract_left _ _ _ _ (Nat.le_refl _)]
    rfl
  | cons x l ih =>
    intro at_ h ho
    obtain ⟨h1, h2, h3⟩ := inOrder_c.1 ho
    show (f ++ r).extract at_ x.s.toNat ++ x.n ++ patchB (f ++ r) x.e.toNat (l ++ ys) = f.extract at_ x.s.toNat ++ x.n ++ patchB f x.e.toNat l ++ patchB (f ++ r) f.size ys
    rw [extract_left _ _ _ _ (by omega), ih x.e.toNat (by omega) (by rw [Int.toNat_of_nonneg (by omega)]; exact h3)]
    simp only [ByteArray.append_assoc]
theorem inOrder_bounds {N : Int} : ∀ {es : List Ed} {at_ : Int}, inOrderF N at_ es = true → ∀ x ∈ es, at_ ≤ x.s ∧ 0 ≤ x.s ∧ x.s ≤ x.e ∧ x.e ≤ N := by
  intro es
  induction es with
  | nil => intro _ _ x hx; cases hx
  | cons y l ih =>
    intro at_ h x hx
    obtain ⟨h1, h2, h3⟩ := inOrder_c.1 h
    rcases List.mem_cons.1 hx with rfl | hx
    · exact ⟨h2, h1⟩
    · have := ih h3 x hx
      exact ⟨by omega, this.2⟩
theorem inOrder_app {N F T : Int} (hT : N ≤ T) (hF : N ≤ F) : ∀ {xs ys : List Ed} {at_ : Int}, at_ ≤ F → inOrderF N at_ xs = true → inOrderF T F ys = true → inOrderF T at_ (xs ++ ys) = true := by
  intro xs
  induction xs with
  | nil =>
    intro ys at_ h _ hy
    cases ys with
    | nil => rfl
    | cons y l =>
      obtain ⟨h1, h2, h3⟩ := inOrder_c.1 hy
      exact inOrder_c.2 ⟨h1, by omega, h3⟩
  | cons x l ih =>
    intro ys at_ h hx hy
    obtain ⟨h1, h2, h3⟩ := inOrder_c.1 hx
    exact inOrder_c.2 ⟨⟨h1.1, h1.2.1, by omega⟩, h2, ih (by omega) h3 hy⟩
/-- what both halves' edits make -/
theorem halves {f g b one two : ByteArray} {xs ys : List Ed} (hb : b.size = 1) (hx : inOrderF f.size 0 xs = true) (hy : inOrderF g.size 0 ys = true) (px : patchB f 0 xs = one) (py : patchB g 0 ys = two) :
    mg xs (mvE ((f.size : Int) + 1) ys) [] = some (xs ++ mvE ((f.size : Int) + 1) ys) ∧ mg (mvE ((f.size : Int) + 1) ys) xs [] = some (xs ++ mvE ((f.size : Int) + 1) ys) ∧
    inOrderF (f ++ b ++ g).size 0 (xs ++ mvE ((f.size : Int) + 1) ys) = true ∧ patchB (f ++ b ++ g) 0 (xs ++ mvE ((f.size : Int) + 1) ys) = one ++ b ++ two := by
  have bx := inOrder_bounds hx
  have hyo := mvE_order (N := g.size) (at_ := 0) (T := (f ++ b ++ g).size) (d := (f.size : Int) + 1) (by simp only [ByteArray.size_append]; omega) (by omega) hy
  rw [Int.zero_add] at hyo
  have by_ := inOrder_bounds hyo
  have g1 : ∀ x ∈ xs, x.s ≤ x.e ∧ x.e ≤ (f.size : Int) := fun x h => ⟨(bx x h).2.2.1, (bx x h).2.2.2⟩
  have g2 : ∀ y ∈ mvE ((f.size : Int) + 1) ys, (f.size : Int) < y.s ∧ y.s ≤ y.e := fun y h => ⟨by have := (by_ y h).1; omega, (by_ y h).2.2.1⟩
  refine ⟨by rw [mg_apart xs _ [] g1 g2]; rfl, by rw [mg_apart2 xs _ [] g1 g2]; rfl, ?_, ?_⟩
  · exact inOrder_app (N := f.size) (F := (f.size : Int) + 1) (by simp only [ByteArray.size_append]; omega) (by omega) (by omega) hx hyo
  · rw [ByteArray.append_assoc, patchB_left f (b ++ g) _ (fun y h => by have := (g2 y h).1; omega) xs 0 (by omega) hx, px]
    rw [patchB_from _ f.size (f.size + 1) _ (by omega) (by simp only [ByteArray.size_append]; omega) (fun y h => by have := (g2 y h).1; omega)]
    have e1 := extract_right f (b ++ g) 0 1
    rw [Nat.add_zero, extract_left b g 0 1 (by omega)] at e1
    have e2 := patchB_right (f ++ b) g ys 0 (by simpa using hy)
    have e3 : (f ++ b).size = f.size + 1 := by rw [ByteArray.size_append, hb]
    rw [e3, Nat.add_zero, ByteArray.append_assoc, py] at e2
    rw [e1, ← ByteArray.append_assoc]
    have e4 : b.extract 0 1 = b := by rw [← hb]; exact ByteArray.extract_zero_size
    rw [e4]
    have e5 : ((f.size + 1 : Nat) : Int) = (f.size : Int) + 1 := by omega
    rw [e5] at e2
    rw [e2]
end Go.Proofs.YtgjbagojcbondaaGreat

namespace Go.Proofs.YtgjbagojcbondaaGreat
set_option linter.unusedVariables false
open Go.RowKit

theorem mvE_at (d : Int) (es : List Ed) (k : Nat) (h : k < es.length) : edAt (mvE d es) k = ⟨eS es k + d, eE es k + d, eN es k⟩ := by
  simp [edAt, mvE, eS, eE, eN, h]
set_option maxRecDepth 100000 in
set_option maxHeartbeats 1000000 in
theorem moved_any (A : Option Addr) (c : Nat) (es : List Ed) (d : Int) (w : World) (hr : EdsR w A es) (hl : es.length ≤ 2000000) (hd : 0 ≤ d ∧ d ≤ 2000000) (hv : ∀ x ∈ es, 0 ≤ x.s ∧ x.s ≤ x.e ∧ x.e ≤ 2000000) :
   Calls Tryz.prog 14 #[.slice A es.length c, .int .i64 d] w fun e w' => ∃ A' c', e = .returned (.slice A' es.length c') ∧ w'.ownsRow w.heap.size 48 3 (.slice A' es.length c') es.length (edCells (mvE d es)) ∧ Below w.heap.size w w' := by
  have HR := Lib.hid hr; clear hr
  have hvk : ∀ k, k < es.length → 0 ≤ eS es k ∧ eS es k ≤ eE es k ∧ eE es k ≤ 2000000 := fun k hk => by
    have := hv es[k] (List.getElem_mem hk)
    simpa [eS, eE, edAt, hk] using this
  have hma := fun k hk => mvE_at d es k hk
  have HV := Lib.hid hvk; have HMA := Lib.hid hma; clear hv hvk hma
  have hml := mvE_len d es
  generalize hM : mvE d es = M at *
  clear hM
  obtain ⟨n, hln⟩ : ∃ n, es.length = n := ⟨_, rfl⟩
  rw [hln] at hl hml ⊢
  have HL := Lib.hid hln; have HML := Lib.hid hml; clear hln hml
  obtain ⟨i0, hi, hz0, hz1, hz2⟩ := info_parts infoE
  go_enter Tryz.func14, Tryz.ntmps14
  go_wp2
  go_loopw [5, 7, 11] (fun v _ i wr => ∃ k : Nat, k ≤ n ∧ i = .int .i64 k ∧ wr.ownsRow w.heap.size 48 3 v k (edCells (M.take k)) ∧ Below w.heap.size w wr) (fun _ _ i _ => n - (intOf i).toNat)
  case atStart => exact ⟨0, by omega, rfl, World.ownsRow_made w #[] 0 (Nat.le_refl _) (by simp [maxLen]) rfl, (Below.refl _ _).alloc (Nat.le_refl _) _⟩
  case round =>
    obtain ⟨k, hk, rfl, hown, hb⟩ := hrel
    by_cases hlt : k < n
    · obtain ⟨b, off, rfl, hbb, g1, g2, g3⟩ := (EdsR.below HR.out hb (Nat.le_refl _)).at_ (k := k) (by rw [HL.out]; exact hlt)
      have hbs := hb.size
      have ht := edTake M k (by rw [HML.out]; exact hlt)
      have hk3 := HV.out k (by rw [HL.out]; exact hlt)
      have hat := HMA.out k (by rw [HL.out]; exact hlt)
      have w1 : IntKind.i64.wrap (eS es k + d) = eS es k + d := IntWalk.i64_in _ (by omega)
      have w2 : IntKind.i64.wrap (eE es k + d) = eE es k + d := IntWalk.i64_in _ (by omega)
      have HT := Lib.hid ht; clear ht
      have HAT := Lib.hid hat; clear hat
      have HO := Lib.hid hown; clear hown
      go_wp2_with (at_builtin; refine wpList_append_any _ rfl (.tmp 15) (.tmp 27) _ rfl w.heap.size 48 i0 _ 3 32 Tryz.underlying25 hi hz0 hz1 hz2 rfl (by omega) u5 k (edCells (M.take k)) rfl ((HO.out.alloc _).alloc _) (some ⟨wr.heap.size + 1, 0, none⟩) 1 1 (edAt M k).cells rfl (by have := cells_lit3 (wr.alloc (.cells #[.int .i64 (eS es k), .int .i64 (eE es k), .string (eN es k)] 48)) 48 ⟨eS es k + d, eE es k + d, eN es k⟩; rw [HAT.out]; simpa using this) rfl (edCells1 _) (by unfold maxLen; omega) (by omega) (by simp; omega) ?_; intro A1 c1 w1 hown1 hg1 hat1)
      go_wp2
      go_roundw
      case rel => exact ⟨k + 1, by omega, by go_num, by rw [HT.out]; exact hown1, (((hb.alloc hb.size _).alloc (by simp; omega) _).grown hg1 (by simp; omega) (fun g hg => (HO.out.lt g hg).1))⟩
      case measure => simp [intOf]; omega
    · have hkn : k = n := by omega
      subst hkn
      go_wp2
      go_ret
      have e1 : M.take k = M := List.take_of_length_le (by rw [HML.out]; omega)
      rw [e1] at hown
      obtain ⟨A', c', hv⟩ := own_form hown
      subst hv
      exact ⟨A', c', rfl, hown, hb⟩
end Go.Proofs.YtgjbagojcbondaaGreat

namespace Go.Proofs.YtgjbagojcbondaaGreat
set_option linter.unusedVariables false
open Go.RowKit

theorem IntsR.lit4M (kd : IntKind) (w : World) (t : TypeId) (x y z u : Int) : IntsR kd (w.alloc (.cells #[.int kd x, .int kd y, .int kd z, .int kd u] t)) (some ⟨w.heap.size, 0, none⟩) [x, y, z, u] := by
  refine .inr ⟨_, _, rfl, fun j v hu => ?_⟩
  have := (Blk.new w t #[.int kd x, .int kd y, .int kd z, .int kd u]).cell (0 + j)
  rw [this]
  simpa [intCells] using hu
/-- a merging that is known -/
theorem merge_known {xs ys r : List Ed} (h : mg xs ys [] = some r) (A B : Option Addr) (c d : Nat) (w : World) (hx : EdsR w A xs) (hy : EdsR w B ys) (hl : xs.length ≤ 3000000) (hm : ys.length ≤ 3000000) :
    Calls Tryz.prog 12 #[.slice A xs.length c, .slice B ys.length d] w fun e w' => ∃ C f, e = .returned (.tuple #[.slice C r.length f, .bool true]) ∧ EdsR w' C r ∧ Below w.heap.size w w' := by
  refine (implMerge_any A B c d xs ys w hx hy hl hm).mono ?_
  rintro e w' ⟨C, f, he, ho, hb⟩
  rw [h] at he ho
  exact ⟨C, f, he, CellsR.of_own ho, hb⟩
set_option maxRecDepth 100000 in
set_option maxHeartbeats 1000000 in
theorem FnMergeHalves_walk0 (hli : ∀ s t W, s.size ≤ 1000000 → t.size ≤ 1000000 → Calls Tryz.prog 11 #[.string s, .string t] W (EdsOutI (LinesP s t) W)) (s0 s1 s2 s3 : ByteArray) (w : World) (ws0 : s0.size ≤ maxLen) (ws1 : s1.size ≤ maxLen) (ws2 : s2.size ≤ maxLen) (ws3 : s3.size ≤ maxLen) :
   Calls Tryz.prog 6 #[.string s0, .string s1, .string s2, .string s3] w fun e w' => e = .returned (.bool true) ∧ Below w.heap.size w w' := by
  have ht := fun A c w' x y z u (h : IntsR .i64 w' A [x, y, z, u]) => tooLong_any A c [x, y, z, u] w' h (by simp)
  have HT := Lib.hid ht; clear ht
  unfold EdsOutI at hli
  have hl1 := fun W (g0 : s0.size ≤ 1000000) (g2 : s2.size ≤ 1000000) => hli s0 s2 W g0 g2
  have hl2 := fun W (g1 : s1.size ≤ 1000000) (g3 : s3.size ≤ 1000000) => hli s1 s3 W g1 g3
  have HL1 := Lib.hid hl1; have HL2 := Lib.hid hl2; clear hl1 hl2 hli
  unfold maxLen at ws0 ws1 ws2 ws3
  by_cases hb0 : (2147483647 : Int) < (s0.size : Int)
  · go_enter Tryz.func6, Tryz.ntmps6
    go_wp2
    go_ret
    exact ⟨rfl, Below.refl _ _⟩
  · by_cases hb1 : (2147483647 : Int) < (s1.size : Int)
    · go_enter Tryz.func6, Tryz.ntmps6
      go_wp2
      go_ret
      exact ⟨rfl, Below.refl _ _⟩
    · by_cases hb2 : (2147483647 : Int) < (s2.size : Int)
      · go_enter Tryz.func6, Tryz.ntmps6
        go_wp2
        go_ret
        exact ⟨rfl, Below.refl _ _⟩
      · by_cases hb3 : (2147483647 : Int) < (s3.size : Int)
        · go_enter Tryz.func6, Tryz.ntmps6
          go_wp2
          go_ret
          exact ⟨rfl, Below.refl _ _⟩
        · go_enter Tryz.func6, Tryz.ntmps6
          go_wp2_with fail
          refine (HT.out _ _ _ s0.size s1.size s2.size s3.size (IntsR.lit4M _ _ _ _ _ _ _) (by simp; omega)).mono ?_
          rintro e w3 ⟨rfl, rfl⟩
          have hsum : sumI [(s0.size : Int), (s1.size : Int), (s2.size : Int), (s3.size : Int)] = (s0.size : Int) + s1.size + s2.size + s3.size := by simp [sumI]; omega
          by_cases hbig : 1000000 < (s0.size : Int) + s1.size + s2.size + s3.size
          · have hd : decide (1000000 < sumI [(s0.size : Int), (s1.size : Int), (s2.size : Int), (s3.size : Int)]) = true := by rw [hsum]; simp; omega
            rw [hd]
            clear hd hsum
            go_wp2
            go_ret
            exact ⟨rfl, (Below.refl _ _).alloc (Nat.le_refl _) _⟩
          · have hd : decide (1000000 < sumI [(s0.size : Int), (s1.size : Int), (s2.size : Int), (s3.size : Int)]) = false := by rw [hsum]; simp; omega
            rw [hd]
            have HB1 := Lib.hid ((Below.refl w.heap.size w).alloc (Nat.le_refl _) (.cells #[.int .i64 (s0.size : Int), .int .i64 (s1.size : Int), .int .i64 (s2.size : Int), .int .i64 (s3.size : Int)] 3))
            clear hd hsum
            have g0 : s0.size ≤ 1000000 := by omega
            have g1 : s1.size ≤ 1000000 := by omega
            have g2 : s2.size ≤ 1000000 := by omega
            have g3 : s3.size ≤ 1000000 := by omega
            have gs : s0.size + s1.size + s2.size + s3.size ≤ 1000000 := by omega
            clear hbig hb0 hb1 hb2 hb3
            have wd : IntKind.i64.wrap ((s0.size : Int) + 1) = (s0.size : Int) + 1 := IntWalk.i64_in _ (by omega)
            have hsz : (s0 ++ (⟨#[124]⟩ : ByteArray) ++ s1).size ≤ 2000000 := by simp only [ByteArray.size_append]; have : (⟨#[124]⟩ : ByteArray).size = 1 := rfl; omega
            go_wp2_with fail
            refine (HL1.out _ g0 g2).mono ?_
            rintro e w4 ⟨xs, A, c, rfl, hr, hc, hb, hp⟩
            have HB4 := Lib.hid (HB1.out.trans (hb.mono HB1.out.size))
            have HR := Lib.hid hr; have HP := Lib.hid hp
            have hxl := hp.fine
            clear hr hb hp hc
            obtain ⟨lx, hlx⟩ : ∃ n, xs.length = n := ⟨_, rfl⟩
            rw [hlx] at hxl ⊢
            have HLX := Lib.hid hlx; clear hlx
            go_wp2_with fail
            refine (HL2.out _ g1 g3).mono ?_
            rintro e w5 ⟨ys, B, d, rfl, hr2, hc2, hb2, hp2⟩
            have HB5 := Lib.hid (HB4.out.trans (hb2.mono HB4.out.size))
            have hyl := hp2.fine
            have HR5 := Lib.hid (EdsR.below HR.out hb2 (Nat.le_refl _))
            have hex := HP.out.ed g0 g2
            have hey := hp2.ed g1 g3
            have hbd := inOrder_bounds hey.order
            have hmv := moved_any B d ys ((s0.size : Int) + 1) w5 hr2 (by omega) ⟨by omega, by omega⟩ (fun x hx => by have := hbd x hx; omega)
            obtain ⟨h1, h2, h3, h4⟩ := halves (b := ⟨#[124]⟩) rfl hex.order hey.order hex.patch hey.patch
            have hyz := mvE_sz ((s0.size : Int) + 1) ys
            have hyn := mvE_len ((s0.size : Int) + 1) ys
            obtain ⟨ly, hly⟩ : ∃ n, ys.length = n := ⟨_, rfl⟩
            rw [hly] at hmv hyl hyn ⊢
            generalize hM : mvE ((s0.size : Int) + 1) ys = M at *
            have HMV := Lib.hid hmv
            clear hmv hr2 hc2 hb2 hp2 hbd hex hey hM HP HR
            go_wp2_with fail
            refine HMV.out.mono ?_
            rintro e w6 ⟨C, f, rfl, ho, hb6⟩
            have HB6 := Lib.hid (HB5.out.trans (hb6.mono HB5.out.size))
            have hm6 : EdsR w6 C M := CellsR.of_own ho
            have hx6 := EdsR.below HR5.out hb6 (Nat.le_refl _)
            clear ho hb6
            have hmg1 := fun W (hW : Below w6.heap.size w6 W) => merge_known h1 A C c f W (EdsR.below hx6 hW (Nat.le_refl _)) (EdsR.below hm6 hW (Nat.le_refl _)) (by rw [HLX.out]; omega) (by omega)
            have hmg2 := fun W (hW : Below w6.heap.size w6 W) => merge_known h2 C A f c W (EdsR.below hm6 hW (Nat.le_refl _)) (EdsR.below hx6 hW (Nat.le_refl _)) (by omega) (by rw [HLX.out]; omega)
            rw [HLX.out, hyn] at hmg1 hmg2
            have hrz : szE (xs ++ M) ≤ 4000000 := by rw [szE_app, hyz]; omega
            have hrl : (xs ++ M).length ≤ 2000000 := by rw [List.length_append, HLX.out, hyn]; omega
            generalize xs ++ M = r at *
            have hap := fun A c W (h : EdsR W A r) => apply_ed (c := c) h3 h4 hrz hrl hsz A W h
            have HMG1 := Lib.hid hmg1; have HMG2 := Lib.hid hmg2; have HAP := Lib.hid hap
            clear hmg1 hmg2 hap h1 h2 h3 h4 hyz hyn hm6 hx6 hrz hrl hxl hyl
            generalize r.length = n at *
            go_wp2_with fail
            refine (HMG1.out _ (Below.refl _ _)).mono ?_
            rintro e w7 ⟨D, p, rfl, hr7, hb7⟩
            have HB7 := Lib.hid hb7; have HR7 := Lib.hid hr7; clear hr7 hb7
            go_wp2_with fail
            refine (HMG2.out _ HB7.out).mono ?_
            rintro e w8 ⟨E, q, rfl, hr8, hb8⟩
            have HB8 := Lib.hid (HB7.out.trans (hb8.mono HB7.out.size)); have HR8 := Lib.hid hr8
            have HR78 := Lib.hid (EdsR.below HR7.out hb8 (Nat.le_refl _))
            clear hr8 hb8
            go_wp2_with fail
            refine (HAP.out _ _ _ HR78.out).mono ?_
            rintro e w9 ⟨rfl, hb9⟩
            have HB9 := Lib.hid (HB8.out.trans (hb9.mono HB8.out.size)); have HR89 := Lib.hid (EdsR.below HR8.out hb9 (Nat.le_refl _))
            clear hb9
            go_wp2_with fail
            refine (HAP.out _ _ _ HR89.out).mono ?_
            rintro e w10 ⟨rfl, hb10⟩
            have HB10 := Lib.hid (HB9.out.trans (hb10.mono HB9.out.size)); clear hb10
            have heq : ((s2 ++ (⟨#[124]⟩ : ByteArray) ++ s3).toList == (s2 ++ (⟨#[124]⟩ : ByteArray) ++ s3).toList) = true := by simp
            go_wp2
            go_ret
            exact ⟨rfl, HB6.out.trans (HB10.out.mono HB6.out.size)⟩
end Go.Proofs.YtgjbagojcbondaaGreat
