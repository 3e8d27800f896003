/-
  The walk of laws.FnMergeAlone: it returns true. No condition.
-/
import Derived.Test.YtpbmjnjcjjombaaImplM
namespace Go.Proofs.Ytpbmjnjcjjombaa
set_option linter.unusedVariables false
open Go.RowKit

theorem sameE_refl (l : List Ed) : sameE l l = true := sameE_all rfl (fun _ _ => by simp [edEqB])
theorem mg_nil_left (l : List Ed) : mg [] l [] = some l := by rw [mg_end _ _ _ (.inl rfl)]; simp
theorem mg_nil_right (l : List Ed) : mg l [] [] = some l := by rw [mg_end _ _ _ (.inr rfl)]; simp
theorem mg_self (l : List Ed) : mg l l [] = some l := by rw [mg_self_aux]; simp
theorem szR_le {es : List Ed} (h : ¬ (1000000 : Int) < szR es) : szE es ≤ 1000000 := by
  unfold szR at h
  split at h
  · assumption
  · omega
theorem szR_nonneg (es : List Ed) : 0 ≤ szR es ∧ szR es ≤ 9223372036854775807 := by
  unfold szR
  split <;> omega

set_option maxHeartbeats 1000000 in
theorem FnMergeAlone_walk (a0 : Int) (A : Option Addr) (c : Nat) (es : List Ed) (w : World) (_ : (Lit.int .i64 a0).wf = true)
    (hr : EdsR w A es) (hl : es.length ≤ maxLen) (hw : ∀ k, k < es.length → (Lit.int .i64 (eS es k)).wf = true ∧ (Lit.int .i64 (eE es k)).wf = true ∧ (eN es k).size ≤ maxLen) :
   Calls Try.prog 6 #[.int .i64 a0, .slice A es.length c] w fun e w' => e = .returned (.bool true) ∧ Below w.heap.size w w' := by
  have h1 := zzFits1_any A c es w hr hl (fun k hk => (hw k hk).2.2)
  have h2 := fun w' (hb : Below w.heap.size w w') => sizeOfEdits_any A c es w' (hr.below hb (Nat.le_refl _)) hl (fun k hk => (hw k hk).2.2)
  have HR := Lib.hid hr; clear hr
  have H1 := Lib.hid h1; clear h1
  have H2 := Lib.hid h2; clear h2
  have ht := fun A c w' x (h : IntsR .i64 w' A [x]) => tooLong_any A c [x] w' h (by simp)
  have HT := Lib.hid ht; clear ht hw
  go_enter Try.func6, Try.ntmps6
  go_wp2_with fail
  refine H1.out.mono ?_
  rintro e w1 ⟨⟨b, rfl⟩, hb1⟩
  cases b
  · go_wp2
    go_ret
    exact ⟨rfl, hb1⟩
  · go_wp2_with fail
    refine (H2.out _ hb1).mono ?_
    rintro e w2 ⟨rfl, hb2⟩
    have hb2' := hb1.trans (hb2.mono hb1.size)
    have hs := szR_nonneg es
    go_wp2_with fail
    refine (HT.out _ _ _ (szR es) (IntsR.lit1 _ _ _ _) (by simp; omega)).mono ?_
    rintro e w3 ⟨rfl, rfl⟩
    have hb3 : Below w.heap.size w (w2.alloc (.cells #[.int .i64 (szR es)] 3)) := hb2'.alloc hb2'.size _
    have hsum : sumI [szR es] = szR es := by simp [sumI]
    by_cases hbig : 1000000 < szR es
    · have hd : decide (1000000 < sumI [szR es]) = true := by rw [hsum]; simp; omega
      rw [hd]
      have HB := Lib.hid hb3
      clear hd hsum hs hb1 hb2 hb2' hb3
      go_wp2
      go_ret
      exact ⟨rfl, HB.out⟩
    · have hd : decide (1000000 < sumI [szR es]) = false := by rw [hsum]; simp; omega
      rw [hd]
      have hlen : es.length ≤ 1000000 := Nat.le_trans (len_le_szE es) (szR_le hbig)
      have hb3' := hb3
      generalize w2.alloc (.cells #[.int .i64 (szR es)] 3) = W at *
      have HB := Lib.hid hb3
      clear hd hsum hs hb1 hb2 hb2' hb3 hb3' hbig
      have hM0 := implMerge_any none none 0 0 [] [] W (.inl rfl) (.inl rfl) (by simp) (by simp)
      have HM0 := Lib.hid hM0
      rw [mg_nil_left] at HM0
      clear hM0
      go_wp2_with fail
      refine HM0.out.mono ?_
      rintro e w4 ⟨A4, c4, rfl, ho4, hb4⟩
      have hb4' := HB.out.trans (hb4.mono HB.out.size)
      have HB4 := Lib.hid hb4'
      clear hb4 hb4' ho4 HM0
      have hin := inOrder_any A c es a0 w4 (HR.out.below HB4.out (Nat.le_refl _)) (by omega)
      have HIN := Lib.hid hin; clear hin
      simp only [Option.getD_some, List.length_nil, Option.isSome_some]
      go_wp2_with fail
      refine HIN.out.mono ?_
      rintro e w5 ⟨rfl, hb5⟩
      have hb5' := HB4.out.trans (hb5.mono HB4.out.size)
      have HB5 := Lib.hid hb5'
      clear hb5 hb5' HIN
      cases hio : inOrderF a0 0 es
      · have HIO := Lib.hid hio; clear hio
        go_wp2
        go_ret
        exact ⟨rfl, HB5.out⟩
      · have HIO := Lib.hid hio; clear hio
        have hm1 := implMerge_any A none c 0 es [] w5 (HR.out.below HB5.out (Nat.le_refl _)) (.inl rfl) (by omega) (by simp)
        rw [mg_nil_right] at hm1
        have HM1 := Lib.hid hm1; clear hm1
        go_wp2_with fail
        refine HM1.out.mono ?_
        rintro e w6 ⟨A6, c6, rfl, ho6, hb6⟩
        simp only [Option.getD_some, Option.isSome_some] at ho6 ⊢
        have hb6' := HB5.out.trans (hb6.mono HB5.out.size)
        have HB6 := Lib.hid hb6'
        have HO6 := Lib.hid ho6
        clear hb6 hb6' ho6 HM1
        have hm2 := implMerge_any none A 0 c [] es w6 (.inl rfl) (HR.out.below HB6.out (Nat.le_refl _)) (by simp) (by omega)
        rw [mg_nil_left] at hm2
        have HM2 := Lib.hid hm2; clear hm2
        go_wp2_with fail
        refine HM2.out.mono ?_
        rintro e w7 ⟨A7, c7, rfl, ho7, hb7⟩
        simp only [Option.getD_some, Option.isSome_some] at ho7 ⊢
        have hb7' := HB6.out.trans (hb7.mono HB6.out.size)
        have HB7 := Lib.hid hb7'
        have HO7 := Lib.hid ho7
        have HO6' := Lib.hid (own_keep HO6.out hb7 (Nat.le_refl _))
        clear hb7 hb7' ho7 HM2 HO6
        have hm3 := implMerge_any A A c c es es w7 (HR.out.below HB7.out (Nat.le_refl _)) (HR.out.below HB7.out (Nat.le_refl _)) (by omega) (by omega)
        rw [mg_self] at hm3
        have HM3 := Lib.hid hm3; clear hm3
        go_wp2_with fail
        refine HM3.out.mono ?_
        rintro e w8 ⟨A8, c8, rfl, ho8, hb8⟩
        simp only [Option.getD_some, Option.isSome_some] at ho8 ⊢
        have hb8' := HB7.out.trans (hb8.mono HB7.out.size)
        have HB8 := Lib.hid hb8'
        have HO8 := Lib.hid ho8
        have HO6 := Lib.hid (own_keep HO6'.out hb8 (Nat.le_refl _))
        have HO7' := Lib.hid (own_keep HO7.out hb8 (Nat.le_refl _))
        clear hb8 hb8' ho8 HM3 HO6' HO7
        have hs := fun A1 c1 (n : Nat) (h : EdsR w8 A1 es) => sameEdits_any A1 A c1 c es es (w8.drewN n) h (HR.out.below (below_drewN HB8.out n) (Nat.le_refl _)) (by omega) (by omega)
        rw [sameE_refl] at hs
        have HS := Lib.hid hs; clear hs
        have hs6 := HS.out A6 c6 0 (CellsR.of_own HO6.out)
        have HS6 := Lib.hid hs6; clear hs6
        go_wp2_with fail
        refine HS6.out.mono ?_
        rintro e w9 ⟨rfl, q1, rfl⟩
        have hs7 := HS.out A7 c7 q1 (CellsR.of_own HO7'.out)
        have HS7 := Lib.hid hs7; clear hs7
        go_wp2_with fail
        refine HS7.out.mono ?_
        rintro e w10 ⟨rfl, q2, rfl⟩
        have hs8 := HS.out A8 c8 (q1 + q2) (CellsR.of_own HO8.out)
        have HS8 := Lib.hid hs8; clear hs8
        go_wp2_with fail
        refine HS8.out.mono ?_
        rintro e w11 ⟨rfl, q3, rfl⟩
        go_wp2
        go_ret
        exact ⟨rfl, by first | exact below_drewN HB8.out _ | exact below_drewN (below_drewN HB8.out _) _⟩
end Go.Proofs.Ytpbmjnjcjjombaa
