/-
  The walk of laws.FnMergeReference: it returns true. No condition.
-/
import Derived.Test.YtpbmjnjcjjombaaLMergeAlone
import Derived.Test.YtpbmjnjcjjombaaMofW
namespace Go.Proofs.Ytpbmjnjcjjombaa
set_option linter.unusedVariables false
open Go.RowKit

set_option maxHeartbeats 1000000 in
theorem FnMergeReference_walk (a0 : Int) (A : Option Addr) (c : Nat) (es : List Ed) (B : Option Addr) (d : Nat) (fs : List Ed) (w : World) (_ : (Lit.int .i64 a0).wf = true)
    (hr : EdsR w A es) (hl : es.length ≤ maxLen) (hw : ∀ k, k < es.length → (Lit.int .i64 (eS es k)).wf = true ∧ (Lit.int .i64 (eE es k)).wf = true ∧ (eN es k).size ≤ maxLen)
    (hr' : EdsR w B fs) (hl' : fs.length ≤ maxLen) (hw' : ∀ k, k < fs.length → (Lit.int .i64 (eS fs k)).wf = true ∧ (Lit.int .i64 (eE fs k)).wf = true ∧ (eN fs k).size ≤ maxLen) :
   Calls Try.prog 8 #[.int .i64 a0, .slice A es.length c, .slice B fs.length d] w fun e w' => e = .returned (.bool true) ∧ Below w.heap.size w w' := by
  have h1 := zzFits1_any A c es w hr hl (fun k hk => (hw k hk).2.2)
  have h1' := fun w1 (hb : Below w.heap.size w w1) => zzFits1_any B d fs w1 (hr'.below hb (Nat.le_refl _)) hl' (fun k hk => (hw' k hk).2.2)
  have h2 := fun w1 (hb : Below w.heap.size w w1) => sizeOfEdits_any A c es w1 (hr.below hb (Nat.le_refl _)) hl (fun k hk => (hw k hk).2.2)
  have h2' := fun w1 (hb : Below w.heap.size w w1) => sizeOfEdits_any B d fs w1 (hr'.below hb (Nat.le_refl _)) hl' (fun k hk => (hw' k hk).2.2)
  have HR := Lib.hid hr; clear hr
  have HR' := Lib.hid hr'; clear hr'
  have H1 := Lib.hid h1; clear h1
  have H1' := Lib.hid h1'; clear h1'
  have H2 := Lib.hid h2; clear h2
  have H2' := Lib.hid h2'; clear h2'
  have ht := fun A c w' x y (h : IntsR .i64 w' A [x, y]) => tooLong_any A c [x, y] w' h (by simp)
  have HT := Lib.hid ht; clear ht hw hw'
  go_enter Try.func8, Try.ntmps8
  go_wp2_with fail
  refine H1.out.mono ?_
  rintro e w1 ⟨⟨b, rfl⟩, hb1⟩
  cases b
  · go_wp2
    go_ret
    exact ⟨rfl, hb1⟩
  · go_wp2_with fail
    refine (H1'.out _ hb1).mono ?_
    rintro e w2 ⟨⟨b, rfl⟩, hb2⟩
    have hb2' := hb1.trans (hb2.mono hb1.size)
    cases b
    · go_wp2
      go_ret
      exact ⟨rfl, hb2'⟩
    · go_wp2_with fail
      refine (H2.out _ hb2').mono ?_
      rintro e w3 ⟨rfl, hb3⟩
      have hb3' := hb2'.trans (hb3.mono hb2'.size)
      go_wp2_with fail
      refine (H2'.out _ hb3').mono ?_
      rintro e w4 ⟨rfl, hb4⟩
      have hb4' := hb3'.trans (hb4.mono hb3'.size)
      have hs := szR_nonneg es
      have hs' := szR_nonneg fs
      go_wp2_with fail
      refine (HT.out _ _ _ (szR es) (szR fs) (IntsR.lit2 _ _ _ _ _) (by simp; omega)).mono ?_
      rintro e w5 ⟨rfl, rfl⟩
      have hb5 : Below w.heap.size w (w4.alloc (.cells #[.int .i64 (szR es), .int .i64 (szR fs)] 3)) := hb4'.alloc hb4'.size _
      have hsum : sumI [szR es, szR fs] = szR es + szR fs := by simp [sumI]
      by_cases hbig : 1000000 < szR es + szR fs
      · have hd : decide (1000000 < sumI [szR es, szR fs]) = true := by rw [hsum]; simp; omega
        rw [hd]
        have HB := Lib.hid hb5
        clear hd hsum hs hs' hb1 hb2 hb2' hb3 hb3' hb4 hb4' hb5
        go_wp2
        go_ret
        exact ⟨rfl, HB.out⟩
      · have hd : decide (1000000 < sumI [szR es, szR fs]) = false := by rw [hsum]; simp; omega
        rw [hd]
        have hlen : es.length ≤ 1000000 := Nat.le_trans (len_le_szE es) (szR_le (by omega))
        have hlen' : fs.length ≤ 1000000 := Nat.le_trans (len_le_szE fs) (szR_le (by omega))
        have hb5' := hb5
        generalize w4.alloc (.cells #[.int .i64 (szR es), .int .i64 (szR fs)] 3) = W at *
        have HB := Lib.hid hb5
        clear hd hsum hs hs' hb1 hb2 hb2' hb3 hb3' hb4 hb4' hb5 hb5' hbig H1 H1' H2 H2' HT
        have hM := implMerge_any A B c d es fs W (HR.out.below HB.out (Nat.le_refl _)) (HR'.out.below HB.out (Nat.le_refl _)) (by omega) (by omega)
        have HM := Lib.hid hM; clear hM
        go_wp2_with fail
        refine HM.out.mono ?_
        rintro e w6 ⟨A6, c6, rfl, ho6, hb6⟩
        have HO6 := Lib.hid ho6; clear ho6
        have hb6' := HB.out.trans (hb6.mono HB.out.size)
        have HB6 := Lib.hid hb6'
        clear hb6 hb6' HM
        have hM0 := implMerge_any none none 0 0 [] [] w6 (.inl rfl) (.inl rfl) (by simp) (by simp)
        have HM0 := Lib.hid hM0
        rw [mg_nil_left] at HM0
        clear hM0
        go_wp2_with fail
        refine HM0.out.mono ?_
        rintro e w7 ⟨A7, c7, rfl, ho7, hb7⟩
        simp only [Option.getD_some, List.length_nil, Option.isSome_some]
        have HO67 := Lib.hid (own_keep HO6.out hb7 (Nat.le_refl _))
        have hb7' := HB6.out.trans (hb7.mono HB6.out.size)
        have HB7 := Lib.hid hb7'
        clear hb7 hb7' ho7 HM0 HO6
        have ha := apart_any A c es a0 w7 (HR.out.below HB7.out (Nat.le_refl _)) (by omega)
        have HA := Lib.hid ha; clear ha
        cases hap : apartF a0 (-1) es with
        | false =>
          rw [hap] at HA
          have HAP := Lib.hid hap; clear hap
          go_wp2_with fail
          refine HA.out.mono ?_
          rintro e w8 ⟨rfl, hb8⟩
          have HB8 := Lib.hid (HB7.out.trans (hb8.mono HB7.out.size))
          clear hb8
          go_wp2
          go_ret
          exact ⟨rfl, HB8.out⟩
        | true =>
          rw [hap] at HA
          have HAP := Lib.hid hap; clear hap
          go_wp2_with fail
          refine HA.out.mono ?_
          rintro e w8 ⟨rfl, hb8⟩
          have HB8 := Lib.hid (HB7.out.trans (hb8.mono HB7.out.size))
          have HO68 := Lib.hid (own_keep HO67.out hb8 (Nat.le_refl _))
          clear hb8 HO67
          have ha := apart_any B d fs a0 w8 (HR'.out.below HB8.out (Nat.le_refl _)) (by omega)
          have HA2 := Lib.hid ha; clear ha
          cases hap : apartF a0 (-1) fs with
          | false =>
            rw [hap] at HA2
            have HAP2 := Lib.hid hap; clear hap
            go_wp2_with fail
            refine HA2.out.mono ?_
            rintro e w9 ⟨rfl, hb9⟩
            have HB9 := Lib.hid (HB8.out.trans (hb9.mono HB8.out.size))
            clear hb9
            go_wp2
            go_ret
            exact ⟨rfl, HB9.out⟩
          | true =>
            rw [hap] at HA2
            have HAP2 := Lib.hid hap; clear hap
            go_wp2_with fail
            refine HA2.out.mono ?_
            rintro e w9 ⟨rfl, hb9⟩
            have HB9 := Lib.hid (HB8.out.trans (hb9.mono HB8.out.size))
            have HO69 := Lib.hid (own_keep HO68.out hb9 (Nat.le_refl _))
            clear hb9 HO68 HA HA2
            have hmo := mergeOf_any A B c d es fs w9 (HR.out.below HB9.out (Nat.le_refl _)) (HR'.out.below HB9.out (Nat.le_refl _)) (by omega) (by omega)
            unfold mofR at hmo
            cases hmb : mofB es fs with
            | false =>
              rw [hmb] at hmo
              have HMO := Lib.hid hmo; clear hmo hmb
              go_wp2_with fail
              refine HMO.out.mono ?_
              rintro e w10 ⟨A10, c10, rfl, ho10, hb10⟩
              have HB10 := Lib.hid (HB9.out.trans (hb10.mono HB9.out.size))
              clear ho10 hb10 HMO
              simp only [Bool.false_eq_true, if_false, Option.getD_none, Option.isSome_none, List.length_nil]
              go_wp2
              go_ret
              exact ⟨rfl, HB10.out⟩
            | true =>
              rw [hmb] at hmo
              have hmg := mg_reference HAP.out HAP2.out hmb
              have HMO := Lib.hid hmo; clear hmo hmb
              have hsl : (sortE (mofL es fs)).length ≤ 2000000 := by
                have := srt_len (mofL es fs) (mofL es fs).length (Nat.le_refl _)
                unfold srt at this
                rw [List.take_length] at this
                rw [this]
                have h1 := List.length_filter_le (fun e => !es.any fun d => edEqB d e) fs
                simp only [mofL, List.length_append] at h1 ⊢
                omega
              have ho6 := HO69.out
              rw [hmg] at ho6 ⊢
              simp only [Option.getD_some, Option.isSome_some] at ho6 ⊢
              have HO6 := Lib.hid ho6
              clear ho6 hmg HO69
              go_wp2_with fail
              refine HMO.out.mono ?_
              rintro e w10 ⟨A10, c10, rfl, ho10, hb10⟩
              simp only [if_true, Option.getD_some, Option.isSome_some] at ho10 ⊢
              have HB10 := Lib.hid (HB9.out.trans (hb10.mono HB9.out.size))
              have hs := fun n => sameEdits_any A6 A10 c6 c10 (sortE (mofL es fs)) (sortE (mofL es fs)) (w10.drewN n) (CellsR.drewN (CellsR.of_own (own_keep HO6.out hb10 (Nat.le_refl _))) n) (CellsR.drewN (CellsR.of_own ho10) n) (by omega) (by omega)
              rw [sameE_refl] at hs
              have HS := Lib.hid hs; clear hs ho10 hb10 HMO
              go_wp2_with fail
              refine (HS.out 0).mono ?_
              rintro e w11 ⟨rfl, q1, rfl⟩
              go_wp2
              go_ret
              exact ⟨rfl, below_drewN HB10.out _⟩
end Go.Proofs.Ytpbmjnjcjjombaa
