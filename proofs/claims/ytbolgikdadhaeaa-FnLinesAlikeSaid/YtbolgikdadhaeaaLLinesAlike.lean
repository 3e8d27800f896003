/-
  The walk of laws.FnLinesAlike: for every input it returns true. No condition.
-/
import Derived.Test.YtbolgikdadhaeaaLcsE
import Derived.Test.YtbolgikdadhaeaaStrsW
import Derived.Test.YtbolgikdadhaeaaLcsA
namespace Go.Proofs.Ytbolgikdadhaeaa
set_option linter.unusedVariables false
open Go.RowKit

set_option maxRecDepth 100000 in
set_option maxHeartbeats 1000000 in
theorem FnLinesAlike_walk (A0 : Option Addr) (cap0 : Nat) (z0 : List ByteArray) (a1 : ByteArray) (w : World) (h0 : StrsR w A0 z0) (l0 : z0.length ≤ maxLen) (wf0 : ∀ x ∈ z0, x.size ≤ maxLen) (kc0 : z0.length ≤ cap0) (wf1 : a1.size ≤ maxLen) :
   Calls Try.prog 11 #[.slice A0 z0.length cap0, .string a1] w fun e w' => e = .returned (.bool true) ∧ Below w.heap.size w w' := by
  obtain ⟨i0, hi, hz0, hz1, hz2⟩ := info_parts infoT
  have H0 := Lib.hid (fun W (hW : Below w.heap.size w W) => StrsR.below h0 hW (Nat.le_refl _))
  have ht := fun A c w' x y (h : IntsR .i64 w' A [x, y]) => tooLong_any A c [x, y] w' h (by simp)
  have HT := Lib.hid ht
  have HF0 := Lib.hid (zzFits3_any A0 cap0 z0 w h0 l0 wf0)
  have HS0 := Lib.hid (sizeOf_any A0 cap0 z0 w h0 l0 wf0)
  have hzn := szSR_nonneg z0
  have hq0 := len_le_szS z0
  have hs0 : ¬ 1000000 < szSR z0 → szS z0 ≤ 1000000 := szSR_le
  unfold maxLen at l0 wf1
  have d1 := fun W (hx : StrsR W A0 z0) (hl : z0.length ≤ 1000000) => difLines (E := eqS z0 z0) (fun _ _ _ _ => rfl) hx hx kc0 kc0 (by omega) (by omega)
  have d2 := fun W C d (hx : StrsR W A0 z0) (hy : StrsR W C (z0 ++ [a1])) (hd : z0.length + 1 ≤ d) (hl : z0.length ≤ 1000000) => difLines (E := eqS z0 (z0 ++ [a1])) (d := d) (fun _ _ _ _ => rfl) hx hy kc0 (by simp; omega) (by omega) (by simp; omega)
  have d3 := fun W C d (hx : StrsR W A0 z0) (hy : StrsR W C (z0 ++ [a1])) (hd : z0.length + 1 ≤ d) (hl : z0.length ≤ 1000000) => difLines (E := eqS (z0 ++ [a1]) z0) (c := d) (fun _ _ _ _ => rfl) hy hx (by simp; omega) kc0 (by simp; omega) (by omega)
  simp only [List.length_append, List.length_singleton] at d2 d3
  have e1 := eqS_refl z0
  have e2 := eqS_more z0 a1
  have e3 := eqS_less z0 a1
  have hcl : (strCells z0).length = z0.length := by simp [strCells]
  have hca : strCells z0 ++ strCells [a1] = strCells (z0 ++ [a1]) := by simp [strCells]
  have D1 := Lib.hid d1; have D2 := Lib.hid d2; have D3 := Lib.hid d3; have E1 := Lib.hid e1; have E2 := Lib.hid e2; have E3 := Lib.hid e3; have HCL := Lib.hid hcl; have HCA := Lib.hid hca
  clear d1 d2 d3 e1 e2 e3 kc0 hcl hca ht h0 wf0
  generalize szSR z0 = s0 at *
  generalize szS z0 = t0 at *
  obtain ⟨l, hln⟩ : ∃ n, z0.length = n := ⟨_, rfl⟩
  rw [hln] at l0 D1 D2 D3 E2 E3 HCL HF0 HS0 hq0 ⊢
  clear hln
  go_enter Try.func11, Try.ntmps11
  go_wp2_with fail
  refine HF0.out.mono ?_
  rintro e wA ⟨⟨b0, rfl⟩, rfl⟩
  cases b0
  · go_wp2
    go_ret
    exact ⟨rfl, Below.refl _ _⟩
  · by_cases hb0 : (2147483647 : Int) < (a1.size : Int)
    · go_wp2
      go_ret
      exact ⟨rfl, Below.refl _ _⟩
    · go_wp2_with fail
      refine HS0.out.mono ?_
      rintro e wC ⟨rfl, rfl⟩
      go_wp2_with fail
      refine (HT.out _ _ _ s0 a1.size (IntsR.lit2 _ _ _ _ _) (by simp; omega)).mono ?_
      rintro e wE ⟨rfl, rfl⟩
      have hsum : sumI [s0, (a1.size : Int)] = s0 + a1.size := by simp [sumI]
      by_cases hbig : 1000000 < s0 + a1.size
      · have hd : decide (1000000 < sumI [s0, (a1.size : Int)]) = true := by rw [hsum]; simp; omega
        rw [hd]
        clear hd hsum
        go_wp2
        go_ret
        exact ⟨rfl, (Below.refl _ _).alloc (Nat.le_refl _) _⟩
      · have hd : decide (1000000 < sumI [s0, (a1.size : Int)]) = false := by rw [hsum]; simp; omega
        rw [hd]
        have hm : l ≤ 1000000 := by have := hs0 (by omega); omega
        clear hd hsum hs0 hq0 hbig hzn
        obtain ⟨W1, hW1⟩ : ∃ W1, wC.alloc (.cells #[.int .i64 s0, .int .i64 (a1.size : Int)] 3) = W1 := ⟨_, rfl⟩
        have HB1 := Lib.hid (show Below wC.heap.size wC W1 by rw [← hW1]; exact (Below.refl wC.heap.size wC).alloc (Nat.le_refl _) _)
        rw [hW1]
        clear hW1
        have H1 := Lib.hid (H0.out _ HB1.out)
        have hs1 := HB1.out.size
        go_wp2_with (first | (at_builtin; refine wpList_append_any _ rfl (.tmp 20) (.tmp 21) _ rfl W1.heap.size 9 i0 _ 1 16 Try.underlying42 hi hz0 hz1 hz2 rfl (by omega) (.slice (some ⟨W1.heap.size, 0, none⟩) 0 0) 0 [] rfl (World.ownsRow_made W1 #[] 0 (Nat.le_refl _) (by simp [maxLen]) rfl) A0 l cap0 (strCells z0) rfl (CellsR.alloc H1.out _) (by rw [HCL.out]; omega) (strCells_one _) (by unfold maxLen; omega) (by omega) (by simp) ?_; intro A2 c2 w2 hown2 hg2 hat2; simp only [Nat.zero_add, List.nil_append] at hown2 ⊢; have HO2 := Lib.hid hown2; have HG2 := Lib.hid hg2; clear hown2 hg2 hat2) | (at_builtin; refine wpList_append_any _ rfl (.tmp 22) (.tmp 24) _ rfl W1.heap.size 9 i0 _ 1 16 Try.underlying42 hi hz0 hz1 hz2 rfl (by omega) (.slice A2 l c2) l (strCells z0) rfl (HO2.out.alloc _) (some ⟨w2.heap.size, 0, none⟩) 1 1 (strCells [a1]) rfl (str_lit1 _ _ _) rfl (strCells_one _) (by unfold maxLen; omega) (by omega) (by have := HG2.out.size; simp at this; simp; omega) ?_; intro A3 c3 w3 hown3 hg3 hat3; rw [HCA.out] at hown3; have HO3 := Lib.hid hown3; have HG3 := Lib.hid hg3; clear hown3 hg3 hat3))
        have hb3a := ((Below.refl W1.heap.size W1).alloc (Nat.le_refl _) (.cells #[] 9)).grown HG2.out (by simp) (by simp [Value.ownBlock])
        have hb3 := (hb3a.alloc hb3a.size (.cells #[.string a1] 9)).grown HG3.out (by have := hb3a.size; simp; omega) (fun g hg => (HO2.out.lt g hg).1)
        clear hb3a
        have HB3 := Lib.hid hb3; clear hb3
        have hc3 := own_capA HO3.out
        have R3 := Lib.hid (CellsR.of_own HO3.out)
        have H3 := Lib.hid (H0.out _ (HB1.out.trans (HB3.out.mono hs1)))
        have hs3 := HB3.out.size
        have HBA := Lib.hid (HB1.out.trans (HB3.out.mono hs1))
        clear HO3 HO2 HG2 HG3 HB3 H1 HB1
        go_wp2_with fail
        refine (D1.out _ H3.out hm).mono ?_
        rintro e w4 ⟨p4, D4, c4, rfl, o4, b4, hch4, hq4⟩
        rw [alike0 (fun i _ => E1.out i) hch4 hq4]
        have HBB := Lib.hid (HBA.out.trans (b4.mono (by omega)))
        have H4 := Lib.hid (CellsR.below H3.out b4 (Nat.le_refl _))
        have R4 := Lib.hid (CellsR.below R3.out b4 (Nat.le_refl _))
        have hs4 := b4.size
        clear o4 b4 hch4 hq4
        · go_wp2_with fail
          refine (D2.out _ A3 c3 H4.out R4.out hc3 hm).mono ?_
          rintro e w5 ⟨p5, D5, c5, rfl, o5, b5, hch5, hq5⟩
          rw [alike1 E2.out hch5 hq5]
          have HBC := Lib.hid (HBB.out.trans (b5.mono (by omega)))
          have H5 := Lib.hid (CellsR.below H4.out b5 (Nat.le_refl _))
          have R5 := Lib.hid (CellsR.below R4.out b5 (Nat.le_refl _))
          have hs5 := b5.size
          clear o5 b5 hch5 hq5
          go_wp2_with fail
          refine (D3.out _ A3 c3 H5.out R5.out hc3 hm).mono ?_
          rintro e w6 ⟨p6, D6, c6, rfl, o6, b6, hch6, hq6⟩
          rw [alike2 E3.out hch6 hq6]
          have HBD := Lib.hid (HBC.out.trans (b6.mono (by omega)))
          clear o6 b6 hch6 hq6
          go_wp2
          go_ret
          exact ⟨rfl, HBD.out⟩
end Go.Proofs.Ytbolgikdadhaeaa
