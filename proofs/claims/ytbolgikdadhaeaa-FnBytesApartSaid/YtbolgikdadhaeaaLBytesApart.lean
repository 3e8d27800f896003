/-
  The walk of laws.FnBytesApart: for every input it returns true. No condition.
-/
import Derived.Test.YtbolgikdadhaeaaLcsC
import Derived.Test.YtbolgikdadhaeaaLcsA
namespace Go.Proofs.Ytbolgikdadhaeaa
set_option linter.unusedVariables false
open Go.RowKit

theorem own_grownA {w w' : World} {base e size n : Nat} {v : Value} {xs : List Value} {row : Option Nat} (ho : w.ownsRow base e size v n xs) (hb : w.grownBy w' row) (hne : ∀ g, v.ownBlock = some g → some g ≠ row) : w'.ownsRow base e size v n xs := by
  refine ⟨ho.1, ?_⟩
  rcases ho.2 with hn | ⟨g', cap, cur, hv, hg, hgg, rest⟩
  · exact .inl hn
  · exact .inr ⟨g', cap, cur, hv, hg, by rw [hb.block g' (Array.getElem?_eq_some_iff.1 hgg).1 (hne g' (by rw [hv]; rfl))]; exact hgg, rest⟩
def halves (zs : List Int) : List Int := zs.map (· / 2)
def uppers (zs : List Int) : List Int := zs.map (fun x => 128 + x / 2)
theorem halves_ix (zs : List Int) (k : Nat) (h : k < zs.length) : ix (halves zs) k = ix zs k / 2 := by simp [ix, halves, h]
theorem uppers_ix (zs : List Int) (k : Nat) (h : k < zs.length) : ix (uppers zs) k = 128 + ix zs k / 2 := by simp [ix, uppers, h]
theorem u8_bd {zs : List Int} (hw : ∀ n ∈ zs, (Lit.int .u8 n).wf = true) {k : Nat} (h : k < zs.length) : 0 ≤ ix zs k ∧ ix zs k ≤ 255 := by
  have := hw _ (ix_mem zs k h)
  simp [Lit.wf, IntKind.min, IntKind.max, IntKind.bits, IntKind.signed] at this
  omega
theorem apart_eq {z0 z1 : List Int} (h0 : ∀ n ∈ z0, (Lit.int .u8 n).wf = true) (h1 : ∀ n ∈ z1, (Lit.int .u8 n).wf = true) (i j : Nat) (hi : i < z0.length) (hj : j < z1.length) : eqI (halves z0) (uppers z1) i j = false := by
  have a := u8_bd h0 hi
  have b := u8_bd h1 hj
  simp only [eqI, halves_ix z0 i hi, uppers_ix z1 j hj, decide_eq_false_iff_not]
  omega
theorem apart12 (i j : Nat) (hi : i < 1) (hj : j < 1) : eqI [1] [2] i j = false := by
  have h1 : i = 0 := by omega
  have h2 : j = 0 := by omega
  subst h1 h2
  rfl
theorem intTakeA (k : IntKind) (zs : List Int) (i : Nat) (h : i < zs.length) : intCells k (zs.take (i + 1)) = intCells k (zs.take i) ++ intCells k [ix zs i] := by
  rw [List.take_succ_eq_append_getElem h]
  unfold intCells
  rw [List.map_append]
  simp [ix, h]

set_option maxRecDepth 100000 in
set_option maxHeartbeats 2000000 in
theorem FnBytesApart_walk (A0 : Option Addr) (cap0 : Nat) (z0 : List Int) (A1 : Option Addr) (cap1 : Nat) (z1 : List Int) (w : World) (h0 : IntsR .u8 w A0 z0) (l0 : z0.length ≤ maxLen) (wf0 : ∀ n ∈ z0, (Lit.int .u8 n).wf = true) (h1 : IntsR .u8 w A1 z1) (l1 : z1.length ≤ maxLen) (wf1 : ∀ n ∈ z1, (Lit.int .u8 n).wf = true) :
   Calls Try.prog 6 #[.slice A0 z0.length cap0, .slice A1 z1.length cap1] w fun e w' => e = .returned (.bool true) ∧ Below w.heap.size w w' := by
  obtain ⟨i0, hi, hz0, hz1, hz2⟩ := info_parts infoU
  have H0 := Lib.hid (fun W (hW : Below w.heap.size w W) => IntsR.below h0 hW (Nat.le_refl _))
  have H1 := Lib.hid (fun W (hW : Below w.heap.size w W) => IntsR.below h1 hW (Nat.le_refl _))
  have ht := fun A c w' x y (h : IntsR .i64 w' A [x, y]) => tooLong_any A c [x, y] w' h (by simp)
  have HT := Lib.hid ht
  unfold maxLen at l0 l1
  have d1 := fun W A C c d (hx : IntsR .u8 W A (halves z0)) (hy : IntsR .u8 W C (uppers z1)) (hc : z0.length ≤ c) (hd : z1.length ≤ d) (g1 : z0.length ≤ 1000000) (g2 : z1.length ≤ 1000000) => difBytes (c := c) (d := d) hx hy (by simpa [halves] using hc) (by simpa [uppers] using hd) (by simp [halves]; omega) (by simp [uppers]; omega)
  simp only [halves, uppers, List.length_map] at d1
  have d2 := fun W A C c d (hx : IntsR .u8 W A [1]) (hy : IntsR .u8 W C [2]) (hc : 1 ≤ c) (hd : 1 ≤ d) => difBytes (c := c) (d := d) hx hy (by simpa using hc) (by simpa using hd) (by simp) (by simp)
  simp only [List.length_singleton] at d2
  have hae := apart_eq wf0 wf1
  simp only [halves, uppers] at hae
  have hb0 : ∀ k, k < z0.length → 0 ≤ ix z0 k ∧ ix z0 k ≤ 255 := fun k hk => u8_bd wf0 hk
  have hb1 : ∀ k, k < z1.length → 0 ≤ ix z1 k ∧ ix z1 k ≤ 255 := fun k hk => u8_bd wf1 hk
  have ht0 : ∀ k, k < z0.length → intCells .u8 ((halves z0).take (k + 1)) = intCells .u8 ((halves z0).take k) ++ intCells .u8 [ix z0 k / 2] := fun k hk => by rw [intTakeA _ _ _ (by simpa [halves] using hk), halves_ix z0 k hk]
  have ht1 : ∀ k, k < z1.length → intCells .u8 ((uppers z1).take (k + 1)) = intCells .u8 ((uppers z1).take k) ++ intCells .u8 [128 + ix z1 k / 2] := fun k hk => by rw [intTakeA _ _ _ (by simpa [uppers] using hk), uppers_ix z1 k hk]
  have hl0 : (halves z0).take z0.length = halves z0 := List.take_of_length_le (by simp [halves])
  have hl1 : (uppers z1).take z1.length = uppers z1 := List.take_of_length_le (by simp [uppers])
  have D1 := Lib.hid d1; have D2 := Lib.hid d2; have HAE := Lib.hid hae; have HB0 := Lib.hid hb0; have HB1 := Lib.hid hb1; have HT0 := Lib.hid ht0; have HT1 := Lib.hid ht1; have HL0 := Lib.hid hl0; have HL1 := Lib.hid hl1
  clear d1 d2 hae hb0 hb1 ht0 ht1 hl0 hl1 ht h0 h1 wf0 wf1
  have HLA := Lib.hid (fun W k (h : k < z0.length) (hr : IntsR .u8 W A0 z0) => IntsR.at_ hr h)
  have HLB := Lib.hid (fun W k (h : k < z1.length) (hr : IntsR .u8 W A1 z1) => IntsR.at_ hr h)
  generalize hX : halves z0 = X at *
  generalize hY : uppers z1 = Y at *
  have HX := Lib.hid hX; have HY := Lib.hid hY
  clear hX hY
  obtain ⟨l, hln⟩ : ∃ n, z0.length = n := ⟨_, rfl⟩
  obtain ⟨m, hlm⟩ : ∃ n, z1.length = n := ⟨_, rfl⟩
  rw [hln] at l0 D1 HAE HB0 HT0 HL0 HLA ⊢
  rw [hlm] at l1 D1 HAE HB1 HT1 HL1 HLB ⊢
  clear hln hlm
  by_cases hb0 : 2147483647 < l
  · go_enter Try.func6, Try.ntmps6
    go_wp2
    go_ret
    exact ⟨rfl, Below.refl _ _⟩
  · by_cases hb1 : 2147483647 < m
    · go_enter Try.func6, Try.ntmps6
      go_wp2
      go_ret
      exact ⟨rfl, Below.refl _ _⟩
    · go_enter Try.func6, Try.ntmps6
      go_wp2_with fail
      refine (HT.out _ _ _ l m (IntsR.lit2 _ _ _ _ _) (by simp; omega)).mono ?_
      rintro e w' ⟨rfl, rfl⟩
      have hsum : sumI [(l : Int), (m : Int)] = (l : Int) + m := by simp [sumI]
      by_cases hbig : 1000000 < l + m
      · have hd : decide (1000000 < sumI [(l : Int), (m : Int)]) = true := by rw [hsum]; simp; omega
        rw [hd]
        clear hd hsum
        go_wp2
        go_ret
        exact ⟨rfl, (Below.refl _ _).alloc (Nat.le_refl _) _⟩
      · have hd : decide (1000000 < sumI [(l : Int), (m : Int)]) = false := by rw [hsum]; simp; omega
        rw [hd]
        clear hd hsum
        obtain ⟨W1, hW1⟩ : ∃ W1, w.alloc (.cells #[.int .i64 (l : Int), .int .i64 (m : Int)] 3) = W1 := ⟨_, rfl⟩
        have hbw1 : Below w.heap.size w W1 := by rw [← hW1]; exact (Below.refl w.heap.size w).alloc (Nat.le_refl _) _
        have HBW := Lib.hid hbw1
        have hws := hbw1.size
        rw [hW1]
        clear hW1 hbw1
        have hmx : ((W1.alloc (.cells #[] 5)).alloc (.cells #[] 5)).ownsRow W1.heap.size 5 1 (.slice (some ⟨W1.heap.size, 0, none⟩) 0 0) 0 [] := (World.ownsRow_made W1 #[] 0 (Nat.le_refl _) (by simp [maxLen]) rfl).alloc _
        have hmy : ((W1.alloc (.cells #[] 5)).alloc (.cells #[] 5)).ownsRow W1.heap.size 5 1 (.slice (some ⟨W1.heap.size + 1, 0, none⟩) 0 0) 0 [] := by
          have := World.ownsRow_made (base := W1.heap.size) (e := 5) (size := 1) (W1.alloc (.cells #[] 5)) #[] 0 (by simp) (by simp [maxLen]) rfl
          simpa using this
        have hbm : Below W1.heap.size W1 ((W1.alloc (.cells #[] 5)).alloc (.cells #[] 5)) := ((Below.refl _ _).alloc (Nat.le_refl _) _).alloc (by simp) _
        have HMX := Lib.hid hmx; have HMY := Lib.hid hmy; have HBM := Lib.hid hbm
        clear hmx hmy hbm
        go_wp2
        go_loopg [5, 30] l (fun q v i wr => ∃ k : Nat, q = l - k ∧ k ≤ l ∧ i = .int .i64 k ∧ wr.ownsRow W1.heap.size 5 1 v k (intCells .u8 (X.take k)) ∧ wr.ownsRow W1.heap.size 5 1 (.slice (some ⟨W1.heap.size + 1, 0, none⟩) 0 0) 0 [] ∧ v.ownBlock ≠ some (W1.heap.size + 1) ∧ Below W1.heap.size W1 wr)
        case atStart => exact ⟨0, rfl, Nat.zero_le _, rfl, HMX.out, HMY.out, by simp [Value.ownBlock], HBM.out⟩
        case round =>
          obtain ⟨k, hq, hk, rfl, hox, hoy, hne, hb⟩ := hrel
          have HQ := Lib.hid hq; have HOX := Lib.hid hox; have HOY := Lib.hid hoy; have HNE := Lib.hid hne; have HB := Lib.hid hb
          have hbs := hb.size
          have hlt1 := (hoy.lt _ rfl).2
          obtain ⟨AX, cX, rfl⟩ := own_form hox
          clear hq hox hoy hne hb
          by_cases hlt : k < l
          · obtain ⟨b, off, hA, hbb, g1⟩ := HLA.out wr k hlt (H0.out _ (HBW.out.trans (HB.out.mono hws)))
            subst hA
            have hbd := HB0.out k hlt
            have ht := HT0.out k hlt
            obtain ⟨p, hp⟩ : ∃ p, ix z0 k = p := ⟨_, rfl⟩
            rw [hp] at g1 hbd ht
            obtain ⟨h, hh⟩ : ∃ h, p / 2 = h := ⟨_, rfl⟩
            have hdv : p.tdiv 2 = h := by rw [Int.tdiv_eq_ediv_of_nonneg hbd.1]; exact hh
            rw [hh] at ht
            have hh0 : 0 ≤ h ∧ h ≤ 127 := by omega
            have HTT := Lib.hid ht; clear ht hp hh
            go_wp2_with (at_builtin; refine wpList_append_any _ rfl (.tmp 34) (.tmp 37) _ rfl W1.heap.size 5 i0 _ 1 1 Try.underlying22 hi hz0 hz1 hz2 rfl (by omega) (.slice AX k cX) k (intCells .u8 (X.take k)) rfl (HOX.out.alloc _) (some ⟨wr.heap.size, 0, none⟩) 1 1 (intCells .u8 [h]) rfl (IntsR.lit1 _ _ _ _) rfl (intCells_one _ _) (by unfold maxLen; omega) (by omega) (by simp; omega) ?_; intro A5 c5 w5 hown5 hg5 hat5)
            have hoy5 := own_grownA (HOY.out.alloc (.cells #[.int .u8 h] 5)) hg5 (fun g hg h9 => HNE.out (by rw [← h9]; exact hg.symm ▸ rfl))
            have hne5 : (Value.slice A5 (k + 1) c5).ownBlock ≠ some (W1.heap.size + 1) := by
              rcases hat5 with h9 | h9
              · rw [h9]; exact HNE.out
              · rw [h9]; simp; omega
            have hb5 := (HB.out.alloc hbs (.cells #[.int .u8 h] 5)).grown hg5 (by simp; omega) (fun g hg => (HOX.out.lt g hg).1)
            have HO5 := Lib.hid hown5; have HOY5 := Lib.hid hoy5; have HNE5 := Lib.hid hne5; have HB5 := Lib.hid hb5
            clear hown5 hg5 hat5 hoy5 hne5 hb5
            go_wp2
            go_roundg (l - (k + 1))
            case measure => have := HQ.out; omega
            case rel => exact ⟨k + 1, rfl, by omega, by go_num, by rw [HTT.out]; exact HO5.out, HOY5.out, HNE5.out, HB5.out⟩
          · obtain rfl : k = l := by omega
            have hox := HOX.out
            rw [HL0.out] at hox
            have HOX2 := Lib.hid hox
            clear hox HOX
            have hinit : ∀ g, (Value.slice AX k cX).ownBlock = some g → (Value.slice (some ⟨W1.heap.size + 1, 0, none⟩) 0 0).ownBlock ≠ some g := fun g hg h9 => HNE.out (by rw [hg, ← h9]; rfl)
            have HIN := Lib.hid hinit; clear hinit
            go_wp2
            go_loopg [6, 42] m (fun q v i wr2 => ∃ j : Nat, q = m - j ∧ j ≤ m ∧ i = .int .i64 j ∧ wr2.ownsRow W1.heap.size 5 1 v j (intCells .u8 (Y.take j)) ∧ wr2.ownsRow W1.heap.size 5 1 (.slice AX k cX) k (intCells .u8 X) ∧ (∀ g, (Value.slice AX k cX).ownBlock = some g → v.ownBlock ≠ some g) ∧ Below W1.heap.size W1 wr2)
            case atStart => exact ⟨0, rfl, Nat.zero_le _, rfl, HOY.out, HOX2.out, HIN.out, HB.out⟩
            case round =>
              obtain ⟨j, hq, hk2, rfl, hoy, hox, hne, hb⟩ := hrel
              have HQ2 := Lib.hid hq; have HOX3 := Lib.hid hox; have HOY3 := Lib.hid hoy; have HNE3 := Lib.hid hne; have HB3 := Lib.hid hb
              have hbs3 := hb.size
              obtain ⟨AY, cY, rfl⟩ := own_form hoy
              clear hq hox hoy hne hb HOX2 HOY HNE HB HIN
              by_cases hlt2 : j < m
              · obtain ⟨b, off, hA, hbb, g1⟩ := HLB.out wr j hlt2 (H1.out _ (HBW.out.trans (HB3.out.mono hws)))
                subst hA
                have hbd := HB1.out j hlt2
                have ht := HT1.out j hlt2
                obtain ⟨p, hp⟩ : ∃ p, ix z1 j = p := ⟨_, rfl⟩
                rw [hp] at g1 hbd ht
                obtain ⟨h, hh⟩ : ∃ h, p / 2 = h := ⟨_, rfl⟩
                have hdv : p.tdiv 2 = h := by rw [Int.tdiv_eq_ediv_of_nonneg hbd.1]; exact hh
                rw [hh] at ht
                have hh0 : 0 ≤ h ∧ h ≤ 127 := by omega
                obtain ⟨u, hu⟩ : ∃ u, 128 + h = u := ⟨_, rfl⟩
                rw [hu] at ht
                have hu0 : 128 ≤ u ∧ u ≤ 255 := by omega
                have HTT := Lib.hid ht; clear ht hp hh
                go_wp2_with (at_builtin; refine wpList_append_any _ rfl (.tmp 46) (.tmp 50) _ rfl W1.heap.size 5 i0 _ 1 1 Try.underlying22 hi hz0 hz1 hz2 rfl (by omega) (.slice AY j cY) j (intCells .u8 (Y.take j)) rfl (HOY3.out.alloc _) (some ⟨wr.heap.size, 0, none⟩) 1 1 (intCells .u8 [u]) rfl (IntsR.lit1 _ _ _ _) rfl (intCells_one _ _) (by unfold maxLen; omega) (by omega) (by simp; omega) ?_; intro A5 c5 w5 hown5 hg5 hat5)
                have hox5 := own_grownA (HOX3.out.alloc (.cells #[.int .u8 u] 5)) hg5 (fun g hg h9 => HNE3.out g hg h9.symm)
                have hlx := HOX3.out.lt
                have hne5 : ∀ g, (Value.slice AX k cX).ownBlock = some g → (Value.slice A5 (j + 1) c5).ownBlock ≠ some g := by
                  intro g hg
                  rcases hat5 with h9 | h9
                  · rw [h9]; exact HNE3.out g hg
                  · rw [h9]
                    have := (hlx g hg).2
                    simp; omega
                have hb5 := (HB3.out.alloc hbs3 (.cells #[.int .u8 u] 5)).grown hg5 (by simp; omega) (fun g hg => (HOY3.out.lt g hg).1)
                have HO5 := Lib.hid hown5; have HOX5 := Lib.hid hox5; have HNE5 := Lib.hid hne5; have HB5 := Lib.hid hb5
                clear hown5 hg5 hat5 hox5 hne5 hb5 hlx
                go_wp2
                go_roundg (m - (j + 1))
                case measure => have := HQ2.out; omega
                case rel => exact ⟨j + 1, rfl, by omega, by go_num, by rw [HTT.out]; exact HO5.out, HOX5.out, HNE5.out, HB5.out⟩
              · obtain rfl : j = m := by omega
                have hoy := HOY3.out
                rw [HL1.out] at hoy
                have HOY4 := Lib.hid hoy
                clear hoy HOY3
                have hcx := own_capA HOX3.out
                have hcy := own_capA HOY4.out
                have HBA := Lib.hid (HBW.out.trans (HB3.out.mono hws))
                have hsa := HBA.out.size
                have hlist2 : (Below w.heap.size w ((wr.alloc (.cells #[.int .u8 1] 5)).alloc (.cells #[.int .u8 2] 5))) := (HBA.out.alloc hsa _).alloc (by simp; omega) _
                have HL2 := Lib.hid hlist2
                have hd2 := D2.out ((wr.alloc (.cells #[.int .u8 1] 5)).alloc (.cells #[.int .u8 2] 5)) (some ⟨wr.heap.size, 0, none⟩) (some ⟨wr.heap.size + 1, 0, none⟩) 1 1 (CellsR.alloc (IntsR.lit1 .u8 wr 5 1) _) (by have := IntsR.lit1 .u8 (wr.alloc (.cells #[.int .u8 1] 5)) 5 2; simpa using this) (Nat.le_refl _) (Nat.le_refl _)
                have HD2 := Lib.hid hd2
                clear hlist2 hd2
                by_cases hl0 : k = 0
                · have hb1 : ((k : Int) == 0) = true := by simp [hl0]
                  clear hl0
                  go_wp2_with fail
                  refine HD2.out.mono ?_
                  rintro e w6 ⟨ps, D, cd, rfl, o6, b6, hch, hq6⟩
                  rw [apart_nil apart12 hch, apart_one (by omega)]
                  have HB6 := Lib.hid (HL2.out.trans (b6.mono HL2.out.size))
                  clear o6 b6 hch hq6
                  go_wp2
                  go_ret
                  exact ⟨rfl, HB6.out⟩
                · have hb1 : ((k : Int) == 0) = false := by simp [hl0]
                  by_cases hm0 : j = 0
                  · have hb2 : ((j : Int) == 0) = true := by simp [hm0]
                    clear hl0 hm0
                    go_wp2_with fail
                    refine HD2.out.mono ?_
                    rintro e w6 ⟨ps, D, cd, rfl, o6, b6, hch, hq6⟩
                    rw [apart_nil apart12 hch, apart_one (by omega)]
                    have HB6 := Lib.hid (HL2.out.trans (b6.mono HL2.out.size))
                    clear o6 b6 hch hq6
                    go_wp2
                    go_ret
                    exact ⟨rfl, HB6.out⟩
                  · have hb2 : ((j : Int) == 0) = false := by simp [hm0]
                    have hx := CellsR.of_own HOX3.out
                    have hy := CellsR.of_own HOY4.out
                    rw [← HX.out] at hx
                    rw [← HY.out] at hy
                    have hd := D1.out wr AX AY cX cY hx hy hcx hcy (by omega) (by omega)
                    have HD := Lib.hid hd
                    have hk1 : 0 < k := by omega
                    clear hd hx hy HD2 hl0 hm0
                    go_wp2_with fail
                    refine HD.out.mono ?_
                    rintro e w6 ⟨ps, D, cd, rfl, o6, b6, hch, hq6⟩
                    rw [apart_nil HAE.out hch, apart_one hk1] at o6
                    rw [apart_nil HAE.out hch, apart_one hk1]
                    have HB6 := Lib.hid (HBA.out.trans (b6.mono hsa))
                    have hr6 := CellsR.of_own o6
                    clear b6 hch hq6 o6
                    rcases hr6 with h9 | ⟨b9, off9, rfl, hc9⟩
                    · cases h9
                    · have c0 := hc9 0 _ rfl
                      have c1 := hc9 1 _ rfl
                      have c2 := hc9 2 _ rfl
                      have c3 := hc9 3 _ rfl
                      clear hc9
                      simp only [Nat.add_zero] at c0
                      go_wp2
                      go_ret
                      exact ⟨rfl, HB6.out⟩
end Go.Proofs.Ytbolgikdadhaeaa
