/-
  The walk of laws.FnApplyInsertions: it returns true. No condition.
-/
import Derived.Test.YtoceakjnkillkaaImplA
import Derived.Test.YtoceakjnkillkaaStrsW
namespace Go.Proofs.Ytoceakjnkillkaa
set_option linter.unusedVariables false
open Go.RowKit Go.Shelf

theorem IntsR.lit3 (kd : IntKind) (w : World) (t : TypeId) (x y z : Int) : IntsR kd (w.alloc (.cells #[.int kd x, .int kd y, .int kd z] t)) (some ⟨w.heap.size, 0, none⟩) [x, y, z] := by
  refine .inr ⟨_, _, rfl, fun j v hu => ?_⟩
  have := (Blk.new w t #[.int kd x, .int kd y, .int kd z]).cell (0 + j)
  rw [this]
  simpa [intCells] using hu
def insL (b : Nat) (ss : List ByteArray) : List Ed := ss.map fun s => ⟨b, b, s⟩
def catB : List ByteArray → ByteArray
  | [] => ByteArray.empty
  | x :: l => x ++ catB l
theorem catB_snoc (l : List ByteArray) (x : ByteArray) : catB (l ++ [x]) = catB l ++ x := by
  induction l with
  | nil => simp [catB]
  | cons y l ih => simp [catB, ih, ByteArray.append_assoc]
theorem catB_size (l : List ByteArray) : (catB l).size ≤ szS l := by
  induction l with
  | nil => simp [catB]
  | cons y l ih => simp [catB, szS]; omega
theorem insL_len (b : Nat) (ss : List ByteArray) : (insL b ss).length = ss.length := by simp [insL]
theorem insL_at (b : Nat) (ss : List ByteArray) (k : Nat) (h : k < ss.length) : edAt (insL b ss) k = ⟨b, b, sx ss k⟩ := by simp [insL, edAt, sx, h]
theorem insL_sz (b : Nat) (ss : List ByteArray) : szE (insL b ss) = szS ss := by
  induction ss with
  | nil => rfl
  | cons x l ih => simp only [insL, List.map_cons, szE, szS] at ih ⊢; rw [ih]
theorem insL_sorted (b : Nat) (ss : List ByteArray) : sortedW (insL b ss) = true := by
  rw [sortedW_iff]
  intro k hk
  rw [insL_len] at hk
  rw [insL_at b ss _ hk, insL_at b ss _ (by omega)]
  unfold lessW
  rw [if_pos (by simp; decide)]
  simp
theorem insL_order (N : Int) (b : Nat) (at_ : Int) (ss : List ByteArray) (h : (b : Int) ≤ N) (ha : at_ ≤ b) : inOrderF N at_ (insL b ss) = true := by
  induction ss generalizing at_ with
  | nil => rfl
  | cons x l ih =>
    have := ih b (Int.le_refl _)
    simp only [insL] at this
    simp only [insL, List.map_cons, inOrderF, insideB, Bool.and_eq_true, decide_eq_true_eq]
    exact ⟨⟨⟨by omega, by omega, h⟩, ha⟩, this⟩
theorem insL_patch (s : ByteArray) (b : Nat) (ss : List ByteArray) : patchB s b (insL b ss) = catB ss ++ s.extract b s.size := by
  induction ss with
  | nil => simp [insL, patchB, catB]
  | cons x l ih =>
    simp only [insL, List.map_cons] at ih ⊢
    rw [patchB_cons]
    simp only [Int.toNat_natCast]
    rw [ih, ByteArray.extract_eq_empty_iff.2 (by omega), ByteArray.empty_append, catB, ByteArray.append_assoc]
theorem apF_ins (b r : ByteArray) (ss : List ByteArray) : apF (b ++ r) (insL b.size ss) = some (b ++ catB ss ++ r) := by
  unfold apF
  rw [if_pos (insL_order _ _ _ _ (by simp only [ByteArray.size_append]; omega) (by omega))]
  congr 1
  have e2 : (b ++ r).extract 0 b.size = b := ByteArray.extract_append_eq_left rfl
  have e3 : (b ++ r).extract b.size (b ++ r).size = r := ByteArray.extract_append_eq_right (by simp) (by simp)
  cases ss with
  | nil =>
    simp only [insL, List.map_nil, patchB, catB, ByteArray.append_empty]
    exact ByteArray.extract_zero_size
  | cons x l =>
    have := insL_patch (b ++ r) b.size l
    simp only [insL, List.map_cons] at this ⊢
    rw [patchB_cons]
    simp only [Int.toNat_natCast]
    rw [this, e2, e3, catB]
    simp only [ByteArray.append_assoc]

set_option maxRecDepth 100000 in
set_option maxHeartbeats 1000000 in
theorem FnApplyInsertions_walk (b r : ByteArray) (A : Option Addr) (c : Nat) (ss : List ByteArray) (w : World) (l0 : b.size ≤ maxLen) (l1 : r.size ≤ maxLen)
    (hr : StrsR w A ss) (hl : ss.length ≤ maxLen) (hn : ∀ x ∈ ss, x.size ≤ maxLen) :
   Calls Try.prog 3 #[.string b, .string r, .slice A ss.length c] w fun e w' => e = .returned (.bool true) ∧ Below w.heap.size w w' := by
  obtain ⟨i0, hi, hz0, hz1, hz2⟩ := info_parts infoE
  have hf := zzFits3_any A c ss w hr hl hn
  have hs := sizeOf_any A c ss w hr hl hn
  have ht := fun A c w' x y z (h : IntsR .i64 w' A [x, y, z]) => tooLong_any A c [x, y, z] w' h (by simp)
  have HF := Lib.hid hf; clear hf
  have HS := Lib.hid hs; clear hs
  have HT := Lib.hid ht; clear ht hn
  have HR := Lib.hid hr; clear hr
  unfold maxLen at l0 l1 hl
  obtain ⟨n, hnl⟩ : ∃ n, ss.length = n := ⟨_, rfl⟩
  rw [hnl] at hl HF HS ⊢
  have LX := Lib.hid hnl; clear hnl
  by_cases h0 : 2147483647 < b.size
  · go_enter Try.func3, Try.ntmps3
    go_wp2
    go_ret
    exact ⟨rfl, Below.refl _ _⟩
  · by_cases h1 : 2147483647 < r.size
    · go_enter Try.func3, Try.ntmps3
      go_wp2
      go_ret
      exact ⟨rfl, Below.refl _ _⟩
    · go_enter Try.func3, Try.ntmps3
      go_wp2_with fail
      refine HF.out.mono ?_
      rintro e w1 ⟨⟨bb, rfl⟩, rfl⟩
      cases bb
      · go_wp2
        go_ret
        exact ⟨rfl, Below.refl _ _⟩
      · go_wp2_with fail
        refine HS.out.mono ?_
        rintro e w2 ⟨rfl, rfl⟩
        have hz := szSR_nonneg ss
        go_wp2_with fail
        refine (HT.out _ _ _ b.size r.size (szSR ss) (IntsR.lit3 _ _ _ _ _ _) (by simp; omega)).mono ?_
        rintro e w3 ⟨rfl, rfl⟩
        have hsum : sumI [(b.size : Int), (r.size : Int), szSR ss] = (b.size : Int) + r.size + szSR ss := by simp [sumI]; omega
        by_cases hbig : 1000000 < (b.size : Int) + r.size + szSR ss
        · have hd : decide (1000000 < sumI [(b.size : Int), (r.size : Int), szSR ss]) = true := by rw [hsum]; simp; omega
          rw [hd]
          clear hd hsum
          go_wp2
          go_ret
          exact ⟨rfl, (Below.refl _ _).alloc (Nat.le_refl _) _⟩
        · have hd : decide (1000000 < sumI [(b.size : Int), (r.size : Int), szSR ss]) = false := by rw [hsum]; simp; omega
          rw [hd]
          have hlen := szSR_le (ss := ss) (by omega)
          have hlen2 := len_le_szS ss
          rw [LX.out] at hlen2
          have hbt : b.size + r.size + szS ss ≤ 1000000 := by
            have : szSR ss = szS ss := by unfold szSR; rw [if_pos hlen]
            omega
          have hcb := catB_size ss
          have HCB := Lib.hid hcb; clear hcb
          clear hd hsum hbig hz
          go_wp2
          generalize hW : (w2.alloc (.cells #[.int .i64 (b.size : Int), .int .i64 (r.size : Int), .int .i64 (szSR ss)] 3)) = W at *
          have hWs : w2.heap.size + 1 = W.heap.size := by rw [← hW]; simp
          have hbW : Below w2.heap.size w2 W := by rw [← hW]; exact (Below.refl _ _).alloc (Nat.le_refl _) _
          clear hW
          rw [hWs]
          have HBW := Lib.hid hbW; clear hbW
          have hmade := World.ownsRow_made W (e := 28) (size := 3) #[] 0 (Nat.le_refl W.heap.size) (by simp [maxLen]) rfl
          have HMD := Lib.hid hmade; clear hmade
          go_loopg [7, 8, 38] n (fun q v x i wr => ∃ k : Nat, q = n - k ∧ k ≤ n ∧ i = .int .i64 k ∧ x = .string (b ++ catB (ss.take k)) ∧ wr.ownsRow W.heap.size 28 3 v k (edCells (insL b.size (ss.take k))) ∧ Below W.heap.size W wr)
          case atStart => exact ⟨0, by omega, by omega, rfl, by simp [catB], HMD.out, (Below.refl _ _).alloc (Nat.le_refl _) _⟩
          case round =>
            obtain ⟨k, hq, hk, rfl, rfl, hown, hb⟩ := hrel
            have HQ := Lib.hid hq; clear hq
            obtain ⟨A3, c3, rfl⟩ := own_form hown
            have hbs := hb.size
            have hbs2 := HBW.out.size
            by_cases hlt : k < n
            · have HBK := Lib.hid (HBW.out.trans (hb.mono hbs2))
              obtain ⟨b1, off, rfl, hbb, g1⟩ := (HR.out.below HBK.out (Nat.le_refl _)).at_ (k := k) (by rw [LX.out]; exact hlt)
              have htk := take_snoc_sx ss k (by rw [LX.out]; exact hlt)
              have hstk := szS_take ss k (by rw [LX.out]; exact hlt)
              have hstl := szS_take_le ss (k + 1)
              have hcs := catB_size (ss.take k)
              generalize hX : sx ss k = X at *
              have e1 : edCells (insL b.size (ss.take (k + 1))) = edCells (insL b.size (ss.take k)) ++ (Ed.cells ⟨b.size, b.size, X⟩) := by
                rw [htk]
                simp only [insL, List.map_append, edCells_append, List.map_cons, List.map_nil, edCells_cons, edCells_nil, List.append_nil]
              have e2 : catB (ss.take (k + 1)) = catB (ss.take k) ++ X := by rw [htk, catB_snoc]
              have E1 := Lib.hid e1; clear e1
              have E2 := Lib.hid e2; clear e2 htk hX
              have HO := Lib.hid hown; clear hown
              have HB := Lib.hid hb; clear hb
              generalize hC : catB (ss.take k) = C at *
              clear hC
              generalize szS (ss.take (k + 1)) = s1 at *
              generalize szS (ss.take k) = s0 at *
              go_wp2_with (at_builtin; refine wpList_append_any _ rfl (.tmp 42) (.tmp 49) _ rfl W.heap.size 28 i0 _ 3 32 Try.underlying26 hi hz0 hz1 hz2 rfl (by omega) (.slice A3 k c3) k (edCells (insL b.size (ss.take k))) rfl (HO.out.alloc _) (some ⟨wr.heap.size, 0, none⟩) 1 1 (Ed.cells ⟨b.size, b.size, X⟩) rfl (cells_lit3 wr 28 ⟨b.size, b.size, X⟩) rfl (edCells1 _) (by unfold maxLen; omega) (by omega) (by simp; omega) ?_; intro A5 c5 w5 hown5 hg5 hat5; have HO5 := Lib.hid hown5; have HB5 := Lib.hid ((HB.out.alloc (by omega) (.cells #[.int .i64 (b.size : Int), .int .i64 (b.size : Int), .string X] 28)).grown hg5 (by simp; omega) (fun q h => (HO.out.lt q h).1)); clear hown5 hg5 hat5)
              go_roundg (n - (k + 1))
              case measure => have := HQ.out; omega
              case rel => exact ⟨k + 1, rfl, by omega, by go_num, by rw [E2.out, ByteArray.append_assoc], by rw [E1.out]; exact HO5.out, HB5.out⟩
            · have hkn : k = n := by omega
              subst hkn
              have htk : ss.take k = ss := by rw [← LX.out, List.take_length]
              rw [htk] at hown ⊢
              have HBK := Lib.hid (HBW.out.trans (hb.mono hbs2))
              have hlz := insL_sz b.size ss
              have hll := insL_len b.size ss
              rw [LX.out] at hll
              have hap := apF_ins b r ss
              have hval := validate_sorted (b ++ r) (insL b.size ss) (by simp only [ByteArray.size_append]; omega) (by omega) (by omega) (insL_sorted _ _)
              have himp := implApply_any (b ++ r) A3 c3 (insL b.size ss) (insL b.size ss) wr (CellsR.of_own hown) (by simp only [ByteArray.size_append]; omega) (by omega) (by omega) (by omega) hval
              rw [hll] at himp
              unfold ImplApplyOut at himp
              rw [hap] at himp
              have HIM := Lib.hid himp; clear himp hval hown hb hap
              have hcs := HCB.out
              go_wp2_with fail
              refine HIM.out.mono ?_
              rintro e w6 ⟨rfl, hb6⟩
              simp only [Option.getD_some, Option.isSome_some]
              have HB6 := Lib.hid (HBK.out.trans (hb6.mono HBK.out.size))
              clear hb6
              go_wp2
              go_ret
              exact ⟨rfl, HB6.out⟩
end Go.Proofs.Ytoceakjnkillkaa
