/-
  The walk of laws.FnApplyReference: for every input it returns true. No condition.
-/
import Derived.Test.YtoceakjnkillkaaImplS
import Derived.Test.YtoceakjnkillkaaAppToW
namespace Go.Proofs.Ytoceakjnkillkaa
set_option linter.unusedVariables false
open Go.RowKit Go.Shelf

theorem edLit (w : World) (t : TypeId) (x : Ed) : EdsR (w.alloc (.cells #[.int .i64 x.s, .int .i64 x.e, .string x.n] t)) (some ⟨w.heap.size, 0, none⟩) [x] := by
  have := cells_lit3 w t x
  unfold EdsR
  rw [edCells_cons, edCells_nil, List.append_nil]
  exact this
set_option maxRecDepth 100000 in
set_option maxHeartbeats 1000000 in
theorem FnApplyReference_walk (s0 : ByteArray) (A1 : Option Addr) (cap1 : Nat) (z1 : List Ed) (w : World) (ws0 : s0.size ≤ maxLen) (h1 : EdsR w A1 z1) (l1 : z1.length ≤ maxLen) (wf1 : ∀ k, k < z1.length → (Lit.int .i64 (eS z1 k)).wf = true ∧ (Lit.int .i64 (eE z1 k)).wf = true ∧ (eN z1 k).size ≤ maxLen) (kc1 : z1.length ≤ cap1) :
   Calls Try.prog 5 #[.string s0, .slice A1 z1.length cap1] w fun e w' => e = .returned (.bool true) ∧ Below w.heap.size w w' := by
  have hn : ∀ k, k < z1.length → (eN z1 k).size ≤ maxLen := fun k hk => (wf1 k hk).2.2
  have HF := Lib.hid (zzFits1_any A1 cap1 z1 w h1 l1 hn)
  have HS := Lib.hid (fun W (hW : Below w.heap.size w W) => sizeOfEdits_any A1 cap1 z1 W (EdsR.below h1 hW (Nat.le_refl _)) l1 hn)
  have ht := fun A c w' x y (h : IntsR .i64 w' A [x, y]) => tooLong_any A c [x, y] w' h (by simp)
  have HT := Lib.hid ht; clear ht
  have ha := fun W (hW : Below w.heap.size w W) (g1 : z1.length ≤ 1000000) (g2 : szE z1 ≤ 1000000) (g3 : s0.size ≤ 1000000) => applyTo_any s0 A1 cap1 z1 W (EdsR.below h1 hW (Nat.le_refl _)) kc1 (by omega) (by omega) (by rw [szE_perm (sortE_perm z1)]; omega) (fun h => told_order (by rw [h]; decide))
  have hp := fun W (hW : Below w.heap.size w W) (g1 : z1.length ≤ 1000000) (g2 : szE z1 ≤ 1000000) (g3 : s0.size ≤ 1000000) => implApply_gen s0 A1 cap1 z1 W (EdsR.below h1 hW (Nat.le_refl _)) (by omega) (by omega) (fun es' h => ⟨by rw [h.1.length_eq]; omega, by rw [szE_perm h.1]; omega⟩) (validate_all s0 z1 (by omega) (by omega) (by omega))
  have hta := fun (es' : List Ed) (g3 : s0.size ≤ 2000000) (h : SortOf z1 es') => told_apply g3 h
  have HA := Lib.hid ha; have HP := Lib.hid hp; have HTA := Lib.hid hta
  have hone := fun (W : World) (A : Option Addr) (c : Nat) (h : EdsR W A [⟨0, 1, ⟨#[]⟩⟩]) => implApply_any ⟨#[120]⟩ A c [⟨0, 1, ⟨#[]⟩⟩] [⟨0, 1, ⟨#[]⟩⟩] W h (by decide) (by simp) (by simp) (by decide) (validate_sorted ⟨#[120]⟩ [⟨0, 1, ⟨#[]⟩⟩] (by decide) (by simp) (by decide) rfl)
  unfold ImplApplyOut at hone
  rw [apF_x] at hone
  have HO := Lib.hid hone
  have hszl := len_le_szE z1
  have hnn := szR_nonneg z1
  have hcs := toldF_cases s0.size z1
  clear ha hp hta hone h1 wf1 hn kc1
  unfold AppTo at HA
  unfold ImplApplyG ImplApplyOut at HP
  obtain ⟨td, htd⟩ : ∃ td, toldF (s0.size : Int) z1 = td := ⟨_, rfl⟩
  obtain ⟨pb, hpb⟩ : ∃ pb, patchB s0 0 (sortE z1) = pb := ⟨_, rfl⟩
  obtain ⟨wn, hwn⟩ : ∃ wn, (if td = 0 then pb else (⟨#[]⟩ : ByteArray)) = wn := ⟨_, rfl⟩
  rw [htd] at HA HTA hcs
  rw [hpb] at HA HTA
  rw [hwn] at HA
  have HWN := Lib.hid hwn
  clear htd hpb hwn
  obtain ⟨n, hln⟩ : ∃ n, z1.length = n := ⟨_, rfl⟩
  rw [hln] at HF HS HA HP l1 hszl ⊢
  clear hln
  unfold maxLen at l1 ws0
  by_cases hb0 : (2147483647 : Int) < (s0.size : Int)
  · go_enter Try.func5, Try.ntmps5
    go_wp2
    go_ret
    exact ⟨rfl, Below.refl _ _⟩
  · go_enter Try.func5, Try.ntmps5
    go_wp2_with fail
    refine HF.out.mono ?_
    rintro e w1 ⟨⟨b, rfl⟩, hb1⟩
    have HB1 := Lib.hid hb1; clear hb1
    cases b
    · go_wp2
      go_ret
      exact ⟨rfl, HB1.out⟩
    · go_wp2_with fail
      refine (HS.out _ HB1.out).mono ?_
      rintro e w2 ⟨rfl, hb2⟩
      have HB2 := Lib.hid (HB1.out.trans (hb2.mono HB1.out.size)); clear hb2
      go_wp2_with fail
      refine (HT.out _ _ _ s0.size (szR z1) (IntsR.lit2 _ _ _ _ _) (by simp; omega)).mono ?_
      rintro e w3 ⟨rfl, rfl⟩
      have hsum : sumI [(s0.size : Int), szR z1] = (s0.size : Int) + szR z1 := by simp [sumI]
      by_cases hbig : 1000000 < (s0.size : Int) + szR z1
      · have hd : decide (1000000 < sumI [(s0.size : Int), szR z1]) = true := by rw [hsum]; simp; omega
        rw [hd]
        clear hd hsum
        go_wp2
        go_ret
        exact ⟨rfl, HB2.out.alloc HB2.out.size _⟩
      · have hd : decide (1000000 < sumI [(s0.size : Int), szR z1]) = false := by rw [hsum]; simp; omega
        rw [hd]
        have hsz : szE z1 ≤ 1000000 := szR_le (by omega)
        have HB3 := Lib.hid (HB2.out.alloc HB2.out.size (.cells #[.int .i64 (s0.size : Int), .int .i64 (szR z1)] 3))
        clear hd hsum
        have hs0 : s0.size ≤ 1000000 := by omega
        clear hbig
        go_wp2_with fail
        refine (HA.out _ HB3.out (by omega) hsz hs0).mono ?_
        rintro e w4 ⟨rfl, hb4⟩
        have HB4 := Lib.hid (HB3.out.trans (hb4.mono HB3.out.size)); clear hb4
        go_wp2_with fail
        refine (HP.out _ HB4.out (by omega) hsz hs0).mono ?_
        rintro e w5 ⟨es', hso, rfl, hb5⟩
        have HB5 := Lib.hid (HB4.out.trans (hb5.mono HB4.out.size)); clear hb5
        have hta := HTA.out es' (by omega) hso
        clear hso
        generalize haf : apF s0 es' = af at *
        clear haf
        go_wp2_with fail
        refine (HO.out _ _ 1 (edLit _ _ ⟨0, 1, ⟨#[]⟩⟩)).mono ?_
        rintro e w6 ⟨rfl, hb6⟩
        have HB6 := Lib.hid (HB5.out.trans (((Below.refl _ _).alloc (Nat.le_refl _) _).trans (hb6.mono (by simp)) |>.mono HB5.out.size)); clear hb6
        simp only [Option.getD_some, Option.isSome_some]
        rcases hta with ⟨h1, rfl⟩ | ⟨h1, _, rfl⟩
        · subst h1
          simp only [Option.getD_none, Option.isSome_none]
          go_wp2
          go_ret
          exact ⟨rfl, HB6.out⟩
        · rcases hcs with h2 | h2 | h2
          · subst h2
            have hw := HWN.out
            rw [if_pos rfl] at hw
            subst hw
            have heq : (pb.toList == pb.toList) = true := by simp
            simp only [Option.getD_some, Option.isSome_some]
            go_wp2
            go_ret
            exact ⟨rfl, HB6.out⟩
          · exact absurd h2 h1
          · subst h2
            simp only [Option.getD_some, Option.isSome_some]
            go_wp2
            go_ret
            exact ⟨rfl, HB6.out⟩
end Go.Proofs.Ytoceakjnkillkaa
