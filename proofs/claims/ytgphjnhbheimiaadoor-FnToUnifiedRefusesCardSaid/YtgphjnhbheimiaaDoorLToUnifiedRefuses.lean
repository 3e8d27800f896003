/-
  The walk of laws.FnToUnifiedRefuses: for every input it returns true, where the table of powers of ten lies in memory.
-/
import Derived.Test.YtgphjnhbheimiaaDoorUniT
import Derived.Test.YtgphjnhbheimiaaDoorValidS
import Derived.Test.YtgphjnhbheimiaaDoorToldS
namespace Go.Proofs.YtgphjnhbheimiaaDoor
set_option linter.unusedVariables false
open Go.RowKit Go.Shelf

def ctxI (n : Int) : Int := 1 + (n.tmod 8 + 8).tmod 8
theorem ctxI_bd (n : Int) : 1 ≤ ctxI n ∧ ctxI n ≤ 8 := by
  unfold ctxI
  have h1 := Int.lt_tmod_of_pos n (show (0 : Int) < 8 by omega)
  have h2 := Int.tmod_lt_of_pos n (show (0 : Int) < 8 by omega)
  have h3 : 0 ≤ (n.tmod 8 + 8).tmod 8 := Int.tmod_nonneg _ (by omega)
  have h4 := Int.tmod_lt_of_pos (n.tmod 8 + 8) (show (0 : Int) < 8 by omega)
  omega
theorem ret_intU {a b : Int} (h : a = b) : Ending.returned (.int .i64 a) = Ending.returned (.int .i64 b) := by rw [h]
set_option maxHeartbeats 400000 in
theorem context_any (n : Int) (w : World) : Calls Tryd.prog 8 #[.int .i64 n] w fun e w' => e = .returned (.int .i64 (ctxI n)) ∧ w = w' := by
  have h1 := Int.lt_tmod_of_pos n (show (0 : Int) < 8 by omega)
  have h2 := Int.tmod_lt_of_pos n (show (0 : Int) < 8 by omega)
  have h3 : 0 ≤ (n.tmod 8 + 8).tmod 8 := Int.tmod_nonneg _ (by omega)
  have h4 := Int.tmod_lt_of_pos (n.tmod 8 + 8) (show (0 : Int) < 8 by omega)
  go_enter Tryd.func8, Tryd.ntmps8
  go_wp2
  go_ret
  exact ⟨ret_intU (by unfold ctxI; rw [Int.tmod_eq_emod_of_nonneg (show 0 ≤ n.tmod 8 + 8 by omega)]; omega), rfl⟩
theorem contextD_any (w : World) : Calls Tryd.prog 10 #[] w fun e w' => e = .returned (.int .i64 3) ∧ w = w' := by
  go_enter Tryd.func10, Tryd.ntmps10
  go_wp2
  go_ret
  exact ⟨rfl, rfl⟩
theorem apF_none {s : ByteArray} {es : List Ed} (h : apF s es = none) : inOrderF s.size 0 es = false := by
  unfold apF at h
  cases ho : inOrderF s.size 0 es with
  | false => rfl
  | true => rw [if_pos ho] at h; cases h
theorem apF_some {s p : ByteArray} {es : List Ed} (h : apF s es = some p) : inOrderF s.size 0 es = true := by
  unfold apF at h
  cases ho : inOrderF s.size 0 es with
  | true => rfl
  | false => rw [if_neg (by rw [ho]; simp)] at h; cases h
set_option maxRecDepth 100000 in
set_option maxHeartbeats 1000000 in
theorem FnToUnifiedRefuses_walk (s0 : ByteArray) (A1 : Option Addr) (cap1 : Nat) (z1 : List Ed) (i2 : Int) (w : World) (ws0 : s0.size ≤ maxLen) (h1 : EdsR w A1 z1) (l1 : z1.length ≤ maxLen) (wf1 : ∀ k, k < z1.length → (Lit.int .i64 (eS z1 k)).wf = true ∧ (Lit.int .i64 (eE z1 k)).wf = true ∧ (eN z1 k).size ≤ maxLen) (kc1 : z1.length ≤ cap1) (wi2 : (Lit.int .i64 i2).wf = true) (hT : TabP w) :
   Calls Tryd.prog 3 #[.string s0, .slice A1 z1.length cap1, .int .i64 i2] w fun e w' => e = .returned (.bool true) ∧ Below w.heap.size w w' := by
  have hn : ∀ k, k < z1.length → (eN z1 k).size ≤ maxLen := fun k hk => (wf1 k hk).2.2
  have HF := Lib.hid (zzFits1_any A1 cap1 z1 w h1 l1 hn)
  have HS := Lib.hid (fun W (hW : Below w.heap.size w W) => sizeOfEdits_any A1 cap1 z1 W (EdsR.below h1 hW (Nat.le_refl _)) l1 hn)
  have ht := fun A c w' x y (h : IntsR .i64 w' A [x, y]) => tooLong_any A c [x, y] w' h (by simp)
  have HTL := Lib.hid ht; clear ht
  have hb := ctxI_bd i2
  have hp := fun W (hW : Below w.heap.size w W) (g1 : z1.length ≤ 1000000) (g2 : szE z1 ≤ 1000000) (g3 : s0.size ≤ 1000000) => implToUnified_any s0 ⟨#[97]⟩ ⟨#[98]⟩ (ctxI i2) A1 cap1 z1 W (EdsR.below h1 hW (Nat.le_refl _)) g3 (by decide) (by omega) (by omega) g1 (fun h => by subst h; exact ⟨List.Perm.refl _, fun _ => rfl⟩) (fun es' h => ⟨h.1.length_eq, by rw [h.1.length_eq]; omega, by rw [szE_perm h.1]; omega, by rw [szE_perm h.1, h.1.length_eq]; omega⟩) (validate_all s0 z1 (by omega) (by omega) (by omega)) (hT.below hW (Nat.le_refl _))
  have ho := fun W (hW : Below w.heap.size w W) (g1 : z1.length ≤ 1000000) => toldOf_any A1 cap1 z1 s0.size W (EdsR.below h1 hW (Nat.le_refl _)) kc1 (by omega)
  have hta := fun (es' : List Ed) (g3 : s0.size ≤ 2000000) (h : SortOf z1 es') => told_apply g3 h
  have HP := Lib.hid hp; have HO := Lib.hid ho; have HTA := Lib.hid hta; have HCX := Lib.hid (fun W => context_any i2 W); have HCD := Lib.hid contextD_any
  have hszl := len_le_szE z1
  have hnn := szR_nonneg z1
  have hcs := toldF_cases s0.size z1
  clear hp ho hta h1 wf1 hn kc1 hT hb wi2
  unfold ITG at HP
  obtain ⟨td, htd⟩ : ∃ td, toldF (s0.size : Int) z1 = td := ⟨_, rfl⟩
  rw [htd] at HO HTA hcs
  obtain ⟨cx, hcx⟩ : ∃ cx, ctxI i2 = cx := ⟨_, rfl⟩
  rw [hcx] at HCX HP
  clear htd hcx
  obtain ⟨n, hln⟩ : ∃ n, z1.length = n := ⟨_, rfl⟩
  rw [hln] at HF HS HP HO l1 hszl ⊢
  clear hln
  unfold maxLen at l1 ws0
  by_cases hb0 : (2147483647 : Int) < (s0.size : Int)
  · go_enter Tryd.func3, Tryd.ntmps3
    go_wp2
    go_ret
    exact ⟨rfl, Below.refl _ _⟩
  · go_enter Tryd.func3, Tryd.ntmps3
    go_wp2_with fail
    refine HF.out.mono ?_
    rintro e w1 ⟨⟨b, rfl⟩, hb1⟩
    have HB1 := Lib.hid hb1; clear hb1
    cases b
    · go_wp2
      go_ret
      exact ⟨rfl, HB1.out⟩
    · go_wp2_with fail
      refine (HS.out _ HB1.out).mono ?_
      rintro e w2 ⟨rfl, hb2⟩
      have HB2 := Lib.hid (HB1.out.trans (hb2.mono HB1.out.size)); clear hb2
      go_wp2_with fail
      refine (HTL.out _ _ _ s0.size (szR z1) (IntsR.lit2 _ _ _ _ _) (by simp; omega)).mono ?_
      rintro e w3 ⟨rfl, rfl⟩
      have hsum : sumI [(s0.size : Int), szR z1] = (s0.size : Int) + szR z1 := by simp [sumI]
      by_cases hbig : 1000000 < (s0.size : Int) + szR z1
      · have hd : decide (1000000 < sumI [(s0.size : Int), szR z1]) = true := by rw [hsum]; simp; omega
        rw [hd]
        clear hd hsum
        go_wp2
        go_ret
        exact ⟨rfl, HB2.out.alloc HB2.out.size _⟩
      · have hd : decide (1000000 < sumI [(s0.size : Int), szR z1]) = false := by rw [hsum]; simp; omega
        rw [hd]
        have hsz : szE z1 ≤ 1000000 := szR_le (by omega)
        have HB3 := Lib.hid (HB2.out.alloc HB2.out.size (.cells #[.int .i64 (s0.size : Int), .int .i64 (szR z1)] 3))
        clear hd hsum
        have hs0 : s0.size ≤ 1000000 := by omega
        clear hbig
        go_wp2_with fail
        refine (HCX.out _).mono ?_
        rintro e w9 ⟨rfl, rfl⟩
        go_wp2_with fail
        refine (HP.out _ HB3.out (by omega) hsz hs0).mono ?_
        rintro e w4 ⟨es', hso, hb4, hres⟩
        have HB4 := Lib.hid (HB3.out.trans (hb4.mono HB3.out.size)); clear hb4
        have hta := HTA.out es' (by omega) hso
        clear hso
        rcases hres with ⟨hio, rfl⟩ | ⟨hio, rfl⟩
        · have htd : ¬ td = 1 := by
            rcases hta with ⟨_, h⟩ | ⟨h, _⟩
            · rw [apF_none h] at hio; cases hio
            · exact h
          clear hta hio
          go_wp2_with fail
          refine (HO.out _ HB4.out (by omega)).mono ?_
          rintro e w5 ⟨rfl, hb5⟩
          have HB5 := Lib.hid (HB4.out.trans (hb5.mono HB4.out.size)); clear hb5
          go_wp2_with fail
          refine (HCD.out _).mono ?_
          rintro e w6 ⟨rfl, rfl⟩
          rcases hcs with h2 | h2 | h2
          · subst h2
            go_wp2
            go_ret
            exact ⟨rfl, HB5.out⟩
          · exact absurd h2 htd
          · subst h2
            go_wp2
            go_ret
            exact ⟨rfl, HB5.out⟩
        · have htd : td = 1 := by
            rcases hta with ⟨h, _⟩ | ⟨_, _, h⟩
            · exact h
            · rw [apF_some h] at hio; cases hio
          subst htd
          clear hta hio hcs
          go_wp2_with fail
          refine (HO.out _ HB4.out (by omega)).mono ?_
          rintro e w5 ⟨rfl, hb5⟩
          have HB5 := Lib.hid (HB4.out.trans (hb5.mono HB4.out.size)); clear hb5
          go_wp2_with fail
          refine (HCD.out _).mono ?_
          rintro e w6 ⟨rfl, rfl⟩
          go_wp2
          go_ret
          exact ⟨rfl, HB5.out⟩
end Go.Proofs.YtgphjnhbheimiaaDoor
