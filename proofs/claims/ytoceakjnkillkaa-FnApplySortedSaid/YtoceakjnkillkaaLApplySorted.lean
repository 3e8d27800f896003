/-
  The walk of laws.FnApplySorted: for every input it returns true. No condition.
-/
import Derived.Test.YtoceakjnkillkaaImplS
import Derived.Test.YtoceakjnkillkaaToldW
import Derived.Test.YtoceakjnkillkaaLApplyReference
namespace Go.Proofs.Ytoceakjnkillkaa
set_option linter.unusedVariables false
open Go.RowKit Go.Shelf

set_option maxRecDepth 100000 in
set_option maxHeartbeats 1000000 in
theorem FnApplySorted_walk (s0 : ByteArray) (A1 : Option Addr) (cap1 : Nat) (z1 : List Ed) (w : World) (ws0 : s0.size ≤ maxLen) (h1 : EdsR w A1 z1) (l1 : z1.length ≤ maxLen) (wf1 : ∀ k, k < z1.length → (Lit.int .i64 (eS z1 k)).wf = true ∧ (Lit.int .i64 (eE z1 k)).wf = true ∧ (eN z1 k).size ≤ maxLen) (kc1 : z1.length ≤ cap1) :
   Calls Try.prog 7 #[.string s0, .slice A1 z1.length cap1] w fun e w' => e = .returned (.bool true) ∧ Below w.heap.size w w' := by
  have hn : ∀ k, k < z1.length → (eN z1 k).size ≤ maxLen := fun k hk => (wf1 k hk).2.2
  have HF := Lib.hid (zzFits1_any A1 cap1 z1 w h1 l1 hn)
  have HS := Lib.hid (fun W (hW : Below w.heap.size w W) => sizeOfEdits_any A1 cap1 z1 W (EdsR.below h1 hW (Nat.le_refl _)) l1 hn)
  have ht := fun A c w' x y (h : IntsR .i64 w' A [x, y]) => tooLong_any A c [x, y] w' h (by simp)
  have HT := Lib.hid ht; clear ht
  have hp := fun W (hW : Below w.heap.size w W) (g1 : z1.length ≤ 1000000) (g2 : szE z1 ≤ 1000000) (g3 : s0.size ≤ 1000000) => implApply_gen s0 A1 cap1 z1 W (EdsR.below h1 hW (Nat.le_refl _)) (by omega) (by omega) (fun es' h => ⟨by rw [h.1.length_eq]; omega, by rw [szE_perm h.1]; omega⟩) (validate_all s0 z1 (by omega) (by omega) (by omega))
  have hq := fun (W : World) (A : Option Addr) (c : Nat) (es : List Ed) (h : EdsR W A es) (hpm : es.Perm z1) (g1 : z1.length ≤ 1000000) (g2 : szE z1 ≤ 1000000) (g3 : s0.size ≤ 1000000) => implApply_gen s0 A c es W h (by omega) (by rw [hpm.length_eq]; omega) (fun es' h => ⟨by rw [h.1.length_eq, hpm.length_eq]; omega, by rw [szE_perm h.1, szE_perm hpm]; omega⟩) (validate_all s0 es (by rw [hpm.length_eq]; omega) (by omega) (by rw [szE_perm hpm]; omega))
  have hq2 : ∀ (W : World) (A : Option Addr) (c : Nat) (es : List Ed), EdsR W A es → es.Perm z1 → z1.length ≤ 1000000 → szE z1 ≤ 1000000 → s0.size ≤ 1000000 → Calls Try.prog 13 #[.string s0, .slice A z1.length c] W (ImplApplyG s0 (SortOf es) W) := by
    intro W A c es h hpm g1 g2 g3
    have := hq W A c es h hpm g1 g2 g3
    rwa [hpm.length_eq] at this
  have hso := fun W (hW : Below w.heap.size w W) (g1 : z1.length ≤ 1000000) => implSort_any A1 cap1 z1 W (EdsR.below h1 hW (Nat.le_refl _)) (by omega)
  have htd := fun W (hW : Below w.heap.size w W) (g1 : z1.length ≤ 1000000) => toldOf_any A1 cap1 z1 s0.size W (EdsR.below h1 hW (Nat.le_refl _)) kc1 (by omega)
  have hta := fun (es' : List Ed) (g3 : s0.size ≤ 2000000) (h : SortOf z1 es') => told_apply g3 h
  have htb := fun (es es' : List Ed) (g3 : s0.size ≤ 2000000) (h : SortOf z1 es) (h' : SortOf es es') => told_apply2 g3 h h'
  have HP := Lib.hid hp; have HQ := Lib.hid hq2; have HSO := Lib.hid hso; have HTD := Lib.hid htd; have HTA := Lib.hid hta; have HTB := Lib.hid htb
  have hone := fun (W : World) (A : Option Addr) (c : Nat) (h : EdsR W A [⟨0, 0, ⟨#[120]⟩⟩]) => implSort_any A c [⟨0, 0, ⟨#[120]⟩⟩] W h (by simp)
  have HO := Lib.hid hone
  have hszl := len_le_szE z1
  have hnn := szR_nonneg z1
  have hcs := toldF_cases s0.size z1
  clear hp hq hq2 hso htd hta htb hone h1 wf1 hn kc1
  unfold ImplApplyG ImplApplyOut at HP HQ
  unfold ImplSortOut at HSO HO
  obtain ⟨td, htd⟩ : ∃ td, toldF (s0.size : Int) z1 = td := ⟨_, rfl⟩
  obtain ⟨pb, hpb⟩ : ∃ pb, patchB s0 0 (sortE z1) = pb := ⟨_, rfl⟩
  rw [htd] at HTD HTA HTB hcs
  rw [hpb] at HTA HTB
  clear htd hpb
  obtain ⟨n, hln⟩ : ∃ n, z1.length = n := ⟨_, rfl⟩
  rw [hln] at HF HS HP HQ HSO HTD l1 hszl ⊢
  clear hln
  unfold maxLen at l1 ws0
  by_cases hb0 : (2147483647 : Int) < (s0.size : Int)
  · go_enter Try.func7, Try.ntmps7
    go_wp2
    go_ret
    exact ⟨rfl, Below.refl _ _⟩
  · go_enter Try.func7, Try.ntmps7
    go_wp2_with fail
    refine HF.out.mono ?_
    rintro e w1 ⟨⟨b, rfl⟩, hb1⟩
    have HB1 := Lib.hid hb1; clear hb1
    cases b
    · go_wp2
      go_ret
      exact ⟨rfl, HB1.out⟩
    · go_wp2_with fail
      refine (HS.out _ HB1.out).mono ?_
      rintro e w2 ⟨rfl, hb2⟩
      have HB2 := Lib.hid (HB1.out.trans (hb2.mono HB1.out.size)); clear hb2
      go_wp2_with fail
      refine (HT.out _ _ _ s0.size (szR z1) (IntsR.lit2 _ _ _ _ _) (by simp; omega)).mono ?_
      rintro e w3 ⟨rfl, rfl⟩
      have hsum : sumI [(s0.size : Int), szR z1] = (s0.size : Int) + szR z1 := by simp [sumI]
      by_cases hbig : 1000000 < (s0.size : Int) + szR z1
      · have hd : decide (1000000 < sumI [(s0.size : Int), szR z1]) = true := by rw [hsum]; simp; omega
        rw [hd]
        clear hd hsum
        go_wp2
        go_ret
        exact ⟨rfl, HB2.out.alloc HB2.out.size _⟩
      · have hd : decide (1000000 < sumI [(s0.size : Int), szR z1]) = false := by rw [hsum]; simp; omega
        rw [hd]
        have hsz : szE z1 ≤ 1000000 := szR_le (by omega)
        have HB3 := Lib.hid (HB2.out.alloc HB2.out.size (.cells #[.int .i64 (s0.size : Int), .int .i64 (szR z1)] 3))
        clear hd hsum
        have hs0 : s0.size ≤ 1000000 := by omega
        clear hbig
        go_wp2_with fail
        refine (HP.out _ HB3.out (by omega) hsz hs0).mono ?_
        rintro e w5 ⟨es', hso, rfl, hb5⟩
        have HB5 := Lib.hid (HB3.out.trans (hb5.mono HB3.out.size)); clear hb5
        have hta := HTA.out es' (by omega) hso
        clear hso
        obtain ⟨af, haf⟩ : ∃ af, apF s0 es' = af := ⟨_, rfl⟩
        rw [haf] at hta ⊢
        have HTA2 := Lib.hid hta
        clear haf hta
        go_wp2_with fail
        refine (HSO.out _ HB5.out (by omega)).mono ?_
        rintro e w6 ⟨es2, A2, c2, hso2, rfl, hr2, hb6⟩
        have HR2 := Lib.hid hr2; have HB6 := Lib.hid (HB5.out.trans (hb6.mono HB5.out.size)); have HSO2 := Lib.hid hso2
        clear hr2 hb6 hso2
        go_wp2_with fail
        refine (HQ.out _ A2 c2 es2 HR2.out HSO2.out.1 (by omega) hsz hs0).mono ?_
        rintro e w7 ⟨es3, hso3, rfl, hb7⟩
        have htb := HTB.out es2 es3 (by omega) HSO2.out hso3
        obtain ⟨bf, hbf⟩ : ∃ bf, apF s0 es3 = bf := ⟨_, rfl⟩
        rw [hbf] at htb ⊢
        have HTB2 := Lib.hid htb; have HB7 := Lib.hid (HB6.out.trans (hb7.mono HB6.out.size))
        clear hbf htb hb7 hso3
        go_wp2_with fail
        refine (HTD.out _ HB7.out (by omega)).mono ?_
        rintro e w8 ⟨rfl, hb8⟩
        have HB8 := Lib.hid (HB7.out.trans (hb8.mono HB7.out.size)); clear hb8
        go_wp2_with fail
        refine (HO.out _ _ 1 (edLit _ _ ⟨0, 0, ⟨#[120]⟩⟩)).mono ?_
        rintro e w9 ⟨es4, A4, c4, _, rfl, _, hb9⟩
        have HB9 := Lib.hid (HB8.out.trans (((Below.refl _ _).alloc (Nat.le_refl _) _).trans (hb9.mono (by simp)) |>.mono HB8.out.size)); clear hb9
        rcases HTA2.out with ⟨h1, rfl⟩ | ⟨h1, _, rfl⟩
        · rcases HTB2.out with ⟨_, rfl⟩ | ⟨h2, _⟩
          · subst h1
            simp only [Option.getD_none, Option.isSome_none]
            go_wp2
            go_ret
            exact ⟨rfl, HB9.out⟩
          · exact absurd h1 h2
        · rcases HTB2.out with ⟨h2, _⟩ | ⟨_, rfl⟩
          · exact absurd h2 h1
          · rcases hcs with h2 | h2 | h2
            · subst h2
              have heq : (pb.toList == pb.toList) = true := by simp
              simp only [Option.getD_some, Option.isSome_some]
              go_wp2
              go_ret
              exact ⟨rfl, HB9.out⟩
            · exact absurd h2 h1
            · subst h2
              simp only [Option.getD_some, Option.isSome_some]
              go_wp2
              go_ret
              exact ⟨rfl, HB9.out⟩
end Go.Proofs.Ytoceakjnkillkaa
