/-
  The walk of laws.FnLineEdits: for every input it returns true. No condition.
-/
import Derived.Test.YtoceakjnkillkaaImplL
import Derived.Test.YtoceakjnkillkaaValidS
import Derived.Test.YtoceakjnkillkaaToldS
import Derived.Test.YtoceakjnkillkaaTxtB
import Derived.Test.YtoceakjnkillkaaLinesR2
namespace Go.Proofs.Ytoceakjnkillkaa
set_option linter.unusedVariables false
open Go.RowKit Go.Shelf

/-- what the reference makes of edits in order -/
theorem appTo_edX {s : ByteArray} {es : List Ed} {c : Nat} (h : inOrderF s.size 0 es = true) (h3 : szE es ≤ 4000000) (h4 : es.length ≤ 2000000) (hs : s.size ≤ 1000000) (A : Option Addr) (w : World) (hr : EdsR w A es) (hc : es.length ≤ c) :
    Calls Try.prog 16 #[.string s, .slice A es.length c] w fun e w' => e = .returned (.tuple #[.string (patchB s 0 es), .int .i64 0]) ∧ Below w.heap.size w w' := by
  have h1 := sortE_order h
  have h2 := toldF_order h
  refine (applyTo_any s A c es w hr hc (by omega) (by omega) (by rw [h1]; omega) (fun _ => by rw [h1]; exact h)).mono ?_
  rintro e w' ⟨he, hb⟩
  rw [h2, if_pos rfl, h1] at he
  exact ⟨he, hb⟩
theorem inOrder_edX {s : ByteArray} {es : List Ed} {c : Nat} (h : inOrderF s.size 0 es = true) (h4 : es.length ≤ 2000000) (A : Option Addr) (w : World) (hr : EdsR w A es) :
    Calls Try.prog 22 #[.slice A es.length c, .int .i64 s.size] w fun e w' => e = .returned (.bool true) ∧ Below w.heap.size w w' := by
  refine (inOrder_any A c es s.size w hr (by omega)).mono ?_
  rintro e w' ⟨he, hb⟩
  rw [h] at he
  exact ⟨he, hb⟩
theorem atLines_edX {s : ByteArray} {es : List Ed} {c : Nat} (h : ∀ x ∈ es, AtL s x) (h3 : szE es ≤ 4000000) (h4 : es.length ≤ 2000000) (hs : s.size ≤ 1000000) (A : Option Addr) (w : World) (hr : EdsR w A es) :
    Calls Try.prog 23 #[.string s, .slice A es.length c] w fun e w' => e = .returned (.bool true) ∧ Below w.heap.size w w' := by
  refine atLines_any s A c es w (by omega) hr (by omega) (fun k hk => by have := szE_at (es := es) k hk; omega) (fun k hk => ?_)
  obtain ⟨p, q, g1, g2, g3, g4, g5⟩ := h es[k] (List.getElem_mem hk)
  exact ⟨p, q, by simpa [eS, edAt, hk] using g1, by simpa [eE, edAt, hk] using g2, g3, g4, by simpa [eN, edAt, hk] using g5⟩
/-- without edits -/
theorem lineEdits_none (W : World) : Calls Try.prog 21 #[.string ⟨#[]⟩, .slice none 0 0] W fun e w' => (∃ A c, e = .returned (.tuple #[.slice A 0 c, .bool true])) ∧ Below W.heap.size W w' := by
  refine (implLineEdits_any (P := fun l => l = []) ⟨#[]⟩ none 0 [] W (.inl rfl) (by decide) (by simp) (fun es' h => by subst h; simp [szE]) (fun A c w h => (validate_sorted ⟨#[]⟩ [] (by decide) (by simp) (by simp [szE]) rfl A c w h).mono fun e w' h => ⟨[], rfl, h⟩)).mono ?_
  rintro e w' ⟨es', rfl, hb, ⟨_, A, c, rfl, _⟩ | ⟨hio, _⟩⟩
  · exact ⟨⟨A, c, rfl⟩, hb⟩
  · cases hio
set_option maxRecDepth 100000 in
set_option maxHeartbeats 1000000 in
theorem FnLineEdits_walk (s0 : ByteArray) (A1 : Option Addr) (cap1 : Nat) (z1 : List Ed) (w : World) (ws0 : s0.size ≤ maxLen) (h1 : EdsR w A1 z1) (l1 : z1.length ≤ maxLen) (wf1 : ∀ k, k < z1.length → (Lit.int .i64 (eS z1 k)).wf = true ∧ (Lit.int .i64 (eE z1 k)).wf = true ∧ (eN z1 k).size ≤ maxLen) (kc1 : z1.length ≤ cap1) :
   Calls Try.prog 9 #[.string s0, .slice A1 z1.length cap1] w fun e w' => e = .returned (.bool true) ∧ Below w.heap.size w w' := by
  have hn : ∀ k, k < z1.length → (eN z1 k).size ≤ maxLen := fun k hk => (wf1 k hk).2.2
  have HF := Lib.hid (zzFits1_any A1 cap1 z1 w h1 l1 hn)
  have HS := Lib.hid (fun W (hW : Below w.heap.size w W) => sizeOfEdits_any A1 cap1 z1 W (EdsR.below h1 hW (Nat.le_refl _)) l1 hn)
  have ht := fun A c w' x y (h : IntsR .i64 w' A [x, y]) => tooLong_any A c [x, y] w' h (by simp)
  have HT := Lib.hid ht; clear ht
  have ha := fun W (hW : Below w.heap.size w W) (g1 : z1.length ≤ 1000000) (g2 : szE z1 ≤ 1000000) (g3 : s0.size ≤ 1000000) => applyTo_any s0 A1 cap1 z1 W (EdsR.below h1 hW (Nat.le_refl _)) kc1 (by omega) (by omega) (by rw [szE_perm (sortE_perm z1)]; omega) (fun h => told_order (by rw [h]; decide))
  have hp := fun W (hW : Below w.heap.size w W) (g1 : z1.length ≤ 1000000) (g2 : szE z1 ≤ 1000000) (g3 : s0.size ≤ 1000000) => implLineEdits_any s0 A1 cap1 z1 W (EdsR.below h1 hW (Nat.le_refl _)) g3 g1 (fun es' h => ⟨h.1.length_eq, by rw [h.1.length_eq]; omega, by rw [szE_perm h.1]; omega⟩) (validate_all s0 z1 (by omega) (by omega) (by omega))
  have hta := fun (es' : List Ed) (g3 : s0.size ≤ 2000000) (h : SortOf z1 es') => told_apply g3 h
  have HA := Lib.hid ha; have HP := Lib.hid hp; have HTA := Lib.hid hta
  have HO := Lib.hid lineEdits_none
  have hszl := len_le_szE z1
  have hnn := szR_nonneg z1
  have hcs := toldF_cases s0.size z1
  have hps := fun es' (h : SortOf z1 es') => (⟨h.1.length_eq, szE_perm h.1⟩ : es'.length = z1.length ∧ szE es' = szE z1)
  have HPS := Lib.hid hps
  clear ha hp hta h1 wf1 hn kc1 hps
  unfold AppTo at HA
  unfold ImplLinG at HP
  obtain ⟨td, htd⟩ : ∃ td, toldF (s0.size : Int) z1 = td := ⟨_, rfl⟩
  obtain ⟨pb, hpb⟩ : ∃ pb, patchB s0 0 (sortE z1) = pb := ⟨_, rfl⟩
  obtain ⟨wn, hwn⟩ : ∃ wn, (if td = 0 then pb else (⟨#[]⟩ : ByteArray)) = wn := ⟨_, rfl⟩
  rw [htd] at HA HTA hcs
  rw [hpb] at HA HTA
  rw [hwn] at HA
  have HWN := Lib.hid hwn; have HPB := Lib.hid hpb
  clear htd hpb hwn
  obtain ⟨n, hln⟩ : ∃ n, z1.length = n := ⟨_, rfl⟩
  rw [hln] at HF HS HA HP HPS l1 hszl ⊢
  clear hln
  unfold maxLen at l1 ws0
  by_cases hb0 : (2147483647 : Int) < (s0.size : Int)
  · go_enter Try.func9, Try.ntmps9
    go_wp2
    go_ret
    exact ⟨rfl, Below.refl _ _⟩
  · go_enter Try.func9, Try.ntmps9
    go_wp2_with fail
    refine HF.out.mono ?_
    rintro e w1 ⟨⟨b, rfl⟩, hb1⟩
    have HB1 := Lib.hid hb1; clear hb1
    cases b
    · go_wp2
      go_ret
      exact ⟨rfl, HB1.out⟩
    · go_wp2_with fail
      refine (HS.out _ HB1.out).mono ?_
      rintro e w2 ⟨rfl, hb2⟩
      have HB2 := Lib.hid (HB1.out.trans (hb2.mono HB1.out.size)); clear hb2
      go_wp2_with fail
      refine (HT.out _ _ _ s0.size (szR z1) (IntsR.lit2 _ _ _ _ _) (by simp; omega)).mono ?_
      rintro e w3 ⟨rfl, rfl⟩
      have hsum : sumI [(s0.size : Int), szR z1] = (s0.size : Int) + szR z1 := by simp [sumI]
      by_cases hbig : 1000000 < (s0.size : Int) + szR z1
      · have hd : decide (1000000 < sumI [(s0.size : Int), szR z1]) = true := by rw [hsum]; simp; omega
        rw [hd]
        clear hd hsum
        go_wp2
        go_ret
        exact ⟨rfl, HB2.out.alloc HB2.out.size _⟩
      · have hd : decide (1000000 < sumI [(s0.size : Int), szR z1]) = false := by rw [hsum]; simp; omega
        rw [hd]
        have hsz : szE z1 ≤ 1000000 := szR_le (by omega)
        have HB3 := Lib.hid (HB2.out.alloc HB2.out.size (.cells #[.int .i64 (s0.size : Int), .int .i64 (szR z1)] 3))
        clear hd hsum
        have hs0 : s0.size ≤ 1000000 := by omega
        clear hbig
        go_wp2_with fail
        refine (HP.out _ HB3.out (by omega) hsz hs0).mono ?_
        rintro e w4 ⟨es', hso, hb4, hres⟩
        have HB4 := Lib.hid (HB3.out.trans (hb4.mono HB3.out.size)); clear hb4
        have hta := HTA.out es' (by omega) hso
        have hps := HPS.out es' hso
        clear hso
        rcases hres with ⟨hio, A5, c5, rfl, hr5, hc5⟩ | ⟨hio, A5, c5, rfl⟩
        · rcases hta with ⟨h1, haf⟩ | ⟨h1, hes, haf⟩
          · unfold apF at haf
            rw [if_pos hio] at haf
            cases haf
          · have hg := lineF_good hio
            have hrs := hg.size
            have hrl := hg.len
            have hrp : patchB s0 0 (lineF s0 es') = pb := by rw [hg.patch, hes, HPB.out]
            have ho := hg.order
            have hat := hg.at_
            clear hg haf hes
            generalize lineF s0 es' = r at *
            have ha2 := fun W (h : EdsR W A5 r) => appTo_edX (c := c5) ho (by omega) (by omega) hs0 A5 W h hc5
            have hi2 := fun W (h : EdsR W A5 r) => inOrder_edX (c := c5) ho (by omega) A5 W h
            have hl2 := fun W (h : EdsR W A5 r) => atLines_edX (c := c5) hat (by omega) (by omega) hs0 A5 W h
            rw [hrp] at ha2
            have HA2 := Lib.hid ha2; have HI2 := Lib.hid hi2; have HL2 := Lib.hid hl2; have HR5 := Lib.hid hr5
            clear ha2 hi2 hl2 hr5 hrp ho hat hio hps
            obtain ⟨rn, hrn⟩ : ∃ rn, r.length = rn := ⟨_, rfl⟩
            rw [hrn] at HA2 HI2 HL2 ⊢
            clear hrn hrs hrl hc5
            go_wp2_with fail
            refine (HA.out _ HB4.out (by omega) hsz hs0).mono ?_
            rintro e w5 ⟨rfl, hb5⟩
            have HR6 := Lib.hid (EdsR.below HR5.out hb5 (Nat.le_refl _))
            have HB5 := Lib.hid (HB4.out.trans (hb5.mono HB4.out.size)); clear hb5
            go_wp2_with fail
            refine (HO.out _).mono ?_
            rintro e w6 ⟨⟨A7, c7, rfl⟩, hb6⟩
            have HR7 := Lib.hid (EdsR.below HR6.out hb6 (Nat.le_refl _))
            have HB6 := Lib.hid (HB5.out.trans (hb6.mono HB5.out.size)); clear hb6
            rcases hcs with h2 | h2 | h2
            · subst h2
              have hw := HWN.out
              rw [if_pos rfl] at hw
              subst hw
              go_wp2_with fail
              refine (HA2.out _ HR7.out).mono ?_
              rintro e w7 ⟨rfl, hb7⟩
              have HR8 := Lib.hid (EdsR.below HR7.out hb7 (Nat.le_refl _))
              have HB7 := Lib.hid (HB6.out.trans (hb7.mono HB6.out.size)); clear hb7
              have heq : (pb.toList == pb.toList) = true := by simp
              go_wp2_with fail
              refine (HI2.out _ HR8.out).mono ?_
              rintro e w8 ⟨rfl, hb8⟩
              have HR9 := Lib.hid (EdsR.below HR8.out hb8 (Nat.le_refl _))
              have HB8 := Lib.hid (HB7.out.trans (hb8.mono HB7.out.size)); clear hb8
              go_wp2_with fail
              refine (HL2.out _ HR9.out).mono ?_
              rintro e w9 ⟨rfl, hb9⟩
              have HB9 := Lib.hid (HB8.out.trans (hb9.mono HB8.out.size)); clear hb9
              go_wp2
              go_ret
              exact ⟨rfl, HB9.out⟩
            · exact absurd h2 h1
            · subst h2
              go_wp2
              go_ret
              exact ⟨rfl, HB6.out⟩
        · rcases hta with ⟨h1, haf⟩ | ⟨h1, hes, haf⟩
          · subst h1
            clear haf hcs hio hps
            go_wp2_with fail
            refine (HA.out _ HB4.out (by omega) hsz hs0).mono ?_
            rintro e w5 ⟨rfl, hb5⟩
            have HB5 := Lib.hid (HB4.out.trans (hb5.mono HB4.out.size)); clear hb5
            go_wp2_with fail
            refine (HO.out _).mono ?_
            rintro e w6 ⟨⟨A7, c7, rfl⟩, hb6⟩
            have HB6 := Lib.hid (HB5.out.trans (hb6.mono HB5.out.size)); clear hb6
            go_wp2
            go_ret
            exact ⟨rfl, HB6.out⟩
          · unfold apF at haf
            rw [if_neg (by rw [hio]; simp)] at haf
            cases haf
end Go.Proofs.Ytoceakjnkillkaa
