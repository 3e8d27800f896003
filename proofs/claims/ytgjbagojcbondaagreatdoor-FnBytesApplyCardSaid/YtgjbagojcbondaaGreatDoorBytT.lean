/-
  A text turned into bytes and back: diff.ApplyBytes and impl.ApplyBytes. Condition: at most 2000000 edits, texts of at most 2000000 bytes.
  impl.Apply over the edits between two texts. Condition: texts of at most 1000000 bytes together.
  The walk of laws.FnBytesApply: for every input it returns true, where the tables of unicode/utf8 lie in memory.
-/
import Derived.Test.YtgjbagojcbondaaGreatDoorAplE
import Derived.Lib.ConvBytes
import Derived.Test.YtgjbagojcbondaaGreatDoorStrB
import Derived.Test.YtgjbagojcbondaaGreatDoorBytE
import Derived.Test.YtgjbagojcbondaaGreatDoorBytQ
namespace Go.Proofs.YtgjbagojcbondaaGreatDoor
set_option linter.unusedVariables false
open Go.RowKit Go.Shelf

theorem below_bytes (w : World) (e : TypeId) (s : ByteArray) : Below w.heap.size w (Lib.bytesWorld w e s) :=
  ⟨rfl, rfl, rfl, by rw [Lib.bytesWorld_size]; omega, fun g hg => Lib.bytesWorld_at_old w e s g hg⟩
theorem cells_bytes (w : World) (e : TypeId) (s : ByteArray) : CellsR (Lib.bytesWorld w e s) (some ⟨w.heap.size, 0, none⟩) (Lib.strCells s) := by
  refine .inr ⟨_, _, rfl, fun j u hu => ?_⟩
  have hj : j < s.size := by
    have := (List.getElem?_eq_some_iff.1 hu).1
    rwa [Lib.strCells_length] at this
  rw [Nat.zero_add, Lib.bytesWorld_cell w e s j hj, ← hu]
  simp [Lib.strCells, hj]

/-- what diff.ApplyBytes gives -/
def AppBOut (s : ByteArray) (P : List Ed → Prop) (w : World) (e : Ending) (w' : World) : Prop :=
  ∃ es' A n c r, P es' ∧ n = ((apF s es').getD ⟨#[]⟩).size ∧ e = .returned (.tuple #[.slice A n c, r]) ∧ CellsR w' A (Lib.strCells ((apF s es').getD ⟨#[]⟩)) ∧ ((apF s es').isSome = true ∧ r = .nilIface ∨ (apF s es').isSome = false ∧ ∃ T v, r = .iface T v) ∧ Below w.heap.size w w'
set_option maxRecDepth 100000 in
set_option maxHeartbeats 1000000 in
theorem applyBytes_gen {P : List Ed → Prop} (s : ByteArray) (B : Option Addr) (m d : Nat) (A : Option Addr) (c : Nat) (es : List Ed) (w : World) (hB : CellsR w B (Lib.strCells s)) (hm : s.size = m) (hr : EdsR w A es) (hs : s.size ≤ 2000000) (hP : ∀ es', P es' → es'.length ≤ 2000000 ∧ szE es' ≤ 4000000)
    (hv : ∀ A c w, EdsR w A es → Calls Tryz.prog 56 #[.string s, .slice A es.length c] w (ValidG s.size c P w)) :
    Calls Tryz.prog 29 #[.slice B m d, .slice A es.length c] w (AppBOut s P w) := by
  have ha := apply_gen s A c es w hs hP (hv A c w hr)
  have HA := Lib.hid ha
  have kc := run_conv_str (P := Tryz.prog) w 41 9 5 Tryz.underlying41 Tryz.underlying5 Tryz.underlying9 (c := d) hB hm
  have kb := fun (w : World) (t : ByteArray) => Lib.run_convert_string_bytes (P := Tryz.prog) w 9 41 5 t Tryz.underlying9 Tryz.underlying41 Tryz.underlying5
  clear ha hv hP hr hB hm
  generalize es.length = n at *
  unfold ApplyG ApplyOut at HA
  go_enter Tryz.func29, Tryz.ntmps29
  go_wp2_with fail
  refine HA.out.mono ?_
  rintro e w1 ⟨es', hpp, hb1, ⟨hio, rfl⟩ | ⟨hio, T, v, rfl⟩⟩
  · have haf : apF s es' = some (patchB s 0 es') := by unfold apF; rw [if_pos hio]
    generalize patchB s 0 es' = pb at *
    have HPP := Lib.hid hpp; have HB1 := Lib.hid hb1; have HAF := Lib.hid haf
    clear hpp hb1 hio haf
    go_wp2
    go_ret2
    exact ⟨es', _, _, _, _, HPP.out, by rw [HAF.out]; rfl, rfl, by rw [HAF.out]; exact cells_bytes _ _ _, .inl ⟨by rw [HAF.out]; rfl, rfl⟩, HB1.out.trans ((below_bytes w1 _ pb).mono HB1.out.size)⟩
  · have haf : apF s es' = none := by unfold apF; rw [if_neg (by rw [hio]; simp)]
    have HPP := Lib.hid hpp; have HB1 := Lib.hid hb1; have HAF := Lib.hid haf
    clear hpp hb1 hio haf
    go_wp2
    go_ret2
    exact ⟨es', _, _, _, _, HPP.out, by rw [HAF.out]; rfl, rfl, by rw [HAF.out]; exact cells_bytes _ _ _, .inr ⟨by rw [HAF.out]; rfl, _, _, rfl⟩, HB1.out.trans ((below_bytes w1 _ _).mono HB1.out.size)⟩

set_option maxRecDepth 100000 in
set_option maxHeartbeats 1000000 in
theorem implApplyB_gen {P : List Ed → Prop} (s : ByteArray) (A : Option Addr) (c : Nat) (es : List Ed) (w : World) (hr : EdsR w A es) (hs : s.size ≤ 2000000) (hl : es.length ≤ 2000000) (hP : ∀ es', P es' → es'.length ≤ 2000000 ∧ szE es' ≤ 4000000)
    (hv : ∀ A c w, EdsR w A es → Calls Tryz.prog 56 #[.string s, .slice A es.length c] w (ValidG s.size c P w)) :
    Calls Tryz.prog 16 #[.string s, .slice A es.length c] w (ImplApplyG s P w) := by
  have kb := fun (w : World) => Lib.run_convert_string_bytes (P := Tryz.prog) w 9 41 5 s Tryz.underlying9 Tryz.underlying41 Tryz.underlying5
  have hg := fun W (hW : Below w.heap.size w W) => given_any A c es W (EdsR.below hr hW (Nat.le_refl _)) (by omega)
  have ha := fun W B m d A c (hB : CellsR W B (Lib.strCells s)) (hm : s.size = m) (h : EdsR W A es) => applyBytes_gen s B m d A c es W hB hm h hs hP hv
  have HG := Lib.hid hg; have HA := Lib.hid ha
  have hcw := cells_bytes w 5 s
  have hbw := below_bytes w 5 s
  clear hg ha hv hP hr
  unfold AppBOut at HA
  unfold ImplApplyG ImplApplyOut
  generalize hn : es.length = n at *
  go_enter Tryz.func16, Tryz.ntmps16
  go_wp2_with fail
  generalize Lib.bytesWorld w 5 s = W1 at *
  have HCW := Lib.hid hcw; have HBW := Lib.hid hbw
  clear hcw hbw kb
  refine (HG.out _ HBW.out).mono ?_
  rintro e w1 ⟨A1, c1, rfl, ho1, hb1⟩
  have HO1 := Lib.hid (CellsR.of_own ho1); have HC1 := Lib.hid (CellsR.below HCW.out hb1 (Nat.le_refl _)); have HB1 := Lib.hid (HBW.out.trans (hb1.mono HBW.out.size))
  clear ho1 hb1
  go_wp2_with fail
  refine (HA.out _ _ _ _ A1 c1 HC1.out rfl HO1.out).mono ?_
  rintro e w2 ⟨es', A2, n2, c2, r, hpp, hn2, rfl, hc2, hsome, hb2⟩
  have hcv := fun q => run_conv_str (P := Tryz.prog) (w2.drewN q) 41 9 5 Tryz.underlying41 Tryz.underlying5 Tryz.underlying9 (c := c2) (CellsR.drewN hc2 q) hn2.symm
  have hcv0 := hcv 0
  have HPP := Lib.hid hpp; have HB2 := Lib.hid (HB1.out.trans (hb2.mono HB1.out.size))
  obtain ⟨af, haf⟩ : ∃ af, apF s es' = af := ⟨_, rfl⟩
  rw [haf] at hcv hcv0 hsome
  have HAF := Lib.hid haf; clear haf
  rcases hsome with ⟨h1, rfl⟩ | ⟨h1, T, v, rfl⟩
  all_goals
    have H1 := Lib.hid h1
    clear hpp hb2 hc2 hn2 h1
    go_wp2
    go_quiet (fail)
    go_wp2
    go_ret2
    exact ⟨es', HPP.out, by rw [HAF.out, H1.out]; rfl, below_drewN HB2.out _⟩
theorem implApplyB_any (s : ByteArray) (A : Option Addr) (c : Nat) (es es' : List Ed) (w : World) (hr : EdsR w A es) (hs : s.size ≤ 2000000) (hl : es.length ≤ 2000000) (hl' : es'.length ≤ 2000000) (hz : szE es' ≤ 4000000)
    (hv : ∀ A c w, EdsR w A es → Calls Tryz.prog 56 #[.string s, .slice A es.length c] w (ValidOut s.size c es' w)) :
   Calls Tryz.prog 16 #[.string s, .slice A es.length c] w (ImplApplyOut s es' w) :=
  (implApplyB_gen (P := fun l => l = es') s A c es w hr hs hl (fun l h => by subst h; exact ⟨hl', hz⟩) (fun A c w h => (hv A c w h).mono fun e w' h => ⟨es', rfl, h⟩)).mono fun e w' ⟨l, h1, h2⟩ => h1 ▸ h2
end Go.Proofs.YtgjbagojcbondaaGreatDoor

namespace Go.Proofs.YtgjbagojcbondaaGreatDoor
set_option linter.unusedVariables false
open Go.RowKit

theorem lessW_far {x y : Ed} (hx : 0 ≤ x.s ∧ x.s ≤ 4000000) (hy : 0 ≤ y.s ∧ y.s ≤ 4000000) : lessW x y = true ↔ (x.s < y.s ∨ (x.s = y.s ∧ x.e < y.e)) := by
  have hw : IntKind.i64.wrap (x.s - y.s) = x.s - y.s := IntWalk.i64_in _ (by omega)
  unfold lessW
  rw [hw]
  by_cases h : x.s - y.s = 0
  · rw [if_pos h]; simp; omega
  · rw [if_neg h]; simp; omega
theorem order_sortedB {size : Int} (hs : size ≤ 4000000) : ∀ (es : List Ed) (at_ : Int), 0 ≤ at_ → inOrderF size at_ es = true → sortedW es = true := by
  intro es
  induction es with
  | nil => intros; rfl
  | cons x l ih =>
    intro at_ h0 h
    simp only [inOrderF, insideB, Bool.and_eq_true, decide_eq_true_eq] at h
    obtain ⟨⟨h1, h2⟩, h3⟩ := h
    have hl := ih x.e (by omega) h3
    cases l with
    | nil => rfl
    | cons y l =>
      simp only [inOrderF, insideB, Bool.and_eq_true, decide_eq_true_eq] at h3
      obtain ⟨⟨g1, g2⟩, g3⟩ := h3
      show (!lessW y x && sortedW (y :: l)) = true
      rw [hl, Bool.and_true]
      cases hw : lessW y x
      · rfl
      · have := (lessW_far (x := y) (y := x) ⟨by omega, by omega⟩ ⟨by omega, by omega⟩).1 hw
        omega
end Go.Proofs.YtgjbagojcbondaaGreatDoor

namespace Go.Proofs.YtgjbagojcbondaaGreatDoor
set_option linter.unusedVariables false
open Go.RowKit

theorem apF_noneB : apF ⟨#[]⟩ [] = some ⟨#[]⟩ := by
  unfold apF
  rw [if_pos (by decide)]
  rfl
theorem StrP.appB {s t : ByteArray} {es : List Ed} (h : StrP s t es) (hst : s.size + t.size ≤ 1000000) (hs : wfB s = true) (ht : wfB t = true) : apF s es = some t := by
  have h1 := h.ed hst hs ht
  unfold apF
  rw [if_pos h1.order, h1.patch]
set_option maxRecDepth 100000 in
set_option maxHeartbeats 1000000 in
theorem FnBytesApply_walk (s0 s1 : ByteArray) (w : World) (ws0 : s0.size ≤ maxLen) (ws1 : s1.size ≤ maxLen) (hT : TabsU w) :
   Calls Tryz.prog 5 #[.string s0, .string s1] w fun e w' => e = .returned (.bool true) ∧ Below w.heap.size w w' := by
  have ht := fun A c w' x y (h : IntsR .i64 w' A [x, y]) => tooLong_any A c [x, y] w' h (by simp)
  have HT := Lib.hid ht; clear ht
  have hl1 := fun W (g0 : s0.size ≤ 1000000) (g1 : s1.size ≤ 1000000) (hb : Below w.heap.size w W) => implBytes_any s0 s1 W g0 g1 (hT.below hb)
  unfold StrOut at hl1
  have HL1 := Lib.hid hl1; clear hl1 hT
  have HW0 := Lib.hid (fun W (h : s0.size ≤ 4000000) => wellFormed_any s0 W h)
  have HW1 := Lib.hid (fun W (h : s1.size ≤ 4000000) => wellFormed_any s1 W h)
  have hone := fun (W : World) => implApplyB_any ⟨#[]⟩ none 0 [] [] W (.inl rfl) (by decide) (by simp) (by simp) (by simp [szE]) (validate_sorted ⟨#[]⟩ [] (by decide) (by simp) (by simp [szE]) rfl)
  unfold ImplApplyOut at hone
  rw [apF_noneB] at hone
  have HO := Lib.hid hone; clear hone
  unfold maxLen at ws0 ws1
  by_cases hb0 : (2147483647 : Int) < (s0.size : Int)
  · go_enter Tryz.func5, Tryz.ntmps5
    go_wp2
    go_ret
    exact ⟨rfl, Below.refl _ _⟩
  · by_cases hb1 : (2147483647 : Int) < (s1.size : Int)
    · go_enter Tryz.func5, Tryz.ntmps5
      go_wp2
      go_ret
      exact ⟨rfl, Below.refl _ _⟩
    · go_enter Tryz.func5, Tryz.ntmps5
      go_wp2_with fail
      refine (HT.out _ _ _ s0.size s1.size (IntsR.lit2 _ _ _ _ _) (by simp; omega)).mono ?_
      rintro e w3 ⟨rfl, rfl⟩
      have hsum : sumI [(s0.size : Int), (s1.size : Int)] = (s0.size : Int) + s1.size := by simp [sumI]
      by_cases hbig : 1000000 < (s0.size : Int) + s1.size
      · have hd : decide (1000000 < sumI [(s0.size : Int), (s1.size : Int)]) = true := by rw [hsum]; simp; omega
        rw [hd]
        clear hd hsum
        go_wp2
        go_ret
        exact ⟨rfl, (Below.refl _ _).alloc (Nat.le_refl _) _⟩
      · have hd : decide (1000000 < sumI [(s0.size : Int), (s1.size : Int)]) = false := by rw [hsum]; simp; omega
        rw [hd]
        have HB1 := Lib.hid ((Below.refl w.heap.size w).alloc (Nat.le_refl _) (.cells #[.int .i64 (s0.size : Int), .int .i64 (s1.size : Int)] 3))
        clear hd hsum
        have g0 : s0.size ≤ 1000000 := by omega
        have g1 : s1.size ≤ 1000000 := by omega
        have g2 : s0.size + s1.size ≤ 1000000 := by omega
        clear hbig
        go_wp2_with fail
        refine (HL1.out _ g0 g1 HB1.out).mono ?_
        rintro e w4 ⟨es, A, c, rfl, hr, hc, hb, hp⟩
        have hg := hp.gen g2
        obtain ⟨⟨T, hTT, hor⟩, hsz, hln⟩ := hg
        have HB4 := Lib.hid (HB1.out.trans (hb.mono HB1.out.size))
        have hap := implApplyB_any s0 A c es es w4 hr (by omega) hln hln hsz (validate_sorted s0 es (by omega) hln hsz (order_sortedB (by omega) es 0 (by omega) hor))
        have hyes := fun h1 h2 => hp.appB g2 h1 h2
        unfold ImplApplyOut at hap
        generalize hpf : apF s0 es = pf at *
        have HA := Lib.hid hap; have HY := Lib.hid hyes
        clear hp hr hc hb hap hyes hor hsz hln hpf hTT
        generalize es.length = n at *
        go_wp2_with fail
        refine HA.out.mono ?_
        rintro e w5 ⟨rfl, hb5⟩
        have HB5 := Lib.hid (HB4.out.trans (hb5.mono HB4.out.size)); clear hb5
        go_wp2_with fail
        refine (HW0.out _ (by omega)).mono ?_
        rintro e w6 ⟨rfl, rfl⟩
        cases h0 : wfB s0 with
        | false =>
          go_wp2_with fail
          refine (HO.out _).mono ?_
          rintro e w7 ⟨rfl, hb7⟩
          have HB7 := Lib.hid (HB5.out.trans (hb7.mono HB5.out.size)); clear hb7
          simp only [Option.getD_some, Option.isSome_some]
          go_wp2
          go_ret
          exact ⟨rfl, HB7.out⟩
        | true =>
          go_wp2_with fail
          refine (HW1.out _ (by omega)).mono ?_
          rintro e w7 ⟨rfl, rfl⟩
          cases h1 : wfB s1 with
          | false =>
            go_wp2_with fail
            refine (HO.out _).mono ?_
            rintro e w8 ⟨rfl, hb8⟩
            have HB8 := Lib.hid (HB5.out.trans (hb8.mono HB5.out.size)); clear hb8
            simp only [Option.getD_some, Option.isSome_some]
            go_wp2
            go_ret
            exact ⟨rfl, HB8.out⟩
          | true =>
            have hpf := HY.out h0 h1
            subst hpf
            simp only [Option.getD_some, Option.isSome_some]
            have heq : (s1.toList == s1.toList) = true := by simp
            go_wp2_with fail
            refine (HO.out _).mono ?_
            rintro e w8 ⟨rfl, hb8⟩
            have HB8 := Lib.hid (HB5.out.trans (hb8.mono HB5.out.size)); clear hb8
            simp only [Option.getD_some, Option.isSome_some]
            go_wp2
            go_ret
            exact ⟨rfl, HB8.out⟩
end Go.Proofs.YtgjbagojcbondaaGreatDoor
