/-
  The walks of diff.LineEdits and impl.LineEdits. validate's contract is a premise. Condition: a text of at most 1000000 bytes, edits whose texts have at most 1000000 bytes together.
-/
import Derived.Test.YtoceakjnkillkaaLinW
import Derived.Deep.RegionWith
import Derived.Deep.QuietTactic
namespace Go.Proofs.Ytoceakjnkillkaa
set_option linter.unusedVariables false
open Go.RowKit Go.Shelf

set_option maxRecDepth 100000 in
set_option maxHeartbeats 1000000 in
theorem lineEditsD_any {P : List Ed → Prop} (s : ByteArray) (A : Option Addr) (cin n : Nat) (w : World)
    (hl : Calls Try.prog 41 #[.string s, .slice A n cin] w (LinG s P w)) :
    Calls Try.prog 34 #[.string s, .slice A n cin] w (LinG s P w) := by
  have HL := Lib.hid hl; clear hl
  go_enter Try.func34, Try.ntmps34
  go_wp2_with fail
  refine HL.out.mono ?_
  rintro e w1 ⟨es', hpp, hb1, ⟨hio, A1, c1, rfl, hr1, hc1⟩ | ⟨hio, v, T, rfl, hT⟩⟩
  · have HPP := Lib.hid hpp; have HB := Lib.hid hb1; have HIO := Lib.hid hio; have HR := Lib.hid hr1; have HC := Lib.hid hc1
    clear hpp hb1 hio hr1 hc1
    generalize hr : lineF s es' = r at *
    go_wp2
    go_ret2
    subst hr
    exact ⟨es', HPP.out, HB.out, .inl ⟨HIO.out, A1, c1, rfl, HR.out, HC.out⟩⟩
  · have HPP := Lib.hid hpp; have HB := Lib.hid hb1; have HIO := Lib.hid hio
    clear hpp hb1 hio
    go_wp2
    go_ret2
    exact ⟨es', HPP.out, HB.out, .inr ⟨HIO.out, v, T, rfl, hT⟩⟩
/-- what impl.LineEdits gives -/
def ImplLinG (s : ByteArray) (P : List Ed → Prop) (w : World) (e : Ending) (w' : World) : Prop :=
  ∃ es', P es' ∧ Below w.heap.size w w' ∧ ((inOrderF s.size 0 es' = true ∧ ∃ A c, e = .returned (.tuple #[.slice A (lineF s es').length c, .bool true]) ∧ EdsR w' A (lineF s es') ∧ (lineF s es').length ≤ c) ∨
    (inOrderF s.size 0 es' = false ∧ ∃ A c, e = .returned (.tuple #[.slice A 0 c, .bool false])))
set_option maxRecDepth 100000 in
set_option maxHeartbeats 1000000 in
theorem implLineEdits_any {P : List Ed → Prop} (s : ByteArray) (A : Option Addr) (c : Nat) (es : List Ed) (w : World) (hr : EdsR w A es) (hs : s.size ≤ 1000000) (hl : es.length ≤ 1000000) (hP : ∀ es', P es' → es'.length = es.length ∧ es'.length ≤ 1000000 ∧ szE es' ≤ 1000000)
    (hv : ∀ A c w, EdsR w A es → Calls Try.prog 36 #[.string s, .slice A es.length c] w (ValidG s.size c P w)) :
    Calls Try.prog 21 #[.string s, .slice A es.length c] w (ImplLinG s P w) := by
  have hc1 := given_any A c es w hr (by omega)
  have HC1 := Lib.hid hc1; clear hc1
  have ha := fun A c w (h : EdsR w A es) (hc : es.length ≤ c) => lineEditsD_any s A c es.length w (lineEdits_any s A c es w hs hc hP (hv A c w h))
  have hlen := fun es' (h : P es') (hio : inOrderF s.size 0 es' = true) => Nat.le_trans (lineF_good hio).len (hP es' h).2.1
  have HA := Lib.hid ha; have HLEN := Lib.hid hlen; clear ha hv hP hlen hr
  generalize es.length = n at *
  unfold LinG at HA
  go_enter Try.func21, Try.ntmps21
  go_wp2_with fail
  refine HC1.out.mono ?_
  rintro e w1 ⟨A1, c1, rfl, ho1, hb1⟩
  go_wp2_with fail
  refine (HA.out A1 c1 w1 (CellsR.of_own ho1) (own_capV ho1)).mono ?_
  rintro e w2 ⟨es', hpp, hb2, ⟨hio, A2, c2, rfl, hr2, hc2⟩ | ⟨hio, v, T, rfl, hT⟩⟩
  · have hb12 := hb1.trans (hb2.mono hb1.size)
    have ht := fun q => told_any A2 c2 (lineF s es') (w2.drewN q) (hr2.drewN q) (by have := HLEN.out es' hpp hio; omega)
    have HPP := Lib.hid hpp; have HB := Lib.hid hb12; have HIO := Lib.hid hio; have HT := Lib.hid ht
    clear hpp hb1 hb2 hb12 hio hr2 hc2 ht ho1
    generalize hrr : lineF s es' = r at *
    have HRR := Lib.hid hrr; clear hrr
    obtain ⟨rn, hrn⟩ : ∃ rn, r.length = rn := ⟨_, rfl⟩
    rw [hrn] at HT ⊢
    have HRN := Lib.hid hrn; clear hrn
    go_wp2_with fail
    go_region_with (go_at_call 30; (first | refine (HT.out 0).mono ?_ | refine (HT.out 1).mono ?_ | refine (HT.out 2).mono ?_); rintro e w4 ⟨A4, c4, rfl, ho4, hb4⟩)
    all_goals
      go_wp2
      go_ret2
      refine ⟨es', HPP.out, ?_, .inl ⟨HIO.out, A4, c4, ?_, ?_, ?_⟩⟩
      · exact HB.out.trans (((Below.refl _ _).drew.trans hb4).mono HB.out.size)
      · rw [HRR.out, HRN.out]; rfl
      · rw [HRR.out]; exact CellsR.of_own ho4
      · rw [HRR.out, HRN.out]; exact own_capV ho4
  · have hb12 := hb1.trans (hb2.mono hb1.size)
    have ht := fun q => told_any none 0 [] (w2.drewN q) (.inl rfl) (by simp)
    have HPP := Lib.hid hpp; have HB := Lib.hid hb12; have HIO := Lib.hid hio; have HT := Lib.hid ht
    clear hpp hb1 hb2 hb12 hio ht ho1
    go_wp2_with fail
    go_region_with (go_at_call 30; (first | refine (HT.out 0).mono ?_ | refine (HT.out 1).mono ?_ | refine (HT.out 2).mono ?_); rintro e w4 ⟨A4, c4, rfl, ho4, hb4⟩)
    all_goals
      go_wp2
      go_ret2
      refine ⟨es', HPP.out, ?_, .inr ⟨HIO.out, A4, c4, rfl⟩⟩
      exact HB.out.trans (((Below.refl _ _).drew.trans hb4).mono HB.out.size)
end Go.Proofs.Ytoceakjnkillkaa
