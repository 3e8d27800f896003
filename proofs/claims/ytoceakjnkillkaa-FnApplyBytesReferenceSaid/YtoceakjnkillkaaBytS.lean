/-
  A text turned into bytes and back: diff.ApplyBytes and impl.ApplyBytes. Condition: at most 2000000 edits, texts of at most 2000000 bytes.
-/
import Derived.Test.YtoceakjnkillkaaToldS
import Derived.Lib.ConvBytes
namespace Go.Proofs.Ytoceakjnkillkaa
set_option linter.unusedVariables false
open Go.RowKit Go.Shelf

theorem below_bytes (w : World) (e : TypeId) (s : ByteArray) : Below w.heap.size w (Lib.bytesWorld w e s) :=
  ⟨rfl, rfl, rfl, by rw [Lib.bytesWorld_size]; omega, fun g hg => Lib.bytesWorld_at_old w e s g hg⟩
theorem cells_bytes (w : World) (e : TypeId) (s : ByteArray) : CellsR (Lib.bytesWorld w e s) (some ⟨w.heap.size, 0, none⟩) (Lib.strCells s) := by
  refine .inr ⟨_, _, rfl, fun j u hu => ?_⟩
  have hj : j < s.size := by
    have := (List.getElem?_eq_some_iff.1 hu).1
    rwa [Lib.strCells_length] at this
  rw [Nat.zero_add, Lib.bytesWorld_cell w e s j hj, ← hu]
  simp [Lib.strCells, hj]

/-- what diff.ApplyBytes gives -/
def AppBOut (s : ByteArray) (P : List Ed → Prop) (w : World) (e : Ending) (w' : World) : Prop :=
  ∃ es' A n c r, P es' ∧ n = ((apF s es').getD ⟨#[]⟩).size ∧ e = .returned (.tuple #[.slice A n c, r]) ∧ CellsR w' A (Lib.strCells ((apF s es').getD ⟨#[]⟩)) ∧ ((apF s es').isSome = true ∧ r = .nilIface ∨ (apF s es').isSome = false ∧ ∃ T v, r = .iface T v) ∧ Below w.heap.size w w'
set_option maxRecDepth 100000 in
set_option maxHeartbeats 1000000 in
theorem applyBytes_gen {P : List Ed → Prop} (s : ByteArray) (B : Option Addr) (m d : Nat) (A : Option Addr) (c : Nat) (es : List Ed) (w : World) (hB : CellsR w B (Lib.strCells s)) (hm : s.size = m) (hr : EdsR w A es) (hs : s.size ≤ 2000000) (hP : ∀ es', P es' → es'.length ≤ 2000000 ∧ szE es' ≤ 4000000)
    (hv : ∀ A c w, EdsR w A es → Calls Try.prog 36 #[.string s, .slice A es.length c] w (ValidG s.size P w)) :
    Calls Try.prog 28 #[.slice B m d, .slice A es.length c] w (AppBOut s P w) := by
  have ha := apply_gen s A c es w hs hP (hv A c w hr)
  have HA := Lib.hid ha
  have kc := run_conv_str (P := Try.prog) w 52 9 5 Try.underlying52 Try.underlying5 Try.underlying9 (c := d) hB hm
  have kb := fun (w : World) (t : ByteArray) => Lib.run_convert_string_bytes (P := Try.prog) w 9 52 5 t Try.underlying9 Try.underlying52 Try.underlying5
  clear ha hv hP hr hB hm
  generalize es.length = n at *
  unfold ApplyG ApplyOut at HA
  go_enter Try.func28, Try.ntmps28
  go_wp2_with fail
  refine HA.out.mono ?_
  rintro e w1 ⟨es', hpp, hb1, ⟨hio, rfl⟩ | ⟨hio, T, v, rfl⟩⟩
  · have haf : apF s es' = some (patchB s 0 es') := by unfold apF; rw [if_pos hio]
    generalize patchB s 0 es' = pb at *
    have HPP := Lib.hid hpp; have HB1 := Lib.hid hb1; have HAF := Lib.hid haf
    clear hpp hb1 hio haf
    go_wp2
    go_ret2
    exact ⟨es', _, _, _, _, HPP.out, by rw [HAF.out]; rfl, rfl, by rw [HAF.out]; exact cells_bytes _ _ _, .inl ⟨by rw [HAF.out]; rfl, rfl⟩, HB1.out.trans ((below_bytes w1 _ pb).mono HB1.out.size)⟩
  · have haf : apF s es' = none := by unfold apF; rw [if_neg (by rw [hio]; simp)]
    have HPP := Lib.hid hpp; have HB1 := Lib.hid hb1; have HAF := Lib.hid haf
    clear hpp hb1 hio haf
    go_wp2
    go_ret2
    exact ⟨es', _, _, _, _, HPP.out, by rw [HAF.out]; rfl, rfl, by rw [HAF.out]; exact cells_bytes _ _ _, .inr ⟨by rw [HAF.out]; rfl, _, _, rfl⟩, HB1.out.trans ((below_bytes w1 _ _).mono HB1.out.size)⟩

set_option maxRecDepth 100000 in
set_option maxHeartbeats 1000000 in
theorem implApplyB_gen {P : List Ed → Prop} (s : ByteArray) (A : Option Addr) (c : Nat) (es : List Ed) (w : World) (hr : EdsR w A es) (hs : s.size ≤ 2000000) (hl : es.length ≤ 2000000) (hP : ∀ es', P es' → es'.length ≤ 2000000 ∧ szE es' ≤ 4000000)
    (hv : ∀ A c w, EdsR w A es → Calls Try.prog 36 #[.string s, .slice A es.length c] w (ValidG s.size P w)) :
    Calls Try.prog 17 #[.string s, .slice A es.length c] w (ImplApplyG s P w) := by
  have kb := fun (w : World) => Lib.run_convert_string_bytes (P := Try.prog) w 9 52 5 s Try.underlying9 Try.underlying52 Try.underlying5
  have hg := fun W (hW : Below w.heap.size w W) => given_any A c es W (EdsR.below hr hW (Nat.le_refl _)) (by omega)
  have ha := fun W B m d A c (hB : CellsR W B (Lib.strCells s)) (hm : s.size = m) (h : EdsR W A es) => applyBytes_gen s B m d A c es W hB hm h hs hP hv
  have HG := Lib.hid hg; have HA := Lib.hid ha
  have hcw := cells_bytes w 5 s
  have hbw := below_bytes w 5 s
  clear hg ha hv hP hr
  unfold AppBOut at HA
  unfold ImplApplyG ImplApplyOut
  generalize hn : es.length = n at *
  go_enter Try.func17, Try.ntmps17
  go_wp2_with fail
  generalize Lib.bytesWorld w 5 s = W1 at *
  have HCW := Lib.hid hcw; have HBW := Lib.hid hbw
  clear hcw hbw kb
  refine (HG.out _ HBW.out).mono ?_
  rintro e w1 ⟨A1, c1, rfl, ho1, hb1⟩
  have HO1 := Lib.hid (CellsR.of_own ho1); have HC1 := Lib.hid (CellsR.below HCW.out hb1 (Nat.le_refl _)); have HB1 := Lib.hid (HBW.out.trans (hb1.mono HBW.out.size))
  clear ho1 hb1
  go_wp2_with fail
  refine (HA.out _ _ _ _ A1 c1 HC1.out rfl HO1.out).mono ?_
  rintro e w2 ⟨es', A2, n2, c2, r, hpp, hn2, rfl, hc2, hsome, hb2⟩
  have hcv := fun q => run_conv_str (P := Try.prog) (w2.drewN q) 52 9 5 Try.underlying52 Try.underlying5 Try.underlying9 (c := c2) (CellsR.drewN hc2 q) hn2.symm
  have hcv0 := hcv 0
  have HPP := Lib.hid hpp; have HB2 := Lib.hid (HB1.out.trans (hb2.mono HB1.out.size))
  obtain ⟨af, haf⟩ : ∃ af, apF s es' = af := ⟨_, rfl⟩
  rw [haf] at hcv hcv0 hsome
  have HAF := Lib.hid haf; clear haf
  rcases hsome with ⟨h1, rfl⟩ | ⟨h1, T, v, rfl⟩
  all_goals
    have H1 := Lib.hid h1
    clear hpp hb2 hc2 hn2 h1
    go_wp2
    go_quiet (fail)
    go_wp2
    go_ret2
    exact ⟨es', HPP.out, by rw [HAF.out, H1.out]; rfl, below_drewN HB2.out _⟩
theorem implApplyB_any (s : ByteArray) (A : Option Addr) (c : Nat) (es es' : List Ed) (w : World) (hr : EdsR w A es) (hs : s.size ≤ 2000000) (hl : es.length ≤ 2000000) (hl' : es'.length ≤ 2000000) (hz : szE es' ≤ 4000000)
    (hv : ∀ A c w, EdsR w A es → Calls Try.prog 36 #[.string s, .slice A es.length c] w (ValidOut s.size es' w)) :
   Calls Try.prog 17 #[.string s, .slice A es.length c] w (ImplApplyOut s es' w) :=
  (implApplyB_gen (P := fun l => l = es') s A c es w hr hs hl (fun l h => by subst h; exact ⟨hl', hz⟩) (fun A c w h => (hv A c w h).mono fun e w' h => ⟨es', rfl, h⟩)).mono fun e w' ⟨l, h1, h2⟩ => h1 ▸ h2
end Go.Proofs.Ytoceakjnkillkaa
