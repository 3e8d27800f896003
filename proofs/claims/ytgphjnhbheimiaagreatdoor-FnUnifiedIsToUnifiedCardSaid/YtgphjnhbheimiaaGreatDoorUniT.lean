/-
  The walks of diff.ToUnified and impl.ToUnified; that the hunks of edits in order are not too long. lineEdits' contract is a premise. Condition: a text of at most 1000000 bytes, edits whose texts have at most 1000000 bytes together, names of at most 1000000 bytes, at most 8 lines of context.
-/
import Derived.Test.YtgphjnhbheimiaaGreatDoorUniW
import Derived.Test.YtgphjnhbheimiaaGreatDoorStB
namespace Go.Proofs.YtgphjnhbheimiaaGreatDoor
set_option linter.unusedVariables false
open Go.RowKit Go.Shelf

theorem fold_good {s : ByteArray} {c : Int} {r : List Ed} (hc0 : 0 ≤ c) (hc8 : c ≤ 8) (ho : inOrderF s.size 0 r = true) : ∀ k, k ≤ r.length → UGood (linesF s) (31 * s.size) k (szN (r.take k)) (foldU s (linesF s) c (r.take k)) := by
  have hT : totB (linesF s) + 30 * (linesF s).length ≤ 31 * s.size := by
    have h1 := linesF_len s
    have h2 := linesF_tot s
    omega
  intro k
  induction k with
  | zero => intro _; exact UGood.zero _ _
  | succ k ih =>
    intro hk
    obtain ⟨m0, m1, m2⟩ := inOrder_tail ho k (by omega)
    have h1 := stepU_good (x := edAt r k) rfl hT hc0 hc8 (ih (by omega)) m0 m1 m2
    rw [← foldU_snoc s (linesF s) c r k (by omega)] at h1
    rw [szN_snoc r k (by omega)]
    exact h1
theorem unif_ok {s : ByteArray} {c : Int} {r : List Ed} (hs : s.size ≤ 1000000) (hc0 : 0 ≤ c) (hc8 : c ≤ 8) (ho : inOrderF s.size 0 r = true) (hl : r.length ≤ 1000000) (hz : szE r ≤ 3000000) :
    szH (unifF s c r) ≤ 140000000000000 ∧ (unifF s c r).length ≤ 1000001 ∧ ∀ h ∈ unifF s c r, HkOk h := by
  have hT : totB (linesF s) + 30 * (linesF s).length ≤ 31 * s.size := by
    have h1 := linesF_len s
    have h2 := linesF_tot s
    omega
  have hll := linesF_len s
  have hg := fold_good hc0 hc8 ho r.length (Nat.le_refl _)
  rw [List.take_length] at hg
  have hzn := szN_le r
  unfold unifF
  generalize foldU s (linesF s) c r = st at *
  have hmul : ((r.length : Nat) : Int) * (linesF s).length ≤ 1000000000000 := by
    have := mul_mm hl (show (linesF s).length ≤ 1000000 by omega)
    have h2 : ((r.length * (linesF s).length : Nat) : Int) ≤ ((1000000 * 1000000 : Nat) : Int) := by omega
    rw [Int.natCast_mul] at h2
    omega
  have hk3 : r.length * (3 * (31 * s.size) + 200) ≤ 1000000 * 93000200 := mul_mm hl (by omega)
  obtain ⟨g1, g2, g3, g4, g5, g6, g7⟩ := hg
  obtain ⟨hs0, oh, la, tl⟩ := st
  simp only at g1 g2 g3 g4 g5 g6 g7
  have hok : ∀ h : Hk, (h ∈ hs0 ∨ oh = some h) → 30 * h.ls.length ≤ 94000000000000 → HkOk h := fun h h1 h2 => by
    have := g6 h h1
    exact ⟨by omega, by omega, by omega, by omega, by omega⟩
  have hmem : ∀ h ∈ hs0, szK h.ls ≤ szH hs0 := fun h hh => by
    obtain ⟨i, hi, rfl⟩ := List.mem_iff_getElem.1 hh
    have := szH_at hs0 i hi
    simp only [List.getD_eq_getElem?_getD, List.getElem?_eq_getElem hi, Option.getD_some] at this
    omega
  cases oh with
  | none =>
    simp only [szO] at g1
    simp only [endU]
    refine ⟨by omega, by omega, fun h hh => hok h (.inl hh) ?_⟩
    have h1 := szK_len30 h.ls
    have h2 := hmem h hh
    omega
  | some h0 =>
    simp only [szO] at g1
    simp only [endU]
    have he := szK_eq (linesF s) la (la + c)
    refine ⟨?_, by simp; omega, fun h hh => ?_⟩
    · rw [szH_append]
      simp only [Hk.add, szH, szK_append]
      omega
    · rcases List.mem_append.1 hh with hh | hh
      · have h1 := szK_len30 h.ls
        have h2 := hmem h hh
        exact hok h (.inl hh) (by omega)
      · rw [List.mem_singleton] at hh
        subst hh
        have h1 := szK_len30 h0.ls
        have h4 := g6 h0 (.inr rfl)
        have h5 := eqF_len (linesF s) la (la + c)
        refine ⟨?_, ?_, ?_, ?_, ?_⟩
        · show _ ≤ h0.fl; omega
        · show h0.fl ≤ _; omega
        · show _ ≤ h0.tl; omega
        · show h0.tl ≤ _; omega
        · show (h0.ls ++ eqF (linesF s) la (la + c)).length ≤ _
          rw [List.length_append]; omega

/-- what ToUnified gives -/
def TUG (s f t : ByteArray) (cx : Int) (P : List Ed → Prop) (w : World) (e : Ending) (w' : World) : Prop :=
  ∃ es', P es' ∧ Below w.heap.size w w' ∧ ((inOrderF s.size 0 es' = true ∧ e = .returned (.tuple #[.string (uniS f t (unifF s cx (lineF s es'))), .nilIface])) ∨
    (inOrderF s.size 0 es' = false ∧ ∃ v T, e = .returned (.tuple #[.string ⟨#[]⟩, .iface T v]) ∧ T ≠ 0))
set_option maxRecDepth 100000 in
set_option maxHeartbeats 1000000 in
theorem toUnifiedD_any {P : List Ed → Prop} (s f t : ByteArray) (cx : Int) (A : Option Addr) (cin : Nat) (es : List Ed) (w : World) (hs : s.size ≤ 1000000) (hft : f.size + t.size ≤ 1000000) (hc0 : 0 ≤ cx) (hc8 : cx ≤ 8) (hr : EdsR w A es) (h0 : es = [] → P [])
    (hP : ∀ es', P es' → es'.length = es.length ∧ es'.length ≤ 1000000 ∧ szE es' ≤ 1100000 ∧ s.size + szE es' + es'.length ≤ 3000000)
    (hl : ∀ W, EdsR W A es → Calls Tryz.prog 20 #[.string s, .slice A es.length cin] W (LinG s P W)) (hT : TabP w) :
    Calls Tryz.prog 11 #[.string f, .string t, .string s, .slice A es.length cin, .int .i64 cx] w (TUG s f t cx P w) := by
  have HA := Lib.hid (toUnified_any s f t cx A cin es w hs hc0 hc8 hr h0 hP hl)
  have HB := Lib.hid (fun es' (h : P es') (hio : inOrderF s.size 0 es' = true) => unif_ok (s := s) (c := cx) hs hc0 hc8 (lineF_good hio).order (Nat.le_trans (lineF_good hio).len (hP es' h).2.1) (by have h1 := (lineF_good hio).size; have h2 := (hP es' h).2.2.2; omega))
  have HT := Lib.hid hT
  clear hT hl hP h0 hr
  unfold UniG at HA
  go_enter Tryz.func11, Tryz.ntmps11
  go_wp2_with fail
  refine HA.out.mono ?_
  rintro e w1 ⟨es', hpp, hb1, ⟨hio, A1, c1, rfl, hr1⟩ | ⟨hio, v, T, rfl, hT⟩⟩
  · obtain ⟨k1, k2, k3⟩ := HB.out es' hpp hio
    have HPP := Lib.hid hpp; have HB1 := Lib.hid hb1; have HIO := Lib.hid hio
    have hus := fun W (hb : Below w1.heap.size w1 W) => ustring_any f t (unifF s cx (lineF s es')) A1 c1 W (hr1.below hb (Nat.le_refl _)) (by omega) k2 k3 (HT.out.below (hb1.trans (hb.mono hb1.size)) (Nat.le_refl _))
    have HUS := Lib.hid hus
    clear hpp hb1 hio hr1 hus k1 k3
    obtain ⟨HH, hHH⟩ : ∃ HH, unifF s cx (lineF s es') = HH := ⟨_, rfl⟩
    rw [hHH] at HUS k2 ⊢
    have HHH := Lib.hid hHH; clear hHH
    obtain ⟨nn, hnn⟩ : ∃ nn, HH.length = nn := ⟨_, rfl⟩
    rw [hnn] at HUS k2 ⊢
    clear hnn
    go_wp2_with fail
    have hal := (Below.refl w1.heap.size w1).alloc (Nat.le_refl _) (.cells #[.string f, .string t, .slice A1 nn c1] 41)
    refine (HUS.out _ hal).mono ?_
    rintro e w2 ⟨rfl, hb2⟩
    have HB2 := Lib.hid ((HB1.out.trans (hal.mono HB1.out.size)).trans (hb2.mono (by have := HB1.out.size; simp; omega))); clear hb2 hal
    go_wp2
    go_ret2
    exact ⟨es', HPP.out, HB2.out, .inl ⟨HIO.out, by rw [HHH.out]; rfl⟩⟩
  · have HPP := Lib.hid hpp; have HB1 := Lib.hid hb1; have HIO := Lib.hid hio
    clear hpp hb1 hio
    go_wp2
    go_ret2
    exact ⟨es', HPP.out, HB1.out.alloc HB1.out.size _, .inr ⟨HIO.out, v, T, rfl, hT⟩⟩
/-- what impl.ToUnified gives -/
def ITG (s f t : ByteArray) (cx : Int) (P : List Ed → Prop) (w : World) (e : Ending) (w' : World) : Prop :=
  ∃ es', P es' ∧ Below w.heap.size w w' ∧ ((inOrderF s.size 0 es' = true ∧ e = .returned (.tuple #[.string (uniS f t (unifF s cx (lineF s es'))), .bool true])) ∨
    (inOrderF s.size 0 es' = false ∧ e = .returned (.tuple #[.string ⟨#[]⟩, .bool false])))
set_option maxRecDepth 100000 in
set_option maxHeartbeats 1000000 in
theorem implToUnified_any {P : List Ed → Prop} (s f t : ByteArray) (cx : Int) (A : Option Addr) (c : Nat) (es : List Ed) (w : World) (hr : EdsR w A es) (hs : s.size ≤ 1000000) (hft : f.size + t.size ≤ 1000000) (hc0 : 0 ≤ cx) (hc8 : cx ≤ 8) (hl : es.length ≤ 1000000) (h0 : es = [] → P [])
    (hP : ∀ es', P es' → es'.length = es.length ∧ es'.length ≤ 1000000 ∧ szE es' ≤ 1100000 ∧ s.size + szE es' + es'.length ≤ 3000000)
    (hv : ∀ A c w, EdsR w A es → Calls Tryz.prog 29 #[.string s, .slice A es.length c] w (ValidG s.size c P w)) (hT : TabP w) :
    Calls Tryz.prog 8 #[.string f, .string t, .string s, .slice A es.length c, .int .i64 cx] w (ITG s f t cx P w) := by
  have HC1 := Lib.hid (given_any A c es w hr (by omega))
  have HA := Lib.hid (fun A c w (h : EdsR w A es) (hc : es.length ≤ c) (ht : TabP w) => toUnifiedD_any s f t cx A c es w hs hft hc0 hc8 h h0 hP (fun W hW => lineEdits_any s A c es W hs hc (fun es' h => ⟨(hP es' h).1, (hP es' h).2.1, (hP es' h).2.2.1⟩) (hv A c W hW)) ht)
  have HT := Lib.hid hT
  clear hT hv hP h0 hr
  generalize es.length = n at *
  unfold TUG at HA
  go_enter Tryz.func8, Tryz.ntmps8
  go_wp2_with fail
  refine HC1.out.mono ?_
  rintro e w1 ⟨A1, c1, rfl, ho1, hb1⟩
  have HB1 := Lib.hid hb1; have HO1 := Lib.hid ho1
  clear hb1 ho1
  go_wp2_with fail
  refine (HA.out A1 c1 w1 (CellsR.of_own HO1.out) (own_capV HO1.out) (HT.out.below HB1.out (Nat.le_refl _))).mono ?_
  rintro e w2 ⟨es', hpp, hb2, ⟨hio, rfl⟩ | ⟨hio, v, T, rfl, hT⟩⟩
  · have HPP := Lib.hid hpp; have HB2 := Lib.hid (HB1.out.trans (hb2.mono HB1.out.size)); have HIO := Lib.hid hio
    clear hpp hb2 hio
    go_wp2
    go_quiet (fail)
    go_wp2
    go_ret2
    exact ⟨es', HPP.out, below_drewN HB2.out _, .inl ⟨HIO.out, rfl⟩⟩
  · have HPP := Lib.hid hpp; have HB2 := Lib.hid (HB1.out.trans (hb2.mono HB1.out.size)); have HIO := Lib.hid hio
    clear hpp hb2 hio
    go_wp2
    go_quiet (fail)
    go_wp2
    go_ret2
    exact ⟨es', HPP.out, below_drewN HB2.out _, .inr ⟨HIO.out, rfl⟩⟩
end Go.Proofs.YtgphjnhbheimiaaGreatDoor
