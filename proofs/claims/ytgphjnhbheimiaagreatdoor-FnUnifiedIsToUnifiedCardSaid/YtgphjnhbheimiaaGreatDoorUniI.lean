/-
  The walks of diff.Unified and impl.Unified; what edits of lines make. Condition: texts of at most 1000000 bytes together, names of at most 1000000 bytes.
-/
import Derived.Test.YtgphjnhbheimiaaGreatDoorUniT
import Derived.Test.YtgphjnhbheimiaaGreatDoorLiC
import Derived.Test.YtgphjnhbheimiaaGreatDoorSoB
namespace Go.Proofs.YtgphjnhbheimiaaGreatDoor
set_option linter.unusedVariables false
open Go.RowKit Go.Shelf

theorem order_sortedU {size : Int} (hs : size ≤ 2000000) : ∀ (es : List Ed) (at_ : Int), 0 ≤ at_ → inOrderF size at_ es = true → sortedW es = true := by
  intro es
  induction es with
  | nil => intros; rfl
  | cons x l ih =>
    intro at_ h0 h
    simp only [inOrderF, insideB, Bool.and_eq_true, decide_eq_true_eq] at h
    obtain ⟨⟨h1, h2⟩, h3⟩ := h
    have hl := ih x.e (by omega) h3
    cases l with
    | nil => rfl
    | cons y l =>
      simp only [inOrderF, insideB, Bool.and_eq_true, decide_eq_true_eq] at h3
      obtain ⟨⟨g1, g2⟩, g3⟩ := h3
      show (!lessW y x && sortedW (y :: l)) = true
      rw [hl, Bool.and_true]
      cases hw : lessW y x
      · rfl
      · have := (lessW_good (x := y) (y := x) ⟨by omega, by omega⟩ ⟨by omega, by omega⟩).1 hw
        omega
/-- the edits between the lines of two texts are one list -/
theorem LinesP.uniq {s t : ByteArray} {es es' : List Ed} (h : LinesP s t es) (h' : LinesP s t es') : es = es' := by
  obtain ⟨ps, _, h2, rfl⟩ := h
  obtain ⟨qs, _, g2, rfl⟩ := h'
  rw [TwoS.uniq h2.2 g2.2]
/-- what is needed of them -/
structure LinesFine (s t : ByteArray) (es : List Ed) : Prop where
  order : inOrderF s.size 0 es = true
  patch : patchB s 0 es = t
  len : es.length ≤ 1000000
  size : szE es ≤ 1100000
  all : s.size + szE es + es.length ≤ 3000000
theorem LinesP.fine {s t : ByteArray} {es : List Ed} (h : LinesP s t es) (hst : s.size + t.size ≤ 1000000) : LinesFine s t es := by
  have hed := h.ed (by omega) (by omega)
  obtain ⟨ps, h1, h2, rfl⟩ := h
  obtain ⟨k, hk⟩ := lead_chain h1
  have a1 := lead_szE (P := linesF s) (Q := linesF t) hk
  have a2 := ch_len h1
  have a3 := diffs_len (linesF s).length (linesF t).length ps 0 0
  have a4 := linesF_len s
  have a5 := linesF_len t
  have a6 := linesF_tot t
  rw [List.drop_zero] at a1
  have a7 := edsOf_len (linesF s) (linesF t) (diffsFrom (linesF s).length (linesF t).length 0 0 ps)
  exact ⟨hed.order, hed.patch, by omega, by omega, by omega⟩
theorem linesK_any (s t : ByteArray) (w : World) (hs : s.size ≤ 1000000) (ht : t.size ≤ 1000000) :
    Calls Tryz.prog 14 #[.string s, .string t] w (EdsOut (LinesP s t) w) := by
  have l1 := linesF_len s
  have l2 := linesF_len t
  refine (linesD_any s t w hs ht (fun ds => ∃ ps, Ch (eqL (linesF s) (linesF t)) 0 0 ps (linesF s).length (linesF t).length ∧ QT (eqL (linesF s) (linesF t)) (linesF s).length (linesF t).length 50 ps ∧ ds = diffsFrom (linesF s).length (linesF t).length 0 0 ps) (fun W A C c d hx hy hc hd => ?_)).mono ?_
  · refine (ldifLines (E := eqL (linesF s) (linesF t)) (fun _ _ _ _ => rfl) hx hy hc hd (by omega) (by omega)).mono ?_
    rintro e w' ⟨ps, A', c', rfl, o, b, h1, h2⟩
    obtain ⟨k, hk⟩ := lead_chain h1
    exact ⟨_, A', c', rfl, CellsR.of_own o, b, ⟨ps, h1, h2, rfl⟩, diffs_most h1, lead_bounds hk⟩
  · rintro e w' ⟨es, A, c, h1, o, b, ds, ⟨ps, q1, q2, rfl⟩, q3⟩
    exact ⟨es, A, c, h1, o, b, ps, q1, q2, q3⟩

/-! ### hunks of no edits, and of some -/
theorem unif_nil (s : ByteArray) (c : Int) : unifF s c [] = [] := rfl
theorem unif_some {s : ByteArray} {c : Int} {r : List Ed} (h : r ≠ []) : unifF s c r ≠ [] := by
  rcases List.eq_nil_or_concat r with h1 | ⟨l, x, h1⟩
  · exact absurd h1 h
  · subst h1
    unfold unifF foldU
    rw [List.concat_eq_append, List.foldl_append, List.foldl_cons, List.foldl_nil]
    simp [stepU, endU]
theorem lineF_nil (s : ByteArray) : lineF s [] = [] := by simp [lineF]
/-- the text of the differences -/
def uniT (s f g : ByteArray) (es : List Ed) : ByteArray := uniS f g (unifF s 3 (lineF s es))
theorem uniT_empty {s t f g : ByteArray} {es : List Ed} (hf : LinesFine s t es) (hn : s = t → es.length = 0) : uniT s f g es = ⟨#[]⟩ ↔ s = t := by
  unfold uniT
  rw [uniS_empty]
  constructor
  · intro h1
    have h2 : lineF s es = [] := by
      apply Classical.byContradiction
      intro h3
      exact unif_some h3 h1
    have h3 := (lineF_good hf.order).patch
    rw [h2, hf.patch] at h3
    have h4 : patchB s 0 [] = s := by
      show s.extract 0 s.size = s
      exact ByteArray.extract_zero_size
    rw [← h3, h4]
  · intro h1
    have h2 : es = [] := List.eq_nil_of_length_eq_zero (hn h1)
    rw [h2, lineF_nil, unif_nil]

/-- what Unified gives -/
def UOut (s t f g : ByteArray) (w : World) (e : Ending) (w' : World) : Prop := ∃ es, LinesP s t es ∧ Below w.heap.size w w' ∧ e = .returned (.string (uniT s f g es))
theorem validate_ed {s : ByteArray} {es : List Ed} (hs : s.size ≤ 1000000) (ho : inOrderF s.size 0 es = true) (hl : es.length ≤ 1000000) (hz : szE es ≤ 1100000) :
    ∀ A c w, EdsR w A es → Calls Tryz.prog 29 #[.string s, .slice A es.length c] w (ValidG s.size c (fun l => l = es) w) := fun A c w h =>
  (validate_sorted s es (by omega) (by omega) (by omega) (order_sortedU (by omega) es 0 (by omega) ho) A c w h).mono fun e w' h => ⟨es, rfl, h⟩
set_option maxRecDepth 100000 in
set_option maxHeartbeats 1000000 in
theorem unifiedD_any (s t f g : ByteArray) (w : World) (hs : s.size ≤ 1000000) (ht : t.size ≤ 1000000) (hF : ∀ es, LinesP s t es → LinesFine s t es) (hfg : f.size + g.size ≤ 1000000) (hT : TabP w) :
    Calls Tryz.prog 10 #[.string f, .string g, .string s, .string t] w (UOut s t f g w) := by
  have HL := Lib.hid (linesK_any s t w hs ht)
  have HA := Lib.hid (fun es (h : LinesP s t es) A c W (hr : EdsR W A es) (hc : es.length ≤ c) (ht : TabP W) => toUnifiedD_any (P := fun l => l = es) s f g 3 A c es W hs hfg (by omega) (by omega) hr (fun h => h.symm)
    (fun es' h' => by subst h'; have hf := hF _ h; exact ⟨rfl, hf.len, hf.size, hf.all⟩)
    (fun W' hW' => lineEdits_any s A c es W' hs hc (fun es' h' => by subst h'; have hf := hF _ h; exact ⟨rfl, hf.len, hf.size⟩) (validate_ed hs (hF es h).order (hF es h).len (hF es h).size A c W' hW')) ht)
  have HFI := Lib.hid (fun es (h : LinesP s t es) => (hF es h).order)
  have HT := Lib.hid hT
  clear hT hF hfg hs ht
  unfold EdsOut at HL
  unfold TUG at HA
  go_enter Tryz.func10, Tryz.ntmps10
  go_wp2_with fail
  refine HL.out.mono ?_
  rintro e w1 ⟨es, A, c, rfl, o1, b1, hp⟩
  have hcap := own_capV o1
  have hta := HA.out es hp A c w1 (CellsR.of_own o1) hcap (HT.out.below b1 (Nat.le_refl _))
  have hio := HFI.out es hp
  obtain ⟨n, hn⟩ : ∃ n, es.length = n := ⟨_, rfl⟩
  rw [hn] at hta ⊢
  have HTA := Lib.hid hta; have HIO := Lib.hid hio; have HP := Lib.hid hp; have HB1 := Lib.hid b1
  clear hta hio hp b1 o1 hcap hn HA HFI HL
  go_wp2_with fail
  refine HTA.out.mono ?_
  rintro e w2 ⟨es', rfl, hb2, ⟨_, rfl⟩ | ⟨hno, _⟩⟩
  · have HB2 := Lib.hid (HB1.out.trans (hb2.mono HB1.out.size)); clear hb2
    go_wp2
    go_ret
    exact ⟨es', HP.out, HB2.out, rfl⟩
  · exfalso
    rw [HIO.out] at hno
    cases hno
set_option maxRecDepth 100000 in
theorem implUnified_any (s t f g : ByteArray) (w : World) (hs : s.size ≤ 1000000) (ht : t.size ≤ 1000000) (hF : ∀ es, LinesP s t es → LinesFine s t es) (hfg : f.size + g.size ≤ 1000000) (hT : TabP w) :
    Calls Tryz.prog 6 #[.string f, .string g, .string s, .string t] w (UOut s t f g w) := by
  have HL := Lib.hid (unifiedD_any s t f g w hs ht hF hfg hT)
  clear hs ht hF hfg hT
  unfold UOut at HL
  go_enter Tryz.func6, Tryz.ntmps6
  go_wp2_with fail
  refine HL.out.mono ?_
  rintro e w1 ⟨es, hp, hb, rfl⟩
  obtain ⟨u, hu⟩ : ∃ u, uniT s f g es = u := ⟨_, rfl⟩
  rw [hu]
  have HP := Lib.hid hp; have HB := Lib.hid hb; have HU := Lib.hid hu
  clear hp hb hu
  go_wp2
  go_ret
  exact ⟨es, HP.out, HB.out, by rw [HU.out]; rfl⟩
theorem contextD_any (w : World) : Calls Tryz.prog 7 #[] w fun e w' => e = .returned (.int .i64 3) ∧ w = w' := by
  go_enter Tryz.func7, Tryz.ntmps7
  go_wp2
  go_ret
  exact ⟨rfl, rfl⟩
theorem IntsR.lit4 (kd : IntKind) (w : World) (t : TypeId) (x y z u : Int) : IntsR kd (w.alloc (.cells #[.int kd x, .int kd y, .int kd z, .int kd u] t)) (some ⟨w.heap.size, 0, none⟩) [x, y, z, u] := by
  refine .inr ⟨_, _, rfl, fun j u' hu => ?_⟩
  have := (Blk.new w t #[.int kd x, .int kd y, .int kd z, .int kd u]).cell (0 + j)
  rw [this]
  simpa [intCells] using hu
end Go.Proofs.YtgphjnhbheimiaaGreatDoor
