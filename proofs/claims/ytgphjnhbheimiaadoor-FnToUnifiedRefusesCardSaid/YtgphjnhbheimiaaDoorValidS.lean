/-
  The walk of diff.validate over edits that are not in their order: it sorts a copy. At most 2000000 edits, texts of at most 4000000 bytes together.
-/
import Derived.Test.YtgphjnhbheimiaaDoorAplE
import Derived.Test.YtgphjnhbheimiaaDoorStabN
namespace Go.Proofs.YtgphjnhbheimiaaDoor
set_option linter.unusedVariables false
open Go.RowKit Go.Shelf

set_option maxRecDepth 100000 in
set_option maxHeartbeats 1000000 in
theorem validate_uns {P : List Ed → Prop} (s : ByteArray) (A : Option Addr) (c : Nat) (es : List Ed) (w : World) (hr : EdsR w A es) (hl : es.length ≤ 2000000) (hs : s.size ≤ 2000000) (hso : sortedW es = false) (hP : ∀ es', P es' → es'.length = es.length ∧ szE es' ≤ 4000000)
    (h2 : ∀ A' c' w', w'.ownsRow w.heap.size 50 3 (.slice A' es.length c') es.length (edCells es) → Below w.heap.size w w' →
      Calls Tryd.prog 34 #[.slice A' es.length c'] w' fun e w'' => e = .returned (.tuple #[]) ∧ ∃ es', P es' ∧ w''.ownsRow w.heap.size 50 3 (.slice A' es.length c') es.length (edCells es') ∧ Below w.heap.size w w'') :
   Calls Tryd.prog 26 #[.string s, .slice A es.length c] w (ValidG s.size c P w) := by
  have hiss := isSorted_any A c es w hr (by omega)
  have HIS := Lib.hid hiss; clear hiss
  have hcl := fun q => clone_any A c es (w.drewN q) (hr.drewN q) (by omega)
  have HCL := Lib.hid hcl; clear hcl
  have H3 := Lib.hid h2; clear h2
  have HPL := Lib.hid hP; clear hP
  have HR := Lib.hid hr; clear hr
  rw [hso] at HIS
  obtain ⟨n, hn⟩ : ∃ n, es.length = n := ⟨_, rfl⟩
  rw [hn] at hl HIS HCL H3 HPL ⊢
  clear hn
  have HSO := Lib.hid hso; clear hso
  go_enter Tryd.func26, Tryd.ntmps26
  go_wp2_with fail
  refine HIS.out.mono ?_
  rintro e w1 ⟨rfl, q, rfl⟩
  go_wp2_with fail
  refine (HCL.out q).mono ?_
  rintro e w2 ⟨A', c', rfl, ho2, hb2⟩
  have hb2' : Below w.heap.size w w2 := (below_drewN (Below.refl w.heap.size w) q).trans hb2
  have h4 := H3.out A' c' w2 ho2 hb2'
  have H4 := Lib.hid h4; clear h4 ho2 hb2 hb2' H3 HCL HIS HR
  go_wp2_with fail
  refine H4.out.mono ?_
  rintro e WL ⟨rfl, es', hpp, hoL, hbL⟩
  obtain ⟨hlen, hz⟩ := HPL.out es' hpp
  have LX := Lib.hid hlen; have HPP := Lib.hid hpp; clear hlen hpp
  have HBL := Lib.hid hbL
  have HOL := Lib.hid hoL
  clear hbL hoL H4
  go_wp2
  go_loopg [7, 8, 23] n (fun q z le i wr => ∃ (k : Nat) (Z at_ : Int), q = n - k ∧ k ≤ n ∧ i = .int .i64 k ∧ z = .int .i64 Z ∧ le = .int .i64 at_ ∧ 0 ≤ at_ ∧ at_ ≤ s.size ∧ (s.size : Int) - at_ ≤ Z ∧ Z ≤ s.size + szE (es'.take k) ∧ inOrderF s.size 0 es' = inOrderF s.size at_ (es'.drop k) ∧ sizeD s.size es' = sizeD Z (es'.drop k) ∧ Below WL.heap.size WL wr)
  case atStart => exact ⟨0, s.size, 0, by omega, by omega, rfl, rfl, rfl, by omega, by omega, by omega, by omega, rfl, rfl, Below.refl _ _⟩
  case round =>
    obtain ⟨k, Z, at_, hq, hk, rfl, rfl, rfl, ha0, haN, hz1, hz2, hio, hsd, hb⟩ := hrel
    have HQ := Lib.hid hq; clear hq
    have HIO := Lib.hid hio; clear hio
    have HSD := Lib.hid hsd; clear hsd
    by_cases hlt : k < n
    · obtain ⟨b, off, hAA, hbb, g1, g2, g3⟩ := (EdsR.below (CellsR.of_own HOL.out : EdsR WL A' es') hb (Nat.le_refl _)).at_ (k := k) (by rw [LX.out]; exact hlt)
      subst hAA
      have hbs := hb.size
      have hwl := HBL.out.size
      have hd := inOrderF_drop s.size at_ es' k (by rw [LX.out]; exact hlt)
      have HD := Lib.hid hd; clear hd
      have hd := sizeD_drop Z es' k (by rw [LX.out]; exact hlt)
      have HZD := Lib.hid hd; clear hd
      have htk := szE_take es' k (by rw [LX.out]; exact hlt)
      have hle1 := szE_take_le es' (k + 1)
      have hle2 := szE_take_le es' k
      generalize hT1 : szE (es'.take (k + 1)) = T1 at *
      generalize hT : szE (es'.take k) = T at *
      have HT1 := Lib.hid hT1; clear hT1
      clear hT
      generalize hS : eS es' k = S at *
      generalize hE : eE es' k = E at *
      generalize hN : eN es' k = M at *
      have hin : insideB (edAt es' k) s.size = decide (0 ≤ S ∧ S ≤ E ∧ E ≤ s.size) := by rw [← hS, ← hE]; rfl
      have HIN := Lib.hid hin; clear hin hS hE hN
      obtain ⟨ml, hml⟩ : ∃ ml, M.size = ml := ⟨_, rfl⟩
      rw [hml] at htk
      by_cases c1 : (0 : Int) ≤ S
      · by_cases c2 : S ≤ E
        · by_cases c3 : E ≤ (s.size : Int)
          · by_cases c4 : S < at_
            · go_wp2
              go_ret3
              refine ⟨es', HPP.out, HBL.out.trans (((hb.alloc hbs _).alloc (by simp; omega) _).mono hwl), .inr ⟨?_, none, 0, _, _, rfl, by decide⟩⟩
              rw [HIO.out, HD.out, decide_eq_false (by omega : ¬ at_ ≤ S)]
              simp
            · have w1 : IntKind.i64.wrap ((ml : Int) + S) = ml + S := IntWalk.i64_in _ (by omega)
              have w2 : IntKind.i64.wrap ((ml : Int) + S - E) = ml + S - E := IntWalk.i64_in _ (by omega)
              have w3 : IntKind.i64.wrap (Z + ((ml : Int) + S - E)) = Z + (ml + S - E) := IntWalk.i64_in _ (by omega)
              go_wp2
              go_roundg (n - (k + 1))
              case measure => have := HQ.out; omega
              case rel =>
                refine ⟨k + 1, Z + (ml + S - E), E, rfl, by omega, by go_num, rfl, rfl, by omega, by omega, by omega, by rw [HT1.out]; omega, ?_, ?_, hb.alloc hbs _⟩
                · rw [HIO.out, HD.out, HIN.out, decide_eq_true (by omega : at_ ≤ S), decide_eq_true (⟨c1, c2, c3⟩ : 0 ≤ S ∧ S ≤ E ∧ E ≤ (s.size : Int))]
                  rfl
                · rw [HSD.out, HZD.out, hml]
          · go_wp2
            go_ret3
            refine ⟨es', HPP.out, HBL.out.trans (((hb.alloc hbs _).alloc (by simp; omega) _).mono hwl), .inr ⟨?_, none, 0, _, _, rfl, by decide⟩⟩
            rw [HIO.out, HD.out, HIN.out, decide_eq_false (by omega : ¬ (0 ≤ S ∧ S ≤ E ∧ E ≤ (s.size : Int)))]
            rfl
        · go_wp2
          go_ret3
          refine ⟨es', HPP.out, HBL.out.trans (((hb.alloc hbs _).alloc (by simp; omega) _).mono hwl), .inr ⟨?_, none, 0, _, _, rfl, by decide⟩⟩
          rw [HIO.out, HD.out, HIN.out, decide_eq_false (by omega : ¬ (0 ≤ S ∧ S ≤ E ∧ E ≤ (s.size : Int)))]
          rfl
      · go_wp2
        go_ret3
        refine ⟨es', HPP.out, HBL.out.trans (((hb.alloc hbs _).alloc (by simp; omega) _).mono hwl), .inr ⟨?_, none, 0, _, _, rfl, by decide⟩⟩
        rw [HIO.out, HD.out, HIN.out, decide_eq_false (by omega : ¬ (0 ≤ S ∧ S ≤ E ∧ E ≤ (s.size : Int)))]
        rfl
    · have hkn : k = n := by omega
      subst hkn
      have hdr : es'.drop k = [] := List.drop_of_length_le (by rw [LX.out]; omega)
      rw [hdr] at HIO HSD
      go_wp2
      go_ret3
      refine ⟨es', HPP.out, HBL.out.trans (hb.mono HBL.out.size), .inl ⟨HIO.out, A', c', ?_, (CellsR.of_own HOL.out : EdsR WL A' es').below hb (Nat.le_refl _), fun _ => by rw [LX.out]; exact own_capV HOL.out⟩⟩
      rw [HSD.out, LX.out]
      rfl

/-- the edits as validate goes through them: a rearrangement, the stable order where all starts are within bounds -/
def SortOf (es es' : List Ed) : Prop := es'.Perm es ∧ ((∀ x ∈ es, GoodE x) → es' = sortE es)
theorem szE_perm {a b : List Ed} (h : a.Perm b) : szE a = szE b := by
  induction h with
  | nil => rfl
  | cons x _ ih => simp only [szE, ih]
  | swap x y l => simp only [szE]; omega
  | trans _ _ ih1 ih2 => exact ih1.trans ih2
theorem validate_all (s : ByteArray) (es : List Ed) (hl : es.length ≤ 2000000) (hs : s.size ≤ 2000000) (hz : szE es ≤ 4000000) :
    ∀ A c w, EdsR w A es → Calls Tryd.prog 26 #[.string s, .slice A es.length c] w (ValidG s.size c (SortOf es) w) := by
  intro A c w hr
  cases hso : sortedW es with
  | true => exact (validate_any s A c es es w hr hl hs hz (fun _ => rfl) (fun h => by rw [hso] at h; cases h)).mono fun e w' h => ⟨es, ⟨List.Perm.refl _, fun hg => (sortE_sorted hg hso).symm⟩, h⟩
  | false =>
    have h0 : 0 < es.length := by
      cases es with
      | nil => cases hso
      | cons x l => simp
    refine validate_uns s A c es w hr hl hs hso (fun es' h => ⟨h.1.length_eq, by rw [szE_perm h.1]; exact hz⟩) fun A' c' w' ho hb => ?_
    refine (sortEdits_any rfl ho h0 (by omega)).mono ?_
    rintro e w'' ⟨rfl, es', h1, h2, h3, h4⟩
    exact ⟨rfl, es', ⟨h1, h2⟩, h3, hb.trans h4⟩
end Go.Proofs.YtgphjnhbheimiaaDoor
