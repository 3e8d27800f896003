/-
  The walk of spec.ToldOf: what is told of edits. Condition: at most 20000000 edits.
-/
import Derived.Test.YtoceakjnkillkaaToldP
import Derived.Deep.LoopGhost
import Derived.IntWalk
import Derived.BigQuiet
namespace Go.Proofs.Ytoceakjnkillkaa
set_option linter.unusedVariables false
open Go.RowKit

theorem drop_cons_told (es : List Ed) (k : Nat) (h : k < es.length) : es.drop k = edAt es k :: es.drop (k + 1) := by
  rw [List.drop_eq_getElem_cons h]
  simp [edAt, h]
/-- an odd pair ahead -/
def oddT (T : Int) (es : List Ed) (p : Nat) (E : Ed) : Int := if ∃ d ∈ es.take p, oddB d E = true then 2 else T
theorem oddT_zero (T : Int) (es : List Ed) (E : Ed) : oddT T es 0 E = T := by simp [oddT]
theorem oddT_yes {T : Int} {es : List Ed} {p : Nat} {E F : Ed} (h : es.take (p + 1) = es.take p ++ [F]) (ho : oddB F E = true) : oddT T es (p + 1) E = 2 := by
  unfold oddT
  rw [h, if_pos ⟨F, by simp, ho⟩]
theorem oddT_no {T : Int} {es : List Ed} {p : Nat} {E F : Ed} (h : es.take (p + 1) = es.take p ++ [F]) (ho : oddB F E = false) : oddT T es (p + 1) E = oddT T es p E := by
  unfold oddT
  rw [h]
  have : (∃ d ∈ es.take p ++ [F], oddB d E = true) ↔ ∃ d ∈ es.take p, oddB d E = true := by
    constructor
    · rintro ⟨d, hd, h2⟩
      rcases List.mem_append.1 hd with hd | hd
      · exact ⟨d, hd, h2⟩
      · obtain rfl : d = F := by simpa using hd
        rw [ho] at h2; cases h2
    · rintro ⟨d, hd, h2⟩
      exact ⟨d, by simp [hd], h2⟩
  simp only [this]
theorem told_out {size T : Int} {es : List Ed} {k : Nat} {E : Ed} (hd : es.drop k = E :: es.drop (k + 1)) (h : insideB E size = false) : toldL size T (es.take k) (es.drop k) = 1 := by
  rw [hd]; unfold toldL; rw [if_neg (by rw [h]; simp)]
theorem told_over {size T : Int} {es : List Ed} {k l : Nat} {E : Ed} (hd : es.drop k = E :: es.drop (k + 1)) (hl : l < k) (hk : k ≤ es.length) (h : overlapB (edAt es l) E = true) : toldL size T (es.take k) (es.drop k) = 1 := by
  rw [hd]; unfold toldL; rw [if_neg]
  rintro ⟨_, h2⟩
  have := h2 (edAt es l) (by
    rw [List.mem_take_iff_getElem]
    exact ⟨l, by omega, by simp [edAt, show l < es.length by omega]⟩)
  rw [h] at this; cases this
theorem told_go {size T : Int} {es : List Ed} {k : Nat} {E : Ed} (hd : es.drop k = E :: es.drop (k + 1)) (ht : es.take (k + 1) = es.take k ++ [E]) (hk : k ≤ es.length) (h : insideB E size = true) (ho : ∀ l, l < k → overlapB (edAt es l) E = false) :
    toldL size T (es.take k) (es.drop k) = toldL size (oddT T es k E) (es.take (k + 1)) (es.drop (k + 1)) := by
  rw [hd]
  conv => lhs; unfold toldL
  rw [if_pos ⟨h, fun d hd => by
    obtain ⟨l, hl, rfl⟩ := List.mem_take_iff_getElem.1 hd
    have := ho l (by omega)
    simpa [edAt, show l < es.length by omega] using this⟩, ht]
  rfl

set_option maxRecDepth 100000 in
set_option maxHeartbeats 2000000 in
theorem toldOf_any (A : Option Addr) (c : Nat) (es : List Ed) (size : Int) (w : World) (hr : EdsR w A es) (hc : es.length ≤ c) (hl : es.length ≤ 20000000) :
   Calls Try.prog 19 #[.slice A es.length c, .int .i64 size] w fun e w' => e = .returned (.int .i64 (toldF size es)) ∧ Below w.heap.size w w' := by
  have HR := Lib.hid hr; clear hr
  obtain ⟨n, hln⟩ : ∃ n, es.length = n := ⟨_, rfl⟩
  rw [hln] at hl hc ⊢
  have HL := Lib.hid hln; clear hln
  go_enter Try.func19, Try.ntmps19
  go_wp2
  go_loopg [5, 12] n (fun q t i wr => ∃ (k : Nat) (T : Int), q = n - k ∧ k ≤ n ∧ i = .int .i64 k ∧ t = .int .i64 T ∧ toldF size es = toldL size T (es.take k) (es.drop k) ∧ Below w.heap.size w wr)
  case atStart => exact ⟨0, 0, rfl, Nat.zero_le _, rfl, rfl, rfl, Below.refl _ _⟩
  case round =>
    obtain ⟨k, T, hq, hk, rfl, rfl, hto, hb⟩ := hrel
    have HQ := Lib.hid hq; have HTO := Lib.hid hto
    clear hq hto
    by_cases hlt : k < n
    · obtain ⟨b, off, rfl, hbb, g1, g2, g3⟩ := (EdsR.below HR.out hb (Nat.le_refl _)).at_ (k := k) (by rw [HL.out]; exact hlt)
      have hbs := hb.size
      have hdc := drop_cons_told es k (by rw [HL.out]; exact hlt)
      have htk0 := take_snoc_ed es k (by rw [HL.out]; exact hlt)
      generalize hE : edAt es k = E at *
      have hE1 : eS es k = E.s := by rw [← hE]; rfl
      have hE2 : eE es k = E.e := by rw [← hE]; rfl
      have hE3 : eN es k = E.n := by rw [← hE]; rfl
      rw [hE1] at g1
      rw [hE2] at g2
      rw [hE3] at g3
      have HE := Lib.hid hE; have HDC := Lib.hid hdc; have HTK0 := Lib.hid htk0
      clear hE hE1 hE2 hE3 hdc htk0
      have hbk := Blk.new wr 28 #[.int .i64 E.s, .int .i64 E.e, .string E.n]
      have HBK := Lib.hid hbk; clear hbk
      have HB := Lib.hid (hb.alloc hbs (.cells #[.int .i64 E.s, .int .i64 E.e, .string E.n] 28)); clear hb
      have hwsz : wr.heap.size < (wr.alloc (.cells #[.int .i64 E.s, .int .i64 E.e, .string E.n] 28)).heap.size := by simp
      have hin := inside_any E size (wr.alloc (.cells #[.int .i64 E.s, .int .i64 E.e, .string E.n] 28))
      cases hib : insideB E size with
      | false =>
        rw [hib] at hin
        have HIN := Lib.hid hin; have HIB := Lib.hid hib; clear hin hib
        go_wp2_with fail
        refine HIN.out.mono ?_
        rintro e w2 ⟨rfl, hb2⟩
        have HB2 := Lib.hid (HB.out.trans (hb2.mono HB.out.size)); clear hb2
        go_wp2
        go_ret
        exact ⟨ret_int (by rw [HTO.out, told_out HDC.out HIB.out]), HB2.out⟩
      | true =>
        rw [hib] at hin
        have HIN := Lib.hid hin; have HIB := Lib.hid hib; clear hin hib
        go_wp2_with fail
        refine HIN.out.mono ?_
        rintro e w2 ⟨rfl, hb2⟩
        have hbk2 := HBK.out.below hb2 hwsz
        have HB2 := Lib.hid (HB.out.trans (hb2.mono HB.out.size))
        have hs2 := hb2.size
        have hbxw : wr.heap.size < w2.heap.size := by omega
        have HBK2 := Lib.hid hbk2
        clear hb2 hbk2 HBK HB HIN hwsz hs2
        generalize hbx : wr.heap.size = bx at *
        clear hbx g1 g2 g3 hbb
        have hkc : (k : Int) ≤ (c : Int) := by omega
        have hk0 : (0 : Int) ≤ (k : Int) := by omega
        go_wp2
        go_loopg [5, 25] k (fun q t i wi => ∃ p : Nat, q = k - p ∧ p ≤ k ∧ i = .int .i64 p ∧ t = .int .i64 (oddT T es p E) ∧ (∀ l, l < p → overlapB (edAt es l) E = false) ∧ Below w2.heap.size w2 wi)
        case atStart => exact ⟨0, rfl, Nat.zero_le _, rfl, by rw [oddT_zero], fun l hl => by omega, Below.refl _ _⟩
        case round =>
          obtain ⟨p, hqp, hpk, rfl, rfl, hall, hbi⟩ := hrel
          have HQP := Lib.hid hqp; have HALL2 := Lib.hid hall; clear hqp hall
          have hbis := hbi.size
          by_cases hlt2 : p < k
          · obtain ⟨b', off', hAA, hbb', f1, f2, f3⟩ := (EdsR.below HR.out (HB2.out.trans (hbi.mono HB2.out.size)) (Nat.le_refl _)).at_ (k := p) (by rw [HL.out]; omega)
            cases hAA
            have hbk := HBK2.out.below hbi hbxw
            have HBK3 := Lib.hid hbk
            have HBI2 := Lib.hid hbi
            have b0 : wr.cell? ⟨bx, 0, none⟩ = some (.int .i64 E.s) := hbk.cell 0
            have b1 : wr.cell? ⟨bx, 1, none⟩ = some (.int .i64 E.e) := hbk.cell 1
            have b2 : wr.cell? ⟨bx, 2, none⟩ = some (.string E.n) := hbk.cell 2
            have hbxi : bx < wr.heap.size := by omega
            clear hbk hbi
            have htk := take_snoc_ed es p (by rw [HL.out]; omega)
            generalize hF : edAt es p = F at *
            have hF1 : eS es p = F.s := by rw [← hF]; rfl
            have hF2 : eE es p = F.e := by rw [← hF]; rfl
            have hF3 : eN es p = F.n := by rw [← hF]; rfl
            rw [hF1] at f1
            rw [hF2] at f2
            rw [hF3] at f3
            have HF := Lib.hid hF; have HTK := Lib.hid htk
            clear hF hF1 hF2 hF3 htk
            have hfk := Blk.new wr 28 #[.int .i64 F.s, .int .i64 F.e, .string F.n]
            have hek := HBK3.out.alloc (.cells #[.int .i64 F.s, .int .i64 F.e, .string F.n] 28)
            have HFK := Lib.hid hfk; have HEK := Lib.hid hek
            clear hfk hek
            have hov := overlap_any F E (wr.alloc (.cells #[.int .i64 F.s, .int .i64 F.e, .string F.n] 28))
            have hwsz2 : wr.heap.size < (wr.alloc (.cells #[.int .i64 F.s, .int .i64 F.e, .string F.n] 28)).heap.size := by simp
            cases hoo : overlapB F E with
            | true =>
              rw [hoo] at hov
              have HOV := Lib.hid hov; have HOO := Lib.hid hoo; clear hov hoo
              go_wp2_with fail
              refine HOV.out.mono ?_
              rintro e w4 ⟨rfl, hb4⟩
              have HB4 := Lib.hid ((HB2.out.trans (HBI2.out.mono HB2.out.size)).trans ((((Below.refl _ _).alloc (Nat.le_refl _) (.cells #[.int .i64 F.s, .int .i64 F.e, .string F.n] 28)).trans (hb4.mono (by simp))).mono (by have := HB2.out.size; omega)))
              clear hb4
              go_wp2
              go_ret
              exact ⟨ret_int (by rw [HTO.out, told_over HDC.out hlt2 (by rw [HL.out]; omega) (by rw [HF.out]; exact HOO.out)]), HB4.out⟩
            | false =>
              rw [hoo] at hov
              have HOV := Lib.hid hov; have HOO := Lib.hid hoo; clear hov hoo
              go_wp2_with fail
              refine HOV.out.mono ?_
              rintro e w4 ⟨rfl, hb4⟩
              have HB4 := Lib.hid (HBI2.out.trans ((((Below.refl _ _).alloc (Nat.le_refl _) (.cells #[.int .i64 F.s, .int .i64 F.e, .string F.n] 28)).trans (hb4.mono (by simp))).mono hbis))
              have hk1 := HFK.out.below hb4 hwsz2
              have hk2 := HEK.out.below hb4 (by simp; omega)
              have y0 : w4.cell? ⟨wr.heap.size, 0, none⟩ = some (.int .i64 F.s) := hk1.cell 0
              have y1 : w4.cell? ⟨wr.heap.size, 1, none⟩ = some (.int .i64 F.e) := hk1.cell 1
              have z0 : w4.cell? ⟨bx, 0, none⟩ = some (.int .i64 E.s) := hk2.cell 0
              have z1 : w4.cell? ⟨bx, 1, none⟩ = some (.int .i64 E.e) := hk2.cell 1
              clear hb4 hk1 hk2 b0 b1 b2 f1 f2 f3
              have hall' : ∀ l, l < p + 1 → overlapB (edAt es l) E = false := fun l hl => by
                by_cases hlp : l = p
                · subst hlp; rw [HF.out]; exact HOO.out
                · exact HALL2.out l (by omega)
              have HALL3 := Lib.hid hall'; clear hall'
              by_cases hs : F.s = E.s
              · have hb1 : (F.s == E.s) = true := by simp [hs]
                by_cases he : E.e < F.e
                · have hodd : oddB F E = true := by simp [oddB, hs, he]
                  have HODD := Lib.hid (oddT_yes (T := T) HTK.out hodd)
                  clear hodd hs
                  go_wp2
                  go_roundg (k - (p + 1))
                  case measure => have := HQP.out; omega
                  case rel => exact ⟨p + 1, rfl, by omega, by go_num, by rw [HODD.out], HALL3.out, HB4.out⟩
                · have hodd : oddB F E = false := by simp [oddB]; omega
                  have HODD := Lib.hid (oddT_no (T := T) HTK.out hodd)
                  clear hodd hs
                  go_wp2
                  go_roundg (k - (p + 1))
                  case measure => have := HQP.out; omega
                  case rel => exact ⟨p + 1, rfl, by omega, by go_num, by rw [HODD.out], HALL3.out, HB4.out⟩
              · have hb1 : (F.s == E.s) = false := by simp [hs]
                have hodd : oddB F E = false := by simp [oddB, hs]
                have HODD := Lib.hid (oddT_no (T := T) HTK.out hodd)
                clear hodd hs
                go_wp2
                go_roundg (k - (p + 1))
                case measure => have := HQP.out; omega
                case rel => exact ⟨p + 1, rfl, by omega, by go_num, by rw [HODD.out], HALL3.out, HB4.out⟩
          · obtain rfl : p = k := by omega
            have HBI2 := Lib.hid (HB2.out.trans (hbi.mono HB2.out.size)); clear hbi
            go_wp2
            go_roundg (n - (p + 1))
            case measure => have := HQ.out; omega
            case rel => exact ⟨p + 1, _, rfl, by omega, by go_num, rfl, by rw [HTO.out]; exact told_go HDC.out HTK0.out (by rw [HL.out]; omega) HIB.out HALL2.out, HBI2.out⟩
    · obtain rfl : k = n := by omega
      have HB := Lib.hid hb; clear hb
      go_wp2
      go_ret
      exact ⟨ret_int (by rw [HTO.out, List.drop_of_length_le (by rw [HL.out]; omega)]; rfl), HB.out⟩
end Go.Proofs.Ytoceakjnkillkaa
