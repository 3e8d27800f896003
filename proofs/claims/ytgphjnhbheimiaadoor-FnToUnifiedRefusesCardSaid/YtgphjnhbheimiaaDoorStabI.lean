/-
  The walk of sort.insertionSort over edits. No condition but the length.
-/
import Derived.Test.YtgphjnhbheimiaaDoorStabW
import Derived.BigQuiet
namespace Go.Proofs.YtgphjnhbheimiaaDoor
set_option linter.unusedVariables false
open Go.RowKit Go.Shelf

/-- first places in their order -/
def TagInc (a b : Nat) (f : RowT) : Prop := ∀ i j, a ≤ i → i < j → j < b → (f i).2 < (f j).2
set_option maxRecDepth 100000 in
set_option maxHeartbeats 2000000 in
theorem insertion_any {w : World} {base g n c : Nat} {f : RowT} (h : RowS w base g n c f) {a b : Nat} (hab : a ≤ b) (hb : b ≤ n) (hl : n ≤ 20000000) :
    Calls Tryd.prog 57 #[.iface 78 (.slice (some ⟨g, 0, none⟩) n c), .int .i64 a, .int .i64 b] w (SortOut base g n c f (fun f' => Stp a b f f' ∧ (GoodF n f → TagInc a b f → SrtF a b f')) w) := by
  have m2 := mLess (some ⟨g, 0, none⟩) n c
  have m3 := mSwap (some ⟨g, 0, none⟩) n c
  have e2 := enters_of Tryd.func82 (by kernel_rfl) rfl
  have e3 := enters_of Tryd.func83 (by kernel_rfl) rfl
  have H := Lib.hid h; clear h
  go_enter Tryd.func57, Tryd.ntmps57
  go_wp2
  go_loopg [6] (b - (a + 1)) (fun q v wr => ∃ (i : Nat) (f' : RowT), v = .int .i64 i ∧ a + 1 ≤ i ∧ (i ≤ b ∨ i = a + 1) ∧ q = b - i ∧ (b ≤ a + 1 → f' = f) ∧ RowS wr base g n c f' ∧ Below base w wr ∧ (rowT n f').Perm (rowT n f) ∧ Stp a i f f' ∧ (GoodF n f → TagInc a b f → SrtF a i f'))
  case atStart => exact ⟨a + 1, f, by first | rfl | go_num, by omega, .inr rfl, by omega, fun _ => rfl, H.out, Below.refl _ _, List.Perm.refl _, Stp.rf _ _ _, fun _ _ => SrtF.one _ _ _ (by omega)⟩
  case round =>
    obtain ⟨i, f', rfl, hai, hib, hq, hsm, hr, hbl, hp, hst, hso⟩ := hrel
    have HQ := Lib.hid hq; have HR := Lib.hid hr; have HBL := Lib.hid hbl; have HP := Lib.hid hp; have HST := Lib.hid hst; have HSO := Lib.hid hso; have HSM := Lib.hid hsm
    clear hq hr hbl hp hst hso hsm
    by_cases hlt : i < b
    · go_wp2
      go_loopg [7] i (fun q2 v wr2 => ∃ (j : Nat) (f2 : RowT), v = .int .i64 j ∧ a ≤ j ∧ j ≤ i ∧ q2 = j ∧ RowS wr2 base g n c f2 ∧ Below base w wr2 ∧ (rowT n f2).Perm (rowT n f) ∧ Stp a (i + 1) f f2 ∧ (GoodF n f → TagInc a b f → Sink a i j f2))
      case atStart =>
        refine ⟨i, f', rfl, by omega, Nat.le_refl _, rfl, HR.out, HBL.out, HP.out, HST.out.wide (Nat.le_refl _) (by omega), fun h1 h2 => Sink.start (HSO.out h1 h2) fun p hp1 hp2 => ?_⟩
        obtain ⟨p', q1, q2, e⟩ := HST.out.inn p hp1 hp2
        rw [e, HST.out.out i (by omega)]
        exact h2 p' i q1 q2 hlt
      case round =>
        obtain ⟨j, f2, rfl, haj, hji, hq2, hr2, hbl2, hp2, hst2, hsk⟩ := hrel
        have HQ2 := Lib.hid hq2; have HR2 := Lib.hid hr2; have HBL2 := Lib.hid hbl2; have HP2 := Lib.hid hp2; have HST2 := Lib.hid hst2; have HSK := Lib.hid hsk
        clear hq2 hr2 hbl2 hp2 hst2 hsk
        by_cases hgt : a < j
        · obtain ⟨j1, hj1, hj2⟩ : ∃ j1, j ≤ j1 + 1 ∧ j1 + 1 ≤ j := ⟨j - 1, by omega, by omega⟩
          have hc1 : (a : Int) < (j : Int) := by omega
          have hc2 : decide ((a : Int) < (j : Int)) = true := decide_eq_true hc1
          have wj : IntKind.i64.wrap ((j : Int) - 1) = (j1 : Int) := by rw [show (j : Int) - 1 = (j1 : Int) by omega]; exact IntWalk.i64_in _ (by omega)
          have wj' : (j : Int) - 1 = (j1 : Int) := by omega
          have hls := HR2.out.less (i := j) (j := j1) (by omega) (by omega) hl
          cases hb1 : lessW (f2 j).1 (f2 j1).1 with
          | true =>
            rw [hb1] at hls
            have HLS := Lib.hid hls; clear hls
            go_wp2_with fail
            refine HLS.out.mono ?_
            rintro e w3 ⟨rfl, q3, rfl⟩
            have hsw := swap_any (HR2.out.drewN q3) (i := j) (j := j1) (by omega) (by omega) (by omega) hl
            have HSW := Lib.hid hsw; clear hsw
            go_wp2_with fail
            refine HSW.out.mono ?_
            rintro e w4 ⟨rfl, hr4, hb4⟩
            have HR4 := Lib.hid hr4; have HB4 := Lib.hid hb4; clear hr4 hb4
            go_wp2
            go_roundg j1
            case measure => have := HQ2.out; omega
            case rel =>
              refine ⟨j1, swapF f2 j j1, by first | rfl | go_num, by omega, by omega, rfl, HR4.out, HBL2.out.trans ((below_drewN (Below.refl _ _) q3).trans HB4.out), (rowT_swap n f2 (by omega) (by omega)).trans HP2.out, HST2.out.tr (Stp.swap f2 (by omega) (by omega) (by omega) (by omega)), fun h1 h2 => ?_⟩
              have hs := HSK.out h1 h2
              have hG := h1.stp HST2.out (by omega)
              have ht := hs.2 j1 (by omega) (by omega)
              have hrr := less_RR (hG j (by omega)) (hG j1 (by omega)) ht hb1
              have h3 := hs.next hgt hji (by rw [show j - 1 = j1 by omega]; exact hrr)
              rw [show j - 1 = j1 by omega] at h3
              exact h3
          | false =>
            rw [hb1] at hls
            have HLS := Lib.hid hls; clear hls
            go_wp2_with fail
            refine HLS.out.mono ?_
            rintro e w3 ⟨rfl, q3, rfl⟩
            have HR3 := Lib.hid (HR2.out.drewN q3)
            have HB3 := Lib.hid (below_drewN HBL2.out q3)
            go_wp2
            go_roundg (b - (i + 1))
            case measure => have := HQ.out; omega
            case rel =>
              refine ⟨i + 1, f2, by first | rfl | go_num, by omega, .inl (by omega), rfl, fun h => by omega, HR3.out, HB3.out, HP2.out, HST2.out, fun h1 h2 => ?_⟩
              have hs := HSK.out h1 h2
              have hG := h1.stp HST2.out (by omega)
              have ht := hs.2 j1 (by omega) (by omega)
              exact hs.done (.inr (by rw [show j - 1 = j1 by omega]; exact nless_RR (hG j (by omega)) (hG j1 (by omega)) ht hb1))
        · have hc1 : ¬ (a : Int) < (j : Int) := by omega
          have hc2 : decide ((a : Int) < (j : Int)) = false := decide_eq_false hc1
          go_wp2
          go_roundg (b - (i + 1))
          case measure => have := HQ.out; omega
          case rel =>
            refine ⟨i + 1, f2, by first | rfl | go_num, by omega, .inl (by omega), rfl, fun h => by omega, HR2.out, HBL2.out, HP2.out, HST2.out, fun h1 h2 => (HSK.out h1 h2).done (.inl (by omega))⟩
    · go_wp2
      go_end0
      refine ⟨rfl, f', HR.out, HBL.out, HP.out, ?_⟩
      by_cases hs : b ≤ a + 1
      · rw [HSM.out hs]
        exact ⟨Stp.rf _ _ _, fun _ _ => SrtF.one _ _ _ hs⟩
      · obtain rfl : i = b := by omega
        exact ⟨HST.out, HSO.out⟩
end Go.Proofs.YtgphjnhbheimiaaDoor
