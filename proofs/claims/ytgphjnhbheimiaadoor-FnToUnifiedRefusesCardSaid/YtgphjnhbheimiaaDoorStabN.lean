/-
  The walks of sort.stable, sort.Stable, diff.SortEdits over edits: a rearrangement, the stable order where starts are within bounds. Condition: at most 20000000 edits.
-/
import Derived.Test.YtgphjnhbheimiaaDoorStabM
namespace Go.Proofs.YtgphjnhbheimiaaDoor
set_option linter.unusedVariables false
open Go.RowKit Go.Shelf

/-- all well ahead of the sort -/
def StPre (n : Nat) (f : RowT) : Prop := GoodF n f ∧ ∀ k, k < n → (f k).2 = k
set_option maxRecDepth 100000 in
set_option maxHeartbeats 4000000 in
theorem stable_any {w : World} {base g n c : Nat} {f : RowT} (h : RowS w base g n c f) (hl : n ≤ 20000000) :
    Calls Tryd.prog 49 #[.iface 78 (.slice (some ⟨g, 0, none⟩) n c), .int .i64 (n : Nat)] w (SortOut base g n c f (fun f' => StPre n f → SrtF 0 n f') w) := by
  have H := Lib.hid h; clear h
  go_enter Tryd.func49, Tryd.ntmps49
  go_wp2
  go_loopg [5, 6] n (fun q u v wr => ∃ (A B d : Nat) (f' : RowT), u = .int .i64 A ∧ v = .int .i64 B ∧ B ≤ A + 20 ∧ A + 20 ≤ B ∧ A ≤ n ∧ q = n - A ∧ d * 20 = A ∧ RowS wr base g n c f' ∧ Below base w wr ∧ (rowT n f').Perm (rowT n f) ∧ (∀ k, A ≤ k → f' k = f k) ∧ Stp 0 n f f' ∧ (StPre n f → BlkS 20 n d f'))
  case atStart => exact ⟨0, 20, 0, f, rfl, rfl, by omega, by omega, Nat.zero_le _, rfl, rfl, H.out, Below.refl _ _, List.Perm.refl _, fun _ _ => rfl, Stp.rf _ _ _, fun hG => ⟨fun d hd => by omega, fun d k h1 h2 h3 => by rw [hG.2 k h3]; omega⟩⟩
  case round =>
    obtain ⟨A, B, d, f', rfl, rfl, hB1, hB2, hAn, hq, hdA, hr, hbl, hp, hun, hst, hbs⟩ := hrel
    have HQ := Lib.hid hq; have HDA := Lib.hid hdA; have HR := Lib.hid hr; have HBL := Lib.hid hbl; have HP := Lib.hid hp; have HUN := Lib.hid hun; have HST := Lib.hid hst; have HBS := Lib.hid hbs
    clear hq hdA hr hbl hp hun hst hbs
    by_cases hlt : B ≤ n
    · have hi := insertion_any HR.out (a := A) (b := B) (by omega) hlt hl
      have HI := Lib.hid hi; clear hi
      go_wp2_with fail
      refine HI.out.mono ?_
      rintro e w2 ⟨rfl, f2, hr2, hb2, hp2, hst2, hso2⟩
      have HR2 := Lib.hid hr2; have HB2 := Lib.hid hb2; have HP2 := Lib.hid hp2; have HST2 := Lib.hid hst2; have HSO2 := Lib.hid hso2
      clear hr2 hb2 hp2 hst2 hso2
      go_wp2
      go_roundg (n - B)
      case measure => have := HQ.out; omega
      case rel =>
        refine ⟨B, B + 20, d + 1, f2, rfl, by first | rfl | go_num, by omega, by omega, hlt, rfl, by have := HDA.out; omega, HR2.out, HBL.out.trans HB2.out, HP2.out.trans HP.out, fun k hk => (HST2.out.out k (.inr hk)).trans (HUN.out k (by omega)), HST.out.tr (HST2.out.wide (Nat.zero_le _) hlt), fun hG => ?_⟩
        have hd := HDA.out
        have hm : min (d * 20 + 20) n = B := by omega
        refine (HBS.out hG).next (g := f2) ?_ ?_
        · rw [hm, hd]; exact HST2.out
        · rw [hm, hd]
          exact HSO2.out (hG.1.stp HST.out (Nat.le_refl _)) fun i j h1 h2 h3 => by rw [HUN.out i h1, HUN.out j (by omega), hG.2 i (by omega), hG.2 j (by omega)]; exact h2
    · have hi := insertion_any HR.out (a := A) (b := n) hAn (Nat.le_refl _) hl
      have HI := Lib.hid hi; clear hi
      go_wp2_with fail
      refine HI.out.mono ?_
      rintro e w2 ⟨rfl, f2, hr2, hb2, hp2, hst2, hso2⟩
      have hall : StPre n f → ∀ d, BlkS 20 n d f2 := fun hG => by
        have hd := HDA.out
        have hm : min (d * 20 + 20) n = n := by omega
        refine BlkS.all (c := d + 1) ((HBS.out hG).next (g := f2) ?_ ?_) (by omega)
        · rw [hm, hd]; exact hst2
        · rw [hm, hd]
          exact hso2 (hG.1.stp HST.out (Nat.le_refl _)) fun i j h1 h2 h3 => by rw [HUN.out i h1, HUN.out j (by omega), hG.2 i (by omega), hG.2 j (by omega)]; exact h2
      have HR2 := Lib.hid hr2; have HB2 := Lib.hid (HBL.out.trans hb2); have HP2 := Lib.hid (hp2.trans HP.out); have HST2 := Lib.hid (HST.out.tr (hst2.wide (Nat.zero_le _) (Nat.le_refl _))); have HALL := Lib.hid hall
      clear hr2 hb2 hp2 hst2 hso2 hall HR HBL HP HUN HST HBS HDA HQ hB1 hB2 hAn hlt
      go_wp2
      go_loopg [4] (n - 20) (fun q u wr => ∃ (bs : Nat) (f' : RowT), u = .int .i64 bs ∧ 20 ≤ bs ∧ bs ≤ 2 * n + 20 ∧ q = n - bs ∧ RowS wr base g n c f' ∧ Below base w wr ∧ (rowT n f').Perm (rowT n f) ∧ Stp 0 n f f' ∧ (StPre n f → ∀ d, BlkS bs n d f'))
      case atStart => exact ⟨20, f2, rfl, by omega, by omega, rfl, HR2.out, HB2.out, HP2.out, HST2.out, HALL.out⟩
      case round =>
        obtain ⟨bs, f3, rfl, h20, hbn, hq, hr, hbl, hp, hst, hbs⟩ := hrel
        have HQ := Lib.hid hq; have HR := Lib.hid hr; have HBL := Lib.hid hbl; have HP := Lib.hid hp; have HST := Lib.hid hst; have HBS := Lib.hid hbs
        clear hq hr hbl hp hst hbs HR2 HB2 HP2 HST2 HALL
        by_cases hlt : bs < n
        · obtain ⟨b2, hb21, hb22⟩ : ∃ b2, b2 ≤ 2 * bs ∧ 2 * bs ≤ b2 := ⟨2 * bs, Nat.le_refl _, Nat.le_refl _⟩
          have w1 : IntKind.i64.wrap (2 * (bs : Int)) = (b2 : Int) := by rw [show 2 * (bs : Int) = (b2 : Int) by omega]; exact IntWalk.i64_in _ (by omega)
          have w2 : IntKind.i64.wrap ((bs : Int) * 2) = (b2 : Int) := by rw [show (bs : Int) * 2 = (b2 : Int) by omega]; exact IntWalk.i64_in _ (by omega)
          have w3 : 2 * (bs : Int) = (b2 : Int) := by omega
          have w4 : (bs : Int) * 2 = (b2 : Int) := by omega
          have hB2 : b2 = 2 * bs := by omega
          have HB2E := Lib.hid hB2; clear hB2
          go_wp2
          go_loopg [5, 6] n (fun q u v wr => ∃ (A B d : Nat) (f' : RowT), u = .int .i64 A ∧ v = .int .i64 B ∧ B ≤ A + b2 ∧ A + b2 ≤ B ∧ A ≤ n ∧ q = n - A ∧ d * b2 = A ∧ RowS wr base g n c f' ∧ Below base w wr ∧ (rowT n f').Perm (rowT n f) ∧ (∀ k, A ≤ k → f' k = f3 k) ∧ Stp 0 n f f' ∧ (StPre n f → BlkS b2 n d f'))
          case atStart => exact ⟨0, b2, 0, f3, rfl, rfl, by omega, by omega, Nat.zero_le _, rfl, Nat.zero_mul _, HR.out, HBL.out, HP.out, fun _ _ => rfl, HST.out, fun hG => by rw [HB2E.out]; exact (HBS.out hG 0).twice⟩
          case round =>
            obtain ⟨A, B, d, f', rfl, rfl, hB1, hB2, hAn, hq, hdA, hr, hbl, hp, hun, hst, hbs⟩ := hrel
            have hhalf : StPre n f → SrtF A (min (A + bs) n) f' ∧ SrtF (A + bs) (min B n) f' ∧ TagLt A (A + bs) (min B n) f' := fun hG => by
              have e1 : d * (2 * bs) = A := by rw [← HB2E.out]; exact hdA
              obtain ⟨x1, x2⟩ := BlkS.halves (d := d) (HBS.out hG)
              have x3 := (HBS.out hG 0).tagLt (d := d)
              rw [e1] at x1 x2 x3
              rw [show A + 2 * bs = B by omega] at x2 x3
              refine ⟨x1.eq fun k h1 _ => hun k h1, x2.eq fun k h1 _ => hun k (by omega), fun i j h1 h2 h3 h4 => ?_⟩
              rw [hun i h1, hun j (by omega)]
              exact x3 i j h1 h2 h3 h4
            have HQ3 := Lib.hid hq; have HDA := Lib.hid hdA; have HR3 := Lib.hid hr; have HBL3 := Lib.hid hbl; have HP3 := Lib.hid hp; have HUN := Lib.hid hun; have HST3 := Lib.hid hst; have HBS3 := Lib.hid hbs; have HHF := Lib.hid hhalf
            clear hq hdA hr hbl hp hun hst hbs hhalf
            by_cases hle : B ≤ n
            · have hm := merge_any hl (B - A) A (A + bs) B f' _ (Nat.le_refl _) (by omega) (by omega) hle HR3.out
              rw [Int.natCast_add] at hm
              have HM := Lib.hid hm; clear hm
              go_wp2_with fail
              refine HM.out.mono ?_
              rintro e w5 ⟨rfl, f5, hr5, hb5, hp5, hst5, hso5⟩
              have HR5 := Lib.hid hr5; have HB5 := Lib.hid hb5; have HP5 := Lib.hid hp5; have HST5 := Lib.hid hst5; have HSO5 := Lib.hid hso5
              clear hr5 hb5 hp5 hst5 hso5
              go_wp2
              go_roundg (n - B)
              case measure => have := HQ3.out; omega
              case rel =>
                refine ⟨B, B + b2, d + 1, f5, rfl, by first | rfl | go_num, by omega, by omega, hle, rfl, by rw [Nat.succ_mul]; have := HDA.out; omega, HR5.out, HBL3.out.trans HB5.out, HP5.out.trans HP3.out, fun k hk => (HST5.out.out k (.inr hk)).trans (HUN.out k (by omega)), HST3.out.tr (HST5.out.wide (Nat.zero_le _) hle), fun hG => ?_⟩
                have hd := HDA.out
                have hm : min (d * b2 + b2) n = B := by omega
                obtain ⟨x1, x2, x3⟩ := HHF.out hG
                rw [Nat.min_eq_left (by omega)] at x1 x2 x3
                refine (HBS3.out hG).next (g := f5) ?_ ?_
                · rw [hm, hd]; exact HST5.out
                · rw [hm, hd]
                  exact HSO5.out ⟨hG.1.stp HST3.out (Nat.le_refl _), x1, x2, x3⟩
            · by_cases hmn : A + bs < n
              · have hm := merge_any hl (n - A) A (A + bs) n f' _ (Nat.le_refl _) (by omega) hmn (Nat.le_refl _) HR3.out
                rw [Int.natCast_add] at hm
                have HM := Lib.hid hm; clear hm
                go_wp2_with fail
                refine HM.out.mono ?_
                rintro e w5 ⟨rfl, f5, hr5, hb5, hp5, hst5, hso5⟩
                have HR5 := Lib.hid hr5; have HB5 := Lib.hid hb5; have HP5 := Lib.hid hp5; have HST5 := Lib.hid hst5; have HSO5 := Lib.hid hso5
                clear hr5 hb5 hp5 hst5 hso5
                go_wp2
                go_roundg (n - b2)
                case measure => have := HQ.out; omega
                case rel =>
                  refine ⟨b2, f5, rfl, by omega, by omega, rfl, HR5.out, HBL3.out.trans HB5.out, HP5.out.trans HP3.out, HST3.out.tr (HST5.out.wide (Nat.zero_le _) (Nat.le_refl _)), fun hG => ?_⟩
                  have hd := HDA.out
                  have hm : min (d * b2 + b2) n = n := by omega
                  obtain ⟨x1, x2, x3⟩ := HHF.out hG
                  rw [Nat.min_eq_left (by omega)] at x1
                  rw [Nat.min_eq_right (by omega)] at x2 x3
                  refine BlkS.all (c := d + 1) ((HBS3.out hG).next (g := f5) ?_ ?_) (by rw [Nat.succ_mul]; omega)
                  · rw [hm, hd]; exact HST5.out
                  · rw [hm, hd]
                    exact HSO5.out ⟨hG.1.stp HST3.out (Nat.le_refl _), x1, x2, x3⟩
              · go_wp2
                go_roundg (n - b2)
                case measure => have := HQ.out; omega
                case rel =>
                  refine ⟨b2, f', rfl, by omega, by omega, rfl, HR3.out, HBL3.out, HP3.out, HST3.out, fun hG => ?_⟩
                  have hd := HDA.out
                  have hm : min (d * b2 + b2) n = n := by omega
                  obtain ⟨x1, x2, x3⟩ := HHF.out hG
                  rw [Nat.min_eq_right (by omega)] at x1
                  refine BlkS.all (c := d + 1) ((HBS3.out hG).next (g := f') (Stp.rf _ _ _) ?_) (by rw [Nat.succ_mul]; omega)
                  rw [hm, hd]; exact x1
        · go_wp2
          go_end0
          refine ⟨rfl, f3, HR.out, HBL.out, HP.out, fun hG => ?_⟩
          have := (HBS.out hG 1).srt 0 (by omega)
          rw [Nat.zero_mul, Nat.zero_add, Nat.min_eq_right (by omega)] at this
          exact this

set_option maxHeartbeats 1000000 in
theorem bigStable_any {w : World} {base g n c : Nat} {f : RowT} (h : RowS w base g n c f) (hl : n ≤ 20000000) :
    Calls Tryd.prog 41 #[.iface 78 (.slice (some ⟨g, 0, none⟩) n c)] w (SortOut base g n c f (fun f' => StPre n f → SrtF 0 n f') w) := by
  have m1 := mLen (some ⟨g, 0, none⟩) n c
  have e1 := enters_of Tryd.func81 (by kernel_rfl) rfl
  have HS := Lib.hid (stable_any h hl); clear h
  have HLN := Lib.hid (len_any (some ⟨g, 0, none⟩) n c w)
  go_enter Tryd.func41, Tryd.ntmps41
  go_wp2_with fail
  refine HLN.out.mono ?_
  rintro e w' ⟨rfl, rfl⟩
  go_wp2_with fail
  refine HS.out.mono ?_
  rintro e w' ⟨rfl, f', h1, h2, h3, h4⟩
  have H1 := Lib.hid h1; have H2 := Lib.hid h2; have H3 := Lib.hid h3; have H4 := Lib.hid h4
  clear h1 h2 h3 h4
  go_wp2
  go_end0
  exact ⟨rfl, f', H1.out, H2.out, H3.out, H4.out⟩

/-- what diff.SortEdits leaves -/
def SortedOut (base n c : Nat) (A : Option Addr) (es : List Ed) (w : World) (e : Ending) (w' : World) : Prop :=
  e = .returned (.tuple #[]) ∧ ∃ es', es'.Perm es ∧ ((∀ x ∈ es, GoodE x) → es' = sortE es) ∧ w'.ownsRow base 50 3 (.slice A n c) n (edCells es') ∧ Below base w w'
set_option maxHeartbeats 1000000 in
theorem sortEdits_any {w : World} {base n c : Nat} {A : Option Addr} {es : List Ed} (hn : es.length = n) (h : w.ownsRow base 50 3 (.slice A n c) n (edCells es)) (h0 : 0 < n) (hl : n ≤ 20000000) :
    Calls Tryd.prog 34 #[.slice A n c] w (SortedOut base n c A es w) := by
  obtain ⟨g, rfl⟩ := own_some h h0
  subst hn
  have hR : RowS w base g es.length c (row0 es) := by unfold RowS; rw [rowL_row0]; exact h
  have HS := Lib.hid (bigStable_any hR hl); clear h hR
  have hfin : ∀ f' : RowT, (rowT es.length f').Perm (rowT es.length (row0 es)) → (StPre es.length (row0 es) → SrtF 0 es.length f') → (rowL es.length f').Perm es ∧ ((∀ x ∈ es, GoodE x) → rowL es.length f' = sortE es) :=
    fun f' h1 h2 => ⟨stable_perm h1, fun hg => stable_one h1 (h2 ⟨fun k hk => hg _ (edAt_mem' es k hk), fun k hk => rfl⟩)⟩
  have HF := Lib.hid hfin; clear hfin
  generalize row0 es = f at *
  obtain ⟨n, hn⟩ : ∃ n, es.length = n := ⟨_, rfl⟩
  rw [hn] at HS HF hl ⊢
  clear hn h0
  go_enter Tryd.func34, Tryd.ntmps34
  go_wp2_with fail
  refine HS.out.mono ?_
  rintro e w' ⟨rfl, f', h1, h2, h3, h4⟩
  have H1 := Lib.hid h1; have H2 := Lib.hid h2; have H3 := Lib.hid h3; have H4 := Lib.hid h4
  clear h1 h2 h3 h4
  go_wp2
  go_end0
  exact ⟨rfl, rowL n f', (HF.out f' H3.out H4.out).1, (HF.out f' H3.out H4.out).2, H1.out, H2.out⟩
end Go.Proofs.YtgphjnhbheimiaaDoor
