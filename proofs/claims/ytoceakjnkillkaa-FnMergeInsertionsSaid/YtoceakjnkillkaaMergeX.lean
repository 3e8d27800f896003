/-
  diff.Merge computes the plain function mg, in new memory. Condition: at most 3000000 edits each.
-/
import Derived.Test.YtoceakjnkillkaaMergeW
import Derived.Deep.RegionHeld3
import Derived.Deep.LoopGhost
namespace Go.Proofs.Ytoceakjnkillkaa
set_option linter.unusedVariables false
open Go.RowKit

set_option maxRecDepth 100000 in
set_option maxHeartbeats 2000000 in
theorem merge_any (A B : Option Addr) (c d : Nat) (xs ys : List Ed) (w : World) (hx : EdsR w A xs) (hy : EdsR w B ys) (hl : xs.length ≤ 3000000) (hm : ys.length ≤ 3000000) :
   Calls Try.prog 33 #[.slice A xs.length c, .slice B ys.length d] w (MergePost (mg xs ys []) w) := by
  have hc1 := clone_any A c xs w hx (by omega)
  have hc2 := fun w1 (hb : Below w.heap.size w w1) => clone_any B d ys w1 (hy.below hb (Nat.le_refl _)) (by omega)
  have HC1 := Lib.hid hc1; clear hc1 hx
  have HC2 := Lib.hid hc2; clear hc2 hy
  obtain ⟨nx, hnx⟩ : ∃ n, xs.length = n := ⟨_, rfl⟩
  obtain ⟨ny, hny⟩ : ∃ n, ys.length = n := ⟨_, rfl⟩
  rw [hnx] at hl HC1 ⊢
  rw [hny] at hm HC2 ⊢
  have LX := Lib.hid hnx; clear hnx
  have LY := Lib.hid hny; clear hny
  obtain ⟨R, hR⟩ : ∃ R, mg xs ys [] = R := ⟨_, rfl⟩
  have HR := Lib.hid hR
  rw [hR]
  clear hR
  go_enter Try.func33, Try.ntmps33
  go_wp2_with fail
  refine HC1.out.mono ?_
  rintro e w1 ⟨A1, c1, rfl, ho1, hb1⟩
  go_wp2_with fail
  refine (HC2.out _ hb1).mono ?_
  rintro e w2 ⟨A2, c2, rfl, ho2, hb2⟩
  go_wp2_with fail
  have hI : MRel w w1.heap.size w2.heap.size nx ny A1 c1 A2 c2 R 0 0 xs ys [] (w2.alloc (.cells #[.slice none 0 0] 49)) := by
    have hs1 := hb1.size
    have hs2 := hb2.size
    have h2 : w2.ownsRow w.heap.size 66 3 (.slice A1 nx c1) nx (edCells xs) := by
      refine ⟨ho1.1, ?_⟩
      rcases ho1.2 with hn | ⟨g', cap, cur, hv, hb, hgg, rest⟩
      · exact .inl hn
      · exact .inr ⟨g', cap, cur, hv, hb, by rw [hb2.block g' (Array.getElem?_eq_some_iff.1 hgg).1]; exact hgg, rest⟩
    refine ⟨LX.out, LY.out, Nat.zero_le _, Nat.zero_le _, by simpa using HR.out, ?_, h2.alloc _, ho2.alloc _, ⟨none, 0, Blk.new w2 _ _, World.ownsRow_nil _ _ _ _⟩, (hb1.trans (hb2.mono hs1)).alloc (by omega) _, by simp, hs1, hs2, fun k hk => ho1.lt k hk, fun k hk => ho2.lt k hk⟩
    have := mgMu_le xs ys
    have e1 := LX.out
    have e2 := LY.out
    simp only [List.drop_zero, List.length_nil, Nat.zero_add]
    omega
  generalize hW : w2.alloc (.cells #[.slice none 0 0] 49) = W3 at *
  generalize hg : w2.heap.size = gm at *
  generalize hg1 : w1.heap.size = B1 at *
  have HI := Lib.hid hI; clear hI
  clear hW hg hg1 ho1 hb1 ho2 hb2
  go_loopg [8, 9, 10, 11] (mgMu xs ys) (fun q s8 s9 _ _ wr => ∃ xi yi ex ey acc, s8 = .int .i64 (xi : Nat) ∧ s9 = .int .i64 (yi : Nat) ∧ q = mgMu (ex.drop xi) (ey.drop yi) ∧ MRel w B1 gm nx ny A1 c1 A2 c2 R xi yi ex ey acc wr)
  case atStart => exact ⟨0, 0, xs, ys, [], rfl, rfl, rfl, HI.out⟩
  case round =>
    obtain ⟨xi, yi, ex, ey, acc, rfl, rfl, hq, hM⟩ := hrel
    have HQ := Lib.hid hq; clear hq
    have hx := hM.hx
    have hy := hM.hy
    have HLX := Lib.hid hM.lx
    have HLY := Lib.hid hM.ly
    have hmu := hM.mu
    have hsz := hM.sz
    obtain ⟨Am, cm, hBm, hOm⟩ := hM.vm
    have HBm := Lib.hid hBm; clear hBm
    have HOm := Lib.hid hOm; clear hOm
    by_cases hxi : xi < nx
    · by_cases hyi : yi < ny
      · obtain ⟨gx, rfl, hgx1, hgx2, x1, x2, x3, x4⟩ := hM.cellsX hxi
        obtain ⟨gy, rfl, hgy1, hgy2, y1, y2, y3, y4⟩ := hM.cellsY hyi
        have hM2 := fun n => hM.drewN n
        have HM := Lib.hid hM2; clear hM hM2
        have hadd := fun (x : Ed) (q : Nat) => add_any gm (gm + 1) _ x acc.length acc (wr.drewN q) HBm.out HOm.out (by omega) (by simp; omega) (by omega)
        have HA := Lib.hid hadd; clear hadd
        cases heq : edEqB (edAt ex xi) (edAt ey yi)
        · have HE := Lib.hid heq; clear heq
          by_cases h2 : eE ex xi ≤ eS ey yi
          · have hnx := mg_x (acc := acc) (by rw [HLX.out]; exact hxi) (by rw [HLY.out]; exact hyi) HE.out h2
            have HN := Lib.hid hnx; clear hnx
            go_wp2
            have hq := fun w => (run_eql_D w (eS ex xi) (eE ex xi) (eS ey yi) (eE ey yi) (eN ex xi) (eN ey yi)).trans (congrArg (fun b => Result.ok (Value.bool b) w) HE.out)
            go_quiet (fail)
            go_wp2
            go_quiet (fail)
            go_wp2_with fail
            refine (HA.out (edAt ex xi) _).mono ?_
            rintro e w' ⟨rfl, Am', cm', hB', hO', hOn⟩
            have hM3 := (HM.out _).add hOn hB' hO' (xi' := xi + 1) (yi' := yi) (by omega) (by omega) HN.out.1 HN.out.2
            have HM3 := Lib.hid hM3; clear hM3 hB' hO' hOn
            go_wp2
            go_roundg (mgMu (ex.drop (xi + 1)) (ey.drop yi))
            case measure => have h := HN.out.2; rw [HQ.out]; omega
            case rel => exact ⟨xi + 1, yi, ex, ey, acc ++ [edAt ex xi], by go_num, rfl, rfl, HM3.out⟩
          · by_cases h3 : eE ey yi ≤ eS ex xi
            · have hnx := mg_y (acc := acc) (by rw [HLX.out]; exact hxi) (by rw [HLY.out]; exact hyi) HE.out h2 h3
              have HN := Lib.hid hnx; clear hnx
              go_wp2
              have hq := fun w => (run_eql_D w (eS ex xi) (eE ex xi) (eS ey yi) (eE ey yi) (eN ex xi) (eN ey yi)).trans (congrArg (fun b => Result.ok (Value.bool b) w) HE.out)
              go_quiet (fail)
              go_wp2
              go_quiet (fail)
              go_wp2
              go_quiet (fail)
              go_wp2_with fail
              refine (HA.out (edAt ey yi) _).mono ?_
              rintro e w' ⟨rfl, Am', cm', hB', hO', hOn⟩
              have hM3 := (HM.out _).add hOn hB' hO' (xi' := xi) (yi' := yi + 1) (by omega) (by omega) HN.out.1 HN.out.2
              have HM3 := Lib.hid hM3; clear hM3 hB' hO' hOn
              go_wp2
              go_roundg (mgMu (ex.drop xi) (ey.drop (yi + 1)))
              case measure => have h := HN.out.2; rw [HQ.out]; omega
              case rel => exact ⟨xi, yi + 1, ex, ey, acc ++ [edAt ey yi], rfl, by go_num, rfl, HM3.out⟩
            · by_cases h4 : eS ex xi < eS ey yi
              · have hnx := mg_sx (acc := acc) (by rw [HLX.out]; exact hxi) (by rw [HLY.out]; exact hyi) HE.out h2 h3 h4
                have HN := Lib.hid hnx; clear hnx
                go_wp2
                have hq := fun w => (run_eql_D w (eS ex xi) (eE ex xi) (eS ey yi) (eE ey yi) (eN ex xi) (eN ey yi)).trans (congrArg (fun b => Result.ok (Value.bool b) w) HE.out)
                go_quiet (fail)
                go_wp2
                go_quiet (fail)
                go_wp2
                go_quiet (fail)
                go_wp2
                go_quiet (fail)
                go_wp2
                go_region_held3 (fun w' => w'.cell? ⟨gx, xi * 3, none⟩ = some (.int .i64 (eS ex xi)) ∧ w'.cell? ⟨gy, yi * 3, none⟩ = some (.int .i64 (eS ey yi))) (go_keep) (first | (go_at_call 40; refine (HA.out ⟨eS ex xi, eS ey yi, ⟨#[]⟩⟩ _).mono ?_; rintro e w' ⟨rfl, Am', cm', hB', hO', hOn⟩; have z1 : w'.cell? ⟨gx, xi * 3, none⟩ = some (.int .i64 (eS ex xi)) := (hOn.cell (p := ⟨gx, xi * 3, none⟩) (by simp; omega) (by simp; omega)).trans x1; have z2 : w'.cell? ⟨gy, yi * 3, none⟩ = some (.int .i64 (eS ey yi)) := (hOn.cell (p := ⟨gy, yi * 3, none⟩) (by simp; omega) (by simp; omega)).trans y1; have z3 : w'.frozen? ⟨gx, xi * 3, none⟩ = false := (hOn.frozen (p := ⟨gx, xi * 3, none⟩) (by simp; omega) (by simp; omega)).trans x4; have hM3 := (HM.out _).splitX hOn hB' hO' hxi HN.out.1 HN.out.2; have HM3 := Lib.hid hM3; clear hM3 hB' hO' hOn))
                go_wp2
                go_roundg (mgMu ((ex.set xi ⟨eS ey yi, eE ex xi, eN ex xi⟩).drop xi) (ey.drop yi))
                case measure => have h := HN.out.2; rw [HQ.out]; omega
                case rel => exact ⟨xi, yi, ex.set xi ⟨eS ey yi, eE ex xi, eN ex xi⟩, ey, acc ++ [⟨eS ex xi, eS ey yi, ⟨#[]⟩⟩], rfl, rfl, rfl, HM3.out⟩
              · by_cases h5 : eS ey yi < eS ex xi
                · have hnx := mg_sy (acc := acc) (by rw [HLX.out]; exact hxi) (by rw [HLY.out]; exact hyi) HE.out h2 h3 h4 h5
                  have HN := Lib.hid hnx; clear hnx
                  go_wp2
                  have hq := fun w => (run_eql_D w (eS ex xi) (eE ex xi) (eS ey yi) (eE ey yi) (eN ex xi) (eN ey yi)).trans (congrArg (fun b => Result.ok (Value.bool b) w) HE.out)
                  go_quiet (fail)
                  go_wp2
                  go_quiet (fail)
                  go_wp2
                  go_quiet (fail)
                  go_wp2
                  go_quiet (fail)
                  go_wp2
                  go_quiet (fail)
                  go_wp2
                  go_region_held3 (fun w' => w'.cell? ⟨gx, xi * 3, none⟩ = some (.int .i64 (eS ex xi)) ∧ w'.cell? ⟨gy, yi * 3, none⟩ = some (.int .i64 (eS ey yi))) (go_keep) (first | (go_at_call 40; refine (HA.out ⟨eS ey yi, eS ex xi, ⟨#[]⟩⟩ _).mono ?_; rintro e w' ⟨rfl, Am', cm', hB', hO', hOn⟩; have z1 : w'.cell? ⟨gx, xi * 3, none⟩ = some (.int .i64 (eS ex xi)) := (hOn.cell (p := ⟨gx, xi * 3, none⟩) (by simp; omega) (by simp; omega)).trans x1; have z2 : w'.cell? ⟨gy, yi * 3, none⟩ = some (.int .i64 (eS ey yi)) := (hOn.cell (p := ⟨gy, yi * 3, none⟩) (by simp; omega) (by simp; omega)).trans y1; have z3 : w'.frozen? ⟨gy, yi * 3, none⟩ = false := (hOn.frozen (p := ⟨gy, yi * 3, none⟩) (by simp; omega) (by simp; omega)).trans y4; have hM3 := (HM.out _).splitY hOn hB' hO' hyi HN.out.1 HN.out.2; have HM3 := Lib.hid hM3; clear hM3 hB' hO' hOn))
                  go_wp2
                  go_roundg (mgMu (ex.drop xi) ((ey.set yi ⟨eS ex xi, eE ey yi, eN ey yi⟩).drop yi))
                  case measure => have h := HN.out.2; rw [HQ.out]; omega
                  case rel => exact ⟨xi, yi, ex, ey.set yi ⟨eS ex xi, eE ey yi, eN ey yi⟩, acc ++ [⟨eS ey yi, eS ex xi, ⟨#[]⟩⟩], rfl, rfl, rfl, HM3.out⟩
                · have hnx := mg_no (acc := acc) (by rw [HLX.out]; exact hxi) (by rw [HLY.out]; exact hyi) HE.out h2 h3 h4 h5
                  have HN := Lib.hid hnx; clear hnx
                  go_wp2
                  have hq := fun w => (run_eql_D w (eS ex xi) (eE ex xi) (eS ey yi) (eE ey yi) (eN ex xi) (eN ey yi)).trans (congrArg (fun b => Result.ok (Value.bool b) w) HE.out)
                  go_quiet (fail)
                  go_wp2
                  go_quiet (fail)
                  go_wp2
                  go_quiet (fail)
                  go_wp2
                  go_quiet (fail)
                  go_wp2
                  go_quiet (fail)
                  go_wp2
                  go_ret2
                  exact ⟨by simp only [World.drewN_drewN]; exact (HM.out _).bel, .inl ⟨by rw [← (HM.out 0).res]; exact HN.out, rfl⟩⟩
        · have HE := Lib.hid heq; clear heq
          have hnx := mg_eq (acc := acc) (by rw [HLX.out]; exact hxi) (by rw [HLY.out]; exact hyi) HE.out
          have HN := Lib.hid hnx; clear hnx
          go_wp2
          have hq := fun w => (run_eql_D w (eS ex xi) (eE ex xi) (eS ey yi) (eE ey yi) (eN ex xi) (eN ey yi)).trans (congrArg (fun b => Result.ok (Value.bool b) w) HE.out)
          go_quiet (fail)
          go_wp2_with fail
          refine (HA.out (edAt ex xi) _).mono ?_
          rintro e w' ⟨rfl, Am', cm', hB', hO', hOn⟩
          have hM3 := (HM.out _).add hOn hB' hO' (xi' := xi + 1) (yi' := yi + 1) (by omega) (by omega) HN.out.1 HN.out.2
          have HM3 := Lib.hid hM3; clear hM3 hB' hO' hOn
          go_wp2
          go_roundg (mgMu (ex.drop (xi + 1)) (ey.drop (yi + 1)))
          case measure => have h := HN.out.2; rw [HQ.out]; omega
          case rel => exact ⟨xi + 1, yi + 1, ex, ey, acc ++ [edAt ex xi], by go_num, by go_num, rfl, HM3.out⟩
      · clear HBm HOm
        have HM0 := Lib.hid hM; clear hM
        go_wp2
        have hend : xi = nx ∨ yi = ny := by omega
        have HEND := Lib.hid hend; clear hend
        go_loopg [8] (nx - xi) (fun q s8 wr => ∃ xi acc, s8 = .int .i64 (xi : Nat) ∧ q = nx - xi ∧ (xi = nx ∨ yi = ny) ∧ MRel w B1 gm nx ny A1 c1 A2 c2 R xi yi ex ey acc wr)
        case atStart => exact ⟨xi, acc, rfl, rfl, HEND.out, HM0.out⟩
        case round =>
          obtain ⟨xi, acc, rfl, hq, hend, hM⟩ := hrel
          clear HEND HM0 HQ
          have HQ := Lib.hid hq; clear hq
          have hx := hM.hx
          have HLX := Lib.hid hM.lx
          have HLY := Lib.hid hM.ly
          have hmu := hM.mu
          have hsz := hM.sz
          obtain ⟨Am, cm, hBm, hOm⟩ := hM.vm
          have HEND := Lib.hid hend; clear hend
          by_cases hxi : xi < nx
          · obtain ⟨gx, rfl, hgx1, hgx2, x1, x2, x3, x4⟩ := hM.cellsX hxi
            have HM := Lib.hid hM; clear hM
            have hadd := add_any gm (gm + 1) _ (edAt ex xi) acc.length acc wr hBm hOm (by omega) (by omega) (by omega)
            have HA := Lib.hid hadd; clear hadd hBm hOm
            have hnx := mg_tx (acc := acc) (ey := ey) (yi := yi) (by rw [HLX.out]; exact hxi) (by rw [HLY.out]; have := HEND.out; omega)
            have HN := Lib.hid hnx; clear hnx
            go_wp2_with fail
            refine HA.out.mono ?_
            rintro e w' ⟨rfl, Am', cm', hB', hO', hOn⟩
            have hM3 := HM.out.add hOn hB' hO' (xi' := xi + 1) (yi' := yi) (by omega) HM.out.hy HN.out.1 HN.out.2
            have HM3 := Lib.hid hM3; clear hM3 hB' hO' hOn
            go_wp2
            go_roundg (nx - (xi + 1))
            case measure => rw [HQ.out]; omega
            case rel => exact ⟨xi + 1, acc ++ [edAt ex xi], by go_num, rfl, by have := HEND.out; omega, HM3.out⟩
          · have HM := Lib.hid hM; clear hM hBm hOm
            go_wp2
            go_loopg [9] (ny - yi) (fun q s9 wr => ∃ yi acc, s9 = .int .i64 (yi : Nat) ∧ q = ny - yi ∧ MRel w B1 gm nx ny A1 c1 A2 c2 R xi yi ex ey acc wr)
            case atStart => exact ⟨yi, acc, rfl, rfl, HM.out⟩
            case round =>
              obtain ⟨yi, acc, rfl, hq, hM⟩ := hrel
              clear HM HQ HEND
              have HQ := Lib.hid hq; clear hq
              have hy := hM.hy
              have hmu := hM.mu
              have hsz := hM.sz
              obtain ⟨Am, cm, hBm, hOm⟩ := hM.vm
              by_cases hyi : yi < ny
              · obtain ⟨gy, rfl, hgy1, hgy2, y1, y2, y3, y4⟩ := hM.cellsY hyi
                have HM := Lib.hid hM; clear hM
                have hadd := add_any gm (gm + 1) _ (edAt ey yi) acc.length acc wr hBm hOm (by omega) (by omega) (by omega)
                have HA := Lib.hid hadd; clear hadd hBm hOm
                have hnx := mg_ty (acc := acc) (ex := ex) (xi := xi) (by rw [HLX.out]; omega) (by rw [HLY.out]; exact hyi)
                have HN := Lib.hid hnx; clear hnx
                go_wp2_with fail
                refine HA.out.mono ?_
                rintro e w' ⟨rfl, Am', cm', hB', hO', hOn⟩
                have hM3 := HM.out.add hOn hB' hO' (xi' := xi) (yi' := yi + 1) HM.out.hx (by omega) HN.out.1 HN.out.2
                have HM3 := Lib.hid hM3; clear hM3 hB' hO' hOn
                go_wp2
                go_roundg (ny - (yi + 1))
                case measure => rw [HQ.out]; omega
                case rel => exact ⟨yi + 1, acc ++ [edAt ey yi], by go_num, rfl, HM3.out⟩
              · have hv : wr.cell? ⟨gm, 0, none⟩ = some (.slice Am acc.length cm) := hBm.cell 0
                have HO := Lib.hid hOm; clear hOm hBm
                have HM := Lib.hid hM; clear hM
                go_wp2
                go_ret2
                exact ⟨HM.out.bel, .inr ⟨acc, Am, cm, by rw [← HM.out.res]; exact mg_done (by rw [HLX.out]; omega) (by rw [HLY.out]; omega), rfl, own_mono HO.out (by have := HM.out.b1; have := HM.out.b2; omega)⟩⟩
    · clear HBm HOm
      have HM0 := Lib.hid hM; clear hM
      go_wp2
      have hend : xi = nx ∨ yi = ny := by omega
      have HEND := Lib.hid hend; clear hend
      go_loopg [8] (nx - xi) (fun q s8 wr => ∃ xi acc, s8 = .int .i64 (xi : Nat) ∧ q = nx - xi ∧ (xi = nx ∨ yi = ny) ∧ MRel w B1 gm nx ny A1 c1 A2 c2 R xi yi ex ey acc wr)
      case atStart => exact ⟨xi, acc, rfl, rfl, HEND.out, HM0.out⟩
      case round =>
        obtain ⟨xi, acc, rfl, hq, hend, hM⟩ := hrel
        clear HEND HM0 HQ
        have HQ := Lib.hid hq; clear hq
        have hx := hM.hx
        have HLX := Lib.hid hM.lx
        have HLY := Lib.hid hM.ly
        have hmu := hM.mu
        have hsz := hM.sz
        obtain ⟨Am, cm, hBm, hOm⟩ := hM.vm
        have HEND := Lib.hid hend; clear hend
        by_cases hxi : xi < nx
        · obtain ⟨gx, rfl, hgx1, hgx2, x1, x2, x3, x4⟩ := hM.cellsX hxi
          have HM := Lib.hid hM; clear hM
          have hadd := add_any gm (gm + 1) _ (edAt ex xi) acc.length acc wr hBm hOm (by omega) (by omega) (by omega)
          have HA := Lib.hid hadd; clear hadd hBm hOm
          have hnx := mg_tx (acc := acc) (ey := ey) (yi := yi) (by rw [HLX.out]; exact hxi) (by rw [HLY.out]; have := HEND.out; omega)
          have HN := Lib.hid hnx; clear hnx
          go_wp2_with fail
          refine HA.out.mono ?_
          rintro e w' ⟨rfl, Am', cm', hB', hO', hOn⟩
          have hM3 := HM.out.add hOn hB' hO' (xi' := xi + 1) (yi' := yi) (by omega) HM.out.hy HN.out.1 HN.out.2
          have HM3 := Lib.hid hM3; clear hM3 hB' hO' hOn
          go_wp2
          go_roundg (nx - (xi + 1))
          case measure => rw [HQ.out]; omega
          case rel => exact ⟨xi + 1, acc ++ [edAt ex xi], by go_num, rfl, by have := HEND.out; omega, HM3.out⟩
        · have HM := Lib.hid hM; clear hM hBm hOm
          go_wp2
          go_loopg [9] (ny - yi) (fun q s9 wr => ∃ yi acc, s9 = .int .i64 (yi : Nat) ∧ q = ny - yi ∧ MRel w B1 gm nx ny A1 c1 A2 c2 R xi yi ex ey acc wr)
          case atStart => exact ⟨yi, acc, rfl, rfl, HM.out⟩
          case round =>
            obtain ⟨yi, acc, rfl, hq, hM⟩ := hrel
            clear HM HQ HEND
            have HQ := Lib.hid hq; clear hq
            have hy := hM.hy
            have hmu := hM.mu
            have hsz := hM.sz
            obtain ⟨Am, cm, hBm, hOm⟩ := hM.vm
            by_cases hyi : yi < ny
            · obtain ⟨gy, rfl, hgy1, hgy2, y1, y2, y3, y4⟩ := hM.cellsY hyi
              have HM := Lib.hid hM; clear hM
              have hadd := add_any gm (gm + 1) _ (edAt ey yi) acc.length acc wr hBm hOm (by omega) (by omega) (by omega)
              have HA := Lib.hid hadd; clear hadd hBm hOm
              have hnx := mg_ty (acc := acc) (ex := ex) (xi := xi) (by rw [HLX.out]; omega) (by rw [HLY.out]; exact hyi)
              have HN := Lib.hid hnx; clear hnx
              go_wp2_with fail
              refine HA.out.mono ?_
              rintro e w' ⟨rfl, Am', cm', hB', hO', hOn⟩
              have hM3 := HM.out.add hOn hB' hO' (xi' := xi) (yi' := yi + 1) HM.out.hx (by omega) HN.out.1 HN.out.2
              have HM3 := Lib.hid hM3; clear hM3 hB' hO' hOn
              go_wp2
              go_roundg (ny - (yi + 1))
              case measure => rw [HQ.out]; omega
              case rel => exact ⟨yi + 1, acc ++ [edAt ey yi], by go_num, rfl, HM3.out⟩
            · have hv : wr.cell? ⟨gm, 0, none⟩ = some (.slice Am acc.length cm) := hBm.cell 0
              have HO := Lib.hid hOm; clear hOm hBm
              have HM := Lib.hid hM; clear hM
              go_wp2
              go_ret2
              exact ⟨HM.out.bel, .inr ⟨acc, Am, cm, by rw [← HM.out.res]; exact mg_done (by rw [HLX.out]; omega) (by rw [HLY.out]; omega), rfl, own_mono HO.out (by have := HM.out.b1; have := HM.out.b2; omega)⟩⟩
end Go.Proofs.Ytoceakjnkillkaa
