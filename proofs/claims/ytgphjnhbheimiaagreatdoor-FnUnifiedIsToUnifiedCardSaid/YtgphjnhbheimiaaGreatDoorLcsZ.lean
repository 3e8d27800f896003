/-
  The walk of twolcs: the way through the point where the two roads meet. No condition but bounds.
-/
import Derived.Test.YtgphjnhbheimiaaGreatDoorLcsZ1
import Derived.Test.YtgphjnhbheimiaaGreatDoorDetT
import Derived.Test.YtgphjnhbheimiaaGreatDoorSeA
import Derived.Deep.CutRange
import Derived.Deep.DeepCutAuto
namespace Go.Proofs.YtgphjnhbheimiaaGreatDoor
set_option linter.unusedVariables false
open Go.RowKit

/-- what twolcs gives -/
def ZOut (E : EQT) (N M T B : Nat) (R : List Pc → Prop) (w : World) (e : Ending) (w' : World) : Prop := AlgoOut E N M B (fun ps => 2 * sumP ps + T = N + M ∧ R ps) w e w'
theorem z_fin {E : EQT} {N M T B a b c d b0 : Nat} {R : List Pc → Prop} {w w5 w6 : World} {ps qs us : List Pc} {v : Value} (hT : Short E N M T) (h1 : Ch E 0 0 ps a b) (h2 : Ch E c d qs N M) (hac : a ≤ c) (hbd : b ≤ d) (hp : us.Perm (ps ++ qs)) (hs : us.Pairwise fun p q => p.x ≤ q.x)
    (hk : N + M ≤ 2 * sumP ps + 2 * sumP qs + T) (ho : w6.ownsRow b0 131 3 v us.length (pcCells us)) (hb0 : w.heap.size ≤ b0) (hb5 : Below B w w5) (hb6 : Below b0 w5 w6) (hB : B ≤ b0) (hR : R us) : ZOut E N M T B R w (.returned v) w6 := by
  obtain ⟨g1, g2⟩ := tw_fin hT h1 h2 hac hbd hp hs hk
  exact ⟨us, v, rfl, own_mono ho hb0, hb5.trans (hb6.mono hB), g1, g2, hR⟩
theorem z_one {E : EQT} {N M T B : Nat} {R : List Pc → Prop} {w w6 : World} {us : List Pc} {v : Value} (hT : Short E N M T) (h : Ch E 0 0 us N M) (hk : N + M ≤ 2 * sumP us + T) {b0 : Nat} (ho : w6.ownsRow b0 131 3 v us.length (pcCells us)) (hb0 : w.heap.size ≤ b0) (hb : Below B w w6) (hR : R us) : ZOut E N M T B R w (.returned v) w6 := by
  obtain ⟨g1, g2⟩ := tw_one hT h hk
  exact ⟨us, v, rfl, own_mono ho hb0, hb, g1, g2, hR⟩
theorem ok_tq (d k : Int) (w : World) (h0 : 0 ≤ d) (h1 : -d ≤ k) (h2 : k ≤ d) (h3 : d ≤ 10000) :
   Calls Tryz.prog 72 #[.int .i64 d, .int .i64 k] w fun e w' => e = .returned (.bool true) ∧ ∃ q, w' = w.drewN q :=
  (ok_t d k w h0 h1 h2 h3).mono fun e w' h => ⟨h.1, 0, h.2 ▸ rfl⟩
theorem ok_fq (d k : Int) (w : World) (h : d < 0 ∨ k < -d ∨ d < k) (h3 : d ≤ 10000) (h4 : -10000 ≤ d) :
   Calls Tryz.prog 72 #[.int .i64 d, .int .i64 k] w fun e w' => e = .returned (.bool false) ∧ ∃ q, w' = w.drewN q :=
  (ok_f d k w h h3 h4).mono fun e w' h => ⟨h.1, 0, h.2 ▸ rfl⟩
set_option maxRecDepth 100000 in
set_option maxHeartbeats 8000000 in
theorem twolcs_any {w0 w wr : World} {B T fP fS N M g lim df db j j' : Nat} {rv vf vb : Value} {E : EQT} {K : GK} {rf rb : List LRow} {k : Int} (hS : SeqC w0 B T rv fP fS E N M) (h : FS w0 w B g K vb rb wr vf rf) (hsq : K.sq = .iface T rv) (hux : K.ux = (N : Int)) (huy : K.uy = (M : Int)) (hdl : K.dl = (N : Int) - (M : Int))
    (hlim : K.lim = (lim : Int)) (hl1 : 1 ≤ lim) (hl2 : lim ≤ 2000) (hF : FullF E N M rf df) (hB : FullB E N M rb db) (ho : Over E N M df db j j') (hk : k = 2 * (j : Int) - (df : Int)) (hsh : Short E N M (df + db)) (hdf : df ≤ lim) (hdb : db ≤ lim) :
    Calls Tryz.prog 52 #[.pointer (some ⟨g, 0, none⟩), .int .i64 (df : Int), .int .i64 (db : Int), .int .i64 k] wr (ZOut E N M (df + db) B (TwQ E N M df db j j') wr) := by
  have hN := hS.nA
  have hM := hS.nM
  have hgB := h.st.hg
  have hgl := h.st.blk.lt
  have hBw : B ≤ wr.heap.size := by omega
  obtain ⟨x, y, u, v, n, tw⟩ := tw_of hsh ho
  have HTW := Lib.hid tw
  have e1 := tw.xn; have e2 := tw.yn; have e3 := tw.kf; have e4 := tw.kb; have e5 := tw.hu2; have e6 := tw.hv2
  have hj := tw.hj; have hj' := tw.hj'; have hxN := tw.xN; have hyM := tw.yM
  have b1 : u ≤ x := by omega
  have b2 : v ≤ y := by omega
  have b3 : u + y ≤ v + x := by omega
  have b4 : v + x ≤ u + y := by omega
  have b5 : k ≤ 2 * (j : Int) - (df : Int) := by omega
  have b6 : 2 * (j : Int) - (df : Int) ≤ k := by omega
  have b7 : (x : Int) - (y : Int) ≤ k := by omega
  have b8 : k ≤ (x : Int) - (y : Int) := by omega
  obtain ⟨dl, hdl'⟩ : ∃ dl, (N : Int) - (M : Int) = dl := ⟨_, rfl⟩
  obtain ⟨kb, hkb⟩ : ∃ kb, k - dl = kb := ⟨_, rfl⟩
  have d1 : dl ≤ (N : Int) - (M : Int) := by omega
  have d2 : (N : Int) - (M : Int) ≤ dl := by omega
  have d3 : kb ≤ k - dl := by omega
  have d4 : k - dl ≤ kb := by omega
  have d5 : kb ≤ (db : Int) - 2 * (j' : Int) := by omega
  have d6 : (db : Int) - 2 * (j' : Int) ≤ kb := by omega
  have wy : IntKind.i64.wrap ((x : Int) - k) = (y : Int) := by rw [show (x : Int) - k = (y : Int) by omega]; exact IntWalk.i64_in _ (by omega)
  have wv : IntKind.i64.wrap ((u : Int) - k) = (v : Int) := by rw [show (u : Int) - k = (v : Int) by omega]; exact IntWalk.i64_in _ (by omega)
  have wkb : IntKind.i64.wrap (k - dl) = kb := by rw [hkb]; exact IntWalk.i64_in _ (by omega)
  have hcc := fun (W : World) (hW : DW wr W) => (h.dw hW).st.cells
  rw [hux, huy, hdl, hdl'] at hcc
  have HCC := Lib.hid hcc
  have hgx := fun (W : World) (hW : DW wr W) => vfget (h.dw hW) df j (x : Int) (dI := (df : Int)) (kI := k) rfl (by have := hF df j (Nat.le_refl _) hj; rw [tw.hx] at this; exact this) hk (by omega) hj
  have hgu := fun (W : World) (hW : DW wr W) => vbget (h.dw hW) db (db - j') (u : Int) (dI := (db : Int)) (kI := kb) rfl (by have := hB db j' (Nat.le_refl _) hj'; rw [show (N : Int) - (fwd (rev E N M) N M db j' : Nat) = (u : Int) by omega] at this; exact this) (by omega) (by omega) (by omega)
  have HGX := Lib.hid hgx; have HGU := Lib.hid hgu
  have hkr1 : -2000 ≤ k := by omega
  have hkr2 : k ≤ 2000 := by omega
  have HFS := Lib.hid h; have HS := Lib.hid hS; have HSQ := Lib.hid hsq; have HUX := Lib.hid hux; have HUY := Lib.hid huy; have HDL := Lib.hid hdl; have HLIM := Lib.hid hlim; have HF := Lib.hid hF; have HB := Lib.hid hB; have HSH := Lib.hid hsh; have HKK := Lib.hid hk
  have hdwb : ∀ W, DW wr W → Below B wr W := fun W hW => hW.below.mono hBw
  have HDWB := Lib.hid hdwb
  clear hcc hgx hgu h hS hsq hux huy hdl hlim hF hB hsh ho hk hdl' hkb tw e1 e2 e3 e4 e5 e6 hdwb
  go_enter Tryz.func52, Tryz.ntmps52
  go_wp2_with (fail)
  refine (HGX.out wr (DW.refl _)).mono ?_
  rintro e w1 ⟨rfl, q1, hw1⟩
  have hdw1 : DW wr w1 := ⟨q1, hw1⟩
  have HD1 := Lib.hid hdw1
  obtain ⟨_, _, _, _, _, _, c6, c7, c8⟩ := HCC.out w1 hdw1
  clear hw1 hdw1
  go_wp2_with (fail)
  refine (HGU.out w1 HD1.out).mono ?_
  rintro e w2 ⟨rfl, q2, hw2⟩
  have hdw2 : DW wr w2 := by rw [hw2]; exact HD1.out.drewN q2
  have HD2 := Lib.hid hdw2
  obtain ⟨_, _, _, _, _, _, f6, f7, f8⟩ := HCC.out w2 hdw2
  clear hw2 hdw2 c6 c7 c8 HD1 HGX HGU
  by_cases hxu : (x : Int) = (u : Int)
  · have hfw := fwdFS (HFS.out.dw HD2.out) df df j x y rfl HKK.out HF.out (Nat.le_refl _) (by omega) hj hN hM HTW.out.hx HTW.out.hy hxN hyM
    have HFW := Lib.hid hfw; clear hfw
    go_wp2_with (fail)
    refine HFW.out.mono ?_
    rintro e w4 ⟨ps, ⟨v4, rfl, ho4, hb4⟩, hch4, hs4⟩
    have hF4 := (HFS.out.dw HD2.out).below hb4
    have HF4 := Lib.hid hF4
    have hbw := bwdFS hF4 HUX.out HUY.out HDL.out db db j' u v (kI := kb) rfl (by omega) HB.out (Nat.le_refl _) (by omega) hj' hN hM HTW.out.hu2 HTW.out.hv2
    have HBW := Lib.hid hbw; clear hbw hF4
    obtain ⟨A4, c4, rfl⟩ := own_form ho4
    have hle4 := ch_len hch4
    have HO4 := Lib.hid ho4; have HB4 := Lib.hid hb4; have HCH4 := Lib.hid hch4; have HS4 := Lib.hid hs4
    have hbs4 := hb4.size
    clear ho4 hb4 hch4 hs4 HFW
    obtain ⟨n4, hn4⟩ : ∃ n, ps.length = n := ⟨_, rfl⟩
    rw [hn4] at HO4 hle4 ⊢
    have HN4 := Lib.hid hn4; clear hn4
    go_wp2_with (fail)
    refine HBW.out.mono ?_
    rintro e w5 ⟨qs, ⟨v5, rfl, ho5, hb5⟩, hch5, hs5⟩
    obtain ⟨A5, c5, rfl⟩ := own_form ho5
    have hle5 := ch_len hch5
    have hbs5 := hb5.size
    have ho45 := own_below HO4.out hb5 (Nat.le_refl _)
    have hr5 := CellsR.of_own ho5
    have HO45 := Lib.hid ho45; have HR5 := Lib.hid hr5; have HB5 := Lib.hid hb5; have HCH5 := Lib.hid hch5; have HS5 := Lib.hid hs5
    clear ho5 hb5 hch5 hs5 ho45 hr5 HBW HO4
    obtain ⟨n5, hn5⟩ : ∃ n, qs.length = n := ⟨_, rfl⟩
    rw [hn5] at hle5 ⊢
    have HN5 := Lib.hid hn5; clear hn5
    obtain ⟨ia, hia, hia0, hia1, hia2⟩ := info_parts infoG
    go_wp2_with (at_builtin; refine wpList_append_any _ rfl (.tmp 53) (.tmp 57) _ rfl w2.heap.size 131 ia _ 3 24 Tryz.underlying86 hia hia0 hia1 hia2 rfl (by omega) (.slice A4 n4 c4) n4 (pcCells ps) rfl HO45.out A5 n5 c5 (pcCells qs) rfl HR5.out (by rw [pcCells_length, HN5.out]) (pcCells_one _) (by unfold maxLen; omega) (by omega) (by omega) ?_; intro A6 c6 w6 hown6 hg6 hat6; have HO6 := Lib.hid hown6; have HG6 := Lib.hid hg6; clear hown6 hg6 hat6)
    have hsz6 := HG6.out.size
    have hb6 : Below B wr w6 := ((HDWB.out _ HD2.out).trans ((HB4.out.mono (by have := HD2.out.below.size; omega)).trans (HB5.out.mono (by have := HD2.out.below.size; omega)))).grown HG6.out (by have := HD2.out.below.size; omega) (fun q hq => by have := (HO45.out.lt q hq).1; have := HD2.out.below.size; omega)
    have hsr := sort_any w2.heap.size w6 (.slice A6 (n4 + n5) c6) (ps ++ qs) (by omega) (by rw [List.length_append, HN4.out, HN5.out, pcCells_append]; exact HO6.out) (by rw [List.length_append, HN4.out, HN5.out]; omega)
    have HSR := Lib.hid hsr; have HB6 := Lib.hid hb6; clear hsr hb6
    go_wp2_with (fail)
    refine HSR.out.mono ?_
    rintro e w7 ⟨rfl, us, hus, hp, hst, ho7, hb7⟩
    have HUS := Lib.hid hus; have HP := Lib.hid hp; have HST := Lib.hid hst; have HO7 := Lib.hid ho7; have HB7 := Lib.hid hb7
    clear hus hp hst ho7 hb7
    go_wp2
    go_ret
    exact z_fin HSH.out HCH4.out HCH5.out (by omega) (by omega) HP.out HST.out (by have := HS4.out; have := HS5.out; have := HTW.out.kf; have := HTW.out.kb; omega) HO7.out HD2.out.below.size HB6.out HB7.out (by have := HD2.out.below.size; omega) ⟨x, y, u, v, n, HTW.out, TwR.mkA (by omega) ⟨ps, qs, HS4.out.2, HS5.out.2, HUS.out⟩⟩
  · go_upto_region 10 with fail
    go_cut [86] (fun v86 wx => ∃ b : Bool, v86 = .bool b ∧ DW wr wx ∧ (b = true ↔ ZB E N M df j u))
    case first =>
      as_aux_lemma =>
        by_cases hu0 : (0 : Int) < (u : Int)
        · by_cases hok : 1 ≤ j
          · have hlab := HF.out (df - 1) (j - 1) (by omega) (by omega)
            have hgg := vfget (HFS.out.dw HD2.out) (df - 1) (j - 1) _ (dI := (df : Int) - 1) (kI := (u : Int) - 1 - (v : Int)) (by omega) hlab (by omega) (by omega) (by omega)
            have HGG := Lib.hid hgg; clear hgg hlab
            go_wp2_with (fail)
            refine (ok_t _ _ _ (by omega) (by omega) (by omega) (by omega)).mono ?_
            rintro e w3 ⟨rfl, rfl⟩
            go_wp2_with (fail)
            refine HGG.out.mono ?_
            rintro e w3 ⟨rfl, q3, hw3⟩
            have hdw3 : DW wr w3 := by rw [hw3]; exact HD2.out.drewN q3
            clear hw3 HGG
            go_wp2_with (fail)
            go_meet
            exact ⟨_, rfl, hdw3, ⟨fun h9 => ⟨by omega, by omega, hok, by have := of_beq h9; omega⟩, fun h9 => to_beq (by unfold ZB at h9; omega)⟩⟩
          · go_wp2_with (fail)
            refine (ok_f _ _ _ (.inr (.inl (by omega))) (by omega) (by omega)).mono ?_
            rintro e w3 ⟨rfl, rfl⟩
            go_wp2_with (fail)
            go_meet
            exact ⟨_, rfl, HD2.out, ⟨fun h9 => (by cases h9), fun h9 => by exfalso; unfold ZB at h9; omega⟩⟩
        · go_wp2_with (fail)
          go_meet
          exact ⟨_, rfl, HD2.out, ⟨fun h9 => (by cases h9), fun h9 => by exfalso; unfold ZB at h9; omega⟩⟩
    case rest =>
      obtain ⟨b10, rfl, hdc, hhit⟩ := hcut
      clear f6 f7 f8 HD2
      have HD3 := Lib.hid hdc; clear hdc
      cases b10
      case true =>
        have hzz := hhit.1 rfl
        have HZB := Lib.hid hzz
        obtain ⟨h1, h2, h3, h4⟩ := hzz
        clear hhit
        have hy10 : fy E N M (df - 1) (j - 1) = v := by have := HTW.out.kf; unfold fy; omega
        as_aux_lemma =>
          have hfw := fwdFS (HFS.out.dw HD3.out) (df - 1) df (j - 1) (u - 1) v (dI := (df : Int) - 1) (kI := (u : Int) - 1 - (v : Int)) (by omega) (by omega) HF.out (by omega) (by omega) (by omega) hN hM (by omega) hy10 (by omega) (by omega)
          have HFW := Lib.hid hfw; clear hfw
          go_wp2_with (fail)
          refine HFW.out.mono ?_
          rintro e w4 ⟨ps, ⟨v4, rfl, ho4, hb4⟩, hch4, hs4⟩
          have hF4 := (HFS.out.dw HD3.out).below hb4
          have HF4 := Lib.hid hF4
          have hbw := bwdFS hF4 HUX.out HUY.out HDL.out db db j' u v (kI := kb) rfl (by omega) HB.out (Nat.le_refl _) (by omega) hj' hN hM HTW.out.hu2 HTW.out.hv2
          have HBW := Lib.hid hbw; clear hbw hF4
          obtain ⟨A4, c4, rfl⟩ := own_form ho4
          have hle4 := ch_len hch4
          have HO4 := Lib.hid ho4; have HB4 := Lib.hid hb4; have HCH4 := Lib.hid hch4; have HS4 := Lib.hid hs4
          have hbs4 := hb4.size
          clear ho4 hb4 hch4 hs4 HFW
          obtain ⟨n4, hn4⟩ : ∃ n, ps.length = n := ⟨_, rfl⟩
          rw [hn4] at HO4 hle4 ⊢
          have HN4 := Lib.hid hn4; clear hn4
          go_wp2_with (fail)
          refine HBW.out.mono ?_
          rintro e w5 ⟨qs, ⟨v5, rfl, ho5, hb5⟩, hch5, hs5⟩
          obtain ⟨A5, c5, rfl⟩ := own_form ho5
          have hle5 := ch_len hch5
          have hbs5 := hb5.size
          have ho45 := own_below HO4.out hb5 (Nat.le_refl _)
          have hr5 := CellsR.of_own ho5
          have HO45 := Lib.hid ho45; have HR5 := Lib.hid hr5; have HB5 := Lib.hid hb5; have HCH5 := Lib.hid hch5; have HS5 := Lib.hid hs5
          clear ho5 hb5 hch5 hs5 ho45 hr5 HBW HO4
          obtain ⟨n5, hn5⟩ : ∃ n, qs.length = n := ⟨_, rfl⟩
          rw [hn5] at hle5 ⊢
          have HN5 := Lib.hid hn5; clear hn5
          obtain ⟨ia, hia, hia0, hia1, hia2⟩ := info_parts infoG
          go_wp2_with (at_builtin; refine wpList_append_any _ rfl (.tmp 95) (.tmp 99) _ rfl wc.heap.size 131 ia _ 3 24 Tryz.underlying86 hia hia0 hia1 hia2 rfl (by omega) (.slice A4 n4 c4) n4 (pcCells ps) rfl HO45.out A5 n5 c5 (pcCells qs) rfl HR5.out (by rw [pcCells_length, HN5.out]) (pcCells_one _) (by unfold maxLen; omega) (by omega) (by omega) ?_; intro A6 c6 w6 hown6 hg6 hat6; have HO6 := Lib.hid hown6; have HG6 := Lib.hid hg6; clear hown6 hg6 hat6)
          have hsz6 := HG6.out.size
          have hb6 : Below B wr w6 := ((HDWB.out _ HD3.out).trans ((HB4.out.mono (by have := HD3.out.below.size; omega)).trans (HB5.out.mono (by have := HD3.out.below.size; omega)))).grown HG6.out (by have := HD3.out.below.size; omega) (fun q hq => by have := (HO45.out.lt q hq).1; have := HD3.out.below.size; omega)
          have hsr := sort_any wc.heap.size w6 (.slice A6 (n4 + n5) c6) (ps ++ qs) (by omega) (by rw [List.length_append, HN4.out, HN5.out, pcCells_append]; exact HO6.out) (by rw [List.length_append, HN4.out, HN5.out]; omega)
          have HSR := Lib.hid hsr; have HB6 := Lib.hid hb6; clear hsr hb6
          go_wp2_with (fail)
          refine HSR.out.mono ?_
          rintro e w7 ⟨rfl, us, hus, hp, hst, ho7, hb7⟩
          have HUS := Lib.hid hus; have HP := Lib.hid hp; have HST := Lib.hid hst; have HO7 := Lib.hid ho7; have HB7 := Lib.hid hb7
          clear hus hp hst ho7 hb7
          go_wp2
          go_ret
          exact z_fin HSH.out HCH4.out HCH5.out (by omega) (by omega) HP.out HST.out (by have := HS4.out; have := HS5.out; have := HTW.out.kf; have := HTW.out.kb; omega) HO7.out HD3.out.below.size HB6.out HB7.out (by have := HD3.out.below.size; omega) ⟨x, y, u, v, n, HTW.out, TwR.mkB (by omega) HZB.out ⟨ps, qs, HS4.out.2, HS5.out.2, HUS.out⟩⟩
      case false =>
        have hzz : ¬ ZB E N M df j u := fun h9 => by cases hhit.2 h9
        have HNB := Lib.hid hzz
        clear hhit hzz
        as_aux_lemma =>
          go_upto_region 14 with fail
          go_cut [127] (fun v127 wx => ∃ b : Bool, v127 = .bool b ∧ DW wr wx ∧ (b = true ↔ ZC E N M df j u v))
          case first =>
            as_aux_lemma =>
              by_cases hv0 : (0 : Int) < (v : Int)
              · by_cases hok : j + 1 ≤ df
                · have hlab := HF.out (df - 1) j (by omega) (by omega)
                  have hgg := vfget (HFS.out.dw HD3.out) (df - 1) j _ (dI := (df : Int) - 1) (kI := (u : Int) - ((v : Int) - 1)) (by omega) hlab (by omega) (by omega) (by omega)
                  have HGG := Lib.hid hgg; clear hgg hlab
                  go_wp2_with (fail)
                  refine (ok_t _ _ _ (by omega) (by omega) (by omega) (by omega)).mono ?_
                  rintro e w3 ⟨rfl, rfl⟩
                  go_wp2_with (fail)
                  refine HGG.out.mono ?_
                  rintro e w3 ⟨rfl, q3, hw3⟩
                  have hdw3 : DW wr w3 := by rw [hw3]; exact HD3.out.drewN q3
                  clear hw3 HGG
                  go_wp2_with (fail)
                  go_meet
                  exact ⟨_, rfl, hdw3, ⟨fun h9 => ⟨by omega, by omega, hok, by have := of_beq h9; omega⟩, fun h9 => to_beq (by unfold ZC at h9; omega)⟩⟩
                · go_wp2_with (fail)
                  refine (ok_f _ _ _ (.inr (.inr (by omega))) (by omega) (by omega)).mono ?_
                  rintro e w3 ⟨rfl, rfl⟩
                  go_wp2_with (fail)
                  go_meet
                  exact ⟨_, rfl, HD3.out, ⟨fun h9 => (by cases h9), fun h9 => by exfalso; unfold ZC at h9; omega⟩⟩
              · go_wp2_with (fail)
                go_meet
                exact ⟨_, rfl, HD3.out, ⟨fun h9 => (by cases h9), fun h9 => by exfalso; unfold ZC at h9; omega⟩⟩
          case rest =>
            obtain ⟨b14, rfl, hdc, hhit⟩ := hcut
            clear HD3
            have HD4 := Lib.hid hdc; clear hdc
            cases b14
            case true =>
              have hzz := hhit.1 rfl
              have HZC := Lib.hid hzz
              obtain ⟨h1, h2, h3, h4⟩ := hzz
              clear hhit
              have hy14 : fy E N M (df - 1) j = v - 1 := by have := HTW.out.kf; unfold fy; omega
              as_aux_lemma =>
                have hfw := fwdFS (HFS.out.dw HD4.out) (df - 1) df j u (v - 1) (dI := (df : Int) - 1) (kI := (u : Int) - ((v : Int) - 1)) (by omega) (by omega) HF.out (by omega) (by omega) (by omega) hN hM (by omega) hy14 (by omega) (by omega)
                have HFW := Lib.hid hfw; clear hfw
                go_wp2_with (fail)
                refine HFW.out.mono ?_
                rintro e w4 ⟨ps, ⟨v4, rfl, ho4, hb4⟩, hch4, hs4⟩
                have hF4 := (HFS.out.dw HD4.out).below hb4
                have HF4 := Lib.hid hF4
                have hbw := bwdFS hF4 HUX.out HUY.out HDL.out db db j' u v (kI := kb) rfl (by omega) HB.out (Nat.le_refl _) (by omega) hj' hN hM HTW.out.hu2 HTW.out.hv2
                have HBW := Lib.hid hbw; clear hbw hF4
                obtain ⟨A4, c4, rfl⟩ := own_form ho4
                have hle4 := ch_len hch4
                have HO4 := Lib.hid ho4; have HB4 := Lib.hid hb4; have HCH4 := Lib.hid hch4; have HS4 := Lib.hid hs4
                have hbs4 := hb4.size
                clear ho4 hb4 hch4 hs4 HFW
                obtain ⟨n4, hn4⟩ : ∃ n, ps.length = n := ⟨_, rfl⟩
                rw [hn4] at HO4 hle4 ⊢
                have HN4 := Lib.hid hn4; clear hn4
                go_wp2_with (fail)
                refine HBW.out.mono ?_
                rintro e w5 ⟨qs, ⟨v5, rfl, ho5, hb5⟩, hch5, hs5⟩
                obtain ⟨A5, c5, rfl⟩ := own_form ho5
                have hle5 := ch_len hch5
                have hbs5 := hb5.size
                have ho45 := own_below HO4.out hb5 (Nat.le_refl _)
                have hr5 := CellsR.of_own ho5
                have HO45 := Lib.hid ho45; have HR5 := Lib.hid hr5; have HB5 := Lib.hid hb5; have HCH5 := Lib.hid hch5; have HS5 := Lib.hid hs5
                clear ho5 hb5 hch5 hs5 ho45 hr5 HBW HO4
                obtain ⟨n5, hn5⟩ : ∃ n, qs.length = n := ⟨_, rfl⟩
                rw [hn5] at hle5 ⊢
                have HN5 := Lib.hid hn5; clear hn5
                obtain ⟨ia, hia, hia0, hia1, hia2⟩ := info_parts infoG
                go_wp2_with (at_builtin; refine wpList_append_any _ rfl (.tmp 136) (.tmp 140) _ rfl wc.heap.size 131 ia _ 3 24 Tryz.underlying86 hia hia0 hia1 hia2 rfl (by omega) (.slice A4 n4 c4) n4 (pcCells ps) rfl HO45.out A5 n5 c5 (pcCells qs) rfl HR5.out (by rw [pcCells_length, HN5.out]) (pcCells_one _) (by unfold maxLen; omega) (by omega) (by omega) ?_; intro A6 c6 w6 hown6 hg6 hat6; have HO6 := Lib.hid hown6; have HG6 := Lib.hid hg6; clear hown6 hg6 hat6)
                have hsz6 := HG6.out.size
                have hb6 : Below B wr w6 := ((HDWB.out _ HD4.out).trans ((HB4.out.mono (by have := HD4.out.below.size; omega)).trans (HB5.out.mono (by have := HD4.out.below.size; omega)))).grown HG6.out (by have := HD4.out.below.size; omega) (fun q hq => by have := (HO45.out.lt q hq).1; have := HD4.out.below.size; omega)
                have hsr := sort_any wc.heap.size w6 (.slice A6 (n4 + n5) c6) (ps ++ qs) (by omega) (by rw [List.length_append, HN4.out, HN5.out, pcCells_append]; exact HO6.out) (by rw [List.length_append, HN4.out, HN5.out]; omega)
                have HSR := Lib.hid hsr; have HB6 := Lib.hid hb6; clear hsr hb6
                go_wp2_with (fail)
                refine HSR.out.mono ?_
                rintro e w7 ⟨rfl, us, hus, hp, hst, ho7, hb7⟩
                have HUS := Lib.hid hus; have HP := Lib.hid hp; have HST := Lib.hid hst; have HO7 := Lib.hid ho7; have HB7 := Lib.hid hb7
                clear hus hp hst ho7 hb7
                go_wp2
                go_ret
                exact z_fin HSH.out HCH4.out HCH5.out (by omega) (by omega) HP.out HST.out (by have := HS4.out; have := HS5.out; have := HTW.out.kf; have := HTW.out.kb; omega) HO7.out HD4.out.below.size HB6.out HB7.out (by have := HD4.out.below.size; omega) ⟨x, y, u, v, n, HTW.out, TwR.mkC (by omega) HNB.out HZC.out ⟨ps, qs, HS4.out.2, HS5.out.2, HUS.out⟩⟩
            case false =>
              have hzz : ¬ ZC E N M df j u v := fun h9 => by cases hhit.2 h9
              have HNC := Lib.hid hzz
              clear hhit hzz
              as_aux_lemma =>
                go_upto_region 18 with fail
                obtain ⟨_, _, _, _, _, _, f6, f7, f8⟩ := HCC.out wc HD4.out
                go_cut [165] (fun v165 wx => ∃ b : Bool, v165 = .bool b ∧ DW wr wx ∧ (b = true → u = 0 ∨ v = 0 ∨ x = N ∨ y = M) ∧ (b = false → 1 ≤ u ∧ 1 ≤ v ∧ x + 1 ≤ N ∧ y + 1 ≤ M))
                case first =>
                  as_aux_lemma =>
                    by_cases hu0 : u = 0
                    · have hb1 : ((u : Int) == 0) = true := by simp [hu0]
                      have h8 : u = 0 ∨ v = 0 ∨ x = N ∨ y = M := .inl hu0
                      have H8 := Lib.hid h8; clear hu0 h8
                      go_wp2_with (fail)
                      go_meet
                      exact ⟨_, rfl, HD4.out, fun _ => H8.out, fun h9 => by cases h9⟩
                    · have hb1 : ((u : Int) == 0) = false := by simp [hu0]
                      by_cases hv0 : v = 0
                      · have hb2 : ((v : Int) == 0) = true := by simp [hv0]
                        have h8 : u = 0 ∨ v = 0 ∨ x = N ∨ y = M := .inr (.inl hv0)
                        have H8 := Lib.hid h8; clear hv0 h8
                        go_wp2_with (fail)
                        go_meet
                        exact ⟨_, rfl, HD4.out, fun _ => H8.out, fun h9 => by cases h9⟩
                      · have hb2 : ((v : Int) == 0) = false := by simp [hv0]
                        by_cases hxN0 : x = N
                        · have hb3 : ((x : Int) == (N : Int)) = true := by simp [hxN0]
                          have h8 : u = 0 ∨ v = 0 ∨ x = N ∨ y = M := .inr (.inr (.inl hxN0))
                          have H8 := Lib.hid h8; clear hxN0 h8
                          go_wp2_with (fail)
                          go_meet
                          exact ⟨_, rfl, HD4.out, fun _ => H8.out, fun h9 => by cases h9⟩
                        · have hb3 : ((x : Int) == (N : Int)) = false := by simp; omega
                          by_cases hyM0 : y = M
                          · have hb4 : ((y : Int) == (M : Int)) = true := by simp [hyM0]
                            have h8 : u = 0 ∨ v = 0 ∨ x = N ∨ y = M := .inr (.inr (.inr hyM0))
                            have H8 := Lib.hid h8; clear hyM0 h8
                            go_wp2_with (fail)
                            go_meet
                            exact ⟨_, rfl, HD4.out, fun _ => H8.out, fun h9 => by cases h9⟩
                          · have hb4 : ((y : Int) == (M : Int)) = false := by simp; omega
                            have h8 : 1 ≤ u ∧ 1 ≤ v ∧ x + 1 ≤ N ∧ y + 1 ≤ M := by omega
                            have H8 := Lib.hid h8; clear h8
                            go_wp2_with (fail)
                            go_meet
                            exact ⟨_, rfl, HD4.out, (fun h9 => by cases h9), fun _ => H8.out⟩
                case rest =>
                  obtain ⟨b18, rfl, hdc, hyes, hno⟩ := hcut
                  clear HD4 f6 f7 f8
                  have HD5 := Lib.hid hdc; clear hdc
                  cases b18
                  case true =>
                    have hor := hyes rfl
                    clear hyes hno
                    by_cases hu0 : u = 0
                    · have hb1 : ((u : Int) == 0) = true := by simp [hu0]
                      have h8 : u = 0 ∨ v = 0 := .inl hu0
                      have H8 := Lib.hid h8; clear hu0 h8
                      as_aux_lemma =>
                        have hbw := bwdFS (HFS.out.dw HD5.out) HUX.out HUY.out HDL.out db db j' u v (kI := kb) rfl (by omega) HB.out (Nat.le_refl _) (by omega) hj' hN hM HTW.out.hu2 HTW.out.hv2
                        have HBW := Lib.hid hbw; clear hbw
                        go_wp2_with (fail)
                        refine HBW.out.mono ?_
                        rintro e w4 ⟨ps, ⟨v4, rfl, ho4, hb4⟩, hch4, hs4⟩
                        have HO4 := Lib.hid ho4; have HB4 := Lib.hid hb4; have HCH4 := Lib.hid hch4; have HS4 := Lib.hid hs4
                        clear ho4 hb4 hch4 hs4 HBW
                        go_wp2
                        go_ret
                        exact z_one HSH.out (HCH4.out.lo (Nat.zero_le _) (Nat.zero_le _)) (by have := HS4.out; have := HTW.out.kf; have := HTW.out.kb; have := HTW.out.xn; have := HTW.out.yn; have := H8.out; omega) HO4.out HD5.out.below.size ((HDWB.out _ HD5.out).trans (HB4.out.mono (by have := HD5.out.below.size; omega))) ⟨x, y, u, v, n, HTW.out, TwR.mkD (by omega) HNB.out HNC.out H8.out HS4.out.2⟩
                    · have hb1 : ((u : Int) == 0) = false := by simp [hu0]
                      by_cases hv0 : v = 0
                      · have hb2 : ((v : Int) == 0) = true := by simp [hv0]
                        have h8 : u = 0 ∨ v = 0 := .inr hv0
                        have H8 := Lib.hid h8; clear hv0 h8
                        as_aux_lemma =>
                          have hbw := bwdFS (HFS.out.dw HD5.out) HUX.out HUY.out HDL.out db db j' u v (kI := kb) rfl (by omega) HB.out (Nat.le_refl _) (by omega) hj' hN hM HTW.out.hu2 HTW.out.hv2
                          have HBW := Lib.hid hbw; clear hbw
                          go_wp2_with (fail)
                          refine HBW.out.mono ?_
                          rintro e w4 ⟨ps, ⟨v4, rfl, ho4, hb4⟩, hch4, hs4⟩
                          have HO4 := Lib.hid ho4; have HB4 := Lib.hid hb4; have HCH4 := Lib.hid hch4; have HS4 := Lib.hid hs4
                          clear ho4 hb4 hch4 hs4 HBW
                          go_wp2
                          go_ret
                          exact z_one HSH.out (HCH4.out.lo (Nat.zero_le _) (Nat.zero_le _)) (by have := HS4.out; have := HTW.out.kf; have := HTW.out.kb; have := HTW.out.xn; have := HTW.out.yn; have := H8.out; omega) HO4.out HD5.out.below.size ((HDWB.out _ HD5.out).trans (HB4.out.mono (by have := HD5.out.below.size; omega))) ⟨x, y, u, v, n, HTW.out, TwR.mkD (by omega) HNB.out HNC.out H8.out HS4.out.2⟩
                      · have hb2 : ((v : Int) == 0) = false := by simp [hv0]
                        have hor2 : x = N ∨ y = M := by omega
                        have hfw := fwdFS (HFS.out.dw HD5.out) df df j x y rfl HKK.out HF.out (Nat.le_refl _) (by omega) hj hN hM HTW.out.hx HTW.out.hy hxN hyM
                        have HFW := Lib.hid hfw; clear hfw
                        go_wp2_with (fail)
                        refine HFW.out.mono ?_
                        rintro e w4 ⟨ps, ⟨v4, rfl, ho4, hb4⟩, hch4, hs4⟩
                        have HO4 := Lib.hid ho4; have HB4 := Lib.hid hb4; have HCH4 := Lib.hid hch4; have HS4 := Lib.hid hs4
                        clear ho4 hb4 hch4 hs4 HFW
                        go_wp2
                        go_ret
                        exact z_one HSH.out (HCH4.out.hi hxN hyM) (by have := HS4.out; have := HTW.out.kf; have := HTW.out.kb; omega) HO4.out HD5.out.below.size ((HDWB.out _ HD5.out).trans (HB4.out.mono (by have := HD5.out.below.size; omega))) ⟨x, y, u, v, n, HTW.out, TwR.mkD2 (by omega) HNB.out HNC.out (by omega) hor2 HS4.out.2⟩
                  case false =>
                    obtain ⟨hu1, hv1, hx1, hy1⟩ := hno rfl
                    clear hyes hno
                    as_aux_lemma =>
                      go_upto_region 22 with fail
                      obtain ⟨_, _, _, _, _, _, f6, f7, f8⟩ := HCC.out wc HD5.out
                      have hx1' : (x : Int) + 1 ≤ (N : Int) := by omega
                      have wk1 : IntKind.i64.wrap (IntKind.i64.wrap (IntKind.i64.wrap ((x : Int) + 1) - (y : Int)) - dl) = kb + 1 := by
                        rw [IntWalk.i64_in ((x : Int) + 1) (by omega), IntWalk.i64_in ((x : Int) + 1 - (y : Int)) (by omega), show (x : Int) + 1 - (y : Int) - dl = kb + 1 by omega]
                        exact IntWalk.i64_in _ (by omega)
                      go_cut [220] (fun v220 wx => ∃ b : Bool, v220 = .bool b ∧ DW wr wx ∧ (b = true ↔ ZE E N M db j' x))
                      case first =>
                        as_aux_lemma =>
                          by_cases hok : 1 ≤ j'
                          · have hlab := HB.out (db - 1) (j' - 1) (by omega) (by omega)
                            have hgg := fun n => vbget (HFS.out.dw (HD5.out.drewN n)) (db - 1) (db - 1 - (j' - 1)) _ (dI := (db : Int) - 1) (kI := (x : Int) + 1 - (y : Int) - dl) (by omega) hlab (by omega) (by omega) (by omega)
                            have hoo := fun n => ok_tq ((db : Int) - 1) ((x : Int) + 1 - (y : Int) - dl) (wc.drewN n) (by omega) (by omega) (by omega) (by omega)
                            have HGG := Lib.hid hgg; have HOO := Lib.hid hoo; clear hgg hlab hoo
                            go_quiet (first | (go_at_call 72; exact Calls.quiet_of (HOO.out _)) | (go_at_call 70; exact Calls.quiet_of (HGG.out _)))
                            go_wp2_with (fail)
                            go_meet
                            exact ⟨_, rfl, HD5.out.drewN _, ⟨fun h9 => ⟨by omega, hok, by have := of_beq h9; omega⟩, fun h9 => to_beq (by unfold ZE at h9; omega)⟩⟩
                          · have hoo := fun n => ok_fq ((db : Int) - 1) ((x : Int) + 1 - (y : Int) - dl) (wc.drewN n) (.inr (.inr (by omega))) (by omega) (by omega)
                            have HOO := Lib.hid hoo; clear hoo
                            go_quiet (first | (go_at_call 72; exact Calls.quiet_of (HOO.out _)))
                            go_wp2_with (fail)
                            go_meet
                            exact ⟨_, rfl, HD5.out.drewN _, ⟨fun h9 => (by cases h9), fun h9 => by exfalso; unfold ZE at h9; omega⟩⟩
                      case rest =>
                        obtain ⟨b22, rfl, hdc, hhit⟩ := hcut
                        clear HD5 f6 f7 f8
                        have HD6 := Lib.hid hdc; clear hdc
                        cases b22
                        case true =>
                          have hzz := hhit.1 rfl
                          have HZE := Lib.hid hzz
                          obtain ⟨h1, h2, h3⟩ := hzz
                          clear hhit
                          have hy22 : fy (rev E N M) N M (db - 1) (j' - 1) + y = M := by have := HTW.out.kb; unfold fy; omega
                          as_aux_lemma =>
                            have hfw := bwdFS (HFS.out.dw HD6.out) HUX.out HUY.out HDL.out (db - 1) db (j' - 1) (x + 1) y (dI := (db : Int) - 1) (kI := kb + 1) (by omega) (by omega) HB.out (by omega) (by omega) (by omega) hN hM h3 hy22
                            have HFW := Lib.hid hfw; clear hfw
                            go_wp2_with (fail)
                            refine HFW.out.mono ?_
                            rintro e w4 ⟨ps, ⟨v4, rfl, ho4, hb4⟩, hch4, hs4⟩
                            have hF4 := (HFS.out.dw HD6.out).below hb4
                            have HF4 := Lib.hid hF4
                            have hbw := fwdFS hF4 df df j x y rfl HKK.out HF.out (Nat.le_refl _) (by omega) hj hN hM HTW.out.hx HTW.out.hy hxN hyM
                            have HBW := Lib.hid hbw; clear hbw hF4
                            obtain ⟨A4, c4, rfl⟩ := own_form ho4
                            have hle4 := ch_len hch4
                            have HO4 := Lib.hid ho4; have HB4 := Lib.hid hb4; have HCH4 := Lib.hid hch4; have HS4 := Lib.hid hs4
                            have hbs4 := hb4.size
                            clear ho4 hb4 hch4 hs4 HFW
                            obtain ⟨n4, hn4⟩ : ∃ n, ps.length = n := ⟨_, rfl⟩
                            rw [hn4] at HO4 hle4 ⊢
                            have HN4 := Lib.hid hn4; clear hn4
                            go_wp2_with (fail)
                            refine HBW.out.mono ?_
                            rintro e w5 ⟨qs, ⟨v5, rfl, ho5, hb5⟩, hch5, hs5⟩
                            obtain ⟨A5, c5, rfl⟩ := own_form ho5
                            have hle5 := ch_len hch5
                            have hbs5 := hb5.size
                            have ho45 := own_below HO4.out hb5 (Nat.le_refl _)
                            have hr5 := CellsR.of_own ho5
                            have HO45 := Lib.hid ho45; have HR5 := Lib.hid hr5; have HB5 := Lib.hid hb5; have HCH5 := Lib.hid hch5; have HS5 := Lib.hid hs5
                            clear ho5 hb5 hch5 hs5 ho45 hr5 HBW HO4
                            obtain ⟨n5, hn5⟩ : ∃ n, qs.length = n := ⟨_, rfl⟩
                            rw [hn5] at hle5 ⊢
                            have HN5 := Lib.hid hn5; clear hn5
                            obtain ⟨ia, hia, hia0, hia1, hia2⟩ := info_parts infoG
                            go_wp2_with (at_builtin; refine wpList_append_any _ rfl (.tmp 227) (.tmp 231) _ rfl wc.heap.size 131 ia _ 3 24 Tryz.underlying86 hia hia0 hia1 hia2 rfl (by omega) (.slice A4 n4 c4) n4 (pcCells ps) rfl HO45.out A5 n5 c5 (pcCells qs) rfl HR5.out (by rw [pcCells_length, HN5.out]) (pcCells_one _) (by unfold maxLen; omega) (by omega) (by omega) ?_; intro A6 c6 w6 hown6 hg6 hat6; have HO6 := Lib.hid hown6; have HG6 := Lib.hid hg6; clear hown6 hg6 hat6)
                            have hsz6 := HG6.out.size
                            have hb6 : Below B wr w6 := ((HDWB.out _ HD6.out).trans ((HB4.out.mono (by have := HD6.out.below.size; omega)).trans (HB5.out.mono (by have := HD6.out.below.size; omega)))).grown HG6.out (by have := HD6.out.below.size; omega) (fun q hq => by have := (HO45.out.lt q hq).1; have := HD6.out.below.size; omega)
                            have hsr := sort_any wc.heap.size w6 (.slice A6 (n4 + n5) c6) (ps ++ qs) (by omega) (by rw [List.length_append, HN4.out, HN5.out, pcCells_append]; exact HO6.out) (by rw [List.length_append, HN4.out, HN5.out]; omega)
                            have HSR := Lib.hid hsr; have HB6 := Lib.hid hb6; clear hsr hb6
                            go_wp2_with (fail)
                            refine HSR.out.mono ?_
                            rintro e w7 ⟨rfl, us, hus, hp, hst, ho7, hb7⟩
                            have HUS := Lib.hid hus; have HP := Lib.hid hp; have HST := Lib.hid hst; have HO7 := Lib.hid ho7; have HB7 := Lib.hid hb7
                            clear hus hp hst ho7 hb7
                            go_wp2
                            go_ret
                            exact z_fin HSH.out HCH5.out HCH4.out (by omega) (by omega) (HP.out.trans List.perm_append_comm) HST.out (by have := HS4.out; have := HS5.out; have := HTW.out.kf; have := HTW.out.kb; omega) HO7.out HD6.out.below.size HB6.out HB7.out (by have := HD6.out.below.size; omega) ⟨x, y, u, v, n, HTW.out, TwR.mkE (by omega) HNB.out HNC.out (by omega) (by omega) HZE.out ⟨ps, qs, HS4.out.2, HS5.out.2, HUS.out⟩⟩
                        case false =>
                          have hzz : ¬ ZE E N M db j' x := fun h9 => by cases hhit.2 h9
                          have HNE := Lib.hid hzz
                          clear hhit hzz
                          as_aux_lemma =>
                            go_upto_region 26 with fail
                            obtain ⟨_, _, _, _, _, _, f6, f7, f8⟩ := HCC.out wc HD6.out
                            have hy1' : (y : Int) + 1 ≤ (M : Int) := by omega
                            go_cut [274] (fun v274 wx => ∃ b : Bool, v274 = .bool b ∧ DW wr wx ∧ (b = true ↔ ZF E N M db j' x))
                            case first =>
                              as_aux_lemma =>
                                by_cases hok : j' + 1 ≤ db
                                · have hlab := HB.out (db - 1) j' (by omega) (by omega)
                                  have hgg := fun n => vbget (HFS.out.dw (HD6.out.drewN n)) (db - 1) (db - 1 - j') _ (dI := (db : Int) - 1) (kI := (x : Int) - ((y : Int) + 1) - dl) (by omega) hlab (by omega) (by omega) (by omega)
                                  have hoo := fun n => ok_tq ((db : Int) - 1) ((x : Int) - ((y : Int) + 1) - dl) (wc.drewN n) (by omega) (by omega) (by omega) (by omega)
                                  have HGG := Lib.hid hgg; have HOO := Lib.hid hoo; clear hgg hlab hoo
                                  go_quiet (first | (go_at_call 72; exact Calls.quiet_of (HOO.out _)) | (go_at_call 70; exact Calls.quiet_of (HGG.out _)))
                                  go_wp2_with (fail)
                                  go_meet
                                  exact ⟨_, rfl, HD6.out.drewN _, ⟨fun h9 => ⟨by omega, hok, by have := of_beq h9; omega⟩, fun h9 => to_beq (by unfold ZF at h9; omega)⟩⟩
                                · have hoo := fun n => ok_fq ((db : Int) - 1) ((x : Int) - ((y : Int) + 1) - dl) (wc.drewN n) (.inr (.inl (by omega))) (by omega) (by omega)
                                  have HOO := Lib.hid hoo; clear hoo
                                  go_quiet (first | (go_at_call 72; exact Calls.quiet_of (HOO.out _)))
                                  go_wp2_with (fail)
                                  go_meet
                                  exact ⟨_, rfl, HD6.out.drewN _, ⟨fun h9 => (by cases h9), fun h9 => by exfalso; unfold ZF at h9; omega⟩⟩
                            case rest =>
                              obtain ⟨b26, rfl, hdc, hhit⟩ := hcut
                              clear HD6 f6 f7 f8
                              have HD7 := Lib.hid hdc; clear hdc
                              cases b26
                              case true =>
                                have hzz := hhit.1 rfl
                                have HZF := Lib.hid hzz
                                obtain ⟨h1, h2, h3⟩ := hzz
                                clear hhit
                                have hy26 : fy (rev E N M) N M (db - 1) j' + (y + 1) = M := by have := HTW.out.kb; unfold fy; omega
                                as_aux_lemma =>
                                  have hfw := bwdFS (HFS.out.dw HD7.out) HUX.out HUY.out HDL.out (db - 1) db j' x (y + 1) (dI := (db : Int) - 1) (kI := kb - 1) (by omega) (by omega) HB.out (by omega) (by omega) (by omega) hN hM h3 hy26
                                  have HFW := Lib.hid hfw; clear hfw
                                  go_wp2_with (fail)
                                  refine HFW.out.mono ?_
                                  rintro e w4 ⟨ps, ⟨v4, rfl, ho4, hb4⟩, hch4, hs4⟩
                                  have hF4 := (HFS.out.dw HD7.out).below hb4
                                  have HF4 := Lib.hid hF4
                                  have hbw := fwdFS hF4 df df j x y rfl HKK.out HF.out (Nat.le_refl _) (by omega) hj hN hM HTW.out.hx HTW.out.hy hxN hyM
                                  have HBW := Lib.hid hbw; clear hbw hF4
                                  obtain ⟨A4, c4, rfl⟩ := own_form ho4
                                  have hle4 := ch_len hch4
                                  have HO4 := Lib.hid ho4; have HB4 := Lib.hid hb4; have HCH4 := Lib.hid hch4; have HS4 := Lib.hid hs4
                                  have hbs4 := hb4.size
                                  clear ho4 hb4 hch4 hs4 HFW
                                  obtain ⟨n4, hn4⟩ : ∃ n, ps.length = n := ⟨_, rfl⟩
                                  rw [hn4] at HO4 hle4 ⊢
                                  have HN4 := Lib.hid hn4; clear hn4
                                  go_wp2_with (fail)
                                  refine HBW.out.mono ?_
                                  rintro e w5 ⟨qs, ⟨v5, rfl, ho5, hb5⟩, hch5, hs5⟩
                                  obtain ⟨A5, c5, rfl⟩ := own_form ho5
                                  have hle5 := ch_len hch5
                                  have hbs5 := hb5.size
                                  have ho45 := own_below HO4.out hb5 (Nat.le_refl _)
                                  have hr5 := CellsR.of_own ho5
                                  have HO45 := Lib.hid ho45; have HR5 := Lib.hid hr5; have HB5 := Lib.hid hb5; have HCH5 := Lib.hid hch5; have HS5 := Lib.hid hs5
                                  clear ho5 hb5 hch5 hs5 ho45 hr5 HBW HO4
                                  obtain ⟨n5, hn5⟩ : ∃ n, qs.length = n := ⟨_, rfl⟩
                                  rw [hn5] at hle5 ⊢
                                  have HN5 := Lib.hid hn5; clear hn5
                                  obtain ⟨ia, hia, hia0, hia1, hia2⟩ := info_parts infoG
                                  go_wp2_with (at_builtin; refine wpList_append_any _ rfl (.tmp 281) (.tmp 285) _ rfl wc.heap.size 131 ia _ 3 24 Tryz.underlying86 hia hia0 hia1 hia2 rfl (by omega) (.slice A4 n4 c4) n4 (pcCells ps) rfl HO45.out A5 n5 c5 (pcCells qs) rfl HR5.out (by rw [pcCells_length, HN5.out]) (pcCells_one _) (by unfold maxLen; omega) (by omega) (by omega) ?_; intro A6 c6 w6 hown6 hg6 hat6; have HO6 := Lib.hid hown6; have HG6 := Lib.hid hg6; clear hown6 hg6 hat6)
                                  have hsz6 := HG6.out.size
                                  have hb6 : Below B wr w6 := ((HDWB.out _ HD7.out).trans ((HB4.out.mono (by have := HD7.out.below.size; omega)).trans (HB5.out.mono (by have := HD7.out.below.size; omega)))).grown HG6.out (by have := HD7.out.below.size; omega) (fun q hq => by have := (HO45.out.lt q hq).1; have := HD7.out.below.size; omega)
                                  have hsr := sort_any wc.heap.size w6 (.slice A6 (n4 + n5) c6) (ps ++ qs) (by omega) (by rw [List.length_append, HN4.out, HN5.out, pcCells_append]; exact HO6.out) (by rw [List.length_append, HN4.out, HN5.out]; omega)
                                  have HSR := Lib.hid hsr; have HB6 := Lib.hid hb6; clear hsr hb6
                                  go_wp2_with (fail)
                                  refine HSR.out.mono ?_
                                  rintro e w7 ⟨rfl, us, hus, hp, hst, ho7, hb7⟩
                                  have HUS := Lib.hid hus; have HP := Lib.hid hp; have HST := Lib.hid hst; have HO7 := Lib.hid ho7; have HB7 := Lib.hid hb7
                                  clear hus hp hst ho7 hb7
                                  go_wp2
                                  go_ret
                                  exact z_fin HSH.out HCH5.out HCH4.out (by omega) (by omega) (HP.out.trans List.perm_append_comm) HST.out (by have := HS4.out; have := HS5.out; have := HTW.out.kf; have := HTW.out.kb; omega) HO7.out HD7.out.below.size HB6.out HB7.out (by have := HD7.out.below.size; omega) ⟨x, y, u, v, n, HTW.out, TwR.mkF (by omega) HNB.out HNC.out (by omega) (by omega) HNE.out HZF.out ⟨ps, qs, HS4.out.2, HS5.out.2, HUS.out⟩⟩
                              case false =>
                                have hzz : ¬ ZF E N M db j' x := fun h9 => by cases hhit.2 h9
                                have HNF := Lib.hid hzz
                                clear hhit hzz
                                as_aux_lemma =>
                                  have hbw := bwdFS (HFS.out.dw HD7.out) HUX.out HUY.out HDL.out db db j' u v (kI := kb) rfl (by omega) HB.out (Nat.le_refl _) (by omega) hj' hN hM HTW.out.hu2 HTW.out.hv2
                                  have HBW := Lib.hid hbw; clear hbw
                                  go_wp2_with (fail)
                                  refine HBW.out.mono ?_
                                  rintro e w4 ⟨qs, ⟨v4, rfl, ho4, hb4⟩, hch4, hs4⟩
                                  have hF4 := (HFS.out.dw HD7.out).below hb4
                                  obtain ⟨_, _, _, _, _, _, f6, f7, _⟩ := hF4.st.cells
                                  rw [HUX.out] at f6
                                  rw [HUY.out] at f7
                                  have z6 := hF4.st.blk.frozen 6
                                  have z7 := hF4.st.blk.frozen 7
                                  obtain ⟨A4, c4, rfl⟩ := own_form ho4
                                  have hle4 := ch_len hch4
                                  have hbs4 := hb4.size
                                  have hbw4 : Below B wr w4 := (HDWB.out _ HD7.out).trans (hb4.mono (by have := HD7.out.below.size; omega))
                                  have HO4 := Lib.hid ho4; have HB4 := Lib.hid hbw4; have HCH4 := Lib.hid hch4; have HS4 := Lib.hid hs4; have HF4 := Lib.hid hF4
                                  clear ho4 hb4 hbw4 hch4 hs4 hF4 HBW
                                  obtain ⟨n4, hn4⟩ : ∃ n, qs.length = n := ⟨_, rfl⟩
                                  rw [hn4] at HO4 hle4 ⊢
                                  have HN4 := Lib.hid hn4; clear hn4
                                  go_wp2
                                  go_quiet (fail)
                                  have hF5 := (HF4.out.drewN nq).setU (u : Int) (v : Int) hgB
                                  have hsz5 : (((w4.drewN nq).setCell ⟨g, 6, none⟩ (.int .i64 (u : Int))).setCell ⟨g, 7, none⟩ (.int .i64 (v : Int))).heap.size = w4.heap.size := by simp
                                  have hfo := forward_any HS.out hF5.bl hF5.st HSQ.out (N := u) (M := v) rfl rfl (by omega) (by omega) HLIM.out hl1 hl2
                                  have HFO := Lib.hid hfo; have HF5 := Lib.hid hF5
                                  clear hfo hF5
                                  go_wp2_with (fail)
                                  refine HFO.out.mono ?_
                                  rintro e w6 ⟨ps, v6, vf6, rf6, rfl, ho6, hG6, hgr6, hch6, hq6⟩
                                  obtain ⟨T', hT', hTle⟩ := HTW.out.sub
                                  have hq := hq6 T' hT' (by omega)
                                  have HT6 := Lib.hid hT'
                                  obtain ⟨A6, c6, rfl⟩ := own_form ho6
                                  have hle6 := ch_len hch6
                                  have ho46 := own_gr (own_gr (own_drewN HO4.out nq) HF5.out.gr) hgr6
                                  have hb6 : Below B wr w6 := (((HB4.out.trans (below_drewN (Below.refl _ _) nq)).setCell (p := ⟨g, 6, none⟩) hgB _).setCell (p := ⟨g, 7, none⟩) hgB _).trans (hgr6.below (by rw [hsz5]; have := HD7.out.below.size; omega))
                                  have hs6 := hgr6.size
                                  rw [hsz5] at hs6
                                  have hr6 := CellsR.of_own ho6
                                  have HO46 := Lib.hid ho46; have HB6 := Lib.hid hb6; have HG6 := Lib.hid hG6; have HCH6 := Lib.hid hch6; have HQ6 := Lib.hid hq; have HR6 := Lib.hid hr6
                                  clear ho6 hG6 hgr6 hch6 hq6 hT' hq ho46 hb6 hr6 HFO HO4 HB4
                                  obtain ⟨n6, hn6⟩ : ∃ n, ps.length = n := ⟨_, rfl⟩
                                  rw [hn6] at hle6 ⊢
                                  have HN6 := Lib.hid hn6; clear hn6
                                  obtain ⟨ia, hia, hia0, hia1, hia2⟩ := info_parts infoG
                                  have hdsz := HD7.out.below.size
                                  go_wp2_with (at_builtin; refine wpList_append_any _ rfl (.tmp 309) (.tmp 311) _ rfl wc.heap.size 131 ia _ 3 24 Tryz.underlying86 hia hia0 hia1 hia2 rfl (by omega) (.slice A4 n4 c4) n4 (pcCells qs) rfl HO46.out A6 n6 c6 (pcCells ps) rfl HR6.out (by rw [pcCells_length, HN6.out]) (pcCells_one _) (by unfold maxLen; omega) (by omega) (by omega) ?_; intro A7 c7 w7 hown7 hg7 hat7; have HO7 := Lib.hid hown7; have HG7 := Lib.hid hg7; clear hown7 hg7 hat7; have hbk7 := HG6.out.blk.grown HG7.out (fun h9 => by have := (HO46.out.lt g h9.symm).1; omega); have y6 := hbk7.cell 6; have y7 := hbk7.cell 7; have y8 := hbk7.frozen 6; have y9 := hbk7.frozen 7; have HBK7 := Lib.hid hbk7; clear hbk7)
                                  have hsz7 := HG7.out.size
                                  have hb8 : Below B wr (((w7.setCell ⟨g, 6, none⟩ (.int .i64 (N : Int)))).setCell ⟨g, 7, none⟩ (.int .i64 (M : Int))) := ((HB6.out.grown HG7.out (by omega) (fun q hq => by have := (HO46.out.lt q hq).1; omega)).setCell (p := ⟨g, 6, none⟩) hgB _).setCell (p := ⟨g, 7, none⟩) hgB _
                                  have ho8 := own_fr HO7.out (((Fr.refl (fun q => q = g) w7).setCell (p := ⟨g, 6, none⟩) (.inl rfl) (.int .i64 (N : Int))).setCell (p := ⟨g, 7, none⟩) (.inl rfl) (.int .i64 (M : Int))) (fun q hq h9 => by have := (HO7.out.lt q hq).1; omega)
                                  have hsz8 : ((w7.setCell ⟨g, 6, none⟩ (.int .i64 (N : Int))).setCell ⟨g, 7, none⟩ (.int .i64 (M : Int))).heap.size = w7.heap.size := by simp
                                  have hsr := sort_any wc.heap.size _ (.slice A7 (n4 + n6) c7) (qs ++ ps) (by rw [hsz8]; omega) (by rw [List.length_append, HN4.out, HN6.out, pcCells_append]; exact ho8) (by rw [List.length_append, HN4.out, HN6.out]; omega)
                                  have HSR := Lib.hid hsr; have HB8 := Lib.hid hb8; clear hsr hb8 ho8
                                  go_wp2_with (fail)
                                  refine HSR.out.mono ?_
                                  rintro e w9 ⟨rfl, us, hus, hp, hst, ho9, hb9⟩
                                  have HUS := Lib.hid hus; have HP := Lib.hid hp; have HST := Lib.hid hst; have HO9 := Lib.hid ho9; have HB9 := Lib.hid hb9
                                  clear hus hp hst ho9 hb9
                                  go_wp2
                                  go_ret
                                  exact z_fin HSH.out HCH6.out HCH4.out (Nat.le_refl _) (Nat.le_refl _) (HP.out.trans List.perm_append_comm) HST.out (by have := HS4.out; have := HQ6.out; omega) HO9.out hdsz HB8.out HB9.out (by omega) ⟨x, y, u, v, n, HTW.out, TwR.mkG (by omega) HNB.out HNC.out (by omega) (by omega) HNE.out HNF.out (by obtain ⟨k6, a1, a2⟩ := HQ6.out.2; exact ⟨qs, ps, _, k6, HS4.out.2, HT6.out, a1, a2, HUS.out⟩)⟩
end Go.Proofs.YtgphjnhbheimiaaGreatDoor
