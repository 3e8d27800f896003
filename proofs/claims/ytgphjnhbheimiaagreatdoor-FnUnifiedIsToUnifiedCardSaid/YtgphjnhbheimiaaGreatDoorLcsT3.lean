/-
  The walk of twosided: the road from both ends, twolcs and fix taken as premises. No condition but bounds.
-/
import Derived.Test.YtgphjnhbheimiaaGreatDoorLcsT3a
import Derived.Test.YtgphjnhbheimiaaGreatDoorDetT
namespace Go.Proofs.YtgphjnhbheimiaaGreatDoor
set_option linter.unusedVariables false
open Go.RowKit

/-- the contract of twolcs -/
def TwoC (E : EQT) (N M lim B g : Nat) (K : GK) (w0 w : World) : Prop :=
  ∀ W vf rf vb rb df db j j' k, FS w0 w B g K vb rb W vf rf → FullF E N M rf df → FullB E N M rb db → Over E N M df db j j' → k = 2 * (j : Int) - (df : Int) → TDsel E N M df db j → Short E N M (df + db) → df ≤ lim → db ≤ lim →
    Calls Tryz.prog 52 #[.pointer (some ⟨g, 0, none⟩), .int .i64 (df : Int), .int .i64 (db : Int), .int .i64 k] W (AlgoOut E N M B (fun ps => 2 * sumP ps + (df + db) = N + M ∧ TwQ E N M df db j j' ps) W)
/-- what fix gives -/
def FixOut (E : EQT) (N M b0 : Nat) (ps : List Pc) (w : World) (e : Ending) (w' : World) : Prop :=
  ∃ qs v', e = .returned v' ∧ w'.ownsRow b0 131 3 v' qs.length (pcCells qs) ∧ Below b0 w w' ∧ Ch E 0 0 qs N M ∧ qs = fixF ps
/-- the contract of fix -/
def FixC (E : EQT) (N M : Nat) : Prop :=
  ∀ b0 W v ps, b0 ≤ W.heap.size → W.ownsRow b0 131 3 v ps.length (pcCells ps) → (∀ p ∈ ps, p.ok E ∧ p.x + p.l ≤ N ∧ p.y + p.l ≤ M) → ps.length ≤ 2000002 →
    Calls Tryz.prog 59 #[v] W (FixOut E N M b0 ps W)
/-- how much the road from both ends keeps -/
def QT (E : EQT) (N M lim : Nat) (ps : List Pc) : Prop := (∀ T, Short E N M T → T < 2 * lim → 2 * sumP ps + T = N + M) ∧ TwoS E N M lim ps

/-- the outer loop's relation -/
def TLoop (E : EQT) (N M lim T : Nat) (w0 w : World) (B g : Nat) (K : GK) (q : Nat) (v : Value) (wr : World) : Prop :=
  ∃ (D : Nat) (vf : Value) (rf : List LRow) (vb : Value) (rb : List LRow), v = .int .i64 (D : Int) ∧ D ≤ lim ∧ q = lim - D ∧ FS w0 w B g K vb rb wr vf rf ∧ FullF E N M rf D ∧ FullB E N M rb D ∧ 2 * D ≤ T
/-- the forward inner loop's relation -/
def TLoop2 (E : EQT) (N M D : Nat) (w0 w : World) (B g : Nat) (K : GK) (q : Nat) (v : Value) (wr : World) : Prop :=
  ∃ (i : Nat) (kk : Int) (vf : Value) (rf : List LRow) (vb : Value) (rb : List LRow), v = .int .i64 kk ∧ kk = 2 * (i : Int) - ((D : Int) + 1) ∧ 1 ≤ i ∧ i ≤ D + 1 ∧ q = D + 1 - i ∧ FS w0 w B g K vb rb wr vf rf ∧ FullF E N M rf D ∧ FullB E N M rb D ∧
    (∀ j, j ≤ D + 1 → j < i ∨ j = D + 1 → Lab rf (D + 1) j (fwd E N M (D + 1) j : Nat))
/-- the backward inner loop's relation -/
def TLoop3 (E : EQT) (N M D : Nat) (w0 w : World) (B g : Nat) (K : GK) (q : Nat) (v : Value) (wr : World) : Prop :=
  ∃ (i : Nat) (kk : Int) (vf : Value) (rf : List LRow) (vb : Value) (rb : List LRow), v = .int .i64 kk ∧ kk = 2 * (i : Int) - ((D : Int) + 1) ∧ 1 ≤ i ∧ i ≤ D + 1 ∧ q = D + 1 - i ∧ FS w0 w B g K vb rb wr vf rf ∧ FullF E N M rf (D + 1) ∧ FullB E N M rb D ∧
    (∀ j, j ≤ D + 1 → j < i ∨ j = D + 1 → Lab rb (D + 1) j ((N : Int) - (fwd (rev E N M) N M (D + 1) (D + 1 - j) : Nat)))
theorem algo_out {E : EQT} {N M lim B g df : Nat} {K : GK} {w0 w wr w9 : World} {vf vb : Value} {rf rb : List LRow} {v : Value} {ps : List Pc} (h : FS w0 w B g K vb rb wr vf rf) (ho : w9.ownsRow wr.heap.size 131 3 v ps.length (pcCells ps)) (hb : Below B wr w9) (hch : Ch E 0 0 ps N M)
    (hs : 2 * sumP ps + df = N + M) (hT : Short E N M df) (hB : B ≤ w.heap.size) (h2 : TwoS E N M lim ps) : AlgoOut E N M B (QT E N M lim) w (.returned v) w9 :=
  ⟨ps, v, rfl, own_mono ho h.gr.size, (h.gr.below hB).trans hb, hch, ⟨fun T' hT' _ => by
    have h1 := hT.least _ hT'.reach
    have h2 := hT'.least _ hT.reach
    omega, h2⟩⟩
/-- the relation of the loop that seeks a label of the second table inside at the limit -/
def BLoop3 (E : EQT) (N M lim : Nat) (k0 : Int) (w0 w : World) (B g : Nat) (K : GK) (vb : Value) (rb : List LRow) (vf : Value) (rf : List LRow) (ps : List Pc) (v : Value) (q : Nat) (v14 v20 v21 : Value) (wr : World) : Prop :=
  ∃ (i : Nat) (k14 k20 k21 : Int), v14 = .int .i64 k14 ∧ v20 = .int .i64 k20 ∧ v21 = .int .i64 k21 ∧ k21 = 2 * (i : Int) - (lim : Int) ∧ i ≤ lim + 1 ∧ q = lim + 1 - i ∧ FS w0 w B g K vb rb wr vf rf ∧ wr.ownsRow w.heap.size 131 3 v ps.length (pcCells ps) ∧ -100000 ≤ k20 ∧ k20 ≤ 40000000 ∧
    ((k20 = 33554432 ∧ ∀ j, j < i → j ≤ lim → ¬ (fwd (rev E N M) N M lim (lim - j) ≤ N ∧ fy (rev E N M) N M lim (lim - j) ≤ M)) ∨ (∃ jm, jm ≤ lim ∧ fwd (rev E N M) N M lim jm ≤ N ∧ fy (rev E N M) N M lim jm ≤ M ∧ k14 = (lim : Int) - 2 * (jm : Int))) ∧ (k14, k20) = selB E N M lim k0 i
/-- the mirrored labels at an inner diagonal -/
theorem bwd_mid (E : EQT) (N M D j A C : Nat) (h1 : 1 ≤ j) (h2 : j ≤ D) (hA : slide E N M (fwd E N M D (j - 1) + 1) (fy E N M D (j - 1)) = A) (hC : slide E N M (fwd E N M D j) (fy E N M D j + 1) = C) :
    slide E N M (if A < C then C else A) ((if A < C then C else A) + (D + 1) - 2 * j) = fwd E N M (D + 1) j ∧ 2 * j ≤ (if A < C then C else A) + (D + 1) := by
  have h := fwd_mid (E := E) (N := N) (M := M) D j A C h1 h2 hA.symm hC.symm
  have e : (if A < C then C else A) = if C < A then A else C := by
    by_cases h3 : A < C
    · rw [if_pos h3, if_neg (by omega)]
    · by_cases h4 : C < A
      · rw [if_neg h3, if_pos h4]
      · rw [if_neg h3, if_neg h4]; omega
  rw [e]
  exact h
set_option maxRecDepth 100000 in
set_option maxHeartbeats 16000000 in
theorem twosided_any {w0 w : World} {B T fP fS N M g lim : Nat} {rv vf vb : Value} {E : EQT} {K : GK} {rf rb : List LRow} (hS : SeqC w0 B T rv fP fS E N M) (hb : Below B w0 w) (hG : GSt w B g K vf vb rf rb) (hsq : K.sq = .iface T rv) (hux : K.ux = (N : Int)) (huy : K.uy = (M : Int)) (hdl : K.dl = (N : Int) - (M : Int))
    (hlim : K.lim = (lim : Int)) (hl1 : 1 ≤ lim) (hl2 : lim ≤ 2000) (hTC : TwoC E N M lim B g K w0 w) (hFC : FixC E N M) :
    Calls Tryz.prog 36 #[.pointer (some ⟨g, 0, none⟩)] w (AlgoOut E N M B (QT E N M lim) w) := by
  have hN := hS.nA
  have hM := hS.nM
  have HS := Lib.hid hS; have HSQ := Lib.hid hsq; have HUX := Lib.hid hux; have HUY := Lib.hid huy; have HDL := Lib.hid hdl; have HLIM := Lib.hid hlim; have HTC := Lib.hid hTC; have HFC := Lib.hid hFC
  have HG0 := Lib.hid hG
  have hgB := hG.hg
  have hgl := hG.blk.lt
  have hBw : B ≤ w.heap.size := by omega
  have hFS0 : FS w0 w B g K vb rb w vf rf := ⟨hG, Gr.refl _ _, hb⟩
  have HFS0 := Lib.hid hFS0
  obtain ⟨c0', _, _, c3, c4, _, c6, _, _⟩ := hG.cells
  rw [hlim] at c3
  rw [hux] at c6
  obtain ⟨TT, hTT⟩ := short_ex E N M
  have HT := Lib.hid hTT
  clear hS hsq hux huy hdl hlim hG hTC hFC hFS0 hTT c0' hb
  go_enter Tryz.func36, Tryz.ntmps36
  go_wp2_with (fail)
  refine (setFS HS.out HFS0.out HSQ.out HUX.out HUY.out (Nat.le_refl _) (Nat.le_refl _) 0 0 0 0 (by rfl) (by rfl) (by rfl) (by omega) (by omega) (Nat.zero_le _) (by omega) (Nat.le_refl _) (by rfl) (fwd E N M 0 0) rfl).mono ?_
  rintro e w1 ⟨rfl, vf1, rf1, hFS1, hl1', hk1⟩
  have HFS1 := Lib.hid hFS1
  have hF1 : FullF E N M rf1 0 := fun d j hd hj => by
    obtain rfl : d = 0 := by omega
    obtain rfl : j = 0 := by omega
    exact hl1'
  have HF1 := Lib.hid hF1
  have c6 : w1.cell? ⟨g, 6, none⟩ = some (.int .i64 K.ux) := hFS1.st.cells.2.2.2.2.2.2.1
  rw [HUX.out] at c6
  clear hFS1 hl1' hk1 hF1
  go_wp2_with (fail)
  refine (setBS HS.out HFS1.out HSQ.out HDL.out 0 0 0 0 (by rfl) (by omega) (by rfl) (by omega) (by omega) (Nat.zero_le _) (by omega) (Nat.le_refl _) (by rfl) (fwd (rev E N M) N M 0 0) rfl).mono ?_
  rintro e w2 ⟨rfl, vb1, rb1, hFS2, hl2', hk2⟩
  have HFS2 := Lib.hid hFS2
  have hB1 : FullB E N M rb1 0 := fun d j hd hj => by
    obtain rfl : d = 0 := by omega
    obtain rfl : j = 0 := by omega
    exact hl2'
  have HB1 := Lib.hid hB1
  have c3 : w2.cell? ⟨g, 3, none⟩ = some (.int .i64 K.lim) := hFS2.st.cells.2.2.2.1
  rw [HLIM.out] at c3
  clear hFS2 hl2' hk2 hB1 c4
  go_wp2
  go_loopg [41] lim (fun q v wr => TLoop E N M lim TT w0 w B g K q v wr)
  case atStart => exact ⟨0, vf1, rf1, vb1, rb1, rfl, Nat.zero_le _, rfl, HFS2.out, HF1.out, HB1.out, by omega⟩
  case round =>
    clear HFS0 HFS1 HF1 HFS2 HB1
    obtain ⟨D, vf2, rf2, vb2, rb2, rfl, hDl, hq, hFS, hF, hB, h2D⟩ := hrel
    have HQ := Lib.hid hq; have HFS2 := Lib.hid hFS; have HF := Lib.hid hF; have HB := Lib.hid hB
    have hlen : D < rf2.length := (hF D 0 (Nat.le_refl _) (Nat.zero_le _)).1
    have hlenb : D < rb2.length := (hB D 0 (Nat.le_refl _) (Nat.zero_le _)).1
    clear hq hFS hF hB
    by_cases hlt : D < lim
    · have htd := twoDone_any HFS2.out.st HUX.out HUY.out HDL.out D D (by omega) (by omega) hN hM (fun j hj => HF.out D j (Nat.le_refl _) hj) (fun j hj => HB.out D j (Nat.le_refl _) hj)
      have HTD := Lib.hid htd; clear htd
      go_wp2_with (fail)
      refine HTD.out.mono ?_
      rintro e w3 ⟨hdw, hor⟩
      have HFS3 := Lib.hid (HFS2.out.dw hdw)
      clear hdw
      rcases hor with ⟨rfl, hno⟩ | ⟨j, j', k, hov, hk, hsel, rfl⟩
      · have hT1 : 2 * D + 1 ≤ TT := by
          rcases Nat.eq_or_lt_of_le h2D with h | h
          · exfalso
            have hr := HT.out.reach
            rw [← h, show 2 * D = D + D by omega] at hr
            obtain ⟨j, j', a1, a2, a3, a4⟩ := meet hr
            exact hno j j' ⟨a1, a2, a3, a4⟩
          · exact h
        clear hno
        as_aux_lemma =>
          have hb1 := (fwd_le (E := E) (N := N) (M := M) D 0 (Nat.zero_le _)).1
          have hb2 := (fwd_le (E := E) (N := N) (M := M) D D (Nat.le_refl _)).1
          have hb3 := (fwd_le (E := E) (N := N) (M := M) D D (Nat.le_refl _)).2
          have hb4 : (fwd E N M D D : Int) + 1 - ((D : Int) + 1) = (fy E N M D D : Nat) := by
            have := fwd_ge E N M D D (Nat.le_refl _)
            unfold fy; omega
          have z1 := fwd_zero E N M D
          have z2 := fwd_last E N M D
          have Z1 := Lib.hid z1; have Z2 := Lib.hid z2; have HB4 := Lib.hid hb4; clear z1 z2 hb4
          go_wp2_with (fail)
          refine (getFS HFS3.out D 0 (fwd E N M D 0 : Nat) (by rfl) (HF.out D 0 (Nat.le_refl _) (Nat.zero_le _)) (by omega) (by omega) (by omega)).mono ?_
          rintro e w4 ⟨rfl, q3, rfl⟩
          go_wp2_with (fail)
          refine (setFS HS.out (HFS3.out.drewN q3) HSQ.out HUX.out HUY.out (Nat.le_refl _) (Nat.le_refl _) (D + 1) 0 (fwd E N M D 0) (fwd E N M D 0 + (D + 1)) (by omega) (by rfl) (by omega) (by omega) (by omega) (by omega) (by omega) (by omega) (by omega) (fwd E N M (D + 1) 0) Z1.out.symm).mono ?_
          rintro e w4 ⟨rfl, vf3, rf3, hFS4, hl3, hk3⟩
          have HFS4 := Lib.hid hFS4; have HL3 := Lib.hid hl3
          have HF3 : Hid (FullF E N M rf3 D) := Lib.hid (fun d' j' h1 h2 => hk3 d' j' _ (by omega) (HF.out d' j' h1 h2))
          have hlen3 : D + 1 < rf3.length := hl3.1
          clear hFS4 hl3 hk3
          go_wp2_with (fail)
          refine (getFS HFS4.out D D (fwd E N M D D : Nat) (by rfl) (HF3.out D D (Nat.le_refl _) (Nat.le_refl _)) (by omega) (by omega) (by omega)).mono ?_
          rintro e w5 ⟨rfl, q4, rfl⟩
          go_wp2_with (fail)
          refine (setFS HS.out (HFS4.out.drewN q4) HSQ.out HUX.out HUY.out (Nat.le_refl _) (Nat.le_refl _) (D + 1) (D + 1) (fwd E N M D D + 1) (fy E N M D D) (by omega) (by omega) (by have := HB4.out; omega) (by omega) (by omega) (by omega) (by omega) (by omega) (by omega) (fwd E N M (D + 1) (D + 1)) Z2.out.symm).mono ?_
          rintro e w5 ⟨rfl, vf4, rf4, hFS5, hl4, hk4⟩
          have HFS5 := Lib.hid hFS5; have HL4 := Lib.hid hl4
          have HF4 : Hid (FullF E N M rf4 D) := Lib.hid (fun d' j' h1 h2 => hk4 d' j' _ (by omega) (HF3.out d' j' h1 h2))
          have HL34 : Hid (Lab rf4 (D + 1) 0 (fwd E N M (D + 1) 0 : Nat)) := Lib.hid (hk4 (D + 1) 0 _ (by omega) HL3.out)
          clear hFS5 hl4 hk4
          go_wp2
          go_loopg [6] (D + 1 - 1) (fun q v wr => TLoop2 E N M D w0 w B g K q v wr)
          case atStart => exact ⟨1, -(D : Int) + 1, vf4, rf4, vb2, rb2, rfl, by omega, by omega, by omega, rfl, HFS5.out, HF4.out, HB.out, fun j h1 h2 => by
            rcases h2 with h2 | h2
            · obtain rfl : j = 0 := by omega
              exact HL34.out
            · subst h2
              exact HL4.out⟩
          case round =>
            clear HFS2 HFS3 HFS4 HFS5 HF HF3 HF4 HL3 HL4 HL34 HB HTD hlen hlenb hlen3
            obtain ⟨i, kk, vf5, rf5, vb5, rb5, rfl, hkk, hi1, hi2, hq5, hFS5, hF5, hB5, hL5⟩ := hrel
            have HKK := Lib.hid hkk; have HQ5 := Lib.hid hq5; have HFS5 := Lib.hid hFS5; have HF5 := Lib.hid hF5; have HB5 := Lib.hid hB5; have HL5 := Lib.hid hL5
            have hlen5 : D + 1 < rf5.length := (hL5 0 (by omega) (by omega)).1
            have hlenb5 : D < rb5.length := (hB5 D 0 (Nat.le_refl _) (Nat.zero_le _)).1
            have kk1 : kk ≤ 2 * (i : Int) - ((D : Int) + 1) := by omega
            have kk2 : 2 * (i : Int) - ((D : Int) + 1) ≤ kk := by omega
            clear hkk hq5 hFS5 hF5 hB5 hL5
            by_cases hiD : i ≤ D
            · have hi3 : kk ≤ (D : Int) - 1 := by omega
              have hF1 := fwd_le (E := E) (N := N) (M := M) D (i - 1) (by omega)
              have hF2 := fwd_le (E := E) (N := N) (M := M) D i hiD
              have hg1 := fwd_ge E N M D (i - 1) (by omega)
              have hg2 := fwd_ge E N M D i hiD
              have hy1 : fy E N M D (i - 1) + 2 * (i - 1) = fwd E N M D (i - 1) + D := by unfold fy; omega
              have hy2 : fy E N M D i + 2 * i = fwd E N M D i + D := by unfold fy; omega
              obtain ⟨A, hA⟩ : ∃ A, slide E N M (fwd E N M D (i - 1) + 1) (fy E N M D (i - 1)) = A := ⟨_, rfl⟩
              obtain ⟨C, hC⟩ : ∃ C, slide E N M (fwd E N M D i) (fy E N M D i + 1) = C := ⟨_, rfl⟩
              have hsA := slide_le (E := E) (N := N) (M := M) (fwd E N M D (i - 1) + 1) (fy E N M D (i - 1))
              have hsC := slide_le (E := E) (N := N) (M := M) (fwd E N M D i) (fy E N M D i + 1)
              have hgA := slide_ge E N M (fwd E N M D (i - 1) + 1) (fy E N M D (i - 1))
              have hgC := slide_ge E N M (fwd E N M D i) (fy E N M D i + 1)
              rw [hA] at hsA hgA
              rw [hC] at hsC hgC
              have hmid := fwd_mid (E := E) (N := N) (M := M) D i A C hi1 hiD hA.symm hC.symm
              have HA := Lib.hid hA; have HC := Lib.hid hC; have HMID := Lib.hid hmid
              generalize hf1 : fwd E N M D (i - 1) = F1 at *
              generalize hf2 : fwd E N M D i = F2 at *
              generalize hyy1 : fy E N M D (i - 1) = Y1 at *
              generalize hyy2 : fy E N M D i = Y2 at *
              have hl1 : Lab rf5 D (i - 1) (F1 : Nat) := by rw [← hf1]; exact HF5.out D (i - 1) (Nat.le_refl _) (by omega)
              have hl2 : Lab rf5 D i (F2 : Nat) := by rw [← hf2]; exact HF5.out D i (Nat.le_refl _) hiD
              have HL1 := Lib.hid hl1; have HL2 := Lib.hid hl2
              have q1 : (Y1 : Int) + 2 * (i : Int) ≤ (F1 : Int) + (D : Int) + 2 := by omega
              have q2 : (F1 : Int) + (D : Int) + 2 ≤ (Y1 : Int) + 2 * (i : Int) := by omega
              have q3 : (Y2 : Int) + 2 * (i : Int) ≤ (F2 : Int) + (D : Int) := by omega
              have q4 : (F2 : Int) + (D : Int) ≤ (Y2 : Int) + 2 * (i : Int) := by omega
              have q5 : A ≤ 1100000 := by omega
              have q6 : C ≤ 1100000 := by omega
              clear hA hC hmid hf1 hf2 hyy1 hyy2 hl1 hl2 hy1 hy2 hsA hsC
              go_wp2_with (fail)
              refine (getFS HFS5.out D (i - 1) (F1 : Nat) (by rfl) HL1.out (by omega) (by omega) (by omega)).mono ?_
              rintro e w6 ⟨rfl, q6', rfl⟩
              go_wp2_with (fail)
              refine (lookFS HS.out (HFS5.out.drewN q6') HSQ.out HUX.out HUY.out (Nat.le_refl _) (Nat.le_refl _) (F1 + 1) Y1 (by omega) (by omega) (by omega) (by omega) A HA.out).mono ?_
              rintro e w6 ⟨rfl, hb6⟩
              have HFS6 := Lib.hid ((HFS5.out.drewN q6').below hb6); clear hb6
              go_wp2_with (fail)
              refine (getFS HFS6.out D i (F2 : Nat) (by rfl) HL2.out (by omega) (by omega) (by omega)).mono ?_
              rintro e w7 ⟨rfl, q7', rfl⟩
              go_wp2_with (fail)
              refine (lookFS HS.out (HFS6.out.drewN q7') HSQ.out HUX.out HUY.out (Nat.le_refl _) (Nat.le_refl _) F2 (Y2 + 1) (by omega) (by omega) (by omega) (by omega) C HC.out).mono ?_
              rintro e w7 ⟨rfl, hb7⟩
              have HFS7 := Lib.hid ((HFS6.out.drewN q7').below hb7); clear hb7
              by_cases hAC : C < A
              · have hm := HMID.out
                rw [if_pos hAC] at hm
                obtain ⟨hm1, hm2⟩ := hm
                have HM1 := Lib.hid hm1; clear hm1
                have hAC' : (C : Int) < (A : Int) := by omega
                as_aux_lemma =>
                  go_wp2_with (fail)
                  refine (setFS HS.out HFS7.out HSQ.out HUX.out HUY.out (Nat.le_refl _) (Nat.le_refl _) (D + 1) i A (A + (D + 1) - 2 * i) (by omega) (by rfl) (by omega) (by omega) (by omega) (by omega) (by omega) (by omega) (by omega) (fwd E N M (D + 1) i) HM1.out).mono ?_
                  rintro e w8 ⟨rfl, vf8, rf8, hFS8, hl8, hk8⟩
                  have HFS8 := Lib.hid hFS8; have HL8 := Lib.hid hl8
                  have HF8 : Hid (FullF E N M rf8 D) := Lib.hid (fun d' j' h1 h2 => hk8 d' j' _ (by omega) (HF5.out d' j' h1 h2))
                  have HLL8 : Hid (∀ j, j ≤ D + 1 → j < i ∨ j = D + 1 → Lab rf8 (D + 1) j (fwd E N M (D + 1) j : Nat)) := Lib.hid (fun j' h1 h2 => hk8 (D + 1) j' _ (by omega) (HL5.out j' h1 h2))
                  clear hFS8 hl8 hk8
                  go_wp2
                  go_roundg (D + 1 - (i + 1))
                  case measure => have := HQ5.out; omega
                  case rel =>
                    exact ⟨i + 1, kk + 2, vf8, rf8, vb5, rb5, by rfl, by omega, by omega, by omega, rfl, HFS8.out, HF8.out, HB5.out, fun j h1 h2 => by
                      by_cases hj : j = i
                      · subst hj; exact HL8.out
                      · exact HLL8.out j h1 (by omega)⟩
              · have hm := HMID.out
                rw [if_neg hAC] at hm
                obtain ⟨hm1, hm2⟩ := hm
                have HM1 := Lib.hid hm1; clear hm1
                have hAC' : ¬ (C : Int) < (A : Int) := by omega
                as_aux_lemma =>
                  go_wp2_with (fail)
                  refine (setFS HS.out HFS7.out HSQ.out HUX.out HUY.out (Nat.le_refl _) (Nat.le_refl _) (D + 1) i C (C + (D + 1) - 2 * i) (by omega) (by rfl) (by omega) (by omega) (by omega) (by omega) (by omega) (by omega) (by omega) (fwd E N M (D + 1) i) HM1.out).mono ?_
                  rintro e w8 ⟨rfl, vf8, rf8, hFS8, hl8, hk8⟩
                  have HFS8 := Lib.hid hFS8; have HL8 := Lib.hid hl8
                  have HF8 : Hid (FullF E N M rf8 D) := Lib.hid (fun d' j' h1 h2 => hk8 d' j' _ (by omega) (HF5.out d' j' h1 h2))
                  have HLL8 : Hid (∀ j, j ≤ D + 1 → j < i ∨ j = D + 1 → Lab rf8 (D + 1) j (fwd E N M (D + 1) j : Nat)) := Lib.hid (fun j' h1 h2 => hk8 (D + 1) j' _ (by omega) (HL5.out j' h1 h2))
                  clear hFS8 hl8 hk8
                  go_wp2
                  go_roundg (D + 1 - (i + 1))
                  case measure => have := HQ5.out; omega
                  case rel =>
                    exact ⟨i + 1, kk + 2, vf8, rf8, vb5, rb5, by rfl, by omega, by omega, by omega, rfl, HFS8.out, HF8.out, HB5.out, fun j h1 h2 => by
                      by_cases hj : j = i
                      · subst hj; exact HL8.out
                      · exact HLL8.out j h1 (by omega)⟩
            · have hi3 : ¬ kk ≤ (D : Int) - 1 := by omega
              have hF6 : FullF E N M rf5 (D + 1) := fun d j h1 h2 => by
                by_cases hd : d ≤ D
                · exact HF5.out d j hd h2
                · obtain rfl : d = D + 1 := by omega
                  exact HL5.out j h2 (by omega)
              have HF6 := Lib.hid hF6
              have htd := twoDone_any HFS5.out.st HUX.out HUY.out HDL.out (D + 1) D (by omega) (by omega) hN hM (fun j hj => hF6 (D + 1) j (Nat.le_refl _) hj) (fun j hj => HB5.out D j (Nat.le_refl _) hj)
              rw [show ((D + 1 : Nat) : Int) = (D : Int) + 1 by omega] at htd
              have HTD := Lib.hid htd; clear htd hF6
              go_wp2_with (fail)
              refine HTD.out.mono ?_
              rintro e w3 ⟨hdw, hor⟩
              have HFS6 := Lib.hid (HFS5.out.dw hdw)
              clear hdw
              rcases hor with ⟨rfl, hno⟩ | ⟨j, j', k, hov, hk, hsel, rfl⟩
              · have hT2 : 2 * (D + 1) ≤ TT := by
                  rcases Nat.eq_or_lt_of_le hT1 with h | h
                  · exfalso
                    have hr := HT.out.reach
                    rw [← h, show 2 * D + 1 = D + 1 + D by omega] at hr
                    obtain ⟨j, j', a1, a2, a3, a4⟩ := meet hr
                    exact hno j j' ⟨a1, a2, a3, a4⟩
                  · omega
                clear hno
                as_aux_lemma =>
                  have hb1 := (fwd_le (E := rev E N M) (N := N) (M := M) D 0 (Nat.zero_le _)).1
                  have hb2 := (fwd_le (E := rev E N M) (N := N) (M := M) D D (Nat.le_refl _)).1
                  have hb3 := (fwd_le (E := rev E N M) (N := N) (M := M) D D (Nat.le_refl _)).2
                  have hb4 : (fwd (rev E N M) N M D D : Int) + 1 - ((D : Int) + 1) = (fy (rev E N M) N M D D : Nat) := by
                    have := fwd_ge (rev E N M) N M D D (Nat.le_refl _)
                    unfold fy; omega
                  have z1 := fwd_zero (rev E N M) N M D
                  have z2 := fwd_last (rev E N M) N M D
                  have Z1 := Lib.hid z1; have Z2 := Lib.hid z2; have HB4 := Lib.hid hb4; clear z1 z2 hb4
                  have hlD := HB5.out D D (Nat.le_refl _) (Nat.le_refl _)
                  have hl0 := HB5.out D 0 (Nat.le_refl _) (Nat.zero_le _)
                  rw [Nat.sub_self] at hlD
                  rw [Nat.sub_zero] at hl0
                  have HLD := Lib.hid hlD; have HL0 := Lib.hid hl0; clear hlD hl0
                  obtain ⟨FD, hFD⟩ : ∃ F, fwd (rev E N M) N M D D = F := ⟨_, rfl⟩
                  obtain ⟨F0, hF0⟩ : ∃ F, fwd (rev E N M) N M D 0 = F := ⟨_, rfl⟩
                  rw [hFD] at HLD Z2 HB4 hb2
                  rw [hF0] at HL0 Z1 hb1
                  clear hFD hF0
                  go_wp2_with (fail)
                  refine (getBS HFS6.out D 0 ((N : Int) - (FD : Int)) (by rfl) HLD.out (by omega) (by omega) (by omega)).mono ?_
                  rintro e w4 ⟨rfl, q3, rfl⟩
                  go_wp2_with (fail)
                  refine (setBS HS.out (HFS6.out.drewN q3) HSQ.out HDL.out (D + 1) 0 (FD + 1) (fy (rev E N M) N M D D) (by omega) (by omega) (by have := HB4.out; omega) (by omega) (by omega) (by omega) (by omega) (by omega) (by omega) (fwd (rev E N M) N M (D + 1) (D + 1)) Z2.out.symm).mono ?_
                  rintro e w4 ⟨rfl, vb6, rb6, hFS7, hl3, hk3⟩
                  have HFS7 := Lib.hid hFS7; have HL3 := Lib.hid hl3
                  have HB6 : Hid (FullB E N M rb6 D) := Lib.hid (fun d' j' h1 h2 => hk3 d' (d' - j') _ (by omega) (HB5.out d' j' h1 h2))
                  have HL06 : Hid (Lab rb6 D D ((N : Int) - (F0 : Int))) := Lib.hid (hk3 D D _ (by omega) HL0.out)
                  have hlen3 : D + 1 < rb6.length := hl3.1
                  clear hFS7 hl3 hk3
                  go_wp2_with (fail)
                  refine (getBS HFS7.out D D ((N : Int) - (F0 : Int)) (by rfl) HL06.out (by omega) (by omega) (by omega)).mono ?_
                  rintro e w5 ⟨rfl, q4, rfl⟩
                  go_wp2_with (fail)
                  refine (setBS HS.out (HFS7.out.drewN q4) HSQ.out HDL.out (D + 1) (D + 1) F0 (F0 + (D + 1)) (by omega) (by omega) (by omega) (by omega) (by omega) (by omega) (by omega) (by omega) (by omega) (fwd (rev E N M) N M (D + 1) 0) Z1.out.symm).mono ?_
                  rintro e w5 ⟨rfl, vb7, rb7, hFS8, hl4, hk4⟩
                  have HFS8 := Lib.hid hFS8; have HL4 := Lib.hid hl4
                  have HB7 : Hid (FullB E N M rb7 D) := Lib.hid (fun d' j' h1 h2 => hk4 d' (d' - j') _ (by omega) (HB6.out d' j' h1 h2))
                  have HL34 : Hid (Lab rb7 (D + 1) 0 ((N : Int) - (fwd (rev E N M) N M (D + 1) (D + 1) : Nat))) := Lib.hid (hk4 (D + 1) 0 _ (by omega) HL3.out)
                  clear hFS8 hl4 hk4
                  go_wp2
                  go_loopg [11] (D + 1 - 1) (fun q v wr => TLoop3 E N M D w0 w B g K q v wr)
                  case atStart => exact ⟨1, -(D : Int) + 1, vf5, rf5, vb7, rb7, rfl, by omega, by omega, by omega, rfl, HFS8.out, HF6.out, HB7.out, fun j h1 h2 => by
                    rcases h2 with h2 | h2
                    · obtain rfl : j = 0 := by omega
                      exact HL34.out
                    · subst h2
                      rw [Nat.sub_self]
                      exact HL4.out⟩
                  case round =>
                    clear HFS5 HFS6 HFS7 HFS8 HF5 HF6 HB5 HB6 HB7 HL3 HL4 HL34 HL06 HL0 HLD HL5 HTD hlen5 hlenb5 hlen3 HKK HQ5
                    obtain ⟨i, kk, vf5, rf5, vb5, rb5, rfl, hkk, hi1, hi2, hq5, hFS5, hF5, hB5, hL5⟩ := hrel
                    have HKK := Lib.hid hkk; have HQ5 := Lib.hid hq5; have HFS5 := Lib.hid hFS5; have HF5 := Lib.hid hF5; have HB5 := Lib.hid hB5; have HL5 := Lib.hid hL5
                    have hlen5 : D + 1 < rb5.length := (hL5 0 (by omega) (by omega)).1
                    have kk1 : kk ≤ 2 * (i : Int) - ((D : Int) + 1) := by omega
                    have kk2 : 2 * (i : Int) - ((D : Int) + 1) ≤ kk := by omega
                    clear hkk hq5 hFS5 hF5 hB5 hL5
                    by_cases hiD : i ≤ D
                    · have hi3 : kk ≤ (D : Int) - 1 := by omega
                      obtain ⟨m, F1, F2, Y1, Y2, A, C, hpre⟩ := bwd_pre HB5.out hi1 hiD hN hM (by omega) (fun m A C a1 a2 a3 a4 => bwd_mid (rev E N M) N M D m A C a1 a2 a3 a4)
                      have HPRE := Lib.hid hpre
                      have hm1 := hpre.m1
                      have hm2 := hpre.m2
                      have hm0 := hpre.m0
                      have hmi : (m : Int) + (i : Int) ≤ (D : Int) + 1 := by omega
                      have hmi2 : (D : Int) + 1 ≤ (m : Int) + (i : Int) := by omega
                      have HMI := Lib.hid hm0; clear hm0
                      have HL1 := Lib.hid hpre.l1; have HL2 := Lib.hid hpre.l2; have HA := Lib.hid hpre.a; have HC := Lib.hid hpre.c; have HMID := Lib.hid hpre.mid
                      have y1 := hpre.y1
                      have y2 := hpre.y2
                      have q1 : (Y1 : Int) + 2 * (m : Int) ≤ (F1 : Int) + (D : Int) + 2 := by omega
                      have q2 : (F1 : Int) + (D : Int) + 2 ≤ (Y1 : Int) + 2 * (m : Int) := by omega
                      have q3 : (Y2 : Int) + 2 * (m : Int) ≤ (F2 : Int) + (D : Int) := by omega
                      have q4 : (F2 : Int) + (D : Int) ≤ (Y2 : Int) + 2 * (m : Int) := by omega
                      have q5 := hpre.ba
                      have q6 := hpre.bc
                      have q7 := hpre.f1
                      have q8 := hpre.f2
                      have q9 := hpre.yb1
                      have q10 := hpre.yb2
                      clear y1 y2 hpre
                      go_wp2_with (fail)
                      refine (getBS HFS5.out D (i - 1) ((N : Int) - (F2 : Int)) (by rfl) HL2.out (by omega) (by omega) (by omega)).mono ?_
                      rintro e w6 ⟨rfl, q6', rfl⟩
                      go_wp2_with (fail)
                      refine (lookBS HS.out (HFS5.out.drewN q6') HSQ.out HDL.out F2 (Y2 + 1) (by rfl) (by omega) (by omega) (by omega) (by omega) C HC.out).mono ?_
                      rintro e w6 ⟨rfl, hb6⟩
                      have HFS6 := Lib.hid ((HFS5.out.drewN q6').below hb6); clear hb6
                      go_wp2_with (fail)
                      refine (getBS HFS6.out D i ((N : Int) - (F1 : Int)) (by rfl) HL1.out (by omega) (by omega) (by omega)).mono ?_
                      rintro e w7 ⟨rfl, q7', rfl⟩
                      go_wp2_with (fail)
                      refine (lookBS HS.out (HFS6.out.drewN q7') HSQ.out HDL.out (F1 + 1) Y1 (by omega) (by omega) (by omega) (by omega) (by omega) A HA.out).mono ?_
                      rintro e w7 ⟨rfl, hb7⟩
                      have HFS7 := Lib.hid ((HFS6.out.drewN q7').below hb7); clear hb7
                      by_cases hAC : A < C
                      · have hm := HMID.out
                        rw [if_pos hAC] at hm
                        obtain ⟨hm3, hm4⟩ := hm
                        have HM1 := Lib.hid hm3; clear hm3
                        have hAC' : (N : Int) - (C : Int) < (N : Int) - (A : Int) := by omega
                        as_aux_lemma =>
                          go_wp2_with (fail)
                          refine (setBS HS.out HFS7.out HSQ.out HDL.out (D + 1) i C (C + (D + 1) - 2 * m) (by omega) (by rfl) (by omega) (by omega) (by omega) (by omega) (by omega) (by omega) (by omega) (fwd (rev E N M) N M (D + 1) m) HM1.out).mono ?_
                          rintro e w8 ⟨rfl, vb8, rb8, hFS8, hl8, hk8⟩
                          have HFS8 := Lib.hid hFS8; have HL8 := Lib.hid hl8
                          have HB8 : Hid (FullB E N M rb8 D) := Lib.hid (fun d' j' h1 h2 => hk8 d' (d' - j') _ (by omega) (HB5.out d' j' h1 h2))
                          have HLL8 : Hid (∀ j, j ≤ D + 1 → j < i ∨ j = D + 1 → Lab rb8 (D + 1) j ((N : Int) - (fwd (rev E N M) N M (D + 1) (D + 1 - j) : Nat))) := Lib.hid (fun j' h1 h2 => hk8 (D + 1) j' _ (by omega) (HL5.out j' h1 h2))
                          clear hFS8 hl8 hk8
                          go_wp2
                          go_roundg (D + 1 - (i + 1))
                          case measure => have := HQ5.out; omega
                          case rel =>
                            exact ⟨i + 1, kk + 2, vf5, rf5, vb8, rb8, by rfl, by omega, by omega, by omega, rfl, HFS8.out, HF5.out, HB8.out, fun j h1 h2 => by
                              by_cases hj : j = i
                              · have h5 := HL8.out
                                rw [HMI.out, ← hj] at h5
                                exact h5
                              · exact HLL8.out j h1 (by omega)⟩
                      · have hm := HMID.out
                        rw [if_neg hAC] at hm
                        obtain ⟨hm3, hm4⟩ := hm
                        have HM1 := Lib.hid hm3; clear hm3
                        have hAC' : ¬ (N : Int) - (C : Int) < (N : Int) - (A : Int) := by omega
                        as_aux_lemma =>
                          go_wp2_with (fail)
                          refine (setBS HS.out HFS7.out HSQ.out HDL.out (D + 1) i A (A + (D + 1) - 2 * m) (by omega) (by rfl) (by omega) (by omega) (by omega) (by omega) (by omega) (by omega) (by omega) (fwd (rev E N M) N M (D + 1) m) HM1.out).mono ?_
                          rintro e w8 ⟨rfl, vb8, rb8, hFS8, hl8, hk8⟩
                          have HFS8 := Lib.hid hFS8; have HL8 := Lib.hid hl8
                          have HB8 : Hid (FullB E N M rb8 D) := Lib.hid (fun d' j' h1 h2 => hk8 d' (d' - j') _ (by omega) (HB5.out d' j' h1 h2))
                          have HLL8 : Hid (∀ j, j ≤ D + 1 → j < i ∨ j = D + 1 → Lab rb8 (D + 1) j ((N : Int) - (fwd (rev E N M) N M (D + 1) (D + 1 - j) : Nat))) := Lib.hid (fun j' h1 h2 => hk8 (D + 1) j' _ (by omega) (HL5.out j' h1 h2))
                          clear hFS8 hl8 hk8
                          go_wp2
                          go_roundg (D + 1 - (i + 1))
                          case measure => have := HQ5.out; omega
                          case rel =>
                            exact ⟨i + 1, kk + 2, vf5, rf5, vb8, rb8, by rfl, by omega, by omega, by omega, rfl, HFS8.out, HF5.out, HB8.out, fun j h1 h2 => by
                              by_cases hj : j = i
                              · have h5 := HL8.out
                                rw [HMI.out, ← hj] at h5
                                exact h5
                              · exact HLL8.out j h1 (by omega)⟩
                    · have hi3 : ¬ kk ≤ (D : Int) - 1 := by omega
                      go_wp2
                      go_roundg (lim - (D + 1))
                      case measure => have := HQ.out; omega
                      case rel =>
                        refine ⟨D + 1, vf5, rf5, vb5, rb5, by rfl, by omega, rfl, HFS5.out, HF5.out, fun d j h1 h2 => ?_, hT2⟩
                        by_cases hd : d ≤ D
                        · exact HB5.out d j hd h2
                        · obtain rfl : d = D + 1 := by omega
                          have h5 := HL5.out (D + 1 - j) (by omega) (by omega)
                          rw [show D + 1 - (D + 1 - j) = j by omega] at h5
                          exact h5
              · have hTe : TT = D + 1 + D := by
                  have := HT.out.hit hov.1 hov.2.1 hov.2.2.1 hov.2.2.2
                  omega
                have hsh : Short E N M (D + 1 + D) := by have := HT.out; rw [hTe] at this; exact this
                have HSH := Lib.hid hsh
                have htl := HTC.out w3 vf5 rf5 vb5 rb5 (D + 1) D j j' k HFS6.out HF6.out HB5.out hov hk hsel hsh (by omega) (by omega)
                rw [show ((D + 1 : Nat) : Int) = (D : Int) + 1 by omega] at htl
                have HTL := Lib.hid htl
                have HOV := Lib.hid hov; have HSEL := Lib.hid hsel
                clear hTe hsh htl hov hk hsel
                go_wp2_with (fail)
                refine HTL.out.mono ?_
                rintro e w9 ⟨ps, v9, rfl, ho9, hb9, hch9, hs9⟩
                have HO9 := Lib.hid ho9; have HB9 := Lib.hid hb9; have HCH9 := Lib.hid hch9; have HS9 := Lib.hid hs9
                clear ho9 hb9 hch9 hs9
                go_wp2
                go_ret
                exact algo_out HFS6.out HO9.out HB9.out HCH9.out HS9.out.1 HSH.out hBw (TwoS.of HSH.out (by omega) (by omega) (by omega) HOV.out HSEL.out HS9.out.2)
      · have hTe : TT = D + D := by
          have := HT.out.hit hov.1 hov.2.1 hov.2.2.1 hov.2.2.2
          omega
        have hsh : Short E N M (D + D) := by have := HT.out; rw [hTe] at this; exact this
        have HSH := Lib.hid hsh
        have htl := HTC.out w3 vf2 rf2 vb2 rb2 D D j j' k HFS3.out HF.out HB.out hov hk hsel hsh (by omega) (by omega)
        have HTL := Lib.hid htl
        have HOV := Lib.hid hov; have HSEL := Lib.hid hsel
        clear hTe hsh htl hov hk hsel
        go_wp2_with (fail)
        refine HTL.out.mono ?_
        rintro e w9 ⟨ps, v9, rfl, ho9, hb9, hch9, hs9⟩
        have HO9 := Lib.hid ho9; have HB9 := Lib.hid hb9; have HCH9 := Lib.hid hch9; have HS9 := Lib.hid hs9
        clear ho9 hb9 hch9 hs9
        go_wp2
        go_ret
        exact algo_out HFS3.out HO9.out HB9.out HCH9.out HS9.out.1 HSH.out hBw (TwoS.of HSH.out (by omega) (by omega) (by omega) HOV.out HSEL.out HS9.out.2)
    · as_aux_lemma =>
        have hDe : D = lim := by omega
        have hF' : FullF E N M rf2 lim := by have := HF.out; rw [hDe] at this; exact this
        have hB' : FullB E N M rb2 lim := by have := HB.out; rw [hDe] at this; exact this
        have hTl : lim < TT := by omega
        have hT2 : 2 * lim ≤ TT := by omega
        have HF' := Lib.hid hF'; have HB' := Lib.hid hB'
        clear hDe hF' hB' HF HB
        have c3 : wr.cell? ⟨g, 3, none⟩ = some (.int .i64 K.lim) := HFS2.out.st.cells.2.2.2.1
        rw [HLIM.out] at c3
        go_wp2
        go_loopg [14, 15, 16] (lim + 1) (fun q v14 v15 v16 wr => FLoop3 E N M lim w0 w B g K vb2 rb2 vf2 rf2 q v14 v15 v16 wr)
        case atStart => exact ⟨0, _, _, _, rfl, rfl, rfl, by omega, by omega, rfl, HFS2.out, by omega, by omega, .inl ⟨rfl, fun j h => by omega⟩, by first | rfl | (simp only [selF])⟩
        case round =>
          obtain ⟨i, k15, k16, k17, rfl, rfl, rfl, hk17, hi, hq5, hFS5, hk16a, hk16b, hor, hsl⟩ := hrel
          have HSL := Lib.hid hsl; clear hsl
          have HQ5 := Lib.hid hq5; have HFS5 := Lib.hid hFS5; have HOR := Lib.hid hor
          have k1 : k17 ≤ 2 * (i : Int) - (lim : Int) := by omega
          have k2 : 2 * (i : Int) - (lim : Int) ≤ k17 := by omega
          obtain ⟨_, _, _, c3, _, _, c6, c7, _⟩ := hFS5.st.cells
          rw [HLIM.out] at c3
          rw [HUX.out] at c6
          rw [HUY.out] at c7
          have hgl5 := hFS5.st.blk.lt
          clear hk17 hq5 hFS5 hor
          by_cases hil : i ≤ lim
          · have k3 : k17 ≤ (lim : Int) := by omega
            have hF1 := fwd_le (E := E) (N := N) (M := M) lim i hil
            have hg1 := fwd_ge E N M lim i hil
            have hfy : fy E N M lim i + 2 * i = fwd E N M lim i + lim := by unfold fy; omega
            have hl := HF'.out lim i (Nat.le_refl _) hil
            have HL := Lib.hid hl
            obtain ⟨X, hX⟩ : ∃ X, fwd E N M lim i = X := ⟨_, rfl⟩
            obtain ⟨Y, hY⟩ : ∃ Y, fy E N M lim i = Y := ⟨_, rfl⟩
            rw [hX] at hF1 hfy HL
            rw [hY] at hF1 hfy
            have HX := Lib.hid hX; have HY := Lib.hid hY
            clear hl hX hY
            have wy : IntKind.i64.wrap ((X : Int) - k17) = (Y : Int) := by rw [show (X : Int) - k17 = (Y : Int) by omega]; exact IntWalk.i64_in _ (by omega)
            have x1 : X ≤ 1100000 := by omega
            have x2 : Y ≤ 1100000 := by omega
            clear hF1 hg1 hfy
            as_aux_lemma =>
              by_cases t1 : k16 < (X : Int) + (Y : Int)
              · by_cases t2 : X ≤ N
                · have t2' : (X : Int) ≤ (N : Int) := by omega
                  by_cases t3 : Y ≤ M
                  · have t3' : (Y : Int) ≤ (M : Int) := by omega
                    go_wp2_with (fail)
                    refine (getFS HFS5.out lim i (X : Nat) (by rfl) HL.out (by omega) (by omega) hil).mono ?_
                    rintro e w6 ⟨rfl, q6, rfl⟩
                    go_wp2
                    go_roundg (lim + 1 - (i + 1))
                    case measure => have := HQ5.out; omega
                    case rel => exact ⟨i + 1, k17, (X : Int) + (Y : Int), k17 + 2, rfl, rfl, rfl, by omega, by omega, rfl, HFS5.out.drewN _, by omega, by omega, .inr ⟨i, hil, by rw [HX.out]; exact t2, by rw [HY.out]; exact t3, by omega⟩, selF_yes HSL.out HX.out HY.out t1 t2 t3 (by omega)⟩
                  · have t3' : ¬ (Y : Int) ≤ (M : Int) := by omega
                    go_wp2_with (fail)
                    refine (getFS HFS5.out lim i (X : Nat) (by rfl) HL.out (by omega) (by omega) hil).mono ?_
                    rintro e w6 ⟨rfl, q6, rfl⟩
                    go_wp2
                    go_roundg (lim + 1 - (i + 1))
                    case measure => have := HQ5.out; omega
                    case rel => exact ⟨i + 1, k15, k16, k17 + 2, rfl, rfl, rfl, by omega, by omega, rfl, HFS5.out.drewN _, by omega, by omega, (by
                      rcases HOR.out with ⟨h1, h2⟩ | h1
                      · refine .inl ⟨h1, fun j hj hin => ?_⟩
                        by_cases hji : j = i
                        · subst hji
                          rw [HX.out, HY.out] at hin
                          omega
                        · exact h2 j (by omega) hin
                      · exact .inr h1), selF_no HSL.out HX.out HY.out (by omega)⟩
                · have t2' : ¬ (X : Int) ≤ (N : Int) := by omega
                  go_wp2_with (fail)
                  refine (getFS HFS5.out lim i (X : Nat) (by rfl) HL.out (by omega) (by omega) hil).mono ?_
                  rintro e w6 ⟨rfl, q6, rfl⟩
                  go_wp2
                  go_roundg (lim + 1 - (i + 1))
                  case measure => have := HQ5.out; omega
                  case rel => exact ⟨i + 1, k15, k16, k17 + 2, rfl, rfl, rfl, by omega, by omega, rfl, HFS5.out.drewN _, by omega, by omega, (by
                    rcases HOR.out with ⟨h1, h2⟩ | h1
                    · refine .inl ⟨h1, fun j hj hin => ?_⟩
                      by_cases hji : j = i
                      · subst hji
                        rw [HX.out, HY.out] at hin
                        omega
                      · exact h2 j (by omega) hin
                    · exact .inr h1), selF_no HSL.out HX.out HY.out (by omega)⟩
              · go_wp2_with (fail)
                refine (getFS HFS5.out lim i (X : Nat) (by rfl) HL.out (by omega) (by omega) hil).mono ?_
                rintro e w6 ⟨rfl, q6, rfl⟩
                go_wp2
                go_roundg (lim + 1 - (i + 1))
                case measure => have := HQ5.out; omega
                case rel => exact ⟨i + 1, k15, k16, k17 + 2, rfl, rfl, rfl, by omega, by omega, rfl, HFS5.out.drewN _, by omega, by omega, (by
                  rcases HOR.out with ⟨h1, h2⟩ | h1
                  · refine .inl ⟨h1, fun j hj hin => ?_⟩
                    by_cases hji : j = i
                    · subst hji
                      rw [HX.out, HY.out] at hin
                      omega
                    · exact h2 j (by omega) hin
                  · exact .inr h1), selF_no HSL.out HX.out HY.out (by omega)⟩
          · have k3 : ¬ k17 ≤ (lim : Int) := by omega
            have hfound : ∃ jm, jm ≤ lim ∧ fwd E N M lim jm ≤ N ∧ fy E N M lim jm ≤ M ∧ k15 = 2 * (jm : Int) - (lim : Int) := by
              rcases HOR.out with ⟨h1, h2⟩ | h1
              · exfalso
                obtain ⟨j, h3, h4⟩ := HT.out.some_inside hTl
                exact h2 j (by omega) h4
              · exact h1
            obtain ⟨jm, hjm, hm1, hm2, hm3⟩ := hfound
            have hk15 : ¬ k15 < -(lim : Int) := by omega
            have hil1 : i = lim + 1 := by omega
            have hsl := HSL.out
            rw [hil1] at hsl
            have HM3 := Lib.hid hm3; have HSL1 := Lib.hid hsl
            clear hil1 hsl
            have hlc := fwdlcs_any HFS5.out.st lim jm k15 (by omega) hjm hm3 hN hM (by omega) (by omega) (fun d' i' h h2 => HF'.out d' i' (by omega) h2) (HF'.out lim jm (Nat.le_refl _) hjm)
            have HLC := Lib.hid hlc
            clear hlc hm3
            as_aux_lemma =>
              go_wp2_with (fail)
              refine HLC.out.mono ?_
              rintro e w6 ⟨ps, ⟨v, rfl, ho, hb6⟩, hch, hs⟩
              have HFE := Lib.hid hs.2
              have HO := Lib.hid (own_mono ho HFS5.out.gr.size); have HB6 := Lib.hid hb6; have HCH := Lib.hid (hch.hi hm1 hm2)
              have HFS6 := Lib.hid (HFS5.out.below hb6)
              have hlps := ch_len hch
              have hpl : ps.length ≤ 1000001 := by omega
              clear ho hb6 hch hs hlps
              obtain ⟨_, _, _, c3, _, _, c6, c7, c8⟩ := HFS6.out.st.cells
              rw [HLIM.out] at c3
              go_wp2
              go_loopg [14, 20, 21] (lim + 1) (fun q v14 v20 v21 wq => BLoop3 E N M lim k15 w0 w B g K vb2 rb2 vf2 rf2 ps v q v14 v20 v21 wq)
              case atStart => exact ⟨0, _, _, _, rfl, rfl, rfl, by omega, by omega, rfl, HFS6.out, HO.out, by omega, by omega, .inl ⟨rfl, fun j h => by omega⟩, by rfl⟩
              case round =>
                clear HO HFS6 HB6
                obtain ⟨i2, m14, m20, m21, rfl, rfl, rfl, hm21, hi2, hq6, hFS7, hO7, hm20a, hm20b, hor2, hsb⟩ := hrel
                have HSB := Lib.hid hsb; clear hsb
                have HQ6 := Lib.hid hq6; have HFS7 := Lib.hid hFS7; have HO7 := Lib.hid hO7; have HOR2 := Lib.hid hor2
                have n1 : m21 ≤ 2 * (i2 : Int) - (lim : Int) := by omega
                have n2 : 2 * (i2 : Int) - (lim : Int) ≤ m21 := by omega
                obtain ⟨_, _, _, c3, _, _, c6, c7, c8⟩ := hFS7.st.cells
                obtain ⟨dl, hdl⟩ : ∃ dl, K.dl = dl := ⟨_, rfl⟩
                rw [HLIM.out] at c3
                rw [hdl] at c8
                have dl1 : dl ≤ (N : Int) - (M : Int) := by have := HDL.out; omega
                have dl2 : (N : Int) - (M : Int) ≤ dl := by have := HDL.out; omega
                clear hm21 hq6 hFS7 hO7 hor2 hdl
                by_cases hil2 : i2 ≤ lim
                · have n3 : m21 ≤ (lim : Int) := by omega
                  have hjl : lim - i2 ≤ lim := by omega
                  have hF1 := fwd_le (E := rev E N M) (N := N) (M := M) lim (lim - i2) hjl
                  have hg1 := fwd_ge (rev E N M) N M lim (lim - i2) hjl
                  have hfy : fy (rev E N M) N M lim (lim - i2) + 2 * (lim - i2) = fwd (rev E N M) N M lim (lim - i2) + lim := by unfold fy; omega
                  have hl := HB'.out lim (lim - i2) (Nat.le_refl _) hjl
                  rw [show lim - (lim - i2) = i2 by omega] at hl
                  have HL := Lib.hid hl
                  obtain ⟨X, hX⟩ : ∃ X, fwd (rev E N M) N M lim (lim - i2) = X := ⟨_, rfl⟩
                  obtain ⟨Y, hY⟩ : ∃ Y, fy (rev E N M) N M lim (lim - i2) = Y := ⟨_, rfl⟩
                  rw [hX] at hF1 hfy HL
                  rw [hY] at hF1 hfy
                  have HX := Lib.hid hX; have HY := Lib.hid hY
                  obtain ⟨u, hu⟩ : ∃ u, (N : Int) - (X : Int) = u := ⟨_, rfl⟩
                  obtain ⟨y, hy⟩ : ∃ y, (M : Int) - (Y : Int) = y := ⟨_, rfl⟩
                  rw [hu] at HL
                  obtain ⟨kd, hkd⟩ : ∃ kd, m21 + dl = kd := ⟨_, rfl⟩
                  have wkd : IntKind.i64.wrap (m21 + dl) = kd := by rw [hkd]; exact IntWalk.i64_in _ (by omega)
                  have wy : IntKind.i64.wrap (u - kd) = y := by rw [show u - kd = y by omega]; exact IntWalk.i64_in _ (by omega)
                  have x1 : -5000 ≤ u ∧ u ≤ 1000001 := by omega
                  have x2 : -5000 ≤ y ∧ y ≤ 1000001 := by omega
                  have xu : 0 ≤ u → X ≤ N := fun h => by omega
                  have xy : 0 ≤ y → Y ≤ M := fun h => by omega
                  have xu2 : X ≤ N → 0 ≤ u := fun h => by omega
                  have xy2 : Y ≤ M → 0 ≤ y := fun h => by omega
                  have XU := Lib.hid xu; have XY := Lib.hid xy; have XU2 := Lib.hid xu2; have XY2 := Lib.hid xy2
                  have hsy := fun t1 t2 t3 => selB_yes HSB.out hX hY hu hy t1 t2 t3 (k21 := m21) (by omega)
                  have hsn := fun hn => selB_no HSB.out hX hY hu hy hn
                  have HSY := Lib.hid hsy; have HSN := Lib.hid hsn
                  clear hsy hsn hl hX hY hu hy hkd hF1 hg1 hfy xu xy xu2 xy2
                  as_aux_lemma =>
                    by_cases t1 : u + y < m20
                    · by_cases t2 : 0 ≤ u
                      · by_cases t3 : 0 ≤ y
                        · go_wp2_with (fail)
                          refine (getBS HFS7.out lim i2 u (by rfl) HL.out (by omega) (by omega) hil2).mono ?_
                          rintro e w7 ⟨rfl, q7, rfl⟩
                          go_wp2
                          go_roundg (lim + 1 - (i2 + 1))
                          case measure => have := HQ6.out; omega
                          case rel => exact ⟨i2 + 1, m21, u + y, m21 + 2, rfl, rfl, rfl, by omega, by omega, rfl, HFS7.out.drewN _, own_drewN HO7.out _, by omega, by omega, .inr ⟨lim - i2, by omega, by rw [HX.out]; exact XU.out t2, by rw [HY.out]; exact XY.out t3, by omega⟩, HSY.out t1 t2 t3⟩
                        · go_wp2_with (fail)
                          refine (getBS HFS7.out lim i2 u (by rfl) HL.out (by omega) (by omega) hil2).mono ?_
                          rintro e w7 ⟨rfl, q7, rfl⟩
                          go_wp2
                          go_roundg (lim + 1 - (i2 + 1))
                          case measure => have := HQ6.out; omega
                          case rel => exact ⟨i2 + 1, m14, m20, m21 + 2, rfl, rfl, rfl, by omega, by omega, rfl, HFS7.out.drewN _, own_drewN HO7.out _, by omega, by omega, (by
                            rcases HOR2.out with ⟨h1, h2⟩ | h1
                            · refine .inl ⟨h1, fun j hj hjl hin => ?_⟩
                              by_cases hji : j = i2
                              · subst hji
                                rw [HX.out, HY.out] at hin
                                have a1 := XU2.out hin.1
                                have a2 := XY2.out hin.2
                                omega
                              · exact h2 j (by omega) hjl hin
                            · exact .inr h1), HSN.out (by omega)⟩
                      · go_wp2_with (fail)
                        refine (getBS HFS7.out lim i2 u (by rfl) HL.out (by omega) (by omega) hil2).mono ?_
                        rintro e w7 ⟨rfl, q7, rfl⟩
                        go_wp2
                        go_roundg (lim + 1 - (i2 + 1))
                        case measure => have := HQ6.out; omega
                        case rel => exact ⟨i2 + 1, m14, m20, m21 + 2, rfl, rfl, rfl, by omega, by omega, rfl, HFS7.out.drewN _, own_drewN HO7.out _, by omega, by omega, (by
                          rcases HOR2.out with ⟨h1, h2⟩ | h1
                          · refine .inl ⟨h1, fun j hj hjl hin => ?_⟩
                            by_cases hji : j = i2
                            · subst hji
                              rw [HX.out, HY.out] at hin
                              have a1 := XU2.out hin.1
                              have a2 := XY2.out hin.2
                              omega
                            · exact h2 j (by omega) hjl hin
                          · exact .inr h1), HSN.out (by omega)⟩
                    · go_wp2_with (fail)
                      refine (getBS HFS7.out lim i2 u (by rfl) HL.out (by omega) (by omega) hil2).mono ?_
                      rintro e w7 ⟨rfl, q7, rfl⟩
                      go_wp2
                      go_roundg (lim + 1 - (i2 + 1))
                      case measure => have := HQ6.out; omega
                      case rel => exact ⟨i2 + 1, m14, m20, m21 + 2, rfl, rfl, rfl, by omega, by omega, rfl, HFS7.out.drewN _, own_drewN HO7.out _, by omega, by omega, (by
                        rcases HOR2.out with ⟨h1, h2⟩ | h1
                        · refine .inl ⟨h1, fun j hj hjl hin => ?_⟩
                          by_cases hji : j = i2
                          · subst hji
                            rw [HX.out, HY.out] at hin
                            have a1 := XU2.out hin.1
                            have a2 := XY2.out hin.2
                            omega
                          · exact h2 j (by omega) hjl hin
                        · exact .inr h1), HSN.out (by omega)⟩
                · have n3 : ¬ m21 ≤ (lim : Int) := by omega
                  have hfound : ∃ jm, jm ≤ lim ∧ fwd (rev E N M) N M lim jm ≤ N ∧ fy (rev E N M) N M lim jm ≤ M ∧ m14 = (lim : Int) - 2 * (jm : Int) := by
                    rcases HOR2.out with ⟨h1, h2⟩ | h1
                    · exfalso
                      obtain ⟨T', hT'⟩ := short_ex (rev E N M) N M
                      have h5 := HT.out.rev _ hT'.reach
                      obtain ⟨j, h3, h4⟩ := hT'.some_inside (show lim < T' by omega)
                      exact h2 (lim - j) (by omega) (by omega) (by rw [show lim - (lim - j) = j by omega]; exact h4)
                    · exact h1
                  obtain ⟨jb, hjb, hb1, hb2, hb3⟩ := hfound
                  have hm14 : ¬ m14 < -(lim : Int) := by omega
                  have hil1 : i2 = lim + 1 := by omega
                  have hsb := HSB.out
                  rw [hil1] at hsb
                  have HB3 := Lib.hid hb3; have HSB1 := Lib.hid hsb
                  clear hil1 hsb
                  have hlb := bwdlcs_any HFS7.out.st lim jb m14 (by omega) hjb hb3 hN hM HUX.out HUY.out HDL.out hb1 hb2 (fun d' i' h h2 => HB'.out d' i' (by omega) h2) (HB'.out lim jb (Nat.le_refl _) hjb)
                  have HLB := Lib.hid hlb
                  obtain ⟨ia, hia, hia0, hia1, hia2⟩ := info_parts infoG
                  clear hlb hb3
                  as_aux_lemma =>
                    go_wp2_with (fail)
                    refine HLB.out.mono ?_
                    rintro e w8 ⟨ps2, ⟨v8, rfl, ho8, hb8⟩, hch8, hs8⟩
                    have HBE := Lib.hid hs8.2
                    obtain ⟨A1, c1, rfl⟩ := own_form HO7.out
                    obtain ⟨A2, c2, rfl⟩ := own_form ho8
                    have hlps := ch_len hch8
                    have hpl2 : ps2.length ≤ 1000001 := by omega
                    have HO1 := Lib.hid (own_below HO7.out hb8 (Nat.le_refl _)); have HR2 := Lib.hid (CellsR.of_own ho8)
                    have HCH8 := Lib.hid (hch8.lo (Nat.zero_le _) (Nat.zero_le _)); have HFS8 := Lib.hid (HFS7.out.below hb8)
                    have hsz8 := HFS8.out.gr.size
                    obtain ⟨n1', hn1'⟩ : ∃ n, ps.length = n := ⟨_, rfl⟩
                    obtain ⟨n2', hn2'⟩ : ∃ n, ps2.length = n := ⟨_, rfl⟩
                    rw [hn1'] at HO1 hpl
                    rw [hn2'] at hpl2
                    rw [hn1', hn2']
                    have HN1 := Lib.hid hn1'; have HN2 := Lib.hid hn2'
                    clear ho8 hb8 hch8 hs8 hlps hn1' hn2'
                    go_wp2_with (at_builtin; refine wpList_append_any _ rfl (.tmp 323) (.tmp 330) _ rfl w.heap.size 131 ia _ 3 24 Tryz.underlying86 hia hia0 hia1 hia2 rfl (by omega) (.slice A1 n1' c1) n1' (pcCells ps) rfl (by exact HO1.out) A2 n2' c2 (pcCells ps2) rfl (by exact HR2.out) (by rw [pcCells_length, HN2.out]) (pcCells_one _) (by unfold maxLen; omega) (by omega) (by omega) ?_; intro A9 c9 w9 hown9 hg9 hat9; have HO9 := Lib.hid hown9; have HB9 : Hid (Below B w w9) := Lib.hid (((HFS8.out.gr.below hBw)).grown hg9 (by omega) (fun q hq => by have := (HO1.out.lt q hq).1; omega)); have hs9 := hg9.size; clear hown9 hg9 hat9)
                    clear HLB
                    have hfx := HFC.out w.heap.size w9 (.slice A9 (n1' + n2') c9) (ps ++ ps2) (by omega) (by rw [List.length_append, HN1.out, HN2.out, pcCells_append]; exact HO9.out) (fun p hp => by
                      rcases List.mem_append.1 hp with hp | hp
                      · have h9 := HCH.out.mem p hp
                        exact ⟨h9.1, h9.2.2.2.1, h9.2.2.2.2⟩
                      · have h9 := HCH8.out.mem p hp
                        exact ⟨h9.1, h9.2.2.2.1, h9.2.2.2.2⟩) (by rw [List.length_append, HN1.out, HN2.out]; omega)
                    have HFX := Lib.hid hfx; clear hfx
                    go_wp2_with (fail)
                    refine HFX.out.mono ?_
                    rintro e w10 ⟨qs, v10, rfl, ho10, hb10, hch10, hqf⟩
                    have HQF := Lib.hid hqf; clear hqf
                    have HO10 := Lib.hid ho10; have HB10 := Lib.hid hb10; have HCH10 := Lib.hid hch10
                    clear ho10 hb10 hch10
                    go_wp2
                    go_ret
                    exact ⟨qs, v10, rfl, HO10.out, HB9.out.trans (HB10.out.mono hBw), HCH10.out, fun T' hT' h9 => by
                      exfalso
                      have h8 := HT.out.least _ hT'.reach
                      have h7 := hT'.least _ HT.out.reach
                      omega, TwoS.lim HT.out hT2 ⟨jm, jb, ps, ps2, by rw [← HSL1.out]; exact HM3.out, by rw [← HSL1.out, ← HSB1.out]; exact HB3.out, HFE.out, HBE.out, HQF.out⟩⟩
end Go.Proofs.YtgphjnhbheimiaaGreatDoor
