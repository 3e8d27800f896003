/-
  The walk of forward: the road from the start. No condition but bounds.
-/
import Derived.Test.YtgphjnhbheimiaaGreatDoorLcsW6
namespace Go.Proofs.YtgphjnhbheimiaaGreatDoor
set_option linter.unusedVariables false
open Go.RowKit

theorem fwd_zero (E : EQT) (N M D : Nat) : fwd E N M (D + 1) 0 = slide E N M (fwd E N M D 0) (fwd E N M D 0 + (D + 1)) := by
  show slide E N M (fstart (fwd E N M D) D 0) (fstart (fwd E N M D) D 0 + (D + 1) - 2 * 0) = _
  have : fstart (fwd E N M D) D 0 = fwd E N M D 0 := by
    unfold fstart
    rw [if_pos rfl, if_neg (by omega)]
    omega
  rw [this]
  rfl
theorem fwd_last (E : EQT) (N M D : Nat) : fwd E N M (D + 1) (D + 1) = slide E N M (fwd E N M D D + 1) (fy E N M D D) := by
  show slide E N M (fstart (fwd E N M D) D (D + 1)) (fstart (fwd E N M D) D (D + 1) + (D + 1) - 2 * (D + 1)) = _
  have : fstart (fwd E N M D) D (D + 1) = fwd E N M D D + 1 := by
    unfold fstart
    rw [if_neg (by omega), if_pos rfl]
    simp
  have hg := fwd_ge E N M D D (Nat.le_refl _)
  rw [this]
  unfold fy
  congr 1
  omega
theorem Short.at_ {E : EQT} {N M T d j : Nat} (h : Short E N M T) (hj : j ≤ d) (h1 : fwd E N M d j = N) (h2 : fy E N M d j = M) (hn : ∀ d' j', d' < d → j' ≤ d' → ¬ (fwd E N M d' j' = N ∧ fy E N M d' j' = M)) : T = d := by
  have h3 := h.here hj h1 h2
  cases d with
  | zero => omega
  | succ d =>
    have := h.more (d := d) (fun d' j' hd' hj' => hn d' j' (by omega) hj')
    omega

/-- the graph as the road from the start leaves it in a later world -/
structure FS (w0 w : World) (B g : Nat) (K : GK) (vb : Value) (rb : List LRow) (wr : World) (vf : Value) (rf : List LRow) : Prop where
  st : GSt wr B g K vf vb rf rb
  gr : Gr B w wr
  bl : Below B w0 wr
/-- what forward gives -/
def FwdOut (E : EQT) (N M lim B g : Nat) (K : GK) (vb : Value) (rb : List LRow) (w : World) (e : Ending) (w' : World) : Prop :=
  ∃ ps v vf rf, e = .returned v ∧ w'.ownsRow w.heap.size 131 3 v ps.length (pcCells ps) ∧ GSt w' B g K vf vb rf rb ∧ Gr B w w' ∧ Ch E 0 0 ps N M ∧ (∀ T, Short E N M T → T ≤ lim → 2 * sumP ps + T = N + M ∧ ∃ j, 2 * j + M = N + T ∧ FwE E N M T j N M [] ps)
/-- no label up to level D is the end's -/
def NDone (E : EQT) (N M D : Nat) : Prop := ∀ d j, d ≤ D → j ≤ d → ¬ (fwd E N M d j = N ∧ fy E N M d j = M)
/-- the outer loop's relation -/
def FLoop (E : EQT) (N M lim : Nat) (w0 w : World) (B g : Nat) (K : GK) (vb : Value) (rb : List LRow) (q : Nat) (v : Value) (wr : World) : Prop :=
  ∃ (D : Nat) (vf : Value) (rf : List LRow), v = .int .i64 (D : Int) ∧ D ≤ lim ∧ q = lim - D ∧ FS w0 w B g K vb rb wr vf rf ∧ FullF E N M rf D ∧ NDone E N M D
/-- the inner loop's relation -/
def FLoop2 (E : EQT) (N M D : Nat) (w0 w : World) (B g : Nat) (K : GK) (vb : Value) (rb : List LRow) (q : Nat) (v : Value) (wr : World) : Prop :=
  ∃ (i : Nat) (kk : Int) (vf : Value) (rf : List LRow), v = .int .i64 kk ∧ kk = 2 * (i : Int) - ((D : Int) + 1) ∧ 1 ≤ i ∧ i ≤ D + 1 ∧ q = D + 1 - i ∧ FS w0 w B g K vb rb wr vf rf ∧ FullF E N M rf D ∧ NDone E N M D ∧
    (∀ j, j ≤ D + 1 → j < i ∨ j = D + 1 → Lab rf (D + 1) j (fwd E N M (D + 1) j : Nat) ∧ ¬ (fwd E N M (D + 1) j = N ∧ fy E N M (D + 1) j = M))

section
variable {w0 w wr w2 : World} {B g : Nat} {K : GK} {vb vf : Value} {rb rf : List LRow} {E : EQT} {N M : Nat}
theorem FS.below (h : FS w0 w B g K vb rb wr vf rf) (hb : Below wr.heap.size wr w2) : FS w0 w B g K vb rb w2 vf rf := by
  have h1 := h.st.hg
  have h2 := h.st.blk.lt
  exact ⟨h.st.below hb (Nat.le_refl _), h.gr.trans (Gr.of_below hb (Nat.le_refl _)), h.bl.trans (hb.mono (by omega))⟩
theorem FS.drewN (h : FS w0 w B g K vb rb wr vf rf) (q : Nat) : FS w0 w B g K vb rb (wr.drewN q) vf rf := h.below (below_drewN (Below.refl _ _) q)
/-- what a set leaves -/
def SetP (w0 w : World) (B g : Nat) (K : GK) (vb : Value) (rb rf : List LRow) (d j : Nat) (x : Int) (e : Ending) (w2 : World) : Prop :=
  e = .returned (.tuple #[]) ∧ ∃ vf2 rf2, FS w0 w B g K vb rb w2 vf2 rf2 ∧ Lab rf2 d j x ∧ (∀ d' j' x', ¬ (d = d' ∧ j = j') → Lab rf d' j' x' → Lab rf2 d' j' x')
theorem setFS {T fP fS NA MA : Nat} {rv : Value} (hS : SeqC w0 B T rv fP fS E NA MA) (h : FS w0 w B g K vb rb wr vf rf) (hsq : K.sq = .iface T rv) (hux : K.ux = (N : Int)) (huy : K.uy = (M : Int)) (hN : N ≤ NA) (hM : M ≤ MA)
    (d j x y : Nat) {dI kI xI : Int} (hdI : dI = d) (hxI : xI = x) (hxy : (x : Int) - kI = (y : Int)) (hx : x ≤ 3000003) (hy : y ≤ 3000003) (hd : d ≤ rf.length) (hd2 : d ≤ 2001) (hj : j ≤ d) (hk : kI = 2 * (j : Int) - (d : Int)) (X : Nat) (hX : slide E N M x y = X) :
    Calls Tryz.prog 49 #[.pointer (some ⟨g, 0, none⟩), .int .i64 dI, .int .i64 kI, .int .i64 xI] wr (SetP w0 w B g K vb rb rf d j (X : Int)) := by
  subst hdI hxI hX
  refine (setF_any hS h.bl h.st hsq hux huy hN hM d j kI x y hxy hx hy hd hd2 hj hk).mono ?_
  rintro e w2 ⟨rfl, b, vf2, h1, h2, h3⟩
  exact ⟨rfl, vf2, _, ⟨h1, h.gr.trans h2, h3⟩, lab_new h.st.sf _ _ hd hj, fun d' j' x' hne hl => lab_old hl hd hne⟩
theorem getFS (h : FS w0 w B g K vb rb wr vf rf) (d j : Nat) (x : Int) {dI kI : Int} (hdI : dI = d) (hL : Lab rf d j x) (hk : kI = 2 * (j : Int) - (d : Int)) (hd : d ≤ 2001) (hj : j ≤ d) :
    Calls Tryz.prog 53 #[.pointer (some ⟨g, 0, none⟩), .int .i64 dI, .int .i64 kI] wr fun e w' => e = .returned (.int .i64 x) ∧ ∃ q, w' = wr.drewN q := by
  subst hdI
  exact getF_any h.st d j kI x hL hk hd hj
theorem lookFS {T fP fS NA MA : Nat} {rv : Value} (hS : SeqC w0 B T rv fP fS E NA MA) (h : FS w0 w B g K vb rb wr vf rf) (hsq : K.sq = .iface T rv) (hux : K.ux = (N : Int)) (huy : K.uy = (M : Int)) (hN : N ≤ NA) (hM : M ≤ MA)
    (x y : Nat) {kI xI : Int} (hxI : xI = x) (hxy : (x : Int) - kI = (y : Int)) (hx : x ≤ 3000003) (hy : y ≤ 3000003) (X : Nat) (hX : slide E N M x y = X) :
    Calls Tryz.prog 54 #[.pointer (some ⟨g, 0, none⟩), .int .i64 kI, .int .i64 xI] wr fun e w' => e = .returned (.int .i64 (X : Int)) ∧ Below wr.heap.size wr w' := by
  subst hxI hX
  exact lookF_any hS h.bl h.st hsq hux huy hN hM kI x y hxy hx hy
theorem noFS (h : FS w0 w B g K vb rb wr vf rf) (hux : K.ux = (N : Int)) (huy : K.uy = (M : Int)) (d j : Nat) {dI kI : Int} (hdI : dI = d) (hd : d ≤ 2001) (hj : j ≤ d) (hk : kI = 2 * (j : Int) - (d : Int)) (hN : N ≤ 1000001) (hM : M ≤ 1000001)
    (hlab : Lab rf d j (fwd E N M d j : Nat)) (hn : ¬ (fwd E N M d j = N ∧ fy E N M d j = M)) :
    Calls Tryz.prog 90 #[.pointer (some ⟨g, 0, none⟩), .int .i64 dI, .int .i64 kI] wr fun e w' => e = .returned (.tuple #[.bool false, .slice none 0 0]) ∧ Below wr.heap.size wr w' := by
  subst hdI
  exact fdone_no h.st hux huy d j kI hd hj hk hN hM hlab hn
/-- fdone at the end's label -/
def YesP (E : EQT) (N M lim B g : Nat) (K : GK) (vb : Value) (rb : List LRow) (w : World) (e : Ending) (w' : World) : Prop :=
  ∃ v, e = .returned (.tuple #[.bool true, v]) ∧ FwdOut E N M lim B g K vb rb w (.returned v) w'
theorem yesFS (lim : Nat) (h : FS w0 w B g K vb rb wr vf rf) (hux : K.ux = (N : Int)) (huy : K.uy = (M : Int)) (d j : Nat) {dI kI : Int} (hdI : dI = d) (hd : d ≤ 2001) (hj : j ≤ d) (hk : kI = 2 * (j : Int) - (d : Int)) (hN : N ≤ 1000001) (hM : M ≤ 1000001)
    (hfull : ∀ d' i, d' < d → i ≤ d' → Lab rf d' i (fwd E N M d' i : Nat)) (hlab : Lab rf d j (fwd E N M d j : Nat)) (hy : fwd E N M d j = N ∧ fy E N M d j = M) (hn : ∀ d' j', d' < d → j' ≤ d' → ¬ (fwd E N M d' j' = N ∧ fy E N M d' j' = M)) :
    Calls Tryz.prog 90 #[.pointer (some ⟨g, 0, none⟩), .int .i64 dI, .int .i64 kI] wr (YesP E N M lim B g K vb rb w) := by
  subst hdI
  refine (fdone_yes h.st hux huy d j kI hd hj hk hN hM hfull hlab hy.1 hy.2).mono ?_
  rintro e w2 ⟨ps, v, rfl, ho, hb2, hch, hs⟩
  have h3 := h.below hb2
  exact ⟨v, rfl, ps, v, vf, rf, rfl, own_mono ho h.gr.size, h3.st, h3.gr, hch, fun T hT _ => by rw [hT.at_ hj hy.1 hy.2 hn]; exact ⟨hs.1, j, by have h8 := fwd_ge E N M d j hj; have h9 := hy.2; unfold fy at h9; omega, hs.2⟩⟩
end

/-- the relation of the loop that seeks a label inside at the limit -/
def FLoop3 (E : EQT) (N M lim : Nat) (w0 w : World) (B g : Nat) (K : GK) (vb : Value) (rb : List LRow) (vf : Value) (rf : List LRow) (q : Nat) (v15 v16 v17 : Value) (wr : World) : Prop :=
  ∃ (i : Nat) (k15 k16 k17 : Int), v15 = .int .i64 k15 ∧ v16 = .int .i64 k16 ∧ v17 = .int .i64 k17 ∧ k17 = 2 * (i : Int) - (lim : Int) ∧ i ≤ lim + 1 ∧ q = lim + 1 - i ∧ FS w0 w B g K vb rb wr vf rf ∧ -1 ≤ k16 ∧ k16 ≤ 2100000 ∧
    ((k16 = -1 ∧ ∀ j, j < i → ¬ (fwd E N M lim j ≤ N ∧ fy E N M lim j ≤ M)) ∨ (∃ jm, jm ≤ lim ∧ fwd E N M lim jm ≤ N ∧ fy E N M lim jm ≤ M ∧ k15 = 2 * (jm : Int) - (lim : Int))) ∧ (k15, k16) = selF E N M lim i

set_option maxRecDepth 100000 in
set_option maxHeartbeats 2000000 in
theorem forward_any {w0 w : World} {B T fP fS NA MA N M g lim : Nat} {rv vf vb : Value} {E : EQT} {K : GK} {rf rb : List LRow} (hS : SeqC w0 B T rv fP fS E NA MA) (hb : Below B w0 w) (hG : GSt w B g K vf vb rf rb) (hsq : K.sq = .iface T rv) (hux : K.ux = (N : Int)) (huy : K.uy = (M : Int))
    (hN : N ≤ NA) (hM : M ≤ MA) (hlim : K.lim = (lim : Int)) (hl1 : 1 ≤ lim) (hl2 : lim ≤ 2000) :
    Calls Tryz.prog 73 #[.pointer (some ⟨g, 0, none⟩)] w (FwdOut E N M lim B g K vb rb w) := by
  have hnA := hS.nA
  have hnM := hS.nM
  have HS := Lib.hid hS; have HSQ := Lib.hid hsq; have HUX := Lib.hid hux; have HUY := Lib.hid huy; have HLIM := Lib.hid hlim
  have HG0 := Lib.hid hG
  have hgB := hG.hg
  have hgl := hG.blk.lt
  have hs0 : Calls Tryz.prog 49 #[.pointer (some ⟨g, 0, none⟩), .int .i64 0, .int .i64 0, .int .i64 0] w.drew (SetF w0 B g K vb rf rb 0 0 (slide E N M 0 0 : Nat) w.drew) :=
    setF_any hS hb.drew (hG.below (Below.refl _ _).drew (Nat.le_refl _)) hsq hux huy hN hM 0 0 0 0 0 rfl (by omega) (by omega) (Nat.zero_le _) (by omega) (Nat.le_refl _) rfl
  have hs0' : Calls Tryz.prog 49 #[.pointer (some ⟨g, 0, none⟩), .int .i64 0, .int .i64 0, .int .i64 0] w (SetF w0 B g K vb rf rb 0 0 (slide E N M 0 0 : Nat) w) :=
    setF_any hS hb hG hsq hux huy hN hM 0 0 0 0 0 rfl (by omega) (by omega) (Nat.zero_le _) (by omega) (Nat.le_refl _) rfl
  have HS0 := Lib.hid hs0; have HS0' := Lib.hid hs0'
  obtain ⟨_, _, _, c3, c4, _, _, _, _⟩ := hG.cells
  rw [hlim] at c3
  clear hS hsq hux huy hlim hG hs0 hs0'
  go_enter Tryz.func73, Tryz.ntmps73
  go_wp2_with (fail)
  refine HS0'.out.mono ?_
  rintro e w1 ⟨rfl, b1, vf1, hG1, hgr1, hb1⟩
  have hl0 : Lab (setRow rf 0 0 (slide E N M 0 0 : Nat) b1) 0 0 (fwd E N M 0 0 : Nat) := lab_new HG0.out.sf _ _ (Nat.zero_le _) (Nat.le_refl _)
  generalize setRow rf 0 0 (slide E N M 0 0 : Nat) b1 = rf1 at *
  have hFS : FS w0 w B g K vb rb w1 vf1 rf1 := ⟨hG1, hgr1, hb1⟩
  have HFS := Lib.hid hFS; have HL0 := Lib.hid hl0
  have hF0 : FullF E N M rf1 0 := fun d j hd hj => by
    obtain rfl : d = 0 := by omega
    obtain rfl : j = 0 := by omega
    exact hl0
  have HF0 := Lib.hid hF0
  clear hG1 hgr1 hb1 hFS hl0 hF0
  by_cases hd0 : fwd E N M 0 0 = N ∧ fy E N M 0 0 = M
  · have HD0 := Lib.hid hd0; clear hd0
    go_wp2_with (fail)
    refine (yesFS lim HFS.out HUX.out HUY.out 0 0 (by rfl) (by omega) (Nat.le_refl _) (by rfl) (by omega) (by omega) (fun d' i h _ => by omega) HL0.out HD0.out (fun d' i h _ => by omega)).mono ?_
    rintro e w2 ⟨v, rfl, hout⟩
    have HOUT := Lib.hid hout; clear hout
    go_wp2
    go_ret
    exact HOUT.out
  · have hnd : NDone E N M 0 := fun d j hd hj => by
      obtain rfl : d = 0 := by omega
      obtain rfl : j = 0 := by omega
      exact hd0
    have HND := Lib.hid hnd; have HD0 := Lib.hid hd0; clear hd0 hnd
    go_wp2_with (fail)
    refine (noFS HFS.out HUX.out HUY.out 0 0 (by rfl) (by omega) (Nat.le_refl _) (by rfl) (by omega) (by omega) HL0.out HD0.out).mono ?_
    rintro e w2 ⟨rfl, hb2⟩
    have hFS2 := HFS.out.below hb2
    have HFS2 := Lib.hid hFS2
    have c3 : w2.cell? ⟨g, 3, none⟩ = some (.int .i64 K.lim) := hFS2.st.cells.2.2.2.1
    rw [HLIM.out] at c3
    clear hb2 hFS2
    go_wp2
    go_loopg [37] lim (fun q v wr => FLoop E N M lim w0 w B g K vb rb q v wr)
    case atStart => exact ⟨0, vf1, rf1, rfl, Nat.zero_le _, rfl, HFS2.out, HF0.out, HND.out⟩
    case round =>
      clear HND
      obtain ⟨D, vf2, rf2, rfl, hDl, hq, hFS, hF, hnd⟩ := hrel
      have HQ := Lib.hid hq; have HFS2 := Lib.hid hFS; have HF := Lib.hid hF; have HND := Lib.hid hnd
      have hlen : D < rf2.length := (hF D 0 (Nat.le_refl _) (Nat.zero_le _)).1
      clear hq hFS hF hnd
      by_cases hlt : D < lim
      · have hb1 := (fwd_le (E := E) (N := N) (M := M) D 0 (Nat.zero_le _)).1
        have hb2 := (fwd_le (E := E) (N := N) (M := M) D D (Nat.le_refl _)).1
        have hb3 := (fwd_le (E := E) (N := N) (M := M) D D (Nat.le_refl _)).2
        have hb4 : (fwd E N M D D : Int) + 1 - ((D : Int) + 1) = (fy E N M D D : Nat) := by
          have := fwd_ge E N M D D (Nat.le_refl _)
          unfold fy; omega
        have z1 := fwd_zero E N M D
        have z2 := fwd_last E N M D
        have Z1 := Lib.hid z1; have Z2 := Lib.hid z2; have HB4 := Lib.hid hb4; clear z1 z2 hb4
        go_wp2_with (fail)
        refine (getFS HFS2.out D 0 (fwd E N M D 0 : Nat) (by rfl) (HF.out D 0 (Nat.le_refl _) (Nat.zero_le _)) (by omega) (by omega) (by omega)).mono ?_
        rintro e w3 ⟨rfl, q3, rfl⟩
        go_wp2_with (fail)
        refine (setFS HS.out (HFS2.out.drewN q3) HSQ.out HUX.out HUY.out hN hM (D + 1) 0 (fwd E N M D 0) (fwd E N M D 0 + (D + 1)) (by omega) (by rfl) (by omega) (by omega) (by omega) (by omega) (by omega) (by omega) (by omega) (fwd E N M (D + 1) 0) Z1.out.symm).mono ?_
        rintro e w3 ⟨rfl, vf3, rf3, hFS3, hl3, hk3⟩
        have HFS3 := Lib.hid hFS3; have HL3 := Lib.hid hl3; have HK3 := Lib.hid hk3
        have HF3 : Hid (FullF E N M rf3 D) := Lib.hid (fun d' j' h1 h2 => hk3 d' j' _ (by omega) (HF.out d' j' h1 h2))
        have hlen3 : D + 1 < rf3.length := hl3.1
        clear hFS3 hl3 hk3
        by_cases hdone : fwd E N M (D + 1) 0 = N ∧ fy E N M (D + 1) 0 = M
        · have HY := Lib.hid hdone; clear hdone
          go_wp2_with (fail)
          refine (yesFS lim HFS3.out HUX.out HUY.out (D + 1) 0 (by omega) (by omega) (by omega) (by omega) (by omega) (by omega) (fun d' i' h h2 => HF3.out d' i' (by omega) h2) HL3.out HY.out (fun d' i' h h2 => HND.out d' i' (by omega) h2)).mono ?_
          rintro e w9 ⟨v9, rfl, hout⟩
          have HOUT := Lib.hid hout; clear hout
          go_wp2
          go_ret
          exact HOUT.out
        · have HY3 := Lib.hid hdone; clear hdone
          go_wp2_with (fail)
          refine (noFS HFS3.out HUX.out HUY.out (D + 1) 0 (by omega) (by omega) (by omega) (by omega) (by omega) (by omega) HL3.out HY3.out).mono ?_
          rintro e w9 ⟨rfl, hb9⟩
          have HFS3b := Lib.hid (HFS3.out.below hb9); clear hb9
          go_wp2_with (fail)
          refine (getFS HFS3b.out D D (fwd E N M D D : Nat) (by rfl) (HF3.out D D (Nat.le_refl _) (Nat.le_refl _)) (by omega) (by omega) (by omega)).mono ?_
          rintro e w4 ⟨rfl, q4, rfl⟩
          go_wp2_with (fail)
          refine (setFS HS.out (HFS3b.out.drewN q4) HSQ.out HUX.out HUY.out hN hM (D + 1) (D + 1) (fwd E N M D D + 1) (fy E N M D D) (by omega) (by omega) (by have := HB4.out; omega) (by omega) (by omega) (by omega) (by omega) (by omega) (by omega) (fwd E N M (D + 1) (D + 1)) Z2.out.symm).mono ?_
          rintro e w4 ⟨rfl, vf4, rf4, hFS4, hl4, hk4⟩
          have HFS4 := Lib.hid hFS4; have HL4 := Lib.hid hl4; have HK4 := Lib.hid hk4
          have HF4 : Hid (FullF E N M rf4 D) := Lib.hid (fun d' j' h1 h2 => hk4 d' j' _ (by omega) (HF3.out d' j' h1 h2))
          have HL34 : Hid (Lab rf4 (D + 1) 0 (fwd E N M (D + 1) 0 : Nat)) := Lib.hid (hk4 (D + 1) 0 _ (by omega) HL3.out)
          clear hFS4 hl4 hk4
          by_cases hdone : fwd E N M (D + 1) (D + 1) = N ∧ fy E N M (D + 1) (D + 1) = M
          · have HY := Lib.hid hdone; clear hdone
            go_wp2_with (fail)
            refine (yesFS lim HFS4.out HUX.out HUY.out (D + 1) (D + 1) (by omega) (by omega) (by omega) (by omega) (by omega) (by omega) (fun d' i' h h2 => HF4.out d' i' (by omega) h2) HL4.out HY.out (fun d' i' h h2 => HND.out d' i' (by omega) h2)).mono ?_
            rintro e w9 ⟨v9, rfl, hout⟩
            have HOUT := Lib.hid hout; clear hout
            go_wp2
            go_ret
            exact HOUT.out
          · have HY4 := Lib.hid hdone; clear hdone
            go_wp2_with (fail)
            refine (noFS HFS4.out HUX.out HUY.out (D + 1) (D + 1) (by omega) (by omega) (by omega) (by omega) (by omega) (by omega) HL4.out HY4.out).mono ?_
            rintro e w9 ⟨rfl, hb9⟩
            have HFS4b := Lib.hid (HFS4.out.below hb9); clear hb9
            go_wp2
            go_loopg [10] (D + 1 - 1) (fun q v wr => FLoop2 E N M D w0 w B g K vb rb q v wr)
            case atStart => exact ⟨1, -(D : Int) + 1, vf4, rf4, rfl, by omega, by omega, by omega, rfl, HFS4b.out, HF4.out, HND.out, fun j h1 h2 => by
              rcases h2 with h2 | h2
              · obtain rfl : j = 0 := by omega
                exact ⟨HL34.out, HY3.out⟩
              · subst h2
                exact ⟨HL4.out, HY4.out⟩⟩
            case round =>
              obtain ⟨i, kk, vf5, rf5, rfl, hkk, hi1, hi2, hq5, hFS5, hF5, hN5, hL5⟩ := hrel
              have HKK := Lib.hid hkk; have HQ5 := Lib.hid hq5; have HFS5 := Lib.hid hFS5; have HF5 := Lib.hid hF5; have HL5 := Lib.hid hL5
              have hlen5 : D + 1 < rf5.length := (hL5 0 (by omega) (by omega)).1.1
              have kk1 : kk ≤ 2 * (i : Int) - ((D : Int) + 1) := by omega
              have kk2 : 2 * (i : Int) - ((D : Int) + 1) ≤ kk := by omega
              clear hkk hq5 hFS5 hF5 hN5 hL5
              by_cases hiD : i ≤ D
              · have hi3 : kk ≤ (D : Int) - 1 := by omega
                have hF1 := fwd_le (E := E) (N := N) (M := M) D (i - 1) (by omega)
                have hF2 := fwd_le (E := E) (N := N) (M := M) D i hiD
                have hg1 := fwd_ge E N M D (i - 1) (by omega)
                have hg2 := fwd_ge E N M D i hiD
                have hy1 : fy E N M D (i - 1) + 2 * (i - 1) = fwd E N M D (i - 1) + D := by unfold fy; omega
                have hy2 : fy E N M D i + 2 * i = fwd E N M D i + D := by unfold fy; omega
                obtain ⟨A, hA⟩ : ∃ A, slide E N M (fwd E N M D (i - 1) + 1) (fy E N M D (i - 1)) = A := ⟨_, rfl⟩
                obtain ⟨C, hC⟩ : ∃ C, slide E N M (fwd E N M D i) (fy E N M D i + 1) = C := ⟨_, rfl⟩
                have hsA := slide_le (E := E) (N := N) (M := M) (fwd E N M D (i - 1) + 1) (fy E N M D (i - 1))
                have hsC := slide_le (E := E) (N := N) (M := M) (fwd E N M D i) (fy E N M D i + 1)
                have hgA := slide_ge E N M (fwd E N M D (i - 1) + 1) (fy E N M D (i - 1))
                have hgC := slide_ge E N M (fwd E N M D i) (fy E N M D i + 1)
                rw [hA] at hsA hgA
                rw [hC] at hsC hgC
                have hmid := fwd_mid (E := E) (N := N) (M := M) D i A C hi1 hiD hA.symm hC.symm
                have HA := Lib.hid hA; have HC := Lib.hid hC; have HMID := Lib.hid hmid
                generalize hf1 : fwd E N M D (i - 1) = F1 at *
                generalize hf2 : fwd E N M D i = F2 at *
                generalize hyy1 : fy E N M D (i - 1) = Y1 at *
                generalize hyy2 : fy E N M D i = Y2 at *
                have hl1 : Lab rf5 D (i - 1) (F1 : Nat) := by rw [← hf1]; exact HF5.out D (i - 1) (Nat.le_refl _) (by omega)
                have hl2 : Lab rf5 D i (F2 : Nat) := by rw [← hf2]; exact HF5.out D i (Nat.le_refl _) hiD
                have HL1 := Lib.hid hl1; have HL2 := Lib.hid hl2
                have q1 : (Y1 : Int) + 2 * (i : Int) ≤ (F1 : Int) + (D : Int) + 2 := by omega
                have q2 : (F1 : Int) + (D : Int) + 2 ≤ (Y1 : Int) + 2 * (i : Int) := by omega
                have q3 : (Y2 : Int) + 2 * (i : Int) ≤ (F2 : Int) + (D : Int) := by omega
                have q4 : (F2 : Int) + (D : Int) ≤ (Y2 : Int) + 2 * (i : Int) := by omega
                have q5 : A ≤ 1100000 := by omega
                have q6 : C ≤ 1100000 := by omega
                clear hA hC hmid hf1 hf2 hyy1 hyy2 hl1 hl2 hy1 hy2 hsA hsC
                by_cases hAC : C < A
                · have hm := HMID.out
                  rw [if_pos hAC] at hm
                  obtain ⟨hm1, hm2⟩ := hm
                  have HM1 := Lib.hid hm1; clear hm1
                  have hAC' : (C : Int) < (A : Int) := by omega
                  go_wp2_with (fail)
                  refine (getFS HFS5.out D (i - 1) (F1 : Nat) (by rfl) HL1.out (by omega) (by omega) (by omega)).mono ?_
                  rintro e w6 ⟨rfl, q6', rfl⟩
                  go_wp2_with (fail)
                  refine (lookFS HS.out (HFS5.out.drewN q6') HSQ.out HUX.out HUY.out hN hM (F1 + 1) Y1 (by omega) (by omega) (by omega) (by omega) A HA.out).mono ?_
                  rintro e w6 ⟨rfl, hb6⟩
                  have HFS6 := Lib.hid ((HFS5.out.drewN q6').below hb6); clear hb6
                  go_wp2_with (fail)
                  refine (getFS HFS6.out D i (F2 : Nat) (by rfl) HL2.out (by omega) (by omega) (by omega)).mono ?_
                  rintro e w7 ⟨rfl, q7', rfl⟩
                  go_wp2_with (fail)
                  refine (lookFS HS.out (HFS6.out.drewN q7') HSQ.out HUX.out HUY.out hN hM F2 (Y2 + 1) (by omega) (by omega) (by omega) (by omega) C HC.out).mono ?_
                  rintro e w7 ⟨rfl, hb7⟩
                  have HFS7 := Lib.hid ((HFS6.out.drewN q7').below hb7); clear hb7
                  go_wp2_with (fail)
                  refine (setFS HS.out HFS7.out HSQ.out HUX.out HUY.out hN hM (D + 1) i A (A + (D + 1) - 2 * i) (by omega) (by rfl) (by omega) (by omega) (by omega) (by omega) (by omega) (by omega) (by omega) (fwd E N M (D + 1) i) HM1.out).mono ?_
                  rintro e w8 ⟨rfl, vf8, rf8, hFS8, hl8, hk8⟩
                  have HFS8 := Lib.hid hFS8; have HL8 := Lib.hid hl8
                  have HF8 : Hid (FullF E N M rf8 D) := Lib.hid (fun d' j' h1 h2 => hk8 d' j' _ (by omega) (HF5.out d' j' h1 h2))
                  have HLL8 : Hid (∀ j, j ≤ D + 1 → j < i ∨ j = D + 1 → Lab rf8 (D + 1) j (fwd E N M (D + 1) j : Nat) ∧ ¬ (fwd E N M (D + 1) j = N ∧ fy E N M (D + 1) j = M)) := Lib.hid (fun j' h1 h2 => ⟨hk8 (D + 1) j' _ (by omega) (HL5.out j' h1 h2).1, (HL5.out j' h1 h2).2⟩)
                  clear hFS8 hl8 hk8
                  by_cases hdone : fwd E N M (D + 1) i = N ∧ fy E N M (D + 1) i = M
                  · have HY := Lib.hid hdone; clear hdone
                    go_wp2_with (fail)
                    refine (yesFS lim HFS8.out HUX.out HUY.out (D + 1) i (by omega) (by omega) (by omega) (by omega) (by omega) (by omega) (fun d' i' h h2 => HF8.out d' i' (by omega) h2) HL8.out HY.out (fun d' i' h h2 => HND.out d' i' (by omega) h2)).mono ?_
                    rintro e w9 ⟨v9, rfl, hout⟩
                    have HOUT := Lib.hid hout; clear hout
                    go_wp2
                    go_ret
                    exact HOUT.out
                  · have HY8 := Lib.hid hdone; clear hdone
                    go_wp2_with (fail)
                    refine (noFS HFS8.out HUX.out HUY.out (D + 1) i (by omega) (by omega) (by omega) (by omega) (by omega) (by omega) HL8.out HY8.out).mono ?_
                    rintro e w9 ⟨rfl, hb9⟩
                    have HFS9 := Lib.hid (HFS8.out.below hb9); clear hb9
                    go_wp2
                    go_roundg (D + 1 - (i + 1))
                    case measure => have := HQ5.out; omega
                    case rel =>
                      exact ⟨i + 1, kk + 2, vf8, rf8, by rfl, by omega, by omega, by omega, rfl, HFS9.out, HF8.out, HND.out, fun j h1 h2 => by
                        by_cases hj : j = i
                        · subst hj; exact ⟨HL8.out, HY8.out⟩
                        · exact HLL8.out j h1 (by omega)⟩
                · have hm := HMID.out
                  rw [if_neg hAC] at hm
                  obtain ⟨hm1, hm2⟩ := hm
                  have HM1 := Lib.hid hm1; clear hm1
                  have hAC' : ¬ (C : Int) < (A : Int) := by omega
                  go_wp2_with (fail)
                  refine (getFS HFS5.out D (i - 1) (F1 : Nat) (by rfl) HL1.out (by omega) (by omega) (by omega)).mono ?_
                  rintro e w6 ⟨rfl, q6', rfl⟩
                  go_wp2_with (fail)
                  refine (lookFS HS.out (HFS5.out.drewN q6') HSQ.out HUX.out HUY.out hN hM (F1 + 1) Y1 (by omega) (by omega) (by omega) (by omega) A HA.out).mono ?_
                  rintro e w6 ⟨rfl, hb6⟩
                  have HFS6 := Lib.hid ((HFS5.out.drewN q6').below hb6); clear hb6
                  go_wp2_with (fail)
                  refine (getFS HFS6.out D i (F2 : Nat) (by rfl) HL2.out (by omega) (by omega) (by omega)).mono ?_
                  rintro e w7 ⟨rfl, q7', rfl⟩
                  go_wp2_with (fail)
                  refine (lookFS HS.out (HFS6.out.drewN q7') HSQ.out HUX.out HUY.out hN hM F2 (Y2 + 1) (by omega) (by omega) (by omega) (by omega) C HC.out).mono ?_
                  rintro e w7 ⟨rfl, hb7⟩
                  have HFS7 := Lib.hid ((HFS6.out.drewN q7').below hb7); clear hb7
                  go_wp2_with (fail)
                  refine (setFS HS.out HFS7.out HSQ.out HUX.out HUY.out hN hM (D + 1) i C (C + (D + 1) - 2 * i) (by omega) (by rfl) (by omega) (by omega) (by omega) (by omega) (by omega) (by omega) (by omega) (fwd E N M (D + 1) i) HM1.out).mono ?_
                  rintro e w8 ⟨rfl, vf8, rf8, hFS8, hl8, hk8⟩
                  have HFS8 := Lib.hid hFS8; have HL8 := Lib.hid hl8
                  have HF8 : Hid (FullF E N M rf8 D) := Lib.hid (fun d' j' h1 h2 => hk8 d' j' _ (by omega) (HF5.out d' j' h1 h2))
                  have HLL8 : Hid (∀ j, j ≤ D + 1 → j < i ∨ j = D + 1 → Lab rf8 (D + 1) j (fwd E N M (D + 1) j : Nat) ∧ ¬ (fwd E N M (D + 1) j = N ∧ fy E N M (D + 1) j = M)) := Lib.hid (fun j' h1 h2 => ⟨hk8 (D + 1) j' _ (by omega) (HL5.out j' h1 h2).1, (HL5.out j' h1 h2).2⟩)
                  clear hFS8 hl8 hk8
                  by_cases hdone : fwd E N M (D + 1) i = N ∧ fy E N M (D + 1) i = M
                  · have HY := Lib.hid hdone; clear hdone
                    go_wp2_with (fail)
                    refine (yesFS lim HFS8.out HUX.out HUY.out (D + 1) i (by omega) (by omega) (by omega) (by omega) (by omega) (by omega) (fun d' i' h h2 => HF8.out d' i' (by omega) h2) HL8.out HY.out (fun d' i' h h2 => HND.out d' i' (by omega) h2)).mono ?_
                    rintro e w9 ⟨v9, rfl, hout⟩
                    have HOUT := Lib.hid hout; clear hout
                    go_wp2
                    go_ret
                    exact HOUT.out
                  · have HY8 := Lib.hid hdone; clear hdone
                    go_wp2_with (fail)
                    refine (noFS HFS8.out HUX.out HUY.out (D + 1) i (by omega) (by omega) (by omega) (by omega) (by omega) (by omega) HL8.out HY8.out).mono ?_
                    rintro e w9 ⟨rfl, hb9⟩
                    have HFS9 := Lib.hid (HFS8.out.below hb9); clear hb9
                    go_wp2
                    go_roundg (D + 1 - (i + 1))
                    case measure => have := HQ5.out; omega
                    case rel =>
                      exact ⟨i + 1, kk + 2, vf8, rf8, by rfl, by omega, by omega, by omega, rfl, HFS9.out, HF8.out, HND.out, fun j h1 h2 => by
                        by_cases hj : j = i
                        · subst hj; exact ⟨HL8.out, HY8.out⟩
                        · exact HLL8.out j h1 (by omega)⟩
              · have hi3 : ¬ kk ≤ (D : Int) - 1 := by omega
                go_wp2
                go_roundg (lim - (D + 1))
                case measure => have := HQ.out; omega
                case rel =>
                  refine ⟨D + 1, vf5, rf5, by rfl, by omega, rfl, HFS5.out, fun d j h1 h2 => ?_, fun d j h1 h2 => ?_⟩
                  · by_cases hd : d ≤ D
                    · exact HF5.out d j hd h2
                    · obtain rfl : d = D + 1 := by omega
                      exact (HL5.out j h2 (by omega)).1
                  · by_cases hd : d ≤ D
                    · exact HND.out d j hd h2
                    · obtain rfl : d = D + 1 := by omega
                      exact (HL5.out j h2 (by omega)).2
      · have hDe : D = lim := by omega
        have hF' : FullF E N M rf2 lim := by have := HF.out; rw [hDe] at this; exact this
        have hN' : NDone E N M lim := by have := HND.out; rw [hDe] at this; exact this
        have HF' := Lib.hid hF'; have HN' := Lib.hid hN'
        clear hDe hF' hN'
        have c3 : wr.cell? ⟨g, 3, none⟩ = some (.int .i64 K.lim) := HFS2.out.st.cells.2.2.2.1
        rw [HLIM.out] at c3
        go_wp2
        go_loopg [15, 16, 17] (lim + 1) (fun q v15 v16 v17 wr => FLoop3 E N M lim w0 w B g K vb rb vf2 rf2 q v15 v16 v17 wr)
        case atStart => exact ⟨0, _, _, _, rfl, rfl, rfl, by omega, by omega, rfl, HFS2.out, by omega, by omega, .inl ⟨rfl, fun j h => by omega⟩, by first | rfl | (simp only [selF])⟩
        case round =>
          obtain ⟨i, k15, k16, k17, rfl, rfl, rfl, hk17, hi, hq5, hFS5, hk16a, hk16b, hor, hsl⟩ := hrel
          have HSL := Lib.hid hsl; clear hsl
          have HQ5 := Lib.hid hq5; have HFS5 := Lib.hid hFS5; have HOR := Lib.hid hor
          have k1 : k17 ≤ 2 * (i : Int) - (lim : Int) := by omega
          have k2 : 2 * (i : Int) - (lim : Int) ≤ k17 := by omega
          obtain ⟨_, _, _, c3, _, _, c6, c7, _⟩ := hFS5.st.cells
          rw [HLIM.out] at c3
          rw [HUX.out] at c6
          rw [HUY.out] at c7
          have hgl5 := hFS5.st.blk.lt
          clear hk17 hq5 hFS5 hor
          by_cases hil : i ≤ lim
          · have k3 : k17 ≤ (lim : Int) := by omega
            have hF1 := fwd_le (E := E) (N := N) (M := M) lim i hil
            have hg1 := fwd_ge E N M lim i hil
            have hfy : fy E N M lim i + 2 * i = fwd E N M lim i + lim := by unfold fy; omega
            have hl := HF'.out lim i (Nat.le_refl _) hil
            have HL := Lib.hid hl
            have HOR' : Hid ((k16 = -1 ∧ ∀ j, j < i → ¬ (fwd E N M lim j ≤ N ∧ fy E N M lim j ≤ M)) ∨ (∃ jm, jm ≤ lim ∧ fwd E N M lim jm ≤ N ∧ fy E N M lim jm ≤ M ∧ k15 = 2 * (jm : Int) - (lim : Int))) := HOR
            obtain ⟨X, hX⟩ : ∃ X, fwd E N M lim i = X := ⟨_, rfl⟩
            obtain ⟨Y, hY⟩ : ∃ Y, fy E N M lim i = Y := ⟨_, rfl⟩
            rw [hX] at hF1 hfy HL
            rw [hY] at hF1 hfy
            have HX := Lib.hid hX; have HY := Lib.hid hY
            clear hl hX hY
            have wy : IntKind.i64.wrap ((X : Int) - k17) = (Y : Int) := by rw [show (X : Int) - k17 = (Y : Int) by omega]; exact IntWalk.i64_in _ (by omega)
            have x1 : X ≤ 1100000 := by omega
            have x2 : Y ≤ 1100000 := by omega
            clear hF1 hg1 hfy
            by_cases t1 : k16 < (X : Int) + (Y : Int)
            · by_cases t2 : X ≤ N
              · have t2' : (X : Int) ≤ (N : Int) := by omega
                by_cases t3 : Y ≤ M
                · have t3' : (Y : Int) ≤ (M : Int) := by omega
                  go_wp2_with (fail)
                  refine (getFS HFS5.out lim i (X : Nat) (by rfl) HL.out (by omega) (by omega) hil).mono ?_
                  rintro e w6 ⟨rfl, q6, rfl⟩
                  go_wp2
                  go_roundg (lim + 1 - (i + 1))
                  case measure => have := HQ5.out; omega
                  case rel => exact ⟨i + 1, k17, (X : Int) + (Y : Int), k17 + 2, rfl, rfl, rfl, by omega, by omega, rfl, HFS5.out.drewN _, by omega, by omega, .inr ⟨i, hil, by rw [HX.out]; exact t2, by rw [HY.out]; exact t3, by omega⟩, selF_yes HSL.out HX.out HY.out t1 t2 t3 (by omega)⟩
                · have t3' : ¬ (Y : Int) ≤ (M : Int) := by omega
                  go_wp2_with (fail)
                  refine (getFS HFS5.out lim i (X : Nat) (by rfl) HL.out (by omega) (by omega) hil).mono ?_
                  rintro e w6 ⟨rfl, q6, rfl⟩
                  go_wp2
                  go_roundg (lim + 1 - (i + 1))
                  case measure => have := HQ5.out; omega
                  case rel => exact ⟨i + 1, k15, k16, k17 + 2, rfl, rfl, rfl, by omega, by omega, rfl, HFS5.out.drewN _, by omega, by omega, (by
                    rcases HOR.out with ⟨h1, h2⟩ | h1
                    · refine .inl ⟨h1, fun j hj hin => ?_⟩
                      by_cases hji : j = i
                      · subst hji
                        rw [HX.out, HY.out] at hin
                        omega
                      · exact h2 j (by omega) hin
                    · exact .inr h1), selF_no HSL.out HX.out HY.out (by omega)⟩
              · have t2' : ¬ (X : Int) ≤ (N : Int) := by omega
                go_wp2_with (fail)
                refine (getFS HFS5.out lim i (X : Nat) (by rfl) HL.out (by omega) (by omega) hil).mono ?_
                rintro e w6 ⟨rfl, q6, rfl⟩
                go_wp2
                go_roundg (lim + 1 - (i + 1))
                case measure => have := HQ5.out; omega
                case rel => exact ⟨i + 1, k15, k16, k17 + 2, rfl, rfl, rfl, by omega, by omega, rfl, HFS5.out.drewN _, by omega, by omega, (by
                  rcases HOR.out with ⟨h1, h2⟩ | h1
                  · refine .inl ⟨h1, fun j hj hin => ?_⟩
                    by_cases hji : j = i
                    · subst hji
                      rw [HX.out, HY.out] at hin
                      omega
                    · exact h2 j (by omega) hin
                  · exact .inr h1), selF_no HSL.out HX.out HY.out (by omega)⟩
            · go_wp2_with (fail)
              refine (getFS HFS5.out lim i (X : Nat) (by rfl) HL.out (by omega) (by omega) hil).mono ?_
              rintro e w6 ⟨rfl, q6, rfl⟩
              go_wp2
              go_roundg (lim + 1 - (i + 1))
              case measure => have := HQ5.out; omega
              case rel => exact ⟨i + 1, k15, k16, k17 + 2, rfl, rfl, rfl, by omega, by omega, rfl, HFS5.out.drewN _, by omega, by omega, (by
                rcases HOR.out with ⟨h1, h2⟩ | h1
                · refine .inl ⟨h1, fun j hj hin => ?_⟩
                  by_cases hji : j = i
                  · subst hji
                    rw [HX.out, HY.out] at hin
                    omega
                  · exact h2 j (by omega) hin
                · exact .inr h1), selF_no HSL.out HX.out HY.out (by omega)⟩
          · have k3 : ¬ k17 ≤ (lim : Int) := by omega
            obtain ⟨T', hT⟩ := short_ex E N M
            have hTl : lim < T' := hT.more (fun d' j h1 h2 => HN'.out d' j h1 h2)
            have hfound : ∃ jm, jm ≤ lim ∧ fwd E N M lim jm ≤ N ∧ fy E N M lim jm ≤ M ∧ k15 = 2 * (jm : Int) - (lim : Int) := by
              rcases HOR.out with ⟨h1, h2⟩ | h1
              · exfalso
                obtain ⟨j, h3, h4⟩ := hT.some_inside hTl
                exact h2 j (by omega) h4
              · exact h1
            obtain ⟨jm, hjm, hm1, hm2, hm3⟩ := hfound
            have hlc := fwdlcs_any HFS5.out.st lim jm k15 (by omega) hjm hm3 (by omega) (by omega) (by omega) (by omega) (fun d' i' h h2 => HF'.out d' i' (by omega) h2) (HF'.out lim jm (Nat.le_refl _) hjm)
            have HLC := Lib.hid hlc
            have hTT : ∀ T, Short E N M T → lim < T := fun T h => h.more (fun d' j h1 h2 => HN'.out d' j h1 h2)
            have HTT := Lib.hid hTT
            clear hlc hm3 hT hTT hTl
            go_wp2_with (fail)
            refine HLC.out.mono ?_
            rintro e w6 ⟨ps, ⟨v, rfl, ho, hb6⟩, hch, hs⟩
            have HO := Lib.hid ho; have HB6 := Lib.hid hb6; have HCH := Lib.hid hch
            clear ho hb6 hch hs
            go_wp2
            go_ret
            have h3 := HFS5.out.below HB6.out
            exact ⟨ps, v, vf2, rf2, rfl, own_mono HO.out HFS5.out.gr.size, h3.st, h3.gr, HCH.out.hi hm1 hm2, fun T hT hTl => absurd hTl (by have := HTT.out T hT; omega)⟩
end Go.Proofs.YtgphjnhbheimiaaGreatDoor
