/-
  What twolcs calls: labels, ways back, the forward road over a smaller rectangle; the bounds laid anew. No condition but bounds.
-/
import Derived.Test.YtgphjnhbheimiaaGreatDoorLcsT2
import Derived.Test.YtgphjnhbheimiaaGreatDoorLcsU
namespace Go.Proofs.YtgphjnhbheimiaaGreatDoor
set_option linter.unusedVariables false
open Go.RowKit

section
variable {w0 w wr w2 : World} {B g : Nat} {K : GK} {vb vf : Value} {rb rf : List LRow} {E : EQT} {N M : Nat}
theorem vfget (h : FS w0 w B g K vb rb wr vf rf) (d j : Nat) (x : Int) {dI kI : Int} (hdI : dI = d) (hL : Lab rf d j x) (hk : kI = 2 * (j : Int) - (d : Int)) (hd : d ≤ 2001) (hj : j ≤ d) :
    Calls Tryz.prog 70 #[.pointer (some ⟨g, 1, none⟩), .int .i64 dI, .int .i64 kI] wr fun e w' => e = .returned (.int .i64 x) ∧ ∃ q, w' = wr.drewN q := by
  subst hdI
  obtain ⟨l1, l2, l3⟩ := hL
  have hg := get_any wr B g 1 vf rf d j kI h.st.cells.2.1 h.st.tf l1 l2 (half_sum hk) (by omega) (by omega) (by omega)
  rw [l3] at hg
  exact hg
theorem vbget (h : FS w0 w B g K vb rb wr vf rf) (d i : Nat) (x : Int) {dI kI : Int} (hdI : dI = d) (hL : Lab rb d i x) (hk : kI = 2 * (i : Int) - (d : Int)) (hd : d ≤ 2001) (hi : i ≤ d) :
    Calls Tryz.prog 70 #[.pointer (some ⟨g, 2, none⟩), .int .i64 dI, .int .i64 kI] wr fun e w' => e = .returned (.int .i64 x) ∧ ∃ q, w' = wr.drewN q := by
  subst hdI
  obtain ⟨l1, l2, l3⟩ := hL
  have hg := get_any wr B g 2 vb rb d i kI h.st.cells.2.2.1 h.st.tb l1 l2 (half_sum hk) (by omega) (by omega) (by omega)
  rw [l3] at hg
  exact hg
theorem fwdFS (h : FS w0 w B g K vb rb wr vf rf) (D D0 j X Y : Nat) {dI kI : Int} (hdI : dI = D) (hkI : kI = 2 * (j : Int) - (D : Int)) (hF : FullF E N M rf D0) (hD0 : D ≤ D0) (hD : D ≤ 2001) (hj : j ≤ D) (hN : N ≤ 1000001) (hM : M ≤ 1000001) (hX : fwd E N M D j = X) (hY : fy E N M D j = Y) (hXN : X ≤ N) (hYM : Y ≤ M) :
    Calls Tryz.prog 57 #[.pointer (some ⟨g, 0, none⟩), .int .i64 dI, .int .i64 kI] wr (FwdRes E N M j X Y D wr) := by
  subst hdI hX hY
  exact fwdlcs_any h.st D j kI hD hj hkI hN hM (by omega) (by omega) (fun d i h1 h2 => hF d i (by omega) h2) (hF D j hD0 hj)
theorem bwdFS (h : FS w0 w B g K vb rb wr vf rf) (hux : K.ux = (N : Int)) (huy : K.uy = (M : Int)) (hdl : K.dl = (N : Int) - (M : Int)) (D D0 j U V : Nat) {dI kI : Int} (hdI : dI = D) (hkI : kI = (D : Int) - 2 * (j : Int)) (hF : FullB E N M rb D0) (hD0 : D ≤ D0) (hD : D ≤ 2001) (hj : j ≤ D) (hN : N ≤ 1000001) (hM : M ≤ 1000001)
    (hU : fwd (rev E N M) N M D j + U = N) (hV : fy (rev E N M) N M D j + V = M) :
    Calls Tryz.prog 58 #[.pointer (some ⟨g, 0, none⟩), .int .i64 dI, .int .i64 kI] wr (BwdRes E j U V N M D wr) := by
  subst hdI
  have h1 := bwdlcs_any h.st D j kI hD hj hkI hN hM hux huy hdl (by omega) (by omega) (fun d i h1 h2 => hF d i (by omega) h2) (hF D j hD0 hj)
  rw [show N - fwd (rev E N M) N M D j = U by omega, show M - fy (rev E N M) N M D j = V by omega] at h1
  exact h1
/-- the graph with other upper bounds -/
def GK.setU (K : GK) (u v : Int) : GK := { K with ux := u, uy := v }
theorem GSt.fr8 (h : GSt wr B g K vf vb rf rb) (o : Nat) (u : Value) {K' : GK} (hc : (gcells K vf vb).setIfInBounds o u = gcells K' vf vb) : GSt (wr.setCell ⟨g, o, none⟩ u) B g K' vf vb rf rb := by
  have hf : Fr (fun q => q = g) wr (wr.setCell ⟨g, o, none⟩ u) := (Fr.refl (fun q => q = g) wr).setCell (p := ⟨g, o, none⟩) (.inl rfl) u
  have hne : ∀ {k : Nat} {zs : Array Value}, Blk wr k 3 zs → k ≠ g := fun hk => hk.ne_ h.blk (by decide)
  have hnv : ∀ {v : Value} {rows : List LRow}, Tab wr B v rows → ∀ q, v.ownBlock = some q → ¬ q = g := fun hT q hq => by
    obtain ⟨_, _, cs, hb⟩ := own_vec hT.own hq
    exact hb.ne_ h.blk (by decide)
  refine ⟨?_, h.tf.fr hf (fun q hq => hnv h.tf q hq) (fun k hk => ?_), h.tb.fr hf (fun q hq => hnv h.tb q hq) (fun k hk => ?_), h.hg, h.nd, h.vne, h.sf, h.sb, h.lf, h.lb⟩
  · have := h.blk.set_ o u
    rw [hc] at this
    exact this
  · obtain ⟨_, zs, hz⟩ := h.tf.blk hk
    exact hne hz
  · obtain ⟨_, zs, hz⟩ := h.tb.blk hk
    exact hne hz
theorem FS.setU (h : FS w0 w B g K vb rb wr vf rf) (u v : Int) (hgw : B ≤ g) : FS w0 wr B g (K.setU u v) vb rb ((wr.setCell ⟨g, 6, none⟩ (.int .i64 u)).setCell ⟨g, 7, none⟩ (.int .i64 v)) vf rf := by
  have h1 : GSt (wr.setCell ⟨g, 6, none⟩ (.int .i64 u)) B g { K with ux := u } vf vb rf rb := h.st.fr8 6 _ rfl
  have h2 : GSt ((wr.setCell ⟨g, 6, none⟩ (.int .i64 u)).setCell ⟨g, 7, none⟩ (.int .i64 v)) B g (K.setU u v) vf vb rf rb := h1.fr8 7 _ rfl
  refine ⟨h2, ?_, (h.bl.setCell hgw _).setCell hgw _⟩
  have hf : Fr (fun q => q = g) wr ((wr.setCell ⟨g, 6, none⟩ (.int .i64 u)).setCell ⟨g, 7, none⟩ (.int .i64 v)) := ((Fr.refl (fun q => q = g) wr).setCell (p := ⟨g, 6, none⟩) (.inl rfl) _).setCell (p := ⟨g, 7, none⟩) (.inl rfl) _
  exact Gr.of_fr hf (fun k hk hS => by subst hS; exact ⟨hgw, h.st.blk.isD_not (by decide)⟩)
end
end Go.Proofs.YtgphjnhbheimiaaGreatDoor
