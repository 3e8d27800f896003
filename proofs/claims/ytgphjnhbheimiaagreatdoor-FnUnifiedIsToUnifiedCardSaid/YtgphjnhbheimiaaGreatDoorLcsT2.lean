/-
  Contracts on the second table of the graph, as the road from both ends uses them. No condition but bounds.
-/
import Derived.Test.YtgphjnhbheimiaaGreatDoorLcsT1
import Derived.Test.YtgphjnhbheimiaaGreatDoorLcsW9
namespace Go.Proofs.YtgphjnhbheimiaaGreatDoor
set_option linter.unusedVariables false
open Go.RowKit

/-- what a backward set leaves -/
def SetPB (w0 w : World) (B g : Nat) (K : GK) (vf : Value) (rf rb : List LRow) (d i : Nat) (x : Int) (e : Ending) (w2 : World) : Prop :=
  e = .returned (.tuple #[]) ∧ ∃ vb2 rb2, FS w0 w B g K vb2 rb2 w2 vf rf ∧ Lab rb2 d i x ∧ (∀ d' i' x', ¬ (d = d' ∧ i = i') → Lab rb d' i' x' → Lab rb2 d' i' x')
section
variable {w0 w wr w2 : World} {B g : Nat} {K : GK} {vb vf : Value} {rb rf : List LRow} {E : EQT} {N M : Nat}
theorem setBS {T fP fS : Nat} {rv : Value} (hS : SeqC w0 B T rv fP fS E N M) (h : FS w0 w B g K vb rb wr vf rf) (hsq : K.sq = .iface T rv) (hdl : K.dl = (N : Int) - (M : Int))
    (d i x y : Nat) {dI kI xI : Int} (hdI : dI = d) (hxI : xI = (N : Int) - (x : Int)) (hxy : (y : Int) = (x : Int) + kI) (hx : x ≤ 3000003) (hy : y ≤ 3000003) (hd : d ≤ rb.length) (hd2 : d ≤ 2001) (hi : i ≤ d) (hk : kI = 2 * (i : Int) - (d : Int)) (X : Nat) (hX : slide (rev E N M) N M x y = X) :
    Calls Tryz.prog 50 #[.pointer (some ⟨g, 0, none⟩), .int .i64 dI, .int .i64 kI, .int .i64 xI] wr (SetPB w0 w B g K vf rf rb d i ((N : Int) - (X : Int))) := by
  subst hdI hxI hX
  have hN := hS.nA
  have hM := hS.nM
  refine (setB_any hS h.bl h.st hsq d i kI x y (by rw [hdl]; omega) hx hy (by rw [hdl]; omega) hd hd2 hi hk).mono ?_
  rintro e w2 ⟨rfl, b, vb2, h1, h2, h3⟩
  exact ⟨rfl, vb2, _, ⟨h1, h.gr.trans h2, h3⟩, lab_new h.st.sb _ _ hd hi, fun d' j' x' hne hl => lab_old hl hd hne⟩
theorem FS.dw (h : FS w0 w B g K vb rb wr vf rf) (hd : DW wr w2) : FS w0 w B g K vb rb w2 vf rf := h.below hd.below
theorem getBS (h : FS w0 w B g K vb rb wr vf rf) (d i : Nat) (x : Int) {dI kI : Int} (hdI : dI = d) (hL : Lab rb d i x) (hk : kI = 2 * (i : Int) - (d : Int)) (hd : d ≤ 2001) (hi : i ≤ d) :
    Calls Tryz.prog 55 #[.pointer (some ⟨g, 0, none⟩), .int .i64 dI, .int .i64 kI] wr fun e w' => e = .returned (.int .i64 x) ∧ ∃ q, w' = wr.drewN q := by
  subst hdI
  exact getB_any h.st d i kI x hL hk hd hi
theorem lookBS {T fP fS : Nat} {rv : Value} (hS : SeqC w0 B T rv fP fS E N M) (h : FS w0 w B g K vb rb wr vf rf) (hsq : K.sq = .iface T rv) (hdl : K.dl = (N : Int) - (M : Int))
    (x y : Nat) {kI xI : Int} (hxI : xI = (N : Int) - (x : Int)) (hxy : (y : Int) = (x : Int) + kI) (hx : x ≤ 3000003) (hy : y ≤ 3000003) (hk : -4000 ≤ kI ∧ kI ≤ 4000) (X : Nat) (hX : slide (rev E N M) N M x y = X) :
    Calls Tryz.prog 56 #[.pointer (some ⟨g, 0, none⟩), .int .i64 kI, .int .i64 xI] wr fun e w' => e = .returned (.int .i64 ((N : Int) - (X : Int))) ∧ Below wr.heap.size wr w' := by
  subst hxI hX
  have hN := hS.nA
  have hM := hS.nM
  exact lookB_any hS h.bl h.st hsq kI x y (by rw [hdl]; omega) hx hy hk (by rw [hdl]; omega)
end
end Go.Proofs.YtgphjnhbheimiaaGreatDoor
