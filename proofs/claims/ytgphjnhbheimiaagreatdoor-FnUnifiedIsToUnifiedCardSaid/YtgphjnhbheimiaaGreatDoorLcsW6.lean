/-
  The walk of fdone. No condition but bounds.
-/
import Derived.Test.YtgphjnhbheimiaaGreatDoorLcsW5
import Derived.Test.YtgphjnhbheimiaaGreatDoorLcsR
namespace Go.Proofs.YtgphjnhbheimiaaGreatDoor
set_option linter.unusedVariables false
open Go.RowKit

/-- all labels up to level D are laid -/
def FullF (E : EQT) (N M : Nat) (rf : List LRow) (D : Nat) : Prop := ∀ d j, d ≤ D → j ≤ d → Lab rf d j (fwd E N M d j : Nat)

/-- what fdone gives at the end's label -/
def FdYes (E : EQT) (N M D j : Nat) (w : World) (e : Ending) (w' : World) : Prop :=
  ∃ ps v, e = .returned (.tuple #[.bool true, v]) ∧ w'.ownsRow w.heap.size 131 3 v ps.length (pcCells ps) ∧ Below w.heap.size w w' ∧ Ch E 0 0 ps N M ∧ 2 * sumP ps + D = N + M ∧ FwE E N M D j N M [] ps

set_option maxRecDepth 100000 in
set_option maxHeartbeats 400000 in
theorem fdone_no {w : World} {B g N M : Nat} {vf vb : Value} {E : EQT} {K : GK} {rf rb : List LRow} (hG : GSt w B g K vf vb rf rb) (hux : K.ux = (N : Int)) (huy : K.uy = (M : Int)) (D j : Nat) (k : Int) (hD : D ≤ 2001) (hj : j ≤ D) (hk : k = 2 * (j : Int) - (D : Int)) (hN : N ≤ 1000001) (hM : M ≤ 1000001)
    (hlab : Lab rf D j (fwd E N M D j : Nat)) (hn : ¬ (fwd E N M D j = N ∧ fy E N M D j = M)) :
    Calls Tryz.prog 90 #[.pointer (some ⟨g, 0, none⟩), .int .i64 D, .int .i64 k] w fun e w' => e = .returned (.tuple #[.bool false, .slice none 0 0]) ∧ Below w.heap.size w w' := by
  obtain ⟨l1, l2, l3⟩ := hlab
  have hget := get_any w B g 1 vf rf D j k hG.cells.2.1 hG.tf l1 l2 (half_sum hk) (by omega) (by omega) (by omega)
  rw [l3] at hget
  have hle := fwd_le (E := E) (N := N) (M := M) D j hj
  have hge := fwd_ge E N M D j hj
  have hfy : (fwd E N M D j : Int) - k = (fy E N M D j : Nat) := by unfold fy; omega
  have HGET := Lib.hid hget
  obtain ⟨_, _, _, _, c4, c5, c6, c7, c8⟩ := hG.cells
  rw [hux] at c6
  rw [huy] at c7
  have hbk : -2001 ≤ k ∧ k ≤ 2001 := by omega
  generalize fy E N M D j = y at *
  generalize fwd E N M D j = x at *
  have wy : IntKind.i64.wrap ((x : Int) - k) = (y : Int) := by rw [hfy]; exact IntWalk.i64_in _ (by omega)
  clear hget hk l3 hfy hux huy hG
  by_cases hx : x = N
  · have b1 : ((x : Int) == (N : Int)) = true := by simp; omega
    have b2 : ((y : Int) == (M : Int)) = false := by simp; omega
    have HX := Lib.hid hx; clear hx hn
    go_enter Tryz.func90, Tryz.ntmps90
    go_wp2_with (fail)
    refine HGET.out.mono ?_
    rintro e w' ⟨rfl, q, rfl⟩
    go_wp2
    go_ret2
    exact ⟨rfl, below_drewN (Below.refl _ _) _⟩
  · have b1 : ((x : Int) == (N : Int)) = false := by simp; omega
    clear hx hn
    go_enter Tryz.func90, Tryz.ntmps90
    go_wp2_with (fail)
    refine HGET.out.mono ?_
    rintro e w' ⟨rfl, q, rfl⟩
    go_wp2
    go_ret2
    exact ⟨rfl, below_drewN (Below.refl _ _) _⟩

set_option maxRecDepth 100000 in
set_option maxHeartbeats 400000 in
theorem fdone_yes {w : World} {B g N M : Nat} {vf vb : Value} {E : EQT} {K : GK} {rf rb : List LRow} (hG : GSt w B g K vf vb rf rb) (hux : K.ux = (N : Int)) (huy : K.uy = (M : Int)) (D j : Nat) (k : Int) (hD : D ≤ 2001) (hj : j ≤ D) (hk : k = 2 * (j : Int) - (D : Int)) (hN : N ≤ 1000001) (hM : M ≤ 1000001)
    (hfull : ∀ d i, d < D → i ≤ d → Lab rf d i (fwd E N M d i : Nat)) (hlab : Lab rf D j (fwd E N M D j : Nat)) (hx : fwd E N M D j = N) (hy : fy E N M D j = M) :
    Calls Tryz.prog 90 #[.pointer (some ⟨g, 0, none⟩), .int .i64 D, .int .i64 k] w (FdYes E N M D j w) := by
  have hget := get_any w B g 1 vf rf D j k hG.cells.2.1 hG.tf hlab.1 hlab.2.1 (half_sum hk) (by omega) (by omega) (by omega)
  rw [hlab.2.2, hx] at hget
  have hge := fwd_ge E N M D j hj
  have hfy : (fwd E N M D j : Int) - k = (fy E N M D j : Nat) := by unfold fy; omega
  rw [hx, hy] at hfy
  have HGET := Lib.hid hget
  have hlcs := fun (W : World) (hb : Below w.heap.size w W) => fwdlcs_any (hG.below hb (Nat.le_refl _)) D j k hD hj hk hN hM (by omega) (by omega) hfull hlab
  rw [hx, hy] at hlcs
  have HL := Lib.hid hlcs
  obtain ⟨_, _, _, _, c4, c5, c6, c7, c8⟩ := hG.cells
  rw [hux] at c6
  rw [huy] at c7
  have hbk : -2001 ≤ k ∧ k ≤ 2001 := by omega
  have wy : IntKind.i64.wrap ((N : Int) - k) = (M : Int) := by rw [hfy]; exact IntWalk.i64_in _ (by omega)
  have b1 : ((N : Int) == (N : Int)) = true := by simp
  have b2 : ((M : Int) == (M : Int)) = true := by simp
  clear hget hk hfy hux huy hG hlcs hfull hlab hx hy hge
  go_enter Tryz.func90, Tryz.ntmps90
  go_wp2_with (fail)
  refine HGET.out.mono ?_
  rintro e w' ⟨rfl, q, rfl⟩
  go_wp2_with (fail)
  refine (HL.out _ (below_drewN (Below.refl _ _) _)).mono ?_
  rintro e w2 ⟨ps, ⟨v, rfl, ho, hb2⟩, hch, hs⟩
  have HO := Lib.hid ho; have HB := Lib.hid hb2; have HCH := Lib.hid hch; have HS := Lib.hid hs
  clear ho hb2 hch hs
  go_wp2
  go_ret2
  exact ⟨ps, v, rfl, HO.out, below_unD HB.out, HCH.out, HS.out⟩
end Go.Proofs.YtgphjnhbheimiaaGreatDoor
