/-
  The walks of lookForward, setForward, getForward, lookBackward, setBackward, getBackward, ok: over any pair of sequences whose methods keep their contracts. No condition but bounds.
-/
import Derived.Test.YtgjbagojcbondaaDoorLcsG
import Derived.Deep.RegionHeld3
import Derived.Deep.QuietTactic
import Derived.BigQuiet
import Derived.IntWalk
import Derived.Outline
import Derived.Shelf.Abstract
namespace Go.Proofs.YtgjbagojcbondaaDoor
set_option linter.unusedVariables false
open Go.RowKit

/-- a pair of sequences whose methods keep their contracts in all worlds that leave what lies below B as it was -/
structure SeqC (w0 : World) (B T : Nat) (rv : Value) (fP fS : Nat) (E : EQT) (NA MA : Nat) : Prop where
  mP : ∀ w, Sem.run Tryd.prog (method 253 T rv ("loop.example" ++ String.singleton (Char.ofNat 47) ++ "pub-g01452" ++ String.singleton (Char.ofNat 47) ++ "pub" ++ String.singleton (Char.ofNat 47) ++ "xdiff_lcs." ++ "commonPrefixLen")) w = .ok (fP, rv) w
  mS : ∀ w, Sem.run Tryd.prog (method 253 T rv ("loop.example" ++ String.singleton (Char.ofNat 47) ++ "pub-g01452" ++ String.singleton (Char.ofNat 47) ++ "pub" ++ String.singleton (Char.ofNat 47) ++ "xdiff_lcs." ++ "commonSuffixLen")) w = .ok (fS, rv) w
  eP : ∀ args w, (callFunc fP args).run Tryd.prog w = .ok (.enter fP args) w
  eS : ∀ args w, (callFunc fS args).run Tryd.prog w = .ok (.enter fS args) w
  cP : ∀ w, Below B w0 w → ∀ x X y Y : Nat, x < X → X ≤ NA → y < Y → Y ≤ MA → Calls Tryd.prog fP #[rv, .int .i64 x, .int .i64 X, .int .i64 y, .int .i64 Y] w fun e w' => e = .returned (.int .i64 (lead E (min (X - x) (Y - y)) x y : Nat)) ∧ Below w.heap.size w w'
  cS : ∀ w, Below B w0 w → ∀ x y : Nat, 0 < x → x ≤ NA → 0 < y → y ≤ MA → Calls Tryd.prog fS #[rv, .int .i64 0, .int .i64 x, .int .i64 0, .int .i64 y] w fun e w' => e = .returned (.int .i64 (lead (rev E NA MA) (min x y) (NA - x) (MA - y) : Nat)) ∧ Below w.heap.size w w'
  nA : NA ≤ 1000001
  nM : MA ≤ 1000001

theorem GSt.cells {w : World} {B g : Nat} {K : GK} {vf vb : Value} {rf rb : List LRow} (h : GSt w B g K vf vb rf rb) :
   w.cell? ⟨g, 0, none⟩ = some K.sq ∧ w.cell? ⟨g, 1, none⟩ = some vf ∧ w.cell? ⟨g, 2, none⟩ = some vb ∧ w.cell? ⟨g, 3, none⟩ = some (.int .i64 K.lim) ∧ w.cell? ⟨g, 4, none⟩ = some (.int .i64 0) ∧ w.cell? ⟨g, 5, none⟩ = some (.int .i64 0) ∧
   w.cell? ⟨g, 6, none⟩ = some (.int .i64 K.ux) ∧ w.cell? ⟨g, 7, none⟩ = some (.int .i64 K.uy) ∧ w.cell? ⟨g, 8, none⟩ = some (.int .i64 K.dl) :=
  ⟨h.blk.cell 0, h.blk.cell 1, h.blk.cell 2, h.blk.cell 3, h.blk.cell 4, h.blk.cell 5, h.blk.cell 6, h.blk.cell 7, h.blk.cell 8⟩

theorem below_unD {B n : Nat} {w w' : World} (h : Below B (w.drewN n) w') : Below B w w' := ⟨h.os, h.tape, h.output, h.size, h.block⟩

set_option maxRecDepth 100000 in
set_option maxHeartbeats 1000000 in
theorem lookF_any {w0 w : World} {B T fP fS NA MA N M g : Nat} {rv vf vb : Value} {E : EQT} {K : GK} {rf rb : List LRow} (hS : SeqC w0 B T rv fP fS E NA MA) (hb : Below B w0 w) (hG : GSt w B g K vf vb rf rb) (hsq : K.sq = .iface T rv) (hux : K.ux = (N : Int)) (huy : K.uy = (M : Int))
    (hN : N ≤ NA) (hM : M ≤ MA) (k : Int) (x y : Nat) (hxy : (x : Int) - k = (y : Int)) (hx : x ≤ 3000003) (hy : y ≤ 3000003) :
    Calls Tryd.prog 37 #[.pointer (some ⟨g, 0, none⟩), .int .i64 k, .int .i64 x] w fun e w' => e = .returned (.int .i64 (slide E N M x y : Nat)) ∧ Below w.heap.size w w' := by
  obtain ⟨c0, _, _, _, c4, c5, c6, c7, _⟩ := hG.cells
  rw [hsq] at c0
  rw [hux] at c6
  rw [huy] at c7
  have hgl := hG.blk.lt
  have m1 := hS.mP
  simp only [String.reduceSingleton, String.reduceAppend, Char.isValue] at m1
  have e1 := hS.eP
  have hnA := hS.nA
  have hnM := hS.nM
  have HS := Lib.hid hS
  have w1 : IntKind.i64.wrap ((x : Int) - k) = (y : Int) := by rw [hxy]; exact IntWalk.i64_in _ (by omega)
  have w2 : IntKind.i64.wrap ((x : Int) + 0) = (x : Int) := by rw [Int.add_zero]; exact IntWalk.i64_in _ (by omega)
  have w3 : IntKind.i64.wrap ((y : Int) + 0) = (y : Int) := by rw [Int.add_zero]; exact IntWalk.i64_in _ (by omega)
  clear hS hG hsq hux huy hxy
  by_cases h1 : x < N
  · by_cases h2 : y < M
    · have hsl : slide E N M x y = x + lead E (min (N - x) (M - y)) x y := rfl
      have hle := lead_le E (min (N - x) (M - y)) x y
      have hcall := fun w' (hb' : Below B w0 w') => HS.out.cP w' hb' x N y M (by omega) (by omega) (by omega) (by omega)
      generalize hL : lead E (min (N - x) (M - y)) x y = L at *
      have HC := Lib.hid hcall; clear hcall
      have HL := Lib.hid hL; clear hL
      have HSL := Lib.hid hsl; clear hsl
      have i1 : (x : Int) < (N : Int) := by omega
      have i2 : (y : Int) < (M : Int) := by omega
      have i3 : (x : Int) + (L : Int) ≤ 3000003 := by omega
      go_enter Tryd.func37, Tryd.ntmps37
      go_wp2
      go_quiet (fail)
      go_wp2
      go_region_held3 (fun w' => w'.cell? ⟨g, 0, none⟩ = some (.iface T rv) ∧ w'.cell? ⟨g, 6, none⟩ = some (.int .i64 N) ∧ w'.cell? ⟨g, 7, none⟩ = some (.int .i64 M)) (go_keep) (first | (go_at_fn fP; refine (HC.out _ (below_drewN hb _)).mono ?_; rintro e w' ⟨rfl, hb'⟩; have z0 : w'.cell? ⟨g, 0, none⟩ = some (.iface T rv) := (hb'.cell (p := ⟨g, 0, none⟩) (by simpa using hgl)).trans c0; have z6 : w'.cell? ⟨g, 6, none⟩ = some (.int .i64 N) := (hb'.cell (p := ⟨g, 6, none⟩) (by simpa using hgl)).trans c6; have z7 : w'.cell? ⟨g, 7, none⟩ = some (.int .i64 M) := (hb'.cell (p := ⟨g, 7, none⟩) (by simpa using hgl)).trans c7))
      go_wp2
      go_ret
      exact ⟨ret_int (by rw [HSL.out, IntWalk.i64_in _ (by omega)]; omega), below_unD hb'⟩
    · have hsl := slide_none E N M x y (.inr (by omega))
      have HSL := Lib.hid hsl; clear hsl
      have i1 : (x : Int) < (N : Int) := by omega
      have i2 : ¬ (y : Int) < (M : Int) := by omega
      go_enter Tryd.func37, Tryd.ntmps37
      go_wp2
      go_quiet (fail)
      go_wp2
      go_ret
      exact ⟨ret_int (by rw [HSL.out]), below_drewN (Below.refl _ _) _⟩
  · have hsl := slide_none E N M x y (.inl (by omega))
    have HSL := Lib.hid hsl; clear hsl
    have i1 : ¬ (x : Int) < (N : Int) := by omega
    go_enter Tryd.func37, Tryd.ntmps37
    go_wp2
    go_quiet (fail)
    go_wp2
    go_ret
    exact ⟨ret_int (by rw [HSL.out]), below_drewN (Below.refl _ _) _⟩

end Go.Proofs.YtgjbagojcbondaaDoor
