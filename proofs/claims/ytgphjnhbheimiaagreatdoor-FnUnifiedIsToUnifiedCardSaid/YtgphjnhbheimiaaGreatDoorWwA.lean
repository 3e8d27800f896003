/-
  The walks of lookForward, setForward, getForward, lookBackward, setBackward, getBackward, ok: over any pair of sequences whose methods keep their contracts. No condition but bounds.
  The walks of setForward and getForward. No condition but bounds.
  The walks of the list of pieces: prepend, append; of ok. No condition but bounds.
-/
import Derived.Test.YtgphjnhbheimiaaGreatDoorTbA
import Derived.Deep.RegionHeld3
import Derived.Deep.QuietTactic
import Derived.BigQuiet
import Derived.IntWalk
import Derived.Outline
import Derived.Shelf.Abstract
namespace Go.Proofs.YtgphjnhbheimiaaGreatDoor
set_option linter.unusedVariables false
open Go.RowKit

/-- a pair of sequences whose methods keep their contracts in all worlds that leave what lies below B as it was -/
structure SeqC (w0 : World) (B T : Nat) (rv : Value) (fP fS : Nat) (E : EQT) (NA MA : Nat) : Prop where
  mP : ∀ w, Sem.run Tryz.prog (method 300 T rv ("loop.example" ++ String.singleton (Char.ofNat 47) ++ "pub-g01452" ++ String.singleton (Char.ofNat 47) ++ "pub" ++ String.singleton (Char.ofNat 47) ++ "xdiff_lcs." ++ "commonPrefixLen")) w = .ok (fP, rv) w
  mS : ∀ w, Sem.run Tryz.prog (method 300 T rv ("loop.example" ++ String.singleton (Char.ofNat 47) ++ "pub-g01452" ++ String.singleton (Char.ofNat 47) ++ "pub" ++ String.singleton (Char.ofNat 47) ++ "xdiff_lcs." ++ "commonSuffixLen")) w = .ok (fS, rv) w
  eP : ∀ args w, (callFunc fP args).run Tryz.prog w = .ok (.enter fP args) w
  eS : ∀ args w, (callFunc fS args).run Tryz.prog w = .ok (.enter fS args) w
  cP : ∀ w, Below B w0 w → ∀ x X y Y : Nat, x < X → X ≤ NA → y < Y → Y ≤ MA → Calls Tryz.prog fP #[rv, .int .i64 x, .int .i64 X, .int .i64 y, .int .i64 Y] w fun e w' => e = .returned (.int .i64 (lead E (min (X - x) (Y - y)) x y : Nat)) ∧ Below w.heap.size w w'
  cS : ∀ w, Below B w0 w → ∀ x y : Nat, 0 < x → x ≤ NA → 0 < y → y ≤ MA → Calls Tryz.prog fS #[rv, .int .i64 0, .int .i64 x, .int .i64 0, .int .i64 y] w fun e w' => e = .returned (.int .i64 (lead (rev E NA MA) (min x y) (NA - x) (MA - y) : Nat)) ∧ Below w.heap.size w w'
  nA : NA ≤ 1000001
  nM : MA ≤ 1000001

theorem GSt.cells {w : World} {B g : Nat} {K : GK} {vf vb : Value} {rf rb : List LRow} (h : GSt w B g K vf vb rf rb) :
   w.cell? ⟨g, 0, none⟩ = some K.sq ∧ w.cell? ⟨g, 1, none⟩ = some vf ∧ w.cell? ⟨g, 2, none⟩ = some vb ∧ w.cell? ⟨g, 3, none⟩ = some (.int .i64 K.lim) ∧ w.cell? ⟨g, 4, none⟩ = some (.int .i64 0) ∧ w.cell? ⟨g, 5, none⟩ = some (.int .i64 0) ∧
   w.cell? ⟨g, 6, none⟩ = some (.int .i64 K.ux) ∧ w.cell? ⟨g, 7, none⟩ = some (.int .i64 K.uy) ∧ w.cell? ⟨g, 8, none⟩ = some (.int .i64 K.dl) :=
  ⟨h.blk.cell 0, h.blk.cell 1, h.blk.cell 2, h.blk.cell 3, h.blk.cell 4, h.blk.cell 5, h.blk.cell 6, h.blk.cell 7, h.blk.cell 8⟩

theorem below_unD {B n : Nat} {w w' : World} (h : Below B (w.drewN n) w') : Below B w w' := ⟨h.os, h.tape, h.output, h.size, h.block⟩

set_option maxRecDepth 100000 in
set_option maxHeartbeats 1000000 in
theorem lookF_any {w0 w : World} {B T fP fS NA MA N M g : Nat} {rv vf vb : Value} {E : EQT} {K : GK} {rf rb : List LRow} (hS : SeqC w0 B T rv fP fS E NA MA) (hb : Below B w0 w) (hG : GSt w B g K vf vb rf rb) (hsq : K.sq = .iface T rv) (hux : K.ux = (N : Int)) (huy : K.uy = (M : Int))
    (hN : N ≤ NA) (hM : M ≤ MA) (k : Int) (x y : Nat) (hxy : (x : Int) - k = (y : Int)) (hx : x ≤ 3000003) (hy : y ≤ 3000003) :
    Calls Tryz.prog 54 #[.pointer (some ⟨g, 0, none⟩), .int .i64 k, .int .i64 x] w fun e w' => e = .returned (.int .i64 (slide E N M x y : Nat)) ∧ Below w.heap.size w w' := by
  obtain ⟨c0, _, _, _, c4, c5, c6, c7, _⟩ := hG.cells
  rw [hsq] at c0
  rw [hux] at c6
  rw [huy] at c7
  have hgl := hG.blk.lt
  have m1 := hS.mP
  simp only [String.reduceSingleton, String.reduceAppend, Char.isValue] at m1
  have e1 := hS.eP
  have hnA := hS.nA
  have hnM := hS.nM
  have HS := Lib.hid hS
  have w1 : IntKind.i64.wrap ((x : Int) - k) = (y : Int) := by rw [hxy]; exact IntWalk.i64_in _ (by omega)
  have w2 : IntKind.i64.wrap ((x : Int) + 0) = (x : Int) := by rw [Int.add_zero]; exact IntWalk.i64_in _ (by omega)
  have w3 : IntKind.i64.wrap ((y : Int) + 0) = (y : Int) := by rw [Int.add_zero]; exact IntWalk.i64_in _ (by omega)
  clear hS hG hsq hux huy hxy
  by_cases h1 : x < N
  · by_cases h2 : y < M
    · have hsl : slide E N M x y = x + lead E (min (N - x) (M - y)) x y := rfl
      have hle := lead_le E (min (N - x) (M - y)) x y
      have hcall := fun w' (hb' : Below B w0 w') => HS.out.cP w' hb' x N y M (by omega) (by omega) (by omega) (by omega)
      generalize hL : lead E (min (N - x) (M - y)) x y = L at *
      have HC := Lib.hid hcall; clear hcall
      have HL := Lib.hid hL; clear hL
      have HSL := Lib.hid hsl; clear hsl
      have i1 : (x : Int) < (N : Int) := by omega
      have i2 : (y : Int) < (M : Int) := by omega
      have i3 : (x : Int) + (L : Int) ≤ 3000003 := by omega
      go_enter Tryz.func54, Tryz.ntmps54
      go_wp2
      go_quiet (fail)
      go_wp2
      go_region_held3 (fun w' => w'.cell? ⟨g, 0, none⟩ = some (.iface T rv) ∧ w'.cell? ⟨g, 6, none⟩ = some (.int .i64 N) ∧ w'.cell? ⟨g, 7, none⟩ = some (.int .i64 M)) (go_keep) (first | (go_at_fn fP; refine (HC.out _ (below_drewN hb _)).mono ?_; rintro e w' ⟨rfl, hb'⟩; have z0 : w'.cell? ⟨g, 0, none⟩ = some (.iface T rv) := (hb'.cell (p := ⟨g, 0, none⟩) (by simpa using hgl)).trans c0; have z6 : w'.cell? ⟨g, 6, none⟩ = some (.int .i64 N) := (hb'.cell (p := ⟨g, 6, none⟩) (by simpa using hgl)).trans c6; have z7 : w'.cell? ⟨g, 7, none⟩ = some (.int .i64 M) := (hb'.cell (p := ⟨g, 7, none⟩) (by simpa using hgl)).trans c7))
      go_wp2
      go_ret
      exact ⟨ret_int (by rw [HSL.out, IntWalk.i64_in _ (by omega)]; omega), below_unD hb'⟩
    · have hsl := slide_none E N M x y (.inr (by omega))
      have HSL := Lib.hid hsl; clear hsl
      have i1 : (x : Int) < (N : Int) := by omega
      have i2 : ¬ (y : Int) < (M : Int) := by omega
      go_enter Tryz.func54, Tryz.ntmps54
      go_wp2
      go_quiet (fail)
      go_wp2
      go_ret
      exact ⟨ret_int (by rw [HSL.out]), below_drewN (Below.refl _ _) _⟩
  · have hsl := slide_none E N M x y (.inl (by omega))
    have HSL := Lib.hid hsl; clear hsl
    have i1 : ¬ (x : Int) < (N : Int) := by omega
    go_enter Tryz.func54, Tryz.ntmps54
    go_wp2
    go_quiet (fail)
    go_wp2
    go_ret
    exact ⟨ret_int (by rw [HSL.out]), below_drewN (Below.refl _ _) _⟩

end Go.Proofs.YtgphjnhbheimiaaGreatDoor

namespace Go.Proofs.YtgphjnhbheimiaaGreatDoor
set_option linter.unusedVariables false
open Go.RowKit

theorem half_sum {d j : Nat} {k : Int} (hk : k = 2 * (j : Int) - (d : Int)) : ((d : Int) + k).tdiv 2 = (j : Int) := by
  rw [show (d : Int) + k = 2 * (j : Int) by omega]
  exact Int.mul_tdiv_cancel_left _ (by decide)
/-- what setForward leaves: the graph with one number more in its first table -/
def SetF (w0 : World) (B g : Nat) (K : GK) (vb : Value) (rf rb : List LRow) (d j : Nat) (x : Int) (w : World) (e : Ending) (w' : World) : Prop :=
  e = .returned (.tuple #[]) ∧ ∃ b vf', GSt w' B g K vf' vb (setRow rf d j x b) rb ∧ Gr B w w' ∧ Below B w0 w'

set_option maxRecDepth 100000 in
set_option maxHeartbeats 300000 in
theorem setF_any {w0 w : World} {B T fP fS NA MA N M g : Nat} {rv vf vb : Value} {E : EQT} {K : GK} {rf rb : List LRow} (hS : SeqC w0 B T rv fP fS E NA MA) (hb : Below B w0 w) (hG : GSt w B g K vf vb rf rb) (hsq : K.sq = .iface T rv) (hux : K.ux = (N : Int)) (huy : K.uy = (M : Int))
    (hN : N ≤ NA) (hM : M ≤ MA) (d j : Nat) (k : Int) (x y : Nat) (hxy : (x : Int) - k = (y : Int)) (hx : x ≤ 3000003) (hy : y ≤ 3000003) (hd : d ≤ rf.length) (hd2 : d ≤ 2001) (hj : j ≤ d) (hk : k = 2 * (j : Int) - (d : Int)) :
    Calls Tryz.prog 49 #[.pointer (some ⟨g, 0, none⟩), .int .i64 d, .int .i64 k, .int .i64 x] w (SetF w0 B g K vb rf rb d j (slide E N M x y : Nat) w) := by
  have hl := lookF_any hS hb hG hsq hux huy hN hM k x y hxy hx hy
  have hle : slide E N M x y ≤ 4000004 := by
    unfold slide
    have := lead_le E (min (N - x) (M - y)) x y
    have := hS.nA
    omega
  generalize hs : slide E N M x y = s at *
  have HL := Lib.hid hl; clear hl
  have HG := Lib.hid hG
  have hgl := hG.blk.lt
  have hset := fun (w' : World) (hb' : Below w.heap.size w w') => set_any w' B g 1 (gcells K vf vb) vf rf d j k (s : Int) (hG.below hb' (Nat.le_refl _)).blk rfl (hG.tf.below hb' (Nat.le_refl _)) hG.hg hd (hG.sf d) hj (List.nodup_append.1 hG.nd).1 (half_sum hk) (by omega) (by have := hG.lf; omega)
  have HSET := Lib.hid hset; clear hset
  have hc4 := fun (w' : World) (hb' : Below w.heap.size w w') => (hG.below hb' (Nat.le_refl _)).cells.2.2.2.2.1
  have HC4 := Lib.hid hc4; clear hc4
  clear hS hs hsq hux huy hxy hG hk
  have w1 : IntKind.i64.wrap (s : Int) = (s : Int) := IntWalk.i64_in _ (by omega)
  go_enter Tryz.func49, Tryz.ntmps49
  go_wp2_with (fail)
  refine HL.out.mono ?_
  rintro e w' ⟨rfl, hb'⟩
  have c4 := HC4.out _ hb'
  go_wp2
  go_region_held3 (fun w' => w'.cell? ⟨g, 4, none⟩ = some (.int .i64 0)) (go_keep) (first | (go_at_call 69; (with_reducible refine (HSET.out _ (by first | exact hb'.drew | exact below_drewN hb' _)).mono ?_); rintro e w2 ⟨rfl, b2, v2, hq1, hq2, hq3, hq4, hq5⟩; have z4 : w2.cell? ⟨g, 4, none⟩ = some (.int .i64 0) := hq1.cell 4; have HQ1 := Lib.hid hq1; have HQ2 := Lib.hid hq2; have HQ3 := Lib.hid hq3; have HQ4 := Lib.hid hq4; have HQ5 := Lib.hid hq5; clear hq1 hq2 hq3 hq4 hq5))
  go_wp2
  go_end0
  obtain ⟨r1, r2⟩ := (HG.out.below hb'.drew (Nat.le_refl _)).setF hd hd2 HQ1.out HQ2.out HQ3.out HQ4.out HQ5.out
  have r3 : Gr B w w2 := (Gr.of_below hb'.drew (Nat.le_refl _)).trans r2
  exact ⟨rfl, b2, v2, r1, r3, hb.trans (r3.below (by have := HG.out.hg; omega))⟩

set_option maxRecDepth 100000 in
set_option maxHeartbeats 400000 in
theorem getF_any {w : World} {B g : Nat} {vf vb : Value} {K : GK} {rf rb : List LRow} (hG : GSt w B g K vf vb rf rb) (d j : Nat) (k x : Int) (hL : Lab rf d j x) (hk : k = 2 * (j : Int) - (d : Int)) (hd : d ≤ 2001) (hj : j ≤ d) :
    Calls Tryz.prog 53 #[.pointer (some ⟨g, 0, none⟩), .int .i64 d, .int .i64 k] w fun e w' => e = .returned (.int .i64 x) ∧ ∃ q, w' = w.drewN q := by
  obtain ⟨l1, l2, l3⟩ := hL
  have hget := get_any w B g 1 vf rf d j k hG.cells.2.1 hG.tf l1 l2 (half_sum hk) (by omega) (by omega) (by omega)
  rw [l3] at hget
  have HGET := Lib.hid hget; clear hget hk l3
  go_enter Tryz.func53, Tryz.ntmps53
  go_wp2_with (fail)
  refine HGET.out.mono ?_
  rintro e w' ⟨rfl, q, rfl⟩
  go_wp2
  go_ret
  exact ⟨rfl, q, rfl⟩

set_option maxRecDepth 100000 in
set_option maxHeartbeats 1000000 in
theorem lookB_any {w0 w : World} {B T fP fS N M g : Nat} {rv vf vb : Value} {E : EQT} {K : GK} {rf rb : List LRow} (hS : SeqC w0 B T rv fP fS E N M) (hb : Below B w0 w) (hG : GSt w B g K vf vb rf rb) (hsq : K.sq = .iface T rv)
    (k : Int) (x y : Nat) (hxy : (N : Int) - (x : Int) - (k + K.dl) = (M : Int) - (y : Int)) (hx : x ≤ 3000003) (hy : y ≤ 3000003) (hk : -4000 ≤ k ∧ k ≤ 4000) (hdl : -4000004 ≤ K.dl ∧ K.dl ≤ 4000004) :
    Calls Tryz.prog 56 #[.pointer (some ⟨g, 0, none⟩), .int .i64 k, .int .i64 ((N : Int) - x)] w fun e w' => e = .returned (.int .i64 ((N : Int) - (slide (rev E N M) N M x y : Nat))) ∧ Below w.heap.size w w' := by
  obtain ⟨c0, _, _, _, c4, c5, _, _, c8⟩ := hG.cells
  rw [hsq] at c0
  have hgl := hG.blk.lt
  have m1 := hS.mS
  simp only [String.reduceSingleton, String.reduceAppend, Char.isValue] at m1
  have e1 := hS.eS
  have hnA := hS.nA
  have hnM := hS.nM
  have HS := Lib.hid hS
  generalize K.dl = dl at *
  obtain ⟨u, hu⟩ : ∃ u, (N : Int) - (x : Int) = u := ⟨_, rfl⟩
  obtain ⟨v, hv⟩ : ∃ v, (M : Int) - (y : Int) = v := ⟨_, rfl⟩
  obtain ⟨kd, hkd⟩ : ∃ kd, k + dl = kd := ⟨_, rfl⟩
  rw [hu, hv, hkd] at hxy
  rw [hu]
  have w0' : IntKind.i64.wrap (k + dl) = kd := by rw [hkd]; exact IntWalk.i64_in _ (by omega)
  have w1 : IntKind.i64.wrap (u - kd) = v := by rw [hxy]; exact IntWalk.i64_in _ (by omega)
  have w2 : IntKind.i64.wrap u = u := IntWalk.i64_in _ (by omega)
  have w3 : IntKind.i64.wrap v = v := IntWalk.i64_in _ (by omega)
  have hu1 : -3000003 ≤ u ∧ u ≤ 1000001 := by omega
  have hv1 : -3000003 ≤ v ∧ v ≤ 1000001 := by omega
  have hk2 : -4004000 ≤ kd ∧ kd ≤ 4004000 := by omega
  have HU := Lib.hid hu; have HV := Lib.hid hv
  clear hu hv hkd hS hG hsq hxy
  by_cases h1 : 0 < u
  · by_cases h2 : 0 < v
    · have hsl : slide (rev E N M) N M x y = x + lead (rev E N M) (min (N - x) (M - y)) x y := rfl
      have hle := lead_le (rev E N M) (min (N - x) (M - y)) x y
      have hun : ((N - x : Nat) : Int) = u := by have := HU.out; omega
      have hvn : ((M - y : Nat) : Int) = v := by have := HV.out; omega
      have hcall := fun w' (hb' : Below B w0 w') => HS.out.cS w' hb' (N - x) (M - y) (by omega) (by omega) (by omega) (by omega)
      have hxN : x ≤ N := by have := HU.out; omega
      have hyM : y ≤ M := by have := HV.out; omega
      rw [hun, hvn, show N - (N - x) = x by omega, show M - (M - y) = y by omega] at hcall
      generalize hL : lead (rev E N M) (min (N - x) (M - y)) x y = L at *
      have HC := Lib.hid hcall; clear hcall
      have HL := Lib.hid hL; clear hL
      have HSL := Lib.hid hsl; clear hsl
      have hLu : (L : Int) ≤ u := by omega
      have w4 : IntKind.i64.wrap (u - (L : Int)) = u - (L : Int) := IntWalk.i64_in _ (by omega)
      clear hun hvn
      go_enter Tryz.func56, Tryz.ntmps56
      go_wp2
      go_quiet (fail)
      go_wp2_with (fail)
      (with_reducible refine (HC.out _ (by first | exact hb.drew | exact below_drewN hb _)).mono ?_)
      rintro e w' ⟨rfl, hb'⟩
      go_wp2
      go_ret
      exact ⟨ret_int (by rw [HSL.out]; have := HU.out; omega), below_unD hb'⟩
    · have hsl := slide_none (rev E N M) N M x y (.inr (by have := HV.out; omega))
      have HSL := Lib.hid hsl; clear hsl
      go_enter Tryz.func56, Tryz.ntmps56
      go_wp2
      go_quiet (fail)
      go_wp2
      go_ret
      exact ⟨ret_int (by rw [HSL.out, HU.out]), below_drewN (Below.refl _ _) _⟩
  · have hsl := slide_none (rev E N M) N M x y (.inl (by have := HU.out; omega))
    have HSL := Lib.hid hsl; clear hsl
    go_enter Tryz.func56, Tryz.ntmps56
    go_wp2
    go_quiet (fail)
    go_wp2
    go_ret
    exact ⟨ret_int (by rw [HSL.out, HU.out]), below_drewN (Below.refl _ _) _⟩

/-- what setBackward leaves: the graph with one number more in its second table -/
def SetB (w0 : World) (B g : Nat) (K : GK) (vf : Value) (rf rb : List LRow) (d j : Nat) (x : Int) (w : World) (e : Ending) (w' : World) : Prop :=
  e = .returned (.tuple #[]) ∧ ∃ b vb', GSt w' B g K vf vb' rf (setRow rb d j x b) ∧ Gr B w w' ∧ Below B w0 w'

set_option maxRecDepth 100000 in
set_option maxHeartbeats 300000 in
theorem setB_any {w0 w : World} {B T fP fS N M g : Nat} {rv vf vb : Value} {E : EQT} {K : GK} {rf rb : List LRow} (hS : SeqC w0 B T rv fP fS E N M) (hb : Below B w0 w) (hG : GSt w B g K vf vb rf rb) (hsq : K.sq = .iface T rv)
    (d j : Nat) (k : Int) (x y : Nat) (hxy : (N : Int) - (x : Int) - (k + K.dl) = (M : Int) - (y : Int)) (hx : x ≤ 3000003) (hy : y ≤ 3000003) (hdl : -4000004 ≤ K.dl ∧ K.dl ≤ 4000004) (hd : d ≤ rb.length) (hd2 : d ≤ 2001) (hj : j ≤ d) (hk : k = 2 * (j : Int) - (d : Int)) :
    Calls Tryz.prog 50 #[.pointer (some ⟨g, 0, none⟩), .int .i64 d, .int .i64 k, .int .i64 ((N : Int) - x)] w (SetB w0 B g K vf rf rb d j ((N : Int) - (slide (rev E N M) N M x y : Nat)) w) := by
  have hl := lookB_any hS hb hG hsq k x y hxy hx hy (by omega) hdl
  have hle : slide (rev E N M) N M x y ≤ 4000004 := by
    unfold slide
    have := lead_le (rev E N M) (min (N - x) (M - y)) x y
    have := hS.nA
    omega
  have hnA := hS.nA
  generalize hs : (N : Int) - (slide (rev E N M) N M x y : Nat) = s at *
  have hsb : -4000004 ≤ s ∧ s ≤ 1000001 := by omega
  have HL := Lib.hid hl; clear hl
  have HG := Lib.hid hG
  have hgl := hG.blk.lt
  have hset := fun (w' : World) (hb' : Below w.heap.size w w') => set_any w' B g 2 (gcells K vf vb) vb rb d j k s (hG.below hb' (Nat.le_refl _)).blk rfl (hG.tb.below hb' (Nat.le_refl _)) hG.hg hd (hG.sb d) hj (List.nodup_append.1 hG.nd).2.1 (half_sum hk) (by omega) (by have := hG.lb; omega)
  have HSET := Lib.hid hset; clear hset
  have hc4 := fun (w' : World) (hb' : Below w.heap.size w w') => (hG.below hb' (Nat.le_refl _)).cells.2.2.2.2.1
  have HC4 := Lib.hid hc4; clear hc4
  clear hS hs hsq hxy hG hk hle
  have w1 : IntKind.i64.wrap s = s := IntWalk.i64_in _ (by omega)
  go_enter Tryz.func50, Tryz.ntmps50
  go_wp2_with (fail)
  refine HL.out.mono ?_
  rintro e w' ⟨rfl, hb'⟩
  have c4 := HC4.out _ hb'
  go_wp2
  go_region_held3 (fun w' => w'.cell? ⟨g, 4, none⟩ = some (.int .i64 0)) (go_keep) (first | (go_at_call 69; (with_reducible refine (HSET.out _ (by first | exact hb'.drew | exact below_drewN hb' _)).mono ?_); rintro e w2 ⟨rfl, b2, v2, hq1, hq2, hq3, hq4, hq5⟩; have z4 : w2.cell? ⟨g, 4, none⟩ = some (.int .i64 0) := hq1.cell 4; have HQ1 := Lib.hid hq1; have HQ2 := Lib.hid hq2; have HQ3 := Lib.hid hq3; have HQ4 := Lib.hid hq4; have HQ5 := Lib.hid hq5; clear hq1 hq2 hq3 hq4 hq5))
  go_wp2
  go_end0
  obtain ⟨r1, r2⟩ := (HG.out.below hb'.drew (Nat.le_refl _)).setB hd hd2 HQ1.out HQ2.out HQ3.out HQ4.out HQ5.out
  have r3 : Gr B w w2 := (Gr.of_below hb'.drew (Nat.le_refl _)).trans r2
  exact ⟨rfl, b2, v2, r1, r3, hb.trans (r3.below (by have := HG.out.hg; omega))⟩

set_option maxRecDepth 100000 in
set_option maxHeartbeats 400000 in
theorem getB_any {w : World} {B g : Nat} {vf vb : Value} {K : GK} {rf rb : List LRow} (hG : GSt w B g K vf vb rf rb) (d j : Nat) (k x : Int) (hL : Lab rb d j x) (hk : k = 2 * (j : Int) - (d : Int)) (hd : d ≤ 2001) (hj : j ≤ d) :
    Calls Tryz.prog 55 #[.pointer (some ⟨g, 0, none⟩), .int .i64 d, .int .i64 k] w fun e w' => e = .returned (.int .i64 x) ∧ ∃ q, w' = w.drewN q := by
  obtain ⟨l1, l2, l3⟩ := hL
  have hget := get_any w B g 2 vb rb d j k hG.cells.2.2.1 hG.tb l1 l2 (half_sum hk) (by omega) (by omega) (by omega)
  rw [l3] at hget
  have HGET := Lib.hid hget; clear hget hk l3
  go_enter Tryz.func55, Tryz.ntmps55
  go_wp2_with (fail)
  refine HGET.out.mono ?_
  rintro e w' ⟨rfl, q, rfl⟩
  go_wp2
  go_ret
  exact ⟨rfl, q, rfl⟩
end Go.Proofs.YtgphjnhbheimiaaGreatDoor

namespace Go.Proofs.YtgphjnhbheimiaaGreatDoor
set_option linter.unusedVariables false
open Go.RowKit

def Pc.cells (p : Pc) : List Value := [.int .i64 p.x, .int .i64 p.y, .int .i64 p.l]
def pcCells (ps : List Pc) : List Value := ps.flatMap Pc.cells
theorem pcCells_nil : pcCells [] = [] := rfl
theorem pcCells_cons (p : Pc) (ps : List Pc) : pcCells (p :: ps) = p.cells ++ pcCells ps := rfl
theorem pcCells_append (a b : List Pc) : pcCells (a ++ b) = pcCells a ++ pcCells b := by simp [pcCells]
theorem pcCells_length (ps : List Pc) : (pcCells ps).length = ps.length * 3 := by
  induction ps with
  | nil => rfl
  | cons p ps ih => rw [pcCells_cons, List.length_append, ih]; simp [Pc.cells]; omega
theorem pcCells_one (ps : List Pc) : ∀ u ∈ pcCells ps, u.oneCell' = true := by
  intro u hu
  simp only [pcCells, List.mem_flatMap] at hu
  obtain ⟨x, _, hx⟩ := hu
  simp only [Pc.cells, List.mem_cons, List.not_mem_nil, or_false] at hx
  rcases hx with rfl | rfl | rfl <;> rfl
theorem pcCells_get (ps : List Pc) (k : Nat) (h : k < ps.length) :
    (pcCells ps)[k * 3]? = some (.int .i64 ps[k].x) ∧ (pcCells ps)[k * 3 + 1]? = some (.int .i64 ps[k].y) ∧ (pcCells ps)[k * 3 + 2]? = some (.int .i64 ps[k].l) := by
  induction ps generalizing k with
  | nil => simp at h
  | cons p ps ih =>
    rw [pcCells_cons]
    cases k with
    | zero => simp [Pc.cells]
    | succ k =>
      have hl : p.cells.length = 3 := rfl
      have := ih k (by simpa using h)
      refine ⟨?_, ?_, ?_⟩
      · rw [List.getElem?_append_right (by omega), hl, show (k + 1) * 3 - 3 = k * 3 by omega, this.1]; rfl
      · rw [List.getElem?_append_right (by omega), hl, show (k + 1) * 3 + 1 - 3 = k * 3 + 1 by omega, this.2.1]; rfl
      · rw [List.getElem?_append_right (by omega), hl, show (k + 1) * 3 + 2 - 3 = k * 3 + 2 by omega, this.2.2]; rfl
theorem infoG : (Tryz.prog.info? 131).map (fun i => (i.zero, i.size, i.bytes)) = some (some (.agg #[.int .i64 0, .int .i64 0, .int .i64 0]), 3, 24) := by kernel_rfl
theorem pc_lit1 (w : World) (t : TypeId) (x y l : Nat) : CellsR (w.alloc (.cells #[.int .i64 (x : Int), .int .i64 (y : Int), .int .i64 (l : Int)] t)) (some ⟨w.heap.size, 0, none⟩) (pcCells [⟨x, y, l⟩]) := by
  refine .inr ⟨_, _, rfl, fun j u hu => ?_⟩
  have := (Blk.new w t #[.int .i64 (x : Int), .int .i64 (y : Int), .int .i64 (l : Int)]).cell (0 + j)
  rw [this]
  simpa [pcCells, Pc.cells] using hu

/-- a list of pieces in new memory, in a row of the call's own -/
def PcRes (B0 : Nat) (w : World) (qs : List Pc) (e : Ending) (w' : World) : Prop :=
  ∃ v, e = .returned v ∧ w'.ownsRow B0 131 3 v qs.length (pcCells qs) ∧ Below B0 w w'

theorem run_append_types {P : Program} (w : World) (t t' ty e e' : TypeId) (ht : P.underlying t = some (.slice e)) (ht' : P.underlying t' = some (.slice e')) (A A' : Option Addr) (n n' c c' : Nat) :
    (Builtin.append_ #[t, t'] ty #[.slice A n c, .slice A' n' c']).run P w = (Builtin.append_ #[t, t] ty #[.slice A n c, .slice A' n' c']).run P w := by
  simp [Builtin.append_, run_underlying ht, run_underlying ht']
theorem wpList_append_two {P : Program} (w : World) {ops : Array Oper} {rest : List Oper} {o : Oper} {a : Act} {Q : Exit → Act → World → Prop} (hgd : o.guard = none) (s x : Operand) (t t' : TypeId)
    (ho : o.op = .call { callee := .builtin .append, args := #[s, x], argTypes := #[t, t'] })
    (base : Nat) (e e' : TypeId) (i : TypeInfo) (z : Value) (size bytes : Nat) (ht : P.underlying t = some (.slice e)) (ht' : P.underlying t' = some (.slice e')) (hi : P.info? e = some i) (hz : i.zero = some z)
    (hsize : i.size = size) (hby : i.bytes = bytes) (hzs : z.cells.size = size) (hsz : 0 < size)
    (v : Value) (n : Nat) (xs : List Value) (hs : a.eval s = v) (hown : w.ownsRow base e size v n xs)
    (A : Option Addr) (m c : Nat) (news : List Value) (hx : a.eval x = .slice A m c) (hr : CellsR w A news) (hm : news.length = m * size) (h1 : ∀ u ∈ news, u.oneCell' = true)
    (h63 : n + m ≤ maxLen) (hbytes : (n + m) * bytes ≤ 140737488355328) (hbase : base ≤ w.heap.size)
    (h : ∀ A' c' w', w'.ownsRow base e size (.slice A' (n + m) c') (n + m) (xs ++ news) → w.grownBy w' v.ownBlock → ((Value.slice A' (n + m) c').ownBlock = v.ownBlock ∨ (Value.slice A' (n + m) c').ownBlock = some w.heap.size) → wpList P ops Q rest (a.put o.dst (.slice A' (n + m) c')) w') : wpList P ops Q (o :: rest) a w := by
  refine wpList_plain hgd fun K hK => ?_
  obtain ⟨v', w', hrun, h2, h3, h4⟩ := run_append_any (P := P) w base t o.type e i z size bytes ht hi hz hsize hby hzs hsz v n xs hown A m c news hr hm h1 h63 hbytes hbase
  obtain ⟨A0, c0, rfl⟩ := own_form hown
  have hrun' := (run_append_types w t t' o.type e e' ht ht' A0 A n m c0 c).trans hrun
  unfold Oper.wp execOp
  simp only [ho, resolve, invoke, builtin, Sem.run_bind, Sem.run_pure, Result.andThen_ok, List.map_toArray, List.map_cons, List.map_nil, hs, hx, hrun']
  refine hK _ _ ?_
  obtain ⟨A', c', rfl⟩ := own_form h2
  exact h A' c' w' h2 h3 h4
theorem own_someG {w : World} {base e size n c : Nat} {A : Option Addr} {xs : List Value} (h : w.ownsRow base e size (.slice A n c) n xs) (hn : 0 < n) : ∃ g, A = some ⟨g, 0, none⟩ ∧ base ≤ g ∧ g < w.heap.size := by
  obtain ⟨g, rfl⟩ := own_someT h hn
  exact ⟨g, rfl, h.lt g rfl⟩

theorem pc_own (w : World) (B0 x y : Nat) (hB : B0 ≤ w.heap.size) : (w.alloc (.cells #[.int .i64 (x : Int), .int .i64 (y : Int), .int .i64 1] 131)).ownsRow B0 131 3 (.slice (some ⟨w.heap.size, 0, none⟩) 1 1) 1 (pcCells [⟨x, y, 1⟩]) :=
  World.ownsRow_lit w #[.int .i64 (x : Int), .int .i64 (y : Int), .int .i64 1] 1 hB (by simp [maxLen]) rfl

set_option maxRecDepth 100000 in
set_option maxHeartbeats 1000000 in
theorem prepend_any (w : World) (B0 : Nat) (v : Value) (ps : List Pc) (x y : Nat) (hown : w.ownsRow B0 131 3 v ps.length (pcCells ps)) (hB : B0 ≤ w.heap.size) (hl : ps.length ≤ 2000002) (hpl : ∀ p ∈ ps, p.l ≤ 2000002) (hx : x ≤ 2000002) (hy : y ≤ 2000002) :
   Calls Tryz.prog 74 #[v, .int .i64 x, .int .i64 y] w (PcRes B0 w (prep x y ps)) := by
  obtain ⟨i0, hi, hz0, hz1, hz2⟩ := info_parts infoG
  obtain ⟨A, c, rfl⟩ := own_form hown
  cases ps with
  | nil =>
    have HO := Lib.hid hown; clear hown
    have HR : CellsR w A (pcCells []) := CellsR.nil _ _
    have HRR := Lib.hid HR; clear HR
    go_enter Tryz.func74, Tryz.ntmps74
    go_wp2_with (at_builtin; refine wpList_append_two _ rfl (.tmp 50) (.tmp 51) _ _ rfl B0 131 131 i0 _ 3 24 Tryz.underlying85 Tryz.underlying86 hi hz0 hz1 hz2 rfl (by omega) (.slice (some ⟨w.heap.size + 1, 0, none⟩) 1 1) 1 (pcCells [⟨x, y, 1⟩]) rfl (by have h5 := pc_own (w.alloc (.cells #[.int .i64 (x : Int), .int .i64 (y : Int), .int .i64 1] 131)) B0 x y (by simp; omega); simpa using h5) A 0 c (pcCells []) rfl (CellsR.nil _ _) rfl (pcCells_one _) (by unfold maxLen; omega) (by omega) (by simp; omega) ?_; intro A5 c5 w5 hown5 hg5 hat5)
    go_ret
    refine ⟨_, rfl, ?_, ?_⟩
    · simpa [prep, pcCells_nil] using hown5
    · exact (((Below.refl _ _).alloc hB _).alloc (by simp; omega) _).grown hg5 (by simp; omega) (by intro k hk; simp [Value.ownBlock] at hk; omega)
  | cons p ps =>
    obtain ⟨ga, rfl, hga1, hga2⟩ := own_someG hown (by simp)
    have hg := pcCells_get (p :: ps) 0 (by simp)
    simp only [Nat.zero_mul, Nat.zero_add, List.getElem_cons_zero] at hg
    have hc0 := (hown.cellAt (j := 0) (by simp only [List.length_cons]; omega)).trans hg.1
    have hc1 := (hown.cellAt (j := 1) (by simp only [List.length_cons]; omega)).trans hg.2.1
    have hc2 := (hown.cellAt (j := 2) (by simp only [List.length_cons]; omega)).trans hg.2.2
    have hf0 := hown.frozenAt 0
    have hf1 := hown.frozenAt 1
    have hf2 := hown.frozenAt 2
    have hpl0 := hpl p (by simp)
    have HO := Lib.hid hown; clear hown hg hpl
    obtain ⟨n, hn⟩ : ∃ n, (p :: ps).length = n := ⟨_, rfl⟩
    have hn0 : 0 < n := by rw [← hn]; simp
    have hn1 : (0 : Int) < (n : Int) := by omega
    rw [hn] at hl ⊢
    rw [hn] at HO
    have HN := Lib.hid hn; clear hn
    have hprep := prep_cons x y p ps
    by_cases hx1 : (p.x : Int) = (x : Int) + 1
    · by_cases hy1 : (p.y : Int) = (y : Int) + 1
      · rw [if_pos ⟨by omega, by omega⟩] at hprep
        have HP := Lib.hid hprep; clear hprep
        go_enter Tryz.func74, Tryz.ntmps74
        go_wp2
        go_ret
        refine ⟨_, rfl, ?_, (((Below.refl _ _).setCell (p := ⟨ga, 0, none⟩) hga1 _).setCell (p := ⟨ga, 1, none⟩) hga1 _).setCell (p := ⟨ga, 2, none⟩) hga1 _⟩
        have h3 := (((HO.out.stored 0 (.int .i64 (x : Int))).1.stored 1 (.int .i64 (y : Int))).1.stored 2 (.int .i64 ((p.l : Int) + 1))).1
        have e : (((pcCells (p :: ps)).set 0 (.int .i64 (x : Int))).set 1 (.int .i64 (y : Int))).set 2 (.int .i64 ((p.l : Int) + 1)) = pcCells (⟨x, y, p.l + 1⟩ :: ps) := by
          simp [pcCells_cons, Pc.cells]
        rw [e] at h3
        rw [HP.out]
        have h4 : n = (⟨x, y, p.l + 1⟩ :: ps : List Pc).length := by rw [← HN.out]; simp
        rw [← h4]
        exact h3
      · rw [if_neg (by omega)] at hprep
        have HP := Lib.hid hprep; clear hprep
        go_enter Tryz.func74, Tryz.ntmps74
        go_wp2_with (at_builtin; refine wpList_append_two _ rfl (.tmp 50) (.tmp 51) _ _ rfl B0 131 131 i0 _ 3 24 Tryz.underlying85 Tryz.underlying86 hi hz0 hz1 hz2 rfl (by omega) (.slice (some ⟨w.heap.size + 1, 0, none⟩) 1 1) 1 (pcCells [⟨x, y, 1⟩]) rfl (by have h5 := pc_own (w.alloc (.cells #[.int .i64 (x : Int), .int .i64 (y : Int), .int .i64 1] 131)) B0 x y (by simp; omega); simpa using h5) (some ⟨ga, 0, none⟩) n c (pcCells (p :: ps)) rfl (((CellsR.of_own HO.out).alloc _).alloc _) (by rw [pcCells_length, HN.out]) (pcCells_one _) (by unfold maxLen; omega) (by omega) (by simp; omega) ?_; intro A5 c5 w5 hown5 hg5 hat5)
        go_ret
        refine ⟨_, rfl, ?_, (((Below.refl _ _).alloc hB _).alloc (by simp; omega) _).grown hg5 (by simp; omega) (by intro k hk; simp [Value.ownBlock] at hk; omega)⟩
        rw [HP.out]
        have h4 : 1 + n = (⟨x, y, 1⟩ :: p :: ps : List Pc).length := by rw [← HN.out]; simp; omega
        rw [← h4]
        exact hown5
    · rw [if_neg (by omega)] at hprep
      have HP := Lib.hid hprep; clear hprep
      go_enter Tryz.func74, Tryz.ntmps74
      go_wp2_with (at_builtin; refine wpList_append_two _ rfl (.tmp 50) (.tmp 51) _ _ rfl B0 131 131 i0 _ 3 24 Tryz.underlying85 Tryz.underlying86 hi hz0 hz1 hz2 rfl (by omega) (.slice (some ⟨w.heap.size + 1, 0, none⟩) 1 1) 1 (pcCells [⟨x, y, 1⟩]) rfl (by have h5 := pc_own (w.alloc (.cells #[.int .i64 (x : Int), .int .i64 (y : Int), .int .i64 1] 131)) B0 x y (by simp; omega); simpa using h5) (some ⟨ga, 0, none⟩) n c (pcCells (p :: ps)) rfl (((CellsR.of_own HO.out).alloc _).alloc _) (by rw [pcCells_length, HN.out]) (pcCells_one _) (by unfold maxLen; omega) (by omega) (by simp; omega) ?_; intro A5 c5 w5 hown5 hg5 hat5)
      go_ret
      refine ⟨_, rfl, ?_, (((Below.refl _ _).alloc hB _).alloc (by simp; omega) _).grown hg5 (by simp; omega) (by intro k hk; simp [Value.ownBlock] at hk; omega)⟩
      rw [HP.out]
      have h4 : 1 + n = (⟨x, y, 1⟩ :: p :: ps : List Pc).length := by rw [← HN.out]; simp; omega
      rw [← h4]
      exact hown5

set_option maxRecDepth 100000 in
set_option maxHeartbeats 1000000 in
theorem appd_any (w : World) (B0 : Nat) (v : Value) (ps : List Pc) (x y : Nat) (hown : w.ownsRow B0 131 3 v ps.length (pcCells ps)) (hB : B0 ≤ w.heap.size) (hl : ps.length ≤ 2000002) (hpl : ∀ p ∈ ps, p.l ≤ 2000002 ∧ p.x ≤ 2000002 ∧ p.y ≤ 2000002) (hx : x ≤ 2000002) (hy : y ≤ 2000002) :
   Calls Tryz.prog 75 #[v, .int .i64 x, .int .i64 y] w (PcRes B0 w (appd ps x y)) := by
  obtain ⟨i0, hi, hz0, hz1, hz2⟩ := info_parts infoG
  obtain ⟨A, c, rfl⟩ := own_form hown
  have hlit : CellsR (w.alloc (.cells #[.int .i64 (x : Int), .int .i64 (y : Int), .int .i64 1] 131)) (some ⟨w.heap.size, 0, none⟩) (pcCells [⟨x, y, 1⟩]) := pc_lit1 w _ x y 1
  have HLIT := Lib.hid hlit; clear hlit
  rcases snoc_form ps with h | ⟨qs, q, h⟩
  · subst h
    have HO := Lib.hid hown; clear hown
    go_enter Tryz.func75, Tryz.ntmps75
    go_wp2_with (at_builtin; refine wpList_append_any _ rfl (.tmp 48) (.tmp 52) _ rfl B0 131 i0 _ 3 24 Tryz.underlying86 hi hz0 hz1 hz2 rfl (by omega) (.slice A 0 c) 0 (pcCells []) rfl (HO.out.alloc _) (some ⟨w.heap.size, 0, none⟩) 1 1 (pcCells [⟨x, y, 1⟩]) rfl HLIT.out rfl (pcCells_one _) (by unfold maxLen; omega) (by omega) (by simp; omega) ?_; intro A5 c5 w5 hown5 hg5 hat5)
    go_ret
    refine ⟨_, rfl, ?_, ((Below.refl _ _).alloc hB _).grown hg5 (by simp; omega) (fun g hg => (HO.out.lt g hg).1)⟩
    simpa [appd_nil, pcCells_nil] using hown5
  · subst h
    have hga := own_someG hown (by simp)
    obtain ⟨ga, rfl, hga1, hga2⟩ := hga
    have hg := pcCells_get (qs ++ [q]) qs.length (by simp)
    simp only [List.getElem_concat_length] at hg
    have hc0 := (hown.cellAt (j := qs.length * 3) (by simp only [List.length_append, List.length_singleton]; omega)).trans hg.1
    have hc1 := (hown.cellAt (j := qs.length * 3 + 1) (by simp only [List.length_append, List.length_singleton]; omega)).trans hg.2.1
    have hc2 := (hown.cellAt (j := qs.length * 3 + 2) (by simp only [List.length_append, List.length_singleton]; omega)).trans hg.2.2
    have hf2 := hown.frozenAt (qs.length * 3 + 2)
    obtain ⟨hpl0, hpl1, hpl2⟩ := hpl q (by simp)
    have hlen : (qs ++ [q]).length = qs.length + 1 := by simp
    rw [hlen] at hown hl
    rw [hlen]
    have HO := Lib.hid hown; clear hown hg hpl hlen
    obtain ⟨n, hn⟩ : ∃ n, qs.length = n := ⟨_, rfl⟩
    rw [hn] at hl hc0 hc1 hc2 hf2 ⊢
    rw [hn] at HO
    have HN := Lib.hid hn; clear hn
    have happ := appd_snoc qs q x y
    have k0 : (0 : Int) < (n : Int) + 1 := by omega
    have w1 : IntKind.i64.wrap ((q.x : Int) + (q.l : Int)) = (q.x : Int) + (q.l : Int) := IntWalk.i64_in _ (by omega)
    have w2 : IntKind.i64.wrap ((q.y : Int) + (q.l : Int)) = (q.y : Int) + (q.l : Int) := IntWalk.i64_in _ (by omega)
    have w3 : IntKind.i64.wrap ((n : Int) + 1 - 1) = (n : Int) := by rw [show (n : Int) + 1 - 1 = (n : Int) by omega]; exact IntWalk.i64_in _ (by omega)
    by_cases e1 : q.x + q.l = x
    · have b1 : ((q.x : Int) + (q.l : Int) == (x : Int)) = true := by simp; omega
      by_cases e2 : q.y + q.l = y
      · have b2 : ((q.y : Int) + (q.l : Int) == (y : Int)) = true := by simp; omega
        rw [if_pos ⟨e1, e2⟩] at happ
        have HP := Lib.hid happ; clear happ e1 e2
        go_enter Tryz.func75, Tryz.ntmps75
        go_wp2
        go_quiet (fail)
        go_wp2
        go_ret
        refine ⟨_, rfl, ?_, below_drewN ((Below.refl _ _).setCell (p := ⟨ga, n * 3 + 2, none⟩) hga1 _) _⟩
        have h3 := (HO.out.stored (n * 3 + 2) (.int .i64 ((q.l : Int) + 1))).1
        have e : (pcCells (qs ++ [q])).set (n * 3 + 2) (.int .i64 ((q.l : Int) + 1)) = pcCells (qs ++ [⟨q.x, q.y, q.l + 1⟩]) := by
          rw [pcCells_append, pcCells_append, List.set_append_right _ _ (by rw [pcCells_length, HN.out]; omega), pcCells_length, HN.out, show n * 3 + 2 - n * 3 = 2 by omega]
          simp [pcCells, Pc.cells]
        rw [e] at h3
        rw [HP.out]
        have h4 : n + 1 = (qs ++ [⟨q.x, q.y, q.l + 1⟩] : List Pc).length := by rw [← HN.out]; simp
        rw [← h4]
        exact h3
      · have b2 : ((q.y : Int) + (q.l : Int) == (y : Int)) = false := by simp; omega
        rw [if_neg (fun h => e2 h.2)] at happ
        have HP := Lib.hid happ; clear happ e1 e2
        go_enter Tryz.func75, Tryz.ntmps75
        go_wp2
        go_quiet (fail)
        go_wp2_with (at_builtin; refine wpList_append_any _ rfl (.tmp 48) (.tmp 52) _ rfl B0 131 i0 _ 3 24 Tryz.underlying86 hi hz0 hz1 hz2 rfl (by omega) (.slice (some ⟨ga, 0, none⟩) (n + 1) c) (n + 1) (pcCells (qs ++ [q])) rfl (by exact HO.out.alloc _) (some ⟨w.heap.size, 0, none⟩) 1 1 (pcCells [⟨x, y, 1⟩]) rfl (by exact HLIT.out) rfl (pcCells_one _) (by unfold maxLen; omega) (by omega) (by simp; omega) ?_; intro A5 c5 w5 hown5 hg5 hat5)
        go_ret
        refine ⟨_, rfl, ?_, (below_drewN ((Below.refl _ _).alloc hB _) _).grown hg5 (by simp; omega) (fun g hg => (HO.out.lt g hg).1)⟩
        rw [HP.out]
        have h4 : n + 1 + 1 = (qs ++ [q] ++ [⟨x, y, 1⟩] : List Pc).length := by rw [← HN.out]; simp
        rw [← h4, pcCells_append]
        exact hown5
    · have b1 : ((q.x : Int) + (q.l : Int) == (x : Int)) = false := by simp; omega
      rw [if_neg (fun h => e1 h.1)] at happ
      have HP := Lib.hid happ; clear happ e1
      go_enter Tryz.func75, Tryz.ntmps75
      go_wp2
      go_quiet (fail)
      go_wp2_with (at_builtin; refine wpList_append_any _ rfl (.tmp 48) (.tmp 52) _ rfl B0 131 i0 _ 3 24 Tryz.underlying86 hi hz0 hz1 hz2 rfl (by omega) (.slice (some ⟨ga, 0, none⟩) (n + 1) c) (n + 1) (pcCells (qs ++ [q])) rfl (by exact HO.out.alloc _) (some ⟨w.heap.size, 0, none⟩) 1 1 (pcCells [⟨x, y, 1⟩]) rfl (by exact HLIT.out) rfl (pcCells_one _) (by unfold maxLen; omega) (by omega) (by simp; omega) ?_; intro A5 c5 w5 hown5 hg5 hat5)
      go_ret
      refine ⟨_, rfl, ?_, (below_drewN ((Below.refl _ _).alloc hB _) _).grown hg5 (by simp; omega) (fun g hg => (HO.out.lt g hg).1)⟩
      rw [HP.out]
      have h4 : n + 1 + 1 = (qs ++ [q] ++ [⟨x, y, 1⟩] : List Pc).length := by rw [← HN.out]; simp
      rw [← h4, pcCells_append]
      exact hown5
end Go.Proofs.YtgphjnhbheimiaaGreatDoor
