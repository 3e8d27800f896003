/-
  The walks of setForward and getForward. No condition but bounds.
-/
import Derived.Test.YtgjbagojcbondaaDoorLcsW1
namespace Go.Proofs.YtgjbagojcbondaaDoor
set_option linter.unusedVariables false
open Go.RowKit

theorem half_sum {d j : Nat} {k : Int} (hk : k = 2 * (j : Int) - (d : Int)) : ((d : Int) + k).tdiv 2 = (j : Int) := by
  rw [show (d : Int) + k = 2 * (j : Int) by omega]
  exact Int.mul_tdiv_cancel_left _ (by decide)
/-- what setForward leaves: the graph with one number more in its first table -/
def SetF (w0 : World) (B g : Nat) (K : GK) (vb : Value) (rf rb : List LRow) (d j : Nat) (x : Int) (w : World) (e : Ending) (w' : World) : Prop :=
  e = .returned (.tuple #[]) ∧ ∃ b vf', GSt w' B g K vf' vb (setRow rf d j x b) rb ∧ Gr B w w' ∧ Below B w0 w'

set_option maxRecDepth 100000 in
set_option maxHeartbeats 300000 in
theorem setF_any {w0 w : World} {B T fP fS NA MA N M g : Nat} {rv vf vb : Value} {E : EQT} {K : GK} {rf rb : List LRow} (hS : SeqC w0 B T rv fP fS E NA MA) (hb : Below B w0 w) (hG : GSt w B g K vf vb rf rb) (hsq : K.sq = .iface T rv) (hux : K.ux = (N : Int)) (huy : K.uy = (M : Int))
    (hN : N ≤ NA) (hM : M ≤ MA) (d j : Nat) (k : Int) (x y : Nat) (hxy : (x : Int) - k = (y : Int)) (hx : x ≤ 3000003) (hy : y ≤ 3000003) (hd : d ≤ rf.length) (hd2 : d ≤ 2001) (hj : j ≤ d) (hk : k = 2 * (j : Int) - (d : Int)) :
    Calls Tryd.prog 32 #[.pointer (some ⟨g, 0, none⟩), .int .i64 d, .int .i64 k, .int .i64 x] w (SetF w0 B g K vb rf rb d j (slide E N M x y : Nat) w) := by
  have hl := lookF_any hS hb hG hsq hux huy hN hM k x y hxy hx hy
  have hle : slide E N M x y ≤ 4000004 := by
    unfold slide
    have := lead_le E (min (N - x) (M - y)) x y
    have := hS.nA
    omega
  generalize hs : slide E N M x y = s at *
  have HL := Lib.hid hl; clear hl
  have HG := Lib.hid hG
  have hgl := hG.blk.lt
  have hset := fun (w' : World) (hb' : Below w.heap.size w w') => set_any w' B g 1 (gcells K vf vb) vf rf d j k (s : Int) (hG.below hb' (Nat.le_refl _)).blk rfl (hG.tf.below hb' (Nat.le_refl _)) hG.hg hd (hG.sf d) hj (List.nodup_append.1 hG.nd).1 (half_sum hk) (by omega) (by have := hG.lf; omega)
  have HSET := Lib.hid hset; clear hset
  have hc4 := fun (w' : World) (hb' : Below w.heap.size w w') => (hG.below hb' (Nat.le_refl _)).cells.2.2.2.2.1
  have HC4 := Lib.hid hc4; clear hc4
  clear hS hs hsq hux huy hxy hG hk
  have w1 : IntKind.i64.wrap (s : Int) = (s : Int) := IntWalk.i64_in _ (by omega)
  go_enter Tryd.func32, Tryd.ntmps32
  go_wp2_with (fail)
  refine HL.out.mono ?_
  rintro e w' ⟨rfl, hb'⟩
  have c4 := HC4.out _ hb'
  go_wp2
  go_region_held3 (fun w' => w'.cell? ⟨g, 4, none⟩ = some (.int .i64 0)) (go_keep) (first | (go_at_call 43; (with_reducible refine (HSET.out _ (by first | exact hb'.drew | exact below_drewN hb' _)).mono ?_); rintro e w2 ⟨rfl, b2, v2, hq1, hq2, hq3, hq4, hq5⟩; have z4 : w2.cell? ⟨g, 4, none⟩ = some (.int .i64 0) := hq1.cell 4; have HQ1 := Lib.hid hq1; have HQ2 := Lib.hid hq2; have HQ3 := Lib.hid hq3; have HQ4 := Lib.hid hq4; have HQ5 := Lib.hid hq5; clear hq1 hq2 hq3 hq4 hq5))
  go_wp2
  go_end0
  obtain ⟨r1, r2⟩ := (HG.out.below hb'.drew (Nat.le_refl _)).setF hd hd2 HQ1.out HQ2.out HQ3.out HQ4.out HQ5.out
  have r3 : Gr B w w2 := (Gr.of_below hb'.drew (Nat.le_refl _)).trans r2
  exact ⟨rfl, b2, v2, r1, r3, hb.trans (r3.below (by have := HG.out.hg; omega))⟩

set_option maxRecDepth 100000 in
set_option maxHeartbeats 400000 in
theorem getF_any {w : World} {B g : Nat} {vf vb : Value} {K : GK} {rf rb : List LRow} (hG : GSt w B g K vf vb rf rb) (d j : Nat) (k x : Int) (hL : Lab rf d j x) (hk : k = 2 * (j : Int) - (d : Int)) (hd : d ≤ 2001) (hj : j ≤ d) :
    Calls Tryd.prog 36 #[.pointer (some ⟨g, 0, none⟩), .int .i64 d, .int .i64 k] w fun e w' => e = .returned (.int .i64 x) ∧ ∃ q, w' = w.drewN q := by
  obtain ⟨l1, l2, l3⟩ := hL
  have hget := get_any w B g 1 vf rf d j k hG.cells.2.1 hG.tf l1 l2 (half_sum hk) (by omega) (by omega) (by omega)
  rw [l3] at hget
  have HGET := Lib.hid hget; clear hget hk l3
  go_enter Tryd.func36, Tryd.ntmps36
  go_wp2_with (fail)
  refine HGET.out.mono ?_
  rintro e w' ⟨rfl, q, rfl⟩
  go_wp2
  go_ret
  exact ⟨rfl, q, rfl⟩

set_option maxRecDepth 100000 in
set_option maxHeartbeats 1000000 in
theorem lookB_any {w0 w : World} {B T fP fS N M g : Nat} {rv vf vb : Value} {E : EQT} {K : GK} {rf rb : List LRow} (hS : SeqC w0 B T rv fP fS E N M) (hb : Below B w0 w) (hG : GSt w B g K vf vb rf rb) (hsq : K.sq = .iface T rv)
    (k : Int) (x y : Nat) (hxy : (N : Int) - (x : Int) - (k + K.dl) = (M : Int) - (y : Int)) (hx : x ≤ 3000003) (hy : y ≤ 3000003) (hk : -4000 ≤ k ∧ k ≤ 4000) (hdl : -4000004 ≤ K.dl ∧ K.dl ≤ 4000004) :
    Calls Tryd.prog 39 #[.pointer (some ⟨g, 0, none⟩), .int .i64 k, .int .i64 ((N : Int) - x)] w fun e w' => e = .returned (.int .i64 ((N : Int) - (slide (rev E N M) N M x y : Nat))) ∧ Below w.heap.size w w' := by
  obtain ⟨c0, _, _, _, c4, c5, _, _, c8⟩ := hG.cells
  rw [hsq] at c0
  have hgl := hG.blk.lt
  have m1 := hS.mS
  simp only [String.reduceSingleton, String.reduceAppend, Char.isValue] at m1
  have e1 := hS.eS
  have hnA := hS.nA
  have hnM := hS.nM
  have HS := Lib.hid hS
  generalize K.dl = dl at *
  obtain ⟨u, hu⟩ : ∃ u, (N : Int) - (x : Int) = u := ⟨_, rfl⟩
  obtain ⟨v, hv⟩ : ∃ v, (M : Int) - (y : Int) = v := ⟨_, rfl⟩
  obtain ⟨kd, hkd⟩ : ∃ kd, k + dl = kd := ⟨_, rfl⟩
  rw [hu, hv, hkd] at hxy
  rw [hu]
  have w0' : IntKind.i64.wrap (k + dl) = kd := by rw [hkd]; exact IntWalk.i64_in _ (by omega)
  have w1 : IntKind.i64.wrap (u - kd) = v := by rw [hxy]; exact IntWalk.i64_in _ (by omega)
  have w2 : IntKind.i64.wrap u = u := IntWalk.i64_in _ (by omega)
  have w3 : IntKind.i64.wrap v = v := IntWalk.i64_in _ (by omega)
  have hu1 : -3000003 ≤ u ∧ u ≤ 1000001 := by omega
  have hv1 : -3000003 ≤ v ∧ v ≤ 1000001 := by omega
  have hk2 : -4004000 ≤ kd ∧ kd ≤ 4004000 := by omega
  have HU := Lib.hid hu; have HV := Lib.hid hv
  clear hu hv hkd hS hG hsq hxy
  by_cases h1 : 0 < u
  · by_cases h2 : 0 < v
    · have hsl : slide (rev E N M) N M x y = x + lead (rev E N M) (min (N - x) (M - y)) x y := rfl
      have hle := lead_le (rev E N M) (min (N - x) (M - y)) x y
      have hun : ((N - x : Nat) : Int) = u := by have := HU.out; omega
      have hvn : ((M - y : Nat) : Int) = v := by have := HV.out; omega
      have hcall := fun w' (hb' : Below B w0 w') => HS.out.cS w' hb' (N - x) (M - y) (by omega) (by omega) (by omega) (by omega)
      have hxN : x ≤ N := by have := HU.out; omega
      have hyM : y ≤ M := by have := HV.out; omega
      rw [hun, hvn, show N - (N - x) = x by omega, show M - (M - y) = y by omega] at hcall
      generalize hL : lead (rev E N M) (min (N - x) (M - y)) x y = L at *
      have HC := Lib.hid hcall; clear hcall
      have HL := Lib.hid hL; clear hL
      have HSL := Lib.hid hsl; clear hsl
      have hLu : (L : Int) ≤ u := by omega
      have w4 : IntKind.i64.wrap (u - (L : Int)) = u - (L : Int) := IntWalk.i64_in _ (by omega)
      clear hun hvn
      go_enter Tryd.func39, Tryd.ntmps39
      go_wp2
      go_quiet (fail)
      go_wp2_with (fail)
      (with_reducible refine (HC.out _ (by first | exact hb.drew | exact below_drewN hb _)).mono ?_)
      rintro e w' ⟨rfl, hb'⟩
      go_wp2
      go_ret
      exact ⟨ret_int (by rw [HSL.out]; have := HU.out; omega), below_unD hb'⟩
    · have hsl := slide_none (rev E N M) N M x y (.inr (by have := HV.out; omega))
      have HSL := Lib.hid hsl; clear hsl
      go_enter Tryd.func39, Tryd.ntmps39
      go_wp2
      go_quiet (fail)
      go_wp2
      go_ret
      exact ⟨ret_int (by rw [HSL.out, HU.out]), below_drewN (Below.refl _ _) _⟩
  · have hsl := slide_none (rev E N M) N M x y (.inl (by have := HU.out; omega))
    have HSL := Lib.hid hsl; clear hsl
    go_enter Tryd.func39, Tryd.ntmps39
    go_wp2
    go_quiet (fail)
    go_wp2
    go_ret
    exact ⟨ret_int (by rw [HSL.out, HU.out]), below_drewN (Below.refl _ _) _⟩

/-- what setBackward leaves: the graph with one number more in its second table -/
def SetB (w0 : World) (B g : Nat) (K : GK) (vf : Value) (rf rb : List LRow) (d j : Nat) (x : Int) (w : World) (e : Ending) (w' : World) : Prop :=
  e = .returned (.tuple #[]) ∧ ∃ b vb', GSt w' B g K vf vb' rf (setRow rb d j x b) ∧ Gr B w w' ∧ Below B w0 w'

set_option maxRecDepth 100000 in
set_option maxHeartbeats 300000 in
theorem setB_any {w0 w : World} {B T fP fS N M g : Nat} {rv vf vb : Value} {E : EQT} {K : GK} {rf rb : List LRow} (hS : SeqC w0 B T rv fP fS E N M) (hb : Below B w0 w) (hG : GSt w B g K vf vb rf rb) (hsq : K.sq = .iface T rv)
    (d j : Nat) (k : Int) (x y : Nat) (hxy : (N : Int) - (x : Int) - (k + K.dl) = (M : Int) - (y : Int)) (hx : x ≤ 3000003) (hy : y ≤ 3000003) (hdl : -4000004 ≤ K.dl ∧ K.dl ≤ 4000004) (hd : d ≤ rb.length) (hd2 : d ≤ 2001) (hj : j ≤ d) (hk : k = 2 * (j : Int) - (d : Int)) :
    Calls Tryd.prog 33 #[.pointer (some ⟨g, 0, none⟩), .int .i64 d, .int .i64 k, .int .i64 ((N : Int) - x)] w (SetB w0 B g K vf rf rb d j ((N : Int) - (slide (rev E N M) N M x y : Nat)) w) := by
  have hl := lookB_any hS hb hG hsq k x y hxy hx hy (by omega) hdl
  have hle : slide (rev E N M) N M x y ≤ 4000004 := by
    unfold slide
    have := lead_le (rev E N M) (min (N - x) (M - y)) x y
    have := hS.nA
    omega
  have hnA := hS.nA
  generalize hs : (N : Int) - (slide (rev E N M) N M x y : Nat) = s at *
  have hsb : -4000004 ≤ s ∧ s ≤ 1000001 := by omega
  have HL := Lib.hid hl; clear hl
  have HG := Lib.hid hG
  have hgl := hG.blk.lt
  have hset := fun (w' : World) (hb' : Below w.heap.size w w') => set_any w' B g 2 (gcells K vf vb) vb rb d j k s (hG.below hb' (Nat.le_refl _)).blk rfl (hG.tb.below hb' (Nat.le_refl _)) hG.hg hd (hG.sb d) hj (List.nodup_append.1 hG.nd).2.1 (half_sum hk) (by omega) (by have := hG.lb; omega)
  have HSET := Lib.hid hset; clear hset
  have hc4 := fun (w' : World) (hb' : Below w.heap.size w w') => (hG.below hb' (Nat.le_refl _)).cells.2.2.2.2.1
  have HC4 := Lib.hid hc4; clear hc4
  clear hS hs hsq hxy hG hk hle
  have w1 : IntKind.i64.wrap s = s := IntWalk.i64_in _ (by omega)
  go_enter Tryd.func33, Tryd.ntmps33
  go_wp2_with (fail)
  refine HL.out.mono ?_
  rintro e w' ⟨rfl, hb'⟩
  have c4 := HC4.out _ hb'
  go_wp2
  go_region_held3 (fun w' => w'.cell? ⟨g, 4, none⟩ = some (.int .i64 0)) (go_keep) (first | (go_at_call 43; (with_reducible refine (HSET.out _ (by first | exact hb'.drew | exact below_drewN hb' _)).mono ?_); rintro e w2 ⟨rfl, b2, v2, hq1, hq2, hq3, hq4, hq5⟩; have z4 : w2.cell? ⟨g, 4, none⟩ = some (.int .i64 0) := hq1.cell 4; have HQ1 := Lib.hid hq1; have HQ2 := Lib.hid hq2; have HQ3 := Lib.hid hq3; have HQ4 := Lib.hid hq4; have HQ5 := Lib.hid hq5; clear hq1 hq2 hq3 hq4 hq5))
  go_wp2
  go_end0
  obtain ⟨r1, r2⟩ := (HG.out.below hb'.drew (Nat.le_refl _)).setB hd hd2 HQ1.out HQ2.out HQ3.out HQ4.out HQ5.out
  have r3 : Gr B w w2 := (Gr.of_below hb'.drew (Nat.le_refl _)).trans r2
  exact ⟨rfl, b2, v2, r1, r3, hb.trans (r3.below (by have := HG.out.hg; omega))⟩

set_option maxRecDepth 100000 in
set_option maxHeartbeats 400000 in
theorem getB_any {w : World} {B g : Nat} {vf vb : Value} {K : GK} {rf rb : List LRow} (hG : GSt w B g K vf vb rf rb) (d j : Nat) (k x : Int) (hL : Lab rb d j x) (hk : k = 2 * (j : Int) - (d : Int)) (hd : d ≤ 2001) (hj : j ≤ d) :
    Calls Tryd.prog 38 #[.pointer (some ⟨g, 0, none⟩), .int .i64 d, .int .i64 k] w fun e w' => e = .returned (.int .i64 x) ∧ ∃ q, w' = w.drewN q := by
  obtain ⟨l1, l2, l3⟩ := hL
  have hget := get_any w B g 2 vb rb d j k hG.cells.2.2.1 hG.tb l1 l2 (half_sum hk) (by omega) (by omega) (by omega)
  rw [l3] at hget
  have HGET := Lib.hid hget; clear hget hk l3
  go_enter Tryd.func38, Tryd.ntmps38
  go_wp2_with (fail)
  refine HGET.out.mono ?_
  rintro e w' ⟨rfl, q, rfl⟩
  go_wp2
  go_ret
  exact ⟨rfl, q, rfl⟩
end Go.Proofs.YtgjbagojcbondaaDoor
