/-
  The walk of backwardlcs: from a label on to the end. No condition but bounds.
-/
import Derived.Test.YtgphjnhbheimiaaGreatDoorLcsW4
namespace Go.Proofs.YtgphjnhbheimiaaGreatDoor
set_option linter.unusedVariables false
open Go.RowKit

/-- what backwardlcs gives: a chain of pieces from the label (U, V) to the end -/
def BwdRes (E : EQT) (j U V N M D : Nat) (w : World) (e : Ending) (w' : World) : Prop :=
  ∃ ps, PcRes w.heap.size w ps e w' ∧ Ch E U V ps N M ∧ 2 * sumP ps + D + U + V = N + M ∧ BwE E N M D j U V [] ps

/-- the relation at the head of backwardlcs's loop -/
structure BRel (E : EQT) (N M D J U V B0 : Nat) (w : World) (v1 v2 v7 v8 : Value) (wr : World) (q : Nat) where
  d : Nat
  j : Nat
  a : Nat
  b : Nat
  k : Int
  ps : List Pc
  e1 : v1 = .int .i64 d
  e2 : v2 = .int .i64 k
  e8 : v8 = .int .i64 a
  hk : k = (d : Int) - 2 * (j : Int)
  ha : a ≤ N
  hb' : b ≤ M
  run : OnRun (rev E N M) N M d j (N - a) (M - b)
  own : wr.ownsRow B0 131 3 v7 ps.length (pcCells ps)
  ch : Ch E U V ps a b
  sum : 2 * sumP ps + D + U + V = d + a + b
  hd : d ≤ D
  hb : Below B0 w wr
  hq : q = (N - a) + (M - b)
  det : ∀ r, BwE E N M d j a b ps r → BwE E N M D J U V [] r
def BRelP (E : EQT) (N M D J U V B0 : Nat) (w : World) (v1 v2 v7 v8 : Value) (wr : World) (q : Nat) : Prop := Nonempty (BRel E N M D J U V B0 w v1 v2 v7 v8 wr q)

set_option maxRecDepth 100000 in
set_option maxHeartbeats 1000000 in
theorem bwdlcs_any {w : World} {B g N M : Nat} {vf vb : Value} {E : EQT} {K : GK} {rf rb : List LRow} (hG : GSt w B g K vf vb rf rb) (D j : Nat) (k : Int) (hD : D ≤ 2001) (hj : j ≤ D) (hk : k = (D : Int) - 2 * (j : Int)) (hN : N ≤ 1000001) (hM : M ≤ 1000001)
    (hux : K.ux = (N : Int)) (huy : K.uy = (M : Int)) (hdl : K.dl = (N : Int) - (M : Int))
    (hX : fwd (rev E N M) N M D j ≤ N) (hY : fy (rev E N M) N M D j ≤ M) (hfull : ∀ d i, d < D → i ≤ d → Lab rb d (d - i) ((N : Int) - (fwd (rev E N M) N M d i : Nat))) (hlab : Lab rb D (D - j) ((N : Int) - (fwd (rev E N M) N M D j : Nat))) :
    Calls Tryz.prog 58 #[.pointer (some ⟨g, 0, none⟩), .int .i64 D, .int .i64 k] w (BwdRes E j (N - fwd (rev E N M) N M D j) (M - fy (rev E N M) N M D j) N M D w) := by
  have hget := fun (W : World) (hb : Below w.heap.size w W) (d i : Nat) (kk : Int) (h1 : d < D) (h2 : i ≤ d) (h3 : kk = (d : Int) - 2 * (i : Int)) => getB_any (hG.below hb (Nat.le_refl _)) d (d - i) kk ((N : Int) - (fwd (rev E N M) N M d i : Nat)) (hfull d i h1 h2) (by omega) (by omega) (by omega)
  have hget0 := getB_any hG D (D - j) k ((N : Int) - (fwd (rev E N M) N M D j : Nat)) hlab (by omega) hD (by omega)
  rw [show (N : Int) - (fwd (rev E N M) N M D j : Nat) = ((N - fwd (rev E N M) N M D j : Nat) : Int) by omega] at hget0
  have htop := OnRun.top (rev E N M) N M D j hj
  have htop' : OnRun (rev E N M) N M D j (N - (N - fwd (rev E N M) N M D j)) (M - (M - fy (rev E N M) N M D j)) := by
    rw [show N - (N - fwd (rev E N M) N M D j) = fwd (rev E N M) N M D j by omega, show M - (M - fy (rev E N M) N M D j) = fy (rev E N M) N M D j by omega]
    exact htop
  have hc := fun (W : World) (hb : Below w.heap.size w W) => (hG.below hb (Nat.le_refl _)).cells
  rw [hux, huy, hdl] at hc
  have HC := Lib.hid hc
  have HGET := Lib.hid hget
  have HGET0 := Lib.hid hget0
  have HTOP := Lib.hid htop'
  have HK := Lib.hid hk
  have hgl := hG.blk.lt
  have hUle : N - fwd (rev E N M) N M D j ≤ N := by omega
  have hVle : M - fy (rev E N M) N M D j ≤ M := by omega
  generalize M - fy (rev E N M) N M D j = V at *
  generalize N - fwd (rev E N M) N M D j = U at *
  clear hget hget0 hG hfull hlab htop htop' hk hc hux huy hdl hX hY
  obtain ⟨dl, hdl⟩ : ∃ dl, (N : Int) - (M : Int) = dl := ⟨_, rfl⟩
  rw [hdl] at HC
  have dl1 : dl ≤ (N : Int) - (M : Int) := by omega
  have dl2 : (N : Int) - (M : Int) ≤ dl := by omega
  clear hdl
  go_enter Tryz.func58, Tryz.ntmps58
  go_wp2_with (fail)
  refine HGET0.out.mono ?_
  rintro e w' ⟨rfl, q, rfl⟩
  go_wp2
  go_loopg [1, 2, 7, 8] (N - U + (M - V)) (fun q v1 v2 v7 v8 wr => BRelP E N M D j U V w.heap.size w v1 v2 v7 v8 wr q)
  case atStart => exact ⟨⟨D, j, U, V, k, [], rfl, rfl, rfl, HK.out, hUle, hVle, HTOP.out, World.ownsRow_nil _ _ _ _, ⟨Nat.le_refl _, Nat.le_refl _⟩, by simp [sumP], Nat.le_refl _, below_drewN (Below.refl _ _) _, rfl, fun r h9 => h9⟩⟩
  case round =>
    obtain ⟨⟨d, i, a, b, kk, ps, rfl, rfl, rfl, hkk, haN, hbM, hrun, hown, hch, hsum, hd, hb, hq, hdet⟩⟩ := hrel
    have HDET := Lib.hid hdet; clear hdet
    have hle := hch.le
    have hln := ch_len hch
    have hij := hrun.hj
    have hyy := hrun.hy
    have hpm := hch.mem
    have k1 : kk ≤ (d : Int) - 2 * (i : Int) := by omega
    have k2 : (d : Int) - 2 * (i : Int) ≤ kk := by omega
    have kb1 : -2001 ≤ kk := by omega
    have kb2 : kk ≤ 2001 := by omega
    obtain ⟨kd, hkd⟩ : ∃ kd, kk + dl = kd := ⟨_, rfl⟩
    have wkd : IntKind.i64.wrap (kk + dl) = kd := by rw [hkd]; exact IntWalk.i64_in _ (by omega)
    have wab : IntKind.i64.wrap ((a : Int) - kd) = (b : Int) := by rw [show (a : Int) - kd = (b : Int) by omega]; exact IntWalk.i64_in _ (by omega)
    have y1 : M - b + 2 * i ≤ N - a + d := by omega
    have y2 : N - a + d ≤ M - b + 2 * i := by omega
    have HPM := Lib.hid hpm; have HRUN := Lib.hid hrun; have HOWN := Lib.hid hown; have HCH := Lib.hid hch; have HSUM := Lib.hid hsum; have HQ := Lib.hid hq; have HKK := Lib.hid hkk
    clear hpm hrun hown hch hsum hq hkk hyy hkd
    have hbs := hb.size
    obtain ⟨_, _, _, _, c4, c5, c6, c7, c8⟩ := HC.out _ hb
    by_cases hx0 : N ≤ a
    · have bx : ((a : Int) != (N : Int)) = false := by simp; omega
      by_cases hy0 : M ≤ b
      · have bY : ((b : Int) != (M : Int)) = false := by simp; omega
        have hd0 := HRUN.out
        rw [show N - a = 0 by omega, show M - b = 0 by omega] at hd0
        have hd1 : d ≤ 0 := Nat.le_of_eq hd0.start
        clear hd0
        go_wp2
        go_quiet (fail)
        go_wp2
        go_ret
        exact ⟨ps, ⟨_, rfl, HOWN.out, below_drewN hb _⟩, HCH.out.hi (by omega) (by omega), by have := HSUM.out; omega, HDET.out ps (.stop (by omega) (by omega))⟩
      · have bY : ((b : Int) != (M : Int)) = true := by simp; omega
        have hdn : 1 ≤ d ∧ i ≤ d - 1 ∧ N - a = fwd (rev E N M) N M (d - 1) i := by
          apply Classical.byContradiction
          intro hn
          have := HRUN.out.diag (by omega) (fun d' j' e1 e2 e3 => by omega) (fun d' e1 e2 e3 => hn (by subst e1; exact ⟨by omega, by omega, e3⟩))
          omega
        obtain ⟨hd1, hi1, hxF⟩ := hdn
        have hxF1 := Nat.le_of_eq hxF
        have hxF2 := Nat.le_of_eq hxF.symm
        clear hxF
        have d2 : (1 : Int) ≤ (d : Int) := by omega
        have i2 : (i : Int) ≤ (d : Int) - 1 := by omega
        have hgb := fun W hb => HGET.out W hb (d - 1) i (kk - 1) (by omega) (by omega) (by omega)
        rw [show ((d - 1 : Nat) : Int) = (d : Int) - 1 by omega] at hgb
        have fg := fwd_ge (rev E N M) N M (d - 1) i (by omega)
        generalize hFB : fwd (rev E N M) N M (d - 1) i = FB at *
        obtain ⟨GB, hGB⟩ : ∃ GB, (N : Int) - (FB : Int) = GB := ⟨_, rfl⟩
        rw [hGB] at hgb
        have gb1 : GB ≤ (N : Int) - (FB : Int) := by omega
        have gb2 : (N : Int) - (FB : Int) ≤ GB := by omega
        clear hGB
        have HFB := Lib.hid hFB; clear hFB
        have HGB := Lib.hid hgb; clear hgb
        have bB : ((a : Int) == GB) = true := by simp; omega
        go_wp2
        go_quiet (fail)
        go_wp2_with (fail)
        refine (ok_t _ _ _ (by omega) (by omega) (by omega) (by omega)).mono ?_
        rintro e w1 ⟨rfl, rfl⟩
        go_wp2_with (fail)
        refine (HGB.out _ (by first | exact hb | exact hb.drew | exact below_drewN hb _ | exact below_drewN (below_drewN hb _) _)).mono ?_
        rintro e w2 ⟨rfl, qb, rfl⟩
        go_wp2
        go_roundg (N - a + (M - (b + 1)))
        case measure => have := HQ.out; omega
        case rel =>
          have hr := HRUN.out
          rw [show d = d - 1 + 1 by omega] at hr
          have hxF : N - a = FB := by omega
          have h2 := hr.down (by omega) (by rw [HFB.out]; exact hxF)
          exact ⟨⟨d - 1, i, a, b + 1, kk - 1, ps, int_eq (by omega), rfl, rfl, by omega, by omega, by have := h2.1; omega, by rw [show M - (b + 1) = M - b - 1 by omega]; exact h2.2, HOWN.out, HCH.out.hi (Nat.le_refl _) (by omega), by have := HSUM.out; omega, by omega, by first | exact hb.drew | exact below_drewN hb _ | exact below_drewN (below_drewN hb _) _ | exact below_drewN (below_drewN (below_drewN hb _) _) _, rfl, fun r h9 => HDET.out r (.down (by omega) ⟨by omega, by omega, by rw [HFB.out]; exact hxF⟩ h9)⟩⟩
    · have bx : ((a : Int) != (N : Int)) = true := by simp; omega
      by_cases hB : 1 ≤ d ∧ i + 1 ≤ d
      · obtain ⟨hB1, hB2⟩ := hB
        by_cases hB3 : N - a = fwd (rev E N M) N M (d - 1) i
        · have hB4 := Nat.le_of_eq hB3
          have hB5 := Nat.le_of_eq hB3.symm
          clear hB3
          have d2 : (1 : Int) ≤ (d : Int) := by omega
          have i2 : (i : Int) ≤ (d : Int) - 1 := by omega
          have hgb := fun W hb => HGET.out W hb (d - 1) i (kk - 1) (by omega) (by omega) (by omega)
          rw [show ((d - 1 : Nat) : Int) = (d : Int) - 1 by omega] at hgb
          have fg := fwd_ge (rev E N M) N M (d - 1) i (by omega)
          generalize hFB : fwd (rev E N M) N M (d - 1) i = FB at *
          obtain ⟨GB, hGB⟩ : ∃ GB, (N : Int) - (FB : Int) = GB := ⟨_, rfl⟩
          rw [hGB] at hgb
          have gb1 : GB ≤ (N : Int) - (FB : Int) := by omega
          have gb2 : (N : Int) - (FB : Int) ≤ GB := by omega
          clear hGB
          have HFB := Lib.hid hFB; clear hFB
          have HGB := Lib.hid hgb; clear hgb
          have bB : ((a : Int) == GB) = true := by simp; omega
          go_wp2
          go_quiet (fail)
          go_wp2_with (fail)
          refine (ok_t _ _ _ (by omega) (by omega) (by omega) (by omega)).mono ?_
          rintro e w1 ⟨rfl, rfl⟩
          go_wp2_with (fail)
          refine (HGB.out _ (by first | exact hb | exact hb.drew | exact below_drewN hb _ | exact below_drewN (below_drewN hb _) _)).mono ?_
          rintro e w2 ⟨rfl, qb, rfl⟩
          go_wp2
          go_roundg (N - a + (M - (b + 1)))
          case measure => have := HQ.out; omega
          case rel =>
            have hr := HRUN.out
            rw [show d = d - 1 + 1 by omega] at hr
            have hxF : N - a = FB := by omega
            have h2 := hr.down (by omega) (by rw [HFB.out]; exact hxF)
            exact ⟨⟨d - 1, i, a, b + 1, kk - 1, ps, int_eq (by omega), rfl, rfl, by omega, by omega, by have := h2.1; omega, by rw [show M - (b + 1) = M - b - 1 by omega]; exact h2.2, HOWN.out, HCH.out.hi (Nat.le_refl _) (by omega), by have := HSUM.out; omega, by omega, by first | exact hb.drew | exact below_drewN hb _ | exact below_drewN (below_drewN hb _) _ | exact below_drewN (below_drewN (below_drewN hb _) _) _, rfl, fun r h9 => HDET.out r (.down (by omega) ⟨by omega, by omega, by rw [HFB.out]; exact hxF⟩ h9)⟩⟩
        · by_cases hA : 1 ≤ d ∧ 1 ≤ i
          · obtain ⟨hA1, hA2⟩ := hA
            by_cases hA3 : N - a = fwd (rev E N M) N M (d - 1) (i - 1) + 1
            · have hA4 := Nat.le_of_eq hA3
              have hA5 := Nat.le_of_eq hA3.symm
              clear hA3
              have d2 : (1 : Int) ≤ (d : Int) := by omega
              have i2 : (i : Int) ≤ (d : Int) - 1 := by omega
              have hgb := fun W hb => HGET.out W hb (d - 1) i (kk - 1) (by omega) (by omega) (by omega)
              rw [show ((d - 1 : Nat) : Int) = (d : Int) - 1 by omega] at hgb
              have fg := fwd_ge (rev E N M) N M (d - 1) i (by omega)
              generalize hFB : fwd (rev E N M) N M (d - 1) i = FB at *
              obtain ⟨GB, hGB⟩ : ∃ GB, (N : Int) - (FB : Int) = GB := ⟨_, rfl⟩
              rw [hGB] at hgb
              have gb1 : GB ≤ (N : Int) - (FB : Int) := by omega
              have gb2 : (N : Int) - (FB : Int) ≤ GB := by omega
              clear hGB
              have HFB := Lib.hid hFB; clear hFB
              have HGB := Lib.hid hgb; clear hgb
              have bB : ((a : Int) == GB) = false := by simp; omega
              have d1 : (1 : Int) ≤ (d : Int) := by omega
              have i1 : (1 : Int) ≤ (i : Int) := by omega
              have hga := fun W hb => HGET.out W hb (d - 1) (i - 1) (kk + 1) (by omega) (by omega) (by omega)
              rw [show ((d - 1 : Nat) : Int) = (d : Int) - 1 by omega] at hga
              generalize hFA : fwd (rev E N M) N M (d - 1) (i - 1) = FA at *
              obtain ⟨GA, hGA⟩ : ∃ GA, (N : Int) - (FA : Int) = GA := ⟨_, rfl⟩
              rw [hGA] at hga
              have ga1 : GA ≤ (N : Int) - (FA : Int) := by omega
              have ga2 : (N : Int) - (FA : Int) ≤ GA := by omega
              clear hGA
              have HFA := Lib.hid hFA; clear hFA
              have HGA := Lib.hid hga; clear hga
              have bA : ((a : Int) + 1 == GA) = true := by simp; omega
              go_wp2
              go_quiet (fail)
              go_wp2_with (fail)
              refine (ok_t _ _ _ (by omega) (by omega) (by omega) (by omega)).mono ?_
              rintro e w1 ⟨rfl, rfl⟩
              go_wp2_with (fail)
              refine (HGB.out _ (by first | exact hb | exact hb.drew | exact below_drewN hb _ | exact below_drewN (below_drewN hb _) _)).mono ?_
              rintro e w2 ⟨rfl, qb, rfl⟩
              go_wp2_with (fail)
              refine (ok_t _ _ _ (by omega) (by omega) (by omega) (by omega)).mono ?_
              rintro e w1 ⟨rfl, rfl⟩
              go_wp2_with (fail)
              refine (HGA.out _ (by first | exact hb | exact hb.drew | exact below_drewN hb _ | exact below_drewN (below_drewN hb _) _)).mono ?_
              rintro e w2 ⟨rfl, qa, rfl⟩
              go_wp2
              go_roundg (N - (a + 1) + (M - b))
              case measure => have := HQ.out; omega
              case rel =>
                have hr := HRUN.out
                rw [show d = d - 1 + 1 by omega, show i = i - 1 + 1 by omega] at hr
                have hxF : N - a = FA + 1 := by omega
                have h2 := hr.left (by rw [HFA.out]; exact hxF)
                rw [HFA.out] at h2
                exact ⟨⟨d - 1, i - 1, a + 1, b, kk + 1, ps, int_eq (by omega), rfl, int_eq (by omega), by omega, by omega, by omega, by rw [show N - (a + 1) = FA by omega]; exact h2, HOWN.out, HCH.out.hi (by omega) (Nat.le_refl _), by have := HSUM.out; omega, by omega, by first | exact hb.drew | exact below_drewN hb _ | exact below_drewN (below_drewN hb _) _ | exact below_drewN (below_drewN (below_drewN hb _) _) _, rfl, fun r h9 => HDET.out r (.left (by omega) (fun h9 => by first | (have h7 := h9.1; have h8 := h9.2.1; omega) | (have h8 := h9.2.2; rw [HFB.out] at h8; omega)) ⟨by omega, by omega, by rw [HFA.out]; exact hxF⟩ h9)⟩⟩
            · have d2 : (1 : Int) ≤ (d : Int) := by omega
              have i2 : (i : Int) ≤ (d : Int) - 1 := by omega
              have hgb := fun W hb => HGET.out W hb (d - 1) i (kk - 1) (by omega) (by omega) (by omega)
              rw [show ((d - 1 : Nat) : Int) = (d : Int) - 1 by omega] at hgb
              have fg := fwd_ge (rev E N M) N M (d - 1) i (by omega)
              generalize hFB : fwd (rev E N M) N M (d - 1) i = FB at *
              obtain ⟨GB, hGB⟩ : ∃ GB, (N : Int) - (FB : Int) = GB := ⟨_, rfl⟩
              rw [hGB] at hgb
              have gb1 : GB ≤ (N : Int) - (FB : Int) := by omega
              have gb2 : (N : Int) - (FB : Int) ≤ GB := by omega
              clear hGB
              have HFB := Lib.hid hFB; clear hFB
              have HGB := Lib.hid hgb; clear hgb
              have bB : ((a : Int) == GB) = false := by simp; omega
              have d1 : (1 : Int) ≤ (d : Int) := by omega
              have i1 : (1 : Int) ≤ (i : Int) := by omega
              have hga := fun W hb => HGET.out W hb (d - 1) (i - 1) (kk + 1) (by omega) (by omega) (by omega)
              rw [show ((d - 1 : Nat) : Int) = (d : Int) - 1 by omega] at hga
              generalize hFA : fwd (rev E N M) N M (d - 1) (i - 1) = FA at *
              obtain ⟨GA, hGA⟩ : ∃ GA, (N : Int) - (FA : Int) = GA := ⟨_, rfl⟩
              rw [hGA] at hga
              have ga1 : GA ≤ (N : Int) - (FA : Int) := by omega
              have ga2 : (N : Int) - (FA : Int) ≤ GA := by omega
              clear hGA
              have HFA := Lib.hid hFA; clear hFA
              have HGA := Lib.hid hga; clear hga
              have bA : ((a : Int) + 1 == GA) = false := by simp; omega
              have hdg := HRUN.out.diag (by omega) (by intro d9 j9 e1 e2 e3; have h9 := HFA.out; rw [show d - 1 = d9 by omega, show i - 1 = j9 by omega] at h9; omega) (by intro d9 e1 e2 e3; have h9 := HFB.out; rw [show d - 1 = d9 by omega] at h9; omega)
              obtain ⟨g1, g2, g3, g4, g5, g6⟩ := hdg
              have G5 := Lib.hid g5; have G6 := Lib.hid g6; clear g5 g6
              have happ := fun (W : World) (hW : wr.heap.size ≤ W.heap.size) (ho : W.ownsRow w.heap.size 131 3 u7 ps.length (pcCells ps)) => appd_any W w.heap.size u7 ps a b ho (by omega) (by omega) (fun p hp => by have := HPM.out p hp; omega) (by omega) (by omega)
              have HPRE := Lib.hid happ; clear happ
              have v1 : IntKind.i64.wrap (a : Int) = (a : Int) := IntWalk.i64_in _ (by omega)
              have v2 : IntKind.i64.wrap (b : Int) = (b : Int) := IntWalk.i64_in _ (by omega)
              go_wp2
              go_quiet (fail)
              go_wp2_with (fail)
              refine (ok_t _ _ _ (by omega) (by omega) (by omega) (by omega)).mono ?_
              rintro e w1 ⟨rfl, rfl⟩
              go_wp2_with (fail)
              refine (HGB.out _ (by first | exact hb | exact hb.drew | exact below_drewN hb _ | exact below_drewN (below_drewN hb _) _)).mono ?_
              rintro e w2 ⟨rfl, qb, rfl⟩
              go_wp2_with (fail)
              refine (ok_t _ _ _ (by omega) (by omega) (by omega) (by omega)).mono ?_
              rintro e w1 ⟨rfl, rfl⟩
              go_wp2_with (fail)
              refine (HGA.out _ (by first | exact hb | exact hb.drew | exact below_drewN hb _ | exact below_drewN (below_drewN hb _) _)).mono ?_
              rintro e w2 ⟨rfl, qa, rfl⟩
              go_wp2
              go_region_held3 (fun w' => w'.cell? ⟨g, 4, none⟩ = some (.int .i64 0) ∧ w'.cell? ⟨g, 5, none⟩ = some (.int .i64 0)) (go_keep) (first | (go_at_call 75; (with_reducible refine (HPRE.out _ (by first | exact Nat.le_refl _ | simp) (by first | exact HOWN.out.drew | exact own_drewN HOWN.out _)).mono ?_); rintro e w3 ⟨v3', rfl, ho3, hb3⟩; have hb4 : Below w.heap.size w w3 := (by first | exact hb.drew.trans hb3 | exact (below_drewN hb _).trans hb3 | exact (below_drewN (below_drewN hb _) _).trans hb3); have z4 : w3.cell? ⟨g, 4, none⟩ = some (.int .i64 0) := (HC.out _ hb4).2.2.2.2.1; have z5 : w3.cell? ⟨g, 5, none⟩ = some (.int .i64 0) := (HC.out _ hb4).2.2.2.2.2.1; have HO3 := Lib.hid ho3; clear ho3))
              go_wp2
              go_roundg (N - (a + 1) + (M - (b + 1)))
              case measure => have := HQ.out; omega
              case rel =>
                have hE : E a b = true := by
                  have h9 := G5.out
                  unfold rev at h9
                  rw [show N - 1 - (N - a - 1) = a by omega, show M - 1 - (M - b - 1) = b by omega] at h9
                  exact h9
                exact ⟨⟨d, i, a + 1, b + 1, kk, _, rfl, rfl, int_eq (by omega), HKK.out, by omega, by omega, by rw [show N - (a + 1) = N - a - 1 by omega, show M - (b + 1) = M - b - 1 by omega]; exact G6.out, HO3.out, appd_ch HCH.out hE, by rw [appd_sum]; have := HSUM.out; omega, hd, hb4, rfl, fun r h9 => HDET.out r (.diag (by omega) (fun h9 => by first | (have h7 := h9.1; have h8 := h9.2.1; omega) | (have h8 := h9.2.2; rw [HFB.out] at h8; omega)) (fun h9 => by first | (have h7 := h9.1; have h8 := h9.2.1; omega) | (have h8 := h9.2.2; rw [HFA.out] at h8; omega)) h9)⟩⟩
          · have d2 : (1 : Int) ≤ (d : Int) := by omega
            have i2 : (i : Int) ≤ (d : Int) - 1 := by omega
            have hgb := fun W hb => HGET.out W hb (d - 1) i (kk - 1) (by omega) (by omega) (by omega)
            rw [show ((d - 1 : Nat) : Int) = (d : Int) - 1 by omega] at hgb
            have fg := fwd_ge (rev E N M) N M (d - 1) i (by omega)
            generalize hFB : fwd (rev E N M) N M (d - 1) i = FB at *
            obtain ⟨GB, hGB⟩ : ∃ GB, (N : Int) - (FB : Int) = GB := ⟨_, rfl⟩
            rw [hGB] at hgb
            have gb1 : GB ≤ (N : Int) - (FB : Int) := by omega
            have gb2 : (N : Int) - (FB : Int) ≤ GB := by omega
            clear hGB
            have HFB := Lib.hid hFB; clear hFB
            have HGB := Lib.hid hgb; clear hgb
            have bB : ((a : Int) == GB) = false := by simp; omega
            have hdg := HRUN.out.diag (by omega) (by intro d9 j9 e1 e2 e3; omega) (by intro d9 e1 e2 e3; have h9 := HFB.out; rw [show d - 1 = d9 by omega] at h9; omega)
            obtain ⟨g1, g2, g3, g4, g5, g6⟩ := hdg
            have G5 := Lib.hid g5; have G6 := Lib.hid g6; clear g5 g6
            have happ := fun (W : World) (hW : wr.heap.size ≤ W.heap.size) (ho : W.ownsRow w.heap.size 131 3 u7 ps.length (pcCells ps)) => appd_any W w.heap.size u7 ps a b ho (by omega) (by omega) (fun p hp => by have := HPM.out p hp; omega) (by omega) (by omega)
            have HPRE := Lib.hid happ; clear happ
            have v1 : IntKind.i64.wrap (a : Int) = (a : Int) := IntWalk.i64_in _ (by omega)
            have v2 : IntKind.i64.wrap (b : Int) = (b : Int) := IntWalk.i64_in _ (by omega)
            go_wp2
            go_quiet (fail)
            go_wp2_with (fail)
            refine (ok_t _ _ _ (by omega) (by omega) (by omega) (by omega)).mono ?_
            rintro e w1 ⟨rfl, rfl⟩
            go_wp2_with (fail)
            refine (HGB.out _ (by first | exact hb | exact hb.drew | exact below_drewN hb _ | exact below_drewN (below_drewN hb _) _)).mono ?_
            rintro e w2 ⟨rfl, qb, rfl⟩
            go_wp2_with (fail)
            refine (ok_f _ _ _ (by omega) (by omega) (by omega)).mono ?_
            rintro e w1 ⟨rfl, rfl⟩
            go_wp2
            go_region_held3 (fun w' => w'.cell? ⟨g, 4, none⟩ = some (.int .i64 0) ∧ w'.cell? ⟨g, 5, none⟩ = some (.int .i64 0)) (go_keep) (first | (go_at_call 75; (with_reducible refine (HPRE.out _ (by first | exact Nat.le_refl _ | simp) (by first | exact HOWN.out.drew | exact own_drewN HOWN.out _)).mono ?_); rintro e w3 ⟨v3', rfl, ho3, hb3⟩; have hb4 : Below w.heap.size w w3 := (by first | exact hb.drew.trans hb3 | exact (below_drewN hb _).trans hb3 | exact (below_drewN (below_drewN hb _) _).trans hb3); have z4 : w3.cell? ⟨g, 4, none⟩ = some (.int .i64 0) := (HC.out _ hb4).2.2.2.2.1; have z5 : w3.cell? ⟨g, 5, none⟩ = some (.int .i64 0) := (HC.out _ hb4).2.2.2.2.2.1; have HO3 := Lib.hid ho3; clear ho3))
            go_wp2
            go_roundg (N - (a + 1) + (M - (b + 1)))
            case measure => have := HQ.out; omega
            case rel =>
              have hE : E a b = true := by
                have h9 := G5.out
                unfold rev at h9
                rw [show N - 1 - (N - a - 1) = a by omega, show M - 1 - (M - b - 1) = b by omega] at h9
                exact h9
              exact ⟨⟨d, i, a + 1, b + 1, kk, _, rfl, rfl, int_eq (by omega), HKK.out, by omega, by omega, by rw [show N - (a + 1) = N - a - 1 by omega, show M - (b + 1) = M - b - 1 by omega]; exact G6.out, HO3.out, appd_ch HCH.out hE, by rw [appd_sum]; have := HSUM.out; omega, hd, hb4, rfl, fun r h9 => HDET.out r (.diag (by omega) (fun h9 => by first | (have h7 := h9.1; have h8 := h9.2.1; omega) | (have h8 := h9.2.2; rw [HFB.out] at h8; omega)) (fun h9 => by first | (have h7 := h9.1; have h8 := h9.2.1; omega) | (have h8 := h9.2.2; rw [HFA.out] at h8; omega)) h9)⟩⟩
      · by_cases hA : 1 ≤ d ∧ 1 ≤ i
        · obtain ⟨hA1, hA2⟩ := hA
          by_cases hA3 : N - a = fwd (rev E N M) N M (d - 1) (i - 1) + 1
          · have hA4 := Nat.le_of_eq hA3
            have hA5 := Nat.le_of_eq hA3.symm
            clear hA3
            have d1 : (1 : Int) ≤ (d : Int) := by omega
            have i1 : (1 : Int) ≤ (i : Int) := by omega
            have hga := fun W hb => HGET.out W hb (d - 1) (i - 1) (kk + 1) (by omega) (by omega) (by omega)
            rw [show ((d - 1 : Nat) : Int) = (d : Int) - 1 by omega] at hga
            generalize hFA : fwd (rev E N M) N M (d - 1) (i - 1) = FA at *
            obtain ⟨GA, hGA⟩ : ∃ GA, (N : Int) - (FA : Int) = GA := ⟨_, rfl⟩
            rw [hGA] at hga
            have ga1 : GA ≤ (N : Int) - (FA : Int) := by omega
            have ga2 : (N : Int) - (FA : Int) ≤ GA := by omega
            clear hGA
            have HFA := Lib.hid hFA; clear hFA
            have HGA := Lib.hid hga; clear hga
            have bA : ((a : Int) + 1 == GA) = true := by simp; omega
            go_wp2
            go_quiet (fail)
            go_wp2_with (fail)
            refine (ok_f _ _ _ (by omega) (by omega) (by omega)).mono ?_
            rintro e w1 ⟨rfl, rfl⟩
            go_wp2_with (fail)
            refine (ok_t _ _ _ (by omega) (by omega) (by omega) (by omega)).mono ?_
            rintro e w1 ⟨rfl, rfl⟩
            go_wp2_with (fail)
            refine (HGA.out _ (by first | exact hb | exact hb.drew | exact below_drewN hb _ | exact below_drewN (below_drewN hb _) _)).mono ?_
            rintro e w2 ⟨rfl, qa, rfl⟩
            go_wp2
            go_roundg (N - (a + 1) + (M - b))
            case measure => have := HQ.out; omega
            case rel =>
              have hr := HRUN.out
              rw [show d = d - 1 + 1 by omega, show i = i - 1 + 1 by omega] at hr
              have hxF : N - a = FA + 1 := by omega
              have h2 := hr.left (by rw [HFA.out]; exact hxF)
              rw [HFA.out] at h2
              exact ⟨⟨d - 1, i - 1, a + 1, b, kk + 1, ps, int_eq (by omega), rfl, int_eq (by omega), by omega, by omega, by omega, by rw [show N - (a + 1) = FA by omega]; exact h2, HOWN.out, HCH.out.hi (by omega) (Nat.le_refl _), by have := HSUM.out; omega, by omega, by first | exact hb.drew | exact below_drewN hb _ | exact below_drewN (below_drewN hb _) _ | exact below_drewN (below_drewN (below_drewN hb _) _) _, rfl, fun r h9 => HDET.out r (.left (by omega) (fun h9 => by first | (have h7 := h9.1; have h8 := h9.2.1; omega) | (have h8 := h9.2.2; rw [HFB.out] at h8; omega)) ⟨by omega, by omega, by rw [HFA.out]; exact hxF⟩ h9)⟩⟩
          · have d1 : (1 : Int) ≤ (d : Int) := by omega
            have i1 : (1 : Int) ≤ (i : Int) := by omega
            have hga := fun W hb => HGET.out W hb (d - 1) (i - 1) (kk + 1) (by omega) (by omega) (by omega)
            rw [show ((d - 1 : Nat) : Int) = (d : Int) - 1 by omega] at hga
            generalize hFA : fwd (rev E N M) N M (d - 1) (i - 1) = FA at *
            obtain ⟨GA, hGA⟩ : ∃ GA, (N : Int) - (FA : Int) = GA := ⟨_, rfl⟩
            rw [hGA] at hga
            have ga1 : GA ≤ (N : Int) - (FA : Int) := by omega
            have ga2 : (N : Int) - (FA : Int) ≤ GA := by omega
            clear hGA
            have HFA := Lib.hid hFA; clear hFA
            have HGA := Lib.hid hga; clear hga
            have bA : ((a : Int) + 1 == GA) = false := by simp; omega
            have hdg := HRUN.out.diag (by omega) (by intro d9 j9 e1 e2 e3; have h9 := HFA.out; rw [show d - 1 = d9 by omega, show i - 1 = j9 by omega] at h9; omega) (by intro d9 e1 e2 e3; omega)
            obtain ⟨g1, g2, g3, g4, g5, g6⟩ := hdg
            have G5 := Lib.hid g5; have G6 := Lib.hid g6; clear g5 g6
            have happ := fun (W : World) (hW : wr.heap.size ≤ W.heap.size) (ho : W.ownsRow w.heap.size 131 3 u7 ps.length (pcCells ps)) => appd_any W w.heap.size u7 ps a b ho (by omega) (by omega) (fun p hp => by have := HPM.out p hp; omega) (by omega) (by omega)
            have HPRE := Lib.hid happ; clear happ
            have v1 : IntKind.i64.wrap (a : Int) = (a : Int) := IntWalk.i64_in _ (by omega)
            have v2 : IntKind.i64.wrap (b : Int) = (b : Int) := IntWalk.i64_in _ (by omega)
            go_wp2
            go_quiet (fail)
            go_wp2_with (fail)
            refine (ok_f _ _ _ (by omega) (by omega) (by omega)).mono ?_
            rintro e w1 ⟨rfl, rfl⟩
            go_wp2_with (fail)
            refine (ok_t _ _ _ (by omega) (by omega) (by omega) (by omega)).mono ?_
            rintro e w1 ⟨rfl, rfl⟩
            go_wp2_with (fail)
            refine (HGA.out _ (by first | exact hb | exact hb.drew | exact below_drewN hb _ | exact below_drewN (below_drewN hb _) _)).mono ?_
            rintro e w2 ⟨rfl, qa, rfl⟩
            go_wp2
            go_region_held3 (fun w' => w'.cell? ⟨g, 4, none⟩ = some (.int .i64 0) ∧ w'.cell? ⟨g, 5, none⟩ = some (.int .i64 0)) (go_keep) (first | (go_at_call 75; (with_reducible refine (HPRE.out _ (by first | exact Nat.le_refl _ | simp) (by first | exact HOWN.out.drew | exact own_drewN HOWN.out _)).mono ?_); rintro e w3 ⟨v3', rfl, ho3, hb3⟩; have hb4 : Below w.heap.size w w3 := (by first | exact hb.drew.trans hb3 | exact (below_drewN hb _).trans hb3 | exact (below_drewN (below_drewN hb _) _).trans hb3); have z4 : w3.cell? ⟨g, 4, none⟩ = some (.int .i64 0) := (HC.out _ hb4).2.2.2.2.1; have z5 : w3.cell? ⟨g, 5, none⟩ = some (.int .i64 0) := (HC.out _ hb4).2.2.2.2.2.1; have HO3 := Lib.hid ho3; clear ho3))
            go_wp2
            go_roundg (N - (a + 1) + (M - (b + 1)))
            case measure => have := HQ.out; omega
            case rel =>
              have hE : E a b = true := by
                have h9 := G5.out
                unfold rev at h9
                rw [show N - 1 - (N - a - 1) = a by omega, show M - 1 - (M - b - 1) = b by omega] at h9
                exact h9
              exact ⟨⟨d, i, a + 1, b + 1, kk, _, rfl, rfl, int_eq (by omega), HKK.out, by omega, by omega, by rw [show N - (a + 1) = N - a - 1 by omega, show M - (b + 1) = M - b - 1 by omega]; exact G6.out, HO3.out, appd_ch HCH.out hE, by rw [appd_sum]; have := HSUM.out; omega, hd, hb4, rfl, fun r h9 => HDET.out r (.diag (by omega) (fun h9 => by first | (have h7 := h9.1; have h8 := h9.2.1; omega) | (have h8 := h9.2.2; rw [HFB.out] at h8; omega)) (fun h9 => by first | (have h7 := h9.1; have h8 := h9.2.1; omega) | (have h8 := h9.2.2; rw [HFA.out] at h8; omega)) h9)⟩⟩
        · have hdg := HRUN.out.diag (by omega) (by intro d9 j9 e1 e2 e3; omega) (by intro d9 e1 e2 e3; omega)
          obtain ⟨g1, g2, g3, g4, g5, g6⟩ := hdg
          have G5 := Lib.hid g5; have G6 := Lib.hid g6; clear g5 g6
          have happ := fun (W : World) (hW : wr.heap.size ≤ W.heap.size) (ho : W.ownsRow w.heap.size 131 3 u7 ps.length (pcCells ps)) => appd_any W w.heap.size u7 ps a b ho (by omega) (by omega) (fun p hp => by have := HPM.out p hp; omega) (by omega) (by omega)
          have HPRE := Lib.hid happ; clear happ
          have v1 : IntKind.i64.wrap (a : Int) = (a : Int) := IntWalk.i64_in _ (by omega)
          have v2 : IntKind.i64.wrap (b : Int) = (b : Int) := IntWalk.i64_in _ (by omega)
          go_wp2
          go_quiet (fail)
          go_wp2_with (fail)
          refine (ok_f _ _ _ (by omega) (by omega) (by omega)).mono ?_
          rintro e w1 ⟨rfl, rfl⟩
          go_wp2_with (fail)
          refine (ok_f _ _ _ (by omega) (by omega) (by omega)).mono ?_
          rintro e w1 ⟨rfl, rfl⟩
          go_wp2
          go_region_held3 (fun w' => w'.cell? ⟨g, 4, none⟩ = some (.int .i64 0) ∧ w'.cell? ⟨g, 5, none⟩ = some (.int .i64 0)) (go_keep) (first | (go_at_call 75; (with_reducible refine (HPRE.out _ (by first | exact Nat.le_refl _ | simp) (by first | exact HOWN.out.drew | exact own_drewN HOWN.out _)).mono ?_); rintro e w3 ⟨v3', rfl, ho3, hb3⟩; have hb4 : Below w.heap.size w w3 := (by first | exact hb.drew.trans hb3 | exact (below_drewN hb _).trans hb3 | exact (below_drewN (below_drewN hb _) _).trans hb3); have z4 : w3.cell? ⟨g, 4, none⟩ = some (.int .i64 0) := (HC.out _ hb4).2.2.2.2.1; have z5 : w3.cell? ⟨g, 5, none⟩ = some (.int .i64 0) := (HC.out _ hb4).2.2.2.2.2.1; have HO3 := Lib.hid ho3; clear ho3))
          go_wp2
          go_roundg (N - (a + 1) + (M - (b + 1)))
          case measure => have := HQ.out; omega
          case rel =>
            have hE : E a b = true := by
              have h9 := G5.out
              unfold rev at h9
              rw [show N - 1 - (N - a - 1) = a by omega, show M - 1 - (M - b - 1) = b by omega] at h9
              exact h9
            exact ⟨⟨d, i, a + 1, b + 1, kk, _, rfl, rfl, int_eq (by omega), HKK.out, by omega, by omega, by rw [show N - (a + 1) = N - a - 1 by omega, show M - (b + 1) = M - b - 1 by omega]; exact G6.out, HO3.out, appd_ch HCH.out hE, by rw [appd_sum]; have := HSUM.out; omega, hd, hb4, rfl, fun r h9 => HDET.out r (.diag (by omega) (fun h9 => by first | (have h7 := h9.1; have h8 := h9.2.1; omega) | (have h8 := h9.2.2; rw [HFB.out] at h8; omega)) (fun h9 => by first | (have h7 := h9.1; have h8 := h9.2.1; omega) | (have h8 := h9.2.2; rw [HFA.out] at h8; omega)) h9)⟩⟩
end Go.Proofs.YtgphjnhbheimiaaGreatDoor
