/-
  The walk of forwardlcs: from a label back to the start. No condition but bounds.
-/
import Derived.Test.YtgphjnhbheimiaaGreatDoorWwA
import Derived.Test.YtgphjnhbheimiaaGreatDoorPlL
namespace Go.Proofs.YtgphjnhbheimiaaGreatDoor
set_option linter.unusedVariables false
open Go.RowKit

theorem ok_t (d k : Int) (w : World) (h0 : 0 ≤ d) (h1 : -d ≤ k) (h2 : k ≤ d) (h3 : d ≤ 10000) :
   Calls Tryz.prog 72 #[.int .i64 d, .int .i64 k] w fun e w' => e = .returned (.bool true) ∧ w = w' := by
  go_enter Tryz.func72, Tryz.ntmps72
  go_wp2
  go_ret
  exact ⟨rfl, rfl⟩
theorem ok_f (d k : Int) (w : World) (h : d < 0 ∨ k < -d ∨ d < k) (h3 : d ≤ 10000) (h4 : -10000 ≤ d) :
   Calls Tryz.prog 72 #[.int .i64 d, .int .i64 k] w fun e w' => e = .returned (.bool false) ∧ w = w' := by
  by_cases h0 : 0 ≤ d
  · by_cases h1 : -d ≤ k
    · have h2 : ¬ k ≤ d := by omega
      clear h
      go_enter Tryz.func72, Tryz.ntmps72
      go_wp2
      go_ret
      exact ⟨rfl, rfl⟩
    · clear h
      go_enter Tryz.func72, Tryz.ntmps72
      go_wp2
      go_ret
      exact ⟨rfl, rfl⟩
  · clear h
    go_enter Tryz.func72, Tryz.ntmps72
    go_wp2
    go_ret
    exact ⟨rfl, rfl⟩
theorem own_drewN {w : World} {base : Nat} {e : TypeId} {size : Nat} {v : Value} {n : Nat} {xs : List Value} (h : w.ownsRow base e size v n xs) (q : Nat) : (w.drewN q).ownsRow base e size v n xs := h
theorem int_eq {k : IntKind} {a b : Int} (h : a = b) : Value.int k a = Value.int k b := by rw [h]
theorem of_beq {a b : Int} (h : (a == b) = true) : a = b := by simpa using h
theorem ch_len {E : EQT} {ps : List Pc} : ∀ {a b c d : Nat}, Ch E a b ps c d → a + sumP ps ≤ c ∧ b + sumP ps ≤ d ∧ ps.length ≤ sumP ps := by
  induction ps with
  | nil => intro a b c d h; exact ⟨by simpa [sumP] using h.1, by simpa [sumP] using h.2, by simp [sumP]⟩
  | cons p ps ih =>
    intro a b c d h
    obtain ⟨h1, h2, ⟨h3, _⟩, h4⟩ := h
    have := ih h4
    rw [sumP_cons, List.length_cons]
    omega

/-- what forwardlcs gives: a chain of pieces from the start to the label -/
def FwdRes (E : EQT) (N M j X Y D : Nat) (w : World) (e : Ending) (w' : World) : Prop :=
  ∃ ps, PcRes w.heap.size w ps e w' ∧ Ch E 0 0 ps X Y ∧ 2 * sumP ps + D = X + Y ∧ FwE E N M D j X Y [] ps

/-- the relation at the head of forwardlcs's loop -/
structure FRel (E : EQT) (N M D J X Y B0 : Nat) (w : World) (v1 v2 v7 v8 : Value) (wr : World) (q : Nat) where
  d : Nat
  j : Nat
  x : Nat
  y : Nat
  k : Int
  ps : List Pc
  e1 : v1 = .int .i64 d
  e2 : v2 = .int .i64 k
  e8 : v8 = .int .i64 x
  hk : k = 2 * (j : Int) - (d : Int)
  run : OnRun E N M d j x y
  own : wr.ownsRow B0 131 3 v7 ps.length (pcCells ps)
  ch : Ch E x y ps X Y
  sum : 2 * sumP ps + D + x + y = d + X + Y
  hd : d ≤ D
  hb : Below B0 w wr
  hq : q = x + y
  det : ∀ r, FwE E N M d j x y ps r → FwE E N M D J X Y [] r
def FRelP (E : EQT) (N M D J X Y B0 : Nat) (w : World) (v1 v2 v7 v8 : Value) (wr : World) (q : Nat) : Prop := Nonempty (FRel E N M D J X Y B0 w v1 v2 v7 v8 wr q)

set_option maxRecDepth 100000 in
set_option maxHeartbeats 1000000 in
theorem fwdlcs_any {w : World} {B g N M : Nat} {vf vb : Value} {E : EQT} {K : GK} {rf rb : List LRow} (hG : GSt w B g K vf vb rf rb) (D j : Nat) (k : Int) (hD : D ≤ 2001) (hj : j ≤ D) (hk : k = 2 * (j : Int) - (D : Int)) (hN : N ≤ 1000001) (hM : M ≤ 1000001)
    (hX : fwd E N M D j ≤ 1100000) (hY : fy E N M D j ≤ 1100000) (hfull : ∀ d i, d < D → i ≤ d → Lab rf d i (fwd E N M d i : Nat)) (hlab : Lab rf D j (fwd E N M D j : Nat)) :
    Calls Tryz.prog 57 #[.pointer (some ⟨g, 0, none⟩), .int .i64 D, .int .i64 k] w (FwdRes E N M j (fwd E N M D j) (fy E N M D j) D w) := by
  have hget := fun (W : World) (hb : Below w.heap.size w W) (d i : Nat) (kk : Int) (h1 : d < D) (h2 : i ≤ d) (h3 : kk = 2 * (i : Int) - (d : Int)) => getF_any (hG.below hb (Nat.le_refl _)) d i kk (fwd E N M d i : Nat) (hfull d i h1 h2) h3 (by omega) h2
  have hget0 := getF_any hG D j k (fwd E N M D j : Nat) hlab hk hD hj
  have htop := OnRun.top E N M D j hj
  have hc := fun (W : World) (hb : Below w.heap.size w W) => (hG.below hb (Nat.le_refl _)).cells
  have HC := Lib.hid hc
  have HGET := Lib.hid hget
  have HGET0 := Lib.hid hget0
  have HTOP := Lib.hid htop
  have HK := Lib.hid hk
  have hgl := hG.blk.lt
  generalize fy E N M D j = Y at *
  generalize fwd E N M D j = X at *
  clear hget hget0 hG hfull hlab htop hk hc
  go_enter Tryz.func57, Tryz.ntmps57
  go_wp2_with (fail)
  refine HGET0.out.mono ?_
  rintro e w' ⟨rfl, q, rfl⟩
  go_wp2
  go_loopg [1, 2, 7, 8] (X + Y) (fun q v1 v2 v7 v8 wr => FRelP E N M D j X Y w.heap.size w v1 v2 v7 v8 wr q)
  case atStart => exact ⟨⟨D, j, X, Y, k, [], rfl, rfl, rfl, HK.out, HTOP.out, World.ownsRow_nil _ _ _ _, ⟨Nat.le_refl _, Nat.le_refl _⟩, by simp [sumP], Nat.le_refl _, below_drewN (Below.refl _ _) _, rfl, fun r h9 => h9⟩⟩
  case round =>
    obtain ⟨⟨d, i, x, y, kk, ps, rfl, rfl, rfl, hkk, hrun, hown, hch, hsum, hd, hb, hq, hdet⟩⟩ := hrel
    have HDET := Lib.hid hdet; clear hdet
    have hle := hch.le
    have hln := ch_len hch
    have hij := hrun.hj
    have hyy := hrun.hy
    have hpm := hch.mem
    have k1 : kk ≤ 2 * (i : Int) - (d : Int) := by omega
    have k2 : 2 * (i : Int) - (d : Int) ≤ kk := by omega
    have kb1 : -2001 ≤ kk := by omega
    have kb2 : kk ≤ 2001 := by omega
    have wxk : IntKind.i64.wrap ((x : Int) - kk) = (y : Int) := by rw [show (x : Int) - kk = (y : Int) by omega]; exact IntWalk.i64_in _ (by omega)
    have HPM := Lib.hid hpm; have HRUN := Lib.hid hrun; have HOWN := Lib.hid hown; have HCH := Lib.hid hch; have HSUM := Lib.hid hsum; have HQ := Lib.hid hq; have HKK := Lib.hid hkk; have HYY := Lib.hid hyy
    clear hpm hrun hown hch hsum hq hkk hyy
    have hbs := hb.size
    by_cases hx0 : x ≤ 0
    · have bx : ((x : Int) != 0) = false := by simp; omega
      by_cases hy0 : y ≤ 0
      · have bY : ((y : Int) != 0) = false := by simp; omega
        have hd0 := HRUN.out
        rw [show x = 0 by omega, show y = 0 by omega] at hd0
        have hd1 : d ≤ 0 := Nat.le_of_eq hd0.start
        clear hd0
        go_wp2
        go_ret
        exact ⟨ps, ⟨_, rfl, HOWN.out, hb⟩, HCH.out.lo (Nat.zero_le _) (Nat.zero_le _), by have := HSUM.out; omega, HDET.out ps (.stop (by omega) (by omega))⟩
      · have bY : ((y : Int) != 0) = true := by simp; omega
        have hdn : 1 ≤ d ∧ i ≤ d - 1 ∧ x = fwd E N M (d - 1) i := by
          apply Classical.byContradiction
          intro hn
          have := HRUN.out.diag (by omega) (fun d' j' e1 e2 e3 => by omega) (fun d' e1 e2 e3 => hn (by subst e1; exact ⟨by omega, by omega, e3⟩))
          omega
        obtain ⟨hd1, hi1, hxF⟩ := hdn
        have hxF1 := Nat.le_of_eq hxF
        have hxF2 := Nat.le_of_eq hxF.symm
        clear hxF
        by_cases hi0 : i ≤ 0
        · have d2 : (1 : Int) ≤ (d : Int) := by omega
          have i2 : (i : Int) ≤ (d : Int) - 1 := by omega
          have hgb := fun W hb => HGET.out W hb (d - 1) i (kk + 1) (by omega) (by omega) (by omega)
          rw [show ((d - 1 : Nat) : Int) = (d : Int) - 1 by omega] at hgb
          generalize hFB : fwd E N M (d - 1) i = FB at *
          have HFB := Lib.hid hFB; clear hFB
          have HGB := Lib.hid hgb; clear hgb
          have bB : ((x : Int) == (FB : Int)) = true := by simp; omega
          go_wp2_with (fail)
          refine (ok_f _ _ _ (by omega) (by omega) (by omega)).mono ?_
          rintro e w1 ⟨rfl, rfl⟩
          go_wp2_with (fail)
          refine (ok_t _ _ _ (by omega) (by omega) (by omega) (by omega)).mono ?_
          rintro e w1 ⟨rfl, rfl⟩
          go_wp2_with (fail)
          refine (HGB.out _ (by first | exact hb | exact below_drewN hb _ | exact below_drewN (below_drewN hb _) _)).mono ?_
          rintro e w2 ⟨rfl, qb, rfl⟩
          go_wp2
          go_roundg (x + y - 1)
          case measure => have := HQ.out; omega
          case rel =>
            have hr := HRUN.out
            rw [show d = d - 1 + 1 by omega] at hr
            have hxF : x = FB := by have := of_beq bB; omega
            have h2 := hr.down (by omega) (by rw [HFB.out]; exact hxF)
            exact ⟨⟨d - 1, i, x, y - 1, kk + 1, ps, int_eq (by omega), rfl, rfl, by omega, h2.2, HOWN.out, HCH.out.lo (Nat.le_refl _) (by omega), by have := HSUM.out; omega, by omega, by first | exact below_drewN hb _ | exact below_drewN (below_drewN hb _) _, by have := h2.1; omega, fun r h9 => HDET.out r (.down (by omega) (fun h9 => by first | (have h7 := h9.1; have h8 := h9.2.1; omega) | (have h8 := h9.2.2; rw [HFA.out] at h8; omega)) ⟨by omega, by omega, by rw [HFB.out]; exact hxF⟩ h9)⟩⟩
        · have d1 : (1 : Int) ≤ (d : Int) := by omega
          have i1 : (1 : Int) ≤ (i : Int) := by omega
          have hga := fun W hb => HGET.out W hb (d - 1) (i - 1) (kk - 1) (by omega) (by omega) (by omega)
          rw [show ((d - 1 : Nat) : Int) = (d : Int) - 1 by omega] at hga
          generalize hFA : fwd E N M (d - 1) (i - 1) = FA at *
          have HFA := Lib.hid hFA; clear hFA
          have HGA := Lib.hid hga; clear hga
          have bA : ((x : Int) - 1 == (FA : Int)) = false := by simp; omega
          have d2 : (1 : Int) ≤ (d : Int) := by omega
          have i2 : (i : Int) ≤ (d : Int) - 1 := by omega
          have hgb := fun W hb => HGET.out W hb (d - 1) i (kk + 1) (by omega) (by omega) (by omega)
          rw [show ((d - 1 : Nat) : Int) = (d : Int) - 1 by omega] at hgb
          generalize hFB : fwd E N M (d - 1) i = FB at *
          have HFB := Lib.hid hFB; clear hFB
          have HGB := Lib.hid hgb; clear hgb
          have bB : ((x : Int) == (FB : Int)) = true := by simp; omega
          go_wp2_with (fail)
          refine (ok_t _ _ _ (by omega) (by omega) (by omega) (by omega)).mono ?_
          rintro e w1 ⟨rfl, rfl⟩
          go_wp2_with (fail)
          refine (HGA.out _ (by first | exact hb | exact below_drewN hb _ | exact below_drewN (below_drewN hb _) _)).mono ?_
          rintro e w2 ⟨rfl, qa, rfl⟩
          go_wp2_with (fail)
          refine (ok_t _ _ _ (by omega) (by omega) (by omega) (by omega)).mono ?_
          rintro e w1 ⟨rfl, rfl⟩
          go_wp2_with (fail)
          refine (HGB.out _ (by first | exact hb | exact below_drewN hb _ | exact below_drewN (below_drewN hb _) _)).mono ?_
          rintro e w2 ⟨rfl, qb, rfl⟩
          go_wp2
          go_roundg (x + y - 1)
          case measure => have := HQ.out; omega
          case rel =>
            have hr := HRUN.out
            rw [show d = d - 1 + 1 by omega] at hr
            have hxF : x = FB := by have := of_beq bB; omega
            have h2 := hr.down (by omega) (by rw [HFB.out]; exact hxF)
            exact ⟨⟨d - 1, i, x, y - 1, kk + 1, ps, int_eq (by omega), rfl, rfl, by omega, h2.2, HOWN.out, HCH.out.lo (Nat.le_refl _) (by omega), by have := HSUM.out; omega, by omega, by first | exact below_drewN hb _ | exact below_drewN (below_drewN hb _) _, by have := h2.1; omega, fun r h9 => HDET.out r (.down (by omega) (fun h9 => by first | (have h7 := h9.1; have h8 := h9.2.1; omega) | (have h8 := h9.2.2; rw [HFA.out] at h8; omega)) ⟨by omega, by omega, by rw [HFB.out]; exact hxF⟩ h9)⟩⟩
    · have bx : ((x : Int) != 0) = true := by simp; omega
      by_cases hA : 1 ≤ d ∧ 1 ≤ i
      · obtain ⟨hA1, hA2⟩ := hA
        by_cases hA3 : x = fwd E N M (d - 1) (i - 1) + 1
        · have hA4 := Nat.le_of_eq hA3
          have hA5 := Nat.le_of_eq hA3.symm
          clear hA3
          have d1 : (1 : Int) ≤ (d : Int) := by omega
          have i1 : (1 : Int) ≤ (i : Int) := by omega
          have hga := fun W hb => HGET.out W hb (d - 1) (i - 1) (kk - 1) (by omega) (by omega) (by omega)
          rw [show ((d - 1 : Nat) : Int) = (d : Int) - 1 by omega] at hga
          generalize hFA : fwd E N M (d - 1) (i - 1) = FA at *
          have HFA := Lib.hid hFA; clear hFA
          have HGA := Lib.hid hga; clear hga
          have bA : ((x : Int) - 1 == (FA : Int)) = true := by simp; omega
          go_wp2_with (fail)
          refine (ok_t _ _ _ (by omega) (by omega) (by omega) (by omega)).mono ?_
          rintro e w1 ⟨rfl, rfl⟩
          go_wp2_with (fail)
          refine (HGA.out _ (by first | exact hb | exact below_drewN hb _ | exact below_drewN (below_drewN hb _) _)).mono ?_
          rintro e w2 ⟨rfl, qa, rfl⟩
          go_wp2
          go_roundg (x + y - 1)
          case measure => have := HQ.out; omega
          case rel =>
            have hr := HRUN.out
            rw [show d = d - 1 + 1 by omega, show i = i - 1 + 1 by omega] at hr
            have hxF : x = FA + 1 := by have := of_beq bA; omega
            have h2 := hr.left (by rw [HFA.out]; exact hxF)
            rw [HFA.out] at h2
            exact ⟨⟨d - 1, i - 1, FA, y, kk - 1, ps, int_eq (by omega), rfl, int_eq (by omega), by omega, h2, HOWN.out, HCH.out.lo (by omega) (Nat.le_refl _), by have := HSUM.out; omega, by omega, by first | exact below_drewN hb _ | exact below_drewN (below_drewN hb _) _, by omega, fun r h9 => HDET.out r (.left (by omega) ⟨by omega, by omega, by rw [HFA.out]; exact hxF⟩ (by rw [show x - 1 = FA by omega]; exact h9))⟩⟩
        · by_cases hB : 1 ≤ d ∧ i + 1 ≤ d
          · obtain ⟨hB1, hB2⟩ := hB
            by_cases hB3 : x = fwd E N M (d - 1) i
            · have hB4 := Nat.le_of_eq hB3
              have hB5 := Nat.le_of_eq hB3.symm
              clear hB3
              have d1 : (1 : Int) ≤ (d : Int) := by omega
              have i1 : (1 : Int) ≤ (i : Int) := by omega
              have hga := fun W hb => HGET.out W hb (d - 1) (i - 1) (kk - 1) (by omega) (by omega) (by omega)
              rw [show ((d - 1 : Nat) : Int) = (d : Int) - 1 by omega] at hga
              generalize hFA : fwd E N M (d - 1) (i - 1) = FA at *
              have HFA := Lib.hid hFA; clear hFA
              have HGA := Lib.hid hga; clear hga
              have bA : ((x : Int) - 1 == (FA : Int)) = false := by simp; omega
              have d2 : (1 : Int) ≤ (d : Int) := by omega
              have i2 : (i : Int) ≤ (d : Int) - 1 := by omega
              have hgb := fun W hb => HGET.out W hb (d - 1) i (kk + 1) (by omega) (by omega) (by omega)
              rw [show ((d - 1 : Nat) : Int) = (d : Int) - 1 by omega] at hgb
              generalize hFB : fwd E N M (d - 1) i = FB at *
              have HFB := Lib.hid hFB; clear hFB
              have HGB := Lib.hid hgb; clear hgb
              have bB : ((x : Int) == (FB : Int)) = true := by simp; omega
              go_wp2_with (fail)
              refine (ok_t _ _ _ (by omega) (by omega) (by omega) (by omega)).mono ?_
              rintro e w1 ⟨rfl, rfl⟩
              go_wp2_with (fail)
              refine (HGA.out _ (by first | exact hb | exact below_drewN hb _ | exact below_drewN (below_drewN hb _) _)).mono ?_
              rintro e w2 ⟨rfl, qa, rfl⟩
              go_wp2_with (fail)
              refine (ok_t _ _ _ (by omega) (by omega) (by omega) (by omega)).mono ?_
              rintro e w1 ⟨rfl, rfl⟩
              go_wp2_with (fail)
              refine (HGB.out _ (by first | exact hb | exact below_drewN hb _ | exact below_drewN (below_drewN hb _) _)).mono ?_
              rintro e w2 ⟨rfl, qb, rfl⟩
              go_wp2
              go_roundg (x + y - 1)
              case measure => have := HQ.out; omega
              case rel =>
                have hr := HRUN.out
                rw [show d = d - 1 + 1 by omega] at hr
                have hxF : x = FB := by have := of_beq bB; omega
                have h2 := hr.down (by omega) (by rw [HFB.out]; exact hxF)
                exact ⟨⟨d - 1, i, x, y - 1, kk + 1, ps, int_eq (by omega), rfl, rfl, by omega, h2.2, HOWN.out, HCH.out.lo (Nat.le_refl _) (by omega), by have := HSUM.out; omega, by omega, by first | exact below_drewN hb _ | exact below_drewN (below_drewN hb _) _, by have := h2.1; omega, fun r h9 => HDET.out r (.down (by omega) (fun h9 => by first | (have h7 := h9.1; have h8 := h9.2.1; omega) | (have h8 := h9.2.2; rw [HFA.out] at h8; omega)) ⟨by omega, by omega, by rw [HFB.out]; exact hxF⟩ h9)⟩⟩
            · have d1 : (1 : Int) ≤ (d : Int) := by omega
              have i1 : (1 : Int) ≤ (i : Int) := by omega
              have hga := fun W hb => HGET.out W hb (d - 1) (i - 1) (kk - 1) (by omega) (by omega) (by omega)
              rw [show ((d - 1 : Nat) : Int) = (d : Int) - 1 by omega] at hga
              generalize hFA : fwd E N M (d - 1) (i - 1) = FA at *
              have HFA := Lib.hid hFA; clear hFA
              have HGA := Lib.hid hga; clear hga
              have bA : ((x : Int) - 1 == (FA : Int)) = false := by simp; omega
              have d2 : (1 : Int) ≤ (d : Int) := by omega
              have i2 : (i : Int) ≤ (d : Int) - 1 := by omega
              have hgb := fun W hb => HGET.out W hb (d - 1) i (kk + 1) (by omega) (by omega) (by omega)
              rw [show ((d - 1 : Nat) : Int) = (d : Int) - 1 by omega] at hgb
              generalize hFB : fwd E N M (d - 1) i = FB at *
              have HFB := Lib.hid hFB; clear hFB
              have HGB := Lib.hid hgb; clear hgb
              have bB : ((x : Int) == (FB : Int)) = false := by simp; omega
              have hdg := HRUN.out.diag (by omega) (by intro d9 j9 e1 e2 e3; have h9 := HFA.out; rw [show d - 1 = d9 by omega, show i - 1 = j9 by omega] at h9; omega) (by intro d9 e1 e2 e3; have h9 := HFB.out; rw [show d - 1 = d9 by omega] at h9; omega)
              obtain ⟨g1, g2, g3, g4, g5, g6⟩ := hdg
              have G5 := Lib.hid g5; have G6 := Lib.hid g6; clear g5 g6
              have hpre := fun (W : World) (hW : wr.heap.size ≤ W.heap.size) (ho : W.ownsRow w.heap.size 131 3 u7 ps.length (pcCells ps)) => prepend_any W w.heap.size u7 ps (x - 1) (y - 1) ho (by omega) (by omega) (fun p hp => by have := HPM.out p hp; omega) (by omega) (by omega)
              rw [show ((x - 1 : Nat) : Int) = (x : Int) - 1 by omega, show ((y - 1 : Nat) : Int) = (y : Int) - 1 by omega] at hpre
              have HPRE := Lib.hid hpre; clear hpre
              have v1 : IntKind.i64.wrap (x : Int) = (x : Int) := IntWalk.i64_in _ (by omega)
              have v2 : IntKind.i64.wrap (y : Int) = (y : Int) := IntWalk.i64_in _ (by omega)
              have v3 : IntKind.i64.wrap ((x : Int) - 1) = (x : Int) - 1 := IntWalk.i64_in _ (by omega)
              have v4 : IntKind.i64.wrap ((y : Int) - 1) = (y : Int) - 1 := IntWalk.i64_in _ (by omega)
              have c4 : wr.cell? ⟨g, 4, none⟩ = some (.int .i64 0) := (HC.out _ hb).2.2.2.2.1
              have c5 : wr.cell? ⟨g, 5, none⟩ = some (.int .i64 0) := (HC.out _ hb).2.2.2.2.2.1
              go_wp2_with (fail)
              refine (ok_t _ _ _ (by omega) (by omega) (by omega) (by omega)).mono ?_
              rintro e w1 ⟨rfl, rfl⟩
              go_wp2_with (fail)
              refine (HGA.out _ (by first | exact hb | exact below_drewN hb _ | exact below_drewN (below_drewN hb _) _)).mono ?_
              rintro e w2 ⟨rfl, qa, rfl⟩
              go_wp2_with (fail)
              refine (ok_t _ _ _ (by omega) (by omega) (by omega) (by omega)).mono ?_
              rintro e w1 ⟨rfl, rfl⟩
              go_wp2_with (fail)
              refine (HGB.out _ (by first | exact hb | exact below_drewN hb _ | exact below_drewN (below_drewN hb _) _)).mono ?_
              rintro e w2 ⟨rfl, qb, rfl⟩
              go_wp2
              go_region_held3 (fun w' => w'.cell? ⟨g, 4, none⟩ = some (.int .i64 0) ∧ w'.cell? ⟨g, 5, none⟩ = some (.int .i64 0)) (go_keep) (first | (go_at_call 74; (with_reducible refine (HPRE.out _ (by first | exact Nat.le_refl _ | simp) (by first | exact HOWN.out.drew | exact own_drewN HOWN.out _)).mono ?_); rintro e w3 ⟨v3', rfl, ho3, hb3⟩; have hb4 : Below w.heap.size w w3 := (by first | exact hb.drew.trans hb3 | exact (below_drewN hb _).trans hb3 | exact (below_drewN (below_drewN hb _) _).trans hb3); have z4 : w3.cell? ⟨g, 4, none⟩ = some (.int .i64 0) := (HC.out _ hb4).2.2.2.2.1; have z5 : w3.cell? ⟨g, 5, none⟩ = some (.int .i64 0) := (HC.out _ hb4).2.2.2.2.2.1; have HO3 := Lib.hid ho3; clear ho3))
              go_wp2
              go_roundg (x - 1 + (y - 1))
              case measure => have := HQ.out; omega
              case rel =>
                have hch2 := prep_ch (x := x - 1) (y := y - 1) (by rw [show x - 1 + 1 = x by omega, show y - 1 + 1 = y by omega]; exact HCH.out) G5.out
                exact ⟨⟨d, i, x - 1, y - 1, kk, _, rfl, rfl, int_eq (by omega), HKK.out, G6.out, HO3.out, hch2, by rw [prep_sum]; have := HSUM.out; omega, hd, hb4, rfl, fun r h9 => HDET.out r (.diag (by omega) (fun h9 => by first | (have h7 := h9.1; have h8 := h9.2.1; omega) | (have h8 := h9.2.2; rw [HFA.out] at h8; omega)) (fun h9 => by first | (have h7 := h9.1; have h8 := h9.2.1; omega) | (have h8 := h9.2.2; rw [HFB.out] at h8; omega)) h9)⟩⟩
          · have d1 : (1 : Int) ≤ (d : Int) := by omega
            have i1 : (1 : Int) ≤ (i : Int) := by omega
            have hga := fun W hb => HGET.out W hb (d - 1) (i - 1) (kk - 1) (by omega) (by omega) (by omega)
            rw [show ((d - 1 : Nat) : Int) = (d : Int) - 1 by omega] at hga
            generalize hFA : fwd E N M (d - 1) (i - 1) = FA at *
            have HFA := Lib.hid hFA; clear hFA
            have HGA := Lib.hid hga; clear hga
            have bA : ((x : Int) - 1 == (FA : Int)) = false := by simp; omega
            have hdg := HRUN.out.diag (by omega) (by intro d9 j9 e1 e2 e3; have h9 := HFA.out; rw [show d - 1 = d9 by omega, show i - 1 = j9 by omega] at h9; omega) (by intro d9 e1 e2 e3; omega)
            obtain ⟨g1, g2, g3, g4, g5, g6⟩ := hdg
            have G5 := Lib.hid g5; have G6 := Lib.hid g6; clear g5 g6
            have hpre := fun (W : World) (hW : wr.heap.size ≤ W.heap.size) (ho : W.ownsRow w.heap.size 131 3 u7 ps.length (pcCells ps)) => prepend_any W w.heap.size u7 ps (x - 1) (y - 1) ho (by omega) (by omega) (fun p hp => by have := HPM.out p hp; omega) (by omega) (by omega)
            rw [show ((x - 1 : Nat) : Int) = (x : Int) - 1 by omega, show ((y - 1 : Nat) : Int) = (y : Int) - 1 by omega] at hpre
            have HPRE := Lib.hid hpre; clear hpre
            have v1 : IntKind.i64.wrap (x : Int) = (x : Int) := IntWalk.i64_in _ (by omega)
            have v2 : IntKind.i64.wrap (y : Int) = (y : Int) := IntWalk.i64_in _ (by omega)
            have v3 : IntKind.i64.wrap ((x : Int) - 1) = (x : Int) - 1 := IntWalk.i64_in _ (by omega)
            have v4 : IntKind.i64.wrap ((y : Int) - 1) = (y : Int) - 1 := IntWalk.i64_in _ (by omega)
            have c4 : wr.cell? ⟨g, 4, none⟩ = some (.int .i64 0) := (HC.out _ hb).2.2.2.2.1
            have c5 : wr.cell? ⟨g, 5, none⟩ = some (.int .i64 0) := (HC.out _ hb).2.2.2.2.2.1
            go_wp2_with (fail)
            refine (ok_t _ _ _ (by omega) (by omega) (by omega) (by omega)).mono ?_
            rintro e w1 ⟨rfl, rfl⟩
            go_wp2_with (fail)
            refine (HGA.out _ (by first | exact hb | exact below_drewN hb _ | exact below_drewN (below_drewN hb _) _)).mono ?_
            rintro e w2 ⟨rfl, qa, rfl⟩
            go_wp2_with (fail)
            refine (ok_f _ _ _ (by omega) (by omega) (by omega)).mono ?_
            rintro e w1 ⟨rfl, rfl⟩
            go_wp2
            go_region_held3 (fun w' => w'.cell? ⟨g, 4, none⟩ = some (.int .i64 0) ∧ w'.cell? ⟨g, 5, none⟩ = some (.int .i64 0)) (go_keep) (first | (go_at_call 74; (with_reducible refine (HPRE.out _ (by first | exact Nat.le_refl _ | simp) (by first | exact HOWN.out.drew | exact own_drewN HOWN.out _)).mono ?_); rintro e w3 ⟨v3', rfl, ho3, hb3⟩; have hb4 : Below w.heap.size w w3 := (by first | exact hb.drew.trans hb3 | exact (below_drewN hb _).trans hb3 | exact (below_drewN (below_drewN hb _) _).trans hb3); have z4 : w3.cell? ⟨g, 4, none⟩ = some (.int .i64 0) := (HC.out _ hb4).2.2.2.2.1; have z5 : w3.cell? ⟨g, 5, none⟩ = some (.int .i64 0) := (HC.out _ hb4).2.2.2.2.2.1; have HO3 := Lib.hid ho3; clear ho3))
            go_wp2
            go_roundg (x - 1 + (y - 1))
            case measure => have := HQ.out; omega
            case rel =>
              have hch2 := prep_ch (x := x - 1) (y := y - 1) (by rw [show x - 1 + 1 = x by omega, show y - 1 + 1 = y by omega]; exact HCH.out) G5.out
              exact ⟨⟨d, i, x - 1, y - 1, kk, _, rfl, rfl, int_eq (by omega), HKK.out, G6.out, HO3.out, hch2, by rw [prep_sum]; have := HSUM.out; omega, hd, hb4, rfl, fun r h9 => HDET.out r (.diag (by omega) (fun h9 => by first | (have h7 := h9.1; have h8 := h9.2.1; omega) | (have h8 := h9.2.2; rw [HFA.out] at h8; omega)) (fun h9 => by first | (have h7 := h9.1; have h8 := h9.2.1; omega) | (have h8 := h9.2.2; rw [HFB.out] at h8; omega)) h9)⟩⟩
      · by_cases hB : 1 ≤ d ∧ i + 1 ≤ d
        · obtain ⟨hB1, hB2⟩ := hB
          by_cases hB3 : x = fwd E N M (d - 1) i
          · have hB4 := Nat.le_of_eq hB3
            have hB5 := Nat.le_of_eq hB3.symm
            clear hB3
            have d2 : (1 : Int) ≤ (d : Int) := by omega
            have i2 : (i : Int) ≤ (d : Int) - 1 := by omega
            have hgb := fun W hb => HGET.out W hb (d - 1) i (kk + 1) (by omega) (by omega) (by omega)
            rw [show ((d - 1 : Nat) : Int) = (d : Int) - 1 by omega] at hgb
            generalize hFB : fwd E N M (d - 1) i = FB at *
            have HFB := Lib.hid hFB; clear hFB
            have HGB := Lib.hid hgb; clear hgb
            have bB : ((x : Int) == (FB : Int)) = true := by simp; omega
            go_wp2_with (fail)
            refine (ok_f _ _ _ (by omega) (by omega) (by omega)).mono ?_
            rintro e w1 ⟨rfl, rfl⟩
            go_wp2_with (fail)
            refine (ok_t _ _ _ (by omega) (by omega) (by omega) (by omega)).mono ?_
            rintro e w1 ⟨rfl, rfl⟩
            go_wp2_with (fail)
            refine (HGB.out _ (by first | exact hb | exact below_drewN hb _ | exact below_drewN (below_drewN hb _) _)).mono ?_
            rintro e w2 ⟨rfl, qb, rfl⟩
            go_wp2
            go_roundg (x + y - 1)
            case measure => have := HQ.out; omega
            case rel =>
              have hr := HRUN.out
              rw [show d = d - 1 + 1 by omega] at hr
              have hxF : x = FB := by have := of_beq bB; omega
              have h2 := hr.down (by omega) (by rw [HFB.out]; exact hxF)
              exact ⟨⟨d - 1, i, x, y - 1, kk + 1, ps, int_eq (by omega), rfl, rfl, by omega, h2.2, HOWN.out, HCH.out.lo (Nat.le_refl _) (by omega), by have := HSUM.out; omega, by omega, by first | exact below_drewN hb _ | exact below_drewN (below_drewN hb _) _, by have := h2.1; omega, fun r h9 => HDET.out r (.down (by omega) (fun h9 => by first | (have h7 := h9.1; have h8 := h9.2.1; omega) | (have h8 := h9.2.2; rw [HFA.out] at h8; omega)) ⟨by omega, by omega, by rw [HFB.out]; exact hxF⟩ h9)⟩⟩
          · have d2 : (1 : Int) ≤ (d : Int) := by omega
            have i2 : (i : Int) ≤ (d : Int) - 1 := by omega
            have hgb := fun W hb => HGET.out W hb (d - 1) i (kk + 1) (by omega) (by omega) (by omega)
            rw [show ((d - 1 : Nat) : Int) = (d : Int) - 1 by omega] at hgb
            generalize hFB : fwd E N M (d - 1) i = FB at *
            have HFB := Lib.hid hFB; clear hFB
            have HGB := Lib.hid hgb; clear hgb
            have bB : ((x : Int) == (FB : Int)) = false := by simp; omega
            have hdg := HRUN.out.diag (by omega) (by intro d9 j9 e1 e2 e3; omega) (by intro d9 e1 e2 e3; have h9 := HFB.out; rw [show d - 1 = d9 by omega] at h9; omega)
            obtain ⟨g1, g2, g3, g4, g5, g6⟩ := hdg
            have G5 := Lib.hid g5; have G6 := Lib.hid g6; clear g5 g6
            have hpre := fun (W : World) (hW : wr.heap.size ≤ W.heap.size) (ho : W.ownsRow w.heap.size 131 3 u7 ps.length (pcCells ps)) => prepend_any W w.heap.size u7 ps (x - 1) (y - 1) ho (by omega) (by omega) (fun p hp => by have := HPM.out p hp; omega) (by omega) (by omega)
            rw [show ((x - 1 : Nat) : Int) = (x : Int) - 1 by omega, show ((y - 1 : Nat) : Int) = (y : Int) - 1 by omega] at hpre
            have HPRE := Lib.hid hpre; clear hpre
            have v1 : IntKind.i64.wrap (x : Int) = (x : Int) := IntWalk.i64_in _ (by omega)
            have v2 : IntKind.i64.wrap (y : Int) = (y : Int) := IntWalk.i64_in _ (by omega)
            have v3 : IntKind.i64.wrap ((x : Int) - 1) = (x : Int) - 1 := IntWalk.i64_in _ (by omega)
            have v4 : IntKind.i64.wrap ((y : Int) - 1) = (y : Int) - 1 := IntWalk.i64_in _ (by omega)
            have c4 : wr.cell? ⟨g, 4, none⟩ = some (.int .i64 0) := (HC.out _ hb).2.2.2.2.1
            have c5 : wr.cell? ⟨g, 5, none⟩ = some (.int .i64 0) := (HC.out _ hb).2.2.2.2.2.1
            go_wp2_with (fail)
            refine (ok_f _ _ _ (by omega) (by omega) (by omega)).mono ?_
            rintro e w1 ⟨rfl, rfl⟩
            go_wp2_with (fail)
            refine (ok_t _ _ _ (by omega) (by omega) (by omega) (by omega)).mono ?_
            rintro e w1 ⟨rfl, rfl⟩
            go_wp2_with (fail)
            refine (HGB.out _ (by first | exact hb | exact below_drewN hb _ | exact below_drewN (below_drewN hb _) _)).mono ?_
            rintro e w2 ⟨rfl, qb, rfl⟩
            go_wp2
            go_region_held3 (fun w' => w'.cell? ⟨g, 4, none⟩ = some (.int .i64 0) ∧ w'.cell? ⟨g, 5, none⟩ = some (.int .i64 0)) (go_keep) (first | (go_at_call 74; (with_reducible refine (HPRE.out _ (by first | exact Nat.le_refl _ | simp) (by first | exact HOWN.out.drew | exact own_drewN HOWN.out _)).mono ?_); rintro e w3 ⟨v3', rfl, ho3, hb3⟩; have hb4 : Below w.heap.size w w3 := (by first | exact hb.drew.trans hb3 | exact (below_drewN hb _).trans hb3 | exact (below_drewN (below_drewN hb _) _).trans hb3); have z4 : w3.cell? ⟨g, 4, none⟩ = some (.int .i64 0) := (HC.out _ hb4).2.2.2.2.1; have z5 : w3.cell? ⟨g, 5, none⟩ = some (.int .i64 0) := (HC.out _ hb4).2.2.2.2.2.1; have HO3 := Lib.hid ho3; clear ho3))
            go_wp2
            go_roundg (x - 1 + (y - 1))
            case measure => have := HQ.out; omega
            case rel =>
              have hch2 := prep_ch (x := x - 1) (y := y - 1) (by rw [show x - 1 + 1 = x by omega, show y - 1 + 1 = y by omega]; exact HCH.out) G5.out
              exact ⟨⟨d, i, x - 1, y - 1, kk, _, rfl, rfl, int_eq (by omega), HKK.out, G6.out, HO3.out, hch2, by rw [prep_sum]; have := HSUM.out; omega, hd, hb4, rfl, fun r h9 => HDET.out r (.diag (by omega) (fun h9 => by first | (have h7 := h9.1; have h8 := h9.2.1; omega) | (have h8 := h9.2.2; rw [HFA.out] at h8; omega)) (fun h9 => by first | (have h7 := h9.1; have h8 := h9.2.1; omega) | (have h8 := h9.2.2; rw [HFB.out] at h8; omega)) h9)⟩⟩
        · have hdg := HRUN.out.diag (by omega) (by intro d9 j9 e1 e2 e3; omega) (by intro d9 e1 e2 e3; omega)
          obtain ⟨g1, g2, g3, g4, g5, g6⟩ := hdg
          have G5 := Lib.hid g5; have G6 := Lib.hid g6; clear g5 g6
          have hpre := fun (W : World) (hW : wr.heap.size ≤ W.heap.size) (ho : W.ownsRow w.heap.size 131 3 u7 ps.length (pcCells ps)) => prepend_any W w.heap.size u7 ps (x - 1) (y - 1) ho (by omega) (by omega) (fun p hp => by have := HPM.out p hp; omega) (by omega) (by omega)
          rw [show ((x - 1 : Nat) : Int) = (x : Int) - 1 by omega, show ((y - 1 : Nat) : Int) = (y : Int) - 1 by omega] at hpre
          have HPRE := Lib.hid hpre; clear hpre
          have v1 : IntKind.i64.wrap (x : Int) = (x : Int) := IntWalk.i64_in _ (by omega)
          have v2 : IntKind.i64.wrap (y : Int) = (y : Int) := IntWalk.i64_in _ (by omega)
          have v3 : IntKind.i64.wrap ((x : Int) - 1) = (x : Int) - 1 := IntWalk.i64_in _ (by omega)
          have v4 : IntKind.i64.wrap ((y : Int) - 1) = (y : Int) - 1 := IntWalk.i64_in _ (by omega)
          have c4 : wr.cell? ⟨g, 4, none⟩ = some (.int .i64 0) := (HC.out _ hb).2.2.2.2.1
          have c5 : wr.cell? ⟨g, 5, none⟩ = some (.int .i64 0) := (HC.out _ hb).2.2.2.2.2.1
          go_wp2_with (fail)
          refine (ok_f _ _ _ (by omega) (by omega) (by omega)).mono ?_
          rintro e w1 ⟨rfl, rfl⟩
          go_wp2_with (fail)
          refine (ok_f _ _ _ (by omega) (by omega) (by omega)).mono ?_
          rintro e w1 ⟨rfl, rfl⟩
          go_wp2
          go_region_held3 (fun w' => w'.cell? ⟨g, 4, none⟩ = some (.int .i64 0) ∧ w'.cell? ⟨g, 5, none⟩ = some (.int .i64 0)) (go_keep) (first | (go_at_call 74; (with_reducible refine (HPRE.out _ (by first | exact Nat.le_refl _ | simp) (by first | exact HOWN.out.drew | exact own_drewN HOWN.out _)).mono ?_); rintro e w3 ⟨v3', rfl, ho3, hb3⟩; have hb4 : Below w.heap.size w w3 := (by first | exact hb.drew.trans hb3 | exact (below_drewN hb _).trans hb3 | exact (below_drewN (below_drewN hb _) _).trans hb3); have z4 : w3.cell? ⟨g, 4, none⟩ = some (.int .i64 0) := (HC.out _ hb4).2.2.2.2.1; have z5 : w3.cell? ⟨g, 5, none⟩ = some (.int .i64 0) := (HC.out _ hb4).2.2.2.2.2.1; have HO3 := Lib.hid ho3; clear ho3))
          go_wp2
          go_roundg (x - 1 + (y - 1))
          case measure => have := HQ.out; omega
          case rel =>
            have hch2 := prep_ch (x := x - 1) (y := y - 1) (by rw [show x - 1 + 1 = x by omega, show y - 1 + 1 = y by omega]; exact HCH.out) G5.out
            exact ⟨⟨d, i, x - 1, y - 1, kk, _, rfl, rfl, int_eq (by omega), HKK.out, G6.out, HO3.out, hch2, by rw [prep_sum]; have := HSUM.out; omega, hd, hb4, rfl, fun r h9 => HDET.out r (.diag (by omega) (fun h9 => by first | (have h7 := h9.1; have h8 := h9.2.1; omega) | (have h8 := h9.2.2; rw [HFA.out] at h8; omega)) (fun h9 => by first | (have h7 := h9.1; have h8 := h9.2.1; omega) | (have h8 := h9.2.2; rw [HFB.out] at h8; omega)) h9)⟩⟩
end Go.Proofs.YtgphjnhbheimiaaGreatDoor
