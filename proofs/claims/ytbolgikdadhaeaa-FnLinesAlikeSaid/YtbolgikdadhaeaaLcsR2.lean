/-
  The walk of spec.Road at a chain of portions. Condition: at most a million elements each.
-/
import Derived.Test.YtbolgikdadhaeaaLcsS
namespace Go.Proofs.Ytbolgikdadhaeaa
set_option linter.unusedVariables false
open Go.RowKit

theorem lead_ch {E : EQT} {N M : Nat} {ps : List Pc} (h : Ch E 0 0 ps N M) : Lead E N M 0 0 (diffsFrom N M 0 0 ps) (sumP ps) := by
  have := lead_of (a := 0) (b := 0) h (Nat.le_refl _) (Nat.le_refl _) rfl (fun i hi => by omega)
  simpa using this

set_option maxRecDepth 100000 in
set_option maxHeartbeats 1000000 in
theorem specRoad_any (A C D F : Option Addr) (c d e f : Nat) (xs ys : List Int) (ps : List Pc) (w : World) (hx : IntsR .i64 w A xs) (hy : IntsR .i64 w C ys) (hd : CellsR w D (dfCells (diffsFrom xs.length ys.length 0 0 ps))) (hp : CellsR w F (pcCells ps))
   (hl : xs.length ≤ 1000001) (hm : ys.length ≤ 1000001) (hch : Ch (eqI xs ys) 0 0 ps xs.length ys.length) :
   Calls Try.prog 19 #[.slice A xs.length c, .slice C ys.length d, .slice D (diffsFrom xs.length ys.length 0 0 ps).length e, .slice F ps.length f] w fun e' w' => e' = .returned (.bool true) ∧ Below w.heap.size w w' := by
  have hlen := ch_len hch
  have hdl := diffs_len xs.length ys.length ps 0 0
  have hk := kept_any A C D c d e xs ys _ (sumP ps) w hx hy hd hl hm (by omega) (lead_ch hch) (by omega)
  have HK := Lib.hid hk; have HX := Lib.hid hx; have HY := Lib.hid hy; have HP := Lib.hid hp; have HCH := Lib.hid hch
  clear hk hx hy hd hp hch
  generalize (diffsFrom xs.length ys.length 0 0 ps).length = dl at *
  obtain ⟨N, hN⟩ : ∃ n, xs.length = n := ⟨_, rfl⟩
  obtain ⟨M, hM⟩ : ∃ n, ys.length = n := ⟨_, rfl⟩
  obtain ⟨n, hn⟩ : ∃ n, ps.length = n := ⟨_, rfl⟩
  rw [hN] at hl HCH HK hlen ⊢
  rw [hM] at hm HCH HK hlen ⊢
  rw [hn] at hlen ⊢
  obtain ⟨k, hkk⟩ : ∃ k, sumP ps = k := ⟨_, rfl⟩
  rw [hkk] at HK hlen
  have HN := Lib.hid hN; have HM := Lib.hid hM; have HNN := Lib.hid hn; have HKK := Lib.hid hkk
  clear hN hM hn hkk hdl
  have hnb : n ≤ 1000001 := by omega
  have hkb : k ≤ 1000001 := by omega
  clear hlen
  go_enter Try.func19, Try.ntmps19
  go_wp2_with (fail)
  refine HK.out.mono ?_
  rintro e1 w1 ⟨rfl, hb1⟩
  have hs1 := hb1.size
  have HB1 := Lib.hid hb1; have HX1 := Lib.hid (IntsR.below HX.out hb1 (Nat.le_refl _)); have HY1 := Lib.hid (IntsR.below HY.out hb1 (Nat.le_refl _)); have HP1 := Lib.hid (HP.out.below hb1 (Nat.le_refl _))
  clear hb1
  go_wp2
  go_loopg [9, 11, 12, 25] n (fun q v9 v11 v12 v25 wr => ∃ i a b m : Nat, v25 = .int .i64 (i : Int) ∧ v11 = .int .i64 (a : Int) ∧ v12 = .int .i64 (b : Int) ∧ v9 = .int .i64 (m : Int) ∧ i ≤ n ∧ q = n - i ∧ m = sumP (ps.drop i) ∧ m ≤ 1000001 ∧ Ch (eqI xs ys) a b (ps.drop i) N M ∧ Below w1.heap.size w1 wr)
  case atStart => exact ⟨0, 0, 0, k, rfl, rfl, rfl, rfl, Nat.zero_le _, rfl, HKK.out.symm, hkb, HCH.out, Below.refl _ _⟩
  case round =>
    obtain ⟨i, a, b, m, rfl, rfl, rfl, rfl, hi2, hq, hm3, hm4, hch, hbel⟩ := hrel
    have HQ := Lib.hid hq; have HM3 := Lib.hid hm3; have HCHI := Lib.hid hch
    have hbs := hbel.size
    clear hq hm3 hch
    by_cases hlt : i < n
    · have hil : i < ps.length := by rw [HNN.out]; exact hlt
      obtain ⟨bb, off, rfl, hbb, g1, g2, g3⟩ := pcs_at (HP1.out.below hbel (Nat.le_refl _)) hil
      have hdrop : ps.drop i = ps[i] :: ps.drop (i + 1) := List.drop_eq_getElem_cons hil
      have hs := HCHI.out
      have hm5 := HM3.out
      rw [hdrop] at hs hm5
      rw [sumP_cons] at hm5
      obtain ⟨p, hp⟩ : ∃ p, ps[i] = p := ⟨_, rfl⟩
      rw [hp] at g1 g2 g3 hs hm5
      obtain ⟨s1, s2, ⟨s3, s4⟩, s5⟩ := hs
      have hle := s5.le
      have S4 := Lib.hid s4; have S5 := Lib.hid s5; have HM5 := Lib.hid hm5
      have t1 : ¬ (p.x : Int) < (a : Int) := by omega
      have t2 : ¬ (p.y : Int) < (b : Int) := by omega
      have t3 : ¬ (p.l : Int) < 0 := by omega
      have t4 : ¬ (N : Int) < (p.x : Int) + (p.l : Int) := by omega
      have t5 : ¬ (M : Int) < (p.y : Int) + (p.l : Int) := by omega
      have hml : p.l ≤ m := by omega
      obtain ⟨m2, hm2⟩ : ∃ m2, m - p.l = m2 := ⟨_, rfl⟩
      have wm : IntKind.i64.wrap ((m : Int) - (p.l : Int)) = (m2 : Int) := by rw [show (m : Int) - (p.l : Int) = (m2 : Int) by omega]; exact IntWalk.i64_in _ (by omega)
      have hm2b : m2 ≤ 1000001 := by omega
      have HM2 := Lib.hid hm2
      have wx : IntKind.i64.wrap ((p.x : Int) + (p.l : Int)) = (p.x : Int) + (p.l : Int) := IntWalk.i64_in _ (by omega)
      have wy : IntKind.i64.wrap ((p.y : Int) + (p.l : Int)) = (p.y : Int) + (p.l : Int) := IntWalk.i64_in _ (by omega)
      clear hdrop hp s4 s5 hm5 hm2
      have WX := Lib.hid wx; have WY := Lib.hid wy
      clear wx wy
      go_wp2
      go_loopg [66] p.l (fun q v66 wq => ∃ u nq : Nat, v66 = .int .i64 (u : Int) ∧ u ≤ p.l ∧ q = p.l - u ∧ wq = (wr.alloc (.cells #[.int .i64 (p.x : Int), .int .i64 (p.y : Int), .int .i64 (p.l : Int)] 62)).drewN nq)
      case atStart => exact ⟨0, 0, rfl, Nat.zero_le _, rfl, rfl⟩
      case round =>
        obtain ⟨u, nq, rfl, u2, u5, rfl⟩ := hrel
        have U5 := Lib.hid u5
        by_cases hus : u < p.l
        · have hus' : (u : Int) < (p.l : Int) := by omega
          have hbal := hbel.alloc hbs (.cells #[.int .i64 (p.x : Int), .int .i64 (p.y : Int), .int .i64 (p.l : Int)] 62)
          have hux : p.x + u < xs.length := by rw [HN.out]; omega
          have hvy : p.y + u < ys.length := by rw [HM.out]; omega
          obtain ⟨b1, o1, rfl, _, f1⟩ := (IntsR.below HX1.out hbal (Nat.le_refl _)).at_ hux
          obtain ⟨b2, o2, rfl, _, f2⟩ := (IntsR.below HY1.out hbal (Nat.le_refl _)).at_ hvy
          have hE := S4.out u hus
          have hEq : ix xs (p.x + u) = ix ys (p.y + u) := by simpa [eqI] using hE
          have bne : (ix xs (p.x + u) != ix ys (p.y + u)) = false := by simp [hEq]
          obtain ⟨r1, hr1⟩ : ∃ r, p.x + u = r := ⟨_, rfl⟩
          obtain ⟨r2, hr2⟩ : ∃ r, p.y + u = r := ⟨_, rfl⟩
          rw [hr1] at f1 bne
          rw [hr2] at f2 bne
          have lu : (r1 : Int) < (N : Int) := by omega
          have lv : (r2 : Int) < (M : Int) := by omega
          have lu0 : (0 : Int) ≤ (r1 : Int) := by omega
          have lv0 : (0 : Int) ≤ (r2 : Int) := by omega
          have wu : IntKind.i64.wrap ((p.x : Int) + (u : Int)) = (r1 : Int) := by rw [show (p.x : Int) + (u : Int) = (r1 : Int) by omega]; exact IntWalk.i64_in _ (by omega)
          have wv : IntKind.i64.wrap ((p.y : Int) + (u : Int)) = (r2 : Int) := by rw [show (p.y : Int) + (u : Int) = (r2 : Int) by omega]; exact IntWalk.i64_in _ (by omega)
          clear hbal hux hvy hE hEq u5 hr1 hr2
          go_wp2
          go_quiet (fail)
          go_wp2
          go_roundg (p.l - (u + 1))
          case measure => have := U5.out; omega
          case rel => exact ⟨u + 1, _, by go_num, by omega, rfl, by first | rfl | exact World.drewN_drewN _ _ _⟩
        · have hus' : ¬ (u : Int) < (p.l : Int) := by omega
          have wx := WX.out; have wy := WY.out
          clear u5
          go_wp2
          go_quiet (fail)
          go_wp2
          go_roundg (n - (i + 1))
          case measure => have := HQ.out; omega
          case rel => exact ⟨i + 1, p.x + p.l, p.y + p.l, m2, by go_num, by go_num, by go_num, rfl, by omega, rfl, by have := HM2.out; have := HM5.out; omega, hm2b, S5.out, by first | exact below_drewN (hbel.alloc hbs _) _ | exact below_drewN (below_drewN (hbel.alloc hbs _) _) _⟩
    · have hdr : ps.drop i = [] := List.drop_of_length_le (by rw [HNN.out]; omega)
      have hm5 := HM3.out
      rw [hdr] at hm5
      have hm6 : m = 0 := hm5
      have b1 : ((m : Int) == 0) = true := by simp [hm6]
      clear hdr hm5 hm6
      go_wp2
      go_ret
      exact ⟨rfl, HB1.out.trans (hbel.mono hs1)⟩
end Go.Proofs.Ytbolgikdadhaeaa
