/-
  The walks of spec.OfBytes and spec.Kept. Condition: at most a million elements each.
-/
import Derived.Test.YtbolgikdadhaeaaLcsI
namespace Go.Proofs.Ytbolgikdadhaeaa
set_option linter.unusedVariables false
open Go.RowKit

theorem infoI' : (Try.prog.info? 3).map (fun i => (i.zero, i.size, i.bytes)) = some (some (.int .i64 0), 1, 8) := infoII
theorem int_lit1 (w : World) (t : TypeId) (x : Int) : CellsR (w.alloc (.cells #[.int .i64 x] t)) (some ⟨w.heap.size, 0, none⟩) (intCells .i64 [x]) := IntsR.lit1 .i64 w t x
theorem intTake (k : IntKind) (zs : List Int) (i : Nat) (h : i < zs.length) : intCells k (zs.take (i + 1)) = intCells k (zs.take i) ++ intCells k [ix zs i] := by
  rw [List.take_succ_eq_append_getElem h]
  unfold intCells
  rw [List.map_append]
  simp [ix, h]
/-- a list of numbers in new memory, in a row of the call's own -/
def IntRes (w : World) (zs : List Int) (e : Ending) (w' : World) : Prop :=
  ∃ A c, e = .returned (.slice A zs.length c) ∧ w'.ownsRow w.heap.size 3 1 (.slice A zs.length c) zs.length (intCells .i64 zs) ∧ Below w.heap.size w w'

set_option maxHeartbeats 400000 in
/-- spec.OfBytes: bytes as numbers. -/
theorem ofBytes_any (A : Option Addr) (c : Nat) (zs : List Int) (w : World) (hr : IntsR .u8 w A zs) (hl : zs.length ≤ 2000002) (hw : ∀ n ∈ zs, (Lit.int .u8 n).wf = true) :
   Calls Try.prog 20 #[.slice A zs.length c] w (IntRes w zs) := by
  have HR := Lib.hid hr; have HW := Lib.hid hw; clear hr hw
  obtain ⟨n, hln⟩ : ∃ n, zs.length = n := ⟨_, rfl⟩
  rw [hln] at hl ⊢
  have HL := Lib.hid hln; clear hln
  obtain ⟨i0, hi, hz0, hz1, hz2⟩ := info_parts infoII
  go_enter Try.func20, Try.ntmps20
  go_wp2
  go_loopw [3, 9] (fun v i wr => ∃ k : Nat, k ≤ n ∧ i = .int .i64 k ∧ wr.ownsRow w.heap.size 3 1 v k (intCells .i64 (zs.take k)) ∧ Below w.heap.size w wr) (fun _ i _ => n - (intOf i).toNat)
  case atStart => exact ⟨0, by omega, rfl, World.ownsRow_made w #[] 0 (Nat.le_refl _) (by simp [maxLen]) rfl, (Below.refl _ _).alloc (Nat.le_refl _) _⟩
  case round =>
    obtain ⟨k, hk, rfl, hown, hb⟩ := hrel
    by_cases hlt : k < n
    · have hkl : k < zs.length := by rw [HL.out]; exact hlt
      obtain ⟨b, off, rfl, hbb, g1⟩ := (IntsR.below HR.out hb (Nat.le_refl _)).at_ hkl
      have hbs := hb.size
      have ht := intTake .i64 zs k hkl
      have hwx := HW.out _ (ix_mem zs k hkl)
      obtain ⟨p, hp⟩ : ∃ p, ix zs k = p := ⟨_, rfl⟩
      rw [hp] at g1 ht hwx
      have hp1 : 0 ≤ p ∧ p ≤ 255 := by
        simp [Lit.wf, IntKind.min, IntKind.max, IntKind.bits, IntKind.signed] at hwx
        omega
      have HT := Lib.hid ht; clear ht hp hwx
      have HO := Lib.hid hown; clear hown
      go_wp2_with (at_builtin; refine wpList_append_any _ rfl (.tmp 13) (.tmp 16) _ rfl w.heap.size 3 i0 _ 1 8 Try.underlying29 hi hz0 hz1 hz2 rfl (by omega) u3 k (intCells .i64 (zs.take k)) rfl (HO.out.alloc _) (some ⟨wr.heap.size, 0, none⟩) 1 1 (intCells .i64 [p]) rfl (int_lit1 _ _ _) rfl (intCells_one _ _) (by unfold maxLen; omega) (by omega) (by simp; omega) ?_; intro A1 c1 w1 hown1 hg1 hat1)
      go_wp2
      go_roundw
      case rel => exact ⟨k + 1, by omega, by go_num, by rw [HT.out]; exact hown1, ((hb.alloc hb.size _).grown hg1 (by simp; omega) (fun g hg => (HO.out.lt g hg).1))⟩
      case measure => simp [intOf]; omega
    · have hkn : k = n := by omega
      subst hkn
      go_wp2
      go_ret
      have e1 : zs.take k = zs := List.take_of_length_le (by rw [HL.out]; omega)
      rw [e1] at hown
      obtain ⟨A', c', hv⟩ := own_form hown
      subst hv
      exact ⟨A', c', by rw [HL.out]; rfl, by rw [HL.out]; exact hown, hb⟩

/-- the differences and the end behind them, step by step -/
def Steps (E : EQT) (N M : Nat) : Nat → Nat → List Df → Nat → Prop
  | _, _, [], k => k = 0
  | a, b, d :: ds, k => a ≤ d.s ∧ d.s ≤ d.e ∧ d.e ≤ N ∧ b ≤ d.rs ∧ d.rs ≤ d.re ∧ d.re ≤ M ∧ d.s + b = d.rs + a ∧ (∀ i, a + i < d.s → E (a + i) (b + i) = true) ∧ ∃ k', k + a = d.s + k' ∧ Steps E N M d.e d.re ds k'
theorem steps_of {E : EQT} {N M : Nat} {ds : List Df} : ∀ {a b k}, Lead E N M a b ds k → Steps E N M a b (ds ++ [⟨N, N, M, M⟩]) k := by
  induction ds with
  | nil =>
    intro a b k h
    obtain ⟨h1, h2, h3, h4, h5⟩ := h
    exact ⟨h1, Nat.le_refl _, Nat.le_refl _, h2, Nat.le_refl _, Nat.le_refl _, h3, h4, 0, by show k + a = N + 0; omega, rfl⟩
  | cons d ds ih =>
    intro a b k h
    obtain ⟨h1, h2, h3, h4, h5, h6, h7, h8, k', h9, h10⟩ := h
    exact ⟨h1, h2, h3, h4, h5, h6, h7, h8, k', h9, ih h10⟩

/-- the relation of Kept's outer loop -/
def KRel (E : EQT) (N M k : Nat) (dsx : List Df) (w1 : World) (q : Nat) (v8 v9 v10 v28 : Value) (wr : World) : Prop :=
  ∃ i a b m k' : Nat, v28 = .int .i64 (i : Int) ∧ v9 = .int .i64 (a : Int) ∧ v10 = .int .i64 (b : Int) ∧ v8 = .int .i64 (m : Int) ∧ i ≤ dsx.length ∧ q = dsx.length - i ∧ m + k' = k ∧ Steps E N M a b (dsx.drop i) k' ∧ m ≤ 2000002 ∧ a ≤ 1000001 ∧ b ≤ 1000001 ∧ Below w1.heap.size w1 wr

set_option maxRecDepth 100000 in
set_option maxHeartbeats 1000000 in
/-- spec.Kept at differences that lead. -/
theorem kept_any (A C D : Option Addr) (c d e : Nat) (xs ys : List Int) (ds : List Df) (k : Nat) (w : World) (hx : IntsR .i64 w A xs) (hy : IntsR .i64 w C ys) (hd : CellsR w D (dfCells ds)) (hl : xs.length ≤ 1000001) (hm : ys.length ≤ 1000001) (hdl : ds.length ≤ 2000002) (hL : Lead (eqI xs ys) xs.length ys.length 0 0 ds k) (hk : k ≤ 1000001) :
   Calls Try.prog 21 #[.slice A xs.length c, .slice C ys.length d, .slice D ds.length e] w fun e' w' => e' = .returned (.tuple #[.int .i64 k, .bool true]) ∧ Below w.heap.size w w' := by
  obtain ⟨i0, hi, hz0, hz1, hz2⟩ := info_parts infoDi
  have hst := steps_of hL
  have HX := Lib.hid hx; have HY := Lib.hid hy; have HD := Lib.hid hd; have HST := Lib.hid hst
  clear hx hy hd hst hL
  obtain ⟨N, hN⟩ : ∃ n, xs.length = n := ⟨_, rfl⟩
  obtain ⟨M, hM⟩ : ∃ n, ys.length = n := ⟨_, rfl⟩
  obtain ⟨n, hn⟩ : ∃ n, ds.length = n := ⟨_, rfl⟩
  rw [hN] at hl HST ⊢
  rw [hM] at hm HST ⊢
  rw [hn] at hdl ⊢
  have HN := Lib.hid hN; have HM := Lib.hid hM; have HNN := Lib.hid hn
  clear hN hM hn
  go_enter Try.func21, Try.ntmps21
  go_wp2_with (first
    | (at_builtin; refine wpList_append_any _ rfl (.tmp 13) (.tmp 14) _ rfl w.heap.size 39 i0 _ 4 32 Try.underlying24 hi hz0 hz1 hz2 rfl (by omega) (.slice (some ⟨w.heap.size, 0, none⟩) 0 0) 0 [] rfl (World.ownsRow_made w #[] 0 (Nat.le_refl _) (by simp [maxLen]) rfl) D n e (dfCells ds) rfl (HD.out.alloc _) (by rw [dfCells_length, HNN.out]) (dfCells_one _) (by unfold maxLen; omega) (by omega) (by simp) ?_; intro A1 c1 w1 hown1 hg1 hat1; have hb1 := ((Below.refl w.heap.size w).alloc (Nat.le_refl _) (.cells #[] 39)).grown hg1 (by simp) (fun g hg => by simp [Value.ownBlock] at hg; omega); have HO1 := Lib.hid hown1; have HB1 := Lib.hid hb1; have hs1 := hb1.size; clear hown1 hg1 hat1 hb1; simp only [Nat.zero_add])
    | (at_builtin; refine wpList_append_any _ rfl (.tmp 15) (.tmp 25) _ rfl w.heap.size 39 i0 _ 4 32 Try.underlying24 hi hz0 hz1 hz2 rfl (by omega) (.slice A1 n c1) n (dfCells ds) rfl (by have h5 := HO1.out.alloc (.cells #[.int .i64 (N : Int), .int .i64 (N : Int), .int .i64 (M : Int), .int .i64 (M : Int)] 39); simpa using h5) (some ⟨w1.heap.size, 0, none⟩) 1 1 (dfCells [⟨N, N, M, M⟩]) rfl (df_lit1 _ _ N N M M) rfl (dfCells_one _) (by unfold maxLen; omega) (by omega) (by simp; omega) ?_; intro A2 c2 w2 hown2 hg2 hat2))
  have hcells : CellsR w2 A2 (dfCells (ds ++ [⟨N, N, M, M⟩])) := by
    have h5 := CellsR.of_own hown2
    rw [dfCells_append]
    exact h5
  have hb2 : Below w.heap.size w w2 := (HB1.out.alloc (by omega) _).grown hg2 (by simp; omega) (fun g hg => (HO1.out.lt g (by simpa using hg)).1)
  have hs2 := hb2.size
  obtain ⟨dsx, hdsx⟩ : ∃ l, ds ++ [⟨N, N, M, M⟩] = l := ⟨_, rfl⟩
  have hdn : dsx.length = n + 1 := by rw [← hdsx, List.length_append, HNN.out]; rfl
  rw [hdsx] at hcells HST
  have HDN := Lib.hid hdn; have HCL := Lib.hid hcells; have HB2 := Lib.hid hb2; have HX2 := Lib.hid (IntsR.below HX.out hb2 (Nat.le_refl _)); have HY2 := Lib.hid (IntsR.below HY.out hb2 (Nat.le_refl _))
  clear hown2 hg2 hat2 hcells hb2 hdsx hdn
  go_loopg [8, 9, 10, 28] (n + 1) (fun q v8 v9 v10 v28 wr => KRel (eqI xs ys) N M k dsx w2 q v8 v9 v10 v28 wr)
  case atStart => exact ⟨0, 0, 0, 0, k, rfl, rfl, rfl, rfl, Nat.zero_le _, by rw [HDN.out]; rfl, by omega, HST.out, by omega, by omega, by omega, Below.refl _ _⟩
  case round =>
    obtain ⟨i, a, b, m, k', rfl, rfl, rfl, rfl, hi2, hq, hk', hstp, hm2, ha2, hb3, hbel⟩ := hrel
    rw [HDN.out] at hi2 hq
    have HQ := Lib.hid hq; have HK' := Lib.hid hk'; have HSTP := Lib.hid hstp
    have hbs := hbel.size
    clear hq hk' hstp
    by_cases hlt : i < n + 1
    · have hil : i < dsx.length := by rw [HDN.out]; exact hlt
      obtain ⟨bb, off, rfl, hbb, g1, g2, g3, g4⟩ := dfs_at (HCL.out.below hbel (Nat.le_refl _)) hil
      have hdrop : dsx.drop i = dsx[i] :: dsx.drop (i + 1) := List.drop_eq_getElem_cons hil
      have hs := HSTP.out
      rw [hdrop] at hs
      obtain ⟨p, hp⟩ : ∃ p, dsx[i] = p := ⟨_, rfl⟩
      rw [hp] at g1 g2 g3 g4 hs
      obtain ⟨s1, s2, s3, s4, s5, s6, s7, s8, k2, s9, s10⟩ := hs
      have S7 := Lib.hid s7; have S8 := Lib.hid s8; have S9 := Lib.hid s9; have S10 := Lib.hid s10
      have b7 : ((p.s : Int) - (a : Int) != (p.rs : Int) - (b : Int)) = false := by simp; omega
      have t1 : ¬ (p.s : Int) < (a : Int) := by omega
      have t2 : ¬ (p.e : Int) < (p.s : Int) := by omega
      have t3 : ¬ (N : Int) < (p.e : Int) := by omega
      have t4 : ¬ (p.rs : Int) < (b : Int) := by omega
      have t5 : ¬ (p.re : Int) < (p.rs : Int) := by omega
      have t6 : ¬ (M : Int) < (p.re : Int) := by omega
      clear hdrop hp s7 s8 s9 s10
      go_wp2
      go_loopg [8, 9, 10] (p.s - a) (fun q v8 v9 v10 wq => ∃ u v mm nq : Nat, v9 = .int .i64 (u : Int) ∧ v10 = .int .i64 (v : Int) ∧ v8 = .int .i64 (mm : Int) ∧ a ≤ u ∧ u ≤ p.s ∧ v + a = b + u ∧ mm + a = m + u ∧ q = p.s - u ∧ wq = (wr.alloc (.cells #[.int .i64 (p.s : Int), .int .i64 (p.e : Int), .int .i64 (p.rs : Int), .int .i64 (p.re : Int)] 39)).drewN nq)
      case atStart => exact ⟨a, b, m, 0, rfl, rfl, rfl, Nat.le_refl _, s1, by omega, by omega, rfl, rfl⟩
      case round =>
        obtain ⟨u, v, mm, nq, rfl, rfl, rfl, u1, u2, u3, u4, u5, rfl⟩ := hrel
        have U3 := Lib.hid u3; have U4 := Lib.hid u4; have U5 := Lib.hid u5
        have v1 : v ≤ 1000001 := by have := S7.out; omega
        have v2 : mm ≤ 3000003 := by omega
        by_cases hus : u < p.s
        · have hus' : (u : Int) < (p.s : Int) := by omega
          have hbal := hbel.alloc hbs (.cells #[.int .i64 (p.s : Int), .int .i64 (p.e : Int), .int .i64 (p.rs : Int), .int .i64 (p.re : Int)] 39)
          have hux : u < xs.length := by rw [HN.out]; omega
          have hvy : v < ys.length := by rw [HM.out]; have := S7.out; omega
          obtain ⟨b1, o1, rfl, _, f1⟩ := (IntsR.below HX2.out hbal (Nat.le_refl _)).at_ hux
          obtain ⟨b2, o2, rfl, _, f2⟩ := (IntsR.below HY2.out hbal (Nat.le_refl _)).at_ hvy
          have hE := S8.out (u - a) (by omega)
          rw [show a + (u - a) = u by omega, show b + (u - a) = v by omega] at hE
          have hEq : ix xs u = ix ys v := by simpa [eqI] using hE
          have bne : (ix xs u != ix ys v) = false := by simp [hEq]
          have lu : (u : Int) < (N : Int) := by omega
          have lv : (v : Int) < (M : Int) := by have := S7.out; omega
          clear hbal hux hvy hE hEq u3 u4 u5
          go_wp2
          go_quiet (fail)
          go_wp2
          go_roundg (p.s - (u + 1))
          case measure => have := U5.out; omega
          case rel => exact ⟨u + 1, v + 1, mm + 1, _, by go_num, by go_num, by go_num, by omega, by omega, by have := U3.out; omega, by have := U4.out; omega, rfl, by first | rfl | exact World.drewN_drewN _ _ _⟩
        · have hus' : ¬ (u : Int) < (p.s : Int) := by omega
          clear u3 u4 u5
          go_wp2
          go_quiet (fail)
          go_wp2
          go_roundg (n + 1 - (i + 1))
          case measure => have := HQ.out; omega
          case rel => exact ⟨i + 1, p.e, p.re, mm, k2, by go_num, rfl, rfl, rfl, by rw [HDN.out]; omega, by rw [HDN.out], by have := U4.out; have := S9.out; have := HK'.out; omega, S10.out, by have := U4.out; have := S9.out; have := HK'.out; omega, by omega, by omega, by first | exact below_drewN (hbel.alloc hbs _) _ | exact below_drewN (below_drewN (hbel.alloc hbs _) _) _⟩
    · have hdr : dsx.drop i = [] := List.drop_of_length_le (by rw [HDN.out]; omega)
      have hs := HSTP.out
      rw [hdr] at hs
      have hk0 : k' = 0 := hs
      have HK0 := Lib.hid hk0
      clear hdr hs hk0
      go_wp2
      go_ret2
      refine ⟨?_, HB2.out.trans (hbel.mono hs2)⟩
      have := HK0.out
      have := HK'.out
      rw [show m = k by omega]
      rfl
end Go.Proofs.Ytbolgikdadhaeaa
