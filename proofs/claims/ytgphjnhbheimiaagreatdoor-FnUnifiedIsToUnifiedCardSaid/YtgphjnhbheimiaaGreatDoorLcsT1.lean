/-
  The walk of twoDone: do labels from both ends meet? No condition but bounds.
-/
import Derived.Test.YtgphjnhbheimiaaGreatDoorLcsW7
namespace Go.Proofs.YtgphjnhbheimiaaGreatDoor
set_option linter.unusedVariables false
open Go.RowKit

theorem run_maxI {P : Program} (w : World) (t : TypeId) (a b n : Int) (h : n = max a b) :
   (Builtin.max_ #[t, t] t #[.int .i64 a, .int .i64 b]).run P w = .ok (.int .i64 n) w := by
  subst h
  simp only [Builtin.max_, List.foldlM, Builtin.max2]
  simp only [Sem.run_bind, Sem.run_pure, Result.andThen_ok]
  congr 2
  split <;> omega
theorem run_minI {P : Program} (w : World) (t : TypeId) (a b n : Int) (h : n = min a b) :
   (Builtin.min_ #[t, t] t #[.int .i64 a, .int .i64 b]).run P w = .ok (.int .i64 n) w := by
  subst h
  simp only [Builtin.min_, List.foldlM, Builtin.min2]
  simp only [Sem.run_bind, Sem.run_pure, Result.andThen_ok]
  congr 2
  split <;> omega

/-- all labels of the road from the end up to level D are laid -/
def FullB (E : EQT) (N M : Nat) (rb : List LRow) (D : Nat) : Prop := ∀ d j, d ≤ D → j ≤ d → Lab rb d (d - j) ((N : Int) - (fwd (rev E N M) N M d j : Nat))
/-- labels from both ends meet on one diagonal -/
def Over (E : EQT) (N M df db j j' : Nat) : Prop := j ≤ df ∧ j' ≤ db ∧ 2 * j + 2 * j' + M = df + db + N ∧ N ≤ fwd E N M df j + fwd (rev E N M) N M db j'
/-- two labels' numbers on one diagonal -/
def Diag2 (N M df db j j' : Nat) : Prop := j ≤ df ∧ j' ≤ db ∧ 2 * j + 2 * j' + M = df + db + N
/-- a diagonal on which nothing more is to be sought -/
def TDc (E : EQT) (N M df db j j' : Nat) : Prop :=
  (fwd E N M df j : Int) = (N : Int) - (fwd (rev E N M) N M db j' : Nat) ∨ (N : Int) - (fwd (rev E N M) N M db j' : Nat) = 0 ∨ (N : Int) - (fwd (rev E N M) N M db j' : Nat) - (2 * (j : Int) - (df : Int)) = 0 ∨
  (fwd E N M df j : Int) - (2 * (j : Int) - (df : Int)) = (M : Int) ∨ (fwd E N M df j : Int) = (N : Int)
/-- the diagonal that twoDone takes -/
def TDsel (E : EQT) (N M df db j : Nat) : Prop :=
  ∃ j0 j0', Over E N M df db j0 j0' ∧ (∀ i i', Over E N M df db i i' → j0 ≤ i) ∧
    ((j0 ≤ j ∧ (∃ j', Diag2 N M df db j j' ∧ TDc E N M df db j j') ∧ ∀ i i', j0 ≤ i → i < j → Diag2 N M df db i i' → ¬ TDc E N M df db i i') ∨
     (j = j0 ∧ ∀ i i', j0 ≤ i → Diag2 N M df db i i' → ¬ TDc E N M df db i i'))
theorem TDsel.uniq {E : EQT} {N M df db j k : Nat} (h : TDsel E N M df db j) (h' : TDsel E N M df db k) : j = k := by
  obtain ⟨a, a', a1, a2, a3⟩ := h
  obtain ⟨b, b', b1, b2, b3⟩ := h'
  have e : a = b := Nat.le_antisymm (a2 _ _ b1) (b2 _ _ a1)
  subst e
  rcases a3 with ⟨c1, ⟨j', c2, c3⟩, c4⟩ | ⟨c1, c2⟩
  · rcases b3 with ⟨d1, ⟨k', d2, d3⟩, d4⟩ | ⟨d1, d2⟩
    · rcases Nat.lt_trichotomy j k with h | h | h
      · exact absurd c3 (d4 _ _ c1 h c2)
      · exact h
      · exact absurd d3 (c4 _ _ d1 h d2)
    · exact absurd c3 (d2 _ _ c1 c2)
  · rcases b3 with ⟨d1, ⟨k', d2, d3⟩, d4⟩ | ⟨d1, d2⟩
    · exact absurd d3 (c2 _ _ d1 d2)
    · omega

/-- a world in which only draws have been made since -/
def DW (w W : World) : Prop := ∃ q, W = w.drewN q
theorem DW.refl (w : World) : DW w w := ⟨0, rfl⟩
theorem DW.drewN {w W : World} (h : DW w W) (n : Nat) : DW w (W.drewN n) := by
  obtain ⟨q, rfl⟩ := h
  exact ⟨q + n, World.drewN_drewN _ _ _⟩
theorem DW.below {w W : World} (h : DW w W) : Below w.heap.size w W := by
  obtain ⟨q, rfl⟩ := h
  exact below_drewN (Below.refl _ _) _
/-- what twoDone gives -/
def TD (E : EQT) (N M df db : Nat) (w : World) (e : Ending) (w' : World) : Prop :=
  DW w w' ∧ ((e = .returned (.tuple #[.int .i64 0, .bool false]) ∧ ∀ j j', ¬ Over E N M df db j j') ∨ (∃ (j j' : Nat) (k : Int), Over E N M df db j j' ∧ k = 2 * (j : Int) - (df : Int) ∧ TDsel E N M df db j ∧ e = .returned (.tuple #[.int .i64 k, .bool true])))
/-- the relation of twoDone's loops -/
def TDR (E : EQT) (N M df db : Nat) (w : World) (kmin kmax : Int) (q : Nat) (v : Value) (wr : World) : Prop :=
  ∃ (j : Nat) (k : Int), v = .int .i64 k ∧ k = 2 * (j : Int) - (df : Int) ∧ kmin ≤ k ∧ k ≤ 5000005 ∧ q = (5000005 - k).toNat ∧ DW w wr ∧ ∀ i i', Over E N M df db i i' → k ≤ 2 * (i : Int) - (df : Int)

set_option maxRecDepth 100000 in
set_option maxHeartbeats 2000000 in
theorem twoDone_any {w : World} {B g N M : Nat} {vf vb : Value} {E : EQT} {K : GK} {rf rb : List LRow} (hG : GSt w B g K vf vb rf rb) (hux : K.ux = (N : Int)) (huy : K.uy = (M : Int)) (hdl : K.dl = (N : Int) - (M : Int)) (df db : Nat) (h1 : df ≤ 2001) (h2 : db ≤ 2001) (hN : N ≤ 1000001) (hM : M ≤ 1000001)
    (hF : ∀ j, j ≤ df → Lab rf df j (fwd E N M df j : Nat)) (hB : ∀ j, j ≤ db → Lab rb db (db - j) ((N : Int) - (fwd (rev E N M) N M db j : Nat))) :
    Calls Tryz.prog 51 #[.pointer (some ⟨g, 0, none⟩), .int .i64 df, .int .i64 db] w (TD E N M df db w) := by
  have hgf := fun (W : World) (hW : Below w.heap.size w W) (j : Nat) (k x : Int) (hj : j ≤ df) (hk : k = 2 * (j : Int) - (df : Int)) (hx : (fwd E N M df j : Nat) = x) => (show Calls Tryz.prog 70 #[.pointer (some ⟨g, 1, none⟩), .int .i64 df, .int .i64 k] W (fun e w' => e = .returned (.int .i64 x) ∧ ∃ m, w' = W.drewN m) by
    obtain ⟨l1, l2, l3⟩ := hF j hj
    have hg := get_any W B g 1 vf rf df j k (hG.below hW (Nat.le_refl _)).cells.2.1 (hG.tf.below hW (Nat.le_refl _)) l1 l2 (half_sum hk) (by omega) (by omega) (by omega)
    rw [l3, hx] at hg
    exact hg)
  have hgb := fun (W : World) (hW : Below w.heap.size w W) (n j : Nat) (k x : Int) (hj : j ≤ db) (hk : k = (db : Int) - 2 * (j : Int)) (hx : (N : Int) - (fwd (rev E N M) N M db j : Nat) = x) => (show Calls Tryz.prog 70 #[.pointer (some ⟨g, 2, none⟩), .int .i64 db, .int .i64 k] (W.drewN n) (fun e w' => e = .returned (.int .i64 x) ∧ ∃ m, w' = (W.drewN n).drewN m) by
    obtain ⟨l1, l2, l3⟩ := hB j hj
    have hW' : Below w.heap.size w (W.drewN n) := below_drewN hW n
    have hg := get_any (W.drewN n) B g 2 vb rb db (db - j) k (hG.below hW' (Nat.le_refl _)).cells.2.2.1 (hG.tb.below hW' (Nat.le_refl _)) l1 l2 (half_sum (by omega)) (by omega) (by omega) (by omega)
    rw [l3, hx] at hg
    exact hg)
  have hcc := fun (W : World) (hW : Below w.heap.size w W) => (hG.below hW (Nat.le_refl _)).cells
  have HCC := Lib.hid hcc
  obtain ⟨_, _, _, _, _, _, c6, c7, c8⟩ := hG.cells
  rw [hux] at c6
  rw [huy] at c7
  obtain ⟨dl, hdl'⟩ : ∃ dl, (N : Int) - (M : Int) = dl := ⟨_, rfl⟩
  rw [hdl, hdl'] at c8
  rw [hux, huy, hdl, hdl'] at HCC
  have dl1 : dl ≤ (N : Int) - (M : Int) := by omega
  have dl2 : (N : Int) - (M : Int) ≤ dl := by omega
  have HGF := Lib.hid hgf; have HGB := Lib.hid hgb
  clear hcc hgf hgb hG hux huy hdl hdl' hF hB
  by_cases hpar : ((df : Int) + (db : Int) + dl).tmod 2 = 0
  · have hp2 : ((df : Int) + (db : Int) + dl) % 2 = 0 := Int.emod_eq_zero_of_dvd (Int.dvd_of_tmod_eq_zero hpar)
    have br : (((df : Int) + (db : Int) + dl).tmod 2 != 0) = false := by simp [hpar]
    obtain ⟨kmin, hkmin⟩ : ∃ k, k = max (-(df : Int)) (-(db : Int) + dl) := ⟨_, rfl⟩
    obtain ⟨kmax, hkmax⟩ : ∃ k, k = min (df : Int) ((db : Int) + dl) := ⟨_, rfl⟩
    have hmax := fun w => run_maxI (P := Tryz.prog) w 3 (-(df : Int)) (-(db : Int) + dl) kmin hkmin
    have hmin := fun w => run_minI (P := Tryz.prog) w 3 (df : Int) ((db : Int) + dl) kmax hkmax
    obtain ⟨j0, hj0⟩ : ∃ j0 : Nat, kmin = 2 * (j0 : Int) - (df : Int) := ⟨((kmin + df) / 2).toNat, by omega⟩
    have m1 : -(df : Int) ≤ kmin := by omega
    have m2 : -(db : Int) + dl ≤ kmin := by omega
    have m3 : kmax ≤ (df : Int) := by omega
    have m4 : kmax ≤ (db : Int) + dl := by omega
    have m5 : kmin ≤ 1002001 := by omega
    have hst : ∀ i i', Over E N M df db i i' → kmin ≤ 2 * (i : Int) - (df : Int) := fun i i' ⟨o1, o2, o3, _⟩ => by omega
    have hend : ∀ i i', Over E N M df db i i' → 2 * (i : Int) - (df : Int) ≤ kmax := fun i i' ⟨o1, o2, o3, _⟩ => by omega
    have hendd : ∀ i i', Diag2 N M df db i i' → 2 * (i : Int) - (df : Int) ≤ kmax := fun i i' ⟨o1, o2, o3⟩ => by omega
    have HST := Lib.hid hst; have HEND := Lib.hid hend; have HENDD := Lib.hid hendd; have HJ0 := Lib.hid hj0; have HP := Lib.hid hpar
    clear hkmin hkmax hst hend hendd hj0 hpar
    go_enter Tryz.func51, Tryz.ntmps51
    go_wp2
    go_loopg [10] (5000005 - kmin).toNat (fun q v wr => TDR E N M df db w kmin kmax q v wr)
    case atStart => exact ⟨j0, kmin, rfl, HJ0.out, Int.le_refl _, by omega, rfl, DW.refl _, HST.out⟩
    case round =>
      obtain ⟨j, k, rfl, hk, hk1, hk2, hq, hdw, hall⟩ := hrel
      have HDW := Lib.hid hdw
      obtain ⟨_, _, _, _, _, _, c6, c7, c8⟩ := HCC.out _ hdw.below
      clear hdw
      have HQ := Lib.hid hq; have HALL := Lib.hid hall; have HKQ := Lib.hid hk
      have kk1 : k ≤ 2 * (j : Int) - (df : Int) := by omega
      have kk2 : 2 * (j : Int) - (df : Int) ≤ k := by omega
      clear hq hall hk
      by_cases hle : k ≤ kmax
      · have hjd : j ≤ df := by omega
        obtain ⟨j', hj'⟩ : ∃ j' : Nat, (db : Int) + dl - k = 2 * (j' : Int) := ⟨(((db : Int) + dl - k) / 2).toNat, by omega⟩
        have hjd' : j' ≤ db := by omega
        obtain ⟨X, hX⟩ : ∃ X, fwd E N M df j = X := ⟨_, rfl⟩
        obtain ⟨X', hX'⟩ : ∃ X, fwd (rev E N M) N M db j' = X := ⟨_, rfl⟩
        obtain ⟨u, hu⟩ : ∃ u, (N : Int) - (X' : Int) = u := ⟨_, rfl⟩
        obtain ⟨kd, hkd⟩ : ∃ kd, k - dl = kd := ⟨_, rfl⟩
        have u1 : u ≤ (N : Int) - (X' : Int) := by omega
        have u2 : (N : Int) - (X' : Int) ≤ u := by omega
        have hXb := (fwd_le (E := E) (N := N) (M := M) df j hjd).1
        have hXb' := (fwd_le (E := rev E N M) (N := N) (M := M) db j' hjd').1
        have hg1 := fwd_ge E N M df j hjd
        have hg2 := fwd_ge (rev E N M) N M db j' hjd'
        rw [hX] at hXb hg1
        rw [hX'] at hXb' hg2
        have hovr : u ≤ (X : Int) → Over E N M df db j j' := fun h => ⟨hjd, hjd', by omega, by rw [hX, hX']; omega⟩
        have hg3 := fun W hW => HGF.out W hW j k (X : Int) hjd HKQ.out (by rw [hX])
        have hg4 := fun W hW n => HGB.out W hW n j' kd u hjd' (by omega) (by rw [hX', hu])
        have HG3 := Lib.hid hg3; have HG4 := Lib.hid hg4; have HOVR := Lib.hid hovr; have HJ' := Lib.hid hj'; have HX := Lib.hid hX; have HX' := Lib.hid hX'
        have wkd : IntKind.i64.wrap (k - dl) = kd := by rw [hkd]; exact IntWalk.i64_in _ (by omega)
        have ub1 : -5000 ≤ u ∧ u ≤ (N : Int) := by omega
        obtain ⟨y, hy⟩ : ∃ y, (X : Int) - k = y := ⟨_, rfl⟩
        have hy0 : 0 ≤ y := by omega
        have hyv : u - k ≤ (M : Int) := by omega
        have HY := Lib.hid hy
        have wy : IntKind.i64.wrap ((X : Int) - k) = y := by rw [hy]; exact IntWalk.i64_in _ (by omega)
        obtain ⟨v, hv⟩ : ∃ v, u - k = v := ⟨_, rfl⟩
        have HV := Lib.hid hv
        have wv : IntKind.i64.wrap (u - k) = v := by rw [hv]; exact IntWalk.i64_in _ (by omega)
        rw [hv] at hyv
        clear hg3 hg4 hovr hX hX' hu hkd hj' hy hv
        by_cases hov : u ≤ (X : Int)
        · have hO := HOVR.out hov
          have hmin : ∀ i i', Over E N M df db i i' → j ≤ i := fun i i' ho => by have := HALL.out i i' ho; omega
          have HO := Lib.hid hO; have HMIN := Lib.hid hmin; clear hO hmin
          go_wp2_with (fail)
          refine (HG3.out _ HDW.out.below).mono ?_
          rintro e w1 ⟨rfl, q1, hw1⟩
          have hdw1 : DW w w1 := by rw [hw1]; exact HDW.out.drewN q1
          have HDW1 := Lib.hid hdw1
          obtain ⟨_, _, _, _, _, _, d6, d7, d8⟩ := HCC.out _ hdw1.below
          clear hw1 hdw1
          go_wp2
          go_quiet ((go_at_call 70; exact Calls.quiet_of (HG4.out _ HDW1.out.below _)))
          go_wp2
          have HKQ0 := HKQ; have HX0 := HX; have HX0' := HX'; have HJ0' := HJ'
          clear HG3 HG4 HOVR HJ' HX HX' HY HV wy wv wkd ub1 hy0 hyv HKQ
          go_loopg [13] (5000005 - k).toNat (fun q v wr => ∃ (jl : Nat) (l : Int), v = .int .i64 l ∧ l = 2 * (jl : Int) - (df : Int) ∧ k ≤ l ∧ l ≤ 5000005 ∧ q = (5000005 - l).toNat ∧ DW w wr ∧ ∀ i i', j ≤ i → i < jl → Diag2 N M df db i i' → ¬ TDc E N M df db i i')
          case atStart => exact ⟨j, k, rfl, HKQ0.out, Int.le_refl _, hk2, rfl, HDW1.out.drewN _, fun i i' a1 a2 => by omega⟩
          case round =>
            obtain ⟨jl, l, rfl, hl, hl1, hl2, hq2, hdwl, hal2⟩ := hrel
            have HAL2 := Lib.hid hal2; clear hal2
            have HDWL := Lib.hid hdwl
            clear d6 d7 d8 hdwl
            have HQ2 := Lib.hid hq2; have HKQ := Lib.hid hl
            have ll1 : l ≤ 2 * (jl : Int) - (df : Int) := by omega
            have ll2 : 2 * (jl : Int) - (df : Int) ≤ l := by omega
            clear hq2 hl
            by_cases hle2 : l ≤ kmax
            · have hjd2 : jl ≤ df := by omega
              obtain ⟨jm, hjm⟩ : ∃ j' : Nat, (db : Int) + dl - l = 2 * (j' : Int) := ⟨(((db : Int) + dl - l) / 2).toNat, by omega⟩
              have hjdm : jm ≤ db := by omega
              obtain ⟨Xl, hXl⟩ : ∃ X, fwd E N M df jl = X := ⟨_, rfl⟩
              obtain ⟨Xm, hXm⟩ : ∃ X, fwd (rev E N M) N M db jm = X := ⟨_, rfl⟩
              obtain ⟨ul, hul⟩ : ∃ u, (N : Int) - (Xm : Int) = u := ⟨_, rfl⟩
              obtain ⟨kdl, hkdl⟩ : ∃ kd, l - dl = kd := ⟨_, rfl⟩
              have hXbl := (fwd_le (E := E) (N := N) (M := M) df jl hjd2).1
              have hXbm := (fwd_le (E := rev E N M) (N := N) (M := M) db jm hjdm).1
              have hgl1 := fwd_ge E N M df jl hjd2
              have hgl2 := fwd_ge (rev E N M) N M db jm hjdm
              rw [hXl] at hXbl hgl1
              rw [hXm] at hXbm hgl2
              have hovl : ul ≤ (Xl : Int) → Over E N M df db jl jm := fun h => ⟨hjd2, hjdm, by omega, by rw [hXl, hXm]; omega⟩
              have hg3 := fun W hW => HGF.out W hW jl l (Xl : Int) hjd2 HKQ.out (by rw [hXl])
              have hg4 := fun W hW n => HGB.out W hW n jm kdl ul hjdm (by omega) (by rw [hXm, hul])
              have HG3 := Lib.hid hg3; have HG4 := Lib.hid hg4; have HOVL := Lib.hid hovl
              have wkdl : IntKind.i64.wrap (l - dl) = kdl := by rw [hkdl]; exact IntWalk.i64_in _ (by omega)
              have ubl : -5000 ≤ ul ∧ ul ≤ (N : Int) := by omega
              obtain ⟨y, hy⟩ : ∃ y, (Xl : Int) - l = y := ⟨_, rfl⟩
              have hy0 : 0 ≤ y := by omega
              have wy : IntKind.i64.wrap ((Xl : Int) - l) = y := by rw [hy]; exact IntWalk.i64_in _ (by omega)
              obtain ⟨v, hv⟩ : ∃ v, ul - l = v := ⟨_, rfl⟩
              have hyv : v ≤ (M : Int) := by omega
              have hrelv : v ≤ y → ul ≤ (Xl : Int) := fun h => by omega
              have HRV := Lib.hid hrelv
              have hjjl : j ≤ jl := by have := HKQ0.out; omega
              have hdg : Diag2 N M df db jl jm := ⟨hjd2, hjdm, by omega⟩
              have hcnd : ((Xl : Int) = ul ∨ ul = 0 ∨ v = 0 ∨ y = (M : Int) ∨ (Xl : Int) = (N : Int)) ↔ TDc E N M df db jl jm := by
                unfold TDc
                rw [hXl, hXm, hul, show (2 * (jl : Int) - (df : Int)) = l by omega, hy, hv]
              have hsel : ((Xl : Int) = ul ∨ ul = 0 ∨ v = 0 ∨ y = (M : Int) ∨ (Xl : Int) = (N : Int)) → TDsel E N M df db jl := fun hc => ⟨j, j', HO.out, HMIN.out, .inl ⟨hjjl, ⟨jm, hdg, hcnd.1 hc⟩, HAL2.out⟩⟩
              have hgo : ¬ ((Xl : Int) = ul ∨ ul = 0 ∨ v = 0 ∨ y = (M : Int) ∨ (Xl : Int) = (N : Int)) → ∀ i i', j ≤ i → i < jl + 1 → Diag2 N M df db i i' → ¬ TDc E N M df db i i' := fun hc i i' a1 a2 a3 => by
                by_cases hij : i = jl
                · subst hij
                  have hij' : i' = jm := by have := a3.2.2; have := hdg.2.2; omega
                  subst hij'
                  exact fun h9 => hc (hcnd.2 h9)
                · exact HAL2.out i i' a1 (by omega) a3
              have HSEL := Lib.hid hsel; have HGO := Lib.hid hgo
              have wv : IntKind.i64.wrap (ul - l) = v := by rw [hv]; exact IntWalk.i64_in _ (by omega)
              clear hg3 hg4 hovl hXl hXm hul hkdl hjm hy hv hrelv hdg hcnd hsel hgo hjjl
              by_cases c1 : (Xl : Int) = ul
              · have bc1 : ((Xl : Int) == ul) = true := by simp [c1]
                have c1l := Int.le_of_eq c1
                have c1g := Int.le_of_eq c1.symm
                clear c1
                go_wp2_with (fail)
                refine (HG3.out _ HDWL.out.below).mono ?_
                rintro e w1 ⟨rfl, q1, hw1⟩
                have hdw1 : DW w w1 := by rw [hw1]; exact HDWL.out.drewN q1
                have HDW1 := Lib.hid hdw1
                obtain ⟨_, _, _, _, _, _, d6, d7, d8⟩ := HCC.out _ hdw1.below
                clear hw1 hdw1
                go_wp2
                go_quiet ((go_at_call 70; exact Calls.quiet_of (HG4.out _ HDW1.out.below _)))
                go_wp2
                go_ret2
                exact ⟨HDW1.out.drewN _, .inr ⟨jl, jm, l, HOVL.out (by omega), HKQ.out, HSEL.out (by omega), rfl⟩⟩
              · have bc1 : ((Xl : Int) == ul) = false := by simp [c1]
                clear c1
                by_cases c2 : ul = 0
                · have bc2 : (ul == 0) = true := by simp [c2]
                  have c2l := Int.le_of_eq c2
                  have c2g := Int.le_of_eq c2.symm
                  clear c2
                  go_wp2_with (fail)
                  refine (HG3.out _ HDWL.out.below).mono ?_
                  rintro e w1 ⟨rfl, q1, hw1⟩
                  have hdw1 : DW w w1 := by rw [hw1]; exact HDWL.out.drewN q1
                  have HDW1 := Lib.hid hdw1
                  obtain ⟨_, _, _, _, _, _, d6, d7, d8⟩ := HCC.out _ hdw1.below
                  clear hw1 hdw1
                  go_wp2
                  go_quiet ((go_at_call 70; exact Calls.quiet_of (HG4.out _ HDW1.out.below _)))
                  go_wp2
                  go_ret2
                  exact ⟨HDW1.out.drewN _, .inr ⟨jl, jm, l, HOVL.out (by omega), HKQ.out, HSEL.out (by omega), rfl⟩⟩
                · have bc2 : (ul == 0) = false := by simp [c2]
                  clear c2
                  by_cases c3 : v = 0
                  · have bc3 : (v == 0) = true := by simp [c3]
                    have c3l := Int.le_of_eq c3
                    have c3g := Int.le_of_eq c3.symm
                    clear c3
                    go_wp2_with (fail)
                    refine (HG3.out _ HDWL.out.below).mono ?_
                    rintro e w1 ⟨rfl, q1, hw1⟩
                    have hdw1 : DW w w1 := by rw [hw1]; exact HDWL.out.drewN q1
                    have HDW1 := Lib.hid hdw1
                    obtain ⟨_, _, _, _, _, _, d6, d7, d8⟩ := HCC.out _ hdw1.below
                    clear hw1 hdw1
                    go_wp2
                    go_quiet ((go_at_call 70; exact Calls.quiet_of (HG4.out _ HDW1.out.below _)))
                    go_wp2
                    go_ret2
                    exact ⟨HDW1.out.drewN _, .inr ⟨jl, jm, l, HOVL.out (HRV.out (by omega)), HKQ.out, HSEL.out (by omega), rfl⟩⟩
                  · have bc3 : (v == 0) = false := by simp [c3]
                    clear c3
                    by_cases c4 : y = (M : Int)
                    · have bc4 : (y == (M : Int)) = true := by simp [c4]
                      have c4l := Int.le_of_eq c4
                      have c4g := Int.le_of_eq c4.symm
                      clear c4
                      go_wp2_with (fail)
                      refine (HG3.out _ HDWL.out.below).mono ?_
                      rintro e w1 ⟨rfl, q1, hw1⟩
                      have hdw1 : DW w w1 := by rw [hw1]; exact HDWL.out.drewN q1
                      have HDW1 := Lib.hid hdw1
                      obtain ⟨_, _, _, _, _, _, d6, d7, d8⟩ := HCC.out _ hdw1.below
                      clear hw1 hdw1
                      go_wp2
                      go_quiet ((go_at_call 70; exact Calls.quiet_of (HG4.out _ HDW1.out.below _)))
                      go_wp2
                      go_ret2
                      exact ⟨HDW1.out.drewN _, .inr ⟨jl, jm, l, HOVL.out (HRV.out (by omega)), HKQ.out, HSEL.out (by omega), rfl⟩⟩
                    · have bc4 : (y == (M : Int)) = false := by simp [c4]
                      clear c4
                      by_cases c5 : (Xl : Int) = (N : Int)
                      · have bc5 : ((Xl : Int) == (N : Int)) = true := by simp [c5]
                        have c5l := Int.le_of_eq c5
                        have c5g := Int.le_of_eq c5.symm
                        clear c5
                        go_wp2_with (fail)
                        refine (HG3.out _ HDWL.out.below).mono ?_
                        rintro e w1 ⟨rfl, q1, hw1⟩
                        have hdw1 : DW w w1 := by rw [hw1]; exact HDWL.out.drewN q1
                        have HDW1 := Lib.hid hdw1
                        obtain ⟨_, _, _, _, _, _, d6, d7, d8⟩ := HCC.out _ hdw1.below
                        clear hw1 hdw1
                        go_wp2
                        go_quiet ((go_at_call 70; exact Calls.quiet_of (HG4.out _ HDW1.out.below _)))
                        go_wp2
                        go_ret2
                        exact ⟨HDW1.out.drewN _, .inr ⟨jl, jm, l, HOVL.out (by omega), HKQ.out, HSEL.out (by omega), rfl⟩⟩
                      · have bc5 : ((Xl : Int) == (N : Int)) = false := by simp [c5]
                        clear c5
                        go_wp2_with (fail)
                        refine (HG3.out _ HDWL.out.below).mono ?_
                        rintro e w1 ⟨rfl, q1, hw1⟩
                        have hdw1 : DW w w1 := by rw [hw1]; exact HDWL.out.drewN q1
                        have HDW1 := Lib.hid hdw1
                        obtain ⟨_, _, _, _, _, _, d6, d7, d8⟩ := HCC.out _ hdw1.below
                        clear hw1 hdw1
                        go_wp2
                        go_quiet ((go_at_call 70; exact Calls.quiet_of (HG4.out _ HDW1.out.below _)))
                        go_wp2
                        go_roundg (5000005 - (l + 2)).toNat
                        case measure => have := HQ2.out; omega
                        case rel => exact ⟨jl + 1, l + 2, rfl, by have := HKQ.out; omega, by omega, by omega, rfl, HDW1.out.drewN _, HGO.out (by have d1 := of_beq_f bc1; have d2 := of_beq_f bc2; have d3 := of_beq_f bc3; have d4 := of_beq_f bc4; have d5 := of_beq_f bc5; omega)⟩
            · go_wp2
              go_ret2
              exact ⟨HDWL.out, .inr ⟨j, _, k, HO.out, HKQ0.out, ⟨j, _, HO.out, HMIN.out, .inr ⟨rfl, fun i i' a1 a2 => HAL2.out i i' a1 (by have := HENDD.out i i' a2; have := HKQ.out; omega) a2⟩⟩, rfl⟩⟩
        · go_wp2_with (fail)
          refine (HG3.out _ HDW.out.below).mono ?_
          rintro e w1 ⟨rfl, q1, hw1⟩
          have hdw1 : DW w w1 := by rw [hw1]; exact HDW.out.drewN q1
          have HDW1 := Lib.hid hdw1
          obtain ⟨_, _, _, _, _, _, d6, d7, d8⟩ := HCC.out _ hdw1.below
          clear hw1 hdw1
          go_wp2
          go_quiet ((go_at_call 70; exact Calls.quiet_of (HG4.out _ HDW1.out.below _)))
          go_wp2
          go_roundg (5000005 - (k + 2)).toNat
          case measure => have := HQ.out; omega
          case rel => exact ⟨j + 1, k + 2, rfl, by have := HKQ.out; omega, by omega, by omega, rfl, HDW1.out.drewN _, fun i i' ho => by
            have h5 := HALL.out i i' ho
            rcases Int.lt_or_le (2 * (i : Int) - (df : Int)) (k + 2) with h6 | h6
            · exfalso
              obtain ⟨o1, o2, o3, o4⟩ := ho
              have hij : i = j := by omega
              subst hij
              have hij' : i' = j' := by have := HJ'.out; omega
              subst hij'
              rw [HX.out, HX'.out] at o4
              omega
            · exact h6⟩
      · go_wp2
        go_ret2
        exact ⟨HDW.out, .inl ⟨rfl, fun i i' ho => by have := HALL.out i i' ho; have := HEND.out i i' ho; omega⟩⟩
  · have hno : ∀ j j', ¬ Over E N M df db j j' := fun j j' ho => by
      obtain ⟨_, _, o3, _⟩ := ho
      apply hpar
      rw [show (df : Int) + (db : Int) + dl = 2 * ((j : Int) + (j' : Int)) by omega]
      exact Int.mul_tmod_right _ _
    have HNO := Lib.hid hno
    have br : (((df : Int) + (db : Int) + dl).tmod 2 != 0) = true := by simp [hpar]
    clear hno hpar
    go_enter Tryz.func51, Tryz.ntmps51
    go_wp2
    go_ret2
    exact ⟨DW.refl _, .inl ⟨rfl, HNO.out⟩⟩
end Go.Proofs.YtgphjnhbheimiaaGreatDoor
