/-
  The walk of spec.Longest: the table of the longest common subsequence. Condition: at most a million elements each.
-/
import Derived.Test.YtbolgikdadhaeaaLcsS
namespace Go.Proofs.Ytbolgikdadhaeaa
set_option linter.unusedVariables false
open Go.RowKit

theorem run_max2 {P : Program} (w : World) (t : TypeId) (a b n : Nat) (h : n = max a b) :
   (Builtin.max_ #[t, t] t #[.int .i64 (a : Int), .int .i64 (b : Int)]).run P w = .ok (.int .i64 (n : Int)) w := by
  subst h
  simp only [Builtin.max_, List.foldlM, Builtin.max2]
  simp only [Sem.run_bind, Sem.run_pure, Result.andThen_ok]
  congr 2
  split <;> omega
theorem lcsW_le (E : EQT) (i j : Nat) : lcsW E i j ≤ i := by
  induction i generalizing j with
  | zero => simp [lcsW]
  | succ i ih =>
    induction j with
    | zero => simp [lcsW]
    | succ j ihj =>
      have h1 := ih j
      have h2 := ih (j + 1)
      simp only [lcsW]
      split <;> omega
/-- a row of the table -/
def rowZ (f : Nat → Nat) (n : Nat) : List Int := (List.range n).map fun t => (f t : Int)
theorem rowZ_length (f : Nat → Nat) (n : Nat) : (rowZ f n).length = n := by simp [rowZ]
theorem rowZ_get (f : Nat → Nat) (n t : Nat) (h : t < n) : (intCells .i64 (rowZ f n))[t]? = some (.int .i64 (f t : Int)) := by simp [intCells, rowZ, h]
theorem rowZ_congr {f g : Nat → Nat} {n : Nat} (h : ∀ t, t < n → f t = g t) : rowZ f n = rowZ g n := by
  unfold rowZ
  apply List.map_congr_left
  intro t ht
  rw [h t (by simpa using ht)]
theorem rowZ_set (f : Nat → Nat) (n p v : Nat) (h : p < n) : (intCells .i64 (rowZ f n)).set p (.int .i64 (v : Int)) = intCells .i64 (rowZ (fun t => if t = p then v else f t) n) := by
  apply List.ext_getElem
  · simp [intCells, rowZ]
  · intro t h1 h2
    rw [List.getElem_set]
    have ht : t < n := by simpa [intCells, rowZ] using h2
    by_cases hp : p = t
    · subst hp
      simp [intCells, rowZ]
    · rw [if_neg hp]
      simp [intCells, rowZ, Ne.symm hp]
/-- row i + 1 up to j, behind it row i -/
def rowF (E : EQT) (i j t : Nat) : Nat := if t ≤ j then lcsW E (i + 1) t else lcsW E i t
theorem rowF_zero (E : EQT) (i n : Nat) : rowZ (rowF E i 0) n = rowZ (lcsW E i) n := rowZ_congr fun t _ => by
  unfold rowF
  split
  · have : t = 0 := by omega
    subst this
    rw [lcsW_zero, lcsW_zero]
  · rfl
theorem rowF_last (E : EQT) (i m : Nat) : rowZ (rowF E i m) (m + 1) = rowZ (lcsW E (i + 1)) (m + 1) := rowZ_congr fun t ht => by
  unfold rowF
  rw [if_pos (by omega)]
theorem rowF_next (E : EQT) (i j n : Nat) : rowZ (fun t => if t = j + 1 then lcsW E (i + 1) (j + 1) else rowF E i j t) n = rowZ (rowF E i (j + 1)) n := rowZ_congr fun t _ => by
  unfold rowF
  by_cases h1 : t = j + 1
  · subst h1
    rw [if_pos rfl, if_pos (Nat.le_refl _)]
  · rw [if_neg h1]
    by_cases h2 : t ≤ j
    · rw [if_pos h2, if_pos (by omega)]
    · rw [if_neg h2, if_neg (by omega)]

set_option maxRecDepth 100000 in
set_option maxHeartbeats 1000000 in
theorem longest_any (A C : Option Addr) (c d : Nat) (xs ys : List Int) (w : World) (hx : IntsR .i64 w A xs) (hy : IntsR .i64 w C ys) (hl : xs.length ≤ 1000001) (hm : ys.length ≤ 1000001) :
   Calls Try.prog 23 #[.slice A xs.length c, .slice C ys.length d] w fun e w' => e = .returned (.int .i64 (lcsW (eqI xs ys) xs.length ys.length : Nat)) ∧ Below w.heap.size w w' := by
  have HX := Lib.hid hx; have HY := Lib.hid hy
  obtain ⟨E, hE⟩ : ∃ E, eqI xs ys = E := ⟨_, rfl⟩
  rw [hE]
  have HE := Lib.hid hE
  obtain ⟨N, hN⟩ : ∃ n, xs.length = n := ⟨_, rfl⟩
  obtain ⟨M, hM⟩ : ∃ n, ys.length = n := ⟨_, rfl⟩
  rw [hN] at hl ⊢
  rw [hM] at hm ⊢
  have HN := Lib.hid hN; have HM := Lib.hid hM
  have hWl := lcsW_le E
  have HWL := Lib.hid hWl
  clear hx hy hE hN hM hWl
  have hmk : ∀ w, (Instr.makeSlice 29 (.int .i64 ((M : Int) + 1)) (.int .i64 ((M : Int) + 1))).run Try.prog w = .ok (.slice (some ⟨w.heap.size, 0, none⟩) (M + 1) (M + 1)) (w.alloc (.cells (madeCells #[.int .i64 0] (M + 1)) 3)) := fun w =>
    run_make_row' (P := Try.prog) 29 3 (.int .i64 0) 8 Try.underlying29 infoII rfl .i64 .i64 (M + 1) (by omega) (by omega) w
  obtain ⟨O, hO⟩ : ∃ O, Obj.cells (madeCells #[Value.int .i64 0] (M + 1)) 3 = O := ⟨_, rfl⟩
  rw [hO] at hmk
  have hown : (w.alloc O).ownsRow w.heap.size 3 1 (.slice (some ⟨w.heap.size, 0, none⟩) (M + 1) (M + 1)) (M + 1) (intCells .i64 (rowZ (lcsW E 0) (M + 1))) := by
    have h := World.ownsRow_lit (size := 1) (e := 3) (base := w.heap.size) w (madeCells #[.int .i64 0] (M + 1)) (M + 1) (Nat.le_refl _) (by unfold maxLen; omega) (by simp [madeCells])
    rw [hO, madeCells_ints] at h
    have : List.replicate (M + 1) (0 : Int) = rowZ (lcsW E 0) (M + 1) := by
      apply List.ext_getElem
      · simp [rowZ]
      · intro t h1 h2
        simp [rowZ, lcsW]
    rw [this] at h
    exact h
  have HOWN := Lib.hid hown
  have hb0 := (Below.refl w.heap.size w).alloc (Nat.le_refl _) O
  have HB0 := Lib.hid hb0
  clear hO hown hb0
  go_enter Try.func23, Try.ntmps23
  go_wp2
  go_loopg [18] N (fun q v18 wr => ∃ i : Nat, v18 = .int .i64 (i : Int) ∧ i ≤ N ∧ q = N - i ∧ wr.ownsRow w.heap.size 3 1 (.slice (some ⟨w.heap.size, 0, none⟩) (M + 1) (M + 1)) (M + 1) (intCells .i64 (rowZ (lcsW E i) (M + 1))) ∧ Below w.heap.size w wr)
  case atStart => exact ⟨0, rfl, Nat.zero_le _, rfl, HOWN.out, HB0.out⟩
  case round =>
    obtain ⟨i, rfl, hi2, hq, ho, hb⟩ := hrel
    have HQ := Lib.hid hq; have HO := Lib.hid ho
    have hbs := hb.size
    clear hq
    by_cases hlt : i < N
    · have hix : i < xs.length := by rw [HN.out]; exact hlt
      obtain ⟨b1, o1, rfl, _, f1⟩ := (IntsR.below HX.out hb (Nat.le_refl _)).at_ hix
      clear ho hix
      go_wp2
      go_loopg [8, 24] M (fun q v8 v24 wq => ∃ j cn : Nat, v24 = .int .i64 (j : Int) ∧ v8 = .int .i64 (cn : Int) ∧ j ≤ M ∧ q = M - j ∧ cn = lcsW E i j ∧ cn ≤ 1000001 ∧ wq.ownsRow w.heap.size 3 1 (.slice (some ⟨w.heap.size, 0, none⟩) (M + 1) (M + 1)) (M + 1) (intCells .i64 (rowZ (rowF E i j) (M + 1))) ∧ Below w.heap.size w wq)
      case atStart => exact ⟨0, 0, rfl, rfl, Nat.zero_le _, rfl, (lcsW_zero i).symm, by omega, by rw [rowF_zero]; exact HO.out, hb⟩
      case round =>
        obtain ⟨j, cn, rfl, rfl, hj2, hq2, hcn, hcn2, ho2, hb2⟩ := hrel
        have HQ2 := Lib.hid hq2; have HCN := Lib.hid hcn; have HO2 := Lib.hid ho2
        have hbs2 := hb2.size
        clear hq2 hcn
        by_cases hjt : j < M
        · have hjy : j < ys.length := by rw [HM.out]; exact hjt
          obtain ⟨b2, o2, rfl, _, f2⟩ := (IntsR.below HY.out hb2 (Nat.le_refl _)).at_ hjy
          have r0 := (ho2.cellAt (j := j) (by omega)).trans (rowZ_get _ _ j (by omega))
          have r1 := (ho2.cellAt (j := j + 1) (by omega)).trans (rowZ_get _ _ (j + 1) (by omega))
          have z1 := ho2.frozenAt (j + 1)
          have e0 : rowF E i j j = lcsW E (i + 1) j := by unfold rowF; rw [if_pos (Nat.le_refl _)]
          have e1 : rowF E i j (j + 1) = lcsW E i (j + 1) := by unfold rowF; rw [if_neg (by omega)]
          rw [e0] at r0
          rw [e1] at r1
          have w0 := HWL.out (i + 1) j
          have w1 := HWL.out i (j + 1)
          obtain ⟨L, hL⟩ : ∃ L, lcsW E (i + 1) j = L := ⟨_, rfl⟩
          obtain ⟨U, hU⟩ : ∃ U, lcsW E i (j + 1) = U := ⟨_, rfl⟩
          rw [hL] at r0 w0
          rw [hU] at r1 w1
          have hstep : lcsW E (i + 1) (j + 1) = if E i j then lcsW E i j + 1 else max (lcsW E i (j + 1)) (lcsW E (i + 1) j) := by simp [lcsW]
          rw [hL, hU, ← HCN.out] at hstep
          have HU := Lib.hid hU
          have j1 : (j : Int) + 1 < (M : Int) + 1 := by omega
          have j2 : (0 : Int) ≤ (j : Int) + 1 := by omega
          have j3 : (j : Int) < (M : Int) + 1 := by omega
          have j4 : (j : Int) < (M : Int) := by omega
          clear hL hU e0 e1 hjy ho2
          by_cases hE : ix xs i = ix ys j
          · have be : (ix xs i == ix ys j) = true := by simp [hE]
            have hEE : E i j = true := by rw [← HE.out]; simp [eqI, hE]
            rw [if_pos hEE] at hstep
            have HSTEP := Lib.hid hstep
            clear hE hEE hstep
            go_wp2
            go_roundg (M - (j + 1))
            case measure => have := HQ2.out; omega
            case rel =>
              refine ⟨j + 1, U, by go_num, rfl, by omega, rfl, HU.out.symm, by omega, ?_, hb2.setCell (p := ⟨w.heap.size, j + 1, none⟩) (Nat.le_refl _) _⟩
              have h5 := (HO2.out.stored (j + 1) (.int .i64 ((cn + 1 : Nat) : Int))).1
              rw [rowZ_set _ _ _ _ (by omega), ← HSTEP.out, rowF_next] at h5
              rw [show ((lcsW E (i + 1) (j + 1) : Nat) : Int) = (cn : Int) + 1 by rw [HSTEP.out]; omega] at h5
              exact h5
          · have be : (ix xs i == ix ys j) = false := by simp [hE]
            have hEE : E i j = false := by rw [← HE.out]; simp [eqI, hE]
            rw [hEE, if_neg (by simp)] at hstep
            obtain ⟨X, hX⟩ : ∃ X, X = max U L := ⟨_, rfl⟩
            have hmax := fun w => run_max2 (P := Try.prog) w 3 U L X hX
            rw [← hX] at hstep
            have HSTEP := Lib.hid hstep
            clear hE hEE hstep hX
            go_wp2
            go_roundg (M - (j + 1))
            case measure => have := HQ2.out; omega
            case rel =>
              refine ⟨j + 1, U, by go_num, rfl, by omega, rfl, HU.out.symm, by omega, ?_, hb2.setCell (p := ⟨w.heap.size, j + 1, none⟩) (Nat.le_refl _) _⟩
              have h5 := (HO2.out.stored (j + 1) (.int .i64 (X : Int))).1
              rw [rowZ_set _ _ _ _ (by omega)] at h5
              rw [← HSTEP.out, rowF_next] at h5
              rw [HSTEP.out] at h5
              exact h5
        · have hjM : j = M := by omega
          clear ho2
          go_wp2
          go_roundg (N - (i + 1))
          case measure => have := HQ.out; omega
          case rel => exact ⟨i + 1, by go_num, by omega, rfl, by have h5 := HO2.out; rw [hjM, rowF_last] at h5; exact h5, hb2⟩
    · have hiN : i = N := by omega
      have r0 := (ho.cellAt (j := M) (by omega)).trans (rowZ_get _ _ M (by omega))
      rw [hiN] at r0
      have j1 : (M : Int) < (M : Int) + 1 := by omega
      clear ho hiN
      go_wp2
      go_ret
      exact ⟨rfl, hb⟩
end Go.Proofs.Ytbolgikdadhaeaa
