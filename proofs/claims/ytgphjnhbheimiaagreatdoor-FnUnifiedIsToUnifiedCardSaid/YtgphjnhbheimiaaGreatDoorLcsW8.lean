/-
  The walks of toDiffs and newtriang. No condition but bounds.
-/
import Derived.Test.YtgphjnhbheimiaaGreatDoorLcsW7
import Derived.Test.YtgphjnhbheimiaaGreatDoorPlL
namespace Go.Proofs.YtgphjnhbheimiaaGreatDoor
set_option linter.unusedVariables false
open Go.RowKit

def Df.cells (d : Df) : List Value := [.int .i64 d.s, .int .i64 d.e, .int .i64 d.rs, .int .i64 d.re]
def dfCells (ds : List Df) : List Value := ds.flatMap Df.cells
theorem dfCells_append (a b : List Df) : dfCells (a ++ b) = dfCells a ++ dfCells b := by simp [dfCells]
theorem dfCells_cons (p : Df) (ps : List Df) : dfCells (p :: ps) = p.cells ++ dfCells ps := rfl
theorem dfCells_length (ds : List Df) : (dfCells ds).length = ds.length * 4 := by
  induction ds with
  | nil => rfl
  | cons p ps ih => rw [dfCells_cons, List.length_append, ih]; simp [Df.cells]; omega
theorem dfCells_one (ds : List Df) : ∀ u ∈ dfCells ds, u.oneCell' = true := by
  intro u hu
  simp only [dfCells, List.mem_flatMap] at hu
  obtain ⟨x, _, hx⟩ := hu
  simp only [Df.cells, List.mem_cons, List.not_mem_nil, or_false] at hx
  rcases hx with rfl | rfl | rfl | rfl <;> rfl
theorem dfCells_get (ps : List Df) (k : Nat) (h : k < ps.length) :
    (dfCells ps)[k * 4]? = some (.int .i64 ps[k].s) ∧ (dfCells ps)[k * 4 + 1]? = some (.int .i64 ps[k].e) ∧ (dfCells ps)[k * 4 + 2]? = some (.int .i64 ps[k].rs) ∧ (dfCells ps)[k * 4 + 3]? = some (.int .i64 ps[k].re) := by
  induction ps generalizing k with
  | nil => simp at h
  | cons p ps ih =>
    rw [dfCells_cons]
    cases k with
    | zero => simp [Df.cells]
    | succ k =>
      have hl : p.cells.length = 4 := rfl
      have := ih k (by simpa using h)
      refine ⟨?_, ?_, ?_, ?_⟩
      · rw [List.getElem?_append_right (by omega), hl, show (k + 1) * 4 - 4 = k * 4 by omega, this.1]; rfl
      · rw [List.getElem?_append_right (by omega), hl, show (k + 1) * 4 + 1 - 4 = k * 4 + 1 by omega, this.2.1]; rfl
      · rw [List.getElem?_append_right (by omega), hl, show (k + 1) * 4 + 2 - 4 = k * 4 + 2 by omega, this.2.2.1]; rfl
      · rw [List.getElem?_append_right (by omega), hl, show (k + 1) * 4 + 3 - 4 = k * 4 + 3 by omega, this.2.2.2]; rfl
theorem infoDf : (Tryz.prog.info? 54).map (fun i => (i.zero, i.size, i.bytes)) = some (some (.agg #[.int .i64 0, .int .i64 0, .int .i64 0, .int .i64 0]), 4, 32) := by kernel_rfl
theorem df_lit1 (w : World) (t : TypeId) (s e rs re : Nat) : CellsR (w.alloc (.cells #[.int .i64 (s : Int), .int .i64 (e : Int), .int .i64 (rs : Int), .int .i64 (re : Int)] t)) (some ⟨w.heap.size, 0, none⟩) (dfCells [⟨s, e, rs, re⟩]) := by
  refine .inr ⟨_, _, rfl, fun j u hu => ?_⟩
  have := (Blk.new w t #[.int .i64 (s : Int), .int .i64 (e : Int), .int .i64 (rs : Int), .int .i64 (re : Int)]).cell (0 + j)
  rw [this]
  simpa [dfCells, Df.cells] using hu
/-- a slice of pieces -/
theorem pcs_at {w : World} {A : Option Addr} {ps : List Pc} (h : CellsR w A (pcCells ps)) {k : Nat} (hk : k < ps.length) :
    ∃ b off, A = some ⟨b, off, none⟩ ∧ b < w.heap.size ∧ w.cell? ⟨b, off + k * 3, none⟩ = some (.int .i64 ps[k].x) ∧ w.cell? ⟨b, off + k * 3 + 1, none⟩ = some (.int .i64 ps[k].y) ∧ w.cell? ⟨b, off + k * 3 + 2, none⟩ = some (.int .i64 ps[k].l) := by
  obtain ⟨g1, g2, g3⟩ := pcCells_get ps k hk
  rcases h with h | ⟨b, off, hA, hc⟩
  · rw [h] at g1; simp at g1
  · exact ⟨b, off, hA, World.block_lt_of_cell? _ _ (hc _ _ g1), hc _ _ g1, hc _ _ g2, hc _ _ g3⟩
theorem diffs_nil (N M a b : Nat) : diffsFrom N M a b [] = if a < N ∨ b < M then [⟨a, N, b, M⟩] else [] := rfl
theorem diffs_cons (N M a b : Nat) (p : Pc) (ps : List Pc) : diffsFrom N M a b (p :: ps) = (if a < p.x ∨ b < p.y then [⟨a, p.x, b, p.y⟩] else []) ++ diffsFrom N M (p.x + p.l) (p.y + p.l) ps := rfl
theorem diffs_len (N M : Nat) (ps : List Pc) : ∀ a b, (diffsFrom N M a b ps).length ≤ ps.length + 1 := by
  induction ps with
  | nil => intro a b; unfold diffsFrom; split <;> simp
  | cons p ps ih =>
    intro a b
    unfold diffsFrom
    have := ih (p.x + p.l) (p.y + p.l)
    rw [List.length_append, List.length_cons]
    split
    · simp; omega
    · simp; omega

/-- a list of differences in new memory, in a row of the call's own -/
def DfRes (B0 : Nat) (w : World) (t : TypeId) (ds : List Df) (e : Ending) (w' : World) : Prop :=
  ∃ A c, e = .returned (.slice A ds.length c) ∧ w'.ownsRow B0 t 4 (.slice A ds.length c) ds.length (dfCells ds) ∧ Below B0 w w'

/-- the relation of toDiffs's loop -/
def TDRel (N M : Nat) (ps : List Pc) (w : World) (q : Nat) (v7 v8 v9 v14 : Value) (wr : World) : Prop :=
  ∃ (k a b : Nat) (ds : List Df), v14 = .int .i64 (k : Int) ∧ v8 = .int .i64 (a : Int) ∧ v9 = .int .i64 (b : Int) ∧ k ≤ ps.length ∧ q = ps.length - k ∧ a ≤ 1000001 ∧ b ≤ 1000001 ∧
    wr.ownsRow w.heap.size 54 4 v7 ds.length (dfCells ds) ∧ ds ++ diffsFrom N M a b (ps.drop k) = diffsFrom N M 0 0 ps ∧ Below w.heap.size w wr

set_option maxRecDepth 100000 in
set_option maxHeartbeats 1000000 in
theorem toDiffs_any (w : World) (A : Option Addr) (c : Nat) (ps : List Pc) (N M : Nat) (hr : CellsR w A (pcCells ps)) (hN : N ≤ 1000001) (hM : M ≤ 1000001) (hl : ps.length ≤ 1000001) (hb : ∀ p ∈ ps, p.x + p.l ≤ 1000001 ∧ p.y + p.l ≤ 1000001) :
    Calls Tryz.prog 48 #[.slice A ps.length c, .int .i64 N, .int .i64 M] w (DfRes w.heap.size w 54 (diffsFrom N M 0 0 ps)) := by
  obtain ⟨i0, hi, hz0, hz1, hz2⟩ := info_parts infoDf
  have hdl := fun ds a b k (h : ds ++ diffsFrom N M a b (ps.drop k) = diffsFrom N M 0 0 ps) => (show ds.length ≤ ps.length + 1 by
    have h1 := congrArg List.length h
    have h2 := diffs_len N M ps 0 0
    rw [List.length_append] at h1
    omega)
  have HDL := Lib.hid hdl; clear hdl
  have HR := Lib.hid hr; have HB := Lib.hid hb; clear hr hb
  obtain ⟨n, hn⟩ : ∃ n, ps.length = n := ⟨_, rfl⟩
  rw [hn] at hl ⊢
  have HN := Lib.hid hn; clear hn
  go_enter Tryz.func48, Tryz.ntmps48
  go_wp2
  go_loopg [7, 8, 9, 14] n (fun q v7 v8 v9 v14 wr => TDRel N M ps w q v7 v8 v9 v14 wr)
  case atStart => exact ⟨0, 0, 0, [], rfl, rfl, rfl, Nat.zero_le _, by rw [HN.out]; rfl, by omega, by omega, World.ownsRow_nil _ _ _ _, by simp, Below.refl _ _⟩
  case round =>
    obtain ⟨k, a, b, ds, rfl, rfl, rfl, hk, hq, ha, hb, hown, heq, hbel⟩ := hrel
    rw [HN.out] at hk hq
    have HQ := Lib.hid hq; have HO := Lib.hid hown; have HE := Lib.hid heq
    have hds := HDL.out ds a b k heq
    rw [HN.out] at hds
    obtain ⟨A7, c7, rfl⟩ := own_form hown
    clear hq hown heq
    have hbs := hbel.size
    by_cases hlt : k < n
    · have hkl : k < ps.length := by rw [HN.out]; exact hlt
      obtain ⟨bb, off, rfl, hbb, g1, g2, g3⟩ := pcs_at (HR.out.below hbel (Nat.le_refl _)) hkl
      have hmem := HB.out ps[k] (List.getElem_mem _)
      have hdrop : ps.drop k = ps[k] :: ps.drop (k + 1) := List.drop_eq_getElem_cons hkl
      have hE := HE.out
      rw [hdrop] at hE
      have HE2 := Lib.hid hE
      obtain ⟨p, hp⟩ : ∃ p, ps[k] = p := ⟨_, rfl⟩
      rw [hp] at g1 g2 g3 hmem HE2
      clear hp hdrop hE
      have hcell : ∀ o, (wr.alloc o).cell? ⟨bb, off + k * 3, none⟩ = wr.cell? ⟨bb, off + k * 3, none⟩ := fun o => World.cell?_alloc_lt wr o _ hbb
      by_cases t1 : (a : Int) < (p.x : Int)
      · have hne : some wr.heap.size ≠ (Value.slice A7 ds.length c7).ownBlock := fun h => by have := HO.out.lt wr.heap.size h.symm; omega
        have HNE := Lib.hid hne; clear hne
        go_wp2_with (at_builtin; refine wpList_append_any _ rfl (.tmp 28) (.tmp 36) _ rfl w.heap.size 54 i0 _ 4 32 Tryz.underlying51 hi hz0 hz1 hz2 rfl (by omega) (.slice A7 ds.length c7) ds.length (dfCells ds) rfl ((HO.out.alloc _).alloc _) (some ⟨wr.heap.size + 1, 0, none⟩) 1 1 (dfCells [⟨a, p.x, b, p.y⟩]) rfl (by have h5 := df_lit1 (wr.alloc (.cells #[.int .i64 (p.x : Int), .int .i64 (p.y : Int), .int .i64 (p.l : Int)] 131)) 54 a p.x b p.y; simpa using h5) rfl (dfCells_one _) (by unfold maxLen; omega) (by omega) (by simp; omega) ?_; intro A5 c5 w5 hown5 hg5 hat5; have hB5 := (((Blk.new wr 131 #[.int .i64 (p.x : Int), .int .i64 (p.y : Int), .int .i64 (p.l : Int)]).alloc (.cells #[.int .i64 (a : Int), .int .i64 (p.x : Int), .int .i64 (b : Int), .int .i64 (p.y : Int)] 54)).grown hg5 HNE.out); have z0 : w5.cell? ⟨wr.heap.size, 0, none⟩ = some (.int .i64 (p.x : Int)) := hB5.cell 0; have z1 : w5.cell? ⟨wr.heap.size, 1, none⟩ = some (.int .i64 (p.y : Int)) := hB5.cell 1; have z2 : w5.cell? ⟨wr.heap.size, 2, none⟩ = some (.int .i64 (p.l : Int)) := hB5.cell 2; have HO5 := Lib.hid hown5; have HG5 := Lib.hid hg5; clear hown5 hg5 hat5 hB5)
        go_roundg (n - (k + 1))
        case measure => have := HQ.out; omega
        case rel =>
          refine ⟨k + 1, p.x + p.l, p.y + p.l, ds ++ [⟨a, p.x, b, p.y⟩], by go_num, by go_num, by go_num, by rw [HN.out]; omega, by rw [HN.out], by omega, by omega, ?_, ?_, ((hbel.alloc hbs _).alloc (by simp; omega) _).grown HG5.out (by simp; omega) (fun g hg => (HO.out.lt g hg).1)⟩
          · have h5 := HO5.out
            rw [dfCells_append, List.length_append]
            exact h5
          · have h5 := HE2.out
            rw [diffs_cons] at h5
            rw [if_pos (.inl (by omega))] at h5
            rw [← h5, List.append_assoc]
      · by_cases t2 : (b : Int) < (p.y : Int)
        · have hne : some wr.heap.size ≠ (Value.slice A7 ds.length c7).ownBlock := fun h => by have := HO.out.lt wr.heap.size h.symm; omega
          have HNE := Lib.hid hne; clear hne
          go_wp2_with (at_builtin; refine wpList_append_any _ rfl (.tmp 28) (.tmp 36) _ rfl w.heap.size 54 i0 _ 4 32 Tryz.underlying51 hi hz0 hz1 hz2 rfl (by omega) (.slice A7 ds.length c7) ds.length (dfCells ds) rfl ((HO.out.alloc _).alloc _) (some ⟨wr.heap.size + 1, 0, none⟩) 1 1 (dfCells [⟨a, p.x, b, p.y⟩]) rfl (by have h5 := df_lit1 (wr.alloc (.cells #[.int .i64 (p.x : Int), .int .i64 (p.y : Int), .int .i64 (p.l : Int)] 131)) 54 a p.x b p.y; simpa using h5) rfl (dfCells_one _) (by unfold maxLen; omega) (by omega) (by simp; omega) ?_; intro A5 c5 w5 hown5 hg5 hat5; have hB5 := (((Blk.new wr 131 #[.int .i64 (p.x : Int), .int .i64 (p.y : Int), .int .i64 (p.l : Int)]).alloc (.cells #[.int .i64 (a : Int), .int .i64 (p.x : Int), .int .i64 (b : Int), .int .i64 (p.y : Int)] 54)).grown hg5 HNE.out); have z0 : w5.cell? ⟨wr.heap.size, 0, none⟩ = some (.int .i64 (p.x : Int)) := hB5.cell 0; have z1 : w5.cell? ⟨wr.heap.size, 1, none⟩ = some (.int .i64 (p.y : Int)) := hB5.cell 1; have z2 : w5.cell? ⟨wr.heap.size, 2, none⟩ = some (.int .i64 (p.l : Int)) := hB5.cell 2; have HO5 := Lib.hid hown5; have HG5 := Lib.hid hg5; clear hown5 hg5 hat5 hB5)
          go_roundg (n - (k + 1))
          case measure => have := HQ.out; omega
          case rel =>
            refine ⟨k + 1, p.x + p.l, p.y + p.l, ds ++ [⟨a, p.x, b, p.y⟩], by go_num, by go_num, by go_num, by rw [HN.out]; omega, by rw [HN.out], by omega, by omega, ?_, ?_, ((hbel.alloc hbs _).alloc (by simp; omega) _).grown HG5.out (by simp; omega) (fun g hg => (HO.out.lt g hg).1)⟩
            · have h5 := HO5.out
              rw [dfCells_append, List.length_append]
              exact h5
            · have h5 := HE2.out
              rw [diffs_cons] at h5
              rw [if_pos (.inr (by omega))] at h5
              rw [← h5, List.append_assoc]
        · go_wp2
          go_roundg (n - (k + 1))
          case measure => have := HQ.out; omega
          case rel =>
            refine ⟨k + 1, p.x + p.l, p.y + p.l, ds, by go_num, by go_num, by go_num, by rw [HN.out]; omega, by rw [HN.out], by omega, by omega, HO.out.alloc _, ?_, hbel.alloc hbs _⟩
            have h5 := HE2.out
            rw [diffs_cons] at h5
            rw [if_neg (by omega), List.nil_append] at h5
            exact h5
    · have hkn : ps.drop k = [] := List.drop_of_length_le (by rw [HN.out]; omega)
      by_cases t1 : (a : Int) < (N : Int)
      · have HK := Lib.hid hkn; clear hkn
        go_wp2_with (at_builtin; refine wpList_append_any _ rfl (.tmp 57) (.tmp 63) _ rfl w.heap.size 54 i0 _ 4 32 Tryz.underlying51 hi hz0 hz1 hz2 rfl (by omega) (.slice A7 ds.length c7) ds.length (dfCells ds) rfl (HO.out.alloc _) (some ⟨wr.heap.size, 0, none⟩) 1 1 (dfCells [⟨a, N, b, M⟩]) rfl (df_lit1 _ _ a N b M) rfl (dfCells_one _) (by unfold maxLen; omega) (by omega) (by simp; omega) ?_; intro A5 c5 w5 hown5 hg5 hat5)
        go_ret
        have hE := HE.out
        rw [HK.out] at hE
        rw [diffs_nil] at hE
        rw [if_pos (.inl (by omega))] at hE
        refine ⟨A5, c5, ?_, ?_, (hbel.alloc hbs _).grown hg5 (by simp; omega) (fun g hg => (HO.out.lt g hg).1)⟩
        · rw [← hE, List.length_append]; rfl
        · rw [← hE, List.length_append, dfCells_append]; exact hown5
      · by_cases t2 : (b : Int) < (M : Int)
        · have HK := Lib.hid hkn; clear hkn
          go_wp2_with (at_builtin; refine wpList_append_any _ rfl (.tmp 57) (.tmp 63) _ rfl w.heap.size 54 i0 _ 4 32 Tryz.underlying51 hi hz0 hz1 hz2 rfl (by omega) (.slice A7 ds.length c7) ds.length (dfCells ds) rfl (HO.out.alloc _) (some ⟨wr.heap.size, 0, none⟩) 1 1 (dfCells [⟨a, N, b, M⟩]) rfl (df_lit1 _ _ a N b M) rfl (dfCells_one _) (by unfold maxLen; omega) (by omega) (by simp; omega) ?_; intro A5 c5 w5 hown5 hg5 hat5)
          go_ret
          have hE := HE.out
          rw [HK.out] at hE
          rw [diffs_nil] at hE
          rw [if_pos (.inr (by omega))] at hE
          refine ⟨A5, c5, ?_, ?_, (hbel.alloc hbs _).grown hg5 (by simp; omega) (fun g hg => (HO.out.lt g hg).1)⟩
          · rw [← hE, List.length_append]; rfl
          · rw [← hE, List.length_append, dfCells_append]; exact hown5
        · have HK := Lib.hid hkn; clear hkn
          go_wp2
          go_ret
          have hE := HE.out
          rw [HK.out] at hE
          rw [diffs_nil] at hE
          rw [if_neg (by omega), List.append_nil] at hE
          rw [← hE]
          exact ⟨A7, c7, rfl, HO.out, hbel⟩
--TDEND
end Go.Proofs.YtgphjnhbheimiaaGreatDoor
