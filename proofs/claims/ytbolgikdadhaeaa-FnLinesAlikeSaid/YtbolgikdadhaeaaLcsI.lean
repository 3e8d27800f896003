/-
  The walks of road, Forward, and of the thin package's Limit, parts, pieces, Forward. Condition: at most a million elements each.
-/
import Derived.Test.YtbolgikdadhaeaaLcsB
namespace Go.Proofs.Ytbolgikdadhaeaa
set_option linter.unusedVariables false
open Go.RowKit

/-- impl.Limit -/
def limI (n : Int) : Int := 1 + (n.tmod 2000 + 2000).tmod 2000
theorem limI_bd (n : Int) : 1 ≤ limI n ∧ limI n ≤ 2000 := by
  unfold limI
  have h1 := Int.lt_tmod_of_pos n (show (0 : Int) < 2000 by omega)
  have h2 := Int.tmod_lt_of_pos n (show (0 : Int) < 2000 by omega)
  have h3 : 0 ≤ (n.tmod 2000 + 2000).tmod 2000 := Int.tmod_nonneg _ (by omega)
  have h4 := Int.tmod_lt_of_pos (n.tmod 2000 + 2000) (show (0 : Int) < 2000 by omega)
  omega
set_option maxHeartbeats 400000 in
theorem limit_any (n : Int) (w : World) : Calls Try.prog 22 #[.int .i64 n] w fun e w' => e = .returned (.int .i64 (limI n)) ∧ w = w' := by
  have h1 := Int.lt_tmod_of_pos n (show (0 : Int) < 2000 by omega)
  have h2 := Int.tmod_lt_of_pos n (show (0 : Int) < 2000 by omega)
  have h3 : 0 ≤ (n.tmod 2000 + 2000).tmod 2000 := Int.tmod_nonneg _ (by omega)
  have h4 := Int.tmod_lt_of_pos (n.tmod 2000 + 2000) (show (0 : Int) < 2000 by omega)
  go_enter Try.func22, Try.ntmps22
  go_wp2
  go_ret
  exact ⟨ret_int (by unfold limI; rw [Int.tmod_eq_emod_of_nonneg (show 0 ≤ n.tmod 2000 + 2000 by omega)]; omega), rfl⟩
theorem dfs_at {w : World} {A : Option Addr} {ps : List Df} (h : CellsR w A (dfCells ps)) {k : Nat} (hk : k < ps.length) :
    ∃ b off, A = some ⟨b, off, none⟩ ∧ b < w.heap.size ∧ w.cell? ⟨b, off + k * 4, none⟩ = some (.int .i64 ps[k].s) ∧ w.cell? ⟨b, off + k * 4 + 1, none⟩ = some (.int .i64 ps[k].e) ∧ w.cell? ⟨b, off + k * 4 + 2, none⟩ = some (.int .i64 ps[k].rs) ∧ w.cell? ⟨b, off + k * 4 + 3, none⟩ = some (.int .i64 ps[k].re) := by
  obtain ⟨g1, g2, g3, g4⟩ := dfCells_get ps k hk
  rcases h with h | ⟨b, off, hA, hc⟩
  · rw [h] at g1; simp at g1
  · exact ⟨b, off, hA, World.block_lt_of_cell? _ _ (hc _ _ g1), hc _ _ g1, hc _ _ g2, hc _ _ g3, hc _ _ g4⟩
theorem dfTake (es : List Df) (k : Nat) (h : k < es.length) : dfCells (es.take (k + 1)) = dfCells (es.take k) ++ dfCells [es[k]] := by
  rw [List.take_succ_eq_append_getElem h, dfCells_append]
theorem pcTake (es : List Pc) (k : Nat) (h : k < es.length) : pcCells (es.take (k + 1)) = pcCells (es.take k) ++ pcCells [es[k]] := by
  rw [List.take_succ_eq_append_getElem h, pcCells_append]
theorem infoDi : (Try.prog.info? 39).map (fun i => (i.zero, i.size, i.bytes)) = some (some (.agg #[.int .i64 0, .int .i64 0, .int .i64 0, .int .i64 0]), 4, 32) := by kernel_rfl
theorem infoPi : (Try.prog.info? 62).map (fun i => (i.zero, i.size, i.bytes)) = some (some (.agg #[.int .i64 0, .int .i64 0, .int .i64 0]), 3, 24) := by kernel_rfl
theorem infoPl : (Try.prog.info? 69).map (fun i => (i.zero, i.size, i.bytes)) = some (some (.agg #[.int .i64 0, .int .i64 0, .int .i64 0]), 3, 24) := by kernel_rfl

/-- a list of portions in new memory, in a row of the call's own -/
def PcResT (B0 : Nat) (w : World) (t : TypeId) (ds : List Pc) (e : Ending) (w' : World) : Prop :=
  ∃ A c, e = .returned (.slice A ds.length c) ∧ w'.ownsRow B0 t 3 (.slice A ds.length c) ds.length (pcCells ds) ∧ Below B0 w w'

set_option maxHeartbeats 400000 in
/-- impl.parts: the differences in new memory. -/
theorem parts_any (A : Option Addr) (c : Nat) (ds : List Df) (w : World) (hr : CellsR w A (dfCells ds)) (hl : ds.length ≤ 2000002) :
   Calls Try.prog 34 #[.slice A ds.length c] w (DfRes w.heap.size w 39 ds) := by
  have HR := Lib.hid hr; clear hr
  obtain ⟨n, hln⟩ : ∃ n, ds.length = n := ⟨_, rfl⟩
  rw [hln] at hl ⊢
  have HL := Lib.hid hln; clear hln
  obtain ⟨i0, hi, hz0, hz1, hz2⟩ := info_parts infoDi
  go_enter Try.func34, Try.ntmps34
  go_wp2
  go_loopw [3, 5, 9] (fun v _ i wr => ∃ k : Nat, k ≤ n ∧ i = .int .i64 k ∧ wr.ownsRow w.heap.size 39 4 v k (dfCells (ds.take k)) ∧ Below w.heap.size w wr) (fun _ _ i _ => n - (intOf i).toNat)
  case atStart => exact ⟨0, by omega, rfl, World.ownsRow_made w #[] 0 (Nat.le_refl _) (by simp [maxLen]) rfl, (Below.refl _ _).alloc (Nat.le_refl _) _⟩
  case round =>
    obtain ⟨k, hk, rfl, hown, hb⟩ := hrel
    by_cases hlt : k < n
    · have hkl : k < ds.length := by rw [HL.out]; exact hlt
      obtain ⟨b, off, rfl, hbb, g1, g2, g3, g4⟩ := dfs_at (HR.out.below hb (Nat.le_refl _)) hkl
      have hbs := hb.size
      have ht := dfTake ds k hkl
      obtain ⟨p, hp⟩ : ∃ p, ds[k] = p := ⟨_, rfl⟩
      rw [hp] at g1 g2 g3 g4 ht
      have HT := Lib.hid ht; clear ht hp
      have HO := Lib.hid hown; clear hown
      go_wp2_with (at_builtin; refine wpList_append_any _ rfl (.tmp 13) (.tmp 23) _ rfl w.heap.size 39 i0 _ 4 32 Try.underlying24 hi hz0 hz1 hz2 rfl (by omega) u3 k (dfCells (ds.take k)) rfl ((HO.out.alloc _).alloc _) (some ⟨wr.heap.size + 1, 0, none⟩) 1 1 (dfCells [p]) rfl (by have h5 := df_lit1 (wr.alloc (.cells #[.int .i64 (p.s : Int), .int .i64 (p.e : Int), .int .i64 (p.rs : Int), .int .i64 (p.re : Int)] 68)) 39 p.s p.e p.rs p.re; simpa using h5) rfl (dfCells_one _) (by unfold maxLen; omega) (by omega) (by simp; omega) ?_; intro A1 c1 w1 hown1 hg1 hat1)
      go_wp2
      go_roundw
      case rel => exact ⟨k + 1, by omega, by go_num, by rw [HT.out]; exact hown1, (((hb.alloc hb.size _).alloc (by simp; omega) _).grown hg1 (by simp; omega) (fun g hg => (HO.out.lt g hg).1))⟩
      case measure => simp [intOf]; omega
    · have hkn : k = n := by omega
      subst hkn
      go_wp2
      go_ret
      have e1 : ds.take k = ds := List.take_of_length_le (by rw [HL.out]; omega)
      rw [e1] at hown
      obtain ⟨A', c', hv⟩ := own_form hown
      subst hv
      exact ⟨A', c', by rw [HL.out]; rfl, by rw [HL.out]; exact hown, hb⟩

set_option maxHeartbeats 400000 in
/-- impl.pieces: the common portions in new memory. -/
theorem pieces_any (A : Option Addr) (c : Nat) (ds : List Pc) (w : World) (hr : CellsR w A (pcCells ds)) (hl : ds.length ≤ 2000002) :
   Calls Try.prog 35 #[.slice A ds.length c] w (PcResT w.heap.size w 62 ds) := by
  have HR := Lib.hid hr; clear hr
  obtain ⟨n, hln⟩ : ∃ n, ds.length = n := ⟨_, rfl⟩
  rw [hln] at hl ⊢
  have HL := Lib.hid hln; clear hln
  obtain ⟨i0, hi, hz0, hz1, hz2⟩ := info_parts infoPi
  go_enter Try.func35, Try.ntmps35
  go_wp2
  go_loopw [3, 5, 9] (fun v _ i wr => ∃ k : Nat, k ≤ n ∧ i = .int .i64 k ∧ wr.ownsRow w.heap.size 62 3 v k (pcCells (ds.take k)) ∧ Below w.heap.size w wr) (fun _ _ i _ => n - (intOf i).toNat)
  case atStart => exact ⟨0, by omega, rfl, World.ownsRow_made w #[] 0 (Nat.le_refl _) (by simp [maxLen]) rfl, (Below.refl _ _).alloc (Nat.le_refl _) _⟩
  case round =>
    obtain ⟨k, hk, rfl, hown, hb⟩ := hrel
    by_cases hlt : k < n
    · have hkl : k < ds.length := by rw [HL.out]; exact hlt
      obtain ⟨b, off, rfl, hbb, g1, g2, g3⟩ := pcs_at (HR.out.below hb (Nat.le_refl _)) hkl
      have hbs := hb.size
      have ht := pcTake ds k hkl
      obtain ⟨p, hp⟩ : ∃ p, ds[k] = p := ⟨_, rfl⟩
      rw [hp] at g1 g2 g3 ht
      have HT := Lib.hid ht; clear ht hp
      have HO := Lib.hid hown; clear hown
      go_wp2_with (at_builtin; refine wpList_append_any _ rfl (.tmp 13) (.tmp 21) _ rfl w.heap.size 62 i0 _ 3 24 Try.underlying25 hi hz0 hz1 hz2 rfl (by omega) u3 k (pcCells (ds.take k)) rfl ((HO.out.alloc _).alloc _) (some ⟨wr.heap.size + 1, 0, none⟩) 1 1 (pcCells [p]) rfl (by have h5 := pc_lit1 (wr.alloc (.cells #[.int .i64 (p.x : Int), .int .i64 (p.y : Int), .int .i64 (p.l : Int)] 69)) 62 p.x p.y p.l; simpa using h5) rfl (pcCells_one _) (by unfold maxLen; omega) (by omega) (by simp; omega) ?_; intro A1 c1 w1 hown1 hg1 hat1)
      go_wp2
      go_roundw
      case rel => exact ⟨k + 1, by omega, by go_num, by rw [HT.out]; exact hown1, (((hb.alloc hb.size _).alloc (by simp; omega) _).grown hg1 (by simp; omega) (fun g hg => (HO.out.lt g hg).1))⟩
      case measure => simp [intOf]; omega
    · have hkn : k = n := by omega
      subst hkn
      go_wp2
      go_ret
      have e1 : ds.take k = ds := List.take_of_length_le (by rw [HL.out]; omega)
      rw [e1] at hown
      obtain ⟨A', c', hv⟩ := own_form hown
      subst hv
      exact ⟨A', c', by rw [HL.out]; rfl, by rw [HL.out]; exact hown, hb⟩
/-- what road gives -/
def RoadOut (E : EQT) (N M : Nat) (Q : List Pc → Prop) (t t' : TypeId) (w : World) (e : Ending) (w' : World) : Prop :=
  ∃ ps A c A' c', e = .returned (.tuple #[.slice A (diffsFrom N M 0 0 ps).length c, .slice A' ps.length c']) ∧ w'.ownsRow w.heap.size t 4 (.slice A (diffsFrom N M 0 0 ps).length c) (diffsFrom N M 0 0 ps).length (dfCells (diffsFrom N M 0 0 ps)) ∧
    w'.ownsRow w.heap.size t' 3 (.slice A' ps.length c') ps.length (pcCells ps) ∧ Below w.heap.size w w' ∧ Ch E 0 0 ps N M ∧ Q ps
set_option maxRecDepth 100000 in
set_option maxHeartbeats 1000000 in
theorem road_any {w : World} {N M lim fA c d : Nat} {E : EQT} {A C : Option Addr} {Q : List Pc → Prop}
    (hc : Calls Try.prog 44 #[.iface 72 (.agg #[.slice A N c, .slice C M d]), .func (.func fA) #[] #[], .int .i64 lim] w (CompOut E N M Q w)) (hN : N ≤ 1000001) (hM : M ≤ 1000001) :
    Calls Try.prog 40 #[.slice A N c, .slice C M d, .func (.func fA) #[] #[], .int .i64 lim] w (RoadOut E N M Q 68 69 w) := by
  obtain ⟨i0, hi, hz0, hz1, hz2⟩ := info_parts infoPl
  have HC := Lib.hid hc; clear hc
  go_enter Try.func40, Try.ntmps40
  go_wp2_with (fail)
  refine HC.out.mono ?_
  rintro e w1 ⟨ps, A1, c1, v, rfl, ho1, ho2, hb1, hch, hq⟩
  obtain ⟨A2, c2, rfl⟩ := own_form ho2
  have HO1 := Lib.hid ho1; have HO2 := Lib.hid ho2; have HCH := Lib.hid hch; have HQ := Lib.hid hq
  have hlen := ch_len hch
  have HR : Hid (CellsR w1 A2 (pcCells ps)) := Lib.hid (CellsR.of_own ho2)
  have hb1s := hb1.size
  have HB1 := Lib.hid hb1
  clear ho1 ho2 hch hq hb1
  obtain ⟨n, hn⟩ : ∃ n, ps.length = n := ⟨_, rfl⟩
  have hn1 : n ≤ 1000001 := by omega
  rw [hn] at HO2
  rw [hn]
  have HN := Lib.hid hn; clear hn hlen
  obtain ⟨dl, hdl⟩ : ∃ dl, (diffsFrom N M 0 0 ps).length = dl := ⟨_, rfl⟩
  rw [hdl] at HO1
  rw [hdl]
  have HDL := Lib.hid hdl; clear hdl
  go_wp2
  go_loopw [12, 14, 27] (fun v _ i wr => ∃ k : Nat, k ≤ n ∧ i = .int .i64 k ∧ wr.ownsRow w1.heap.size 69 3 v k (pcCells (ps.take k)) ∧ Below w1.heap.size w1 wr) (fun _ _ i _ => n - (intOf i).toNat)
  case atStart => exact ⟨0, by omega, rfl, World.ownsRow_nil _ _ _ _, Below.refl _ _⟩
  case round =>
    obtain ⟨k, hk, rfl, hown, hb⟩ := hrel
    by_cases hlt : k < n
    · have hkl : k < ps.length := by rw [HN.out]; exact hlt
      obtain ⟨b, off, rfl, hbb, g1, g2, g3⟩ := pcs_at (HR.out.below hb (Nat.le_refl _)) hkl
      have hbs := hb.size
      have ht := pcTake ps k hkl
      obtain ⟨p, hp⟩ : ∃ p, ps[k] = p := ⟨_, rfl⟩
      rw [hp] at g1 g2 g3 ht
      have HT := Lib.hid ht; clear ht hp
      have HO := Lib.hid hown; clear hown
      go_wp2_with (at_builtin; refine wpList_append_any _ rfl (.tmp 31) (.tmp 39) _ rfl w1.heap.size 69 i0 _ 3 24 Try.underlying56 hi hz0 hz1 hz2 rfl (by omega) u12 k (pcCells (ps.take k)) rfl ((HO.out.alloc _).alloc _) (some ⟨wr.heap.size + 1, 0, none⟩) 1 1 (pcCells [p]) rfl (by have h5 := pc_lit1 (wr.alloc (.cells #[.int .i64 (p.x : Int), .int .i64 (p.y : Int), .int .i64 (p.l : Int)] 81)) 69 p.x p.y p.l; simpa using h5) rfl (pcCells_one _) (by unfold maxLen; omega) (by omega) (by simp; omega) ?_; intro A5 c5 w5 hown5 hg5 hat5)
      go_wp2
      go_roundw
      case rel => exact ⟨k + 1, by omega, by go_num, by rw [HT.out]; exact hown5, (((hb.alloc hb.size _).alloc (by simp; omega) _).grown hg5 (by simp; omega) (fun g hg => (HO.out.lt g hg).1))⟩
      case measure => simp [intOf]; omega
    · have hkn : k = n := by omega
      subst hkn
      go_wp2
      go_ret2
      have e1 : ps.take k = ps := List.take_of_length_le (by rw [HN.out]; omega)
      rw [e1] at hown
      obtain ⟨A', c', hv⟩ := own_form hown
      subst hv
      exact ⟨ps, A1, c1, A', c', by rw [HN.out, HDL.out]; rfl, by rw [HDL.out]; exact own_below HO1.out hb (Nat.le_refl _), by rw [HN.out]; exact own_mono hown hb1s, HB1.out.trans (hb.mono hb1s), HCH.out, HQ.out⟩

end Go.Proofs.Ytbolgikdadhaeaa
