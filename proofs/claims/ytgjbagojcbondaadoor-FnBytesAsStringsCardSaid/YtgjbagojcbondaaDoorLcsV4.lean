/-
  The walks of (lcs).sort and of the two closures. No condition but the length.
-/
import Derived.Test.YtgjbagojcbondaaDoorLcsV3
import Derived.Deep.QuietTactic
import Derived.BigQuiet
namespace Go.Proofs.YtgjbagojcbondaaDoor
set_option linter.unusedVariables false
open Go.RowKit Go.Sort Go.Lib Go.Shelf

set_option maxHeartbeats 1000000 in
set_option maxRecDepth 100000 in
theorem lessL_any (blk c Bs size : Nat) (W : World) (i j : Nat) (a b : Int) (hs : W.cell? ⟨Bs, 0, none⟩ = some (.slice (some ⟨blk, 0, none⟩) size c)) (hi : i < size) (hj : j < size) (hsz : size ≤ 4000004)
    (c1 : W.cell? ⟨blk, i * 3 + 2, none⟩ = some (.int .i64 a)) (c2 : W.cell? ⟨blk, j * 3 + 2, none⟩ = some (.int .i64 b)) :
    Calls Tryd.prog 51 #[.int .i64 i, .int .i64 j, .pointer (some ⟨Bs, 0, none⟩)] W fun e w' => e = .returned (.bool (decide (b < a))) ∧ ∃ q, w' = W.drewN q := by
  have hi2 : (i : Int) < (size : Int) := by omega
  have hj2 : (j : Int) < (size : Int) := by omega
  have hi3 : (0 : Int) ≤ (i : Int) := by omega
  have hj3 : (0 : Int) ≤ (j : Int) := by omega
  go_enter Tryd.func51, Tryd.ntmps51
  go_wp2
  go_quiet (fail)
  go_wp2
  go_ret
  exact ⟨rfl, nq, rfl⟩
set_option maxHeartbeats 1000000 in
set_option maxRecDepth 100000 in
theorem lessS_any (blk c Bs size : Nat) (W : World) (i j : Nat) (a b a' b' : Int) (hs : W.cell? ⟨Bs, 0, none⟩ = some (.slice (some ⟨blk, 0, none⟩) size c)) (hi : i < size) (hj : j < size) (hsz : size ≤ 4000004)
    (c3 : W.cell? ⟨blk, i * 3, none⟩ = some (.int .i64 a')) (c4 : W.cell? ⟨blk, j * 3, none⟩ = some (.int .i64 b')) (c1 : W.cell? ⟨blk, i * 3 + 2, none⟩ = some (.int .i64 a)) (c2 : W.cell? ⟨blk, j * 3 + 2, none⟩ = some (.int .i64 b)) :
    Calls Tryd.prog 55 #[.int .i64 i, .int .i64 j, .pointer (some ⟨Bs, 0, none⟩)] W fun e w' => e = .returned (.bool (if a' = b' then decide (b < a) else decide (a' < b'))) ∧ ∃ q, w' = W.drewN q := by
  have hi2 : (i : Int) < (size : Int) := by omega
  have hj2 : (j : Int) < (size : Int) := by omega
  have hi3 : (0 : Int) ≤ (i : Int) := by omega
  have hj3 : (0 : Int) ≤ (j : Int) := by omega
  by_cases hx : a' = b'
  · subst hx
    rw [if_pos rfl]
    go_enter Tryd.func55, Tryd.ntmps55
    go_wp2
    go_quiet (fail)
    go_wp2
    go_quiet (fail)
    go_wp2
    go_ret
    exact ⟨rfl, _, World.drewN_drewN _ _ _⟩
  · have hx2 : (a' != b') = true := by simpa using hx
    rw [if_neg hx]
    go_enter Tryd.func55, Tryd.ntmps55
    go_wp2
    go_quiet (fail)
    go_wp2
    go_quiet (fail)
    go_wp2
    go_ret
    exact ⟨rfl, _, World.drewN_drewN _ _ _⟩

/-- what (lcs).sort gives -/
def SortOut (b0 : Nat) (ps : List Pc) (v : Value) (w : World) (e : Ending) (w' : World) : Prop :=
  e = .returned v ∧ ∃ us, us = srt ltS ps ∧ us.Perm ps ∧ us.Pairwise (fun p q => p.x ≤ q.x) ∧ w'.ownsRow b0 89 3 v us.length (pcCells us) ∧ Below b0 w w'
theorem box_cell (w : World) (v : Value) (t : TypeId) : (w.alloc (.cells #[v] t)).cell? ⟨w.heap.size, 0, none⟩ = some v := by simp
/-- what the sort's worlds hold: the box as it was, the row's cells -/
theorem reads_of {w : World} {blk Bs : Nat} {v : Value} {d : Array Pc} (hH : HoldsK Pc.cells 3 w blk 0 d) (hblk : blk < w.heap.size) (hB : w.cell? ⟨Bs, 0, none⟩ = some v) (hB1 : Bs < w.heap.size) (hB2 : Bs ≠ blk) (m : Nat) (os : Array Obj) (dk : Array Pc) (hs : dk.size = d.size) :
    (sortWorldK Pc.cells 3 w blk 0 m dk os).cell? ⟨Bs, 0, none⟩ = some v ∧ ∀ i, i < d.size → (sortWorldK Pc.cells 3 w blk 0 m dk os).cell? ⟨blk, i * 3, none⟩ = some (.int .i64 (dk[i]!.x : Nat)) ∧ (sortWorldK Pc.cells 3 w blk 0 m dk os).cell? ⟨blk, i * 3 + 2, none⟩ = some (.int .i64 (dk[i]!.l : Nat)) := by
  have e : sortWorldK Pc.cells 3 w blk 0 m dk os = putRowK Pc.cells 3 (grow (Sort.ahead w m) os) blk 0 dk := by
    unfold sortWorldK; rw [putRowK_grow _ _ (Sort.ahead w m) _ blk 0 _ hblk]
  have hHg : HoldsK Pc.cells 3 (grow (Sort.ahead w m) os) blk 0 d := holdsK_grow _ _ _ _ blk 0 d hblk (holdsK_ahead _ _ _ _ _ _ _ hH)
  rw [e]
  refine ⟨?_, fun i hi => ?_⟩
  · rw [cell?_putRowK_other _ _ _ blk 0 dk _ (by exact hB2), cell?_grow _ _ _ (by exact hB1)]; exact hB
  · have h1 := ((holdsK_putRowK _ _ _ blk 0 d dk hHg hs).cell (i := i) (c := 0) (by omega) (by omega)).1
    have h2 := ((holdsK_putRowK _ _ _ blk 0 d dk hHg hs).cell (i := i) (c := 2) (by omega) (by omega)).1
    simp only [Nat.zero_add, Nat.add_zero] at h1 h2
    exact ⟨h1, h2⟩
theorem ltS_int (p q : Pc) : (if ((p.x : Nat) : Int) = (q.x : Nat) then decide (((q.l : Nat) : Int) < (p.l : Nat)) else decide (((p.x : Nat) : Int) < (q.x : Nat))) = ltS p q := by
  unfold ltS
  by_cases h : p.x = q.x
  · rw [if_pos h, if_pos (by rw [h])]; simp
  · rw [if_neg h, if_neg (by omega)]; simp
theorem ltL_int (p q : Pc) : decide (((q.l : Nat) : Int) < (p.l : Nat)) = ltL p q := by unfold ltL; simp
/-- sort.Slice with sort's closure -/
theorem sliceS {w : World} {b0 Bs : Nat} {v : Value} {ps : List Pc} (hr : w.ownsRow b0 89 3 v ps.length (pcCells ps)) (hl : ps.length ≤ 4000004) (hB : w.cell? ⟨Bs, 0, none⟩ = some v) (hB1 : Bs < w.heap.size) (hB2 : ∀ k, v.ownBlock = some k → Bs ≠ k) :
    Calls Tryd.prog 50 #[.iface 63 v, .func (.func 55) #[] #[.pointer (some ⟨Bs, 0, none⟩)]] w (SlOut b0 ltS v ps w) := by
  rcases Nat.lt_or_ge ps.length 2 with h2 | h2
  · exact slice_tiny ltS hr (by omega) _ _ _
  · rcases own_nil_or hr with ⟨_, h⟩ | ⟨blk, c, rfl⟩
    · subst h; simp at h2
    · have hH := row_holds hr
      obtain ⟨cur, _, hblk0, _⟩ := own_blk hr
      have hblk : blk < w.heap.size := (Array.getElem?_eq_some_iff.1 hblk0).1
      refine slice_more ltS swo_ltS hr h2 hl 55 _ (enters_of Tryd.func55 (by kernel_rfl) rfl) ?_
      intro m os dk hs i j hi hj
      obtain ⟨r1, r2⟩ := reads_of hH hblk hB hB1 (hB2 blk rfl) m os dk (by simpa using hs)
      rw [← ltS_int]
      exact lessS_any blk c Bs ps.length _ i j _ _ _ _ r1 hi hj hl (r2 i (by simpa using hi)).1 (r2 j (by simpa using hj)).1 (r2 i (by simpa using hi)).2 (r2 j (by simpa using hj)).2
/-- sort.Slice with fix's closure -/
theorem sliceL {w : World} {b0 Bs : Nat} {v : Value} {ps : List Pc} (hr : w.ownsRow b0 89 3 v ps.length (pcCells ps)) (hl : ps.length ≤ 4000004) (hB : w.cell? ⟨Bs, 0, none⟩ = some v) (hB1 : Bs < w.heap.size) (hB2 : ∀ k, v.ownBlock = some k → Bs ≠ k) :
    Calls Tryd.prog 50 #[.iface 63 v, .func (.func 51) #[] #[.pointer (some ⟨Bs, 0, none⟩)]] w (SlOut b0 ltL v ps w) := by
  rcases Nat.lt_or_ge ps.length 2 with h2 | h2
  · exact slice_tiny ltL hr (by omega) _ _ _
  · rcases own_nil_or hr with ⟨_, h⟩ | ⟨blk, c, rfl⟩
    · subst h; simp at h2
    · have hH := row_holds hr
      obtain ⟨cur, _, hblk0, _⟩ := own_blk hr
      have hblk : blk < w.heap.size := (Array.getElem?_eq_some_iff.1 hblk0).1
      refine slice_more ltL swo_ltL hr h2 hl 51 _ (enters_of Tryd.func51 (by kernel_rfl) rfl) ?_
      intro m os dk hs i j hi hj
      obtain ⟨r1, r2⟩ := reads_of hH hblk hB hB1 (hB2 blk rfl) m os dk (by simpa using hs)
      rw [← ltL_int]
      exact lessL_any blk c Bs ps.length _ i j _ _ r1 hi hj hl (r2 i (by simpa using hi)).2 (r2 j (by simpa using hj)).2
set_option maxHeartbeats 1000000 in
set_option maxRecDepth 100000 in
theorem sort_any (b0 : Nat) (W : World) (v : Value) (ps : List Pc) (hb : b0 ≤ W.heap.size) (hr : W.ownsRow b0 89 3 v ps.length (pcCells ps)) (hl : ps.length ≤ 4000004) :
    Calls Tryd.prog 45 #[v] W (SortOut b0 ps v W) := by
  obtain ⟨W1, hW1⟩ : ∃ W1, W.alloc (.cells #[v] 63) = W1 := ⟨_, rfl⟩
  have hb1 : Below W.heap.size W W1 := by rw [← hW1]; exact (Below.refl _ _).alloc (Nat.le_refl _) _
  have hr1 : W1.ownsRow b0 89 3 v ps.length (pcCells ps) := by rw [← hW1]; exact hr.alloc _
  have hB : W1.cell? ⟨W.heap.size, 0, none⟩ = some v := by rw [← hW1]; exact box_cell _ _ _
  have hB1 : W.heap.size < W1.heap.size := by rw [← hW1]; simp
  have hs := sliceS hr1 hl hB hB1 (fun k hk => by have := (hr.lt k hk).2; omega)
  have hne : some W.heap.size ≠ v.ownBlock := fun h => by have := (hr.lt _ h.symm).2; omega
  have hbl : ∀ k, v.ownBlock = some k → b0 ≤ k := fun k hk => (hr.lt k hk).1
  obtain ⟨A, c, rfl⟩ := own_form hr
  clear hr hr1
  have HB := Lib.hid hB; have HS := Lib.hid hs; have HW1 := Lib.hid hW1; have HB1 := Lib.hid hb1
  clear hB hs hW1 hb1
  go_enter Tryd.func45, Tryd.ntmps45
  go_wp2_with (fail)
  rw [HW1.out]
  refine HS.out.mono ?_
  rintro e w2 ⟨rfl, us, hus, hp, hst, hown, hg⟩
  have hc2 : w2.cell? ⟨W.heap.size, 0, none⟩ = some (.slice A ps.length c) := hg.cell HB.out hne
  have HUS := Lib.hid hus; have HP := Lib.hid hp; have HST := Lib.hid hst; have HOWN := Lib.hid hown; have HG := Lib.hid hg
  clear hus hp hst hown hg
  go_wp2
  go_ret
  exact ⟨rfl, us, HUS.out, HP.out, HST.out.imp (fun h => ltS_le h), HOWN.out, (HB1.out.mono hb).grown HG.out (by omega) hbl⟩
end Go.Proofs.YtgjbagojcbondaaDoor
