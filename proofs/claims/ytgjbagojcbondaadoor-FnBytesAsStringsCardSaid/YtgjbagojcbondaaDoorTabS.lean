/-
  label.set: a number laid into a label table. No condition but bounds.
-/
import Derived.Test.YtgjbagojcbondaaDoorTabP
import Derived.Test.YtgjbagojcbondaaDoorFrP
import Derived.Deep.LoopGhost
import Derived.OwnWalk
import Derived.WalkSpells
import Derived.Deep.RegionHeld3
import Derived.Deep.OwnRows
namespace Go.Proofs.YtgjbagojcbondaaDoor
set_option linter.unusedVariables false
open Go.RowKit

/-- the blocks of the rows that are there -/
def rowBlks (rows : List LRow) : List Nat := rows.filterMap fun r => if r.2 = [] then none else some r.1
/-- the rows when there are enough for row d -/
def rowsTo (rows : List LRow) (d : Nat) : List LRow := if d < rows.length then rows else rows ++ [(0, [])]
/-- a number laid into row d at j; a row that was nil is laid in block b -/
def setRow (rows : List LRow) (d j : Nat) (x : Int) (b : Nat) : List LRow :=
  if (rowAt rows d).2 = [] then (rowsTo rows d).set d (b, (List.replicate (d + 1) 0).set j x) else rows.set d ((rowAt rows d).1, (rowAt rows d).2.set j x)

theorem own_neB {w : World} {base e size n g t : Nat} {v : Value} {xs : List Value} {cs : Array Value} (ho : w.ownsRow base e size v n xs) (hb : Blk w g t cs) (hne : t ≠ e) : some g ≠ v.ownBlock := by
  intro h
  rcases ho.2 with ⟨h1, h2⟩ | ⟨g', cap, cur, rfl, hbb, hgg, rest⟩
  · rw [h1] at h; cases h
  · simp [Value.ownBlock] at h
    subst h
    have := hb.symm.trans hgg
    injection this with this
    injection this with _ h2 _
    exact hne h2
theorem own_setG {w : World} {base e size n g t : Nat} {v : Value} {xs : List Value} {cs : Array Value} (ho : w.ownsRow base e size v n xs) (hb : Blk w g t cs) (hne : t ≠ e) (o : Nat) (u : Value) : (w.setCell ⟨g, o, none⟩ u).ownsRow base e size v n xs := by
  have h1 := own_neB ho hb hne
  refine ⟨ho.1, ?_⟩
  rcases ho.2 with hn | ⟨g', cap, cur, rfl, hb', hgg, rest⟩
  · exact .inl hn
  · refine .inr ⟨g', cap, cur, rfl, hb', ?_, rest⟩
    rw [Below.heap_setCell _ _ _ _ (fun e => h1 (by simp [Value.ownBlock]; exact e.symm))]
    exact hgg
theorem rowBlks_ne {rows : List LRow} (h : (rowBlks rows).Nodup) {i j : Nat} (hi : i < rows.length) (hj : j < rows.length) (hij : i ≠ j) (h1 : rows[i].2 ≠ []) (h2 : rows[j].2 ≠ []) : rows[i].1 ≠ rows[j].1 := by
  induction rows generalizing i j with
  | nil => simp at hi
  | cons r rows ih =>
    have hmem : ∀ (q : Nat) (hq : q < rows.length), rows[q].2 ≠ [] → rows[q].1 ∈ rowBlks rows := fun q hq hne => by
      unfold rowBlks
      exact List.mem_filterMap.2 ⟨rows[q], List.getElem_mem _, by simp [hne]⟩
    by_cases hr : r.2 = []
    · have h' : (rowBlks rows).Nodup := by simpa [rowBlks, hr] using h
      cases i with
      | zero => exact absurd hr h1
      | succ i =>
        cases j with
        | zero => exact absurd hr h2
        | succ j => exact ih h' (by simpa using hi) (by simpa using hj) (by omega) (by simpa using h1) (by simpa using h2)
    · have h' : r.1 ∉ rowBlks rows ∧ (rowBlks rows).Nodup := by simpa [rowBlks, hr] using h
      cases i with
      | zero =>
        cases j with
        | zero => exact absurd rfl hij
        | succ j =>
          intro e
          refine h'.1 ?_
          simp only [List.getElem_cons_zero, List.getElem_cons_succ] at e
          rw [e]
          exact hmem j (by simpa using hj) (by simpa using h2)
      | succ i =>
        cases j with
        | zero =>
          intro e
          refine h'.1 ?_
          simp only [List.getElem_cons_zero, List.getElem_cons_succ] at e
          rw [← e]
          exact hmem i (by simpa using hi) (by simpa using h1)
        | succ j => exact ih h'.2 (by simpa using hi) (by simpa using hj) (by omega) (by simpa using h1) (by simpa using h2)
theorem rowAt_eq {rows : List LRow} {d : Nat} (hd : d < rows.length) : rowAt rows d = rows[d] := by simp [rowAt, hd]
theorem rowCell_set (r : LRow) (j : Nat) (x : Int) : rowCell (r.1, r.2.set j x) = rowCell r := by
  unfold rowCell
  by_cases h : r.2 = []
  · simp [h]
  · rw [if_neg h, if_neg (by simpa using h)]
    simp
theorem tab_store {w : World} {B : Nat} {v : Value} {rows : List LRow} {d : Nat} (hT : Tab w B v rows) (hd : d < rows.length) (hne : (rowAt rows d).2 ≠ []) (hnd : (rowBlks rows).Nodup) (j : Nat) (x : Int) :
    Tab (w.setCell ⟨(rowAt rows d).1, j, none⟩ (.int .i64 x)) B v (rows.set d ((rowAt rows d).1, (rowAt rows d).2.set j x)) := by
  have hmem : rowAt rows d ∈ rows := by rw [rowAt_eq hd]; exact List.getElem_mem _
  obtain ⟨h1, h2⟩ := hT.row _ hmem hne
  constructor
  · have h3 := own_setG hT.own h2 (by decide) j (.int .i64 x)
    have h4 : (rows.set d ((rowAt rows d).1, (rowAt rows d).2.set j x)).map rowCell = rows.map rowCell := by
      rw [List.map_set, rowCell_set, rowAt_eq hd]
      have : rowCell rows[d] = (rows.map rowCell)[d]'(by simpa using hd) := by simp
      rw [this, List.set_getElem_self]
    rw [h4, List.length_set]
    exact h3
  · intro r hr hrne
    obtain ⟨i, hi, rfl⟩ := List.mem_iff_getElem.1 hr
    rw [List.length_set] at hi
    by_cases hid : d = i
    · subst hid
      rw [List.getElem_set_self] at hrne ⊢
      refine ⟨h1, ?_⟩
      have h5 := h2.set_ j (.int .i64 x)
      have h6 : (intCells .i64 (rowAt rows d).2).toArray.setIfInBounds j (.int .i64 x) = (intCells .i64 ((rowAt rows d).2.set j x)).toArray := by
        simp [intCells, List.map_set]
      rw [h6] at h5
      exact h5
    · rw [List.getElem_set_ne hid] at hrne ⊢
      obtain ⟨h3, h4⟩ := hT.row rows[i] (List.getElem_mem _) hrne
      refine ⟨h3, h4.far ?_ _⟩
      show rows[i].1 ≠ (rowAt rows d).1
      rw [rowAt_eq hd] at hne ⊢
      exact rowBlks_ne hnd hi hd (Ne.symm hid) hrne hne
theorem tab_fresh {w w2 : World} {B h n c b : Nat} {rows : List LRow} {d : Nat} {zs : List Int} (hT : Tab w B (.slice (some ⟨h, 0, none⟩) n c) rows) (hn : rows.length = n) (hd : d < rows.length) (hg : w.grownBy w2 none) (hb : Blk w2 b 3 (intCells .i64 zs).toArray) (hz : zs ≠ []) (hB : B ≤ b) :
    Tab (w2.setCell ⟨h, d, none⟩ (.slice (some ⟨b, 0, none⟩) zs.length zs.length)) B (.slice (some ⟨h, 0, none⟩) n c) (rows.set d (b, zs)) := by
  subst hn
  have ho := hT.own.kept hg (.inr (by simp [Value.ownBlock]))
  constructor
  · have h1 := (ho.stored d (.slice (some ⟨b, 0, none⟩) zs.length zs.length)).1
    rw [List.map_set, List.length_set]
    have : rowCell (b, zs) = .slice (some ⟨b, 0, none⟩) zs.length zs.length := by simp [rowCell, hz]
    rw [this]
    exact h1
  · intro r hr hrne
    obtain ⟨i, hi, rfl⟩ := List.mem_iff_getElem.1 hr
    rw [List.length_set] at hi
    by_cases hid : d = i
    · subst hid
      rw [List.getElem_set_self]
      exact ⟨hB, hb.far (fun e => own_neB ho hb (by decide) (by simp only [Value.ownBlock]; rw [e])) _⟩
    · rw [List.getElem_set_ne hid] at hrne ⊢
      obtain ⟨h3, h4⟩ := hT.row rows[i] (List.getElem_mem _) hrne
      have h5 := h4.grown hg (by simp)
      exact ⟨h3, h5.far (fun e => own_neB ho h5 (by decide) (by simp only [Value.ownBlock]; rw [e])) _⟩
theorem mem_rowBlks {rows : List LRow} {r : LRow} (hr : r ∈ rows) (hne : r.2 ≠ []) : r.1 ∈ rowBlks rows := by
  unfold rowBlks
  exact List.mem_filterMap.2 ⟨r, hr, by simp [hne]⟩
theorem of_rowBlks {rows : List LRow} {k : Nat} (h : k ∈ rowBlks rows) : ∃ r ∈ rows, r.2 ≠ [] ∧ r.1 = k := by
  unfold rowBlks at h
  obtain ⟨r, hr, h⟩ := List.mem_filterMap.1 h
  by_cases h1 : r.2 = []
  · simp [h1] at h
  · simp [h1] at h
    exact ⟨r, hr, h1, h⟩
theorem rowBlks_set_old (l : List LRow) (d : Nat) (hd : d < l.length) (zs : List Int) (h1 : l[d].2 ≠ []) (h2 : zs ≠ []) : rowBlks (l.set d (l[d].1, zs)) = rowBlks l := by
  induction l generalizing d with
  | nil => simp at hd
  | cons r l ih =>
    cases d with
    | zero =>
      simp only [List.getElem_cons_zero] at h1
      simp [rowBlks, h1, h2]
    | succ d =>
      have := ih d (by simpa using hd) (by simpa using h1)
      unfold rowBlks at this ⊢
      simp only [List.set_cons_succ, List.getElem_cons_succ, List.filterMap_cons]
      rw [this]
theorem rowBlks_set_new (l : List LRow) (d : Nat) (hd : d < l.length) (b : Nat) (zs : List Int) (h1 : l[d].2 = []) (h2 : zs ≠ []) : (rowBlks (l.set d (b, zs))).Perm (b :: rowBlks l) := by
  induction l generalizing d with
  | nil => simp at hd
  | cons r l ih =>
    cases d with
    | zero =>
      simp only [List.getElem_cons_zero] at h1
      simp [rowBlks, h1, h2]
    | succ d =>
      have := ih d (by simpa using hd) (by simpa using h1)
      unfold rowBlks at this ⊢
      simp only [List.set_cons_succ, List.filterMap_cons]
      split
      · exact this
      · exact (this.cons _).trans (List.Perm.swap _ _ _)
theorem madeCells_ints (n : Nat) : madeCells #[Value.int .i64 0] n = (intCells .i64 (List.replicate n 0)).toArray := by
  have h3 := toList_madeCells_one (.int .i64 0) n
  apply Array.toList_inj.1
  rw [h3]
  simp [intCells]
theorem tab_made {w : World} {B h n c d j : Nat} {rows : List LRow} {x : Int} (hT : Tab w B (.slice (some ⟨h, 0, none⟩) n c) rows) (hn : rows.length = n) (hd : d < n) (hem : (rowAt rows d).2 = []) (hnd : (rowBlks rows).Nodup) (hB : B ≤ w.heap.size) (hj : j ≤ d)
    (O : Obj) (hO : Obj.cells (madeCells #[Value.int .i64 0] (d + 1)) 3 = O) :
    Tab ((((w.setCell ⟨h, d, none⟩ (.slice (some ⟨w.heap.size, 0, none⟩) (d + 1) (d + 1))).alloc O).setCell ⟨w.heap.size, j, none⟩ (.int .i64 x)).drew) B (.slice (some ⟨h, 0, none⟩) n c) (rows.set d (w.heap.size, (List.replicate (d + 1) 0).set j x)) := by
  subst hn
  have hl : (List.replicate (d + 1) (0 : Int)) ≠ [] := by simp
  have hb : Blk (w.alloc O) w.heap.size 3 (intCells .i64 (List.replicate (d + 1) 0)).toArray := by
    subst hO
    have h1 := Blk.new w 3 (madeCells #[Value.int .i64 0] (d + 1))
    rw [← madeCells_ints]
    exact h1
  have hlt := (hT.own.lt h rfl).2
  have h1 := tab_fresh (d := d) hT rfl hd (⟨rfl, rfl, rfl, by simp, fun k hk _ => Below.heap_alloc _ _ _ hk⟩ : w.grownBy (w.alloc O) none) hb hl hB
  have hrow : rowAt (rows.set d (w.heap.size, List.replicate (d + 1) 0)) d = (w.heap.size, List.replicate (d + 1) 0) := by simp [rowAt, hd]
  have hat := rowAt_eq hd
  rw [hat] at hem
  have h2 := tab_store (d := d) h1 (by simpa using hd) (by rw [hrow]; exact hl) (by
    refine ((rowBlks_set_new rows d hd w.heap.size _ hem hl).nodup_iff).2 (List.nodup_cons.2 ⟨fun hm => ?_, hnd⟩)
    obtain ⟨r, hr, hne, he⟩ := of_rowBlks hm
    have := (hT.row r hr hne).2.lt
    omega) j x
  rw [hrow, List.set_set, World.setCell_alloc_past O h d _ hlt] at h2
  simp only [List.length_replicate] at h2
  exact ⟨h2.own, h2.row⟩
theorem made_blk {w : World} {base b n : Nat} (h : w.ownsRow base 3 1 (.slice (some ⟨b, 0, none⟩) n n) n (madeCells #[.int .i64 0] (n * 1)).toList) : Blk w b 3 (intCells .i64 (List.replicate n 0)).toArray := by
  rcases h.2 with ⟨h1, _⟩ | ⟨g, cap, cur, hv, _, hg, _, _, hs, ht⟩
  · cases h1
  · injection hv with h1 _ h3
    injection h1 with h1
    injection h1 with h1
    subst h1 h3
    unfold Blk
    rw [hg]
    have : cur.toList = intCells .i64 (List.replicate n 0) := by
      rw [List.take_of_length_le (by simp; omega), Nat.mul_one, toList_madeCells_one] at ht
      rw [ht]
      simp [intCells]
    rw [← this]
theorem infoII : (Tryd.prog.info? 3).map (fun i => (i.zero, i.size, i.bytes)) = some (some (.int .i64 0), 1, 8) := by kernel_rfl
theorem infoLI : (Tryd.prog.info? 28).map (fun i => (i.zero, i.size, i.bytes)) = some (some (.slice none 0 0), 1, 24) := by kernel_rfl
theorem set_same {cs : Array Value} {o : Nat} {v : Value} (h : cs[o]? = some v) : cs.setIfInBounds o v = cs := by
  apply Array.ext
  · simp
  · intro i h1 h2
    obtain ⟨h3, h4⟩ := Array.getElem?_eq_some_iff.1 h
    by_cases hi : o = i
    · subst hi; simp [h4]
    · rw [Array.getElem_setIfInBounds_ne h2 hi]
theorem cells_lit1 (w : World) (t : TypeId) (u : Value) : CellsR (w.alloc (.cells #[u] t)) (some ⟨w.heap.size, 0, none⟩) [u] := by
  refine .inr ⟨_, _, rfl, fun j v hu => ?_⟩
  have := (Blk.new w t #[u]).cell (0 + j)
  rw [this]
  simpa using hu

set_option maxRecDepth 100000 in
set_option maxHeartbeats 1000000 in
theorem set_any (w : World) (B g o : Nat) (cs : Array Value) (v : Value) (rows : List LRow) (dn jn : Nat) (k x : Int) (hG : Blk w g 79 cs) (hv : cs[o]? = some v) (hT : Tab w B v rows) (hgB : B ≤ g) (hd : dn ≤ rows.length)
    (hrl : (rowAt rows dn).2 = [] ∨ (rowAt rows dn).2.length = dn + 1) (hj : jn ≤ dn) (hnd : (rowBlks rows).Nodup)
    (hq : ((dn : Int) + k).tdiv 2 = (jn : Int)) (hk : -4000 ≤ k ∧ k ≤ 4000) (hb : rows.length ≤ 4000) :
   Calls Tryd.prog 43 #[.pointer (some ⟨g, o, none⟩), .int .i64 dn, .int .i64 k, .int .i64 x] w fun e w' => e = .returned (.tuple #[]) ∧ ∃ b v', Blk w' g 79 (cs.setIfInBounds o v') ∧ Tab w' B v' (setRow rows dn jn x b) ∧ w.heap.size ≤ b ∧ (v'.ownBlock = v.ownBlock ∨ ∃ h, v'.ownBlock = some h ∧ w.heap.size ≤ h) ∧
     Fr (fun q => q = g ∨ some q = v.ownBlock ∨ ((rowAt rows dn).2 ≠ [] ∧ q = (rowAt rows dn).1)) w w' := by
  obtain ⟨i0, hi, hz0, hz1, hz2⟩ := info_parts infoLI
  go_enter Tryd.func43, Tryd.ntmps43
  go_wp2
  go_loopg [11] (dn + 1 - rows.length) (fun q _ wr => ∃ (rows1 : List LRow) (v1 : Value), q = dn + 1 - rows1.length ∧ (rows1 = rows ∨ (rows1 = rows ++ [(0, [])] ∧ rows.length = dn)) ∧ Blk wr g 79 (cs.setIfInBounds o v1) ∧ Tab wr B v1 rows1 ∧ (v1.ownBlock = v.ownBlock ∨ ∃ h, v1.ownBlock = some h ∧ w.heap.size ≤ h) ∧
     Fr (fun q => q = g ∨ some q = v.ownBlock ∨ ((rowAt rows dn).2 ≠ [] ∧ q = (rowAt rows dn).1)) w wr)
  case atStart => exact ⟨rows, v, rfl, .inl rfl, by rw [set_same hv]; exact hG, hT, .inl rfl, Fr.refl _ _⟩
  case round =>
    obtain ⟨rows1, v1, hq1, hrows, hG1, hT1, hv1, hf⟩ := hrel
    obtain ⟨A1, c1, rfl⟩ := own_form hT1.own
    have hos : o < cs.size := by
      rcases Nat.lt_or_ge o cs.size with h | h
      · exact h
      · rw [Array.getElem?_eq_none h] at hv; cases hv
    have hcv : wr.cell? ⟨g, o, none⟩ = some (.slice A1 rows1.length c1) := by
      rw [hG1.cell o]
      simp [hos]
    have hff := hG1.frozen o
    have hgl := hG1.lt
    obtain ⟨n1, hn1⟩ : ∃ n, rows1.length = n := ⟨_, rfl⟩
    rw [hn1] at hq1 hcv hv1
    have hB1 := hf.size
    by_cases hle : n1 ≤ dn
    · have hr1 : rows1 = rows ∧ rows.length = dn := by
        rcases hrows with h | ⟨h, h2⟩
        · subst h
          exact ⟨rfl, by omega⟩
        · subst h
          simp at hn1
          omega
      obtain ⟨rfl, hdl⟩ := hr1
      have HQ := Lib.hid hq1; clear hq1
      have HT := Lib.hid hT1.own
      rw [hn1] at HT
      go_wp2_with (at_builtin; refine wpList_append_any _ rfl (.tmp 22) (.tmp 23) _ rfl B 28 i0 _ 1 24 Tryd.underlying74 hi hz0 hz1 hz2 rfl (by omega) (.slice A1 n1 c1) n1 (rows1.map rowCell) rfl (HT.out.alloc _) (some ⟨wr.heap.size, 0, none⟩) 1 1 [.slice none 0 0] rfl (cells_lit1 wr 28 _) rfl (by intro u hu; simp at hu; subst hu; rfl) (by unfold maxLen; omega) (by omega) (by simp; omega) ?_; intro A5 c5 w5 hown5 hg5 hat5; have hG5 := (hG1.alloc (.cells #[.slice none 0 0] 28)).grown hg5 (own_neB HT.out hG1 (by decide)); have hc5 : w5.cell? ⟨g, o, none⟩ = some (.slice A1 n1 c1) := (hG5.cell o).trans (by rw [hn1]; simp [hos]); have hf5 := hG5.frozen o; have HG5 := Lib.hid hG5; have HO5 := Lib.hid hown5; have HGR := Lib.hid hg5; have HAT := Lib.hid hat5; clear hG5 hown5 hg5 hat5)
      go_roundg (dn + 1 - (n1 + 1))
      case measure => have := HQ.out; omega
      case rel =>
        refine ⟨rows1 ++ [(0, [])], .slice A5 (n1 + 1) c5, by simp; omega, .inr ⟨rfl, hdl⟩, ?_, ⟨?_, ?_⟩, ?_, ?_⟩
        · have := HG5.out.set_ o (.slice A5 (n1 + 1) c5)
          rwa [Array.setIfInBounds_setIfInBounds] at this
        · have := own_setG HO5.out HG5.out (by decide) o (.slice A5 (n1 + 1) c5)
          simpa [hn1, rowCell] using this
        · intro r hr hne
          rcases List.mem_append.1 hr with hr | hr
          · obtain ⟨h1, h2⟩ := hT1.row r hr hne
            refine ⟨h1, ?_⟩
            have h3 := (h2.alloc (.cells #[.slice none 0 0] 28)).grown HGR.out (own_neB HT.out h2 (by decide))
            exact h3.far (fun e => Blk.ne_ h3 HG5.out (by decide) e) _
          · simp at hr
            subst hr
            exact absurd rfl hne
        · rcases HAT.out with h | h
          · rw [h]
            exact hv1
          · exact .inr ⟨_, h, by simp; omega⟩
        · refine ((hf.alloc _).grown HGR.out (fun q h => ?_)).setCell (.inl (.inl rfl)) _
          rcases hv1 with h1 | ⟨h', h1, h2⟩
          · exact .inl (.inr (.inl (by rw [← h1, h])))
          · rw [h1] at h
            injection h with h
            exact .inr (by omega)
    · have hr1 : rows1 = rowsTo rows dn := by
        unfold rowsTo
        rcases hrows with h | ⟨h, h2⟩
        · subst h
          rw [if_pos (by omega)]
        · rw [if_neg (by omega), h]
      have hat1 : rowAt rows1 dn = rowAt rows dn := by
        rcases hrows with h | ⟨h, h2⟩
        · rw [h]
        · subst h
          simp [rowAt, ← h2]
      have hd1 : dn < n1 := by omega
      obtain ⟨h, rfl⟩ := own_someT hT1.own (by omega)
      have hlt := hT1.own.lt h rfl
      have hc1 := hT1.own.cellAt (j := dn) (by simp; omega)
      have hri : (rows1.map rowCell)[dn]? = some (rowCell (rowAt rows1 dn)) := by rw [rowAt_eq (by omega)]; simp [hn1, hd1]
      rw [hri] at hc1
      have hfz1 := hT1.own.frozenAt dn
      have hnd1 : (rowBlks rows1).Nodup := by
        rcases hrows with h | ⟨h, _⟩
        · rw [h]; exact hnd
        · rw [h]
          unfold rowBlks
          rw [List.filterMap_append]
          simpa [rowBlks] using hnd
      have d1 : (dn : Int) < (n1 : Int) := by omega
      have d2 : (0 : Int) ≤ (dn : Int) := by omega
      have d4 : (0 : Int) ≤ (dn : Int) + 1 := by omega
      have d3 : (jn : Int) < ((dn + 1 : Nat) : Int) := by omega
      obtain ⟨S, hS⟩ : ∃ S, (dn : Int) + k = S := ⟨_, rfl⟩
      have w1 : IntKind.i64.wrap ((dn : Int) + k) = S := (IntWalk.i64_in _ (by omega)).trans hS
      rw [hS] at hq
      have w2 : wrap64 (S.tdiv 2) = (jn : Int) := by rw [hq]; exact IntWalk.wrap64_in _ (by omega)
      have hdl : ¬ (n1 : Int) ≤ (dn : Int) := by omega
      clear hS hq hk
      by_cases hem : (rowAt rows dn).2 = []
      · have hrr : rowCell (rowAt rows1 dn) = .slice none 0 0 := by
          rw [hat1]
          unfold rowCell
          rw [if_pos hem]
        rw [hrr] at hc1
        have hq := fun w => Lib.run_eql_slice_nil (P := Tryd.prog) w 28 3 none 0 0 0 0 Tryd.underlying28
        obtain ⟨j0, hj0, hy0, hy1, hy2⟩ := info_parts infoII
        have hgh : g ≠ h := fun e => own_neB hT1.own hG1 (by decide) (by simp only [Value.ownBlock]; rw [e])
        have hhg : h ≠ g := fun e => hgh e.symm
        have HT1 := Lib.hid hT1
        have HG1 := Lib.hid hG1
        clear hT1 hG1
        have hmk : ∀ w, (Instr.makeSlice 28 (.int .i64 ((dn : Int) + 1)) (.int .i64 ((dn : Int) + 1))).run Tryd.prog w = .ok (.slice (some ⟨w.heap.size, 0, none⟩) (dn + 1) (dn + 1)) (w.alloc (.cells (madeCells #[.int .i64 0] (dn + 1)) 3)) := fun w =>
          run_make_row' (P := Tryd.prog) 28 3 (.int .i64 0) 8 Tryd.underlying28 infoII rfl .i64 .i64 (dn + 1) (by omega) (by omega) w
        obtain ⟨O, hO⟩ : ∃ O, Obj.cells (madeCells #[Value.int .i64 0] (dn + 1)) 3 = O := ⟨_, rfl⟩
        rw [hO] at hmk
        have HO := Lib.hid hO; clear hO
        have hns : h ≠ wr.heap.size := by omega
        have hO1 : ∀ u : Value, ((wr.setCell ⟨h, dn, none⟩ u).alloc O).cell? ⟨wr.heap.size, jn, none⟩ = some (.int .i64 0) := fun u => by
          have := (Blk.new (wr.setCell ⟨h, dn, none⟩ u) 3 (madeCells #[Value.int .i64 0] (dn + 1))).cell jn
          rw [World.size_setCell] at this
          rw [← HO.out, this, madeCells_ints]
          simp [intCells, Array.getElem?_replicate]
          omega
        have hO2 : ∀ u : Value, ((wr.setCell ⟨h, dn, none⟩ u).alloc O).frozen? ⟨wr.heap.size, jn, none⟩ = false := fun u => by
          have := (Blk.new (wr.setCell ⟨h, dn, none⟩ u) 3 (madeCells #[Value.int .i64 0] (dn + 1))).frozen jn
          rw [World.size_setCell] at this
          rw [← HO.out, this]
        have hng : g ≠ wr.heap.size := by omega
        have hdw : IntKind.i64.wrap ((dn : Int) + 1) = (dn : Int) + 1 := IntWalk.i64_in _ (by omega)
        go_wp2
        go_region_held3 (fun w' => w'.cell? ⟨g, o, none⟩ = some (.slice (some ⟨h, 0, none⟩) n1 c1)) (go_keep) (fail)
        all_goals go_wp2
        all_goals go_end0
        all_goals
          refine ⟨rfl, wr.heap.size, .slice (some ⟨h, 0, none⟩) n1 c1, ?_, ?_, hB1, hv1, ?_⟩
          · have h1 := (((HG1.out.far (p := ⟨h, dn, none⟩) hgh (.slice (some ⟨wr.heap.size, 0, none⟩) (dn + 1) (dn + 1))).alloc O).far (p := ⟨wr.heap.size, jn, none⟩) hng (.int .i64 x)).drew
            rw [hn1] at h1
            exact h1
          · have h1 := tab_made (d := dn) (j := jn) (x := x) (by have := HT1.out; rw [hn1] at this; exact this) hn1 hd1 (by rw [hat1]; exact hem) hnd1 (by omega) hj O HO.out
            unfold setRow
            rw [if_pos hem, ← hr1]
            exact h1
          · have h1 := (hf.setCell (p := ⟨h, dn, none⟩) (by
              rcases hv1 with h1 | ⟨h', h1, h2⟩
              · exact .inl (.inr (.inl h1))
              · right
                injection h1 with h1
                subst h1
                exact h2) (.slice (some ⟨wr.heap.size, 0, none⟩) (dn + 1) (dn + 1))).alloc O
            exact (h1.setCell (p := ⟨wr.heap.size, jn, none⟩) (.inr hB1) (.int .i64 x)).drewN 1
      · have hln := hrl.resolve_left hem
        have hem1 : (rowAt rows1 dn).2 ≠ [] := by rw [hat1]; exact hem
        have hrr : rowCell (rowAt rows1 dn) = .slice (some ⟨(rowAt rows dn).1, 0, none⟩) (dn + 1) (dn + 1) := by
          rw [hat1]
          unfold rowCell
          rw [if_neg hem, hln]
        rw [hrr] at hc1
        obtain ⟨hB2, hrow⟩ := hT1.row (rowAt rows1 dn) (by rw [rowAt_eq (by omega)]; exact List.getElem_mem _) hem1
        rw [hat1] at hrow hB2
        have hts := tab_store hT1 (d := dn) (by omega) hem1 hnd1 jn x
        rw [hat1] at hts
        have hrow' := hrow
        generalize hrb : (rowAt rows dn).1 = rb at *
        have hc2 : wr.cell? ⟨rb, jn, none⟩ = some (.int .i64 (ix (rowAt rows dn).2 jn)) := by
          rw [hrow.cell jn]
          simpa using intCells_get .i64 (rowAt rows dn).2 jn (by omega)
        have hf2 := hrow.frozen jn
        have hq := fun w => Lib.run_eql_slice_nil (P := Tryd.prog) w 28 3 (some ⟨rb, 0, none⟩) (dn + 1) (dn + 1) 0 0 Tryd.underlying28
        have HTS := Lib.hid hts; clear hts
        have hrows2 : rows1 = rows := by
          rcases hrows with h | ⟨h, h2⟩
          · exact h
          · exfalso
            apply hem
            simp [rowAt, ← h2]
        go_wp2
        go_end0
        refine ⟨rfl, w.heap.size, _, hG1.far (fun e => Blk.ne_ hrow hG1 (by decide) e.symm) _, ?_, Nat.le_refl _, hv1, (hf.setCell (p := ⟨rb, jn, none⟩) (.inl (.inr (.inr ⟨hem, rfl⟩))) _).mono (fun q _ hq => by rcases hq with hq | hq | hq; exact .inl hq; exact .inr (.inl hq); exact .inr (.inr (by first | exact hq.2 | exact hq)))⟩
        have := HTS.out
        rw [hrows2] at this
        unfold setRow
        rw [if_neg hem, hrb, hrows2]
        exact this
end Go.Proofs.YtgjbagojcbondaaDoor
