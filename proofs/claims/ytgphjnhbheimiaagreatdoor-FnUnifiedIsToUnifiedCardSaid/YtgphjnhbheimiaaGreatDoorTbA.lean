/-
  The label tables of lcs: what they look like in the heap; label.get. No condition but bounds.
  What a call leaves as it was: all old blocks but those of S. No program in sight.
  label.set: a number laid into a label table. No condition but bounds.
  The graph of lcs in memory: its cells and its two label tables; what a call on it may touch. No program is walked. No condition.
-/
import Derived.Test.YtgphjnhbheimiaaGreatDoorSmall
import Derived.IntWalk
import Derived.Laws.OwnMore
import Derived.Test.YtgphjnhbheimiaaGreatDoorKit
import Derived.Deep.LoopGhost
import Derived.OwnWalk
import Derived.WalkSpells
import Derived.Deep.RegionHeld3
import Derived.Deep.OwnRows
import Derived.Test.YtgphjnhbheimiaaGreatDoorPlL
namespace Go.Proofs.YtgphjnhbheimiaaGreatDoor
set_option linter.unusedVariables false
open Go.RowKit

/-- a row of a label table: its block, and its numbers (none: a nil slice) -/
abbrev LRow := Nat × List Int
def rowCell (r : LRow) : Value := if r.2 = [] then .slice none 0 0 else .slice (some ⟨r.1, 0, none⟩) r.2.length r.2.length
def rowAt (rows : List LRow) (d : Nat) : LRow := rows.getD d (0, [])
/-- the value v is a table with these rows, all in blocks from B on -/
structure Tab (w : World) (B : Nat) (v : Value) (rows : List LRow) : Prop where
  own : w.ownsRow B 30 1 v rows.length (rows.map rowCell)
  row : ∀ r ∈ rows, r.2 ≠ [] → B ≤ r.1 ∧ Blk w r.1 3 (intCells .i64 r.2).toArray

theorem own_someT {w : World} {base e size n c : Nat} {A : Option Addr} {xs : List Value} (h : w.ownsRow base e size (.slice A n c) n xs) (hn : 0 < n) : ∃ g, A = some ⟨g, 0, none⟩ := by
  rcases h.2 with ⟨h1, h2⟩ | ⟨g, cap, cur, hv, r⟩
  · omega
  · injection hv with h1
    exact ⟨g, h1⟩

set_option maxRecDepth 100000 in
set_option maxHeartbeats 1000000 in
theorem get_any (w : World) (B g o : Nat) (v : Value) (rows : List LRow) (dn jn : Nat) (k : Int) (hv : w.cell? ⟨g, o, none⟩ = some v) (hT : Tab w B v rows) (hd : dn < rows.length) (hj : jn < (rowAt rows dn).2.length)
    (hq : ((dn : Int) + k).tdiv 2 = (jn : Int)) (hk : -4000 ≤ k ∧ k ≤ 4000) (hb : dn ≤ 4000) (hjb : jn ≤ 4000) :
   Calls Tryz.prog 70 #[.pointer (some ⟨g, o, none⟩), .int .i64 dn, .int .i64 k] w fun e w' => e = .returned (.int .i64 (ix (rowAt rows dn).2 jn)) ∧ ∃ q, w' = w.drewN q := by
  obtain ⟨A, c, rfl⟩ := own_form hT.own
  obtain ⟨h, rfl⟩ := own_someT hT.own (by omega)
  have hlt := hT.own.lt h rfl
  have hc1 := hT.own.cellAt (j := dn) (by simp; omega)
  have hf1 := hT.own.frozenAt dn
  have hri : (rows.map rowCell)[dn]? = some (rowCell (rowAt rows dn)) := by simp [rowAt, hd]
  rw [hri] at hc1
  have hmem : rowAt rows dn ∈ rows := by simp [rowAt, hd]
  generalize hR : rowAt rows dn = R at *
  obtain ⟨rb, zs⟩ := R
  have hne : zs ≠ [] := by
    intro h
    rw [h] at hj
    simp at hj
  obtain ⟨hB, hrow⟩ := hT.row _ hmem hne
  have hc2 : w.cell? ⟨rb, jn, none⟩ = some (.int .i64 (ix zs jn)) := by
    rw [hrow.cell jn]
    simpa using intCells_get .i64 zs jn hj
  have hrc : rowCell (rb, zs) = .slice (some ⟨rb, 0, none⟩) zs.length zs.length := by simp [rowCell, hne]
  rw [hrc] at hc1
  simp only at hj
  obtain ⟨m, hm⟩ : ∃ m, zs.length = m := ⟨_, rfl⟩
  rw [hm] at hc1 hj
  obtain ⟨n, hn⟩ : ∃ n, rows.length = n := ⟨_, rfl⟩
  rw [hn] at hd hv
  clear hT hrow hri hmem hrc hm hn hR hne
  have d1 : (dn : Int) < (n : Int) := by omega
  have d2 : (0 : Int) ≤ (dn : Int) := by omega
  have d3 : (jn : Int) < (m : Int) := by omega
  obtain ⟨S, hS⟩ : ∃ S, (dn : Int) + k = S := ⟨_, rfl⟩
  have w1 : IntKind.i64.wrap ((dn : Int) + k) = S := (IntWalk.i64_in _ (by omega)).trans hS
  rw [hS] at hq
  have w2 : wrap64 (S.tdiv 2) = (jn : Int) := by rw [hq]; exact IntWalk.wrap64_in _ (by omega)
  clear hS hq hk hb hjb
  have w3 : (jn : Int) < (m : Int) := by omega
  go_enter Tryz.func70, Tryz.ntmps70
  go_wp2
  go_ret
  exact ⟨rfl, 0, rfl⟩
end Go.Proofs.YtgphjnhbheimiaaGreatDoor

namespace Go.Proofs.YtgphjnhbheimiaaGreatDoor
set_option linter.unusedVariables false
open Go.RowKit

structure Fr (S : Nat → Prop) (w w' : World) : Prop where
  os : w'.os = w.os
  tape : w'.tape = w.tape
  output : w'.output = w.output
  size : w.heap.size ≤ w'.heap.size
  block : ∀ k, k < w.heap.size → ¬ S k → w'.heap[k]? = w.heap[k]?

section
variable {S : Nat → Prop} {a w w' : World}
theorem Fr.refl (S : Nat → Prop) (w : World) : Fr S w w := ⟨rfl, rfl, rfl, Nat.le_refl _, fun _ _ _ => rfl⟩
theorem Fr.trans (h : Fr S a w) (k : Fr S w w') : Fr S a w' :=
  ⟨k.os.trans h.os, k.tape.trans h.tape, k.output.trans h.output, Nat.le_trans h.size k.size, fun i hi hs => (k.block i (Nat.lt_of_lt_of_le hi h.size) hs).trans (h.block i hi hs)⟩
theorem Fr.mono {S' : Nat → Prop} (h : Fr S w w') (hs : ∀ k, k < w.heap.size → S k → S' k) : Fr S' w w' :=
  ⟨h.os, h.tape, h.output, h.size, fun k hk hn => h.block k hk fun hk' => hn (hs k hk hk')⟩
theorem Fr.drewN (h : Fr S a w) (n : Nat) : Fr S a (w.drewN n) := ⟨h.os, h.tape, h.output, h.size, h.block⟩
theorem Fr.alloc (h : Fr S a w) (o : Obj) : Fr S a (w.alloc o) :=
  h.trans ⟨rfl, rfl, rfl, by simp, fun k hk _ => Below.heap_alloc _ _ _ hk⟩
theorem Fr.setCell (h : Fr S a w) {p : Addr} (hp : S p.block ∨ a.heap.size ≤ p.block) (u : Value) : Fr S a (w.setCell p u) :=
  ⟨h.os, h.tape, h.output, by simpa [World.setCell] using h.size, fun k hk hs => by
    rw [Below.heap_setCell _ _ _ _ (fun e => by
      subst e
      rcases hp with hp | hp
      · exact hs hp
      · omega)]
    exact h.block k hk hs⟩
theorem Fr.grown {row : Option Nat} (h : Fr S a w) (hg : w.grownBy w' row) (hr : ∀ k, row = some k → S k ∨ a.heap.size ≤ k) : Fr S a w' :=
  ⟨hg.os.trans h.os, hg.tape.trans h.tape, hg.output.trans h.output, Nat.le_trans h.size hg.size, fun k hk hs => (hg.block k (Nat.lt_of_lt_of_le hk h.size) (fun e => by
    rcases hr k e.symm with h' | h'
    · exact hs h'
    · omega)).trans (h.block k hk hs)⟩
theorem Fr.of_below {B : Nat} (h : Below B w w') (hB : w.heap.size ≤ B) : Fr S w w' :=
  ⟨h.os, h.tape, h.output, h.size, fun k hk _ => h.block k (by omega)⟩
theorem Fr.below {B : Nat} (h : Fr S w w') (hs : ∀ k, S k → B ≤ k) (hB : B ≤ w.heap.size) : Below B w w' :=
  ⟨h.os, h.tape, h.output, h.size, fun k hk => h.block k (by omega) fun hk' => by have := hs k hk'; omega⟩
theorem Blk.fr {g t : Nat} {cs : Array Value} (h : Blk w g t cs) (hf : Fr S w w') (hg : ¬ S g) : Blk w' g t cs := (hf.block g h.lt hg).trans h
end
end Go.Proofs.YtgphjnhbheimiaaGreatDoor

namespace Go.Proofs.YtgphjnhbheimiaaGreatDoor
set_option linter.unusedVariables false
open Go.RowKit

/-- the blocks of the rows that are there -/
def rowBlks (rows : List LRow) : List Nat := rows.filterMap fun r => if r.2 = [] then none else some r.1
/-- the rows when there are enough for row d -/
def rowsTo (rows : List LRow) (d : Nat) : List LRow := if d < rows.length then rows else rows ++ [(0, [])]
/-- a number laid into row d at j; a row that was nil is laid in block b -/
def setRow (rows : List LRow) (d j : Nat) (x : Int) (b : Nat) : List LRow :=
  if (rowAt rows d).2 = [] then (rowsTo rows d).set d (b, (List.replicate (d + 1) 0).set j x) else rows.set d ((rowAt rows d).1, (rowAt rows d).2.set j x)

theorem own_neB {w : World} {base e size n g t : Nat} {v : Value} {xs : List Value} {cs : Array Value} (ho : w.ownsRow base e size v n xs) (hb : Blk w g t cs) (hne : t ≠ e) : some g ≠ v.ownBlock := by
  intro h
  rcases ho.2 with ⟨h1, h2⟩ | ⟨g', cap, cur, rfl, hbb, hgg, rest⟩
  · rw [h1] at h; cases h
  · simp [Value.ownBlock] at h
    subst h
    have := hb.symm.trans hgg
    injection this with this
    injection this with _ h2 _
    exact hne h2
theorem own_setG {w : World} {base e size n g t : Nat} {v : Value} {xs : List Value} {cs : Array Value} (ho : w.ownsRow base e size v n xs) (hb : Blk w g t cs) (hne : t ≠ e) (o : Nat) (u : Value) : (w.setCell ⟨g, o, none⟩ u).ownsRow base e size v n xs := by
  have h1 := own_neB ho hb hne
  refine ⟨ho.1, ?_⟩
  rcases ho.2 with hn | ⟨g', cap, cur, rfl, hb', hgg, rest⟩
  · exact .inl hn
  · refine .inr ⟨g', cap, cur, rfl, hb', ?_, rest⟩
    rw [Below.heap_setCell _ _ _ _ (fun e => h1 (by simp [Value.ownBlock]; exact e.symm))]
    exact hgg
theorem rowBlks_ne {rows : List LRow} (h : (rowBlks rows).Nodup) {i j : Nat} (hi : i < rows.length) (hj : j < rows.length) (hij : i ≠ j) (h1 : rows[i].2 ≠ []) (h2 : rows[j].2 ≠ []) : rows[i].1 ≠ rows[j].1 := by
  induction rows generalizing i j with
  | nil => simp at hi
  | cons r rows ih =>
    have hmem : ∀ (q : Nat) (hq : q < rows.length), rows[q].2 ≠ [] → rows[q].1 ∈ rowBlks rows := fun q hq hne => by
      unfold rowBlks
      exact List.mem_filterMap.2 ⟨rows[q], List.getElem_mem _, by simp [hne]⟩
    by_cases hr : r.2 = []
    · have h' : (rowBlks rows).Nodup := by simpa [rowBlks, hr] using h
      cases i with
      | zero => exact absurd hr h1
      | succ i =>
        cases j with
        | zero => exact absurd hr h2
        | succ j => exact ih h' (by simpa using hi) (by simpa using hj) (by omega) (by simpa using h1) (by simpa using h2)
    · have h' : r.1 ∉ rowBlks rows ∧ (rowBlks rows).Nodup := by simpa [rowBlks, hr] using h
      cases i with
      | zero =>
        cases j with
        | zero => exact absurd rfl hij
        | succ j =>
          intro e
          refine h'.1 ?_
          simp only [List.getElem_cons_zero, List.getElem_cons_succ] at e
          rw [e]
          exact hmem j (by simpa using hj) (by simpa using h2)
      | succ i =>
        cases j with
        | zero =>
          intro e
          refine h'.1 ?_
          simp only [List.getElem_cons_zero, List.getElem_cons_succ] at e
          rw [← e]
          exact hmem i (by simpa using hi) (by simpa using h1)
        | succ j => exact ih h'.2 (by simpa using hi) (by simpa using hj) (by omega) (by simpa using h1) (by simpa using h2)
theorem rowAt_eq {rows : List LRow} {d : Nat} (hd : d < rows.length) : rowAt rows d = rows[d] := by simp [rowAt, hd]
theorem rowCell_set (r : LRow) (j : Nat) (x : Int) : rowCell (r.1, r.2.set j x) = rowCell r := by
  unfold rowCell
  by_cases h : r.2 = []
  · simp [h]
  · rw [if_neg h, if_neg (by simpa using h)]
    simp
theorem tab_store {w : World} {B : Nat} {v : Value} {rows : List LRow} {d : Nat} (hT : Tab w B v rows) (hd : d < rows.length) (hne : (rowAt rows d).2 ≠ []) (hnd : (rowBlks rows).Nodup) (j : Nat) (x : Int) :
    Tab (w.setCell ⟨(rowAt rows d).1, j, none⟩ (.int .i64 x)) B v (rows.set d ((rowAt rows d).1, (rowAt rows d).2.set j x)) := by
  have hmem : rowAt rows d ∈ rows := by rw [rowAt_eq hd]; exact List.getElem_mem _
  obtain ⟨h1, h2⟩ := hT.row _ hmem hne
  constructor
  · have h3 := own_setG hT.own h2 (by decide) j (.int .i64 x)
    have h4 : (rows.set d ((rowAt rows d).1, (rowAt rows d).2.set j x)).map rowCell = rows.map rowCell := by
      rw [List.map_set, rowCell_set, rowAt_eq hd]
      have : rowCell rows[d] = (rows.map rowCell)[d]'(by simpa using hd) := by simp
      rw [this, List.set_getElem_self]
    rw [h4, List.length_set]
    exact h3
  · intro r hr hrne
    obtain ⟨i, hi, rfl⟩ := List.mem_iff_getElem.1 hr
    rw [List.length_set] at hi
    by_cases hid : d = i
    · subst hid
      rw [List.getElem_set_self] at hrne ⊢
      refine ⟨h1, ?_⟩
      have h5 := h2.set_ j (.int .i64 x)
      have h6 : (intCells .i64 (rowAt rows d).2).toArray.setIfInBounds j (.int .i64 x) = (intCells .i64 ((rowAt rows d).2.set j x)).toArray := by
        simp [intCells, List.map_set]
      rw [h6] at h5
      exact h5
    · rw [List.getElem_set_ne hid] at hrne ⊢
      obtain ⟨h3, h4⟩ := hT.row rows[i] (List.getElem_mem _) hrne
      refine ⟨h3, h4.far ?_ _⟩
      show rows[i].1 ≠ (rowAt rows d).1
      rw [rowAt_eq hd] at hne ⊢
      exact rowBlks_ne hnd hi hd (Ne.symm hid) hrne hne
theorem tab_fresh {w w2 : World} {B h n c b : Nat} {rows : List LRow} {d : Nat} {zs : List Int} (hT : Tab w B (.slice (some ⟨h, 0, none⟩) n c) rows) (hn : rows.length = n) (hd : d < rows.length) (hg : w.grownBy w2 none) (hb : Blk w2 b 3 (intCells .i64 zs).toArray) (hz : zs ≠ []) (hB : B ≤ b) :
    Tab (w2.setCell ⟨h, d, none⟩ (.slice (some ⟨b, 0, none⟩) zs.length zs.length)) B (.slice (some ⟨h, 0, none⟩) n c) (rows.set d (b, zs)) := by
  subst hn
  have ho := hT.own.kept hg (.inr (by simp [Value.ownBlock]))
  constructor
  · have h1 := (ho.stored d (.slice (some ⟨b, 0, none⟩) zs.length zs.length)).1
    rw [List.map_set, List.length_set]
    have : rowCell (b, zs) = .slice (some ⟨b, 0, none⟩) zs.length zs.length := by simp [rowCell, hz]
    rw [this]
    exact h1
  · intro r hr hrne
    obtain ⟨i, hi, rfl⟩ := List.mem_iff_getElem.1 hr
    rw [List.length_set] at hi
    by_cases hid : d = i
    · subst hid
      rw [List.getElem_set_self]
      exact ⟨hB, hb.far (fun e => own_neB ho hb (by decide) (by simp only [Value.ownBlock]; rw [e])) _⟩
    · rw [List.getElem_set_ne hid] at hrne ⊢
      obtain ⟨h3, h4⟩ := hT.row rows[i] (List.getElem_mem _) hrne
      have h5 := h4.grown hg (by simp)
      exact ⟨h3, h5.far (fun e => own_neB ho h5 (by decide) (by simp only [Value.ownBlock]; rw [e])) _⟩
theorem mem_rowBlks {rows : List LRow} {r : LRow} (hr : r ∈ rows) (hne : r.2 ≠ []) : r.1 ∈ rowBlks rows := by
  unfold rowBlks
  exact List.mem_filterMap.2 ⟨r, hr, by simp [hne]⟩
theorem of_rowBlks {rows : List LRow} {k : Nat} (h : k ∈ rowBlks rows) : ∃ r ∈ rows, r.2 ≠ [] ∧ r.1 = k := by
  unfold rowBlks at h
  obtain ⟨r, hr, h⟩ := List.mem_filterMap.1 h
  by_cases h1 : r.2 = []
  · simp [h1] at h
  · simp [h1] at h
    exact ⟨r, hr, h1, h⟩
theorem rowBlks_set_old (l : List LRow) (d : Nat) (hd : d < l.length) (zs : List Int) (h1 : l[d].2 ≠ []) (h2 : zs ≠ []) : rowBlks (l.set d (l[d].1, zs)) = rowBlks l := by
  induction l generalizing d with
  | nil => simp at hd
  | cons r l ih =>
    cases d with
    | zero =>
      simp only [List.getElem_cons_zero] at h1
      simp [rowBlks, h1, h2]
    | succ d =>
      have := ih d (by simpa using hd) (by simpa using h1)
      unfold rowBlks at this ⊢
      simp only [List.set_cons_succ, List.getElem_cons_succ, List.filterMap_cons]
      rw [this]
theorem rowBlks_set_new (l : List LRow) (d : Nat) (hd : d < l.length) (b : Nat) (zs : List Int) (h1 : l[d].2 = []) (h2 : zs ≠ []) : (rowBlks (l.set d (b, zs))).Perm (b :: rowBlks l) := by
  induction l generalizing d with
  | nil => simp at hd
  | cons r l ih =>
    cases d with
    | zero =>
      simp only [List.getElem_cons_zero] at h1
      simp [rowBlks, h1, h2]
    | succ d =>
      have := ih d (by simpa using hd) (by simpa using h1)
      unfold rowBlks at this ⊢
      simp only [List.set_cons_succ, List.filterMap_cons]
      split
      · exact this
      · exact (this.cons _).trans (List.Perm.swap _ _ _)
theorem madeCells_ints (n : Nat) : madeCells #[Value.int .i64 0] n = (intCells .i64 (List.replicate n 0)).toArray := by
  have h3 := toList_madeCells_one (.int .i64 0) n
  apply Array.toList_inj.1
  rw [h3]
  simp [intCells]
theorem tab_made {w : World} {B h n c d j : Nat} {rows : List LRow} {x : Int} (hT : Tab w B (.slice (some ⟨h, 0, none⟩) n c) rows) (hn : rows.length = n) (hd : d < n) (hem : (rowAt rows d).2 = []) (hnd : (rowBlks rows).Nodup) (hB : B ≤ w.heap.size) (hj : j ≤ d)
    (O : Obj) (hO : Obj.cells (madeCells #[Value.int .i64 0] (d + 1)) 3 = O) :
    Tab ((((w.setCell ⟨h, d, none⟩ (.slice (some ⟨w.heap.size, 0, none⟩) (d + 1) (d + 1))).alloc O).setCell ⟨w.heap.size, j, none⟩ (.int .i64 x)).drew) B (.slice (some ⟨h, 0, none⟩) n c) (rows.set d (w.heap.size, (List.replicate (d + 1) 0).set j x)) := by
  subst hn
  have hl : (List.replicate (d + 1) (0 : Int)) ≠ [] := by simp
  have hb : Blk (w.alloc O) w.heap.size 3 (intCells .i64 (List.replicate (d + 1) 0)).toArray := by
    subst hO
    have h1 := Blk.new w 3 (madeCells #[Value.int .i64 0] (d + 1))
    rw [← madeCells_ints]
    exact h1
  have hlt := (hT.own.lt h rfl).2
  have h1 := tab_fresh (d := d) hT rfl hd (⟨rfl, rfl, rfl, by simp, fun k hk _ => Below.heap_alloc _ _ _ hk⟩ : w.grownBy (w.alloc O) none) hb hl hB
  have hrow : rowAt (rows.set d (w.heap.size, List.replicate (d + 1) 0)) d = (w.heap.size, List.replicate (d + 1) 0) := by simp [rowAt, hd]
  have hat := rowAt_eq hd
  rw [hat] at hem
  have h2 := tab_store (d := d) h1 (by simpa using hd) (by rw [hrow]; exact hl) (by
    refine ((rowBlks_set_new rows d hd w.heap.size _ hem hl).nodup_iff).2 (List.nodup_cons.2 ⟨fun hm => ?_, hnd⟩)
    obtain ⟨r, hr, hne, he⟩ := of_rowBlks hm
    have := (hT.row r hr hne).2.lt
    omega) j x
  rw [hrow, List.set_set, World.setCell_alloc_past O h d _ hlt] at h2
  simp only [List.length_replicate] at h2
  exact ⟨h2.own, h2.row⟩
theorem made_blk {w : World} {base b n : Nat} (h : w.ownsRow base 3 1 (.slice (some ⟨b, 0, none⟩) n n) n (madeCells #[.int .i64 0] (n * 1)).toList) : Blk w b 3 (intCells .i64 (List.replicate n 0)).toArray := by
  rcases h.2 with ⟨h1, _⟩ | ⟨g, cap, cur, hv, _, hg, _, _, hs, ht⟩
  · cases h1
  · injection hv with h1 _ h3
    injection h1 with h1
    injection h1 with h1
    subst h1 h3
    unfold Blk
    rw [hg]
    have : cur.toList = intCells .i64 (List.replicate n 0) := by
      rw [List.take_of_length_le (by simp; omega), Nat.mul_one, toList_madeCells_one] at ht
      rw [ht]
      simp [intCells]
    rw [← this]
theorem infoII : (Tryz.prog.info? 3).map (fun i => (i.zero, i.size, i.bytes)) = some (some (.int .i64 0), 1, 8) := by kernel_rfl
theorem infoLI : (Tryz.prog.info? 30).map (fun i => (i.zero, i.size, i.bytes)) = some (some (.slice none 0 0), 1, 24) := by kernel_rfl
theorem set_same {cs : Array Value} {o : Nat} {v : Value} (h : cs[o]? = some v) : cs.setIfInBounds o v = cs := by
  apply Array.ext
  · simp
  · intro i h1 h2
    obtain ⟨h3, h4⟩ := Array.getElem?_eq_some_iff.1 h
    by_cases hi : o = i
    · subst hi; simp [h4]
    · rw [Array.getElem_setIfInBounds_ne h2 hi]
theorem cells_lit1 (w : World) (t : TypeId) (u : Value) : CellsR (w.alloc (.cells #[u] t)) (some ⟨w.heap.size, 0, none⟩) [u] := by
  refine .inr ⟨_, _, rfl, fun j v hu => ?_⟩
  have := (Blk.new w t #[u]).cell (0 + j)
  rw [this]
  simpa using hu

set_option maxRecDepth 100000 in
set_option maxHeartbeats 1000000 in
theorem set_any (w : World) (B g o : Nat) (cs : Array Value) (v : Value) (rows : List LRow) (dn jn : Nat) (k x : Int) (hG : Blk w g 107 cs) (hv : cs[o]? = some v) (hT : Tab w B v rows) (hgB : B ≤ g) (hd : dn ≤ rows.length)
    (hrl : (rowAt rows dn).2 = [] ∨ (rowAt rows dn).2.length = dn + 1) (hj : jn ≤ dn) (hnd : (rowBlks rows).Nodup)
    (hq : ((dn : Int) + k).tdiv 2 = (jn : Int)) (hk : -4000 ≤ k ∧ k ≤ 4000) (hb : rows.length ≤ 4000) :
   Calls Tryz.prog 69 #[.pointer (some ⟨g, o, none⟩), .int .i64 dn, .int .i64 k, .int .i64 x] w fun e w' => e = .returned (.tuple #[]) ∧ ∃ b v', Blk w' g 107 (cs.setIfInBounds o v') ∧ Tab w' B v' (setRow rows dn jn x b) ∧ w.heap.size ≤ b ∧ (v'.ownBlock = v.ownBlock ∨ ∃ h, v'.ownBlock = some h ∧ w.heap.size ≤ h) ∧
     Fr (fun q => q = g ∨ some q = v.ownBlock ∨ ((rowAt rows dn).2 ≠ [] ∧ q = (rowAt rows dn).1)) w w' := by
  obtain ⟨i0, hi, hz0, hz1, hz2⟩ := info_parts infoLI
  go_enter Tryz.func69, Tryz.ntmps69
  go_wp2
  go_loopg [11] (dn + 1 - rows.length) (fun q _ wr => ∃ (rows1 : List LRow) (v1 : Value), q = dn + 1 - rows1.length ∧ (rows1 = rows ∨ (rows1 = rows ++ [(0, [])] ∧ rows.length = dn)) ∧ Blk wr g 107 (cs.setIfInBounds o v1) ∧ Tab wr B v1 rows1 ∧ (v1.ownBlock = v.ownBlock ∨ ∃ h, v1.ownBlock = some h ∧ w.heap.size ≤ h) ∧
     Fr (fun q => q = g ∨ some q = v.ownBlock ∨ ((rowAt rows dn).2 ≠ [] ∧ q = (rowAt rows dn).1)) w wr)
  case atStart => exact ⟨rows, v, rfl, .inl rfl, by rw [set_same hv]; exact hG, hT, .inl rfl, Fr.refl _ _⟩
  case round =>
    obtain ⟨rows1, v1, hq1, hrows, hG1, hT1, hv1, hf⟩ := hrel
    obtain ⟨A1, c1, rfl⟩ := own_form hT1.own
    have hos : o < cs.size := by
      rcases Nat.lt_or_ge o cs.size with h | h
      · exact h
      · rw [Array.getElem?_eq_none h] at hv; cases hv
    have hcv : wr.cell? ⟨g, o, none⟩ = some (.slice A1 rows1.length c1) := by
      rw [hG1.cell o]
      simp [hos]
    have hff := hG1.frozen o
    have hgl := hG1.lt
    obtain ⟨n1, hn1⟩ : ∃ n, rows1.length = n := ⟨_, rfl⟩
    rw [hn1] at hq1 hcv hv1
    have hB1 := hf.size
    by_cases hle : n1 ≤ dn
    · have hr1 : rows1 = rows ∧ rows.length = dn := by
        rcases hrows with h | ⟨h, h2⟩
        · subst h
          exact ⟨rfl, by omega⟩
        · subst h
          simp at hn1
          omega
      obtain ⟨rfl, hdl⟩ := hr1
      have HQ := Lib.hid hq1; clear hq1
      have HT := Lib.hid hT1.own
      rw [hn1] at HT
      go_wp2_with (at_builtin; refine wpList_append_any _ rfl (.tmp 22) (.tmp 23) _ rfl B 30 i0 _ 1 24 Tryz.underlying102 hi hz0 hz1 hz2 rfl (by omega) (.slice A1 n1 c1) n1 (rows1.map rowCell) rfl (HT.out.alloc _) (some ⟨wr.heap.size, 0, none⟩) 1 1 [.slice none 0 0] rfl (cells_lit1 wr 30 _) rfl (by intro u hu; simp at hu; subst hu; rfl) (by unfold maxLen; omega) (by omega) (by simp; omega) ?_; intro A5 c5 w5 hown5 hg5 hat5; have hG5 := (hG1.alloc (.cells #[.slice none 0 0] 30)).grown hg5 (own_neB HT.out hG1 (by decide)); have hc5 : w5.cell? ⟨g, o, none⟩ = some (.slice A1 n1 c1) := (hG5.cell o).trans (by rw [hn1]; simp [hos]); have hf5 := hG5.frozen o; have HG5 := Lib.hid hG5; have HO5 := Lib.hid hown5; have HGR := Lib.hid hg5; have HAT := Lib.hid hat5; clear hG5 hown5 hg5 hat5)
      go_roundg (dn + 1 - (n1 + 1))
      case measure => have := HQ.out; omega
      case rel =>
        refine ⟨rows1 ++ [(0, [])], .slice A5 (n1 + 1) c5, by simp; omega, .inr ⟨rfl, hdl⟩, ?_, ⟨?_, ?_⟩, ?_, ?_⟩
        · have := HG5.out.set_ o (.slice A5 (n1 + 1) c5)
          rwa [Array.setIfInBounds_setIfInBounds] at this
        · have := own_setG HO5.out HG5.out (by decide) o (.slice A5 (n1 + 1) c5)
          simpa [hn1, rowCell] using this
        · intro r hr hne
          rcases List.mem_append.1 hr with hr | hr
          · obtain ⟨h1, h2⟩ := hT1.row r hr hne
            refine ⟨h1, ?_⟩
            have h3 := (h2.alloc (.cells #[.slice none 0 0] 30)).grown HGR.out (own_neB HT.out h2 (by decide))
            exact h3.far (fun e => Blk.ne_ h3 HG5.out (by decide) e) _
          · simp at hr
            subst hr
            exact absurd rfl hne
        · rcases HAT.out with h | h
          · rw [h]
            exact hv1
          · exact .inr ⟨_, h, by simp; omega⟩
        · refine ((hf.alloc _).grown HGR.out (fun q h => ?_)).setCell (.inl (.inl rfl)) _
          rcases hv1 with h1 | ⟨h', h1, h2⟩
          · exact .inl (.inr (.inl (by rw [← h1, h])))
          · rw [h1] at h
            injection h with h
            exact .inr (by omega)
    · have hr1 : rows1 = rowsTo rows dn := by
        unfold rowsTo
        rcases hrows with h | ⟨h, h2⟩
        · subst h
          rw [if_pos (by omega)]
        · rw [if_neg (by omega), h]
      have hat1 : rowAt rows1 dn = rowAt rows dn := by
        rcases hrows with h | ⟨h, h2⟩
        · rw [h]
        · subst h
          simp [rowAt, ← h2]
      have hd1 : dn < n1 := by omega
      obtain ⟨h, rfl⟩ := own_someT hT1.own (by omega)
      have hlt := hT1.own.lt h rfl
      have hc1 := hT1.own.cellAt (j := dn) (by simp; omega)
      have hri : (rows1.map rowCell)[dn]? = some (rowCell (rowAt rows1 dn)) := by rw [rowAt_eq (by omega)]; simp [hn1, hd1]
      rw [hri] at hc1
      have hfz1 := hT1.own.frozenAt dn
      have hnd1 : (rowBlks rows1).Nodup := by
        rcases hrows with h | ⟨h, _⟩
        · rw [h]; exact hnd
        · rw [h]
          unfold rowBlks
          rw [List.filterMap_append]
          simpa [rowBlks] using hnd
      have d1 : (dn : Int) < (n1 : Int) := by omega
      have d2 : (0 : Int) ≤ (dn : Int) := by omega
      have d4 : (0 : Int) ≤ (dn : Int) + 1 := by omega
      have d3 : (jn : Int) < ((dn + 1 : Nat) : Int) := by omega
      obtain ⟨S, hS⟩ : ∃ S, (dn : Int) + k = S := ⟨_, rfl⟩
      have w1 : IntKind.i64.wrap ((dn : Int) + k) = S := (IntWalk.i64_in _ (by omega)).trans hS
      rw [hS] at hq
      have w2 : wrap64 (S.tdiv 2) = (jn : Int) := by rw [hq]; exact IntWalk.wrap64_in _ (by omega)
      have hdl : ¬ (n1 : Int) ≤ (dn : Int) := by omega
      clear hS hq hk
      by_cases hem : (rowAt rows dn).2 = []
      · have hrr : rowCell (rowAt rows1 dn) = .slice none 0 0 := by
          rw [hat1]
          unfold rowCell
          rw [if_pos hem]
        rw [hrr] at hc1
        have hq := fun w => Lib.run_eql_slice_nil (P := Tryz.prog) w 30 3 none 0 0 0 0 Tryz.underlying30
        obtain ⟨j0, hj0, hy0, hy1, hy2⟩ := info_parts infoII
        have hgh : g ≠ h := fun e => own_neB hT1.own hG1 (by decide) (by simp only [Value.ownBlock]; rw [e])
        have hhg : h ≠ g := fun e => hgh e.symm
        have HT1 := Lib.hid hT1
        have HG1 := Lib.hid hG1
        clear hT1 hG1
        have hmk : ∀ w, (Instr.makeSlice 30 (.int .i64 ((dn : Int) + 1)) (.int .i64 ((dn : Int) + 1))).run Tryz.prog w = .ok (.slice (some ⟨w.heap.size, 0, none⟩) (dn + 1) (dn + 1)) (w.alloc (.cells (madeCells #[.int .i64 0] (dn + 1)) 3)) := fun w =>
          run_make_row' (P := Tryz.prog) 30 3 (.int .i64 0) 8 Tryz.underlying30 infoII rfl .i64 .i64 (dn + 1) (by omega) (by omega) w
        obtain ⟨O, hO⟩ : ∃ O, Obj.cells (madeCells #[Value.int .i64 0] (dn + 1)) 3 = O := ⟨_, rfl⟩
        rw [hO] at hmk
        have HO := Lib.hid hO; clear hO
        have hns : h ≠ wr.heap.size := by omega
        have hO1 : ∀ u : Value, ((wr.setCell ⟨h, dn, none⟩ u).alloc O).cell? ⟨wr.heap.size, jn, none⟩ = some (.int .i64 0) := fun u => by
          have := (Blk.new (wr.setCell ⟨h, dn, none⟩ u) 3 (madeCells #[Value.int .i64 0] (dn + 1))).cell jn
          rw [World.size_setCell] at this
          rw [← HO.out, this, madeCells_ints]
          simp [intCells, Array.getElem?_replicate]
          omega
        have hO2 : ∀ u : Value, ((wr.setCell ⟨h, dn, none⟩ u).alloc O).frozen? ⟨wr.heap.size, jn, none⟩ = false := fun u => by
          have := (Blk.new (wr.setCell ⟨h, dn, none⟩ u) 3 (madeCells #[Value.int .i64 0] (dn + 1))).frozen jn
          rw [World.size_setCell] at this
          rw [← HO.out, this]
        have hng : g ≠ wr.heap.size := by omega
        have hdw : IntKind.i64.wrap ((dn : Int) + 1) = (dn : Int) + 1 := IntWalk.i64_in _ (by omega)
        go_wp2
        go_region_held3 (fun w' => w'.cell? ⟨g, o, none⟩ = some (.slice (some ⟨h, 0, none⟩) n1 c1)) (go_keep) (fail)
        all_goals go_wp2
        all_goals go_end0
        all_goals
          refine ⟨rfl, wr.heap.size, .slice (some ⟨h, 0, none⟩) n1 c1, ?_, ?_, hB1, hv1, ?_⟩
          · have h1 := (((HG1.out.far (p := ⟨h, dn, none⟩) hgh (.slice (some ⟨wr.heap.size, 0, none⟩) (dn + 1) (dn + 1))).alloc O).far (p := ⟨wr.heap.size, jn, none⟩) hng (.int .i64 x)).drew
            rw [hn1] at h1
            exact h1
          · have h1 := tab_made (d := dn) (j := jn) (x := x) (by have := HT1.out; rw [hn1] at this; exact this) hn1 hd1 (by rw [hat1]; exact hem) hnd1 (by omega) hj O HO.out
            unfold setRow
            rw [if_pos hem, ← hr1]
            exact h1
          · have h1 := (hf.setCell (p := ⟨h, dn, none⟩) (by
              rcases hv1 with h1 | ⟨h', h1, h2⟩
              · exact .inl (.inr (.inl h1))
              · right
                injection h1 with h1
                subst h1
                exact h2) (.slice (some ⟨wr.heap.size, 0, none⟩) (dn + 1) (dn + 1))).alloc O
            exact (h1.setCell (p := ⟨wr.heap.size, jn, none⟩) (.inr hB1) (.int .i64 x)).drewN 1
      · have hln := hrl.resolve_left hem
        have hem1 : (rowAt rows1 dn).2 ≠ [] := by rw [hat1]; exact hem
        have hrr : rowCell (rowAt rows1 dn) = .slice (some ⟨(rowAt rows dn).1, 0, none⟩) (dn + 1) (dn + 1) := by
          rw [hat1]
          unfold rowCell
          rw [if_neg hem, hln]
        rw [hrr] at hc1
        obtain ⟨hB2, hrow⟩ := hT1.row (rowAt rows1 dn) (by rw [rowAt_eq (by omega)]; exact List.getElem_mem _) hem1
        rw [hat1] at hrow hB2
        have hts := tab_store hT1 (d := dn) (by omega) hem1 hnd1 jn x
        rw [hat1] at hts
        have hrow' := hrow
        generalize hrb : (rowAt rows dn).1 = rb at *
        have hc2 : wr.cell? ⟨rb, jn, none⟩ = some (.int .i64 (ix (rowAt rows dn).2 jn)) := by
          rw [hrow.cell jn]
          simpa using intCells_get .i64 (rowAt rows dn).2 jn (by omega)
        have hf2 := hrow.frozen jn
        have hq := fun w => Lib.run_eql_slice_nil (P := Tryz.prog) w 30 3 (some ⟨rb, 0, none⟩) (dn + 1) (dn + 1) 0 0 Tryz.underlying30
        have HTS := Lib.hid hts; clear hts
        have hrows2 : rows1 = rows := by
          rcases hrows with h | ⟨h, h2⟩
          · exact h
          · exfalso
            apply hem
            simp [rowAt, ← h2]
        go_wp2
        go_end0
        refine ⟨rfl, w.heap.size, _, hG1.far (fun e => Blk.ne_ hrow hG1 (by decide) e.symm) _, ?_, Nat.le_refl _, hv1, (hf.setCell (p := ⟨rb, jn, none⟩) (.inl (.inr (.inr ⟨hem, rfl⟩))) _).mono (fun q _ hq => by rcases hq with hq | hq | hq; exact .inl hq; exact .inr (.inl hq); exact .inr (.inr (by first | exact hq.2 | exact hq)))⟩
        have := HTS.out
        rw [hrows2] at this
        unfold setRow
        rw [if_neg hem, hrb, hrows2]
        exact this
end Go.Proofs.YtgphjnhbheimiaaGreatDoor

namespace Go.Proofs.YtgphjnhbheimiaaGreatDoor
set_option linter.unusedVariables false
open Go.RowKit

section
variable {w w' : World} {base : Nat} {e : TypeId} {size : Nat} {v : Value} {n : Nat} {xs : List Value}
theorem own_fr {S : Nat → Prop} (h : w.ownsRow base e size v n xs) (hf : Fr S w w') (hs : ∀ g, v.ownBlock = some g → ¬ S g) : w'.ownsRow base e size v n xs := by
  have hl := h.lt
  refine ⟨h.1, ?_⟩
  rcases h.2 with hn | ⟨g, cap, cur, rfl, hb, hg, rest⟩
  · exact .inl hn
  · exact .inr ⟨g, cap, cur, rfl, hb, (hf.block g (hl g rfl).2 (hs g rfl)).trans hg, rest⟩
theorem own_below {B : Nat} (h : w.ownsRow base e size v n xs) (hf : Below B w w') (hB : w.heap.size ≤ B) : w'.ownsRow base e size v n xs :=
  own_fr (S := fun _ => False) h (Fr.of_below hf hB) (fun _ _ h => h)
end

/-- a block of pieces -/
def isD (w : World) (k : Nat) : Prop := ∃ cs, Blk w k 131 cs
/-- what a call on the graph leaves as it was: all old blocks below B, and all blocks of pieces -/
structure Gr (B : Nat) (w w' : World) : Prop where
  os : w'.os = w.os
  tape : w'.tape = w.tape
  output : w'.output = w.output
  size : w.heap.size ≤ w'.heap.size
  block : ∀ k, k < w.heap.size → k < B ∨ isD w k → w'.heap[k]? = w.heap[k]?
section
variable {B : Nat} {a w w' : World}
theorem Gr.refl (B : Nat) (w : World) : Gr B w w := ⟨rfl, rfl, rfl, Nat.le_refl _, fun _ _ _ => rfl⟩
theorem Gr.isD (h : Gr B w w') {k : Nat} (hk : isD w k) : isD w' k := by
  obtain ⟨cs, hc⟩ := hk
  exact ⟨cs, (h.block k hc.lt (.inr ⟨cs, hc⟩)).trans hc⟩
theorem Gr.trans (h : Gr B a w) (k : Gr B w w') : Gr B a w' :=
  ⟨k.os.trans h.os, k.tape.trans h.tape, k.output.trans h.output, Nat.le_trans h.size k.size, fun i hi hs => (k.block i (Nat.lt_of_lt_of_le hi h.size) (hs.imp id h.isD)).trans (h.block i hi hs)⟩
theorem Gr.of_below {B' : Nat} (h : Below B' w w') (hB : w.heap.size ≤ B') : Gr B w w' := ⟨h.os, h.tape, h.output, h.size, fun k hk _ => h.block k (by omega)⟩
theorem Gr.below (h : Gr B w w') (hB : B ≤ w.heap.size) : Below B w w' := ⟨h.os, h.tape, h.output, h.size, fun k hk => h.block k (by omega) (.inl hk)⟩
theorem Gr.of_fr {S : Nat → Prop} (h : Fr S w w') (hs : ∀ k, k < w.heap.size → S k → B ≤ k ∧ ¬ Proofs.YtgphjnhbheimiaaGreatDoor.isD w k) : Gr B w w' :=
  ⟨h.os, h.tape, h.output, h.size, fun k hk hc => h.block k hk fun hS => by
    have := hs k hk hS
    rcases hc with hc | hc
    · omega
    · exact this.2 hc⟩
theorem Blk.isD_not {g t : Nat} {cs : Array Value} (h : Blk w g t cs) (ht : t ≠ 131) : ¬ isD w g := by
  rintro ⟨cs', h'⟩
  exact Blk.ne_ h h' ht rfl
theorem own_gr {base size n : Nat} {v : Value} {xs : List Value} (h : w.ownsRow base 131 size v n xs) (hf : Gr B w w') : w'.ownsRow base 131 size v n xs := by
  have hl := h.lt
  refine ⟨h.1, ?_⟩
  rcases h.2 with hn | ⟨g, cap, cur, rfl, hb, hg, rest⟩
  · exact .inl hn
  · exact .inr ⟨g, cap, cur, rfl, hb, (hf.block g (hl g rfl).2 (.inr ⟨cur, hg⟩)).trans hg, rest⟩
theorem Gr.mono {B' : Nat} (h : Gr B w w') (hB : B' ≤ B) : Gr B' w w' := ⟨h.os, h.tape, h.output, h.size, fun k hk hc => h.block k hk (hc.imp (fun h => by omega) id)⟩
end

/-! ### the tables -/
theorem rowsTo_len (rows : List LRow) (d : Nat) (hd : d ≤ rows.length) : d < (rowsTo rows d).length ∧ (rowsTo rows d).length = max rows.length (d + 1) := by
  unfold rowsTo
  split
  · exact ⟨by omega, by omega⟩
  · simp; omega
theorem rowsTo_at (rows : List LRow) (d d' : Nat) (hd : d ≤ rows.length) : rowAt (rowsTo rows d) d' = rowAt rows d' := by
  unfold rowsTo
  split
  · rfl
  · unfold rowAt List.getD
    rcases Nat.lt_or_ge d' rows.length with h | h
    · rw [List.getElem?_append_left h]
    · rw [List.getElem?_append_right h, List.getElem?_eq_none h]
      cases hq : d' - rows.length with
      | zero => rfl
      | succ q => rfl
theorem rowsTo_blks (rows : List LRow) (d : Nat) : rowBlks (rowsTo rows d) = rowBlks rows := by
  unfold rowsTo
  split
  · rfl
  · simp [rowBlks]
theorem setRow_blks (rows : List LRow) (d j : Nat) (x : Int) (b : Nat) (hd : d ≤ rows.length) : rowBlks (setRow rows d j x b) = rowBlks rows ∨ (rowBlks (setRow rows d j x b)).Perm (b :: rowBlks rows) := by
  unfold setRow
  by_cases h : (rowAt rows d).2 = []
  · right
    rw [if_pos h]
    have hl := (rowsTo_len rows d hd).1
    have h1 := rowsTo_at rows d d hd
    rw [rowAt_eq hl] at h1
    have := rowBlks_set_new (rowsTo rows d) d hl b ((List.replicate (d + 1) 0).set j x) (by rw [h1]; exact h) (by
      intro h2
      have := congrArg List.length h2
      simp at this)
    rw [rowsTo_blks] at this
    exact this
  · left
    rw [if_neg h]
    have hl : d < rows.length := by
      rcases Nat.lt_or_ge d rows.length with h2 | h2
      · exact h2
      · exfalso
        apply h
        simp [rowAt, List.getD, h2]
    rw [rowAt_eq hl] at h ⊢
    exact rowBlks_set_old rows d hl _ h (by simpa using h)
theorem setRow_len (rows : List LRow) (d j : Nat) (x : Int) (b : Nat) (hd : d ≤ rows.length) : (setRow rows d j x b).length = max rows.length (d + 1) ∨ ((setRow rows d j x b).length = rows.length ∧ d < rows.length) := by
  unfold setRow
  split
  · left
    rw [List.length_set]
    exact (rowsTo_len rows d hd).2
  · rename_i h
    right
    rw [List.length_set]
    refine ⟨rfl, ?_⟩
    rcases Nat.lt_or_ge d rows.length with h2 | h2
    · exact h2
    · exfalso
      apply h
      simp [rowAt, List.getD, h2]
/-- each row is nil or has one number more than its level -/
def Shape (rows : List LRow) : Prop := ∀ d, (rowAt rows d).2 = [] ∨ (rowAt rows d).2.length = d + 1
theorem rowAt_set (l : List LRow) (d d' : Nat) (r : LRow) (hd : d < l.length) : rowAt (l.set d r) d' = if d = d' then r else rowAt l d' := by
  unfold rowAt
  by_cases h : d = d'
  · subst h
    simp [List.getD, hd]
  · rw [if_neg h]
    simp [List.getD, List.getElem?_set_ne h]
theorem setRow_at (rows : List LRow) (d j d' : Nat) (x : Int) (b : Nat) (hd : d ≤ rows.length) : rowAt (setRow rows d j x b) d' =
   if d = d' then (if (rowAt rows d).2 = [] then (b, (List.replicate (d + 1) 0).set j x) else ((rowAt rows d).1, (rowAt rows d).2.set j x)) else rowAt rows d' := by
  unfold setRow
  by_cases h : (rowAt rows d).2 = []
  · rw [if_pos h, if_pos h, rowAt_set _ _ _ _ (rowsTo_len rows d hd).1, rowsTo_at rows d d' hd]
  · rw [if_neg h, if_neg h]
    have hl : d < rows.length := by
      rcases Nat.lt_or_ge d rows.length with h2 | h2
      · exact h2
      · exfalso
        apply h
        simp [rowAt, List.getD, h2]
    rw [rowAt_set _ _ _ _ hl]
theorem Shape.set {rows : List LRow} (h : Shape rows) (d j : Nat) (x : Int) (b : Nat) (hd : d ≤ rows.length) : Shape (setRow rows d j x b) := by
  intro d'
  rw [setRow_at rows d j d' x b hd]
  by_cases h1 : d = d'
  · subst h1
    rw [if_pos rfl]
    right
    split
    · simp
    · rename_i h2
      simpa using (h d).resolve_left h2
  · rw [if_neg h1]
    exact h d'
/-- number j of row d is x -/
def Lab (rows : List LRow) (d j : Nat) (x : Int) : Prop := d < rows.length ∧ j < (rowAt rows d).2.length ∧ ix (rowAt rows d).2 j = x
theorem lab_new {rows : List LRow} {d j : Nat} (hs : Shape rows) (x : Int) (b : Nat) (hd : d ≤ rows.length) (hj : j ≤ d) : Lab (setRow rows d j x b) d j x := by
  have hl := setRow_len rows d j x b hd
  refine ⟨by omega, ?_, ?_⟩
  · rw [setRow_at rows d j d x b hd, if_pos rfl]
    split
    · simp; omega
    · rename_i h2
      have := (hs d).resolve_left h2
      simp; omega
  · rw [setRow_at rows d j d x b hd, if_pos rfl]
    split
    · simp [ix, List.getD]
      rw [List.getElem?_set_self (by simp; omega)]
      rfl
    · rename_i h2
      have := (hs d).resolve_left h2
      simp [ix, List.getD]
      rw [List.getElem?_set_self (by omega)]
      rfl
theorem lab_old {rows : List LRow} {d j d' j' : Nat} {x x' : Int} {b : Nat} (h : Lab rows d' j' x') (hd : d ≤ rows.length) (hne : ¬ (d = d' ∧ j = j')) : Lab (setRow rows d j x b) d' j' x' := by
  obtain ⟨h1, h2, h3⟩ := h
  have hl := setRow_len rows d j x b hd
  by_cases h4 : d = d'
  · subst h4
    have h5 : (rowAt rows d).2 ≠ [] := by
      intro h
      rw [h] at h2
      simp at h2
    have h6 : j ≠ j' := fun h => hne ⟨rfl, h⟩
    refine ⟨by omega, ?_, ?_⟩
    · rw [setRow_at rows d j d x b hd, if_pos rfl, if_neg h5]
      simpa using h2
    · rw [setRow_at rows d j d x b hd, if_pos rfl, if_neg h5]
      simp only [ix, List.getD] at h3 ⊢
      rw [List.getElem?_set_ne h6]
      exact h3
  · refine ⟨by omega, ?_, ?_⟩
    · rw [setRow_at rows d j d' x b hd, if_neg h4]; exact h2
    · rw [setRow_at rows d j d' x b hd, if_neg h4]; exact h3

section
variable {w w' : World} {B : Nat} {v : Value} {rows : List LRow}
theorem Tab.fr {S : Nat → Prop} (h : Tab w B v rows) (hf : Fr S w w') (h1 : ∀ g, v.ownBlock = some g → ¬ S g) (h2 : ∀ k, k ∈ rowBlks rows → ¬ S k) : Tab w' B v rows :=
  ⟨own_fr h.own hf h1, fun r hr hne => ⟨(h.row r hr hne).1, (h.row r hr hne).2.fr hf (h2 _ (mem_rowBlks hr hne))⟩⟩
theorem Tab.below {B' : Nat} (h : Tab w B v rows) (hf : Below B' w w') (hB : w.heap.size ≤ B') : Tab w' B v rows :=
  h.fr (S := fun _ => False) (Fr.of_below hf hB) (fun _ _ h => h) (fun _ _ h => h)
theorem Tab.blk (h : Tab w B v rows) {k : Nat} (hk : k ∈ rowBlks rows) : B ≤ k ∧ ∃ zs, Blk w k 3 zs := by
  obtain ⟨r, hr, hne, rfl⟩ := of_rowBlks hk
  exact ⟨(h.row r hr hne).1, _, (h.row r hr hne).2⟩
end

/-- what does not turn of a graph -/
structure GK where
  sq : Value
  lim : Int
  ux : Int
  uy : Int
  dl : Int
def gcells (K : GK) (vf vb : Value) : Array Value := #[K.sq, vf, vb, .int .i64 K.lim, .int .i64 0, .int .i64 0, .int .i64 K.ux, .int .i64 K.uy, .int .i64 K.dl]
/-- the graph K lies in block g, its tables from block B on -/
structure GSt (w : World) (B g : Nat) (K : GK) (vf vb : Value) (rf rb : List LRow) : Prop where
  blk : Blk w g 107 (gcells K vf vb)
  tf : Tab w B vf rf
  tb : Tab w B vb rb
  hg : B ≤ g
  nd : (rowBlks rf ++ rowBlks rb).Nodup
  vne : ∀ h, vf.ownBlock = some h → vb.ownBlock ≠ some h
  sf : Shape rf
  sb : Shape rb
  lf : rf.length ≤ 2002
  lb : rb.length ≤ 2002
section
variable {w w' : World} {B g : Nat} {K : GK} {vf vb : Value} {rf rb : List LRow}
theorem GSt.below {B' : Nat} (h : GSt w B g K vf vb rf rb) (hf : Below B' w w') (hB : w.heap.size ≤ B') : GSt w' B g K vf vb rf rb :=
  ⟨h.blk.below hf (Nat.lt_of_lt_of_le h.blk.lt hB), h.tf.below hf hB, h.tb.below hf hB, h.hg, h.nd, h.vne, h.sf, h.sb, h.lf, h.lb⟩
theorem own_vec {base e size n g : Nat} {v : Value} {xs : List Value} (h : w.ownsRow base e size v n xs) (hg : v.ownBlock = some g) : base ≤ g ∧ g < w.heap.size ∧ ∃ cs, Blk w g e cs := by
  have hl := h.lt g hg
  rcases h.2 with ⟨rfl, _⟩ | ⟨g', cap, cur, rfl, hb, hgg, rest⟩
  · cases hg
  · injection hg with hg
    subst hg
    exact ⟨hl.1, hl.2, cur, hgg⟩
/-- a number laid into the first table -/
theorem GSt.setF {d j b : Nat} {x : Int} {vf' : Value} (h : GSt w B g K vf vb rf rb) (hd : d ≤ rf.length) (hd2 : d ≤ 2001) (h1 : Blk w' g 107 ((gcells K vf vb).setIfInBounds 1 vf')) (h2 : Tab w' B vf' (setRow rf d j x b)) (h3 : w.heap.size ≤ b)
    (h4 : vf'.ownBlock = vf.ownBlock ∨ ∃ h, vf'.ownBlock = some h ∧ w.heap.size ≤ h) (hf : Fr (fun q => q = g ∨ some q = vf.ownBlock ∨ ((rowAt rf d).2 ≠ [] ∧ q = (rowAt rf d).1)) w w') :
    GSt w' B g K vf' vb (setRow rf d j x b) rb ∧ Gr B w w' := by
  have hnd := List.nodup_append.1 h.nd
  have hrow : (rowAt rf d).2 ≠ [] → (rowAt rf d).1 ∈ rowBlks rf := fun hne => by
    have hl : d < rf.length := by
      rcases Nat.lt_or_ge d rf.length with h2 | h2
      · exact h2
      · exfalso
        apply hne
        simp [rowAt, List.getD, h2]
    refine mem_rowBlks ?_ hne
    rw [rowAt_eq hl]
    exact List.getElem_mem _
  have hbn : ∀ {k}, k ∈ rowBlks rf → k ≠ b := fun hk => by
    obtain ⟨_, zs, hz⟩ := h.tf.blk hk
    have := hz.lt
    omega
  have hbn' : ∀ {k}, k ∈ rowBlks rb → k ≠ b := fun hk => by
    obtain ⟨_, zs, hz⟩ := h.tb.blk hk
    have := hz.lt
    omega
  refine ⟨⟨h1, h2, h.tb.fr hf (fun q hq => ?_) (fun k hk => ?_), h.hg, ?_, fun q hq => ?_, h.sf.set d j x b hd, h.sb, ?_, h.lb⟩, Gr.of_fr hf (fun k hk hS => ?_)⟩
  · obtain ⟨_, _, cs, hc⟩ := own_vec h.tb.own hq
    rintro (rfl | hS | ⟨hne, rfl⟩)
    · exact Blk.ne_ hc h.blk (by decide) rfl
    · exact h.vne q hS.symm hq
    · obtain ⟨_, zs, hz⟩ := h.tf.blk (hrow hne)
      exact Blk.ne_ hc hz (by decide) rfl
  · obtain ⟨_, zs, hz⟩ := h.tb.blk hk
    rintro (rfl | hS | ⟨hne, rfl⟩)
    · exact Blk.ne_ hz h.blk (by decide) rfl
    · obtain ⟨_, _, cs, hc⟩ := own_vec h.tf.own hS.symm
      exact Blk.ne_ hz hc (by decide) rfl
    · exact hnd.2.2 _ (hrow hne) _ hk rfl
  · rcases setRow_blks rf d j x b hd with h5 | h5
    · rw [h5]; exact h.nd
    · refine ((h5.append_right (rowBlks rb)).nodup_iff).2 ?_
      rw [List.cons_append, List.nodup_cons]
      refine ⟨fun hm => ?_, h.nd⟩
      rcases List.mem_append.1 hm with hm | hm
      · exact hbn hm rfl
      · exact hbn' hm rfl
  · rcases h4 with h4 | ⟨q', h4, h5⟩
    · exact h.vne q (by rw [← h4]; exact hq)
    · rw [h4] at hq
      injection hq with hq
      subst hq
      intro hb
      have := (own_vec h.tb.own hb).2.1
      omega
  · have := setRow_len rf d j x b hd
    have := h.lf
    omega
  · rcases hS with rfl | hS | ⟨hne, rfl⟩
    · exact ⟨h.hg, h.blk.isD_not (by decide)⟩
    · obtain ⟨a1, a2, cs, hc⟩ := own_vec h.tf.own hS.symm
      exact ⟨a1, hc.isD_not (by decide)⟩
    · obtain ⟨a1, zs, hz⟩ := h.tf.blk (hrow hne)
      exact ⟨a1, hz.isD_not (by decide)⟩
/-- a number laid into the second table -/
theorem GSt.setB {d j b : Nat} {x : Int} {vb' : Value} (h : GSt w B g K vf vb rf rb) (hd : d ≤ rb.length) (hd2 : d ≤ 2001) (h1 : Blk w' g 107 ((gcells K vf vb).setIfInBounds 2 vb')) (h2 : Tab w' B vb' (setRow rb d j x b)) (h3 : w.heap.size ≤ b)
    (h4 : vb'.ownBlock = vb.ownBlock ∨ ∃ h, vb'.ownBlock = some h ∧ w.heap.size ≤ h) (hf : Fr (fun q => q = g ∨ some q = vb.ownBlock ∨ ((rowAt rb d).2 ≠ [] ∧ q = (rowAt rb d).1)) w w') :
    GSt w' B g K vf vb' rf (setRow rb d j x b) ∧ Gr B w w' := by
  have hnd := List.nodup_append.1 h.nd
  have hrow : (rowAt rb d).2 ≠ [] → (rowAt rb d).1 ∈ rowBlks rb := fun hne => by
    have hl : d < rb.length := by
      rcases Nat.lt_or_ge d rb.length with h2 | h2
      · exact h2
      · exfalso
        apply hne
        simp [rowAt, List.getD, h2]
    refine mem_rowBlks ?_ hne
    rw [rowAt_eq hl]
    exact List.getElem_mem _
  have hbn : ∀ {k}, k ∈ rowBlks rf → k ≠ b := fun hk => by
    obtain ⟨_, zs, hz⟩ := h.tf.blk hk
    have := hz.lt
    omega
  have hbn' : ∀ {k}, k ∈ rowBlks rb → k ≠ b := fun hk => by
    obtain ⟨_, zs, hz⟩ := h.tb.blk hk
    have := hz.lt
    omega
  refine ⟨⟨h1, h.tf.fr hf (fun q hq => ?_) (fun k hk => ?_), h2, h.hg, ?_, fun q hq => ?_, h.sf, h.sb.set d j x b hd, h.lf, ?_⟩, Gr.of_fr hf (fun k hk hS => ?_)⟩
  · obtain ⟨_, _, cs, hc⟩ := own_vec h.tf.own hq
    rintro (rfl | hS | ⟨hne, rfl⟩)
    · exact Blk.ne_ hc h.blk (by decide) rfl
    · exact h.vne q hq hS.symm
    · obtain ⟨_, zs, hz⟩ := h.tb.blk (hrow hne)
      exact Blk.ne_ hc hz (by decide) rfl
  · obtain ⟨_, zs, hz⟩ := h.tf.blk hk
    rintro (rfl | hS | ⟨hne, rfl⟩)
    · exact Blk.ne_ hz h.blk (by decide) rfl
    · obtain ⟨_, _, cs, hc⟩ := own_vec h.tb.own hS.symm
      exact Blk.ne_ hz hc (by decide) rfl
    · exact hnd.2.2 _ hk _ (hrow hne) rfl
  · rcases setRow_blks rb d j x b hd with h5 | h5
    · rw [h5]; exact h.nd
    · refine ((h5.append_left (rowBlks rf)).nodup_iff).2 ?_
      refine List.nodup_append.2 ⟨hnd.1, List.nodup_cons.2 ⟨fun hm => hbn' hm rfl, hnd.2.1⟩, fun a ha c hc => ?_⟩
      rcases List.mem_cons.1 hc with hc | hc
      · rw [hc]; exact hbn ha
      · exact hnd.2.2 a ha c hc
  · rcases h4 with h4 | ⟨q', h4, h5⟩
    · rw [h4]; exact h.vne q hq
    · rw [h4]
      intro hb
      injection hb with hb
      subst hb
      have := (own_vec h.tf.own hq).2.1
      omega
  · have := setRow_len rb d j x b hd
    have := h.lb
    omega
  · rcases hS with rfl | hS | ⟨hne, rfl⟩
    · exact ⟨h.hg, h.blk.isD_not (by decide)⟩
    · obtain ⟨a1, a2, cs, hc⟩ := own_vec h.tb.own hS.symm
      exact ⟨a1, hc.isD_not (by decide)⟩
    · obtain ⟨a1, zs, hz⟩ := h.tb.blk (hrow hne)
      exact ⟨a1, hz.isD_not (by decide)⟩
end
end Go.Proofs.YtgphjnhbheimiaaGreatDoor
