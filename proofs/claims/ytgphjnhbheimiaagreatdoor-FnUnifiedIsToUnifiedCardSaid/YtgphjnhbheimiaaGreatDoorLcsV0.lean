/-
  A row of pieces as the sort sees it, and back again. No program is walked. No condition.
-/
import Derived.Test.YtgphjnhbheimiaaGreatDoorWwA
import Derived.Test.YtgphjnhbheimiaaGreatDoorLcsX
import Derived.Shelf.SlSortFuncK.PdqK
namespace Go.Proofs.YtgphjnhbheimiaaGreatDoor
set_option linter.unusedVariables false
open Go.RowKit Go.Sort

theorem pc_at : ∀ (ps : List Pc) (t : Nat), t < ps.length * 3 → (pcCells ps)[t]? = some ((Pc.cells (ps.getD (t / 3) default))[t % 3]!)
  | p :: ps, 0, _ => rfl
  | p :: ps, 1, _ => rfl
  | p :: ps, 2, _ => rfl
  | p :: ps, t + 3, h => by
    have ih := pc_at ps t (by simp at h; omega)
    rw [pcCells_cons, List.getElem?_append_right (by simp [Pc.cells])]
    rw [show t + 3 - p.cells.length = t by simp [Pc.cells], ih, show (t + 3) / 3 = t / 3 + 1 by omega, show (t + 3) % 3 = t % 3 by omega]
    rfl
theorem flat_list (d : Array Pc) : (flatK Pc.cells 3 d).toList = pcCells d.toList := by
  apply List.ext_getElem?
  intro t
  by_cases h : t < d.size * 3
  · rw [pc_at _ _ (by simpa using h)]
    have h1 := get_flatK Pc.cells 3 d t h
    rw [getElem!_pos _ t (by simpa using h)] at h1
    rw [Array.getElem?_toList, Array.getElem?_eq_getElem (by simpa using h), h1]
    congr 3
    simp [List.getD, Array.getElem!_eq_getD, Array.getD_eq_getD_getElem?]
  · rw [List.getElem?_eq_none (by simp; omega), List.getElem?_eq_none (by rw [pcCells_length]; simp; omega)]

/-- the list that sort.Slice leaves -/
def srt (lt : Pc → Pc → Bool) (ps : List Pc) : List Pc := if ps.length < 2 then ps else (pdq lt ps.toArray 0 ps.length (Lib.bitLen ps.length) true true).toList

section
variable {w : World} {b0 e blk c : Nat} {ps : List Pc}
theorem own_blk (h : w.ownsRow b0 e 3 (.slice (some ⟨blk, 0, none⟩) ps.length c) ps.length (pcCells ps)) :
    ∃ cur, b0 ≤ blk ∧ w.heap[blk]? = some (.cells cur e (0, 0)) ∧ ps.length ≤ c ∧ c ≤ maxLen ∧ cur.size = c * 3 ∧ cur.toList.take (ps.length * 3) = pcCells ps := by
  rcases h.2 with ⟨h1, _⟩ | ⟨g, cap, cur, h1, h2, h3, h4, h5, h6, h7⟩
  · cases h1
  · injection h1 with h8 h9 h10
    injection h8 with h8
    injection h8 with h8
    subst h8 h10
    exact ⟨cur, h2, h3, h4, h5, h6, h7⟩
theorem own_nil_or {v : Value} (h : w.ownsRow b0 e 3 v ps.length (pcCells ps)) : (v = .slice none 0 0 ∧ ps = []) ∨ ∃ blk c, v = .slice (some ⟨blk, 0, none⟩) ps.length c := by
  rcases h.2 with ⟨h1, h2⟩ | ⟨g, cap, cur, h1, _⟩
  · exact .inl ⟨h1, List.eq_nil_of_length_eq_zero h2⟩
  · exact .inr ⟨g, cap, h1⟩
theorem row_holds (h : w.ownsRow b0 e 3 (.slice (some ⟨blk, 0, none⟩) ps.length c) ps.length (pcCells ps)) : HoldsK Pc.cells 3 w blk 0 ps.toArray := by
  obtain ⟨cur, h1, h2, h3, h4, h5, h6⟩ := own_blk h
  intro j hj
  have hj' : j < ps.length * 3 := by simpa using hj
  have hl := flat_list ps.toArray
  have h8 : cur[j]? = some (flatK Pc.cells 3 ps.toArray)[j]! := by
    have e1 : (cur.toList.take (ps.length * 3))[j]? = cur[j]? := by rw [List.getElem?_take_of_lt hj', Array.getElem?_toList]
    rw [← e1, h6, getElem!_pos _ j hj]
    have e2 : pcCells ps = (flatK Pc.cells 3 ps.toArray).toList := hl.symm
    rw [e2, Array.getElem?_toList, Array.getElem?_eq_getElem hj]
  refine ⟨?_, ?_⟩
  · simp only [World.cell?, h2, Nat.zero_add, id]
    exact h8
  · simp [World.frozen?, h2]
theorem take_putCells (cur F : Array Value) (h : F.size ≤ cur.size) : (putCells id 0 F cur).toList.take F.size = F.toList := by
  apply List.ext_getElem?
  intro t
  by_cases ht : t < F.size
  · rw [List.getElem?_take_of_lt ht, Array.getElem?_toList, Array.getElem?_toList]
    simp only [putCells, Array.getElem?_mapIdx]
    rw [Array.getElem?_eq_getElem (show t < cur.size by omega)]
    simp only [Option.map_some, Nat.zero_le, Nat.zero_add, true_and, ht, if_true, Nat.sub_zero, id]
    rw [getElem!_pos F t ht, Array.getElem?_eq_getElem ht]
  · rw [List.getElem?_eq_none (by simp; omega), List.getElem?_eq_none (by simp; omega)]
/-- the row after the sort -/
theorem row_back {n : Nat} {os : Array Obj} {d' : Array Pc} (h : w.ownsRow b0 e 3 (.slice (some ⟨blk, 0, none⟩) ps.length c) ps.length (pcCells ps)) (hd : d'.size = ps.length) :
    (grow (putRowK Pc.cells 3 (Sort.ahead w n) blk 0 d') os).ownsRow b0 e 3 (.slice (some ⟨blk, 0, none⟩) ps.length c) d'.toList.length (pcCells d'.toList) ∧ w.grownBy (grow (putRowK Pc.cells 3 (Sort.ahead w n) blk 0 d') os) (some blk) := by
  obtain ⟨cur, h1, h2, h3, h4, h5, h6⟩ := own_blk h
  have hlt : blk < w.heap.size := (Array.getElem?_eq_some_iff.1 h2).1
  have hl := flat_list d'
  have hm : d'.size * 3 ≤ c * 3 := by omega
  refine ⟨⟨by rw [pcCells_length], .inr ⟨blk, c, putCells id 0 (flatK Pc.cells 3 d') cur, by simp [hd], h1, ?_, by simp; omega, h4, by simp [putCells, h5], ?_⟩⟩, ⟨rfl, rfl, rfl, by simp [grow, putRowK, putRow, mapBlock, Sort.ahead], fun k hk hne => ?_⟩⟩
  · show ((w.heap.modify blk (onCells (putCells id 0 (flatK Pc.cells 3 d')))) ++ os)[blk]? = _
    rw [Array.getElem?_append_left (by simpa using hlt), Array.getElem?_modify, if_pos rfl, h2]
    rfl
  · have := take_putCells cur (flatK Pc.cells 3 d') (by simp only [size_flatK]; omega)
    rw [size_flatK] at this
    rw [Array.length_toList, this, hl]
  · show ((w.heap.modify blk (onCells (putCells id 0 (flatK Pc.cells 3 d')))) ++ os)[k]? = _
    rw [Array.getElem?_append_left (by simpa using hk), Array.getElem?_modify, if_neg (fun h => hne (by rw [h]))]
end
theorem perm_list {ps : List Pc} {d' : Array Pc} (h : PermIn 0 ps.toArray.size ps.toArray d') : d'.size = ps.length ∧ d'.toList.Perm ps := by
  obtain ⟨h1, _, h3⟩ := h
  refine ⟨by simpa using h1, ?_⟩
  have e1 : d'.extract 0 ps.toArray.size = d' := by rw [← h1, Array.extract_size]
  have e2 : ps.toArray.extract 0 ps.toArray.size = ps.toArray := by rw [Array.extract_size]
  rw [e1, e2] at h3
  simpa using h3
theorem sorted_list {lt : Pc → Pc → Bool} {d' : Array Pc} (h : SortedIn lt 0 d'.size d') : d'.toList.Pairwise fun p q => lt q p = false := by
  rw [List.pairwise_iff_getElem]
  intro i j hi hj hij
  have := h i j (Nat.zero_le _) hij (by simpa using hj)
  rw [getElem!_pos _ i (by simpa using hi), getElem!_pos _ j (by simpa using hj)] at this
  simpa using this
theorem swo_ltS : SWO ltS where
  irrefl := fun x => by simp [ltS]
  trans := fun x y z h1 h2 => by
    simp only [ltS] at *
    split at h1 <;> split at h2 <;> split <;> simp at * <;> omega
  ntrans := fun x y z h1 h2 => by
    simp only [ltS] at *
    split at h1 <;> split at h2 <;> split <;> simp at * <;> omega
theorem swo_ltL : SWO ltL where
  irrefl := fun x => by simp [ltL]
  trans := fun x y z h1 h2 => by simp only [ltL] at *; simp at *; omega
  ntrans := fun x y z h1 h2 => by simp only [ltL] at *; simp at *; omega
end Go.Proofs.YtgphjnhbheimiaaGreatDoor
