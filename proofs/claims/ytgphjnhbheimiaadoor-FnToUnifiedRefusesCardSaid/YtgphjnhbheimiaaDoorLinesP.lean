/-
  The lines of a text, plainly: no program in sight. No condition.
-/
import Derived.Test.YtgphjnhbheimiaaDoorPlain
import Derived.Laws.RangeAny
namespace Go.Proofs.YtgphjnhbheimiaaDoor
set_option linter.unusedVariables false
open Go.RowKit

def byteAt (s : ByteArray) (k : Nat) : Nat := (s.data.toList.getD k 0).toNat
theorem byteAt_get (s : ByteArray) (k : Nat) (h : k < s.size) : byteAt s k = (s[k]'h).toNat := by
  have h2 : k < s.data.toList.length := by simpa using h
  simp only [byteAt, List.getD_eq_getElem?_getD, List.getElem?_eq_getElem h2, Option.getD_some, Array.getElem_toList]
  rfl

theorem toList_eqB {a b : ByteArray} (h : a.toList = b.toList) : a = b := by
  rw [ByteArray.toList_eq, ByteArray.toList_eq] at h
  exact ByteArray.ext (Array.ext' h)
theorem strEq_true {a b : ByteArray} (h : a = b) : (a.toList == b.toList) = true := by subst h; simp
theorem strEq_false {a b : ByteArray} (h : ¬ a = b) : (a.toList == b.toList) = false := by
  cases hh : (a.toList == b.toList) with
  | false => rfl
  | true => exact absurd (toList_eqB (by simpa using hh)) h

/-- how many bytes texts have together -/
def totB : List ByteArray → Nat
  | [] => 0
  | x :: l => x.size + totB l
theorem totB_append (a b : List ByteArray) : totB (a ++ b) = totB a + totB b := by
  induction a with
  | nil => simp [totB]
  | cons x a ih => simp only [List.cons_append, totB, ih]; omega
/-- where each begins, and where the last one ends -/
def psums (L : List ByteArray) : List Int := (List.range (L.length + 1)).map fun j => (totB (L.take j) : Int)
theorem psums_nil : psums [] = [0] := rfl
theorem psums_len (L : List ByteArray) : (psums L).length = L.length + 1 := by simp [psums]
theorem psums_snoc (L : List ByteArray) (x : ByteArray) : psums (L ++ [x]) = psums L ++ [((totB L + x.size : Nat) : Int)] := by
  unfold psums
  rw [List.length_append, List.length_singleton, List.range_succ, List.map_append]
  congr 1
  · apply List.map_congr_left
    intro j hj
    rw [List.mem_range] at hj
    rw [List.take_append_of_le_length (by omega)]
  · simp [List.take_of_length_le, totB_append, totB]
theorem psums_ix (L : List ByteArray) (j : Nat) (h : j ≤ L.length) : ix (psums L) j = totB (L.take j) := by
  have h2 : j < L.length + 1 := by omega
  simp [ix, psums, h2]

/-- the whole lines that end ahead of a place, and where the next one begins -/
def lnTo (s : ByteArray) : Nat → List ByteArray × Nat
  | 0 => ([], 0)
  | k + 1 => if byteAt s k = 10 then ((lnTo s k).1 ++ [s.extract (lnTo s k).2 (k + 1)], k + 1) else lnTo s k
def lnL (s : ByteArray) (k : Nat) : List ByteArray := (lnTo s k).1
def lnF (s : ByteArray) (k : Nat) : Nat := (lnTo s k).2
def linesF (s : ByteArray) : List ByteArray := if lnF s s.size < s.size then lnL s s.size ++ [s.extract (lnF s s.size) s.size] else lnL s s.size

theorem lnL_zero (s : ByteArray) : lnL s 0 = [] := rfl
theorem lnF_zero (s : ByteArray) : lnF s 0 = 0 := rfl
theorem lnL_nl (s : ByteArray) (k : Nat) (h : byteAt s k = 10) : lnL s (k + 1) = lnL s k ++ [s.extract (lnF s k) (k + 1)] := by simp [lnL, lnF, lnTo, h]
theorem lnF_nl (s : ByteArray) (k : Nat) (h : byteAt s k = 10) : lnF s (k + 1) = k + 1 := by simp [lnF, lnTo, h]
theorem lnL_no (s : ByteArray) (k : Nat) (h : byteAt s k ≠ 10) : lnL s (k + 1) = lnL s k := by simp [lnL, lnTo, h]
theorem lnF_no (s : ByteArray) (k : Nat) (h : byteAt s k ≠ 10) : lnF s (k + 1) = lnF s k := by simp [lnF, lnTo, h]
theorem lnF_le (s : ByteArray) (k : Nat) : lnF s k ≤ k := by
  induction k with
  | zero => simp [lnF, lnTo]
  | succ k ih =>
    by_cases h : byteAt s k = 10
    · rw [lnF_nl s k h]; omega
    · rw [lnF_no s k h]; omega
theorem lnL_len (s : ByteArray) (k : Nat) : (lnL s k).length ≤ k := by
  induction k with
  | zero => simp [lnL, lnTo]
  | succ k ih =>
    by_cases h : byteAt s k = 10
    · rw [lnL_nl s k h]; simp; omega
    · rw [lnL_no s k h]; omega
theorem lnL_tot (s : ByteArray) (k : Nat) (hk : k ≤ s.size) : totB (lnL s k) = lnF s k := by
  induction k with
  | zero => rfl
  | succ k ih =>
    by_cases h : byteAt s k = 10
    · have := lnF_le s k
      rw [lnL_nl s k h, lnF_nl s k h, totB_append, ih (by omega)]
      simp only [totB, ByteArray.size_extract]
      omega
    · rw [lnL_no s k h, lnF_no s k h, ih (by omega)]
theorem linesF_len (s : ByteArray) : (linesF s).length ≤ s.size := by
  have h0 := lnL_len s s.size
  unfold linesF
  split
  · rename_i h
    have : (lnL s s.size).length ≤ lnF s s.size := by
      have key : ∀ k, (lnL s k).length ≤ lnF s k := by
        intro k
        induction k with
        | zero => simp [lnL, lnF, lnTo]
        | succ k ih =>
          by_cases h : byteAt s k = 10
          · have := lnF_le s k
            rw [lnL_nl s k h, lnF_nl s k h]; simp; omega
          · rw [lnL_no s k h, lnF_no s k h]; exact ih
      exact key _
    simp; omega
  · exact h0
theorem linesF_tot (s : ByteArray) : totB (linesF s) = s.size := by
  have h0 := lnL_tot s s.size (Nat.le_refl _)
  have h1 := lnF_le s s.size
  unfold linesF
  split
  · rw [totB_append, h0]
    simp only [totB, ByteArray.size_extract]
    omega
  · omega

/-- what a code point above 127 takes holds no line end -/
def NoNl (s : ByteArray) (pos : Nat) (r : Nat × Nat) : Prop := pos + r.2 ≤ s.size ∧ ∀ j, pos ≤ j → j < pos + r.2 → byteAt s j ≠ 10
def Cont (s : ByteArray) (pos k : Nat) : Prop := pos + k < s.size ∧ (s.get! (pos + k)).toNat / 64 = 2
section
variable {s : ByteArray} {pos x : Nat}
theorem Cont.no {k : Nat} (h : Cont s pos k) : byteAt s (pos + k) ≠ 10 := by
  have hg : (s.get! (pos + k)).toNat = byteAt s (pos + k) := by
    rw [byteAt_get s _ h.1]
    have := h.1
    simp [ByteArray.get!, getElem!_pos, this]
    rfl
  have := h.2
  omega
theorem noNl1 (h : pos < s.size) (ha : 128 ≤ byteAt s pos) : NoNl s pos (x, 1) :=
  ⟨h, fun j h1 h2 => by
    have : j = pos := by simp only at h2; omega
    subst this
    omega⟩
theorem noNl2 (ha : 128 ≤ byteAt s pos) (k1 : Cont s pos 1) : NoNl s pos (x, 2) :=
  ⟨by have := k1.1; show pos + 2 ≤ s.size; omega, fun j h1 h2 => by
    have : j = pos ∨ j = pos + 1 := by simp only at h2; omega
    rcases this with rfl | rfl
    · omega
    · exact k1.no⟩
theorem noNl3 (ha : 128 ≤ byteAt s pos) (k1 : Cont s pos 1) (k2 : Cont s pos 2) : NoNl s pos (x, 3) :=
  ⟨by have := k2.1; show pos + 3 ≤ s.size; omega, fun j h1 h2 => by
    have : j = pos ∨ j = pos + 1 ∨ j = pos + 2 := by simp only at h2; omega
    rcases this with rfl | rfl | rfl
    · omega
    · exact k1.no
    · exact k2.no⟩
theorem noNl4 (ha : 128 ≤ byteAt s pos) (k1 : Cont s pos 1) (k2 : Cont s pos 2) (k3 : Cont s pos 3) : NoNl s pos (x, 4) :=
  ⟨by have := k3.1; show pos + 4 ≤ s.size; omega, fun j h1 h2 => by
    have : j = pos ∨ j = pos + 1 ∨ j = pos + 2 ∨ j = pos + 3 := by simp only at h2; omega
    rcases this with rfl | rfl | rfl | rfl
    · omega
    · exact k1.no
    · exact k2.no
    · exact k3.no⟩
end
theorem decode_no_nl (s : ByteArray) (pos : Nat) (h : pos < s.size) (ha : 128 ≤ byteAt s pos) : NoNl s pos (Utf8.decode s pos) := by
  have hn : ¬ (s[pos]'h).toNat < 128 := by rw [byteAt_get s pos h] at ha; omega
  simp only [Utf8.decode, get_at s pos h, hn, if_false]
  split
  · rename_i hc
    simp only [Bool.and_eq_true, decide_eq_true_eq, beq_iff_eq] at hc
    split
    · exact noNl2 ha hc.2
    · exact noNl1 h ha
  · split
    · rename_i hc
      simp only [Bool.and_eq_true, decide_eq_true_eq, beq_iff_eq] at hc
      split
      · exact noNl3 ha hc.1.2 hc.2
      · exact noNl1 h ha
    · split
      · rename_i hc
        simp only [Bool.and_eq_true, decide_eq_true_eq, beq_iff_eq] at hc
        split
        · exact noNl4 ha hc.1.1.2 hc.1.2 hc.2
        · exact noNl1 h ha
      · exact noNl1 h ha
theorem ln_skip (s : ByteArray) (a b : Nat) (hab : a ≤ b) (h : ∀ j, a ≤ j → j < b → byteAt s j ≠ 10) : lnL s b = lnL s a ∧ lnF s b = lnF s a := by
  induction b with
  | zero => have : a = 0 := by omega
            subst this
            exact ⟨rfl, rfl⟩
  | succ b ih =>
    by_cases hb : a = b + 1
    · subst hb; exact ⟨rfl, rfl⟩
    · have := ih (by omega) (fun j h1 h2 => h j h1 (by omega))
      rw [lnL_no s b (h b (by omega) (by omega)), lnF_no s b (h b (by omega) (by omega))]
      exact this

/-- one step of a range over a text -/
theorem next_facts (s : ByteArray) (p : Nat) (h : p < s.size) :
    1 ≤ (Utf8.decode s p).2 ∧ p + (Utf8.decode s p).2 ≤ s.size ∧ (byteAt s p = 10 → (Utf8.decode s p).1 = 10 ∧ (Utf8.decode s p).2 = 1) ∧
    (byteAt s p ≠ 10 → (Utf8.decode s p).1 ≠ 10 ∧ lnL s (p + (Utf8.decode s p).2) = lnL s p ∧ lnF s (p + (Utf8.decode s p).2) = lnF s p) := by
  by_cases ha : byteAt s p < 128
  · have hd := decode_ascii s p h (by rw [byteAt_get s p h] at ha; exact ha)
    rw [← byteAt_get s p h] at hd
    rw [hd]
    refine ⟨Nat.le_refl _, by show p + 1 ≤ s.size; omega, fun e => ⟨e, rfl⟩, fun e => ⟨e, lnL_no s p e, lnF_no s p e⟩⟩
  · have h1 := decode_no_nl s p h (by omega)
    have h2 := decode_high s p h (by rw [byteAt_get s p h] at ha; omega)
    refine ⟨h2.2, h1.1, fun e => by omega, fun e => ⟨by omega, ?_⟩⟩
    exact ln_skip s p _ (by omega) h1.2

/-! ### slices of texts -/
def strCells (ss : List ByteArray) : List Value := ss.map Value.string
theorem strCells_append (a b : List ByteArray) : strCells (a ++ b) = strCells a ++ strCells b := by simp [strCells]
theorem strCells_len (a : List ByteArray) : (strCells a).length = a.length := by simp [strCells]
theorem strCells_one (ss : List ByteArray) : ∀ u ∈ strCells ss, u.oneCell' = true := by
  intro u hu
  simp only [strCells, List.mem_map] at hu
  obtain ⟨x, _, rfl⟩ := hu
  rfl
def sx (ss : List ByteArray) (k : Nat) : ByteArray := ss.getD k ByteArray.empty
def StrsR (w : World) (A : Option Addr) (ss : List ByteArray) : Prop := CellsR w A (strCells ss)
theorem StrsR.at_ {w : World} {A : Option Addr} {ss : List ByteArray} (h : StrsR w A ss) {k : Nat} (hk : k < ss.length) :
    ∃ b off, A = some ⟨b, off, none⟩ ∧ b < w.heap.size ∧ w.cell? ⟨b, off + k, none⟩ = some (.string (sx ss k)) := by
  have g1 : (strCells ss)[k]? = some (.string (sx ss k)) := by simp [strCells, sx, hk]
  rcases h with h | ⟨b, off, hA, hc⟩
  · rw [h] at g1; simp at g1
  · exact ⟨b, off, hA, World.block_lt_of_cell? _ _ (hc _ _ g1), hc _ _ g1⟩
theorem StrsR.below {w w' : World} {A : Option Addr} {ss : List ByteArray} {B : Nat} (h : StrsR w A ss) (hb : Below B w w') (hB : w.heap.size ≤ B) : StrsR w' A ss := CellsR.below h hb hB
theorem str_lit1 (w : World) (t : TypeId) (x : ByteArray) : StrsR (w.alloc (.cells #[.string x] t)) (some ⟨w.heap.size, 0, none⟩) [x] := by
  refine .inr ⟨_, _, rfl, fun j u hu => ?_⟩
  have := (Blk.new w t #[.string x]).cell (0 + j)
  rw [this]
  simpa [strCells] using hu
end Go.Proofs.YtgphjnhbheimiaaDoor
