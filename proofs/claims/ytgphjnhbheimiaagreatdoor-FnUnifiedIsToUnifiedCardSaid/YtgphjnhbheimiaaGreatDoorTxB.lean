/-
  Copies of lists of edits: given, told, slices.Clone at the package's edits. Condition: at most 20000000 edits.
  The reference's small functions on edits: Inside, Overlap, Before, SameEdits, InOrder, Apart. Condition: at most 20000000 edits.
  The text that edits make, plainly. No condition.
  The lines of a text, plainly: no program in sight. No condition.
  What the merging of two lists of edits computes, as a plain function; no program in sight. No condition.
-/
import Derived.Test.YtgphjnhbheimiaaGreatDoorSmall
import Derived.WalkSpells
import Derived.Test.YtgphjnhbheimiaaGreatDoorPlain
import Derived.Laws.RangeAny
namespace Go.Proofs.YtgphjnhbheimiaaGreatDoor
set_option linter.unusedVariables false
open Go.RowKit

theorem infoE : (Tryz.prog.info? 46).map (fun i => (i.zero, i.size, i.bytes)) = some (some (.agg #[.int .i64 0, .int .i64 0, .string ⟨#[]⟩]), 3, 32) := by kernel_rfl
theorem infoD : (Tryz.prog.info? 47).map (fun i => (i.zero, i.size, i.bytes)) = some (some (.agg #[.int .i64 0, .int .i64 0, .string ⟨#[]⟩]), 3, 32) := by kernel_rfl

theorem cells_lit3 (w : World) (t : TypeId) (x : Ed) : CellsR (w.alloc (.cells #[.int .i64 x.s, .int .i64 x.e, .string x.n] t)) (some ⟨w.heap.size, 0, none⟩) x.cells := by
  refine .inr ⟨_, _, rfl, fun j u hu => ?_⟩
  have := (Blk.new w t #[.int .i64 x.s, .int .i64 x.e, .string x.n]).cell (0 + j)
  rw [this]
  simpa [Ed.cells] using hu
theorem cells_lit3' (w : World) (t : TypeId) (es : List Ed) (k : Nat) : CellsR (w.alloc (.cells #[.int .i64 (eS es k), .int .i64 (eE es k), .string (eN es k)] t)) (some ⟨w.heap.size, 0, none⟩) (edAt es k).cells :=
  cells_lit3 w t (edAt es k)
theorem edTake (es : List Ed) (k : Nat) (h : k < es.length) : edCells (es.take (k + 1)) = edCells (es.take k) ++ (edAt es k).cells := by
  rw [take_snoc_ed es k h, edCells_append]
  simp [edCells]
theorem edCells1 (x : Ed) : ∀ u ∈ x.cells, u.oneCell' = true := by
  intro u hu
  simp only [Ed.cells, List.mem_cons, List.not_mem_nil, or_false] at hu
  rcases hu with rfl | rfl | rfl <;> rfl

set_option maxHeartbeats 400000 in
/-- impl.given: the edits in new memory. -/
theorem given_any (A : Option Addr) (c : Nat) (es : List Ed) (w : World) (hr : EdsR w A es) (hl : es.length ≤ 20000000) :
   Calls Tryz.prog 12 #[.slice A es.length c] w fun e w' => ∃ A' c', e = .returned (.slice A' es.length c') ∧ w'.ownsRow w.heap.size 47 3 (.slice A' es.length c') es.length (edCells es) ∧ Below w.heap.size w w' := by
  have HR := Lib.hid hr; clear hr
  obtain ⟨n, hln⟩ : ∃ n, es.length = n := ⟨_, rfl⟩
  rw [hln] at hl ⊢
  have HL := Lib.hid hln; clear hln
  obtain ⟨i0, hi, hz0, hz1, hz2⟩ := info_parts infoD
  go_enter Tryz.func12, Tryz.ntmps12
  go_wp2
  go_loopw [3, 5, 9] (fun v _ i wr => ∃ k : Nat, k ≤ n ∧ i = .int .i64 k ∧ wr.ownsRow w.heap.size 47 3 v k (edCells (es.take k)) ∧ Below w.heap.size w wr) (fun _ _ i _ => n - (intOf i).toNat)
  case atStart => exact ⟨0, by omega, rfl, World.ownsRow_made w #[] 0 (Nat.le_refl _) (by simp [maxLen]) rfl, (Below.refl _ _).alloc (Nat.le_refl _) _⟩
  case round =>
    obtain ⟨k, hk, rfl, hown, hb⟩ := hrel
    by_cases hlt : k < n
    · obtain ⟨b, off, rfl, hbb, g1, g2, g3⟩ := (EdsR.below HR.out hb (Nat.le_refl _)).at_ (k := k) (by rw [HL.out]; exact hlt)
      have hbs := hb.size
      have ht := edTake es k (by rw [HL.out]; exact hlt)
      have HT := Lib.hid ht; clear ht
      have HO := Lib.hid hown; clear hown
      go_wp2_with (at_builtin; refine wpList_append_any _ rfl (.tmp 13) (.tmp 21) _ rfl w.heap.size 47 i0 _ 3 32 Tryz.underlying35 hi hz0 hz1 hz2 rfl (by omega) u3 k (edCells (es.take k)) rfl ((HO.out.alloc _).alloc _) (some ⟨wr.heap.size + 1, 0, none⟩) 1 1 (edAt es k).cells rfl (by have := cells_lit3' (wr.alloc (.cells #[.int .i64 (eS es k), .int .i64 (eE es k), .string (eN es k)] 46)) 47 es k; simpa using this) rfl (edCells1 _) (by unfold maxLen; omega) (by omega) (by simp; omega) ?_; intro A1 c1 w1 hown1 hg1 hat1)
      go_wp2
      go_roundw
      case rel => exact ⟨k + 1, by omega, by go_num, by rw [HT.out]; exact hown1, (((hb.alloc hb.size _).alloc (by simp; omega) _).grown hg1 (by simp; omega) (fun g hg => (HO.out.lt g hg).1))⟩
      case measure => simp [intOf]; omega
    · have hkn : k = n := by omega
      subst hkn
      go_wp2
      go_ret
      have e1 : es.take k = es := List.take_of_length_le (by rw [HL.out]; omega)
      rw [e1] at hown
      obtain ⟨A', c', hv⟩ := own_form hown
      subst hv
      exact ⟨A', c', rfl, hown, hb⟩
set_option maxHeartbeats 400000 in
/-- impl.told: the edits in new memory, the other way. -/
theorem told_any (A : Option Addr) (c : Nat) (es : List Ed) (w : World) (hr : EdsR w A es) (hl : es.length ≤ 20000000) :
   Calls Tryz.prog 13 #[.slice A es.length c] w fun e w' => ∃ A' c', e = .returned (.slice A' es.length c') ∧ w'.ownsRow w.heap.size 46 3 (.slice A' es.length c') es.length (edCells es) ∧ Below w.heap.size w w' := by
  have HR := Lib.hid hr; clear hr
  obtain ⟨n, hln⟩ : ∃ n, es.length = n := ⟨_, rfl⟩
  rw [hln] at hl ⊢
  have HL := Lib.hid hln; clear hln
  obtain ⟨i0, hi, hz0, hz1, hz2⟩ := info_parts infoE
  go_enter Tryz.func13, Tryz.ntmps13
  go_wp2
  go_loopw [3, 5, 9] (fun v _ i wr => ∃ k : Nat, k ≤ n ∧ i = .int .i64 k ∧ wr.ownsRow w.heap.size 46 3 v k (edCells (es.take k)) ∧ Below w.heap.size w wr) (fun _ _ i _ => n - (intOf i).toNat)
  case atStart => exact ⟨0, by omega, rfl, World.ownsRow_made w #[] 0 (Nat.le_refl _) (by simp [maxLen]) rfl, (Below.refl _ _).alloc (Nat.le_refl _) _⟩
  case round =>
    obtain ⟨k, hk, rfl, hown, hb⟩ := hrel
    by_cases hlt : k < n
    · obtain ⟨b, off, rfl, hbb, g1, g2, g3⟩ := (EdsR.below HR.out hb (Nat.le_refl _)).at_ (k := k) (by rw [HL.out]; exact hlt)
      have hbs := hb.size
      have ht := edTake es k (by rw [HL.out]; exact hlt)
      have HT := Lib.hid ht; clear ht
      have HO := Lib.hid hown; clear hown
      go_wp2_with (at_builtin; refine wpList_append_any _ rfl (.tmp 13) (.tmp 21) _ rfl w.heap.size 46 i0 _ 3 32 Tryz.underlying28 hi hz0 hz1 hz2 rfl (by omega) u3 k (edCells (es.take k)) rfl ((HO.out.alloc _).alloc _) (some ⟨wr.heap.size + 1, 0, none⟩) 1 1 (edAt es k).cells rfl (by have := cells_lit3' (wr.alloc (.cells #[.int .i64 (eS es k), .int .i64 (eE es k), .string (eN es k)] 47)) 46 es k; simpa using this) rfl (edCells1 _) (by unfold maxLen; omega) (by omega) (by simp; omega) ?_; intro A1 c1 w1 hown1 hg1 hat1)
      go_wp2
      go_roundw
      case rel => exact ⟨k + 1, by omega, by go_num, by rw [HT.out]; exact hown1, (((hb.alloc hb.size _).alloc (by simp; omega) _).grown hg1 (by simp; omega) (fun g hg => (HO.out.lt g hg).1))⟩
      case measure => simp [intOf]; omega
    · have hkn : k = n := by omega
      subst hkn
      go_wp2
      go_ret
      have e1 : es.take k = es := List.take_of_length_le (by rw [HL.out]; omega)
      rw [e1] at hown
      obtain ⟨A', c', hv⟩ := own_form hown
      subst hv
      exact ⟨A', c', rfl, hown, hb⟩

set_option maxHeartbeats 400000 in
/-- slices.Clone at the package's edits. -/
theorem clone_any (A : Option Addr) (c : Nat) (es : List Ed) (w : World) (hr : EdsR w A es) (hl : es.length ≤ 20000000) :
   Calls Tryz.prog 39 #[.slice A es.length c] w fun e w' => ∃ A' c', e = .returned (.slice A' es.length c') ∧ w'.ownsRow w.heap.size 47 3 (.slice A' es.length c') es.length (edCells es) ∧ Below w.heap.size w w' := by
  obtain ⟨i0, hi, hz0, hz1, hz2⟩ := info_parts infoD
  obtain ⟨n, hln⟩ : ∃ n, es.length = n := ⟨_, rfl⟩
  have hlen := edCells_length es
  have HLE := Lib.hid hlen; clear hlen
  rw [hln] at hl ⊢
  have HL := Lib.hid hln; clear hln
  have HR := Lib.hid hr; clear hr
  rcases A with _ | a
  · have h0 : edCells es = [] := by
      rcases HR.out with h | ⟨b, off, h, _⟩
      · exact h
      · cases h
    have hn : n = 0 := by have h1 := HLE.out; rw [h0, HL.out] at h1; simp at h1; omega
    subst hn
    have HE := Lib.hid h0; clear h0
    have hq := fun w => Lib.run_eql_slice_nil (P := Tryz.prog) w 35 47 none 0 c 0 0 Tryz.underlying35
    go_enter Tryz.func39, Tryz.ntmps39
    go_wp2
    go_ret
    exact ⟨none, 0, rfl, by rw [HE.out]; exact World.ownsRow_nil _ _ _ _, Below.refl _ _⟩
  · have hq := fun w => Lib.run_eql_slice_nil (P := Tryz.prog) w 35 47 (some a) n c 0 0 Tryz.underlying35
    go_enter Tryz.func39, Tryz.ntmps39
    go_wp2_with (at_builtin; refine wpList_append_any _ rfl (.tmp 5) (.tmp 6) _ rfl w.heap.size 47 i0 _ 3 32 Tryz.underlying35 hi hz0 hz1 hz2 rfl (by omega) (.slice (some ⟨w.heap.size, 0, none⟩) 0 0) 0 [] rfl (World.ownsRow_made w #[] 0 (Nat.le_refl _) (by simp [maxLen]) rfl) (some a) n c (edCells es) rfl (CellsR.alloc HR.out _) (by rw [HLE.out, HL.out]) (edCells_one es) (by unfold maxLen; omega) (by omega) (by simp) ?_; intro A1 c1 w1 hown1 hg1 hat1)
    go_ret
    simp only [Nat.zero_add, List.nil_append] at hown1 ⊢
    exact ⟨A1, c1, rfl, hown1, ((Below.refl _ _).alloc (Nat.le_refl _) _).grown hg1 (by simp) (by simp [Value.ownBlock])⟩
end Go.Proofs.YtgphjnhbheimiaaGreatDoor

namespace Go.Proofs.YtgphjnhbheimiaaGreatDoor
set_option linter.unusedVariables false
open Go.RowKit

def insideB (x : Ed) (size : Int) : Bool := decide (0 ≤ x.s ∧ x.s ≤ x.e ∧ x.e ≤ size)
def overlapB (x y : Ed) : Bool := decide (x.s < y.e ∧ y.s < x.e)
def beforeB (x y : Ed) : Bool := decide (x.s < y.s ∨ x.s = y.s ∧ x.e < y.e)



def edEqB (x y : Ed) : Bool := (x.s == y.s) && (x.e == y.e) && (x.n.toList == y.n.toList)
/-- two lists of edits are the same -/
def sameE : List Ed → List Ed → Bool
  | [], [] => true
  | x :: a, y :: b => edEqB x y && sameE a b
  | _, _ => false
theorem sameE_len {a b : List Ed} (h : a.length ≠ b.length) : sameE a b = false := by
  induction a generalizing b with
  | nil => cases b <;> simp [sameE] at *
  | cons x a ih => cases b with
    | nil => simp [sameE]
    | cons y b => simp [sameE, ih (b := b) (by simpa using h)]
theorem sameE_at {a b : List Ed} {k : Nat} (hk : k < a.length) (hk' : k < b.length) (h : edEqB (edAt a k) (edAt b k) = false) : sameE a b = false := by
  induction a generalizing b k with
  | nil => simp at hk
  | cons x a ih => cases b with
    | nil => simp at hk'
    | cons y b => cases k with
      | zero => simp [edAt] at h; simp [sameE, h]
      | succ k => simp [edAt] at h; simp [sameE, ih (b := b) (k := k) (by simpa using hk) (by simpa using hk') (by simpa [edAt] using h)]
theorem sameE_all {a b : List Ed} (hl : a.length = b.length) (h : ∀ k, k < a.length → edEqB (edAt a k) (edAt b k) = true) : sameE a b = true := by
  induction a generalizing b with
  | nil => cases b <;> simp [sameE] at *
  | cons x a ih => cases b with
    | nil => simp at hl
    | cons y b =>
      have h0 := h 0 (by simp)
      simp [edAt] at h0
      simp only [sameE, h0, Bool.true_and]
      exact ih (by simpa using hl) (fun k hk => by simpa [edAt] using h (k + 1) (by simpa using hk))


/-- edits stand in their order with a byte between -/
def apartF (size : Int) : Int → List Ed → Bool
  | _, [] => true
  | at_, x :: l => insideB x size && decide (at_ < x.s) && apartF size x.e l
theorem apartF_drop (size at_ : Int) (es : List Ed) (k : Nat) (h : k < es.length) :
    apartF size at_ (es.drop k) = (insideB (edAt es k) size && decide (at_ < eS es k) && apartF size (eE es k) (es.drop (k + 1))) := by
  rw [List.drop_eq_getElem_cons h]
  simp [apartF, edAt, eS, eE, h]


/-- edits stand in their order -/
def inOrderF (size : Int) : Int → List Ed → Bool
  | _, [] => true
  | at_, x :: l => insideB x size && decide (at_ ≤ x.s) && inOrderF size x.e l
theorem inOrderF_drop (size at_ : Int) (es : List Ed) (k : Nat) (h : k < es.length) :
    inOrderF size at_ (es.drop k) = (insideB (edAt es k) size && decide (at_ ≤ eS es k) && inOrderF size (eE es k) (es.drop (k + 1))) := by
  rw [List.drop_eq_getElem_cons h]
  simp [inOrderF, edAt, eS, eE, h]

end Go.Proofs.YtgphjnhbheimiaaGreatDoor

namespace Go.Proofs.YtgphjnhbheimiaaGreatDoor
set_option linter.unusedVariables false

/-- the text that edits make -/
def patchB (s : ByteArray) : Nat → List Ed → ByteArray
  | at_, [] => s.extract at_ s.size
  | at_, x :: l => s.extract at_ x.s.toNat ++ x.n ++ patchB s x.e.toNat l
theorem patchB_cons (s : ByteArray) (at_ : Nat) (x : Ed) (l : List Ed) : patchB s at_ (x :: l) = s.extract at_ x.s.toNat ++ x.n ++ patchB s x.e.toNat l := rfl
theorem inOrderF_cons {N at_ : Int} {x : Ed} {l : List Ed} (h : inOrderF N at_ (x :: l) = true) : 0 ≤ x.s ∧ x.s ≤ x.e ∧ x.e ≤ N ∧ at_ ≤ x.s ∧ inOrderF N x.e l = true := by
  simp only [inOrderF, insideB, Bool.and_eq_true, decide_eq_true_eq] at h
  exact ⟨h.1.1.1, h.1.1.2.1, h.1.1.2.2, h.1.2, h.2⟩
end Go.Proofs.YtgphjnhbheimiaaGreatDoor

namespace Go.Proofs.YtgphjnhbheimiaaGreatDoor
set_option linter.unusedVariables false
open Go.RowKit

def byteAt (s : ByteArray) (k : Nat) : Nat := (s.data.toList.getD k 0).toNat
theorem byteAt_get (s : ByteArray) (k : Nat) (h : k < s.size) : byteAt s k = (s[k]'h).toNat := by
  have h2 : k < s.data.toList.length := by simpa using h
  simp only [byteAt, List.getD_eq_getElem?_getD, List.getElem?_eq_getElem h2, Option.getD_some, Array.getElem_toList]
  rfl

theorem toList_eqB {a b : ByteArray} (h : a.toList = b.toList) : a = b := by
  rw [ByteArray.toList_eq, ByteArray.toList_eq] at h
  exact ByteArray.ext (Array.ext' h)
theorem strEq_true {a b : ByteArray} (h : a = b) : (a.toList == b.toList) = true := by subst h; simp
theorem strEq_false {a b : ByteArray} (h : ¬ a = b) : (a.toList == b.toList) = false := by
  cases hh : (a.toList == b.toList) with
  | false => rfl
  | true => exact absurd (toList_eqB (by simpa using hh)) h

/-- how many bytes texts have together -/
def totB : List ByteArray → Nat
  | [] => 0
  | x :: l => x.size + totB l
theorem totB_append (a b : List ByteArray) : totB (a ++ b) = totB a + totB b := by
  induction a with
  | nil => simp [totB]
  | cons x a ih => simp only [List.cons_append, totB, ih]; omega
/-- where each begins, and where the last one ends -/
def psums (L : List ByteArray) : List Int := (List.range (L.length + 1)).map fun j => (totB (L.take j) : Int)
theorem psums_nil : psums [] = [0] := rfl
theorem psums_len (L : List ByteArray) : (psums L).length = L.length + 1 := by simp [psums]
theorem psums_snoc (L : List ByteArray) (x : ByteArray) : psums (L ++ [x]) = psums L ++ [((totB L + x.size : Nat) : Int)] := by
  unfold psums
  rw [List.length_append, List.length_singleton, List.range_succ, List.map_append]
  congr 1
  · apply List.map_congr_left
    intro j hj
    rw [List.mem_range] at hj
    rw [List.take_append_of_le_length (by omega)]
  · simp [List.take_of_length_le, totB_append, totB]
theorem psums_ix (L : List ByteArray) (j : Nat) (h : j ≤ L.length) : ix (psums L) j = totB (L.take j) := by
  have h2 : j < L.length + 1 := by omega
  simp [ix, psums, h2]

/-- the whole lines that end ahead of a place, and where the next one begins -/
def lnTo (s : ByteArray) : Nat → List ByteArray × Nat
  | 0 => ([], 0)
  | k + 1 => if byteAt s k = 10 then ((lnTo s k).1 ++ [s.extract (lnTo s k).2 (k + 1)], k + 1) else lnTo s k
def lnL (s : ByteArray) (k : Nat) : List ByteArray := (lnTo s k).1
def lnF (s : ByteArray) (k : Nat) : Nat := (lnTo s k).2
def linesF (s : ByteArray) : List ByteArray := if lnF s s.size < s.size then lnL s s.size ++ [s.extract (lnF s s.size) s.size] else lnL s s.size

theorem lnL_zero (s : ByteArray) : lnL s 0 = [] := rfl
theorem lnF_zero (s : ByteArray) : lnF s 0 = 0 := rfl
theorem lnL_nl (s : ByteArray) (k : Nat) (h : byteAt s k = 10) : lnL s (k + 1) = lnL s k ++ [s.extract (lnF s k) (k + 1)] := by simp [lnL, lnF, lnTo, h]
theorem lnF_nl (s : ByteArray) (k : Nat) (h : byteAt s k = 10) : lnF s (k + 1) = k + 1 := by simp [lnF, lnTo, h]
theorem lnL_no (s : ByteArray) (k : Nat) (h : byteAt s k ≠ 10) : lnL s (k + 1) = lnL s k := by simp [lnL, lnTo, h]
theorem lnF_no (s : ByteArray) (k : Nat) (h : byteAt s k ≠ 10) : lnF s (k + 1) = lnF s k := by simp [lnF, lnTo, h]
theorem lnF_le (s : ByteArray) (k : Nat) : lnF s k ≤ k := by
  induction k with
  | zero => simp [lnF, lnTo]
  | succ k ih =>
    by_cases h : byteAt s k = 10
    · rw [lnF_nl s k h]; omega
    · rw [lnF_no s k h]; omega
theorem lnL_len (s : ByteArray) (k : Nat) : (lnL s k).length ≤ k := by
  induction k with
  | zero => simp [lnL, lnTo]
  | succ k ih =>
    by_cases h : byteAt s k = 10
    · rw [lnL_nl s k h]; simp; omega
    · rw [lnL_no s k h]; omega
theorem lnL_tot (s : ByteArray) (k : Nat) (hk : k ≤ s.size) : totB (lnL s k) = lnF s k := by
  induction k with
  | zero => rfl
  | succ k ih =>
    by_cases h : byteAt s k = 10
    · have := lnF_le s k
      rw [lnL_nl s k h, lnF_nl s k h, totB_append, ih (by omega)]
      simp only [totB, ByteArray.size_extract]
      omega
    · rw [lnL_no s k h, lnF_no s k h, ih (by omega)]
theorem linesF_len (s : ByteArray) : (linesF s).length ≤ s.size := by
  have h0 := lnL_len s s.size
  unfold linesF
  split
  · rename_i h
    have : (lnL s s.size).length ≤ lnF s s.size := by
      have key : ∀ k, (lnL s k).length ≤ lnF s k := by
        intro k
        induction k with
        | zero => simp [lnL, lnF, lnTo]
        | succ k ih =>
          by_cases h : byteAt s k = 10
          · have := lnF_le s k
            rw [lnL_nl s k h, lnF_nl s k h]; simp; omega
          · rw [lnL_no s k h, lnF_no s k h]; exact ih
      exact key _
    simp; omega
  · exact h0
theorem linesF_tot (s : ByteArray) : totB (linesF s) = s.size := by
  have h0 := lnL_tot s s.size (Nat.le_refl _)
  have h1 := lnF_le s s.size
  unfold linesF
  split
  · rw [totB_append, h0]
    simp only [totB, ByteArray.size_extract]
    omega
  · omega

/-- what a code point above 127 takes holds no line end -/
def NoNl (s : ByteArray) (pos : Nat) (r : Nat × Nat) : Prop := pos + r.2 ≤ s.size ∧ ∀ j, pos ≤ j → j < pos + r.2 → byteAt s j ≠ 10
def Cont (s : ByteArray) (pos k : Nat) : Prop := pos + k < s.size ∧ (s.get! (pos + k)).toNat / 64 = 2
section
variable {s : ByteArray} {pos x : Nat}
theorem Cont.no {k : Nat} (h : Cont s pos k) : byteAt s (pos + k) ≠ 10 := by
  have hg : (s.get! (pos + k)).toNat = byteAt s (pos + k) := by
    rw [byteAt_get s _ h.1]
    have := h.1
    simp [ByteArray.get!, getElem!_pos, this]
    rfl
  have := h.2
  omega
theorem noNl1 (h : pos < s.size) (ha : 128 ≤ byteAt s pos) : NoNl s pos (x, 1) :=
  ⟨h, fun j h1 h2 => by
    have : j = pos := by simp only at h2; omega
    subst this
    omega⟩
theorem noNl2 (ha : 128 ≤ byteAt s pos) (k1 : Cont s pos 1) : NoNl s pos (x, 2) :=
  ⟨by have := k1.1; show pos + 2 ≤ s.size; omega, fun j h1 h2 => by
    have : j = pos ∨ j = pos + 1 := by simp only at h2; omega
    rcases this with rfl | rfl
    · omega
    · exact k1.no⟩
theorem noNl3 (ha : 128 ≤ byteAt s pos) (k1 : Cont s pos 1) (k2 : Cont s pos 2) : NoNl s pos (x, 3) :=
  ⟨by have := k2.1; show pos + 3 ≤ s.size; omega, fun j h1 h2 => by
    have : j = pos ∨ j = pos + 1 ∨ j = pos + 2 := by simp only at h2; omega
    rcases this with rfl | rfl | rfl
    · omega
    · exact k1.no
    · exact k2.no⟩
theorem noNl4 (ha : 128 ≤ byteAt s pos) (k1 : Cont s pos 1) (k2 : Cont s pos 2) (k3 : Cont s pos 3) : NoNl s pos (x, 4) :=
  ⟨by have := k3.1; show pos + 4 ≤ s.size; omega, fun j h1 h2 => by
    have : j = pos ∨ j = pos + 1 ∨ j = pos + 2 ∨ j = pos + 3 := by simp only at h2; omega
    rcases this with rfl | rfl | rfl | rfl
    · omega
    · exact k1.no
    · exact k2.no
    · exact k3.no⟩
end
theorem decode_no_nl (s : ByteArray) (pos : Nat) (h : pos < s.size) (ha : 128 ≤ byteAt s pos) : NoNl s pos (Utf8.decode s pos) := by
  have hn : ¬ (s[pos]'h).toNat < 128 := by rw [byteAt_get s pos h] at ha; omega
  simp only [Utf8.decode, get_at s pos h, hn, if_false]
  split
  · rename_i hc
    simp only [Bool.and_eq_true, decide_eq_true_eq, beq_iff_eq] at hc
    split
    · exact noNl2 ha hc.2
    · exact noNl1 h ha
  · split
    · rename_i hc
      simp only [Bool.and_eq_true, decide_eq_true_eq, beq_iff_eq] at hc
      split
      · exact noNl3 ha hc.1.2 hc.2
      · exact noNl1 h ha
    · split
      · rename_i hc
        simp only [Bool.and_eq_true, decide_eq_true_eq, beq_iff_eq] at hc
        split
        · exact noNl4 ha hc.1.1.2 hc.1.2 hc.2
        · exact noNl1 h ha
      · exact noNl1 h ha
theorem ln_skip (s : ByteArray) (a b : Nat) (hab : a ≤ b) (h : ∀ j, a ≤ j → j < b → byteAt s j ≠ 10) : lnL s b = lnL s a ∧ lnF s b = lnF s a := by
  induction b with
  | zero => have : a = 0 := by omega
            subst this
            exact ⟨rfl, rfl⟩
  | succ b ih =>
    by_cases hb : a = b + 1
    · subst hb; exact ⟨rfl, rfl⟩
    · have := ih (by omega) (fun j h1 h2 => h j h1 (by omega))
      rw [lnL_no s b (h b (by omega) (by omega)), lnF_no s b (h b (by omega) (by omega))]
      exact this

/-- one step of a range over a text -/
theorem next_facts (s : ByteArray) (p : Nat) (h : p < s.size) :
    1 ≤ (Utf8.decode s p).2 ∧ p + (Utf8.decode s p).2 ≤ s.size ∧ (byteAt s p = 10 → (Utf8.decode s p).1 = 10 ∧ (Utf8.decode s p).2 = 1) ∧
    (byteAt s p ≠ 10 → (Utf8.decode s p).1 ≠ 10 ∧ lnL s (p + (Utf8.decode s p).2) = lnL s p ∧ lnF s (p + (Utf8.decode s p).2) = lnF s p) := by
  by_cases ha : byteAt s p < 128
  · have hd := decode_ascii s p h (by rw [byteAt_get s p h] at ha; exact ha)
    rw [← byteAt_get s p h] at hd
    rw [hd]
    refine ⟨Nat.le_refl _, by show p + 1 ≤ s.size; omega, fun e => ⟨e, rfl⟩, fun e => ⟨e, lnL_no s p e, lnF_no s p e⟩⟩
  · have h1 := decode_no_nl s p h (by omega)
    have h2 := decode_high s p h (by rw [byteAt_get s p h] at ha; omega)
    refine ⟨h2.2, h1.1, fun e => by omega, fun e => ⟨by omega, ?_⟩⟩
    exact ln_skip s p _ (by omega) h1.2

/-! ### slices of texts -/
def strCells (ss : List ByteArray) : List Value := ss.map Value.string
theorem strCells_append (a b : List ByteArray) : strCells (a ++ b) = strCells a ++ strCells b := by simp [strCells]
theorem strCells_len (a : List ByteArray) : (strCells a).length = a.length := by simp [strCells]
theorem strCells_one (ss : List ByteArray) : ∀ u ∈ strCells ss, u.oneCell' = true := by
  intro u hu
  simp only [strCells, List.mem_map] at hu
  obtain ⟨x, _, rfl⟩ := hu
  rfl
def sx (ss : List ByteArray) (k : Nat) : ByteArray := ss.getD k ByteArray.empty
def StrsR (w : World) (A : Option Addr) (ss : List ByteArray) : Prop := CellsR w A (strCells ss)
theorem StrsR.at_ {w : World} {A : Option Addr} {ss : List ByteArray} (h : StrsR w A ss) {k : Nat} (hk : k < ss.length) :
    ∃ b off, A = some ⟨b, off, none⟩ ∧ b < w.heap.size ∧ w.cell? ⟨b, off + k, none⟩ = some (.string (sx ss k)) := by
  have g1 : (strCells ss)[k]? = some (.string (sx ss k)) := by simp [strCells, sx, hk]
  rcases h with h | ⟨b, off, hA, hc⟩
  · rw [h] at g1; simp at g1
  · exact ⟨b, off, hA, World.block_lt_of_cell? _ _ (hc _ _ g1), hc _ _ g1⟩
theorem StrsR.below {w w' : World} {A : Option Addr} {ss : List ByteArray} {B : Nat} (h : StrsR w A ss) (hb : Below B w w') (hB : w.heap.size ≤ B) : StrsR w' A ss := CellsR.below h hb hB
theorem str_lit1 (w : World) (t : TypeId) (x : ByteArray) : StrsR (w.alloc (.cells #[.string x] t)) (some ⟨w.heap.size, 0, none⟩) [x] := by
  refine .inr ⟨_, _, rfl, fun j u hu => ?_⟩
  have := (Blk.new w t #[.string x]).cell (0 + j)
  rw [this]
  simpa [strCells] using hu
end Go.Proofs.YtgphjnhbheimiaaGreatDoor

namespace Go.Proofs.YtgphjnhbheimiaaGreatDoor
set_option linter.unusedVariables false
open Go.RowKit

/-- how far the merging is from its end -/
def mgMu : List Ed → List Ed → Nat
  | x :: xs, y :: ys => 2 * (xs.length + 1 + (ys.length + 1)) + (if x.s = y.s then 0 else 1)
  | xs, ys => 2 * (xs.length + ys.length)

theorem mgMu_le (xs ys : List Ed) : mgMu xs ys ≤ 2 * (xs.length + ys.length) + 1 := by
  cases xs with
  | nil => cases ys <;> simp [mgMu]
  | cons x xs => cases ys with
    | nil => simp [mgMu]
    | cons y ys => simp only [mgMu, List.length_cons]; split <;> omega
theorem mgMu_ge (xs ys : List Ed) : 2 * (xs.length + ys.length) ≤ mgMu xs ys := by
  cases xs with
  | nil => cases ys <;> simp [mgMu]
  | cons x xs => cases ys with
    | nil => simp [mgMu]
    | cons y ys => simp only [mgMu, List.length_cons]; split <;> omega

def mg : List Ed → List Ed → List Ed → Option (List Ed)
  | [], ys, acc => some (acc ++ ys)
  | xs, [], acc => some (acc ++ xs)
  | x :: xs, y :: ys, acc =>
    if edEqB x y = true then mg xs ys (acc ++ [x])
    else if x.e ≤ y.s then mg xs (y :: ys) (acc ++ [x])
    else if y.e ≤ x.s then mg (x :: xs) ys (acc ++ [y])
    else if x.s < y.s then mg (⟨y.s, x.e, x.n⟩ :: xs) (y :: ys) (acc ++ [⟨x.s, y.s, ⟨#[]⟩⟩])
    else if y.s < x.s then mg (x :: xs) (⟨x.s, y.e, y.n⟩ :: ys) (acc ++ [⟨y.s, x.s, ⟨#[]⟩⟩])
    else none
termination_by xs ys _ => mgMu xs ys
decreasing_by
  · have h1 := mgMu_le xs ys
    have h2 := mgMu_ge (x :: xs) (y :: ys)
    simp only [List.length_cons] at *
    omega
  · have h1 := mgMu_le xs (y :: ys)
    have h2 := mgMu_ge (x :: xs) (y :: ys)
    simp only [List.length_cons] at *
    omega
  · have h1 := mgMu_le (x :: xs) ys
    have h2 := mgMu_ge (x :: xs) (y :: ys)
    simp only [List.length_cons] at *
    omega
  · simp only [mgMu, if_true]; rw [if_neg (by omega)]; omega
  · simp only [mgMu, if_true]; rw [if_neg (by omega)]; omega

theorem mg_end (xs ys acc : List Ed) (h : xs = [] ∨ ys = []) : mg xs ys acc = some (acc ++ xs ++ ys) := by
  rcases h with rfl | rfl
  · unfold mg; simp
  · cases xs with
    | nil => unfold mg; simp
    | cons x xs => unfold mg; simp

theorem drop_cons_ed (es : List Ed) (k : Nat) (h : k < es.length) : es.drop k = edAt es k :: es.drop (k + 1) := by
  rw [List.drop_eq_getElem_cons h]
  simp [edAt, h]
theorem edAt_set (es : List Ed) (k : Nat) (x : Ed) (h : k < es.length) : edAt (es.set k x) k = x := by
  simp [edAt, h]
theorem drop_set_ed (es : List Ed) (k : Nat) (x : Ed) (h : k < es.length) : (es.set k x).drop k = x :: es.drop (k + 1) := by
  rw [drop_cons_ed _ _ (by simpa using h), edAt_set es k x h, List.drop_set_of_lt (by omega)]
theorem edCells_set (es : List Ed) (k : Nat) (u : Int) (h : k < es.length) : (edCells es).set (k * 3) (.int .i64 u) = edCells (es.set k ⟨u, eE es k, eN es k⟩) := by
  induction es generalizing k with
  | nil => simp at h
  | cons x l ih =>
    rw [edCells_cons]
    cases k with
    | zero => simp [Ed.cells, edCells_cons, eE, eN, edAt]
    | succ k =>
      have hl : x.cells.length = 3 := rfl
      rw [List.set_append_right _ _ (by omega), hl, show (k + 1) * 3 - 3 = k * 3 by omega, ih k (by simpa using h)]
      simp [edCells_cons, eE, eN, edAt]

/-- one step of the merging, at the heads that stand there -/
theorem mg_step {xs ys acc : List Ed} {x y : Ed} :
    mg (x :: xs) (y :: ys) acc =
    (if edEqB x y = true then mg xs ys (acc ++ [x])
    else if x.e ≤ y.s then mg xs (y :: ys) (acc ++ [x])
    else if y.e ≤ x.s then mg (x :: xs) ys (acc ++ [y])
    else if x.s < y.s then mg (⟨y.s, x.e, x.n⟩ :: xs) (y :: ys) (acc ++ [⟨x.s, y.s, ⟨#[]⟩⟩])
    else if y.s < x.s then mg (x :: xs) (⟨x.s, y.e, y.n⟩ :: ys) (acc ++ [⟨y.s, x.s, ⟨#[]⟩⟩])
    else none) := by
  conv => lhs; unfold mg

theorem mg_self_aux (xs acc : List Ed) : mg xs xs acc = some (acc ++ xs) := by
  induction xs generalizing acc with
  | nil => unfold mg; simp
  | cons x xs ih =>
    rw [mg_step, if_pos (by simp [edEqB]), ih]
    simp


section
variable {ex ey acc : List Ed} {xi yi : Nat}
theorem mg_eq (hx : xi < ex.length) (hy : yi < ey.length) (h : edEqB (edAt ex xi) (edAt ey yi) = true) :
    mg (ex.drop (xi + 1)) (ey.drop (yi + 1)) (acc ++ [edAt ex xi]) = mg (ex.drop xi) (ey.drop yi) acc ∧ 1 + mgMu (ex.drop (xi + 1)) (ey.drop (yi + 1)) ≤ mgMu (ex.drop xi) (ey.drop yi) := by
  constructor
  · rw [drop_cons_ed ex xi hx, drop_cons_ed ey yi hy, mg_step, if_pos h]
  · have h1 := mgMu_le (ex.drop (xi + 1)) (ey.drop (yi + 1))
    have h2 := mgMu_ge (ex.drop xi) (ey.drop yi)
    simp only [List.length_drop] at *
    omega
theorem mg_x (hx : xi < ex.length) (hy : yi < ey.length) (h : edEqB (edAt ex xi) (edAt ey yi) = false) (h2 : eE ex xi ≤ eS ey yi) :
    mg (ex.drop (xi + 1)) (ey.drop yi) (acc ++ [edAt ex xi]) = mg (ex.drop xi) (ey.drop yi) acc ∧ 1 + mgMu (ex.drop (xi + 1)) (ey.drop yi) ≤ mgMu (ex.drop xi) (ey.drop yi) := by
  simp only [eS, eE] at *
  constructor
  · rw [drop_cons_ed ex xi hx, drop_cons_ed ey yi hy, mg_step, if_neg (by simp [h]), if_pos h2]
  · have h1 := mgMu_le (ex.drop (xi + 1)) (ey.drop yi)
    have h2 := mgMu_ge (ex.drop xi) (ey.drop yi)
    simp only [List.length_drop] at *
    omega
theorem mg_y (hx : xi < ex.length) (hy : yi < ey.length) (h : edEqB (edAt ex xi) (edAt ey yi) = false) (h2 : ¬ eE ex xi ≤ eS ey yi) (h3 : eE ey yi ≤ eS ex xi) :
    mg (ex.drop xi) (ey.drop (yi + 1)) (acc ++ [edAt ey yi]) = mg (ex.drop xi) (ey.drop yi) acc ∧ 1 + mgMu (ex.drop xi) (ey.drop (yi + 1)) ≤ mgMu (ex.drop xi) (ey.drop yi) := by
  simp only [eS, eE] at *
  constructor
  · rw [drop_cons_ed ex xi hx, drop_cons_ed ey yi hy, mg_step, if_neg (by simp [h]), if_neg h2, if_pos h3]
  · have h1 := mgMu_le (ex.drop xi) (ey.drop (yi + 1))
    have h2 := mgMu_ge (ex.drop xi) (ey.drop yi)
    simp only [List.length_drop] at *
    omega
theorem mg_sx (hx : xi < ex.length) (hy : yi < ey.length) (h : edEqB (edAt ex xi) (edAt ey yi) = false) (h2 : ¬ eE ex xi ≤ eS ey yi) (h3 : ¬ eE ey yi ≤ eS ex xi) (h4 : eS ex xi < eS ey yi) :
    mg ((ex.set xi ⟨eS ey yi, eE ex xi, eN ex xi⟩).drop xi) (ey.drop yi) (acc ++ [⟨eS ex xi, eS ey yi, ⟨#[]⟩⟩]) = mg (ex.drop xi) (ey.drop yi) acc ∧
    1 + mgMu ((ex.set xi ⟨eS ey yi, eE ex xi, eN ex xi⟩).drop xi) (ey.drop yi) ≤ mgMu (ex.drop xi) (ey.drop yi) := by
  simp only [eS, eE, eN] at *
  rw [drop_set_ed _ _ _ hx, drop_cons_ed ex xi hx, drop_cons_ed ey yi hy]
  constructor
  · conv => rhs; rw [mg_step, if_neg (by simp [h]), if_neg h2, if_neg h3, if_pos h4]
  · simp only [mgMu]
    rw [if_pos trivial, if_neg (by omega)]
    omega
theorem mg_sy (hx : xi < ex.length) (hy : yi < ey.length) (h : edEqB (edAt ex xi) (edAt ey yi) = false) (h2 : ¬ eE ex xi ≤ eS ey yi) (h3 : ¬ eE ey yi ≤ eS ex xi) (h4 : ¬ eS ex xi < eS ey yi) (h5 : eS ey yi < eS ex xi) :
    mg (ex.drop xi) ((ey.set yi ⟨eS ex xi, eE ey yi, eN ey yi⟩).drop yi) (acc ++ [⟨eS ey yi, eS ex xi, ⟨#[]⟩⟩]) = mg (ex.drop xi) (ey.drop yi) acc ∧
    1 + mgMu (ex.drop xi) ((ey.set yi ⟨eS ex xi, eE ey yi, eN ey yi⟩).drop yi) ≤ mgMu (ex.drop xi) (ey.drop yi) := by
  simp only [eS, eE, eN] at *
  rw [drop_set_ed _ _ _ hy, drop_cons_ed ex xi hx, drop_cons_ed ey yi hy]
  constructor
  · conv => rhs; rw [mg_step, if_neg (by simp [h]), if_neg h2, if_neg h3, if_neg h4, if_pos h5]
  · simp only [mgMu]
    rw [if_pos trivial, if_neg (by omega)]
    omega
theorem mg_tx (hx : xi < ex.length) (hy : ey.length ≤ yi) :
    mg (ex.drop (xi + 1)) (ey.drop yi) (acc ++ [edAt ex xi]) = mg (ex.drop xi) (ey.drop yi) acc ∧ 1 + mgMu (ex.drop (xi + 1)) (ey.drop yi) ≤ mgMu (ex.drop xi) (ey.drop yi) := by
  rw [List.drop_of_length_le hy]
  constructor
  · rw [mg_end _ _ _ (.inr rfl), mg_end _ _ _ (.inr rfl), drop_cons_ed ex xi hx]
    simp
  · rw [drop_cons_ed ex xi hx]
    cases ex.drop (xi + 1) <;> simp [mgMu] <;> omega
theorem mg_ty (hx : ex.length ≤ xi) (hy : yi < ey.length) :
    mg (ex.drop xi) (ey.drop (yi + 1)) (acc ++ [edAt ey yi]) = mg (ex.drop xi) (ey.drop yi) acc ∧ 1 + mgMu (ex.drop xi) (ey.drop (yi + 1)) ≤ mgMu (ex.drop xi) (ey.drop yi) := by
  rw [List.drop_of_length_le hx]
  constructor
  · rw [mg_end _ _ _ (.inl rfl), mg_end _ _ _ (.inl rfl), drop_cons_ed ey yi hy]
    simp
  · rw [drop_cons_ed ey yi hy]
    cases ey.drop (yi + 1) <;> simp [mgMu] <;> omega
theorem mg_done (hx : ex.length ≤ xi) (hy : ey.length ≤ yi) : mg (ex.drop xi) (ey.drop yi) acc = some acc := by
  rw [List.drop_of_length_le hx, List.drop_of_length_le hy, mg_end _ _ _ (.inl rfl)]
  simp
theorem mg_no (hx : xi < ex.length) (hy : yi < ey.length) (h : edEqB (edAt ex xi) (edAt ey yi) = false) (h2 : ¬ eE ex xi ≤ eS ey yi) (h3 : ¬ eE ey yi ≤ eS ex xi) (h4 : ¬ eS ex xi < eS ey yi) (h5 : ¬ eS ey yi < eS ex xi) :
    mg (ex.drop xi) (ey.drop yi) acc = none := by
  simp only [eS, eE] at *
  rw [drop_cons_ed ex xi hx, drop_cons_ed ey yi hy, mg_step, if_neg (by simp [h]), if_neg h2, if_neg h3, if_neg h4, if_neg h5]
end

theorem mg_len (n : Nat) : ∀ (xs ys acc r : List Ed), mgMu xs ys ≤ n → mg xs ys acc = some r → r.length ≤ acc.length + mgMu xs ys := by
  induction n with
  | zero =>
    intro xs ys acc r hn h
    have h1 := mgMu_ge xs ys
    have hx : xs = [] := List.eq_nil_of_length_eq_zero (by omega)
    subst hx
    rw [mg_end _ _ _ (.inl rfl)] at h
    injection h with h
    subst h
    simp only [List.length_append, List.length_nil] at *
    omega
  | succ n ih =>
    intro xs ys acc r hn h
    cases xs with
    | nil =>
      have h1 := mgMu_ge [] ys
      rw [mg_end _ _ _ (.inl rfl)] at h
      injection h with h
      subst h
      simp only [List.length_append, List.length_nil] at *
      omega
    | cons x xs =>
      cases ys with
      | nil =>
        have h1 := mgMu_ge (x :: xs) []
        rw [mg_end _ _ _ (.inr rfl)] at h
        injection h with h
        subst h
        simp only [List.length_append, List.length_nil] at *
        omega
      | cons y ys =>
        have h1 := mgMu_ge (x :: xs) (y :: ys)
        rw [mg_step] at h
        split at h
        · have h2 := mgMu_le xs ys
          have := ih _ _ _ _ (by simp only [List.length_cons] at *; omega) h
          simp only [List.length_append, List.length_cons, List.length_nil] at *
          omega
        · split at h
          · have h2 := mgMu_le xs (y :: ys)
            have := ih _ _ _ _ (by simp only [List.length_cons] at *; omega) h
            simp only [List.length_append, List.length_cons, List.length_nil] at *
            omega
          · split at h
            · have h2 := mgMu_le (x :: xs) ys
              have := ih _ _ _ _ (by simp only [List.length_cons] at *; omega) h
              simp only [List.length_append, List.length_cons, List.length_nil] at *
              omega
            · split at h
              · have e1 : mgMu (⟨y.s, x.e, x.n⟩ :: xs) (y :: ys) + 1 ≤ mgMu (x :: xs) (y :: ys) := by
                  simp only [mgMu, if_true]
                  rw [if_neg (by omega)]
                  omega
                have := ih _ _ _ _ (by omega) h
                simp only [List.length_append, List.length_cons, List.length_nil] at *
                omega
              · split at h
                · have e1 : mgMu (x :: xs) (⟨x.s, y.e, y.n⟩ :: ys) + 1 ≤ mgMu (x :: xs) (y :: ys) := by
                    simp only [mgMu, if_true]
                    rw [if_neg (by omega)]
                    omega
                  have := ih _ _ _ _ (by omega) h
                  simp only [List.length_append, List.length_cons, List.length_nil] at *
                  omega
                · cases h

theorem mg_len' {xs ys r : List Ed} (h : mg xs ys [] = some r) : r.length ≤ 2 * (xs.length + ys.length) + 1 := by
  have h1 := mg_len _ xs ys [] r (Nat.le_refl _) h
  have h2 := mgMu_le xs ys
  simp only [List.length_nil] at h1
  omega

end Go.Proofs.YtgphjnhbheimiaaGreatDoor
