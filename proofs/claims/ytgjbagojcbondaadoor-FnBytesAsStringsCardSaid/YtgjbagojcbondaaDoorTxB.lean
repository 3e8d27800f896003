/-
  Copies of lists of edits: given, told, slices.Clone at the package's edits. Condition: at most 20000000 edits.
  The reference's small functions on edits: Inside, Overlap, Before, SameEdits, InOrder, Apart. Condition: at most 20000000 edits.
  The text that edits make, plainly. No condition.
  The lines of a text, plainly: no program in sight. No condition.
  Texts in pieces: what edits between pieces of two texts make, if the differences lead from one to the other. Plain theory, no condition.
  The lines of a text joined are the text; a part of a list of texts as a slice; rows of edits that are filled one by one. Plainly.
  Edits between lines: bounds, sums, one difference where nothing is alike. Plainly.
-/
import Derived.Test.YtgjbagojcbondaaDoorSmall
import Derived.WalkSpells
import Derived.Test.YtgjbagojcbondaaDoorPlain
import Derived.Laws.RangeAny
import Derived.Test.YtgjbagojcbondaaDoorLcsK
namespace Go.Proofs.YtgjbagojcbondaaDoor
set_option linter.unusedVariables false
open Go.RowKit

theorem infoE : (Tryd.prog.info? 36).map (fun i => (i.zero, i.size, i.bytes)) = some (some (.agg #[.int .i64 0, .int .i64 0, .string ⟨#[]⟩]), 3, 32) := by kernel_rfl
theorem infoD : (Tryd.prog.info? 38).map (fun i => (i.zero, i.size, i.bytes)) = some (some (.agg #[.int .i64 0, .int .i64 0, .string ⟨#[]⟩]), 3, 32) := by kernel_rfl

theorem cells_lit3 (w : World) (t : TypeId) (x : Ed) : CellsR (w.alloc (.cells #[.int .i64 x.s, .int .i64 x.e, .string x.n] t)) (some ⟨w.heap.size, 0, none⟩) x.cells := by
  refine .inr ⟨_, _, rfl, fun j u hu => ?_⟩
  have := (Blk.new w t #[.int .i64 x.s, .int .i64 x.e, .string x.n]).cell (0 + j)
  rw [this]
  simpa [Ed.cells] using hu
theorem cells_lit3' (w : World) (t : TypeId) (es : List Ed) (k : Nat) : CellsR (w.alloc (.cells #[.int .i64 (eS es k), .int .i64 (eE es k), .string (eN es k)] t)) (some ⟨w.heap.size, 0, none⟩) (edAt es k).cells :=
  cells_lit3 w t (edAt es k)
theorem edTake (es : List Ed) (k : Nat) (h : k < es.length) : edCells (es.take (k + 1)) = edCells (es.take k) ++ (edAt es k).cells := by
  rw [take_snoc_ed es k h, edCells_append]
  simp [edCells]
theorem edCells1 (x : Ed) : ∀ u ∈ x.cells, u.oneCell' = true := by
  intro u hu
  simp only [Ed.cells, List.mem_cons, List.not_mem_nil, or_false] at hu
  rcases hu with rfl | rfl | rfl <;> rfl

set_option maxHeartbeats 400000 in
/-- impl.told: the edits in new memory, the other way. -/
theorem told_any (A : Option Addr) (c : Nat) (es : List Ed) (w : World) (hr : EdsR w A es) (hl : es.length ≤ 20000000) :
   Calls Tryd.prog 10 #[.slice A es.length c] w fun e w' => ∃ A' c', e = .returned (.slice A' es.length c') ∧ w'.ownsRow w.heap.size 36 3 (.slice A' es.length c') es.length (edCells es) ∧ Below w.heap.size w w' := by
  have HR := Lib.hid hr; clear hr
  obtain ⟨n, hln⟩ : ∃ n, es.length = n := ⟨_, rfl⟩
  rw [hln] at hl ⊢
  have HL := Lib.hid hln; clear hln
  obtain ⟨i0, hi, hz0, hz1, hz2⟩ := info_parts infoE
  go_enter Tryd.func10, Tryd.ntmps10
  go_wp2
  go_loopw [3, 5, 9] (fun v _ i wr => ∃ k : Nat, k ≤ n ∧ i = .int .i64 k ∧ wr.ownsRow w.heap.size 36 3 v k (edCells (es.take k)) ∧ Below w.heap.size w wr) (fun _ _ i _ => n - (intOf i).toNat)
  case atStart => exact ⟨0, by omega, rfl, World.ownsRow_made w #[] 0 (Nat.le_refl _) (by simp [maxLen]) rfl, (Below.refl _ _).alloc (Nat.le_refl _) _⟩
  case round =>
    obtain ⟨k, hk, rfl, hown, hb⟩ := hrel
    by_cases hlt : k < n
    · obtain ⟨b, off, rfl, hbb, g1, g2, g3⟩ := (EdsR.below HR.out hb (Nat.le_refl _)).at_ (k := k) (by rw [HL.out]; exact hlt)
      have hbs := hb.size
      have ht := edTake es k (by rw [HL.out]; exact hlt)
      have HT := Lib.hid ht; clear ht
      have HO := Lib.hid hown; clear hown
      go_wp2_with (at_builtin; refine wpList_append_any _ rfl (.tmp 13) (.tmp 21) _ rfl w.heap.size 36 i0 _ 3 32 Tryd.underlying24 hi hz0 hz1 hz2 rfl (by omega) u3 k (edCells (es.take k)) rfl ((HO.out.alloc _).alloc _) (some ⟨wr.heap.size + 1, 0, none⟩) 1 1 (edAt es k).cells rfl (by have := cells_lit3' (wr.alloc (.cells #[.int .i64 (eS es k), .int .i64 (eE es k), .string (eN es k)] 38)) 36 es k; simpa using this) rfl (edCells1 _) (by unfold maxLen; omega) (by omega) (by simp; omega) ?_; intro A1 c1 w1 hown1 hg1 hat1)
      go_wp2
      go_roundw
      case rel => exact ⟨k + 1, by omega, by go_num, by rw [HT.out]; exact hown1, (((hb.alloc hb.size _).alloc (by simp; omega) _).grown hg1 (by simp; omega) (fun g hg => (HO.out.lt g hg).1))⟩
      case measure => simp [intOf]; omega
    · have hkn : k = n := by omega
      subst hkn
      go_wp2
      go_ret
      have e1 : es.take k = es := List.take_of_length_le (by rw [HL.out]; omega)
      rw [e1] at hown
      obtain ⟨A', c', hv⟩ := own_form hown
      subst hv
      exact ⟨A', c', rfl, hown, hb⟩

end Go.Proofs.YtgjbagojcbondaaDoor

namespace Go.Proofs.YtgjbagojcbondaaDoor
set_option linter.unusedVariables false
open Go.RowKit

def insideB (x : Ed) (size : Int) : Bool := decide (0 ≤ x.s ∧ x.s ≤ x.e ∧ x.e ≤ size)
def overlapB (x y : Ed) : Bool := decide (x.s < y.e ∧ y.s < x.e)
def beforeB (x y : Ed) : Bool := decide (x.s < y.s ∨ x.s = y.s ∧ x.e < y.e)



def edEqB (x y : Ed) : Bool := (x.s == y.s) && (x.e == y.e) && (x.n.toList == y.n.toList)
/-- two lists of edits are the same -/
def sameE : List Ed → List Ed → Bool
  | [], [] => true
  | x :: a, y :: b => edEqB x y && sameE a b
  | _, _ => false
theorem sameE_len {a b : List Ed} (h : a.length ≠ b.length) : sameE a b = false := by
  induction a generalizing b with
  | nil => cases b <;> simp [sameE] at *
  | cons x a ih => cases b with
    | nil => simp [sameE]
    | cons y b => simp [sameE, ih (b := b) (by simpa using h)]
theorem sameE_at {a b : List Ed} {k : Nat} (hk : k < a.length) (hk' : k < b.length) (h : edEqB (edAt a k) (edAt b k) = false) : sameE a b = false := by
  induction a generalizing b k with
  | nil => simp at hk
  | cons x a ih => cases b with
    | nil => simp at hk'
    | cons y b => cases k with
      | zero => simp [edAt] at h; simp [sameE, h]
      | succ k => simp [edAt] at h; simp [sameE, ih (b := b) (k := k) (by simpa using hk) (by simpa using hk') (by simpa [edAt] using h)]
theorem sameE_all {a b : List Ed} (hl : a.length = b.length) (h : ∀ k, k < a.length → edEqB (edAt a k) (edAt b k) = true) : sameE a b = true := by
  induction a generalizing b with
  | nil => cases b <;> simp [sameE] at *
  | cons x a ih => cases b with
    | nil => simp at hl
    | cons y b =>
      have h0 := h 0 (by simp)
      simp [edAt] at h0
      simp only [sameE, h0, Bool.true_and]
      exact ih (by simpa using hl) (fun k hk => by simpa [edAt] using h (k + 1) (by simpa using hk))

set_option maxHeartbeats 400000 in
/-- spec.SameEdits -/
theorem sameEdits_any (A B : Option Addr) (c d : Nat) (xs ys : List Ed) (w : World) (hx : EdsR w A xs) (hy : EdsR w B ys) (hl : xs.length ≤ 20000000) (hm : ys.length ≤ 20000000) :
   Calls Tryd.prog 8 #[.slice A xs.length c, .slice B ys.length d] w fun e w' => e = .returned (.bool (sameE xs ys)) ∧ ∃ n, w' = w.drewN n := by
  have HX := Lib.hid hx; clear hx
  have HY := Lib.hid hy; clear hy
  obtain ⟨n, hln⟩ : ∃ n, xs.length = n := ⟨_, rfl⟩
  obtain ⟨m, hlm⟩ : ∃ n, ys.length = n := ⟨_, rfl⟩
  rw [hln] at hl ⊢
  rw [hlm] at hm ⊢
  have LX := Lib.hid hln; clear hln
  have LY := Lib.hid hlm; clear hlm
  by_cases heq : n = m
  · subst heq
    go_enter Tryd.func8, Tryd.ntmps8
    go_wp2
    go_loopw [5, 13] (fun v i wr => ∃ k q : Nat, k ≤ n ∧ i = .int .i64 k ∧ (∀ j, j < k → edEqB (edAt xs j) (edAt ys j) = true) ∧ wr = w.drewN q) (fun _ i _ => n - (intOf i).toNat)
    case atStart => exact ⟨0, 0, by omega, rfl, by intro j hj; omega, rfl⟩
    case round =>
      obtain ⟨k, q, hk, rfl, hall, rfl⟩ := hrel
      have HA := Lib.hid hall; clear hall
      by_cases hlt : k < n
      · obtain ⟨b, off, rfl, hbb, g1, g2, g3⟩ := HX.out.at_ (k := k) (by rw [LX.out]; exact hlt)
        obtain ⟨b', off', rfl, hbb', g1', g2', g3'⟩ := HY.out.at_ (k := k) (by rw [LY.out]; exact hlt)
        by_cases hs : eS xs k = eS ys k
        · have hs' : (eS xs k == eS ys k) = true := by simp [hs]
          have HS := Lib.hid hs; clear hs
          by_cases he : eE xs k = eE ys k
          · have he' : (eE xs k == eE ys k) = true := by simp [he]
            have HE := Lib.hid he; clear he
            by_cases ht : (eN xs k).toList = (eN ys k).toList
            · have ht' : ((eN xs k).toList == (eN ys k).toList) = true := by simp [ht]
              have HT := Lib.hid ht; clear ht
              go_wp2
              go_quiet (fail)
              go_wp2
              go_roundw
              case rel => exact ⟨k + 1, _, by omega, by go_num, fun j hj => by
                  by_cases hjk : j = k
                  · subst hjk
                    have h1 := HS.out; have h2 := HE.out; have h3 := HT.out
                    simp only [eS, eE, eN] at h1 h2 h3
                    simp [edEqB, h1, h2, h3]
                  · exact HA.out j (by omega), rfl⟩
              case measure => simp [intOf]; omega
            · have ht' : ((eN xs k).toList == (eN ys k).toList) = false := by simp [ht]
              have HT := Lib.hid ht; clear ht
              go_wp2
              go_quiet (fail)
              go_wp2
              go_ret
              exact ⟨ret_bool (sameE_at (k := k) (by rw [LX.out]; omega) (by rw [LY.out]; omega) (by have := HT.out; simp only [eN] at this; simp [edEqB, this])).symm, _, World.drewN_drewN _ _ _⟩
          · have he' : (eE xs k == eE ys k) = false := by simp [he]
            have HE := Lib.hid he; clear he
            go_wp2
            go_quiet (fail)
            go_wp2
            go_ret
            exact ⟨ret_bool (sameE_at (k := k) (by rw [LX.out]; omega) (by rw [LY.out]; omega) (by have := HE.out; simp only [eE] at this; simp [edEqB, this])).symm, _, World.drewN_drewN _ _ _⟩
        · have hs' : (eS xs k == eS ys k) = false := by simp [hs]
          have HS := Lib.hid hs; clear hs
          go_wp2
          go_quiet (fail)
          go_wp2
          go_ret
          exact ⟨ret_bool (sameE_at (k := k) (by rw [LX.out]; omega) (by rw [LY.out]; omega) (by have := HS.out; simp only [eS] at this; simp [edEqB, this])).symm, _, World.drewN_drewN _ _ _⟩
      · go_wp2
        go_ret
        exact ⟨ret_bool (sameE_all (by rw [LX.out, LY.out]) (fun j hj => HA.out j (by rw [LX.out] at hj; omega))).symm, _, rfl⟩
  · have hne : ((n : Int) == m) = false := by simp; omega
    have hne' : ((n : Int) != m) = true := by simp; omega
    have HE := Lib.hid heq; clear heq
    go_enter Tryd.func8, Tryd.ntmps8
    go_wp2
    go_ret
    exact ⟨ret_bool (sameE_len (by rw [LX.out, LY.out]; exact HE.out)).symm, 0, rfl⟩

/-- edits stand in their order with a byte between -/
def apartF (size : Int) : Int → List Ed → Bool
  | _, [] => true
  | at_, x :: l => insideB x size && decide (at_ < x.s) && apartF size x.e l
theorem apartF_drop (size at_ : Int) (es : List Ed) (k : Nat) (h : k < es.length) :
    apartF size at_ (es.drop k) = (insideB (edAt es k) size && decide (at_ < eS es k) && apartF size (eE es k) (es.drop (k + 1))) := by
  rw [List.drop_eq_getElem_cons h]
  simp [apartF, edAt, eS, eE, h]


/-- edits stand in their order -/
def inOrderF (size : Int) : Int → List Ed → Bool
  | _, [] => true
  | at_, x :: l => insideB x size && decide (at_ ≤ x.s) && inOrderF size x.e l
theorem inOrderF_drop (size at_ : Int) (es : List Ed) (k : Nat) (h : k < es.length) :
    inOrderF size at_ (es.drop k) = (insideB (edAt es k) size && decide (at_ ≤ eS es k) && inOrderF size (eE es k) (es.drop (k + 1))) := by
  rw [List.drop_eq_getElem_cons h]
  simp [inOrderF, edAt, eS, eE, h]

end Go.Proofs.YtgjbagojcbondaaDoor

namespace Go.Proofs.YtgjbagojcbondaaDoor
set_option linter.unusedVariables false

/-- the text that edits make -/
def patchB (s : ByteArray) : Nat → List Ed → ByteArray
  | at_, [] => s.extract at_ s.size
  | at_, x :: l => s.extract at_ x.s.toNat ++ x.n ++ patchB s x.e.toNat l
theorem patchB_cons (s : ByteArray) (at_ : Nat) (x : Ed) (l : List Ed) : patchB s at_ (x :: l) = s.extract at_ x.s.toNat ++ x.n ++ patchB s x.e.toNat l := rfl
theorem inOrderF_cons {N at_ : Int} {x : Ed} {l : List Ed} (h : inOrderF N at_ (x :: l) = true) : 0 ≤ x.s ∧ x.s ≤ x.e ∧ x.e ≤ N ∧ at_ ≤ x.s ∧ inOrderF N x.e l = true := by
  simp only [inOrderF, insideB, Bool.and_eq_true, decide_eq_true_eq] at h
  exact ⟨h.1.1.1, h.1.1.2.1, h.1.1.2.2, h.1.2, h.2⟩
end Go.Proofs.YtgjbagojcbondaaDoor

namespace Go.Proofs.YtgjbagojcbondaaDoor
set_option linter.unusedVariables false
open Go.RowKit

def byteAt (s : ByteArray) (k : Nat) : Nat := (s.data.toList.getD k 0).toNat
theorem byteAt_get (s : ByteArray) (k : Nat) (h : k < s.size) : byteAt s k = (s[k]'h).toNat := by
  have h2 : k < s.data.toList.length := by simpa using h
  simp only [byteAt, List.getD_eq_getElem?_getD, List.getElem?_eq_getElem h2, Option.getD_some, Array.getElem_toList]
  rfl

theorem toList_eqB {a b : ByteArray} (h : a.toList = b.toList) : a = b := by
  rw [ByteArray.toList_eq, ByteArray.toList_eq] at h
  exact ByteArray.ext (Array.ext' h)
theorem strEq_true {a b : ByteArray} (h : a = b) : (a.toList == b.toList) = true := by subst h; simp
theorem strEq_false {a b : ByteArray} (h : ¬ a = b) : (a.toList == b.toList) = false := by
  cases hh : (a.toList == b.toList) with
  | false => rfl
  | true => exact absurd (toList_eqB (by simpa using hh)) h

/-- how many bytes texts have together -/
def totB : List ByteArray → Nat
  | [] => 0
  | x :: l => x.size + totB l
theorem totB_append (a b : List ByteArray) : totB (a ++ b) = totB a + totB b := by
  induction a with
  | nil => simp [totB]
  | cons x a ih => simp only [List.cons_append, totB, ih]; omega
/-- where each begins, and where the last one ends -/
def psums (L : List ByteArray) : List Int := (List.range (L.length + 1)).map fun j => (totB (L.take j) : Int)
theorem psums_nil : psums [] = [0] := rfl
theorem psums_len (L : List ByteArray) : (psums L).length = L.length + 1 := by simp [psums]
theorem psums_snoc (L : List ByteArray) (x : ByteArray) : psums (L ++ [x]) = psums L ++ [((totB L + x.size : Nat) : Int)] := by
  unfold psums
  rw [List.length_append, List.length_singleton, List.range_succ, List.map_append]
  congr 1
  · apply List.map_congr_left
    intro j hj
    rw [List.mem_range] at hj
    rw [List.take_append_of_le_length (by omega)]
  · simp [List.take_of_length_le, totB_append, totB]
theorem psums_ix (L : List ByteArray) (j : Nat) (h : j ≤ L.length) : ix (psums L) j = totB (L.take j) := by
  have h2 : j < L.length + 1 := by omega
  simp [ix, psums, h2]

/-- the whole lines that end ahead of a place, and where the next one begins -/
def lnTo (s : ByteArray) : Nat → List ByteArray × Nat
  | 0 => ([], 0)
  | k + 1 => if byteAt s k = 10 then ((lnTo s k).1 ++ [s.extract (lnTo s k).2 (k + 1)], k + 1) else lnTo s k
def lnL (s : ByteArray) (k : Nat) : List ByteArray := (lnTo s k).1
def lnF (s : ByteArray) (k : Nat) : Nat := (lnTo s k).2
def linesF (s : ByteArray) : List ByteArray := if lnF s s.size < s.size then lnL s s.size ++ [s.extract (lnF s s.size) s.size] else lnL s s.size

theorem lnL_zero (s : ByteArray) : lnL s 0 = [] := rfl
theorem lnF_zero (s : ByteArray) : lnF s 0 = 0 := rfl
theorem lnL_nl (s : ByteArray) (k : Nat) (h : byteAt s k = 10) : lnL s (k + 1) = lnL s k ++ [s.extract (lnF s k) (k + 1)] := by simp [lnL, lnF, lnTo, h]
theorem lnF_nl (s : ByteArray) (k : Nat) (h : byteAt s k = 10) : lnF s (k + 1) = k + 1 := by simp [lnF, lnTo, h]
theorem lnL_no (s : ByteArray) (k : Nat) (h : byteAt s k ≠ 10) : lnL s (k + 1) = lnL s k := by simp [lnL, lnTo, h]
theorem lnF_no (s : ByteArray) (k : Nat) (h : byteAt s k ≠ 10) : lnF s (k + 1) = lnF s k := by simp [lnF, lnTo, h]
theorem lnF_le (s : ByteArray) (k : Nat) : lnF s k ≤ k := by
  induction k with
  | zero => simp [lnF, lnTo]
  | succ k ih =>
    by_cases h : byteAt s k = 10
    · rw [lnF_nl s k h]; omega
    · rw [lnF_no s k h]; omega
theorem lnL_len (s : ByteArray) (k : Nat) : (lnL s k).length ≤ k := by
  induction k with
  | zero => simp [lnL, lnTo]
  | succ k ih =>
    by_cases h : byteAt s k = 10
    · rw [lnL_nl s k h]; simp; omega
    · rw [lnL_no s k h]; omega
theorem lnL_tot (s : ByteArray) (k : Nat) (hk : k ≤ s.size) : totB (lnL s k) = lnF s k := by
  induction k with
  | zero => rfl
  | succ k ih =>
    by_cases h : byteAt s k = 10
    · have := lnF_le s k
      rw [lnL_nl s k h, lnF_nl s k h, totB_append, ih (by omega)]
      simp only [totB, ByteArray.size_extract]
      omega
    · rw [lnL_no s k h, lnF_no s k h, ih (by omega)]
theorem linesF_len (s : ByteArray) : (linesF s).length ≤ s.size := by
  have h0 := lnL_len s s.size
  unfold linesF
  split
  · rename_i h
    have : (lnL s s.size).length ≤ lnF s s.size := by
      have key : ∀ k, (lnL s k).length ≤ lnF s k := by
        intro k
        induction k with
        | zero => simp [lnL, lnF, lnTo]
        | succ k ih =>
          by_cases h : byteAt s k = 10
          · have := lnF_le s k
            rw [lnL_nl s k h, lnF_nl s k h]; simp; omega
          · rw [lnL_no s k h, lnF_no s k h]; exact ih
      exact key _
    simp; omega
  · exact h0
theorem linesF_tot (s : ByteArray) : totB (linesF s) = s.size := by
  have h0 := lnL_tot s s.size (Nat.le_refl _)
  have h1 := lnF_le s s.size
  unfold linesF
  split
  · rw [totB_append, h0]
    simp only [totB, ByteArray.size_extract]
    omega
  · omega

/-- what a code point above 127 takes holds no line end -/
def NoNl (s : ByteArray) (pos : Nat) (r : Nat × Nat) : Prop := pos + r.2 ≤ s.size ∧ ∀ j, pos ≤ j → j < pos + r.2 → byteAt s j ≠ 10
def Cont (s : ByteArray) (pos k : Nat) : Prop := pos + k < s.size ∧ (s.get! (pos + k)).toNat / 64 = 2
section
variable {s : ByteArray} {pos x : Nat}
theorem Cont.no {k : Nat} (h : Cont s pos k) : byteAt s (pos + k) ≠ 10 := by
  have hg : (s.get! (pos + k)).toNat = byteAt s (pos + k) := by
    rw [byteAt_get s _ h.1]
    have := h.1
    simp [ByteArray.get!, getElem!_pos, this]
    rfl
  have := h.2
  omega
theorem noNl1 (h : pos < s.size) (ha : 128 ≤ byteAt s pos) : NoNl s pos (x, 1) :=
  ⟨h, fun j h1 h2 => by
    have : j = pos := by simp only at h2; omega
    subst this
    omega⟩
theorem noNl2 (ha : 128 ≤ byteAt s pos) (k1 : Cont s pos 1) : NoNl s pos (x, 2) :=
  ⟨by have := k1.1; show pos + 2 ≤ s.size; omega, fun j h1 h2 => by
    have : j = pos ∨ j = pos + 1 := by simp only at h2; omega
    rcases this with rfl | rfl
    · omega
    · exact k1.no⟩
theorem noNl3 (ha : 128 ≤ byteAt s pos) (k1 : Cont s pos 1) (k2 : Cont s pos 2) : NoNl s pos (x, 3) :=
  ⟨by have := k2.1; show pos + 3 ≤ s.size; omega, fun j h1 h2 => by
    have : j = pos ∨ j = pos + 1 ∨ j = pos + 2 := by simp only at h2; omega
    rcases this with rfl | rfl | rfl
    · omega
    · exact k1.no
    · exact k2.no⟩
theorem noNl4 (ha : 128 ≤ byteAt s pos) (k1 : Cont s pos 1) (k2 : Cont s pos 2) (k3 : Cont s pos 3) : NoNl s pos (x, 4) :=
  ⟨by have := k3.1; show pos + 4 ≤ s.size; omega, fun j h1 h2 => by
    have : j = pos ∨ j = pos + 1 ∨ j = pos + 2 ∨ j = pos + 3 := by simp only at h2; omega
    rcases this with rfl | rfl | rfl | rfl
    · omega
    · exact k1.no
    · exact k2.no
    · exact k3.no⟩
end
theorem decode_no_nl (s : ByteArray) (pos : Nat) (h : pos < s.size) (ha : 128 ≤ byteAt s pos) : NoNl s pos (Utf8.decode s pos) := by
  have hn : ¬ (s[pos]'h).toNat < 128 := by rw [byteAt_get s pos h] at ha; omega
  simp only [Utf8.decode, get_at s pos h, hn, if_false]
  split
  · rename_i hc
    simp only [Bool.and_eq_true, decide_eq_true_eq, beq_iff_eq] at hc
    split
    · exact noNl2 ha hc.2
    · exact noNl1 h ha
  · split
    · rename_i hc
      simp only [Bool.and_eq_true, decide_eq_true_eq, beq_iff_eq] at hc
      split
      · exact noNl3 ha hc.1.2 hc.2
      · exact noNl1 h ha
    · split
      · rename_i hc
        simp only [Bool.and_eq_true, decide_eq_true_eq, beq_iff_eq] at hc
        split
        · exact noNl4 ha hc.1.1.2 hc.1.2 hc.2
        · exact noNl1 h ha
      · exact noNl1 h ha
theorem ln_skip (s : ByteArray) (a b : Nat) (hab : a ≤ b) (h : ∀ j, a ≤ j → j < b → byteAt s j ≠ 10) : lnL s b = lnL s a ∧ lnF s b = lnF s a := by
  induction b with
  | zero => have : a = 0 := by omega
            subst this
            exact ⟨rfl, rfl⟩
  | succ b ih =>
    by_cases hb : a = b + 1
    · subst hb; exact ⟨rfl, rfl⟩
    · have := ih (by omega) (fun j h1 h2 => h j h1 (by omega))
      rw [lnL_no s b (h b (by omega) (by omega)), lnF_no s b (h b (by omega) (by omega))]
      exact this

/-- one step of a range over a text -/
theorem next_facts (s : ByteArray) (p : Nat) (h : p < s.size) :
    1 ≤ (Utf8.decode s p).2 ∧ p + (Utf8.decode s p).2 ≤ s.size ∧ (byteAt s p = 10 → (Utf8.decode s p).1 = 10 ∧ (Utf8.decode s p).2 = 1) ∧
    (byteAt s p ≠ 10 → (Utf8.decode s p).1 ≠ 10 ∧ lnL s (p + (Utf8.decode s p).2) = lnL s p ∧ lnF s (p + (Utf8.decode s p).2) = lnF s p) := by
  by_cases ha : byteAt s p < 128
  · have hd := decode_ascii s p h (by rw [byteAt_get s p h] at ha; exact ha)
    rw [← byteAt_get s p h] at hd
    rw [hd]
    refine ⟨Nat.le_refl _, by show p + 1 ≤ s.size; omega, fun e => ⟨e, rfl⟩, fun e => ⟨e, lnL_no s p e, lnF_no s p e⟩⟩
  · have h1 := decode_no_nl s p h (by omega)
    have h2 := decode_high s p h (by rw [byteAt_get s p h] at ha; omega)
    refine ⟨h2.2, h1.1, fun e => by omega, fun e => ⟨by omega, ?_⟩⟩
    exact ln_skip s p _ (by omega) h1.2

/-! ### slices of texts -/
def strCells (ss : List ByteArray) : List Value := ss.map Value.string
theorem strCells_append (a b : List ByteArray) : strCells (a ++ b) = strCells a ++ strCells b := by simp [strCells]
theorem strCells_len (a : List ByteArray) : (strCells a).length = a.length := by simp [strCells]
theorem strCells_one (ss : List ByteArray) : ∀ u ∈ strCells ss, u.oneCell' = true := by
  intro u hu
  simp only [strCells, List.mem_map] at hu
  obtain ⟨x, _, rfl⟩ := hu
  rfl
def sx (ss : List ByteArray) (k : Nat) : ByteArray := ss.getD k ByteArray.empty
def StrsR (w : World) (A : Option Addr) (ss : List ByteArray) : Prop := CellsR w A (strCells ss)
theorem StrsR.at_ {w : World} {A : Option Addr} {ss : List ByteArray} (h : StrsR w A ss) {k : Nat} (hk : k < ss.length) :
    ∃ b off, A = some ⟨b, off, none⟩ ∧ b < w.heap.size ∧ w.cell? ⟨b, off + k, none⟩ = some (.string (sx ss k)) := by
  have g1 : (strCells ss)[k]? = some (.string (sx ss k)) := by simp [strCells, sx, hk]
  rcases h with h | ⟨b, off, hA, hc⟩
  · rw [h] at g1; simp at g1
  · exact ⟨b, off, hA, World.block_lt_of_cell? _ _ (hc _ _ g1), hc _ _ g1⟩
theorem StrsR.below {w w' : World} {A : Option Addr} {ss : List ByteArray} {B : Nat} (h : StrsR w A ss) (hb : Below B w w') (hB : w.heap.size ≤ B) : StrsR w' A ss := CellsR.below h hb hB
theorem str_lit1 (w : World) (t : TypeId) (x : ByteArray) : StrsR (w.alloc (.cells #[.string x] t)) (some ⟨w.heap.size, 0, none⟩) [x] := by
  refine .inr ⟨_, _, rfl, fun j u hu => ?_⟩
  have := (Blk.new w t #[.string x]).cell (0 + j)
  rw [this]
  simpa [strCells] using hu
end Go.Proofs.YtgjbagojcbondaaDoor

namespace Go.Proofs.YtgjbagojcbondaaDoor
set_option linter.unusedVariables false

/-- texts joined -/
def joinB : List ByteArray → ByteArray
  | [] => ByteArray.empty
  | x :: l => x ++ joinB l
theorem joinB_append (a b : List ByteArray) : joinB (a ++ b) = joinB a ++ joinB b := by
  induction a with
  | nil => simp [joinB]
  | cons x a ih => simp only [List.cons_append, joinB, ih, ByteArray.append_assoc]
theorem joinB_size (L : List ByteArray) : (joinB L).size = totB L := by
  induction L with
  | nil => rfl
  | cons x l ih => simp only [joinB, totB, ByteArray.size_append, ih]
theorem cut3 (X Y Z : ByteArray) : (X ++ Y ++ Z).extract X.size (X.size + Y.size) = Y := by
  rw [ByteArray.append_assoc, ByteArray.extract_append, ByteArray.extract_eq_empty_iff.2 (by omega), ByteArray.empty_append, Nat.sub_self, Nat.add_sub_cancel_left]
  exact ByteArray.extract_append_eq_left rfl
theorem totB_take_le (L : List ByteArray) {a b : Nat} (h : a ≤ b) : totB (L.take a) ≤ totB (L.take b) := by
  have : L.take b = L.take a ++ (L.drop a).take (b - a) := by
    rw [← List.take_append_drop a (L.take b), List.take_take, Nat.min_eq_left h, List.drop_take]
  rw [this, totB_append]
  omega
theorem totB_take_all (L : List ByteArray) (a : Nat) : totB (L.take a) ≤ totB L := by
  have := totB_append (L.take a) (L.drop a)
  rw [List.take_append_drop] at this
  omega
theorem joinB_cut (L : List ByteArray) {a b : Nat} (h : a ≤ b) : (joinB L).extract (totB (L.take a)) (totB (L.take b)) = joinB ((L.drop a).take (b - a)) := by
  have e1 : L.take b = L.take a ++ (L.drop a).take (b - a) := by
    rw [← List.take_append_drop a (L.take b), List.take_take, Nat.min_eq_left h, List.drop_take]
  have e2 : joinB L = joinB (L.take a) ++ joinB ((L.drop a).take (b - a)) ++ joinB (L.drop b) := by
    rw [← joinB_append, ← joinB_append, ← e1, List.take_append_drop]
  rw [e2, e1, totB_append, ← joinB_size, ← joinB_size, cut3]
theorem joinB_tail (L : List ByteArray) (a : Nat) : (joinB L).extract (totB (L.take a)) (joinB L).size = joinB (L.drop a) := by
  have h := joinB_cut L (a := min a L.length) (b := L.length) (by omega)
  rw [List.take_length, ← joinB_size L] at h
  rw [← List.take_take, List.take_length] at h
  rw [h]
  congr 1
  rw [List.take_of_length_le (by simp)]
  rcases Nat.le_total a L.length with h1 | h1
  · rw [Nat.min_eq_left h1]
  · rw [Nat.min_eq_right h1, List.drop_length, List.drop_of_length_le h1]

/-- edits out of differences of pieces -/
def edsOf (P Q : List ByteArray) (ds : List Df) : List Ed := ds.map fun d => ⟨(totB (P.take d.s) : Nat), (totB (P.take d.e) : Nat), joinB ((Q.drop d.rs).take (d.re - d.rs))⟩
theorem seg_eq {P Q : List ByteArray} {a b n : Nat} (h1 : a + n ≤ P.length) (h2 : b + n ≤ Q.length) (h : ∀ i, i < n → sx P (a + i) = sx Q (b + i)) : (P.drop a).take n = (Q.drop b).take n := by
  apply List.ext_getElem
  · simp; omega
  · intro i g1 g2
    have hi : i < n := by simp at g1; omega
    have := h i hi
    simp only [sx] at this
    rw [List.getD_eq_getElem?_getD, List.getD_eq_getElem?_getD, List.getElem?_eq_getElem (by omega), List.getElem?_eq_getElem (by omega)] at this
    simpa using this
theorem lead_order {E : EQT} {P Q : List ByteArray} {M : Nat} : ∀ {ds : List Df} {a b k : Nat}, Lead E P.length M a b ds k → inOrderF (totB P) (totB (P.take a)) (edsOf P Q ds) = true := by
  intro ds
  induction ds with
  | nil => intros; rfl
  | cons d ds ih =>
    intro a b k h
    obtain ⟨g1, g2, g3, g4, g5, g6, g7, g8, k', g9, g10⟩ := h
    have h1 := totB_take_le P g1
    have h2 := totB_take_le P g2
    have h3 := totB_take_all P d.e
    have h4 := ih g10
    simp only [edsOf, List.map_cons, inOrderF, insideB]
    simp only [edsOf] at h4
    rw [h4]
    simp
    omega
theorem lead_patch {E : EQT} {P Q : List ByteArray} (hE : ∀ i j, i < P.length → j < Q.length → E i j = true → sx P i = sx Q j) : ∀ {ds : List Df} {a b k : Nat}, Lead E P.length Q.length a b ds k → patchB (joinB P) (totB (P.take a)) (edsOf P Q ds) = joinB (Q.drop b) := by
  intro ds
  induction ds with
  | nil =>
    intro a b k h
    obtain ⟨g1, g2, g3, g4, g5⟩ := h
    simp only [edsOf, List.map_nil, patchB]
    rw [joinB_tail]
    have := seg_eq (P := P) (Q := Q) (a := a) (b := b) (n := P.length - a) (by omega) (by omega) (fun i hi => hE _ _ (by omega) (by omega) (g4 i (by omega)))
    rw [List.take_of_length_le (by simp), List.take_of_length_le (by simp; omega)] at this
    rw [this]
  | cons d ds ih =>
    intro a b k h
    obtain ⟨g1, g2, g3, g4, g5, g6, g7, g8, k', g9, g10⟩ := h
    have h4 := ih g10
    simp only [edsOf, List.map_cons, patchB_cons, Int.toNat_natCast]
    simp only [edsOf] at h4
    rw [h4, joinB_cut P g1, seg_eq (P := P) (Q := Q) (a := a) (b := b) (n := d.s - a) (by omega) (by omega) (fun i hi => hE _ _ (by omega) (by omega) (g8 i (by omega))), ← joinB_append, ← joinB_append]
    congr 1
    rw [List.append_assoc]
    have e1 : d.s - a = d.rs - b := by omega
    have e2 : (Q.drop d.rs).take (d.re - d.rs) ++ Q.drop d.re = Q.drop d.rs := by
      conv => rhs; rw [← List.take_append_drop (d.re - d.rs) (Q.drop d.rs), List.drop_drop]
      rw [show d.rs + (d.re - d.rs) = d.re by omega]
    rw [e2, e1]
    conv => rhs; rw [← List.take_append_drop (d.rs - b) (Q.drop b), List.drop_drop]
    rw [show b + (d.rs - b) = d.rs by omega]
end Go.Proofs.YtgjbagojcbondaaDoor

namespace Go.Proofs.YtgjbagojcbondaaDoor
set_option linter.unusedVariables false
open Go.RowKit

theorem joinB_lnL (s : ByteArray) (k : Nat) : joinB (lnL s k) = s.extract 0 (lnF s k) := by
  induction k with
  | zero => simp [lnL_zero, lnF_zero, joinB]
  | succ k ih =>
    by_cases h : byteAt s k = 10
    · rw [lnL_nl s k h, lnF_nl s k h, joinB_append, ih]
      simp only [joinB, ByteArray.append_empty]
      have := lnF_le s k
      rw [ByteArray.extract_append_extract]
      congr 1
      omega
    · rw [lnL_no s k h, lnF_no s k h, ih]
theorem joinB_lines (s : ByteArray) : joinB (linesF s) = s := by
  unfold linesF
  have h0 := lnF_le s s.size
  split
  · rw [joinB_append, joinB_lnL]
    simp only [joinB, ByteArray.append_empty]
    rw [ByteArray.extract_append_extract]
    have e1 : min 0 (lnF s s.size) = 0 := by omega
    have e2 : max (lnF s s.size) s.size = s.size := by omega
    rw [e1, e2, ByteArray.extract_zero_size]
  · rw [joinB_lnL, show lnF s s.size = s.size by omega, ByteArray.extract_zero_size]
/-- a part of a slice of texts -/
theorem strs_cut {P : Program} (t e : TypeId) (i : TypeInfo) (ht : P.underlying t = some (.slice e)) (hi : P.info? e = some i) (hs : i.size = 1) (A : Option Addr) (ys : List ByteArray) (n c x X : Nat) (hn : ys.length = n) (h1 : x ≤ X) (h2 : X ≤ n) (h3 : n ≤ c) :
    ∃ A', (∀ w, (Instr.slice t (.slice A n c) (some (.int .i64 x)) (some (.int .i64 X)) none).run P w = .ok (.slice A' (X - x) (c - x)) w) ∧ ∀ w, StrsR w A ys → StrsR w A' ((ys.drop x).take (X - x)) := by
  have k1 : (0 : Int) ≤ (x : Int) := by omega
  have k2 : (x : Int) ≤ (X : Int) := by omega
  have k3 : (X : Int) ≤ (c : Int) := by omega
  have he : P.elem t = e := by unfold Program.elem; rw [ht]
  refine ⟨if c = x then A else A.map (·.add (x * 1)), fun w => ?_, fun w hr => ?_⟩
  · rw [run_slice_lh w t A n c (by rw [he]; exact ht) .i64 .i64 (x : Int) (X : Int) k1 k2 k3]
    simp [he, sizeOf, typeInfo, hi, hs, sliced, Result.andThen]
  · by_cases h : c = x
    · rw [if_pos h]
      have : (ys.drop x).take (X - x) = [] := by
        have : X - x = 0 := by omega
        rw [this, List.take_zero]
      rw [this]
      exact .inl rfl
    · rw [if_neg h]
      rcases hr with h9 | ⟨b, off, rfl, hc⟩
      · have : ys = [] := by simpa [strCells] using h9
        subst this
        exact .inl (by simp [strCells])
      · refine .inr ⟨b, off + x, by simp [add_lit], fun j u hu => ?_⟩
        rw [Nat.add_assoc]
        refine hc (x + j) u ?_
        simp only [strCells, List.map_take, List.map_drop, List.getElem?_take] at hu
        split at hu
        · rw [List.getElem?_drop] at hu
          exact hu
        · cases hu
theorem own_cap2 {w : World} {base e size n c : Nat} {A : Option Addr} {xs : List Value} (h : w.ownsRow base e size (.slice A n c) n xs) : n ≤ c := by
  rcases h.2 with ⟨h1, h2⟩ | ⟨g, cap, cur, hv, _, _, h3, _⟩
  · omega
  · injection hv with h1 h2 h4
    subst h4
    exact h3
/-- a row of edits of which the first k are filled in -/
def rowK (es : List Ed) (k : Nat) : List Ed := es.take k ++ List.replicate (es.length - k) ⟨0, 0, ⟨#[]⟩⟩
theorem rowK_len (es : List Ed) (k : Nat) (h : k ≤ es.length) : (rowK es k).length = es.length := by simp [rowK]; omega
theorem rowK_all (es : List Ed) : rowK es es.length = es := by simp [rowK]
theorem rowK_set (es : List Ed) (k : Nat) (h : k < es.length) : (rowK es k).set k (edAt es k) = rowK es (k + 1) := by
  unfold rowK
  rw [List.set_append_right _ _ (by simp; omega), List.length_take, Nat.min_eq_left (by omega), Nat.sub_self]
  obtain ⟨m, hm⟩ : ∃ m, es.length - k = m + 1 := ⟨es.length - k - 1, by omega⟩
  rw [hm, List.replicate_succ, List.set_cons_zero, take_snoc_ed es k h, List.append_assoc, show es.length - (k + 1) = m by omega]
  rfl
theorem made_ed (n : Nat) : (madeCells #[.int .i64 0, .int .i64 0, .string ⟨#[]⟩] (n * 3)).toList = edCells (List.replicate n ⟨0, 0, ⟨#[]⟩⟩) := by
  apply List.ext_getElem?
  intro i
  by_cases hi : i < n * 3
  · have hk : i / 3 < n := by omega
    have e0 : edAt (List.replicate n (⟨0, 0, ⟨#[]⟩⟩ : Ed)) (i / 3) = ⟨0, 0, ⟨#[]⟩⟩ := by simp [edAt, hk]
    obtain ⟨g0, g1, g2⟩ := edCells_get (List.replicate n (⟨0, 0, ⟨#[]⟩⟩ : Ed)) (i / 3) (by simpa using hk)
    have hl : (madeCells #[Value.int .i64 0, .int .i64 0, .string ⟨#[]⟩] (n * 3)).toList[i]? = some (#[Value.int .i64 0, .int .i64 0, .string ⟨#[]⟩][i % 3]!) := by simp [madeCells, hi]
    rw [hl]
    have h3 : i % 3 = 0 ∨ i % 3 = 1 ∨ i % 3 = 2 := by omega
    rcases h3 with h3 | h3 | h3
    · rw [h3]
      rw [show i / 3 * 3 = i by omega] at g0
      rw [g0]
      simp only [eS, e0]
      rfl
    · rw [h3]
      rw [show i / 3 * 3 + 1 = i by omega] at g1
      rw [g1]
      simp only [eE, e0]
      rfl
    · rw [h3]
      rw [show i / 3 * 3 + 2 = i by omega] at g2
      rw [g2]
      simp only [eN, e0]
      rfl
  · rw [List.getElem?_eq_none (by simp [madeCells]; omega), List.getElem?_eq_none (by rw [edCells_length]; simp; omega)]
theorem rowK_zero (es : List Ed) : rowK es 0 = List.replicate es.length ⟨0, 0, ⟨#[]⟩⟩ := by simp [rowK]
end Go.Proofs.YtgjbagojcbondaaDoor

namespace Go.Proofs.YtgjbagojcbondaaDoor
set_option linter.unusedVariables false

theorem lead_chain {E : EQT} {N M : Nat} {ps : List Pc} (h : Ch E 0 0 ps N M) : ∃ k, Lead E N M 0 0 (diffsFrom N M 0 0 ps) k :=
  ⟨_, lead_of h (Nat.le_refl _) (Nat.le_refl _) rfl (fun i hi => by omega)⟩
theorem lead_bounds {E : EQT} {N M : Nat} : ∀ {ds : List Df} {a b k : Nat}, Lead E N M a b ds k → ∀ d ∈ ds, d.s ≤ d.e ∧ d.e ≤ N ∧ d.rs ≤ d.re ∧ d.re ≤ M := by
  intro ds
  induction ds with
  | nil => intro a b k h d hd; cases hd
  | cons x ds ih =>
    intro a b k h d hd
    obtain ⟨g1, g2, g3, g4, g5, g6, g7, g8, k', g9, g10⟩ := h
    rcases List.mem_cons.1 hd with rfl | hd
    · exact ⟨g2, g3, g5, g6⟩
    · exact ih g10 d hd
theorem totB_drop_le (Q : List ByteArray) {a b : Nat} (h : a ≤ b) : totB (Q.drop b) ≤ totB (Q.drop a) := by
  have h1 := totB_append ((Q.drop a).take (b - a)) ((Q.drop a).drop (b - a))
  rw [List.take_append_drop, List.drop_drop, show a + (b - a) = b by omega] at h1
  omega
theorem totB_cut_le (Q : List ByteArray) {a b c : Nat} (h1 : a ≤ b) (h2 : b ≤ c) : totB ((Q.drop b).take (c - b)) + totB (Q.drop c) ≤ totB (Q.drop a) := by
  have h3 := totB_append ((Q.drop b).take (c - b)) ((Q.drop b).drop (c - b))
  rw [List.take_append_drop, List.drop_drop, show b + (c - b) = c by omega] at h3
  have := totB_drop_le Q h1
  omega
theorem lead_szE {E : EQT} {P Q : List ByteArray} {N M : Nat} : ∀ {ds : List Df} {a b k : Nat}, Lead E N M a b ds k → szE (edsOf P Q ds) ≤ totB (Q.drop b) + ds.length := by
  intro ds
  induction ds with
  | nil => intros; simp [edsOf, szE]
  | cons d ds ih =>
    intro a b k h
    obtain ⟨g1, g2, g3, g4, g5, g6, g7, g8, k', g9, g10⟩ := h
    have h1 := ih g10
    have h2 := totB_cut_le Q g4 g5
    simp only [edsOf, List.map_cons, szE, List.length_cons] at h1 ⊢
    rw [joinB_size]
    omega
theorem apart_nilM {E : EQT} {N M : Nat} {ps : List Pc} (h : ∀ i j, i < N → j < M → E i j = false) (hch : Ch E 0 0 ps N M) : ps = [] := by
  cases ps with
  | nil => rfl
  | cons p ps =>
    obtain ⟨g1, g2, ⟨g3, g4⟩, g5⟩ := hch
    have := g5.le
    have h1 := g4 0 g3
    rw [h _ _ (by omega) (by omega)] at h1
    cases h1
theorem linesF_a : linesF ⟨#[97]⟩ = [⟨#[97]⟩] := by decide +kernel
theorem linesF_b : linesF ⟨#[98]⟩ = [⟨#[98]⟩] := by decide +kernel
theorem psums_edge (L : List ByteArray) : totB L = totB (L.take L.length) := by rw [List.take_length]
/-- what is known of the edits between the lines of two texts -/
structure LinesEd (s t : ByteArray) (es : List Ed) : Prop where
  order : inOrderF s.size 0 es = true
  patch : patchB s 0 es = t
  size : szE es ≤ 4000000
  len : es.length ≤ 2000000
theorem linesEd_of {s t : ByteArray} {E : EQT} {ps : List Pc} (hE : ∀ i j, E i j = true → sx (linesF s) i = sx (linesF t) j) (hch : Ch E 0 0 ps (linesF s).length (linesF t).length) (hs : s.size ≤ 1000000) (ht : t.size ≤ 1000000) (hl : (diffsFrom (linesF s).length (linesF t).length 0 0 ps).length ≤ (linesF s).length + (linesF t).length) :
    LinesEd s t (edsOf (linesF s) (linesF t) (diffsFrom (linesF s).length (linesF t).length 0 0 ps)) := by
  obtain ⟨k, hk⟩ := lead_chain hch
  have h1 := lead_order (Q := linesF t) hk
  have h2 := lead_patch (P := linesF s) (Q := linesF t) (fun i j _ _ h => hE i j h) hk
  have h3 := lead_szE (P := linesF s) (Q := linesF t) hk
  have l1 := linesF_len s
  have l2 := linesF_len t
  have t1 := linesF_tot s
  have t2 := linesF_tot t
  rw [List.take_zero] at h1 h2
  rw [joinB_lines, List.drop_zero, joinB_lines] at h2
  rw [t1] at h1
  rw [List.drop_zero, t2] at h3
  exact ⟨h1, h2, by omega, by rw [show (edsOf (linesF s) (linesF t) (diffsFrom (linesF s).length (linesF t).length 0 0 ps)).length = (diffsFrom (linesF s).length (linesF t).length 0 0 ps).length by simp [edsOf]]; omega⟩
end Go.Proofs.YtgjbagojcbondaaDoor
