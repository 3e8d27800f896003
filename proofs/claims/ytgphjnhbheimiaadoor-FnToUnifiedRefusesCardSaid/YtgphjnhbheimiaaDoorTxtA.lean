/-
  Copies of lists of edits: given, told, slices.Clone at the package's edits. Condition: at most 20000000 edits.
  The reference's small functions on edits: Inside, Overlap, Before, SameEdits, InOrder, Apart. Condition: at most 20000000 edits.
  The text that edits make, plainly. No condition.
  What the merging of two lists of edits computes, as a plain function; no program in sight. No condition.
  Merging lists of edits that stand apart, plainly: no program in sight. No condition.
  What is told of edits, plainly: applied, refused, unsaid; edits in their order. No condition.
-/
import Derived.Test.YtgphjnhbheimiaaDoorSmall
import Derived.WalkSpells
namespace Go.Proofs.YtgphjnhbheimiaaDoor
set_option linter.unusedVariables false
open Go.RowKit

theorem infoE : (Tryd.prog.info? 33).map (fun i => (i.zero, i.size, i.bytes)) = some (some (.agg #[.int .i64 0, .int .i64 0, .string ⟨#[]⟩]), 3, 32) := by kernel_rfl
theorem infoD : (Tryd.prog.info? 50).map (fun i => (i.zero, i.size, i.bytes)) = some (some (.agg #[.int .i64 0, .int .i64 0, .string ⟨#[]⟩]), 3, 32) := by kernel_rfl

theorem cells_lit3 (w : World) (t : TypeId) (x : Ed) : CellsR (w.alloc (.cells #[.int .i64 x.s, .int .i64 x.e, .string x.n] t)) (some ⟨w.heap.size, 0, none⟩) x.cells := by
  refine .inr ⟨_, _, rfl, fun j u hu => ?_⟩
  have := (Blk.new w t #[.int .i64 x.s, .int .i64 x.e, .string x.n]).cell (0 + j)
  rw [this]
  simpa [Ed.cells] using hu
theorem cells_lit3' (w : World) (t : TypeId) (es : List Ed) (k : Nat) : CellsR (w.alloc (.cells #[.int .i64 (eS es k), .int .i64 (eE es k), .string (eN es k)] t)) (some ⟨w.heap.size, 0, none⟩) (edAt es k).cells :=
  cells_lit3 w t (edAt es k)
theorem edTake (es : List Ed) (k : Nat) (h : k < es.length) : edCells (es.take (k + 1)) = edCells (es.take k) ++ (edAt es k).cells := by
  rw [take_snoc_ed es k h, edCells_append]
  simp [edCells]
theorem edCells1 (x : Ed) : ∀ u ∈ x.cells, u.oneCell' = true := by
  intro u hu
  simp only [Ed.cells, List.mem_cons, List.not_mem_nil, or_false] at hu
  rcases hu with rfl | rfl | rfl <;> rfl

set_option maxHeartbeats 400000 in
/-- impl.given: the edits in new memory. -/
theorem given_any (A : Option Addr) (c : Nat) (es : List Ed) (w : World) (hr : EdsR w A es) (hl : es.length ≤ 20000000) :
   Calls Tryd.prog 13 #[.slice A es.length c] w fun e w' => ∃ A' c', e = .returned (.slice A' es.length c') ∧ w'.ownsRow w.heap.size 50 3 (.slice A' es.length c') es.length (edCells es) ∧ Below w.heap.size w w' := by
  have HR := Lib.hid hr; clear hr
  obtain ⟨n, hln⟩ : ∃ n, es.length = n := ⟨_, rfl⟩
  rw [hln] at hl ⊢
  have HL := Lib.hid hln; clear hln
  obtain ⟨i0, hi, hz0, hz1, hz2⟩ := info_parts infoD
  go_enter Tryd.func13, Tryd.ntmps13
  go_wp2
  go_loopw [3, 5, 9] (fun v _ i wr => ∃ k : Nat, k ≤ n ∧ i = .int .i64 k ∧ wr.ownsRow w.heap.size 50 3 v k (edCells (es.take k)) ∧ Below w.heap.size w wr) (fun _ _ i _ => n - (intOf i).toNat)
  case atStart => exact ⟨0, by omega, rfl, World.ownsRow_made w #[] 0 (Nat.le_refl _) (by simp [maxLen]) rfl, (Below.refl _ _).alloc (Nat.le_refl _) _⟩
  case round =>
    obtain ⟨k, hk, rfl, hown, hb⟩ := hrel
    by_cases hlt : k < n
    · obtain ⟨b, off, rfl, hbb, g1, g2, g3⟩ := (EdsR.below HR.out hb (Nat.le_refl _)).at_ (k := k) (by rw [HL.out]; exact hlt)
      have hbs := hb.size
      have ht := edTake es k (by rw [HL.out]; exact hlt)
      have HT := Lib.hid ht; clear ht
      have HO := Lib.hid hown; clear hown
      go_wp2_with (at_builtin; refine wpList_append_any _ rfl (.tmp 13) (.tmp 21) _ rfl w.heap.size 50 i0 _ 3 32 Tryd.underlying40 hi hz0 hz1 hz2 rfl (by omega) u3 k (edCells (es.take k)) rfl ((HO.out.alloc _).alloc _) (some ⟨wr.heap.size + 1, 0, none⟩) 1 1 (edAt es k).cells rfl (by have := cells_lit3' (wr.alloc (.cells #[.int .i64 (eS es k), .int .i64 (eE es k), .string (eN es k)] 33)) 50 es k; simpa using this) rfl (edCells1 _) (by unfold maxLen; omega) (by omega) (by simp; omega) ?_; intro A1 c1 w1 hown1 hg1 hat1)
      go_wp2
      go_roundw
      case rel => exact ⟨k + 1, by omega, by go_num, by rw [HT.out]; exact hown1, (((hb.alloc hb.size _).alloc (by simp; omega) _).grown hg1 (by simp; omega) (fun g hg => (HO.out.lt g hg).1))⟩
      case measure => simp [intOf]; omega
    · have hkn : k = n := by omega
      subst hkn
      go_wp2
      go_ret
      have e1 : es.take k = es := List.take_of_length_le (by rw [HL.out]; omega)
      rw [e1] at hown
      obtain ⟨A', c', hv⟩ := own_form hown
      subst hv
      exact ⟨A', c', rfl, hown, hb⟩
set_option maxHeartbeats 400000 in
/-- slices.Clone at the package's edits. -/
theorem clone_any (A : Option Addr) (c : Nat) (es : List Ed) (w : World) (hr : EdsR w A es) (hl : es.length ≤ 20000000) :
   Calls Tryd.prog 33 #[.slice A es.length c] w fun e w' => ∃ A' c', e = .returned (.slice A' es.length c') ∧ w'.ownsRow w.heap.size 50 3 (.slice A' es.length c') es.length (edCells es) ∧ Below w.heap.size w w' := by
  obtain ⟨i0, hi, hz0, hz1, hz2⟩ := info_parts infoD
  obtain ⟨n, hln⟩ : ∃ n, es.length = n := ⟨_, rfl⟩
  have hlen := edCells_length es
  have HLE := Lib.hid hlen; clear hlen
  rw [hln] at hl ⊢
  have HL := Lib.hid hln; clear hln
  have HR := Lib.hid hr; clear hr
  rcases A with _ | a
  · have h0 : edCells es = [] := by
      rcases HR.out with h | ⟨b, off, h, _⟩
      · exact h
      · cases h
    have hn : n = 0 := by have h1 := HLE.out; rw [h0, HL.out] at h1; simp at h1; omega
    subst hn
    have HE := Lib.hid h0; clear h0
    have hq := fun w => Lib.run_eql_slice_nil (P := Tryd.prog) w 40 50 none 0 c 0 0 Tryd.underlying40
    go_enter Tryd.func33, Tryd.ntmps33
    go_wp2
    go_ret
    exact ⟨none, 0, rfl, by rw [HE.out]; exact World.ownsRow_nil _ _ _ _, Below.refl _ _⟩
  · have hq := fun w => Lib.run_eql_slice_nil (P := Tryd.prog) w 40 50 (some a) n c 0 0 Tryd.underlying40
    go_enter Tryd.func33, Tryd.ntmps33
    go_wp2_with (at_builtin; refine wpList_append_any _ rfl (.tmp 5) (.tmp 6) _ rfl w.heap.size 50 i0 _ 3 32 Tryd.underlying40 hi hz0 hz1 hz2 rfl (by omega) (.slice (some ⟨w.heap.size, 0, none⟩) 0 0) 0 [] rfl (World.ownsRow_made w #[] 0 (Nat.le_refl _) (by simp [maxLen]) rfl) (some a) n c (edCells es) rfl (CellsR.alloc HR.out _) (by rw [HLE.out, HL.out]) (edCells_one es) (by unfold maxLen; omega) (by omega) (by simp) ?_; intro A1 c1 w1 hown1 hg1 hat1)
    go_ret
    simp only [Nat.zero_add, List.nil_append] at hown1 ⊢
    exact ⟨A1, c1, rfl, hown1, ((Below.refl _ _).alloc (Nat.le_refl _) _).grown hg1 (by simp) (by simp [Value.ownBlock])⟩
end Go.Proofs.YtgphjnhbheimiaaDoor

namespace Go.Proofs.YtgphjnhbheimiaaDoor
set_option linter.unusedVariables false
open Go.RowKit

def insideB (x : Ed) (size : Int) : Bool := decide (0 ≤ x.s ∧ x.s ≤ x.e ∧ x.e ≤ size)
def overlapB (x y : Ed) : Bool := decide (x.s < y.e ∧ y.s < x.e)
def beforeB (x y : Ed) : Bool := decide (x.s < y.s ∨ x.s = y.s ∧ x.e < y.e)

set_option maxHeartbeats 400000 in
theorem inside_any (x : Ed) (size : Int) (w : World) :
   Calls Tryd.prog 14 #[.agg #[.int .i64 x.s, .int .i64 x.e, .string x.n], .int .i64 size] w fun e w' => e = .returned (.bool (insideB x size)) ∧ Below w.heap.size w w' := by
  obtain ⟨s, e, n⟩ := x
  simp only
  by_cases h1 : 0 ≤ s
  · by_cases h2 : s ≤ e
    · by_cases h3 : e ≤ size
      all_goals
        go_enter Tryd.func14, Tryd.ntmps14
        go_wp2
        go_ret
        exact ⟨ret_bool (by symm; simp [insideB]; omega), (Below.refl _ _).alloc (Nat.le_refl _) _⟩
    · go_enter Tryd.func14, Tryd.ntmps14
      go_wp2
      go_ret
      exact ⟨ret_bool (by symm; simp [insideB]; omega), (Below.refl _ _).alloc (Nat.le_refl _) _⟩
  · go_enter Tryd.func14, Tryd.ntmps14
    go_wp2
    go_ret
    exact ⟨ret_bool (by symm; simp [insideB]; omega), (Below.refl _ _).alloc (Nat.le_refl _) _⟩

set_option maxHeartbeats 400000 in
theorem overlap_any (x y : Ed) (w : World) :
   Calls Tryd.prog 15 #[.agg #[.int .i64 x.s, .int .i64 x.e, .string x.n], .agg #[.int .i64 y.s, .int .i64 y.e, .string y.n]] w fun e w' => e = .returned (.bool (overlapB x y)) ∧ Below w.heap.size w w' := by
  obtain ⟨s, e, n⟩ := x
  obtain ⟨s', e', n'⟩ := y
  simp only
  by_cases h1 : s < e'
  · by_cases h2 : s' < e
    all_goals
      go_enter Tryd.func15, Tryd.ntmps15
      go_wp2
      go_ret
      exact ⟨ret_bool (by symm; simp [overlapB]; omega), ((Below.refl _ _).alloc (Nat.le_refl _) _).alloc (by simp) _⟩
  · go_enter Tryd.func15, Tryd.ntmps15
    go_wp2
    go_ret
    exact ⟨ret_bool (by symm; simp [overlapB]; omega), ((Below.refl _ _).alloc (Nat.le_refl _) _).alloc (by simp) _⟩


def edEqB (x y : Ed) : Bool := (x.s == y.s) && (x.e == y.e) && (x.n.toList == y.n.toList)
/-- two lists of edits are the same -/
def sameE : List Ed → List Ed → Bool
  | [], [] => true
  | x :: a, y :: b => edEqB x y && sameE a b
  | _, _ => false
theorem sameE_len {a b : List Ed} (h : a.length ≠ b.length) : sameE a b = false := by
  induction a generalizing b with
  | nil => cases b <;> simp [sameE] at *
  | cons x a ih => cases b with
    | nil => simp [sameE]
    | cons y b => simp [sameE, ih (b := b) (by simpa using h)]
theorem sameE_at {a b : List Ed} {k : Nat} (hk : k < a.length) (hk' : k < b.length) (h : edEqB (edAt a k) (edAt b k) = false) : sameE a b = false := by
  induction a generalizing b k with
  | nil => simp at hk
  | cons x a ih => cases b with
    | nil => simp at hk'
    | cons y b => cases k with
      | zero => simp [edAt] at h; simp [sameE, h]
      | succ k => simp [edAt] at h; simp [sameE, ih (b := b) (k := k) (by simpa using hk) (by simpa using hk') (by simpa [edAt] using h)]
theorem sameE_all {a b : List Ed} (hl : a.length = b.length) (h : ∀ k, k < a.length → edEqB (edAt a k) (edAt b k) = true) : sameE a b = true := by
  induction a generalizing b with
  | nil => cases b <;> simp [sameE] at *
  | cons x a ih => cases b with
    | nil => simp at hl
    | cons y b =>
      have h0 := h 0 (by simp)
      simp [edAt] at h0
      simp only [sameE, h0, Bool.true_and]
      exact ih (by simpa using hl) (fun k hk => by simpa [edAt] using h (k + 1) (by simpa using hk))


/-- edits stand in their order with a byte between -/
def apartF (size : Int) : Int → List Ed → Bool
  | _, [] => true
  | at_, x :: l => insideB x size && decide (at_ < x.s) && apartF size x.e l
theorem apartF_drop (size at_ : Int) (es : List Ed) (k : Nat) (h : k < es.length) :
    apartF size at_ (es.drop k) = (insideB (edAt es k) size && decide (at_ < eS es k) && apartF size (eE es k) (es.drop (k + 1))) := by
  rw [List.drop_eq_getElem_cons h]
  simp [apartF, edAt, eS, eE, h]


/-- edits stand in their order -/
def inOrderF (size : Int) : Int → List Ed → Bool
  | _, [] => true
  | at_, x :: l => insideB x size && decide (at_ ≤ x.s) && inOrderF size x.e l
theorem inOrderF_drop (size at_ : Int) (es : List Ed) (k : Nat) (h : k < es.length) :
    inOrderF size at_ (es.drop k) = (insideB (edAt es k) size && decide (at_ ≤ eS es k) && inOrderF size (eE es k) (es.drop (k + 1))) := by
  rw [List.drop_eq_getElem_cons h]
  simp [inOrderF, edAt, eS, eE, h]

end Go.Proofs.YtgphjnhbheimiaaDoor

namespace Go.Proofs.YtgphjnhbheimiaaDoor
set_option linter.unusedVariables false

/-- the text that edits make -/
def patchB (s : ByteArray) : Nat → List Ed → ByteArray
  | at_, [] => s.extract at_ s.size
  | at_, x :: l => s.extract at_ x.s.toNat ++ x.n ++ patchB s x.e.toNat l
theorem patchB_cons (s : ByteArray) (at_ : Nat) (x : Ed) (l : List Ed) : patchB s at_ (x :: l) = s.extract at_ x.s.toNat ++ x.n ++ patchB s x.e.toNat l := rfl
theorem inOrderF_cons {N at_ : Int} {x : Ed} {l : List Ed} (h : inOrderF N at_ (x :: l) = true) : 0 ≤ x.s ∧ x.s ≤ x.e ∧ x.e ≤ N ∧ at_ ≤ x.s ∧ inOrderF N x.e l = true := by
  simp only [inOrderF, insideB, Bool.and_eq_true, decide_eq_true_eq] at h
  exact ⟨h.1.1.1, h.1.1.2.1, h.1.1.2.2, h.1.2, h.2⟩
end Go.Proofs.YtgphjnhbheimiaaDoor

namespace Go.Proofs.YtgphjnhbheimiaaDoor
set_option linter.unusedVariables false
open Go.RowKit

/-- how far the merging is from its end -/
def mgMu : List Ed → List Ed → Nat
  | x :: xs, y :: ys => 2 * (xs.length + 1 + (ys.length + 1)) + (if x.s = y.s then 0 else 1)
  | xs, ys => 2 * (xs.length + ys.length)

theorem mgMu_le (xs ys : List Ed) : mgMu xs ys ≤ 2 * (xs.length + ys.length) + 1 := by
  cases xs with
  | nil => cases ys <;> simp [mgMu]
  | cons x xs => cases ys with
    | nil => simp [mgMu]
    | cons y ys => simp only [mgMu, List.length_cons]; split <;> omega
theorem mgMu_ge (xs ys : List Ed) : 2 * (xs.length + ys.length) ≤ mgMu xs ys := by
  cases xs with
  | nil => cases ys <;> simp [mgMu]
  | cons x xs => cases ys with
    | nil => simp [mgMu]
    | cons y ys => simp only [mgMu, List.length_cons]; split <;> omega

def mg : List Ed → List Ed → List Ed → Option (List Ed)
  | [], ys, acc => some (acc ++ ys)
  | xs, [], acc => some (acc ++ xs)
  | x :: xs, y :: ys, acc =>
    if edEqB x y = true then mg xs ys (acc ++ [x])
    else if x.e ≤ y.s then mg xs (y :: ys) (acc ++ [x])
    else if y.e ≤ x.s then mg (x :: xs) ys (acc ++ [y])
    else if x.s < y.s then mg (⟨y.s, x.e, x.n⟩ :: xs) (y :: ys) (acc ++ [⟨x.s, y.s, ⟨#[]⟩⟩])
    else if y.s < x.s then mg (x :: xs) (⟨x.s, y.e, y.n⟩ :: ys) (acc ++ [⟨y.s, x.s, ⟨#[]⟩⟩])
    else none
termination_by xs ys _ => mgMu xs ys
decreasing_by
  · have h1 := mgMu_le xs ys
    have h2 := mgMu_ge (x :: xs) (y :: ys)
    simp only [List.length_cons] at *
    omega
  · have h1 := mgMu_le xs (y :: ys)
    have h2 := mgMu_ge (x :: xs) (y :: ys)
    simp only [List.length_cons] at *
    omega
  · have h1 := mgMu_le (x :: xs) ys
    have h2 := mgMu_ge (x :: xs) (y :: ys)
    simp only [List.length_cons] at *
    omega
  · simp only [mgMu, if_true]; rw [if_neg (by omega)]; omega
  · simp only [mgMu, if_true]; rw [if_neg (by omega)]; omega

theorem mg_end (xs ys acc : List Ed) (h : xs = [] ∨ ys = []) : mg xs ys acc = some (acc ++ xs ++ ys) := by
  rcases h with rfl | rfl
  · unfold mg; simp
  · cases xs with
    | nil => unfold mg; simp
    | cons x xs => unfold mg; simp

theorem drop_cons_ed (es : List Ed) (k : Nat) (h : k < es.length) : es.drop k = edAt es k :: es.drop (k + 1) := by
  rw [List.drop_eq_getElem_cons h]
  simp [edAt, h]
theorem edAt_set (es : List Ed) (k : Nat) (x : Ed) (h : k < es.length) : edAt (es.set k x) k = x := by
  simp [edAt, h]
theorem drop_set_ed (es : List Ed) (k : Nat) (x : Ed) (h : k < es.length) : (es.set k x).drop k = x :: es.drop (k + 1) := by
  rw [drop_cons_ed _ _ (by simpa using h), edAt_set es k x h, List.drop_set_of_lt (by omega)]
theorem edCells_set (es : List Ed) (k : Nat) (u : Int) (h : k < es.length) : (edCells es).set (k * 3) (.int .i64 u) = edCells (es.set k ⟨u, eE es k, eN es k⟩) := by
  induction es generalizing k with
  | nil => simp at h
  | cons x l ih =>
    rw [edCells_cons]
    cases k with
    | zero => simp [Ed.cells, edCells_cons, eE, eN, edAt]
    | succ k =>
      have hl : x.cells.length = 3 := rfl
      rw [List.set_append_right _ _ (by omega), hl, show (k + 1) * 3 - 3 = k * 3 by omega, ih k (by simpa using h)]
      simp [edCells_cons, eE, eN, edAt]

/-- one step of the merging, at the heads that stand there -/
theorem mg_step {xs ys acc : List Ed} {x y : Ed} :
    mg (x :: xs) (y :: ys) acc =
    (if edEqB x y = true then mg xs ys (acc ++ [x])
    else if x.e ≤ y.s then mg xs (y :: ys) (acc ++ [x])
    else if y.e ≤ x.s then mg (x :: xs) ys (acc ++ [y])
    else if x.s < y.s then mg (⟨y.s, x.e, x.n⟩ :: xs) (y :: ys) (acc ++ [⟨x.s, y.s, ⟨#[]⟩⟩])
    else if y.s < x.s then mg (x :: xs) (⟨x.s, y.e, y.n⟩ :: ys) (acc ++ [⟨y.s, x.s, ⟨#[]⟩⟩])
    else none) := by
  conv => lhs; unfold mg

theorem mg_self_aux (xs acc : List Ed) : mg xs xs acc = some (acc ++ xs) := by
  induction xs generalizing acc with
  | nil => unfold mg; simp
  | cons x xs ih =>
    rw [mg_step, if_pos (by simp [edEqB]), ih]
    simp


section
variable {ex ey acc : List Ed} {xi yi : Nat}
theorem mg_eq (hx : xi < ex.length) (hy : yi < ey.length) (h : edEqB (edAt ex xi) (edAt ey yi) = true) :
    mg (ex.drop (xi + 1)) (ey.drop (yi + 1)) (acc ++ [edAt ex xi]) = mg (ex.drop xi) (ey.drop yi) acc ∧ 1 + mgMu (ex.drop (xi + 1)) (ey.drop (yi + 1)) ≤ mgMu (ex.drop xi) (ey.drop yi) := by
  constructor
  · rw [drop_cons_ed ex xi hx, drop_cons_ed ey yi hy, mg_step, if_pos h]
  · have h1 := mgMu_le (ex.drop (xi + 1)) (ey.drop (yi + 1))
    have h2 := mgMu_ge (ex.drop xi) (ey.drop yi)
    simp only [List.length_drop] at *
    omega
theorem mg_x (hx : xi < ex.length) (hy : yi < ey.length) (h : edEqB (edAt ex xi) (edAt ey yi) = false) (h2 : eE ex xi ≤ eS ey yi) :
    mg (ex.drop (xi + 1)) (ey.drop yi) (acc ++ [edAt ex xi]) = mg (ex.drop xi) (ey.drop yi) acc ∧ 1 + mgMu (ex.drop (xi + 1)) (ey.drop yi) ≤ mgMu (ex.drop xi) (ey.drop yi) := by
  simp only [eS, eE] at *
  constructor
  · rw [drop_cons_ed ex xi hx, drop_cons_ed ey yi hy, mg_step, if_neg (by simp [h]), if_pos h2]
  · have h1 := mgMu_le (ex.drop (xi + 1)) (ey.drop yi)
    have h2 := mgMu_ge (ex.drop xi) (ey.drop yi)
    simp only [List.length_drop] at *
    omega
theorem mg_y (hx : xi < ex.length) (hy : yi < ey.length) (h : edEqB (edAt ex xi) (edAt ey yi) = false) (h2 : ¬ eE ex xi ≤ eS ey yi) (h3 : eE ey yi ≤ eS ex xi) :
    mg (ex.drop xi) (ey.drop (yi + 1)) (acc ++ [edAt ey yi]) = mg (ex.drop xi) (ey.drop yi) acc ∧ 1 + mgMu (ex.drop xi) (ey.drop (yi + 1)) ≤ mgMu (ex.drop xi) (ey.drop yi) := by
  simp only [eS, eE] at *
  constructor
  · rw [drop_cons_ed ex xi hx, drop_cons_ed ey yi hy, mg_step, if_neg (by simp [h]), if_neg h2, if_pos h3]
  · have h1 := mgMu_le (ex.drop xi) (ey.drop (yi + 1))
    have h2 := mgMu_ge (ex.drop xi) (ey.drop yi)
    simp only [List.length_drop] at *
    omega
theorem mg_sx (hx : xi < ex.length) (hy : yi < ey.length) (h : edEqB (edAt ex xi) (edAt ey yi) = false) (h2 : ¬ eE ex xi ≤ eS ey yi) (h3 : ¬ eE ey yi ≤ eS ex xi) (h4 : eS ex xi < eS ey yi) :
    mg ((ex.set xi ⟨eS ey yi, eE ex xi, eN ex xi⟩).drop xi) (ey.drop yi) (acc ++ [⟨eS ex xi, eS ey yi, ⟨#[]⟩⟩]) = mg (ex.drop xi) (ey.drop yi) acc ∧
    1 + mgMu ((ex.set xi ⟨eS ey yi, eE ex xi, eN ex xi⟩).drop xi) (ey.drop yi) ≤ mgMu (ex.drop xi) (ey.drop yi) := by
  simp only [eS, eE, eN] at *
  rw [drop_set_ed _ _ _ hx, drop_cons_ed ex xi hx, drop_cons_ed ey yi hy]
  constructor
  · conv => rhs; rw [mg_step, if_neg (by simp [h]), if_neg h2, if_neg h3, if_pos h4]
  · simp only [mgMu]
    rw [if_pos trivial, if_neg (by omega)]
    omega
theorem mg_sy (hx : xi < ex.length) (hy : yi < ey.length) (h : edEqB (edAt ex xi) (edAt ey yi) = false) (h2 : ¬ eE ex xi ≤ eS ey yi) (h3 : ¬ eE ey yi ≤ eS ex xi) (h4 : ¬ eS ex xi < eS ey yi) (h5 : eS ey yi < eS ex xi) :
    mg (ex.drop xi) ((ey.set yi ⟨eS ex xi, eE ey yi, eN ey yi⟩).drop yi) (acc ++ [⟨eS ey yi, eS ex xi, ⟨#[]⟩⟩]) = mg (ex.drop xi) (ey.drop yi) acc ∧
    1 + mgMu (ex.drop xi) ((ey.set yi ⟨eS ex xi, eE ey yi, eN ey yi⟩).drop yi) ≤ mgMu (ex.drop xi) (ey.drop yi) := by
  simp only [eS, eE, eN] at *
  rw [drop_set_ed _ _ _ hy, drop_cons_ed ex xi hx, drop_cons_ed ey yi hy]
  constructor
  · conv => rhs; rw [mg_step, if_neg (by simp [h]), if_neg h2, if_neg h3, if_neg h4, if_pos h5]
  · simp only [mgMu]
    rw [if_pos trivial, if_neg (by omega)]
    omega
theorem mg_tx (hx : xi < ex.length) (hy : ey.length ≤ yi) :
    mg (ex.drop (xi + 1)) (ey.drop yi) (acc ++ [edAt ex xi]) = mg (ex.drop xi) (ey.drop yi) acc ∧ 1 + mgMu (ex.drop (xi + 1)) (ey.drop yi) ≤ mgMu (ex.drop xi) (ey.drop yi) := by
  rw [List.drop_of_length_le hy]
  constructor
  · rw [mg_end _ _ _ (.inr rfl), mg_end _ _ _ (.inr rfl), drop_cons_ed ex xi hx]
    simp
  · rw [drop_cons_ed ex xi hx]
    cases ex.drop (xi + 1) <;> simp [mgMu] <;> omega
theorem mg_ty (hx : ex.length ≤ xi) (hy : yi < ey.length) :
    mg (ex.drop xi) (ey.drop (yi + 1)) (acc ++ [edAt ey yi]) = mg (ex.drop xi) (ey.drop yi) acc ∧ 1 + mgMu (ex.drop xi) (ey.drop (yi + 1)) ≤ mgMu (ex.drop xi) (ey.drop yi) := by
  rw [List.drop_of_length_le hx]
  constructor
  · rw [mg_end _ _ _ (.inl rfl), mg_end _ _ _ (.inl rfl), drop_cons_ed ey yi hy]
    simp
  · rw [drop_cons_ed ey yi hy]
    cases ey.drop (yi + 1) <;> simp [mgMu] <;> omega
theorem mg_done (hx : ex.length ≤ xi) (hy : ey.length ≤ yi) : mg (ex.drop xi) (ey.drop yi) acc = some acc := by
  rw [List.drop_of_length_le hx, List.drop_of_length_le hy, mg_end _ _ _ (.inl rfl)]
  simp
theorem mg_no (hx : xi < ex.length) (hy : yi < ey.length) (h : edEqB (edAt ex xi) (edAt ey yi) = false) (h2 : ¬ eE ex xi ≤ eS ey yi) (h3 : ¬ eE ey yi ≤ eS ex xi) (h4 : ¬ eS ex xi < eS ey yi) (h5 : ¬ eS ey yi < eS ex xi) :
    mg (ex.drop xi) (ey.drop yi) acc = none := by
  simp only [eS, eE] at *
  rw [drop_cons_ed ex xi hx, drop_cons_ed ey yi hy, mg_step, if_neg (by simp [h]), if_neg h2, if_neg h3, if_neg h4, if_neg h5]
end

theorem mg_len (n : Nat) : ∀ (xs ys acc r : List Ed), mgMu xs ys ≤ n → mg xs ys acc = some r → r.length ≤ acc.length + mgMu xs ys := by
  induction n with
  | zero =>
    intro xs ys acc r hn h
    have h1 := mgMu_ge xs ys
    have hx : xs = [] := List.eq_nil_of_length_eq_zero (by omega)
    subst hx
    rw [mg_end _ _ _ (.inl rfl)] at h
    injection h with h
    subst h
    simp only [List.length_append, List.length_nil] at *
    omega
  | succ n ih =>
    intro xs ys acc r hn h
    cases xs with
    | nil =>
      have h1 := mgMu_ge [] ys
      rw [mg_end _ _ _ (.inl rfl)] at h
      injection h with h
      subst h
      simp only [List.length_append, List.length_nil] at *
      omega
    | cons x xs =>
      cases ys with
      | nil =>
        have h1 := mgMu_ge (x :: xs) []
        rw [mg_end _ _ _ (.inr rfl)] at h
        injection h with h
        subst h
        simp only [List.length_append, List.length_nil] at *
        omega
      | cons y ys =>
        have h1 := mgMu_ge (x :: xs) (y :: ys)
        rw [mg_step] at h
        split at h
        · have h2 := mgMu_le xs ys
          have := ih _ _ _ _ (by simp only [List.length_cons] at *; omega) h
          simp only [List.length_append, List.length_cons, List.length_nil] at *
          omega
        · split at h
          · have h2 := mgMu_le xs (y :: ys)
            have := ih _ _ _ _ (by simp only [List.length_cons] at *; omega) h
            simp only [List.length_append, List.length_cons, List.length_nil] at *
            omega
          · split at h
            · have h2 := mgMu_le (x :: xs) ys
              have := ih _ _ _ _ (by simp only [List.length_cons] at *; omega) h
              simp only [List.length_append, List.length_cons, List.length_nil] at *
              omega
            · split at h
              · have e1 : mgMu (⟨y.s, x.e, x.n⟩ :: xs) (y :: ys) + 1 ≤ mgMu (x :: xs) (y :: ys) := by
                  simp only [mgMu, if_true]
                  rw [if_neg (by omega)]
                  omega
                have := ih _ _ _ _ (by omega) h
                simp only [List.length_append, List.length_cons, List.length_nil] at *
                omega
              · split at h
                · have e1 : mgMu (x :: xs) (⟨x.s, y.e, y.n⟩ :: ys) + 1 ≤ mgMu (x :: xs) (y :: ys) := by
                    simp only [mgMu, if_true]
                    rw [if_neg (by omega)]
                    omega
                  have := ih _ _ _ _ (by omega) h
                  simp only [List.length_append, List.length_cons, List.length_nil] at *
                  omega
                · cases h

theorem mg_len' {xs ys r : List Ed} (h : mg xs ys [] = some r) : r.length ≤ 2 * (xs.length + ys.length) + 1 := by
  have h1 := mg_len _ xs ys [] r (Nat.le_refl _) h
  have h2 := mgMu_le xs ys
  simp only [List.length_nil] at h1
  omega

end Go.Proofs.YtgphjnhbheimiaaDoor

namespace Go.Proofs.YtgphjnhbheimiaaDoor
set_option linter.unusedVariables false
open Go.RowKit

/-- edits in order, each behind at_ with a byte between: as a proposition -/
def Apt (size : Int) : Int → List Ed → Prop
  | _, [] => True
  | at_, x :: l => 0 ≤ x.s ∧ x.s ≤ x.e ∧ x.e ≤ size ∧ at_ < x.s ∧ Apt size x.e l
theorem apt_of (size at_ : Int) (l : List Ed) (h : apartF size at_ l = true) : Apt size at_ l := by
  induction l generalizing at_ with
  | nil => trivial
  | cons x l ih =>
    simp only [apartF, Bool.and_eq_true, insideB, decide_eq_true_eq] at h
    exact ⟨h.1.1.1, h.1.1.2.1, h.1.1.2.2, h.1.2, ih _ h.2⟩
theorem apt_mono {size at_ b : Int} {l : List Ed} (h : Apt size at_ l) (hb : b ≤ at_) : Apt size b l := by
  cases l with
  | nil => trivial
  | cons x l => exact ⟨h.1, h.2.1, h.2.2.1, by have := h.2.2.2.1; omega, h.2.2.2.2⟩
theorem apt_mem {size at_ : Int} {l : List Ed} (h : Apt size at_ l) {x : Ed} (hx : x ∈ l) : at_ < x.s ∧ x.s ≤ x.e := by
  induction l generalizing at_ with
  | nil => cases hx
  | cons y l ih =>
    rcases List.mem_cons.1 hx with rfl | hx
    · exact ⟨h.2.2.2.1, h.2.1⟩
    · have := ih h.2.2.2.2 hx
      have h1 := h.2.2.2.1
      have h2 := h.2.1
      omega

/-! ### any two parts of a list -/
/-- parts of l: those that are marked, and the others -/
def pick : List Ed → List Bool → List Ed × List Ed
  | [], _ => ([], [])
  | x :: l, [] => ((pick l []).1, x :: (pick l []).2)
  | x :: l, b :: bs => if b then (x :: (pick l bs).1, (pick l bs).2) else ((pick l bs).1, x :: (pick l bs).2)
theorem pick_sub (l : List Ed) (bs : List Bool) : (∀ x ∈ (pick l bs).1, x ∈ l) ∧ (∀ x ∈ (pick l bs).2, x ∈ l) := by
  induction l generalizing bs with
  | nil => simp [pick]
  | cons x l ih =>
    cases bs with
    | nil =>
      have := ih []
      simp only [pick, List.mem_cons]
      refine ⟨fun y hy => .inr (this.1 y hy), fun y hy => ?_⟩
      rcases hy with rfl | hy
      · exact .inl rfl
      · exact .inr (this.2 y hy)
    | cons b bs =>
      have := ih bs
      simp only [pick]
      split
      · simp only [List.mem_cons]
        refine ⟨fun y hy => ?_, fun y hy => .inr (this.2 y hy)⟩
        rcases hy with rfl | hy
        · exact .inl rfl
        · exact .inr (this.1 y hy)
      · simp only [List.mem_cons]
        refine ⟨fun y hy => .inr (this.1 y hy), fun y hy => ?_⟩
        rcases hy with rfl | hy
        · exact .inl rfl
        · exact .inr (this.2 y hy)

theorem edEq_s {x y : Ed} (h : edEqB x y = true) : x.s = y.s ∧ x.e = y.e := by
  simp only [edEqB, Bool.and_eq_true, beq_iff_eq] at h
  exact ⟨h.1.1, h.1.2⟩

theorem mg_front_x {x : Ed} {xs ys acc : List Ed} (h : ∀ y ∈ ys, x.e < y.s ∧ x.s ≤ x.e) : mg (x :: xs) ys acc = mg xs ys (acc ++ [x]) := by
  cases ys with
  | nil => rw [mg_end _ _ _ (.inr rfl), mg_end _ _ _ (.inr rfl)]; simp
  | cons y ys =>
    have := h y (by simp)
    rw [mg_step, if_neg (fun e => by have := edEq_s e; omega), if_pos (by omega)]
theorem mg_front_y {y : Ed} {xs ys acc : List Ed} (h : ∀ x ∈ xs, y.e < x.s ∧ y.s ≤ y.e ∧ x.s ≤ x.e) : mg xs (y :: ys) acc = mg xs ys (acc ++ [y]) := by
  cases xs with
  | nil => rw [mg_end _ _ _ (.inl rfl), mg_end _ _ _ (.inl rfl)]; simp
  | cons x xs =>
    have := h x (by simp)
    rw [mg_step, if_neg (fun e => by have := edEq_s e; omega), if_neg (by omega), if_pos (by omega)]

theorem mg_pick {size at_ : Int} {l : List Ed} (h : Apt size at_ l) (bs : List Bool) (acc : List Ed) : mg (pick l bs).1 (pick l bs).2 acc = some (acc ++ l) := by
  induction l generalizing at_ bs acc with
  | nil => simp only [pick]; rw [mg_end _ _ _ (.inl rfl)]; simp
  | cons x l ih =>
    have hl := h.2.2.2.2
    cases bs with
    | nil =>
      simp only [pick]
      rw [mg_front_y (fun y hy => by
        have h1 := apt_mem hl ((pick_sub l []).1 y hy)
        exact ⟨h1.1, h.2.1, h1.2⟩), ih hl]
      simp
    | cons b bs =>
      simp only [pick]
      split
      · rw [mg_front_x (fun y hy => by
          have h1 := apt_mem hl ((pick_sub l bs).2 y hy)
          exact ⟨h1.1, h.2.1⟩), ih hl]
        simp
      · rw [mg_front_y (fun y hy => by
          have h1 := apt_mem hl ((pick_sub l bs).1 y hy)
          exact ⟨h1.1, h.2.1, h1.2⟩), ih hl]
        simp

/-! ### the reference -/
/-- a stable merge of two lists: the first list's elements first where neither stands before the other -/
def smg : List Ed → List Ed → List Ed
  | [], ys => ys
  | xs, [] => xs
  | x :: xs, y :: ys => if beforeB y x = true then y :: smg (x :: xs) ys else x :: smg xs (y :: ys)
termination_by xs ys => xs.length + ys.length

/-- an edit put behind all that it does not stand before -/
def insE (e : Ed) : List Ed → List Ed
  | [] => [e]
  | x :: l => if (x :: l).all (fun y => beforeB e y) = true then e :: x :: l else x :: insE e l
def sortE (l : List Ed) : List Ed := l.foldl (fun acc e => insE e acc) []

def mofB (x y : List Ed) : Bool := y.all fun e => x.all fun d => edEqB d e || !overlapB d e
def mofL (x y : List Ed) : List Ed := x ++ y.filter fun e => !x.any fun d => edEqB d e

theorem smg_nil_left (ys : List Ed) : smg [] ys = ys := by unfold smg; rfl
theorem smg_nil_right (xs : List Ed) : smg xs [] = xs := by cases xs <;> (unfold smg; rfl)
theorem smg_cons (x y : Ed) (xs ys : List Ed) : smg (x :: xs) (y :: ys) = if beforeB y x = true then y :: smg (x :: xs) ys else x :: smg xs (y :: ys) := by
  conv => lhs; unfold smg
theorem smg_x {x : Ed} {xs ys : List Ed} (h : ∀ y ∈ ys, beforeB y x = false) : smg (x :: xs) ys = x :: smg xs ys := by
  cases ys with
  | nil => rw [smg_nil_right, smg_nil_right]
  | cons y ys => rw [smg_cons, if_neg (by rw [h y (by simp)]; simp)]

theorem insE_last {e : Ed} {l : List Ed} (h : ∀ y ∈ l, beforeB e y = false) : insE e l = l ++ [e] := by
  induction l with
  | nil => rfl
  | cons x l ih =>
    rw [insE, if_neg (by simp [h x (by simp)]), ih (fun y hy => h y (by simp [hy]))]
    rfl

/-- each stands ahead of all behind it, with a greater start -/
def Inc : List Ed → Prop
  | [] => True
  | x :: l => (∀ y ∈ l, x.s < y.s) ∧ Inc l
theorem inc_of {size at_ : Int} {l : List Ed} (h : Apt size at_ l) : Inc l := by
  induction l generalizing at_ with
  | nil => trivial
  | cons x l ih =>
    refine ⟨fun y hy => ?_, ih h.2.2.2.2⟩
    have h1 := apt_mem h.2.2.2.2 hy
    have h2 := h.2.1
    omega
theorem inc_filter {l : List Ed} (h : Inc l) (p : Ed → Bool) : Inc (l.filter p) := by
  induction l with
  | nil => trivial
  | cons x l ih =>
    rw [List.filter_cons]
    split
    · exact ⟨fun y hy => h.1 y (List.mem_filter.1 hy).1, ih h.2⟩
    · exact ih h.2
theorem before_false_of_le {a b : Ed} (h : b.s < a.s) : beforeB a b = false := by
  simp [beforeB]; omega

theorem insE_smg {x ys : List Ed} {e : Ed} (hx : Inc x) (he : ∀ y ∈ ys, beforeB e y = false) : insE e (smg x ys) = smg x (ys ++ [e]) := by
  induction x generalizing ys with
  | nil => rw [smg_nil_left, smg_nil_left, insE_last he]
  | cons x xs ihx =>
    induction ys with
    | nil =>
      rw [smg_nil_right, List.nil_append, smg_cons, insE]
      by_cases hb : beforeB e x = true
      · rw [if_pos hb, if_pos, smg_nil_right]
        simp only [List.all_cons, hb, Bool.true_and, List.all_eq_true]
        intro y hy
        have := hx.1 y hy
        simp only [beforeB, decide_eq_true_eq] at hb ⊢
        omega
      · rw [if_neg hb, if_neg (by simp [hb])]
        have := ihx (ys := []) hx.2 (by simp)
        rw [smg_nil_right] at this
        rw [this]
        rfl
    | cons y ys ihy =>
      rw [List.cons_append, smg_cons, smg_cons]
      by_cases hb : beforeB y x = true
      · rw [if_pos hb, if_pos hb, insE, if_neg (by simp [he y (by simp)]), ihy (fun z hz => he z (by simp [hz]))]
      · rw [if_neg hb, if_neg hb]
        have hy : y ∈ smg xs (y :: ys) := by
          clear ihx ihy hb he hx
          induction xs with
          | nil => rw [smg_nil_left]; simp
          | cons a xs ih =>
            rw [smg_cons]
            split
            · simp
            · simp [ih]
        rw [insE, if_neg, ihx hx.2 he]
        · rfl
        · intro h
          rw [List.all_eq_true] at h
          have := h y (List.mem_cons_of_mem _ hy)
          rw [he y (by simp)] at this
          cases this

theorem foldl_ins_inc (l acc : List Ed) (h : Inc (acc ++ l)) : l.foldl (fun acc e => insE e acc) acc = acc ++ l := by
  induction l generalizing acc with
  | nil => simp
  | cons x l ih =>
    have hlt : ∀ y ∈ acc, y.s < x.s := by
      clear ih
      induction acc with
      | nil => simp
      | cons a acc ih2 =>
        intro y hy
        rcases List.mem_cons.1 hy with rfl | hy
        · exact h.1 x (by simp)
        · exact ih2 h.2 y hy
    rw [List.foldl_cons, insE_last (fun y hy => before_false_of_le (hlt y hy)), ih _ (by simpa using h)]
    simp
theorem foldl_ins_smg (x ys zs : List Ed) (hx : Inc x) (hy : Inc (ys ++ zs)) : zs.foldl (fun acc e => insE e acc) (smg x ys) = smg x (ys ++ zs) := by
  induction zs generalizing ys with
  | nil => simp
  | cons e zs ih =>
    have hlt : ∀ y ∈ ys, y.s < e.s := by
      clear ih
      induction ys with
      | nil => simp
      | cons a ys ih2 =>
        intro y hy'
        rcases List.mem_cons.1 hy' with rfl | hy'
        · exact hy.1 e (by simp)
        · exact ih2 hy.2 y hy'
    rw [List.foldl_cons, insE_smg hx (fun y h => before_false_of_le (hlt y h)), ih _ (by simpa using hy)]
    simp
theorem sortE_smg (x ys : List Ed) (hx : Inc x) (hy : Inc ys) : sortE (x ++ ys) = smg x ys := by
  unfold sortE
  rw [List.foldl_append, foldl_ins_inc x [] (by simpa using hx)]
  have := foldl_ins_smg x [] ys hx (by simpa using hy)
  rw [smg_nil_right] at this
  simpa using this

/-- not one of a list -/
def notIn (x : List Ed) (e : Ed) : Bool := !x.any fun d => edEqB d e

theorem mg_ref (n : Nat) : ∀ (x y acc : List Ed) (size a b : Int), x.length + y.length ≤ n → Apt size a x → Apt size b y → mofB x y = true →
    mg x y acc = some (acc ++ smg x (y.filter (notIn x))) := by
  induction n with
  | zero =>
    intro x y acc size a b hn _ _ _
    have hx : x = [] := List.eq_nil_of_length_eq_zero (by omega)
    have hy : y = [] := List.eq_nil_of_length_eq_zero (by omega)
    subst hx hy
    rw [mg_end _ _ _ (.inl rfl)]
    simp [smg_nil_left]
  | succ n ih =>
    intro x y acc size a b hn hx hy hm
    cases x with
    | nil =>
      have hf : y.filter (notIn []) = y := List.filter_eq_self.2 (fun _ _ => by simp [notIn])
      rw [mg_end _ _ _ (.inl rfl), smg_nil_left, hf]
      simp
    | cons p xs =>
      cases y with
      | nil =>
        rw [mg_end _ _ _ (.inr rfl)]
        simp [smg_nil_right]
      | cons q ys =>
        have hps := hx.2.1
        have hqs := hy.2.1
        have hxs := fun z (hz : z ∈ xs) => apt_mem hx.2.2.2.2 hz
        have hys := fun z (hz : z ∈ ys) => apt_mem hy.2.2.2.2 hz
        have hm' := hm
        simp only [mofB, List.all_cons, Bool.and_eq_true, List.all_eq_true] at hm'
        obtain ⟨⟨hpq, hxq⟩, hpy⟩ := hm'
        simp only [List.length_cons] at hn
        rw [mg_step]
        by_cases heq : edEqB p q = true
        · have he := edEq_s heq
          rw [if_pos heq, ih xs ys _ size p.e q.e (by omega) hx.2.2.2.2 hy.2.2.2.2 (by
            simp only [mofB, List.all_eq_true]
            intro z hz d hd
            exact (hpy z hz).2 d hd)]
          have hf : (q :: ys).filter (notIn (p :: xs)) = ys.filter (notIn xs) := by
            rw [List.filter_cons, if_neg (by simp [notIn, heq])]
            apply List.filter_congr
            intro z hz
            have := hys z hz
            have hne : edEqB p z = false := by
              cases h : edEqB p z
              · rfl
              · have := edEq_s h; omega
            simp [notIn, hne]
          rw [hf, smg_x (fun z hz => before_false_of_le (by have := hys z (List.mem_filter.1 hz).1; omega))]
          simp
        · rw [if_neg heq]
          by_cases h1 : p.e ≤ q.s
          · have hle : ∀ z ∈ q :: ys, p.e ≤ z.s ∧ z.s ≤ z.e := by
              intro z hz
              rcases List.mem_cons.1 hz with rfl | hz
              · exact ⟨h1, hqs⟩
              · have := hys z hz; omega
            have hne : ∀ z ∈ q :: ys, edEqB p z = false := by
              intro z hz
              cases h : edEqB p z
              · rfl
              · have he := edEq_s h
                have h2 := hle z hz
                rcases List.mem_cons.1 hz with rfl | hz
                · exact absurd h heq
                · have := hys z hz; omega
            rw [if_pos h1, ih xs (q :: ys) _ size p.e b (by simp only [List.length_cons]; omega) hx.2.2.2.2 hy (by
              simp only [mofB, List.all_cons, Bool.and_eq_true, List.all_eq_true]
              exact ⟨hxq, fun z hz d hd => (hpy z hz).2 d hd⟩)]
            have hf : (q :: ys).filter (notIn (p :: xs)) = (q :: ys).filter (notIn xs) := by
              apply List.filter_congr
              intro z hz
              simp [notIn, hne z hz]
            rw [hf, smg_x (fun z hz => by
              have h2 := hle z (List.mem_filter.1 hz).1
              simp [beforeB]
              omega)]
            simp
          · rw [if_neg h1]
            by_cases h2 : q.e ≤ p.s
            · have hnq : notIn (p :: xs) q = true := by
                simp only [notIn, List.any_cons, Bool.not_or, Bool.and_eq_true, Bool.not_eq_true', List.any_eq_false]
                refine ⟨by simpa using heq, fun z hz => ?_⟩
                intro h
                have := edEq_s h
                have := hxs z hz
                omega
              rw [if_pos h2, ih (p :: xs) ys _ size a q.e (by simp only [List.length_cons]; omega) hx hy.2.2.2.2 (by
                simp only [mofB, List.all_cons, Bool.and_eq_true, List.all_eq_true]
                exact fun z hz => hpy z hz)]
              rw [List.filter_cons, if_pos hnq, smg_cons, if_pos (by simp [beforeB]; omega)]
              simp
            · exfalso
              rcases Bool.or_eq_true _ _ ▸ hpq with h | h
              · exact heq h
              · simp only [overlapB, Bool.not_eq_true', decide_eq_false_iff_not] at h
                omega

theorem mg_reference {x y : List Ed} {size : Int} (hx : apartF size (-1) x = true) (hy : apartF size (-1) y = true) (hm : mofB x y = true) :
    mg x y [] = some (sortE (mofL x y)) := by
  have h1 := apt_of _ _ _ hx
  have h2 := apt_of _ _ _ hy
  rw [mg_ref _ x y [] size (-1) (-1) (Nat.le_refl _) h1 h2 hm]
  unfold mofL
  rw [sortE_smg _ _ (inc_of h1) (inc_filter (inc_of h2) _)]
  rfl

theorem edAt_get {l : List Ed} {j : Nat} (h : j < l.length) : edAt l j = l[j] := by simp [edAt, h]
/-- where an edit is put -/
theorem insE_at {e : Ed} {l : List Ed} (p : Nat) (hp : p ≤ l.length) (h1 : ∀ j, p ≤ j → j < l.length → beforeB e (edAt l j) = true) (h2 : 0 < p → beforeB e (edAt l (p - 1)) = false) :
    insE e l = l.take p ++ e :: l.drop p := by
  induction l generalizing p with
  | nil =>
    have : p = 0 := by simpa using hp
    subst this
    rfl
  | cons x l ih =>
    rw [insE]
    cases p with
    | zero =>
      rw [if_pos]
      · rfl
      · rw [List.all_eq_true]
        intro y hy
        obtain ⟨j, hj, rfl⟩ := List.mem_iff_getElem.1 hy
        have := h1 j (by omega) hj
        rw [edAt_get hj] at this
        exact this
    | succ p =>
      rw [if_neg]
      · rw [ih p (by simpa using hp) (fun j hj hj2 => by
          have := h1 (j + 1) (by omega) (by simpa using hj2)
          simpa [edAt] using this) (fun h0 => by
          have := h2 (by omega)
          cases p with
          | zero => omega
          | succ p => simpa [edAt] using this)]
        rfl
      · intro h
        rw [List.all_eq_true] at h
        have h3 := h2 (by omega)
        have hp2 : p < (x :: l).length := by simp only [List.length_cons] at *; omega
        have h4 := h ((x :: l)[p]'hp2) (List.getElem_mem _)
        rw [Nat.add_sub_cancel, edAt_get hp2, h4] at h3
        cases h3

end Go.Proofs.YtgphjnhbheimiaaDoor

namespace Go.Proofs.YtgphjnhbheimiaaDoor
set_option linter.unusedVariables false

/-- an insertion behind a deletion with the same start -/
def oddB (d e : Ed) : Bool := decide (d.s = e.s ∧ e.e < d.e)
/-- what is told of the edits behind those told already -/
def toldL (size : Int) : Int → List Ed → List Ed → Int
  | t, _, [] => t
  | t, pre, e :: l => if insideB e size = true ∧ ∀ d ∈ pre, overlapB d e = false then toldL size (if ∃ d ∈ pre, oddB d e = true then 2 else t) (pre ++ [e]) l else 1
def toldF (size : Int) (es : List Ed) : Int := toldL size 0 [] es

/-- all within bounds, no two overlap -/
def Fits (size : Int) (es : List Ed) : Prop := (∀ e ∈ es, insideB e size = true) ∧ es.Pairwise fun d e => overlapB d e = false
theorem toldL_iff (size : Int) (l : List Ed) : ∀ (t : Int) (pre : List Ed), t ≠ 1 → (toldL size t pre l ≠ 1 ↔ ((∀ e ∈ l, insideB e size = true) ∧ (l.Pairwise fun d e => overlapB d e = false) ∧ ∀ d ∈ pre, ∀ e ∈ l, overlapB d e = false)) := by
  induction l with
  | nil => intro t pre ht; simp [toldL, ht]
  | cons e l ih =>
    intro t pre ht
    unfold toldL
    by_cases h : insideB e size = true ∧ ∀ d ∈ pre, overlapB d e = false
    · rw [if_pos h, ih _ _ (by split <;> simp_all)]
      constructor
      · rintro ⟨h1, h2, h3⟩
        refine ⟨fun x hx => ?_, ?_, fun d hd x hx => ?_⟩
        · rcases List.mem_cons.1 hx with rfl | hx
          · exact h.1
          · exact h1 x hx
        · exact List.pairwise_cons.2 ⟨fun x hx => h3 e (by simp) x hx, h2⟩
        · rcases List.mem_cons.1 hx with rfl | hx
          · exact h.2 d hd
          · exact h3 d (by simp [hd]) x hx
      · rintro ⟨h1, h2, h3⟩
        refine ⟨fun x hx => h1 x (by simp [hx]), (List.pairwise_cons.1 h2).2, fun d hd x hx => ?_⟩
        rcases List.mem_append.1 hd with hd | hd
        · exact h3 d hd x (by simp [hx])
        · obtain rfl : d = e := by simpa using hd
          exact (List.pairwise_cons.1 h2).1 x hx
    · rw [if_neg h]
      constructor
      · intro h0; exact absurd rfl h0
      · rintro ⟨h1, h2, h3⟩
        exact absurd ⟨h1 e (by simp), fun d hd => h3 d hd e (by simp)⟩ h
theorem toldF_iff (size : Int) (es : List Ed) : toldF size es ≠ 1 ↔ Fits size es := by
  unfold toldF
  rw [toldL_iff size es 0 [] (by omega)]
  simp [Fits]
theorem toldL_cases (size : Int) (l : List Ed) : ∀ (t : Int) (pre : List Ed), (t = 0 ∨ t = 2) → toldL size t pre l = 0 ∨ toldL size t pre l = 1 ∨ toldL size t pre l = 2 := by
  induction l with
  | nil => intro t pre ht; simp only [toldL]; omega
  | cons e l ih =>
    intro t pre ht
    unfold toldL
    split
    · exact ih _ _ (by split <;> simp_all)
    · simp
theorem toldF_cases (size : Int) (es : List Ed) : toldF size es = 0 ∨ toldF size es = 1 ∨ toldF size es = 2 := toldL_cases size es 0 [] (.inl rfl)
/-- in order: nothing odd -/
theorem toldL_order (size : Int) (l : List Ed) : ∀ (at_ : Int) (pre : List Ed), inOrderF size at_ l = true → (∀ d ∈ pre, d.s ≤ d.e ∧ d.e ≤ at_) → toldL size 0 pre l = 0 := by
  induction l with
  | nil => intros; rfl
  | cons e l ih =>
    intro at_ pre h hp
    obtain ⟨h1, h2, h3, h4, h5⟩ := inOrderF_cons h
    have hno : ¬ ∃ d ∈ pre, oddB d e = true := by
      rintro ⟨d, hd, ho⟩
      have := hp d hd
      simp only [oddB, decide_eq_true_eq] at ho
      omega
    unfold toldL
    rw [if_pos ⟨by simp [insideB]; omega, fun d hd => by have := hp d hd; simp only [overlapB, decide_eq_false_iff_not]; omega⟩, if_neg hno]
    refine ih e.e (pre ++ [e]) h5 fun d hd => ?_
    rcases List.mem_append.1 hd with hd | hd
    · have := hp d hd; omega
    · obtain rfl : d = e := by simpa using hd
      omega
theorem toldF_order {size : Int} {es : List Ed} (h : inOrderF size 0 es = true) : toldF size es = 0 := toldL_order size es 0 [] h (fun _ hd => by cases hd)
theorem inOrderF_mem {size at_ : Int} {l : List Ed} (h : inOrderF size at_ l = true) : ∀ x ∈ l, at_ ≤ x.s ∧ x.s ≤ x.e ∧ x.e ≤ size := by
  induction l generalizing at_ with
  | nil => intro x hx; cases hx
  | cons y l ih =>
    obtain ⟨h1, h2, h3, h4, h5⟩ := inOrderF_cons h
    intro x hx
    rcases List.mem_cons.1 hx with rfl | hx
    · omega
    · have := ih h5 x hx; omega
theorem inOrderF_pair {size at_ : Int} {l : List Ed} (h : inOrderF size at_ l = true) : l.Pairwise fun d e => d.e ≤ e.s := by
  induction l generalizing at_ with
  | nil => exact .nil
  | cons y l ih =>
    obtain ⟨h1, h2, h3, h4, h5⟩ := inOrderF_cons h
    exact List.pairwise_cons.2 ⟨fun x hx => (inOrderF_mem h5 x hx).1, ih h5⟩
theorem foldl_ins_order (l acc : List Ed) (h : (acc ++ l).Pairwise fun x y => beforeB y x = false) : l.foldl (fun acc e => insE e acc) acc = acc ++ l := by
  induction l generalizing acc with
  | nil => simp
  | cons e l ih =>
    rw [List.foldl_cons, insE_last (fun y hy => by
      have := (List.pairwise_append.1 h).2.2 y hy e (by simp)
      exact this), ih _ (by rw [List.append_assoc]; exact h), List.append_assoc]
    rfl
/-- edits in their order: sorting leaves them -/
theorem sortE_order {size at_ : Int} {es : List Ed} (h : inOrderF size at_ es = true) : sortE es = es := by
  have h2 := inOrderF_pair h
  have h3 := inOrderF_mem h
  have := foldl_ins_order es [] (by
    rw [List.nil_append]
    refine (List.pairwise_iff_getElem.2 fun i j hi hj hij => ?_)
    have g1 := List.pairwise_iff_getElem.1 h2 i j hi hj hij
    have g2 := h3 _ (List.getElem_mem hi)
    have g3 := h3 _ (List.getElem_mem hj)
    simp only [beforeB, decide_eq_false_iff_not]
    omega)
  simpa [sortE] using this
/-- sorted edits that fit stand in order -/
theorem order_of_fits {size : Int} {l : List Ed} (h : Fits size l) (hs : l.Pairwise fun x y => beforeB y x = false) : ∀ at_ : Int, (∀ x ∈ l, at_ ≤ x.s) → inOrderF size at_ l = true := by
  induction l with
  | nil => intros; rfl
  | cons x l ih =>
    intro at_ ha
    have h1 := h.1 x (by simp)
    have h2 := ha x (by simp)
    obtain ⟨p1, p2⟩ := List.pairwise_cons.1 h.2
    obtain ⟨q1, q2⟩ := List.pairwise_cons.1 hs
    have := ih ⟨fun e he => h.1 e (by simp [he]), p2⟩ q2 x.e (fun y hy => by
      have g1 := p1 y hy
      have g2 := q1 y hy
      have g3 := h.1 y (by simp [hy])
      simp only [overlapB, beforeB, insideB, decide_eq_false_iff_not, decide_eq_true_eq] at g1 g2 g3 h1
      omega)
    simp only [inOrderF, this, h1, Bool.and_true, Bool.true_and, decide_eq_true_eq]
    exact h2
theorem fits_of_order {size : Int} {l : List Ed} (h : inOrderF size 0 l = true) : Fits size l := by
  refine ⟨fun e he => ?_, ?_⟩
  · have := inOrderF_mem h e he
    simp only [insideB, decide_eq_true_eq]; omega
  · have h2 := inOrderF_pair h
    exact h2.imp fun hle => by simp only [overlapB, decide_eq_false_iff_not]; omega
theorem overlapB_symm (d e : Ed) : overlapB d e = overlapB e d := by
  simp only [overlapB]
  congr 1
  exact propext ⟨fun ⟨a, b⟩ => ⟨b, a⟩, fun ⟨a, b⟩ => ⟨b, a⟩⟩
theorem Fits.perm {size : Int} {l l' : List Ed} (h : Fits size l) (hp : l.Perm l') : Fits size l' :=
  ⟨fun e he => h.1 e (hp.mem_iff.2 he), h.2.perm hp (fun {x y} hxy => by rw [overlapB_symm]; exact hxy)⟩
/-- told nothing odd: no insertion behind a deletion with the same start -/
theorem toldL_even (size : Int) (l : List Ed) : ∀ (t : Int) (pre : List Ed), toldL size t pre l = 0 → t = 0 ∧ (l.Pairwise fun d e => oddB d e = false) ∧ ∀ d ∈ pre, ∀ e ∈ l, oddB d e = false := by
  induction l with
  | nil => intro t pre h; exact ⟨h, .nil, fun d hd e he => by cases he⟩
  | cons e l ih =>
    intro t pre h
    unfold toldL at h
    split at h
    · obtain ⟨h1, h2, h3⟩ := ih _ _ h
      have hno : ¬ ∃ d ∈ pre, oddB d e = true := fun hh => by rw [if_pos hh] at h1; cases h1
      rw [if_neg hno] at h1
      refine ⟨h1, List.pairwise_cons.2 ⟨fun x hx => h3 e (by simp) x hx, h2⟩, fun d hd x hx => ?_⟩
      rcases List.mem_cons.1 hx with rfl | hx
      · cases hb : oddB d x with
        | false => rfl
        | true => exact absurd ⟨d, hd, hb⟩ hno
      · exact h3 d (by simp [hd]) x hx
    · cases h
end Go.Proofs.YtgphjnhbheimiaaDoor
