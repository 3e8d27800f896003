/-
  The reference's small functions on edits: Inside, Overlap, Before, SameEdits, InOrder, Apart. Condition: at most 20000000 edits.
-/
import Derived.Test.YtoceakjnkillkaaEdits
namespace Go.Proofs.Ytoceakjnkillkaa
set_option linter.unusedVariables false
open Go.RowKit

def insideB (x : Ed) (size : Int) : Bool := decide (0 ≤ x.s ∧ x.s ≤ x.e ∧ x.e ≤ size)
def overlapB (x y : Ed) : Bool := decide (x.s < y.e ∧ y.s < x.e)
def beforeB (x y : Ed) : Bool := decide (x.s < y.s ∨ x.s = y.s ∧ x.e < y.e)

set_option maxHeartbeats 400000 in
theorem inside_any (x : Ed) (size : Int) (w : World) :
   Calls Try.prog 31 #[.agg #[.int .i64 x.s, .int .i64 x.e, .string x.n], .int .i64 size] w fun e w' => e = .returned (.bool (insideB x size)) ∧ Below w.heap.size w w' := by
  obtain ⟨s, e, n⟩ := x
  simp only
  by_cases h1 : 0 ≤ s
  · by_cases h2 : s ≤ e
    · by_cases h3 : e ≤ size
      all_goals
        go_enter Try.func31, Try.ntmps31
        go_wp2
        go_ret
        exact ⟨ret_bool (by symm; simp [insideB]; omega), (Below.refl _ _).alloc (Nat.le_refl _) _⟩
    · go_enter Try.func31, Try.ntmps31
      go_wp2
      go_ret
      exact ⟨ret_bool (by symm; simp [insideB]; omega), (Below.refl _ _).alloc (Nat.le_refl _) _⟩
  · go_enter Try.func31, Try.ntmps31
    go_wp2
    go_ret
    exact ⟨ret_bool (by symm; simp [insideB]; omega), (Below.refl _ _).alloc (Nat.le_refl _) _⟩

set_option maxHeartbeats 400000 in
theorem overlap_any (x y : Ed) (w : World) :
   Calls Try.prog 32 #[.agg #[.int .i64 x.s, .int .i64 x.e, .string x.n], .agg #[.int .i64 y.s, .int .i64 y.e, .string y.n]] w fun e w' => e = .returned (.bool (overlapB x y)) ∧ Below w.heap.size w w' := by
  obtain ⟨s, e, n⟩ := x
  obtain ⟨s', e', n'⟩ := y
  simp only
  by_cases h1 : s < e'
  · by_cases h2 : s' < e
    all_goals
      go_enter Try.func32, Try.ntmps32
      go_wp2
      go_ret
      exact ⟨ret_bool (by symm; simp [overlapB]; omega), ((Below.refl _ _).alloc (Nat.le_refl _) _).alloc (by simp) _⟩
  · go_enter Try.func32, Try.ntmps32
    go_wp2
    go_ret
    exact ⟨ret_bool (by symm; simp [overlapB]; omega), ((Below.refl _ _).alloc (Nat.le_refl _) _).alloc (by simp) _⟩

set_option maxHeartbeats 400000 in
theorem before_any (x y : Ed) (w : World) :
   Calls Try.prog 37 #[.agg #[.int .i64 x.s, .int .i64 x.e, .string x.n], .agg #[.int .i64 y.s, .int .i64 y.e, .string y.n]] w fun e w' => e = .returned (.bool (beforeB x y)) ∧ Below w.heap.size w w' := by
  obtain ⟨s, e, n⟩ := x
  obtain ⟨s', e', n'⟩ := y
  simp only
  by_cases h1 : s < s'
  · go_enter Try.func37, Try.ntmps37
    go_wp2
    go_ret
    exact ⟨ret_bool (by symm; simp [beforeB]; omega), ((Below.refl _ _).alloc (Nat.le_refl _) _).alloc (by simp) _⟩
  · by_cases h2 : s = s'
    · have h2' : (s == s') = true := by simp [h2]
      have H2 := Lib.hid h2; clear h2
      by_cases h3 : e < e'
      all_goals
        go_enter Try.func37, Try.ntmps37
        go_wp2
        go_ret
        exact ⟨ret_bool (by have := H2.out; symm; simp [beforeB]; omega), ((Below.refl _ _).alloc (Nat.le_refl _) _).alloc (by simp) _⟩
    · have h2' : (s == s') = false := by simp [h2]
      go_enter Try.func37, Try.ntmps37
      go_wp2
      go_ret
      exact ⟨ret_bool (by symm; simp [beforeB]; omega), ((Below.refl _ _).alloc (Nat.le_refl _) _).alloc (by simp) _⟩



def edEqB (x y : Ed) : Bool := (x.s == y.s) && (x.e == y.e) && (x.n.toList == y.n.toList)
/-- two lists of edits are the same -/
def sameE : List Ed → List Ed → Bool
  | [], [] => true
  | x :: a, y :: b => edEqB x y && sameE a b
  | _, _ => false
theorem sameE_len {a b : List Ed} (h : a.length ≠ b.length) : sameE a b = false := by
  induction a generalizing b with
  | nil => cases b <;> simp [sameE] at *
  | cons x a ih => cases b with
    | nil => simp [sameE]
    | cons y b => simp [sameE, ih (b := b) (by simpa using h)]
theorem sameE_at {a b : List Ed} {k : Nat} (hk : k < a.length) (hk' : k < b.length) (h : edEqB (edAt a k) (edAt b k) = false) : sameE a b = false := by
  induction a generalizing b k with
  | nil => simp at hk
  | cons x a ih => cases b with
    | nil => simp at hk'
    | cons y b => cases k with
      | zero => simp [edAt] at h; simp [sameE, h]
      | succ k => simp [edAt] at h; simp [sameE, ih (b := b) (k := k) (by simpa using hk) (by simpa using hk') (by simpa [edAt] using h)]
theorem sameE_all {a b : List Ed} (hl : a.length = b.length) (h : ∀ k, k < a.length → edEqB (edAt a k) (edAt b k) = true) : sameE a b = true := by
  induction a generalizing b with
  | nil => cases b <;> simp [sameE] at *
  | cons x a ih => cases b with
    | nil => simp at hl
    | cons y b =>
      have h0 := h 0 (by simp)
      simp [edAt] at h0
      simp only [sameE, h0, Bool.true_and]
      exact ih (by simpa using hl) (fun k hk => by simpa [edAt] using h (k + 1) (by simpa using hk))


/-- edits stand in their order with a byte between -/
def apartF (size : Int) : Int → List Ed → Bool
  | _, [] => true
  | at_, x :: l => insideB x size && decide (at_ < x.s) && apartF size x.e l
theorem apartF_drop (size at_ : Int) (es : List Ed) (k : Nat) (h : k < es.length) :
    apartF size at_ (es.drop k) = (insideB (edAt es k) size && decide (at_ < eS es k) && apartF size (eE es k) (es.drop (k + 1))) := by
  rw [List.drop_eq_getElem_cons h]
  simp [apartF, edAt, eS, eE, h]


/-- edits stand in their order -/
def inOrderF (size : Int) : Int → List Ed → Bool
  | _, [] => true
  | at_, x :: l => insideB x size && decide (at_ ≤ x.s) && inOrderF size x.e l
theorem inOrderF_drop (size at_ : Int) (es : List Ed) (k : Nat) (h : k < es.length) :
    inOrderF size at_ (es.drop k) = (insideB (edAt es k) size && decide (at_ ≤ eS es k) && inOrderF size (eE es k) (es.drop (k + 1))) := by
  rw [List.drop_eq_getElem_cons h]
  simp [inOrderF, edAt, eS, eE, h]

set_option maxHeartbeats 400000 in
theorem inOrder_any (A : Option Addr) (c : Nat) (es : List Ed) (size : Int) (w : World) (hr : EdsR w A es) (hl : es.length ≤ 20000000) :
   Calls Try.prog 22 #[.slice A es.length c, .int .i64 size] w fun e w' => e = .returned (.bool (inOrderF size (0) es)) ∧ Below w.heap.size w w' := by
  have HR := Lib.hid hr; clear hr
  obtain ⟨n, hln⟩ : ∃ n, es.length = n := ⟨_, rfl⟩
  rw [hln] at hl ⊢
  have HL := Lib.hid hln; clear hln
  go_enter Try.func22, Try.ntmps22
  go_wp2
  go_loopw [5, 7, 10] (fun v _ i wr => ∃ (k : Nat) (at_ : Int), k ≤ n ∧ i = .int .i64 k ∧ v = .int .i64 at_ ∧ inOrderF size (0) es = inOrderF size at_ (es.drop k) ∧ Below w.heap.size w wr) (fun _ _ i _ => n - (intOf i).toNat)
  case atStart => exact ⟨0, 0, by omega, rfl, rfl, rfl, Below.refl _ _⟩
  case round =>
    obtain ⟨k, at_, hk, rfl, rfl, heq, hb⟩ := hrel
    have HQ := Lib.hid heq; clear heq
    by_cases hlt : k < n
    · obtain ⟨b, off, rfl, hbb, g1, g2, g3⟩ := (EdsR.below HR.out hb (Nat.le_refl _)).at_ (k := k) (by rw [HL.out]; exact hlt)
      have hbs := hb.size
      have hd := inOrderF_drop size at_ es k (by rw [HL.out]; exact hlt)
      have HD := Lib.hid hd; clear hd
      have hin := inside_any (edAt es k) size
      have HI := Lib.hid hin; clear hin
      go_wp2_with (fail)
      refine (HI.out _).mono ?_
      rintro e w1 ⟨rfl, hb1⟩
      have hb2 : Below w.heap.size w w1 := (hb.alloc hb.size _).trans (hb1.mono (by simp; omega))
      have hB := (Blk.new wr 28 #[.int .i64 (eS es k), .int .i64 (eE es k), .string (eN es k)]).below hb1 (by simp)
      have c0 : w1.cell? ⟨wr.heap.size, 0, none⟩ = some (.int .i64 (eS es k)) := hB.cell 0
      have c1 : w1.cell? ⟨wr.heap.size, 1, none⟩ = some (.int .i64 (eE es k)) := hB.cell 1
      clear hB hb1
      have HB2 := Lib.hid hb2; clear hb2
      cases hi : insideB (edAt es k) size
      · have HN := Lib.hid hi; clear hi
        go_wp2
        go_ret
        exact ⟨ret_bool (by rw [HQ.out, HD.out, HN.out]; rfl), HB2.out⟩
      · have HN := Lib.hid hi; clear hi
        by_cases ho : at_ ≤ eS es k
        · go_wp2
          go_roundw
          case rel => exact ⟨k + 1, eE es k, by omega, by go_num, rfl, by rw [HQ.out, HD.out, HN.out, decide_eq_true ho]; rfl, HB2.out⟩
          case measure => simp [intOf]; omega
        · go_wp2
          go_ret
          exact ⟨ret_bool (by rw [HQ.out, HD.out, HN.out, decide_eq_false (by omega)]; rfl), HB2.out⟩
    · go_wp2
      go_ret
      exact ⟨ret_bool (by rw [HQ.out, List.drop_of_length_le (by rw [HL.out]; omega)]; rfl), hb⟩

end Go.Proofs.Ytoceakjnkillkaa
