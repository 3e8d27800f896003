/-
  What the reference tells and what Apply does agree: plainly. No condition but the length.
-/
import Derived.Test.YtgphjnhbheimiaaDoorValidS
import Derived.Test.YtgphjnhbheimiaaDoorAplE
namespace Go.Proofs.YtgphjnhbheimiaaDoor
set_option linter.unusedVariables false

theorem row0_tags (es : List Ed) : (rowT es.length (row0 es)).Pairwise fun p q => p.2 < q.2 := by
  rw [List.pairwise_iff_getElem]
  intro i j hi hj hij
  simpa [rowT, row0] using hij
theorem sortE_tagged (es : List Ed) : sortE es = (sortT (rowT es.length (row0 es))).map (·.1) := by rw [sortT_map, rowL_map, rowL_row0]
theorem sortE_perm (es : List Ed) : (sortE es).Perm es := by
  have h := (sortT_perm (rowT es.length (row0 es))).map (·.1)
  rw [rowL_map, rowL_row0, ← sortE_tagged] at h
  exact h
theorem sortE_pair (es : List Ed) : (sortE es).Pairwise fun x y => beforeB y x = false := by
  rw [sortE_tagged]
  have h := foldl_insT_sorted (rowT es.length (row0 es)) [] .nil (row0_tags es) (fun x hx => by cases hx)
  refine List.Pairwise.map (S := fun x y : Ed => beforeB y x = false) (fun p : EdT => p.1) ?_ h
  intro p q hpq
  show beforeB q.1 p.1 = false
  simp only [beforeB, decide_eq_false_iff_not]
  unfold RR at hpq
  omega
theorem told_order {size : Int} {es : List Ed} (h : toldF size es ≠ 1) : inOrderF size 0 (sortE es) = true := by
  have hf := (toldF_iff size es).1 h
  have hf2 := hf.perm (sortE_perm es).symm
  refine order_of_fits hf2 (sortE_pair es) 0 fun x hx => ?_
  have := hf2.1 x hx
  simp only [insideB, decide_eq_true_eq] at this
  omega
theorem told_good {N : Nat} {es : List Ed} (hN : N ≤ 2000000) (h : toldF N es ≠ 1) : ∀ x ∈ es, GoodE x := by
  intro x hx
  have := ((toldF_iff N es).1 h).1 x hx
  simp only [insideB, decide_eq_true_eq] at this
  unfold GoodE; omega
theorem told_apply {s : ByteArray} {es es' : List Ed} (hs : s.size ≤ 2000000) (h : SortOf es es') :
    (toldF s.size es = 1 ∧ apF s es' = none) ∨ (toldF s.size es ≠ 1 ∧ es' = sortE es ∧ apF s es' = some (patchB s 0 (sortE es))) := by
  by_cases h1 : toldF s.size es = 1
  · refine .inl ⟨h1, ?_⟩
    unfold apF
    rw [if_neg]
    intro h2
    exact absurd h1 ((toldF_iff _ _).2 ((fits_of_order h2).perm h.1))
  · refine .inr ⟨h1, ?_⟩
    have he := h.2 (told_good hs h1)
    refine ⟨he, ?_⟩
    unfold apF
    rw [he, if_pos (told_order h1)]
/-- sorted ahead, then applied -/
theorem told_apply2 {s : ByteArray} {es es2 es3 : List Ed} (hs : s.size ≤ 2000000) (h : SortOf es es2) (h' : SortOf es2 es3) :
    (toldF s.size es = 1 ∧ apF s es3 = none) ∨ (toldF s.size es ≠ 1 ∧ apF s es3 = some (patchB s 0 (sortE es))) := by
  by_cases h1 : toldF s.size es = 1
  · refine .inl ⟨h1, ?_⟩
    unfold apF
    rw [if_neg]
    intro h2
    exact absurd h1 ((toldF_iff _ _).2 ((fits_of_order h2).perm (h'.1.trans h.1)))
  · refine .inr ⟨h1, ?_⟩
    have hg := told_good hs h1
    have he := h.2 hg
    have he2 := h'.2 (fun x hx => hg x (h.1.mem_iff.1 hx))
    have h3 : sortE es2 = sortE es := by rw [he]; exact sortE_order (told_order h1)
    unfold apF
    rw [he2, h3, if_pos (told_order h1)]
theorem apF_x : apF ⟨#[120]⟩ [⟨0, 1, ⟨#[]⟩⟩] = some ⟨#[]⟩ := by
  unfold apF
  rw [if_pos (by decide)]
  rfl
theorem szR_le {es : List Ed} (h : ¬ (1000000 : Int) < szR es) : szE es ≤ 1000000 := by
  unfold szR at h
  split at h
  · assumption
  · omega
theorem szR_nonneg (es : List Ed) : 0 ≤ szR es ∧ szR es ≤ 9223372036854775807 := by
  unfold szR
  split <;> omega
end Go.Proofs.YtgphjnhbheimiaaDoor
