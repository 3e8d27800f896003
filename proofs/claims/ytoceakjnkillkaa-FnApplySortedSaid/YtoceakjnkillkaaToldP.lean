/-
  What is told of edits, plainly: applied, refused, unsaid; edits in their order. No condition.
-/
import Derived.Test.YtoceakjnkillkaaMergeQ
import Derived.Test.YtoceakjnkillkaaPatchP
namespace Go.Proofs.Ytoceakjnkillkaa
set_option linter.unusedVariables false

/-- an insertion behind a deletion with the same start -/
def oddB (d e : Ed) : Bool := decide (d.s = e.s ∧ e.e < d.e)
/-- what is told of the edits behind those told already -/
def toldL (size : Int) : Int → List Ed → List Ed → Int
  | t, _, [] => t
  | t, pre, e :: l => if insideB e size = true ∧ ∀ d ∈ pre, overlapB d e = false then toldL size (if ∃ d ∈ pre, oddB d e = true then 2 else t) (pre ++ [e]) l else 1
def toldF (size : Int) (es : List Ed) : Int := toldL size 0 [] es

/-- all within bounds, no two overlap -/
def Fits (size : Int) (es : List Ed) : Prop := (∀ e ∈ es, insideB e size = true) ∧ es.Pairwise fun d e => overlapB d e = false
theorem toldL_iff (size : Int) (l : List Ed) : ∀ (t : Int) (pre : List Ed), t ≠ 1 → (toldL size t pre l ≠ 1 ↔ ((∀ e ∈ l, insideB e size = true) ∧ (l.Pairwise fun d e => overlapB d e = false) ∧ ∀ d ∈ pre, ∀ e ∈ l, overlapB d e = false)) := by
  induction l with
  | nil => intro t pre ht; simp [toldL, ht]
  | cons e l ih =>
    intro t pre ht
    unfold toldL
    by_cases h : insideB e size = true ∧ ∀ d ∈ pre, overlapB d e = false
    · rw [if_pos h, ih _ _ (by split <;> simp_all)]
      constructor
      · rintro ⟨h1, h2, h3⟩
        refine ⟨fun x hx => ?_, ?_, fun d hd x hx => ?_⟩
        · rcases List.mem_cons.1 hx with rfl | hx
          · exact h.1
          · exact h1 x hx
        · exact List.pairwise_cons.2 ⟨fun x hx => h3 e (by simp) x hx, h2⟩
        · rcases List.mem_cons.1 hx with rfl | hx
          · exact h.2 d hd
          · exact h3 d (by simp [hd]) x hx
      · rintro ⟨h1, h2, h3⟩
        refine ⟨fun x hx => h1 x (by simp [hx]), (List.pairwise_cons.1 h2).2, fun d hd x hx => ?_⟩
        rcases List.mem_append.1 hd with hd | hd
        · exact h3 d hd x (by simp [hx])
        · obtain rfl : d = e := by simpa using hd
          exact (List.pairwise_cons.1 h2).1 x hx
    · rw [if_neg h]
      constructor
      · intro h0; exact absurd rfl h0
      · rintro ⟨h1, h2, h3⟩
        exact absurd ⟨h1 e (by simp), fun d hd => h3 d hd e (by simp)⟩ h
theorem toldF_iff (size : Int) (es : List Ed) : toldF size es ≠ 1 ↔ Fits size es := by
  unfold toldF
  rw [toldL_iff size es 0 [] (by omega)]
  simp [Fits]
theorem toldL_cases (size : Int) (l : List Ed) : ∀ (t : Int) (pre : List Ed), (t = 0 ∨ t = 2) → toldL size t pre l = 0 ∨ toldL size t pre l = 1 ∨ toldL size t pre l = 2 := by
  induction l with
  | nil => intro t pre ht; simp only [toldL]; omega
  | cons e l ih =>
    intro t pre ht
    unfold toldL
    split
    · exact ih _ _ (by split <;> simp_all)
    · simp
theorem toldF_cases (size : Int) (es : List Ed) : toldF size es = 0 ∨ toldF size es = 1 ∨ toldF size es = 2 := toldL_cases size es 0 [] (.inl rfl)
/-- in order: nothing odd -/
theorem toldL_order (size : Int) (l : List Ed) : ∀ (at_ : Int) (pre : List Ed), inOrderF size at_ l = true → (∀ d ∈ pre, d.s ≤ d.e ∧ d.e ≤ at_) → toldL size 0 pre l = 0 := by
  induction l with
  | nil => intros; rfl
  | cons e l ih =>
    intro at_ pre h hp
    obtain ⟨h1, h2, h3, h4, h5⟩ := inOrderF_cons h
    have hno : ¬ ∃ d ∈ pre, oddB d e = true := by
      rintro ⟨d, hd, ho⟩
      have := hp d hd
      simp only [oddB, decide_eq_true_eq] at ho
      omega
    unfold toldL
    rw [if_pos ⟨by simp [insideB]; omega, fun d hd => by have := hp d hd; simp only [overlapB, decide_eq_false_iff_not]; omega⟩, if_neg hno]
    refine ih e.e (pre ++ [e]) h5 fun d hd => ?_
    rcases List.mem_append.1 hd with hd | hd
    · have := hp d hd; omega
    · obtain rfl : d = e := by simpa using hd
      omega
theorem toldF_order {size : Int} {es : List Ed} (h : inOrderF size 0 es = true) : toldF size es = 0 := toldL_order size es 0 [] h (fun _ hd => by cases hd)
theorem inOrderF_mem {size at_ : Int} {l : List Ed} (h : inOrderF size at_ l = true) : ∀ x ∈ l, at_ ≤ x.s ∧ x.s ≤ x.e ∧ x.e ≤ size := by
  induction l generalizing at_ with
  | nil => intro x hx; cases hx
  | cons y l ih =>
    obtain ⟨h1, h2, h3, h4, h5⟩ := inOrderF_cons h
    intro x hx
    rcases List.mem_cons.1 hx with rfl | hx
    · omega
    · have := ih h5 x hx; omega
theorem inOrderF_pair {size at_ : Int} {l : List Ed} (h : inOrderF size at_ l = true) : l.Pairwise fun d e => d.e ≤ e.s := by
  induction l generalizing at_ with
  | nil => exact .nil
  | cons y l ih =>
    obtain ⟨h1, h2, h3, h4, h5⟩ := inOrderF_cons h
    exact List.pairwise_cons.2 ⟨fun x hx => (inOrderF_mem h5 x hx).1, ih h5⟩
theorem foldl_ins_order (l acc : List Ed) (h : (acc ++ l).Pairwise fun x y => beforeB y x = false) : l.foldl (fun acc e => insE e acc) acc = acc ++ l := by
  induction l generalizing acc with
  | nil => simp
  | cons e l ih =>
    rw [List.foldl_cons, insE_last (fun y hy => by
      have := (List.pairwise_append.1 h).2.2 y hy e (by simp)
      exact this), ih _ (by rw [List.append_assoc]; exact h), List.append_assoc]
    rfl
/-- edits in their order: sorting leaves them -/
theorem sortE_order {size at_ : Int} {es : List Ed} (h : inOrderF size at_ es = true) : sortE es = es := by
  have h2 := inOrderF_pair h
  have h3 := inOrderF_mem h
  have := foldl_ins_order es [] (by
    rw [List.nil_append]
    refine (List.pairwise_iff_getElem.2 fun i j hi hj hij => ?_)
    have g1 := List.pairwise_iff_getElem.1 h2 i j hi hj hij
    have g2 := h3 _ (List.getElem_mem hi)
    have g3 := h3 _ (List.getElem_mem hj)
    simp only [beforeB, decide_eq_false_iff_not]
    omega)
  simpa [sortE] using this
/-- sorted edits that fit stand in order -/
theorem order_of_fits {size : Int} {l : List Ed} (h : Fits size l) (hs : l.Pairwise fun x y => beforeB y x = false) : ∀ at_ : Int, (∀ x ∈ l, at_ ≤ x.s) → inOrderF size at_ l = true := by
  induction l with
  | nil => intros; rfl
  | cons x l ih =>
    intro at_ ha
    have h1 := h.1 x (by simp)
    have h2 := ha x (by simp)
    obtain ⟨p1, p2⟩ := List.pairwise_cons.1 h.2
    obtain ⟨q1, q2⟩ := List.pairwise_cons.1 hs
    have := ih ⟨fun e he => h.1 e (by simp [he]), p2⟩ q2 x.e (fun y hy => by
      have g1 := p1 y hy
      have g2 := q1 y hy
      have g3 := h.1 y (by simp [hy])
      simp only [overlapB, beforeB, insideB, decide_eq_false_iff_not, decide_eq_true_eq] at g1 g2 g3 h1
      omega)
    simp only [inOrderF, this, h1, Bool.and_true, Bool.true_and, decide_eq_true_eq]
    exact h2
theorem fits_of_order {size : Int} {l : List Ed} (h : inOrderF size 0 l = true) : Fits size l := by
  refine ⟨fun e he => ?_, ?_⟩
  · have := inOrderF_mem h e he
    simp only [insideB, decide_eq_true_eq]; omega
  · have h2 := inOrderF_pair h
    exact h2.imp fun hle => by simp only [overlapB, decide_eq_false_iff_not]; omega
theorem overlapB_symm (d e : Ed) : overlapB d e = overlapB e d := by
  simp only [overlapB]
  congr 1
  exact propext ⟨fun ⟨a, b⟩ => ⟨b, a⟩, fun ⟨a, b⟩ => ⟨b, a⟩⟩
theorem Fits.perm {size : Int} {l l' : List Ed} (h : Fits size l) (hp : l.Perm l') : Fits size l' :=
  ⟨fun e he => h.1 e (hp.mem_iff.2 he), h.2.perm hp (fun {x y} hxy => by rw [overlapB_symm]; exact hxy)⟩
/-- told nothing odd: no insertion behind a deletion with the same start -/
theorem toldL_even (size : Int) (l : List Ed) : ∀ (t : Int) (pre : List Ed), toldL size t pre l = 0 → t = 0 ∧ (l.Pairwise fun d e => oddB d e = false) ∧ ∀ d ∈ pre, ∀ e ∈ l, oddB d e = false := by
  induction l with
  | nil => intro t pre h; exact ⟨h, .nil, fun d hd e he => by cases he⟩
  | cons e l ih =>
    intro t pre h
    unfold toldL at h
    split at h
    · obtain ⟨h1, h2, h3⟩ := ih _ _ h
      have hno : ¬ ∃ d ∈ pre, oddB d e = true := fun hh => by rw [if_pos hh] at h1; cases h1
      rw [if_neg hno] at h1
      refine ⟨h1, List.pairwise_cons.2 ⟨fun x hx => h3 e (by simp) x hx, h2⟩, fun d hd x hx => ?_⟩
      rcases List.mem_cons.1 hx with rfl | hx
      · cases hb : oddB d x with
        | false => rfl
        | true => exact absurd ⟨d, hd, hb⟩ hno
      · exact h3 d (by simp [hd]) x hx
    · cases h
end Go.Proofs.Ytoceakjnkillkaa
