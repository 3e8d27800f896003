/-
  The stable order of edits is one: what the sort leaves is the reference's insertion order. Plain theory, no condition.
-/
import Derived.Test.YtgphjnhbheimiaaDoorAplE
import Derived.Test.YtgphjnhbheimiaaDoorTxtA
namespace Go.Proofs.YtgphjnhbheimiaaDoor
set_option linter.unusedVariables false

theorem RR.asym {p q : EdT} (h : RR p q) (g : RR q p) : False := by unfold RR at *; omega
theorem RR.irr {p : EdT} (h : RR p p) : False := by unfold RR at *; omega
theorem perm_one : ∀ {l l' : List EdT}, l.Pairwise RR → l'.Pairwise RR → l.Perm l' → l = l' := by
  intro l
  induction l with
  | nil => intro l' _ _ hp; exact hp.nil_eq
  | cons a l ih =>
    intro l' h1 h2 hp
    cases l' with
    | nil => exact absurd hp.eq_nil (by simp)
    | cons b l' =>
      obtain ⟨p1, p2⟩ := List.pairwise_cons.1 h1
      obtain ⟨q1, q2⟩ := List.pairwise_cons.1 h2
      have hab : a = b := by
        have ha : a ∈ b :: l' := hp.mem_iff.1 (by simp)
        have hb : b ∈ a :: l := hp.mem_iff.2 (by simp)
        rcases List.mem_cons.1 ha with h | h
        · exact h
        · rcases List.mem_cons.1 hb with g | g
          · exact g.symm
          · exact ((q1 a h).asym (p1 b g)).elim
      subst hab
      rw [ih p2 q2 hp.cons_inv]
def insT (e : EdT) : List EdT → List EdT
  | [] => [e]
  | x :: l => if (x :: l).all (fun y => beforeB e.1 y.1) = true then e :: x :: l else x :: insT e l
def sortT (l : List EdT) : List EdT := l.foldl (fun acc e => insT e acc) []
theorem insT_map (e : EdT) (l : List EdT) : (insT e l).map (·.1) = insE e.1 (l.map (·.1)) := by
  induction l with
  | nil => rfl
  | cons x l ih =>
    have e1 : (x :: l).all (fun y => beforeB e.1 y.1) = (((x :: l).map (·.1)).all fun y => beforeB e.1 y) := by simp [List.all_map, Function.comp_def]
    rw [insT, List.map_cons, insE, ← List.map_cons (f := fun p : EdT => p.1), ← e1]
    split
    · rfl
    · rw [List.map_cons, ih]
theorem foldl_insT_map (l acc : List EdT) : (l.foldl (fun acc e => insT e acc) acc).map (·.1) = (l.map (·.1)).foldl (fun acc e => insE e acc) (acc.map (·.1)) := by
  induction l generalizing acc with
  | nil => rfl
  | cons e l ih => rw [List.foldl_cons, ih, insT_map]; rfl
theorem sortT_map (l : List EdT) : (sortT l).map (·.1) = sortE (l.map (·.1)) := foldl_insT_map l []
theorem insT_perm (e : EdT) (l : List EdT) : (insT e l).Perm (e :: l) := by
  induction l with
  | nil => exact List.Perm.refl _
  | cons x l ih =>
    rw [insT]
    split
    · exact List.Perm.refl _
    · exact (ih.cons x).trans (List.Perm.swap e x l)
theorem foldl_insT_perm (l acc : List EdT) : (l.foldl (fun acc e => insT e acc) acc).Perm (acc ++ l) := by
  induction l generalizing acc with
  | nil => simp
  | cons e l ih =>
    rw [List.foldl_cons]
    refine (ih _).trans ?_
    refine ((insT_perm e acc).append_right l).trans ?_
    exact List.perm_middle.symm
theorem sortT_perm (l : List EdT) : (sortT l).Perm l := by simpa [sortT] using foldl_insT_perm l []
theorem insT_sorted {e : EdT} {l : List EdT} (h : l.Pairwise RR) (ht : ∀ x ∈ l, x.2 < e.2) : (insT e l).Pairwise RR := by
  induction l with
  | nil => exact List.pairwise_singleton _ _
  | cons x l ih =>
    obtain ⟨p1, p2⟩ := List.pairwise_cons.1 h
    rw [insT]
    split
    · rename_i hall
      rw [List.all_eq_true] at hall
      refine List.pairwise_cons.2 ⟨fun y hy => ?_, h⟩
      have := hall y hy
      simp only [beforeB, decide_eq_true_eq] at this
      unfold RR; omega
    · rename_i hall
      have hx : beforeB e.1 x.1 = false := by
        cases hb : beforeB e.1 x.1 with
        | false => rfl
        | true =>
          refine absurd ?_ hall
          rw [List.all_eq_true]
          intro y hy
          rcases List.mem_cons.1 hy with rfl | hy
          · exact hb
          · have g := p1 y hy
            simp only [beforeB, decide_eq_true_eq] at hb ⊢
            unfold RR at g; omega
      have hxe : RR x e := by
        have := ht x (by simp)
        simp only [beforeB, decide_eq_false_iff_not] at hx
        unfold RR; omega
      refine List.pairwise_cons.2 ⟨fun y hy => ?_, ih p2 (fun z hz => ht z (by simp [hz]))⟩
      rcases List.mem_cons.1 ((insT_perm e l).mem_iff.1 hy) with rfl | hy
      · exact hxe
      · exact p1 y hy
theorem foldl_insT_sorted : ∀ (l acc : List EdT), acc.Pairwise RR → (l.Pairwise fun p q => p.2 < q.2) → (∀ x ∈ acc, ∀ y ∈ l, x.2 < y.2) → (l.foldl (fun acc e => insT e acc) acc).Pairwise RR := by
  intro l
  induction l with
  | nil => intro acc h _ _; exact h
  | cons e l ih =>
    intro acc h hl hb
    rw [List.foldl_cons]
    obtain ⟨q1, q2⟩ := List.pairwise_cons.1 hl
    refine ih _ (insT_sorted h fun x hx => hb x hx e (by simp)) q2 fun x hx y hy => ?_
    rcases List.mem_cons.1 ((insT_perm e acc).mem_iff.1 hx) with rfl | hx
    · exact q1 y hy
    · exact hb x hx y (by simp [hy])
/-- the row ahead of the sort -/
def row0 (es : List Ed) : RowT := fun k => (edAt es k, k)
theorem rowL_row0 (es : List Ed) : rowL es.length (row0 es) = es := by
  apply List.ext_getElem
  · simp [rowL]
  · intro i h1 h2
    simp [rowL, row0, edAt, h2]
theorem stable_one {es : List Ed} {g : RowT} (hp : (rowT es.length g).Perm (rowT es.length (row0 es))) (hs : SrtF 0 es.length g) : rowL es.length g = sortE es := by
  have h1 : (rowT es.length g).Pairwise RR := by
    rw [List.pairwise_iff_getElem]
    intro i j hi hj hij
    simp only [rowT, List.getElem_map, List.getElem_range]
    exact hs i j (Nat.zero_le _) hij (by simpa [rowT] using hj)
  have h2 : (sortT (rowT es.length (row0 es))).Pairwise RR := by
    refine foldl_insT_sorted _ [] .nil ?_ (fun x hx => by cases hx)
    rw [List.pairwise_iff_getElem]
    intro i j hi hj hij
    simpa [rowT, row0] using hij
  have h3 := perm_one h1 h2 (hp.trans (sortT_perm _).symm)
  rw [← rowL_map, h3, sortT_map, rowL_map, rowL_row0]
theorem stable_perm {es : List Ed} {g : RowT} (hp : (rowT es.length g).Perm (rowT es.length (row0 es))) : (rowL es.length g).Perm es := by
  have := hp.map (·.1)
  rw [rowL_map, rowL_map, rowL_row0] at this
  exact this
theorem edAt_mem' (es : List Ed) (k : Nat) (h : k < es.length) : edAt es k ∈ es := by simp [edAt, h]
/-- edits that the program's own test calls sorted, with starts within bounds: sorting leaves them -/
theorem sortE_sorted {es : List Ed} (hg : ∀ e ∈ es, GoodE e) (h : sortedW es = true) : sortE es = es := by
  have hp : es.Pairwise fun x y => beforeB y x = false := by
    rw [List.pairwise_iff_getElem]
    intro i j hi hj hij
    have hstep := (sortedW_iff es).1 h
    have key : ∀ m, i + m < es.length → beforeB (edAt es (i + m)) (edAt es i) = false := by
      intro m
      induction m with
      | zero => intro _; simp [beforeB]
      | succ m ih =>
        intro hm
        have h1 := ih (by omega)
        have h2 := hstep (i + m) (by omega)
        have g1 := hg _ (edAt_mem' es (i + m) (by omega))
        have g2 := hg _ (edAt_mem' es (i + m + 1) (by omega))
        have h3 : ¬ ((edAt es (i + m + 1)).s < (edAt es (i + m)).s ∨ ((edAt es (i + m + 1)).s = (edAt es (i + m)).s ∧ (edAt es (i + m + 1)).e < (edAt es (i + m)).e)) := fun hh => by
          rw [(lessW_good g2 g1).2 hh] at h2; cases h2
        rw [show i + (m + 1) = i + m + 1 by omega]
        simp only [beforeB, decide_eq_false_iff_not] at h1 ⊢
        omega
    have := key (j - i) (by omega)
    rw [show i + (j - i) = j by omega] at this
    simpa [edAt, hi, hj] using this
  have := foldl_ins_order es [] (by simpa using hp)
  simpa [sortE] using this
end Go.Proofs.YtgphjnhbheimiaaDoor
