/-
  Merging lists of edits that stand apart, plainly: no program in sight. No condition.
-/
import Derived.Test.YtoceakjnkillkaaMergeP
namespace Go.Proofs.Ytoceakjnkillkaa
set_option linter.unusedVariables false
open Go.RowKit

/-- edits in order, each behind at_ with a byte between: as a proposition -/
def Apt (size : Int) : Int → List Ed → Prop
  | _, [] => True
  | at_, x :: l => 0 ≤ x.s ∧ x.s ≤ x.e ∧ x.e ≤ size ∧ at_ < x.s ∧ Apt size x.e l
theorem apt_of (size at_ : Int) (l : List Ed) (h : apartF size at_ l = true) : Apt size at_ l := by
  induction l generalizing at_ with
  | nil => trivial
  | cons x l ih =>
    simp only [apartF, Bool.and_eq_true, insideB, decide_eq_true_eq] at h
    exact ⟨h.1.1.1, h.1.1.2.1, h.1.1.2.2, h.1.2, ih _ h.2⟩
theorem apt_mono {size at_ b : Int} {l : List Ed} (h : Apt size at_ l) (hb : b ≤ at_) : Apt size b l := by
  cases l with
  | nil => trivial
  | cons x l => exact ⟨h.1, h.2.1, h.2.2.1, by have := h.2.2.2.1; omega, h.2.2.2.2⟩
theorem apt_mem {size at_ : Int} {l : List Ed} (h : Apt size at_ l) {x : Ed} (hx : x ∈ l) : at_ < x.s ∧ x.s ≤ x.e := by
  induction l generalizing at_ with
  | nil => cases hx
  | cons y l ih =>
    rcases List.mem_cons.1 hx with rfl | hx
    · exact ⟨h.2.2.2.1, h.2.1⟩
    · have := ih h.2.2.2.2 hx
      have h1 := h.2.2.2.1
      have h2 := h.2.1
      omega

/-! ### any two parts of a list -/
/-- parts of l: those that are marked, and the others -/
def pick : List Ed → List Bool → List Ed × List Ed
  | [], _ => ([], [])
  | x :: l, [] => ((pick l []).1, x :: (pick l []).2)
  | x :: l, b :: bs => if b then (x :: (pick l bs).1, (pick l bs).2) else ((pick l bs).1, x :: (pick l bs).2)
theorem pick_sub (l : List Ed) (bs : List Bool) : (∀ x ∈ (pick l bs).1, x ∈ l) ∧ (∀ x ∈ (pick l bs).2, x ∈ l) := by
  induction l generalizing bs with
  | nil => simp [pick]
  | cons x l ih =>
    cases bs with
    | nil =>
      have := ih []
      simp only [pick, List.mem_cons]
      refine ⟨fun y hy => .inr (this.1 y hy), fun y hy => ?_⟩
      rcases hy with rfl | hy
      · exact .inl rfl
      · exact .inr (this.2 y hy)
    | cons b bs =>
      have := ih bs
      simp only [pick]
      split
      · simp only [List.mem_cons]
        refine ⟨fun y hy => ?_, fun y hy => .inr (this.2 y hy)⟩
        rcases hy with rfl | hy
        · exact .inl rfl
        · exact .inr (this.1 y hy)
      · simp only [List.mem_cons]
        refine ⟨fun y hy => .inr (this.1 y hy), fun y hy => ?_⟩
        rcases hy with rfl | hy
        · exact .inl rfl
        · exact .inr (this.2 y hy)

theorem edEq_s {x y : Ed} (h : edEqB x y = true) : x.s = y.s ∧ x.e = y.e := by
  simp only [edEqB, Bool.and_eq_true, beq_iff_eq] at h
  exact ⟨h.1.1, h.1.2⟩

theorem mg_front_x {x : Ed} {xs ys acc : List Ed} (h : ∀ y ∈ ys, x.e < y.s ∧ x.s ≤ x.e) : mg (x :: xs) ys acc = mg xs ys (acc ++ [x]) := by
  cases ys with
  | nil => rw [mg_end _ _ _ (.inr rfl), mg_end _ _ _ (.inr rfl)]; simp
  | cons y ys =>
    have := h y (by simp)
    rw [mg_step, if_neg (fun e => by have := edEq_s e; omega), if_pos (by omega)]
theorem mg_front_y {y : Ed} {xs ys acc : List Ed} (h : ∀ x ∈ xs, y.e < x.s ∧ y.s ≤ y.e ∧ x.s ≤ x.e) : mg xs (y :: ys) acc = mg xs ys (acc ++ [y]) := by
  cases xs with
  | nil => rw [mg_end _ _ _ (.inl rfl), mg_end _ _ _ (.inl rfl)]; simp
  | cons x xs =>
    have := h x (by simp)
    rw [mg_step, if_neg (fun e => by have := edEq_s e; omega), if_neg (by omega), if_pos (by omega)]

theorem mg_pick {size at_ : Int} {l : List Ed} (h : Apt size at_ l) (bs : List Bool) (acc : List Ed) : mg (pick l bs).1 (pick l bs).2 acc = some (acc ++ l) := by
  induction l generalizing at_ bs acc with
  | nil => simp only [pick]; rw [mg_end _ _ _ (.inl rfl)]; simp
  | cons x l ih =>
    have hl := h.2.2.2.2
    cases bs with
    | nil =>
      simp only [pick]
      rw [mg_front_y (fun y hy => by
        have h1 := apt_mem hl ((pick_sub l []).1 y hy)
        exact ⟨h1.1, h.2.1, h1.2⟩), ih hl]
      simp
    | cons b bs =>
      simp only [pick]
      split
      · rw [mg_front_x (fun y hy => by
          have h1 := apt_mem hl ((pick_sub l bs).2 y hy)
          exact ⟨h1.1, h.2.1⟩), ih hl]
        simp
      · rw [mg_front_y (fun y hy => by
          have h1 := apt_mem hl ((pick_sub l bs).1 y hy)
          exact ⟨h1.1, h.2.1, h1.2⟩), ih hl]
        simp

/-! ### the reference -/
/-- a stable merge of two lists: the first list's elements first where neither stands before the other -/
def smg : List Ed → List Ed → List Ed
  | [], ys => ys
  | xs, [] => xs
  | x :: xs, y :: ys => if beforeB y x = true then y :: smg (x :: xs) ys else x :: smg xs (y :: ys)
termination_by xs ys => xs.length + ys.length

/-- an edit put behind all that it does not stand before -/
def insE (e : Ed) : List Ed → List Ed
  | [] => [e]
  | x :: l => if (x :: l).all (fun y => beforeB e y) = true then e :: x :: l else x :: insE e l
def sortE (l : List Ed) : List Ed := l.foldl (fun acc e => insE e acc) []

def mofB (x y : List Ed) : Bool := y.all fun e => x.all fun d => edEqB d e || !overlapB d e
def mofL (x y : List Ed) : List Ed := x ++ y.filter fun e => !x.any fun d => edEqB d e

theorem smg_nil_left (ys : List Ed) : smg [] ys = ys := by unfold smg; rfl
theorem smg_nil_right (xs : List Ed) : smg xs [] = xs := by cases xs <;> (unfold smg; rfl)
theorem smg_cons (x y : Ed) (xs ys : List Ed) : smg (x :: xs) (y :: ys) = if beforeB y x = true then y :: smg (x :: xs) ys else x :: smg xs (y :: ys) := by
  conv => lhs; unfold smg
theorem smg_x {x : Ed} {xs ys : List Ed} (h : ∀ y ∈ ys, beforeB y x = false) : smg (x :: xs) ys = x :: smg xs ys := by
  cases ys with
  | nil => rw [smg_nil_right, smg_nil_right]
  | cons y ys => rw [smg_cons, if_neg (by rw [h y (by simp)]; simp)]

theorem insE_last {e : Ed} {l : List Ed} (h : ∀ y ∈ l, beforeB e y = false) : insE e l = l ++ [e] := by
  induction l with
  | nil => rfl
  | cons x l ih =>
    rw [insE, if_neg (by simp [h x (by simp)]), ih (fun y hy => h y (by simp [hy]))]
    rfl

/-- each stands ahead of all behind it, with a greater start -/
def Inc : List Ed → Prop
  | [] => True
  | x :: l => (∀ y ∈ l, x.s < y.s) ∧ Inc l
theorem inc_of {size at_ : Int} {l : List Ed} (h : Apt size at_ l) : Inc l := by
  induction l generalizing at_ with
  | nil => trivial
  | cons x l ih =>
    refine ⟨fun y hy => ?_, ih h.2.2.2.2⟩
    have h1 := apt_mem h.2.2.2.2 hy
    have h2 := h.2.1
    omega
theorem inc_filter {l : List Ed} (h : Inc l) (p : Ed → Bool) : Inc (l.filter p) := by
  induction l with
  | nil => trivial
  | cons x l ih =>
    rw [List.filter_cons]
    split
    · exact ⟨fun y hy => h.1 y (List.mem_filter.1 hy).1, ih h.2⟩
    · exact ih h.2
theorem before_false_of_le {a b : Ed} (h : b.s < a.s) : beforeB a b = false := by
  simp [beforeB]; omega

theorem insE_smg {x ys : List Ed} {e : Ed} (hx : Inc x) (he : ∀ y ∈ ys, beforeB e y = false) : insE e (smg x ys) = smg x (ys ++ [e]) := by
  induction x generalizing ys with
  | nil => rw [smg_nil_left, smg_nil_left, insE_last he]
  | cons x xs ihx =>
    induction ys with
    | nil =>
      rw [smg_nil_right, List.nil_append, smg_cons, insE]
      by_cases hb : beforeB e x = true
      · rw [if_pos hb, if_pos, smg_nil_right]
        simp only [List.all_cons, hb, Bool.true_and, List.all_eq_true]
        intro y hy
        have := hx.1 y hy
        simp only [beforeB, decide_eq_true_eq] at hb ⊢
        omega
      · rw [if_neg hb, if_neg (by simp [hb])]
        have := ihx (ys := []) hx.2 (by simp)
        rw [smg_nil_right] at this
        rw [this]
        rfl
    | cons y ys ihy =>
      rw [List.cons_append, smg_cons, smg_cons]
      by_cases hb : beforeB y x = true
      · rw [if_pos hb, if_pos hb, insE, if_neg (by simp [he y (by simp)]), ihy (fun z hz => he z (by simp [hz]))]
      · rw [if_neg hb, if_neg hb]
        have hy : y ∈ smg xs (y :: ys) := by
          clear ihx ihy hb he hx
          induction xs with
          | nil => rw [smg_nil_left]; simp
          | cons a xs ih =>
            rw [smg_cons]
            split
            · simp
            · simp [ih]
        rw [insE, if_neg, ihx hx.2 he]
        · rfl
        · intro h
          rw [List.all_eq_true] at h
          have := h y (List.mem_cons_of_mem _ hy)
          rw [he y (by simp)] at this
          cases this

theorem foldl_ins_inc (l acc : List Ed) (h : Inc (acc ++ l)) : l.foldl (fun acc e => insE e acc) acc = acc ++ l := by
  induction l generalizing acc with
  | nil => simp
  | cons x l ih =>
    have hlt : ∀ y ∈ acc, y.s < x.s := by
      clear ih
      induction acc with
      | nil => simp
      | cons a acc ih2 =>
        intro y hy
        rcases List.mem_cons.1 hy with rfl | hy
        · exact h.1 x (by simp)
        · exact ih2 h.2 y hy
    rw [List.foldl_cons, insE_last (fun y hy => before_false_of_le (hlt y hy)), ih _ (by simpa using h)]
    simp
theorem foldl_ins_smg (x ys zs : List Ed) (hx : Inc x) (hy : Inc (ys ++ zs)) : zs.foldl (fun acc e => insE e acc) (smg x ys) = smg x (ys ++ zs) := by
  induction zs generalizing ys with
  | nil => simp
  | cons e zs ih =>
    have hlt : ∀ y ∈ ys, y.s < e.s := by
      clear ih
      induction ys with
      | nil => simp
      | cons a ys ih2 =>
        intro y hy'
        rcases List.mem_cons.1 hy' with rfl | hy'
        · exact hy.1 e (by simp)
        · exact ih2 hy.2 y hy'
    rw [List.foldl_cons, insE_smg hx (fun y h => before_false_of_le (hlt y h)), ih _ (by simpa using hy)]
    simp
theorem sortE_smg (x ys : List Ed) (hx : Inc x) (hy : Inc ys) : sortE (x ++ ys) = smg x ys := by
  unfold sortE
  rw [List.foldl_append, foldl_ins_inc x [] (by simpa using hx)]
  have := foldl_ins_smg x [] ys hx (by simpa using hy)
  rw [smg_nil_right] at this
  simpa using this

/-- not one of a list -/
def notIn (x : List Ed) (e : Ed) : Bool := !x.any fun d => edEqB d e

theorem mg_ref (n : Nat) : ∀ (x y acc : List Ed) (size a b : Int), x.length + y.length ≤ n → Apt size a x → Apt size b y → mofB x y = true →
    mg x y acc = some (acc ++ smg x (y.filter (notIn x))) := by
  induction n with
  | zero =>
    intro x y acc size a b hn _ _ _
    have hx : x = [] := List.eq_nil_of_length_eq_zero (by omega)
    have hy : y = [] := List.eq_nil_of_length_eq_zero (by omega)
    subst hx hy
    rw [mg_end _ _ _ (.inl rfl)]
    simp [smg_nil_left]
  | succ n ih =>
    intro x y acc size a b hn hx hy hm
    cases x with
    | nil =>
      have hf : y.filter (notIn []) = y := List.filter_eq_self.2 (fun _ _ => by simp [notIn])
      rw [mg_end _ _ _ (.inl rfl), smg_nil_left, hf]
      simp
    | cons p xs =>
      cases y with
      | nil =>
        rw [mg_end _ _ _ (.inr rfl)]
        simp [smg_nil_right]
      | cons q ys =>
        have hps := hx.2.1
        have hqs := hy.2.1
        have hxs := fun z (hz : z ∈ xs) => apt_mem hx.2.2.2.2 hz
        have hys := fun z (hz : z ∈ ys) => apt_mem hy.2.2.2.2 hz
        have hm' := hm
        simp only [mofB, List.all_cons, Bool.and_eq_true, List.all_eq_true] at hm'
        obtain ⟨⟨hpq, hxq⟩, hpy⟩ := hm'
        simp only [List.length_cons] at hn
        rw [mg_step]
        by_cases heq : edEqB p q = true
        · have he := edEq_s heq
          rw [if_pos heq, ih xs ys _ size p.e q.e (by omega) hx.2.2.2.2 hy.2.2.2.2 (by
            simp only [mofB, List.all_eq_true]
            intro z hz d hd
            exact (hpy z hz).2 d hd)]
          have hf : (q :: ys).filter (notIn (p :: xs)) = ys.filter (notIn xs) := by
            rw [List.filter_cons, if_neg (by simp [notIn, heq])]
            apply List.filter_congr
            intro z hz
            have := hys z hz
            have hne : edEqB p z = false := by
              cases h : edEqB p z
              · rfl
              · have := edEq_s h; omega
            simp [notIn, hne]
          rw [hf, smg_x (fun z hz => before_false_of_le (by have := hys z (List.mem_filter.1 hz).1; omega))]
          simp
        · rw [if_neg heq]
          by_cases h1 : p.e ≤ q.s
          · have hle : ∀ z ∈ q :: ys, p.e ≤ z.s ∧ z.s ≤ z.e := by
              intro z hz
              rcases List.mem_cons.1 hz with rfl | hz
              · exact ⟨h1, hqs⟩
              · have := hys z hz; omega
            have hne : ∀ z ∈ q :: ys, edEqB p z = false := by
              intro z hz
              cases h : edEqB p z
              · rfl
              · have he := edEq_s h
                have h2 := hle z hz
                rcases List.mem_cons.1 hz with rfl | hz
                · exact absurd h heq
                · have := hys z hz; omega
            rw [if_pos h1, ih xs (q :: ys) _ size p.e b (by simp only [List.length_cons]; omega) hx.2.2.2.2 hy (by
              simp only [mofB, List.all_cons, Bool.and_eq_true, List.all_eq_true]
              exact ⟨hxq, fun z hz d hd => (hpy z hz).2 d hd⟩)]
            have hf : (q :: ys).filter (notIn (p :: xs)) = (q :: ys).filter (notIn xs) := by
              apply List.filter_congr
              intro z hz
              simp [notIn, hne z hz]
            rw [hf, smg_x (fun z hz => by
              have h2 := hle z (List.mem_filter.1 hz).1
              simp [beforeB]
              omega)]
            simp
          · rw [if_neg h1]
            by_cases h2 : q.e ≤ p.s
            · have hnq : notIn (p :: xs) q = true := by
                simp only [notIn, List.any_cons, Bool.not_or, Bool.and_eq_true, Bool.not_eq_true', List.any_eq_false]
                refine ⟨by simpa using heq, fun z hz => ?_⟩
                intro h
                have := edEq_s h
                have := hxs z hz
                omega
              rw [if_pos h2, ih (p :: xs) ys _ size a q.e (by simp only [List.length_cons]; omega) hx hy.2.2.2.2 (by
                simp only [mofB, List.all_cons, Bool.and_eq_true, List.all_eq_true]
                exact fun z hz => hpy z hz)]
              rw [List.filter_cons, if_pos hnq, smg_cons, if_pos (by simp [beforeB]; omega)]
              simp
            · exfalso
              rcases Bool.or_eq_true _ _ ▸ hpq with h | h
              · exact heq h
              · simp only [overlapB, Bool.not_eq_true', decide_eq_false_iff_not] at h
                omega

theorem mg_reference {x y : List Ed} {size : Int} (hx : apartF size (-1) x = true) (hy : apartF size (-1) y = true) (hm : mofB x y = true) :
    mg x y [] = some (sortE (mofL x y)) := by
  have h1 := apt_of _ _ _ hx
  have h2 := apt_of _ _ _ hy
  rw [mg_ref _ x y [] size (-1) (-1) (Nat.le_refl _) h1 h2 hm]
  unfold mofL
  rw [sortE_smg _ _ (inc_of h1) (inc_filter (inc_of h2) _)]
  rfl

theorem edAt_get {l : List Ed} {j : Nat} (h : j < l.length) : edAt l j = l[j] := by simp [edAt, h]
/-- where an edit is put -/
theorem insE_at {e : Ed} {l : List Ed} (p : Nat) (hp : p ≤ l.length) (h1 : ∀ j, p ≤ j → j < l.length → beforeB e (edAt l j) = true) (h2 : 0 < p → beforeB e (edAt l (p - 1)) = false) :
    insE e l = l.take p ++ e :: l.drop p := by
  induction l generalizing p with
  | nil =>
    have : p = 0 := by simpa using hp
    subst this
    rfl
  | cons x l ih =>
    rw [insE]
    cases p with
    | zero =>
      rw [if_pos]
      · rfl
      · rw [List.all_eq_true]
        intro y hy
        obtain ⟨j, hj, rfl⟩ := List.mem_iff_getElem.1 hy
        have := h1 j (by omega) hj
        rw [edAt_get hj] at this
        exact this
    | succ p =>
      rw [if_neg]
      · rw [ih p (by simpa using hp) (fun j hj hj2 => by
          have := h1 (j + 1) (by omega) (by simpa using hj2)
          simpa [edAt] using this) (fun h0 => by
          have := h2 (by omega)
          cases p with
          | zero => omega
          | succ p => simpa [edAt] using this)]
        rfl
      · intro h
        rw [List.all_eq_true] at h
        have h3 := h2 (by omega)
        have hp2 : p < (x :: l).length := by simp only [List.length_cons] at *; omega
        have h4 := h ((x :: l)[p]'hp2) (List.getElem_mem _)
        rw [Nat.add_sub_cancel, edAt_get hp2, h4] at h3
        cases h3

end Go.Proofs.Ytoceakjnkillkaa
