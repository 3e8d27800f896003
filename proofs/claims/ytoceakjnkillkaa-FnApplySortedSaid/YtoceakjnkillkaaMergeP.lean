/-
  What the merging of two lists of edits computes, as a plain function; no program in sight. No condition.
-/
import Derived.Test.YtoceakjnkillkaaSpecE
namespace Go.Proofs.Ytoceakjnkillkaa
set_option linter.unusedVariables false
open Go.RowKit

/-- how far the merging is from its end -/
def mgMu : List Ed → List Ed → Nat
  | x :: xs, y :: ys => 2 * (xs.length + 1 + (ys.length + 1)) + (if x.s = y.s then 0 else 1)
  | xs, ys => 2 * (xs.length + ys.length)

theorem mgMu_le (xs ys : List Ed) : mgMu xs ys ≤ 2 * (xs.length + ys.length) + 1 := by
  cases xs with
  | nil => cases ys <;> simp [mgMu]
  | cons x xs => cases ys with
    | nil => simp [mgMu]
    | cons y ys => simp only [mgMu, List.length_cons]; split <;> omega
theorem mgMu_ge (xs ys : List Ed) : 2 * (xs.length + ys.length) ≤ mgMu xs ys := by
  cases xs with
  | nil => cases ys <;> simp [mgMu]
  | cons x xs => cases ys with
    | nil => simp [mgMu]
    | cons y ys => simp only [mgMu, List.length_cons]; split <;> omega

def mg : List Ed → List Ed → List Ed → Option (List Ed)
  | [], ys, acc => some (acc ++ ys)
  | xs, [], acc => some (acc ++ xs)
  | x :: xs, y :: ys, acc =>
    if edEqB x y = true then mg xs ys (acc ++ [x])
    else if x.e ≤ y.s then mg xs (y :: ys) (acc ++ [x])
    else if y.e ≤ x.s then mg (x :: xs) ys (acc ++ [y])
    else if x.s < y.s then mg (⟨y.s, x.e, x.n⟩ :: xs) (y :: ys) (acc ++ [⟨x.s, y.s, ⟨#[]⟩⟩])
    else if y.s < x.s then mg (x :: xs) (⟨x.s, y.e, y.n⟩ :: ys) (acc ++ [⟨y.s, x.s, ⟨#[]⟩⟩])
    else none
termination_by xs ys _ => mgMu xs ys
decreasing_by
  · have h1 := mgMu_le xs ys
    have h2 := mgMu_ge (x :: xs) (y :: ys)
    simp only [List.length_cons] at *
    omega
  · have h1 := mgMu_le xs (y :: ys)
    have h2 := mgMu_ge (x :: xs) (y :: ys)
    simp only [List.length_cons] at *
    omega
  · have h1 := mgMu_le (x :: xs) ys
    have h2 := mgMu_ge (x :: xs) (y :: ys)
    simp only [List.length_cons] at *
    omega
  · simp only [mgMu, if_true]; rw [if_neg (by omega)]; omega
  · simp only [mgMu, if_true]; rw [if_neg (by omega)]; omega

theorem mg_end (xs ys acc : List Ed) (h : xs = [] ∨ ys = []) : mg xs ys acc = some (acc ++ xs ++ ys) := by
  rcases h with rfl | rfl
  · unfold mg; simp
  · cases xs with
    | nil => unfold mg; simp
    | cons x xs => unfold mg; simp

theorem drop_cons_ed (es : List Ed) (k : Nat) (h : k < es.length) : es.drop k = edAt es k :: es.drop (k + 1) := by
  rw [List.drop_eq_getElem_cons h]
  simp [edAt, h]
theorem edAt_set (es : List Ed) (k : Nat) (x : Ed) (h : k < es.length) : edAt (es.set k x) k = x := by
  simp [edAt, h]
theorem drop_set_ed (es : List Ed) (k : Nat) (x : Ed) (h : k < es.length) : (es.set k x).drop k = x :: es.drop (k + 1) := by
  rw [drop_cons_ed _ _ (by simpa using h), edAt_set es k x h, List.drop_set_of_lt (by omega)]
theorem edCells_set (es : List Ed) (k : Nat) (u : Int) (h : k < es.length) : (edCells es).set (k * 3) (.int .i64 u) = edCells (es.set k ⟨u, eE es k, eN es k⟩) := by
  induction es generalizing k with
  | nil => simp at h
  | cons x l ih =>
    rw [edCells_cons]
    cases k with
    | zero => simp [Ed.cells, edCells_cons, eE, eN, edAt]
    | succ k =>
      have hl : x.cells.length = 3 := rfl
      rw [List.set_append_right _ _ (by omega), hl, show (k + 1) * 3 - 3 = k * 3 by omega, ih k (by simpa using h)]
      simp [edCells_cons, eE, eN, edAt]

/-- one step of the merging, at the heads that stand there -/
theorem mg_step {xs ys acc : List Ed} {x y : Ed} :
    mg (x :: xs) (y :: ys) acc =
    (if edEqB x y = true then mg xs ys (acc ++ [x])
    else if x.e ≤ y.s then mg xs (y :: ys) (acc ++ [x])
    else if y.e ≤ x.s then mg (x :: xs) ys (acc ++ [y])
    else if x.s < y.s then mg (⟨y.s, x.e, x.n⟩ :: xs) (y :: ys) (acc ++ [⟨x.s, y.s, ⟨#[]⟩⟩])
    else if y.s < x.s then mg (x :: xs) (⟨x.s, y.e, y.n⟩ :: ys) (acc ++ [⟨y.s, x.s, ⟨#[]⟩⟩])
    else none) := by
  conv => lhs; unfold mg

theorem mg_self_aux (xs acc : List Ed) : mg xs xs acc = some (acc ++ xs) := by
  induction xs generalizing acc with
  | nil => unfold mg; simp
  | cons x xs ih =>
    rw [mg_step, if_pos (by simp [edEqB]), ih]
    simp


section
variable {ex ey acc : List Ed} {xi yi : Nat}
theorem mg_eq (hx : xi < ex.length) (hy : yi < ey.length) (h : edEqB (edAt ex xi) (edAt ey yi) = true) :
    mg (ex.drop (xi + 1)) (ey.drop (yi + 1)) (acc ++ [edAt ex xi]) = mg (ex.drop xi) (ey.drop yi) acc ∧ 1 + mgMu (ex.drop (xi + 1)) (ey.drop (yi + 1)) ≤ mgMu (ex.drop xi) (ey.drop yi) := by
  constructor
  · rw [drop_cons_ed ex xi hx, drop_cons_ed ey yi hy, mg_step, if_pos h]
  · have h1 := mgMu_le (ex.drop (xi + 1)) (ey.drop (yi + 1))
    have h2 := mgMu_ge (ex.drop xi) (ey.drop yi)
    simp only [List.length_drop] at *
    omega
theorem mg_x (hx : xi < ex.length) (hy : yi < ey.length) (h : edEqB (edAt ex xi) (edAt ey yi) = false) (h2 : eE ex xi ≤ eS ey yi) :
    mg (ex.drop (xi + 1)) (ey.drop yi) (acc ++ [edAt ex xi]) = mg (ex.drop xi) (ey.drop yi) acc ∧ 1 + mgMu (ex.drop (xi + 1)) (ey.drop yi) ≤ mgMu (ex.drop xi) (ey.drop yi) := by
  simp only [eS, eE] at *
  constructor
  · rw [drop_cons_ed ex xi hx, drop_cons_ed ey yi hy, mg_step, if_neg (by simp [h]), if_pos h2]
  · have h1 := mgMu_le (ex.drop (xi + 1)) (ey.drop yi)
    have h2 := mgMu_ge (ex.drop xi) (ey.drop yi)
    simp only [List.length_drop] at *
    omega
theorem mg_y (hx : xi < ex.length) (hy : yi < ey.length) (h : edEqB (edAt ex xi) (edAt ey yi) = false) (h2 : ¬ eE ex xi ≤ eS ey yi) (h3 : eE ey yi ≤ eS ex xi) :
    mg (ex.drop xi) (ey.drop (yi + 1)) (acc ++ [edAt ey yi]) = mg (ex.drop xi) (ey.drop yi) acc ∧ 1 + mgMu (ex.drop xi) (ey.drop (yi + 1)) ≤ mgMu (ex.drop xi) (ey.drop yi) := by
  simp only [eS, eE] at *
  constructor
  · rw [drop_cons_ed ex xi hx, drop_cons_ed ey yi hy, mg_step, if_neg (by simp [h]), if_neg h2, if_pos h3]
  · have h1 := mgMu_le (ex.drop xi) (ey.drop (yi + 1))
    have h2 := mgMu_ge (ex.drop xi) (ey.drop yi)
    simp only [List.length_drop] at *
    omega
theorem mg_sx (hx : xi < ex.length) (hy : yi < ey.length) (h : edEqB (edAt ex xi) (edAt ey yi) = false) (h2 : ¬ eE ex xi ≤ eS ey yi) (h3 : ¬ eE ey yi ≤ eS ex xi) (h4 : eS ex xi < eS ey yi) :
    mg ((ex.set xi ⟨eS ey yi, eE ex xi, eN ex xi⟩).drop xi) (ey.drop yi) (acc ++ [⟨eS ex xi, eS ey yi, ⟨#[]⟩⟩]) = mg (ex.drop xi) (ey.drop yi) acc ∧
    1 + mgMu ((ex.set xi ⟨eS ey yi, eE ex xi, eN ex xi⟩).drop xi) (ey.drop yi) ≤ mgMu (ex.drop xi) (ey.drop yi) := by
  simp only [eS, eE, eN] at *
  rw [drop_set_ed _ _ _ hx, drop_cons_ed ex xi hx, drop_cons_ed ey yi hy]
  constructor
  · conv => rhs; rw [mg_step, if_neg (by simp [h]), if_neg h2, if_neg h3, if_pos h4]
  · simp only [mgMu]
    rw [if_pos trivial, if_neg (by omega)]
    omega
theorem mg_sy (hx : xi < ex.length) (hy : yi < ey.length) (h : edEqB (edAt ex xi) (edAt ey yi) = false) (h2 : ¬ eE ex xi ≤ eS ey yi) (h3 : ¬ eE ey yi ≤ eS ex xi) (h4 : ¬ eS ex xi < eS ey yi) (h5 : eS ey yi < eS ex xi) :
    mg (ex.drop xi) ((ey.set yi ⟨eS ex xi, eE ey yi, eN ey yi⟩).drop yi) (acc ++ [⟨eS ey yi, eS ex xi, ⟨#[]⟩⟩]) = mg (ex.drop xi) (ey.drop yi) acc ∧
    1 + mgMu (ex.drop xi) ((ey.set yi ⟨eS ex xi, eE ey yi, eN ey yi⟩).drop yi) ≤ mgMu (ex.drop xi) (ey.drop yi) := by
  simp only [eS, eE, eN] at *
  rw [drop_set_ed _ _ _ hy, drop_cons_ed ex xi hx, drop_cons_ed ey yi hy]
  constructor
  · conv => rhs; rw [mg_step, if_neg (by simp [h]), if_neg h2, if_neg h3, if_neg h4, if_pos h5]
  · simp only [mgMu]
    rw [if_pos trivial, if_neg (by omega)]
    omega
theorem mg_tx (hx : xi < ex.length) (hy : ey.length ≤ yi) :
    mg (ex.drop (xi + 1)) (ey.drop yi) (acc ++ [edAt ex xi]) = mg (ex.drop xi) (ey.drop yi) acc ∧ 1 + mgMu (ex.drop (xi + 1)) (ey.drop yi) ≤ mgMu (ex.drop xi) (ey.drop yi) := by
  rw [List.drop_of_length_le hy]
  constructor
  · rw [mg_end _ _ _ (.inr rfl), mg_end _ _ _ (.inr rfl), drop_cons_ed ex xi hx]
    simp
  · rw [drop_cons_ed ex xi hx]
    cases ex.drop (xi + 1) <;> simp [mgMu] <;> omega
theorem mg_ty (hx : ex.length ≤ xi) (hy : yi < ey.length) :
    mg (ex.drop xi) (ey.drop (yi + 1)) (acc ++ [edAt ey yi]) = mg (ex.drop xi) (ey.drop yi) acc ∧ 1 + mgMu (ex.drop xi) (ey.drop (yi + 1)) ≤ mgMu (ex.drop xi) (ey.drop yi) := by
  rw [List.drop_of_length_le hx]
  constructor
  · rw [mg_end _ _ _ (.inl rfl), mg_end _ _ _ (.inl rfl), drop_cons_ed ey yi hy]
    simp
  · rw [drop_cons_ed ey yi hy]
    cases ey.drop (yi + 1) <;> simp [mgMu] <;> omega
theorem mg_done (hx : ex.length ≤ xi) (hy : ey.length ≤ yi) : mg (ex.drop xi) (ey.drop yi) acc = some acc := by
  rw [List.drop_of_length_le hx, List.drop_of_length_le hy, mg_end _ _ _ (.inl rfl)]
  simp
theorem mg_no (hx : xi < ex.length) (hy : yi < ey.length) (h : edEqB (edAt ex xi) (edAt ey yi) = false) (h2 : ¬ eE ex xi ≤ eS ey yi) (h3 : ¬ eE ey yi ≤ eS ex xi) (h4 : ¬ eS ex xi < eS ey yi) (h5 : ¬ eS ey yi < eS ex xi) :
    mg (ex.drop xi) (ey.drop yi) acc = none := by
  simp only [eS, eE] at *
  rw [drop_cons_ed ex xi hx, drop_cons_ed ey yi hy, mg_step, if_neg (by simp [h]), if_neg h2, if_neg h3, if_neg h4, if_neg h5]
end

theorem mg_len (n : Nat) : ∀ (xs ys acc r : List Ed), mgMu xs ys ≤ n → mg xs ys acc = some r → r.length ≤ acc.length + mgMu xs ys := by
  induction n with
  | zero =>
    intro xs ys acc r hn h
    have h1 := mgMu_ge xs ys
    have hx : xs = [] := List.eq_nil_of_length_eq_zero (by omega)
    subst hx
    rw [mg_end _ _ _ (.inl rfl)] at h
    injection h with h
    subst h
    simp only [List.length_append, List.length_nil] at *
    omega
  | succ n ih =>
    intro xs ys acc r hn h
    cases xs with
    | nil =>
      have h1 := mgMu_ge [] ys
      rw [mg_end _ _ _ (.inl rfl)] at h
      injection h with h
      subst h
      simp only [List.length_append, List.length_nil] at *
      omega
    | cons x xs =>
      cases ys with
      | nil =>
        have h1 := mgMu_ge (x :: xs) []
        rw [mg_end _ _ _ (.inr rfl)] at h
        injection h with h
        subst h
        simp only [List.length_append, List.length_nil] at *
        omega
      | cons y ys =>
        have h1 := mgMu_ge (x :: xs) (y :: ys)
        rw [mg_step] at h
        split at h
        · have h2 := mgMu_le xs ys
          have := ih _ _ _ _ (by simp only [List.length_cons] at *; omega) h
          simp only [List.length_append, List.length_cons, List.length_nil] at *
          omega
        · split at h
          · have h2 := mgMu_le xs (y :: ys)
            have := ih _ _ _ _ (by simp only [List.length_cons] at *; omega) h
            simp only [List.length_append, List.length_cons, List.length_nil] at *
            omega
          · split at h
            · have h2 := mgMu_le (x :: xs) ys
              have := ih _ _ _ _ (by simp only [List.length_cons] at *; omega) h
              simp only [List.length_append, List.length_cons, List.length_nil] at *
              omega
            · split at h
              · have e1 : mgMu (⟨y.s, x.e, x.n⟩ :: xs) (y :: ys) + 1 ≤ mgMu (x :: xs) (y :: ys) := by
                  simp only [mgMu, if_true]
                  rw [if_neg (by omega)]
                  omega
                have := ih _ _ _ _ (by omega) h
                simp only [List.length_append, List.length_cons, List.length_nil] at *
                omega
              · split at h
                · have e1 : mgMu (x :: xs) (⟨x.s, y.e, y.n⟩ :: ys) + 1 ≤ mgMu (x :: xs) (y :: ys) := by
                    simp only [mgMu, if_true]
                    rw [if_neg (by omega)]
                    omega
                  have := ih _ _ _ _ (by omega) h
                  simp only [List.length_append, List.length_cons, List.length_nil] at *
                  omega
                · cases h

theorem mg_len' {xs ys r : List Ed} (h : mg xs ys [] = some r) : r.length ≤ 2 * (xs.length + ys.length) + 1 := by
  have h1 := mg_len _ xs ys [] r (Nat.le_refl _) h
  have h2 := mgMu_le xs ys
  simp only [List.length_nil] at h1
  omega

end Go.Proofs.Ytoceakjnkillkaa
