/-
  The lines of a text joined are the text; a part of a list of texts as a slice; rows of edits that are filled one by one. Plainly.
-/
import Derived.Test.YtgjbagojcbondaaTextP
namespace Go.Proofs.Ytgjbagojcbondaa
set_option linter.unusedVariables false
open Go.RowKit

theorem joinB_lnL (s : ByteArray) (k : Nat) : joinB (lnL s k) = s.extract 0 (lnF s k) := by
  induction k with
  | zero => simp [lnL_zero, lnF_zero, joinB]
  | succ k ih =>
    by_cases h : byteAt s k = 10
    · rw [lnL_nl s k h, lnF_nl s k h, joinB_append, ih]
      simp only [joinB, ByteArray.append_empty]
      have := lnF_le s k
      rw [ByteArray.extract_append_extract]
      congr 1
      omega
    · rw [lnL_no s k h, lnF_no s k h, ih]
theorem joinB_lines (s : ByteArray) : joinB (linesF s) = s := by
  unfold linesF
  have h0 := lnF_le s s.size
  split
  · rw [joinB_append, joinB_lnL]
    simp only [joinB, ByteArray.append_empty]
    rw [ByteArray.extract_append_extract]
    have e1 : min 0 (lnF s s.size) = 0 := by omega
    have e2 : max (lnF s s.size) s.size = s.size := by omega
    rw [e1, e2, ByteArray.extract_zero_size]
  · rw [joinB_lnL, show lnF s s.size = s.size by omega, ByteArray.extract_zero_size]
/-- a part of a slice of texts -/
theorem strs_cut {P : Program} (t e : TypeId) (i : TypeInfo) (ht : P.underlying t = some (.slice e)) (hi : P.info? e = some i) (hs : i.size = 1) (A : Option Addr) (ys : List ByteArray) (n c x X : Nat) (hn : ys.length = n) (h1 : x ≤ X) (h2 : X ≤ n) (h3 : n ≤ c) :
    ∃ A', (∀ w, (Instr.slice t (.slice A n c) (some (.int .i64 x)) (some (.int .i64 X)) none).run P w = .ok (.slice A' (X - x) (c - x)) w) ∧ ∀ w, StrsR w A ys → StrsR w A' ((ys.drop x).take (X - x)) := by
  have k1 : (0 : Int) ≤ (x : Int) := by omega
  have k2 : (x : Int) ≤ (X : Int) := by omega
  have k3 : (X : Int) ≤ (c : Int) := by omega
  have he : P.elem t = e := by unfold Program.elem; rw [ht]
  refine ⟨if c = x then A else A.map (·.add (x * 1)), fun w => ?_, fun w hr => ?_⟩
  · rw [run_slice_lh w t A n c (by rw [he]; exact ht) .i64 .i64 (x : Int) (X : Int) k1 k2 k3]
    simp [he, sizeOf, typeInfo, hi, hs, sliced, Result.andThen]
  · by_cases h : c = x
    · rw [if_pos h]
      have : (ys.drop x).take (X - x) = [] := by
        have : X - x = 0 := by omega
        rw [this, List.take_zero]
      rw [this]
      exact .inl rfl
    · rw [if_neg h]
      rcases hr with h9 | ⟨b, off, rfl, hc⟩
      · have : ys = [] := by simpa [strCells] using h9
        subst this
        exact .inl (by simp [strCells])
      · refine .inr ⟨b, off + x, by simp [add_lit], fun j u hu => ?_⟩
        rw [Nat.add_assoc]
        refine hc (x + j) u ?_
        simp only [strCells, List.map_take, List.map_drop, List.getElem?_take] at hu
        split at hu
        · rw [List.getElem?_drop] at hu
          exact hu
        · cases hu
theorem own_cap2 {w : World} {base e size n c : Nat} {A : Option Addr} {xs : List Value} (h : w.ownsRow base e size (.slice A n c) n xs) : n ≤ c := by
  rcases h.2 with ⟨h1, h2⟩ | ⟨g, cap, cur, hv, _, _, h3, _⟩
  · omega
  · injection hv with h1 h2 h4
    subst h4
    exact h3
/-- a row of edits of which the first k are filled in -/
def rowK (es : List Ed) (k : Nat) : List Ed := es.take k ++ List.replicate (es.length - k) ⟨0, 0, ⟨#[]⟩⟩
theorem rowK_len (es : List Ed) (k : Nat) (h : k ≤ es.length) : (rowK es k).length = es.length := by simp [rowK]; omega
theorem rowK_all (es : List Ed) : rowK es es.length = es := by simp [rowK]
theorem rowK_set (es : List Ed) (k : Nat) (h : k < es.length) : (rowK es k).set k (edAt es k) = rowK es (k + 1) := by
  unfold rowK
  rw [List.set_append_right _ _ (by simp; omega), List.length_take, Nat.min_eq_left (by omega), Nat.sub_self]
  obtain ⟨m, hm⟩ : ∃ m, es.length - k = m + 1 := ⟨es.length - k - 1, by omega⟩
  rw [hm, List.replicate_succ, List.set_cons_zero, take_snoc_ed es k h, List.append_assoc, show es.length - (k + 1) = m by omega]
  rfl
theorem made_ed (n : Nat) : (madeCells #[.int .i64 0, .int .i64 0, .string ⟨#[]⟩] (n * 3)).toList = edCells (List.replicate n ⟨0, 0, ⟨#[]⟩⟩) := by
  apply List.ext_getElem?
  intro i
  by_cases hi : i < n * 3
  · have hk : i / 3 < n := by omega
    have e0 : edAt (List.replicate n (⟨0, 0, ⟨#[]⟩⟩ : Ed)) (i / 3) = ⟨0, 0, ⟨#[]⟩⟩ := by simp [edAt, hk]
    obtain ⟨g0, g1, g2⟩ := edCells_get (List.replicate n (⟨0, 0, ⟨#[]⟩⟩ : Ed)) (i / 3) (by simpa using hk)
    have hl : (madeCells #[Value.int .i64 0, .int .i64 0, .string ⟨#[]⟩] (n * 3)).toList[i]? = some (#[Value.int .i64 0, .int .i64 0, .string ⟨#[]⟩][i % 3]!) := by simp [madeCells, hi]
    rw [hl]
    have h3 : i % 3 = 0 ∨ i % 3 = 1 ∨ i % 3 = 2 := by omega
    rcases h3 with h3 | h3 | h3
    · rw [h3]
      rw [show i / 3 * 3 = i by omega] at g0
      rw [g0]
      simp only [eS, e0]
      rfl
    · rw [h3]
      rw [show i / 3 * 3 + 1 = i by omega] at g1
      rw [g1]
      simp only [eE, e0]
      rfl
    · rw [h3]
      rw [show i / 3 * 3 + 2 = i by omega] at g2
      rw [g2]
      simp only [eN, e0]
      rfl
  · rw [List.getElem?_eq_none (by simp [madeCells]; omega), List.getElem?_eq_none (by rw [edCells_length]; simp; omega)]
theorem rowK_zero (es : List Ed) : rowK es 0 = List.replicate es.length ⟨0, 0, ⟨#[]⟩⟩ := by simp [rowK]
end Go.Proofs.Ytgjbagojcbondaa
