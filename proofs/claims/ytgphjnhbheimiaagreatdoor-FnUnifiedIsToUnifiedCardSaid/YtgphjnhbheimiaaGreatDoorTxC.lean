/-
  Texts in pieces: what edits between pieces of two texts make, if the differences lead from one to the other. Plain theory, no condition.
  The contract of strings.Join without a separator, at lists of texts of at most 2000000 bytes together.
  The lines of a text joined are the text; a part of a list of texts as a slice; rows of edits that are filled one by one. Plainly.
  Edits between lines: bounds, sums, one difference where nothing is alike. Plainly.
-/
import Derived.Test.YtgphjnhbheimiaaGreatDoorTxB
import Derived.Test.YtgphjnhbheimiaaGreatDoorPlL
import Derived.Test.YtgphjnhbheimiaaGreatDoorLayJ
namespace Go.Proofs.YtgphjnhbheimiaaGreatDoor
set_option linter.unusedVariables false

/-- texts joined -/
def joinB : List ByteArray → ByteArray
  | [] => ByteArray.empty
  | x :: l => x ++ joinB l
theorem joinB_append (a b : List ByteArray) : joinB (a ++ b) = joinB a ++ joinB b := by
  induction a with
  | nil => simp [joinB]
  | cons x a ih => simp only [List.cons_append, joinB, ih, ByteArray.append_assoc]
theorem joinB_size (L : List ByteArray) : (joinB L).size = totB L := by
  induction L with
  | nil => rfl
  | cons x l ih => simp only [joinB, totB, ByteArray.size_append, ih]
theorem cut3 (X Y Z : ByteArray) : (X ++ Y ++ Z).extract X.size (X.size + Y.size) = Y := by
  rw [ByteArray.append_assoc, ByteArray.extract_append, ByteArray.extract_eq_empty_iff.2 (by omega), ByteArray.empty_append, Nat.sub_self, Nat.add_sub_cancel_left]
  exact ByteArray.extract_append_eq_left rfl
theorem totB_take_le (L : List ByteArray) {a b : Nat} (h : a ≤ b) : totB (L.take a) ≤ totB (L.take b) := by
  have : L.take b = L.take a ++ (L.drop a).take (b - a) := by
    rw [← List.take_append_drop a (L.take b), List.take_take, Nat.min_eq_left h, List.drop_take]
  rw [this, totB_append]
  omega
theorem totB_take_all (L : List ByteArray) (a : Nat) : totB (L.take a) ≤ totB L := by
  have := totB_append (L.take a) (L.drop a)
  rw [List.take_append_drop] at this
  omega
theorem joinB_cut (L : List ByteArray) {a b : Nat} (h : a ≤ b) : (joinB L).extract (totB (L.take a)) (totB (L.take b)) = joinB ((L.drop a).take (b - a)) := by
  have e1 : L.take b = L.take a ++ (L.drop a).take (b - a) := by
    rw [← List.take_append_drop a (L.take b), List.take_take, Nat.min_eq_left h, List.drop_take]
  have e2 : joinB L = joinB (L.take a) ++ joinB ((L.drop a).take (b - a)) ++ joinB (L.drop b) := by
    rw [← joinB_append, ← joinB_append, ← e1, List.take_append_drop]
  rw [e2, e1, totB_append, ← joinB_size, ← joinB_size, cut3]
theorem joinB_tail (L : List ByteArray) (a : Nat) : (joinB L).extract (totB (L.take a)) (joinB L).size = joinB (L.drop a) := by
  have h := joinB_cut L (a := min a L.length) (b := L.length) (by omega)
  rw [List.take_length, ← joinB_size L] at h
  rw [← List.take_take, List.take_length] at h
  rw [h]
  congr 1
  rw [List.take_of_length_le (by simp)]
  rcases Nat.le_total a L.length with h1 | h1
  · rw [Nat.min_eq_left h1]
  · rw [Nat.min_eq_right h1, List.drop_length, List.drop_of_length_le h1]

/-- edits out of differences of pieces -/
def edsOf (P Q : List ByteArray) (ds : List Df) : List Ed := ds.map fun d => ⟨(totB (P.take d.s) : Nat), (totB (P.take d.e) : Nat), joinB ((Q.drop d.rs).take (d.re - d.rs))⟩
theorem seg_eq {P Q : List ByteArray} {a b n : Nat} (h1 : a + n ≤ P.length) (h2 : b + n ≤ Q.length) (h : ∀ i, i < n → sx P (a + i) = sx Q (b + i)) : (P.drop a).take n = (Q.drop b).take n := by
  apply List.ext_getElem
  · simp; omega
  · intro i g1 g2
    have hi : i < n := by simp at g1; omega
    have := h i hi
    simp only [sx] at this
    rw [List.getD_eq_getElem?_getD, List.getD_eq_getElem?_getD, List.getElem?_eq_getElem (by omega), List.getElem?_eq_getElem (by omega)] at this
    simpa using this
theorem lead_order {E : EQT} {P Q : List ByteArray} {M : Nat} : ∀ {ds : List Df} {a b k : Nat}, Lead E P.length M a b ds k → inOrderF (totB P) (totB (P.take a)) (edsOf P Q ds) = true := by
  intro ds
  induction ds with
  | nil => intros; rfl
  | cons d ds ih =>
    intro a b k h
    obtain ⟨g1, g2, g3, g4, g5, g6, g7, g8, k', g9, g10⟩ := h
    have h1 := totB_take_le P g1
    have h2 := totB_take_le P g2
    have h3 := totB_take_all P d.e
    have h4 := ih g10
    simp only [edsOf, List.map_cons, inOrderF, insideB]
    simp only [edsOf] at h4
    rw [h4]
    simp
    omega
theorem lead_patch {E : EQT} {P Q : List ByteArray} (hE : ∀ i j, i < P.length → j < Q.length → E i j = true → sx P i = sx Q j) : ∀ {ds : List Df} {a b k : Nat}, Lead E P.length Q.length a b ds k → patchB (joinB P) (totB (P.take a)) (edsOf P Q ds) = joinB (Q.drop b) := by
  intro ds
  induction ds with
  | nil =>
    intro a b k h
    obtain ⟨g1, g2, g3, g4, g5⟩ := h
    simp only [edsOf, List.map_nil, patchB]
    rw [joinB_tail]
    have := seg_eq (P := P) (Q := Q) (a := a) (b := b) (n := P.length - a) (by omega) (by omega) (fun i hi => hE _ _ (by omega) (by omega) (g4 i (by omega)))
    rw [List.take_of_length_le (by simp), List.take_of_length_le (by simp; omega)] at this
    rw [this]
  | cons d ds ih =>
    intro a b k h
    obtain ⟨g1, g2, g3, g4, g5, g6, g7, g8, k', g9, g10⟩ := h
    have h4 := ih g10
    simp only [edsOf, List.map_cons, patchB_cons, Int.toNat_natCast]
    simp only [edsOf] at h4
    rw [h4, joinB_cut P g1, seg_eq (P := P) (Q := Q) (a := a) (b := b) (n := d.s - a) (by omega) (by omega) (fun i hi => hE _ _ (by omega) (by omega) (g8 i (by omega))), ← joinB_append, ← joinB_append]
    congr 1
    rw [List.append_assoc]
    have e1 : d.s - a = d.rs - b := by omega
    have e2 : (Q.drop d.rs).take (d.re - d.rs) ++ Q.drop d.re = Q.drop d.rs := by
      conv => rhs; rw [← List.take_append_drop (d.re - d.rs) (Q.drop d.rs), List.drop_drop]
      rw [show d.rs + (d.re - d.rs) = d.re by omega]
    rw [e2, e1]
    conv => rhs; rw [← List.take_append_drop (d.rs - b) (Q.drop b), List.drop_drop]
    rw [show b + (d.rs - b) = d.rs by omega]
end Go.Proofs.YtgphjnhbheimiaaGreatDoor

namespace Go.Proofs.YtgphjnhbheimiaaGreatDoor
set_option linter.unusedVariables false
open Go.RowKit Go.Shelf

theorem jnExtra : Builder.Extra Tryz.prog Tryz.jn_ren where
  sizeBuilder := by kernel_rfl
  liesBuilder := by kernel_rfl
  t5 := Tryz.underlying5
  a5 := Tryz.isAgg5
  z5 := Tryz.sizeOf5
  v5 := Tryz.zeroValue5
  infoByte := by kernel_rfl
  cellsByte := by kernel_rfl
  sizeByte := by kernel_rfl
  neB5 := by decide
theorem join_flat (L : List (List UInt8)) : Lib.join L [] = L.flatten := by
  cases L with
  | nil => rfl
  | cons x r => rw [Lib.join_cons]; simp [Lib.joinTail]
theorem joinB_data (L : List ByteArray) : (joinB L).data.toList = (L.map (·.data.toList)).flatten := by
  induction L with
  | nil => rfl
  | cons x l ih => simp only [joinB, ByteArray.data_append, Array.toList_append, ih, List.map_cons, List.flatten_cons]
theorem join_any (w : World) (A : Option Addr) (c : Nat) (xs : List ByteArray) (hr : StrsR w A xs) (hc : xs.length ≤ c) (hl : xs.length ≤ 2000000) (ht : totB xs ≤ 2000000) :
    Calls Tryz.prog 19 #[.slice A xs.length c, .string ⟨#[]⟩] w fun e w' => e = .returned (.string (joinB xs)) ∧ Below w.heap.size w w' := by
  have hflat : (⟨(Lib.join (xs.map (·.data.toList)) (⟨#[]⟩ : ByteArray).data.toList).toArray⟩ : ByteArray) = joinB xs := by
    show (⟨(Lib.join (xs.map (·.data.toList)) []).toArray⟩ : ByteArray) = joinB xs
    rw [join_flat, ← joinB_data]
  have hlen : (Lib.join (xs.map (·.data.toList)) (⟨#[]⟩ : ByteArray).data.toList).length ≤ 140737488355328 := by
    show (Lib.join (xs.map (·.data.toList)) []).length ≤ 140737488355328
    rw [join_flat, ← joinB_data]
    have := joinB_size xs
    have h2 : (joinB xs).data.toList.length = (joinB xs).size := by simp
    omega
  cases xs with
  | nil => exact (Any.strings_Join_none Tryz.jn jnExtra A c ⟨#[]⟩ w).mono fun e w' h => ⟨h.1, h.2 ▸ Below.refl _ _⟩
  | cons x r =>
    rcases hr with h | ⟨b, off, rfl, hcell⟩
    · cases h
    · have h1 : ∀ (j : Nat) y, (x :: r)[j]? = some y → w.cell? ⟨b, off + j, none⟩ = some (.string y) := fun j y hj => hcell j _ (by unfold strCells; rw [List.getElem?_map, hj]; rfl)
      have hb : b < w.heap.size := World.block_lt_of_cell? _ _ (h1 0 x rfl)
      have := Any.strings_Join Tryz.jn jnExtra b off c (x :: r) ⟨#[]⟩ w h1 hb (by omega) hc hlen
      rw [hflat] at this
      exact this
end Go.Proofs.YtgphjnhbheimiaaGreatDoor

namespace Go.Proofs.YtgphjnhbheimiaaGreatDoor
set_option linter.unusedVariables false
open Go.RowKit

theorem joinB_lnL (s : ByteArray) (k : Nat) : joinB (lnL s k) = s.extract 0 (lnF s k) := by
  induction k with
  | zero => simp [lnL_zero, lnF_zero, joinB]
  | succ k ih =>
    by_cases h : byteAt s k = 10
    · rw [lnL_nl s k h, lnF_nl s k h, joinB_append, ih]
      simp only [joinB, ByteArray.append_empty]
      have := lnF_le s k
      rw [ByteArray.extract_append_extract]
      congr 1
      omega
    · rw [lnL_no s k h, lnF_no s k h, ih]
theorem joinB_lines (s : ByteArray) : joinB (linesF s) = s := by
  unfold linesF
  have h0 := lnF_le s s.size
  split
  · rw [joinB_append, joinB_lnL]
    simp only [joinB, ByteArray.append_empty]
    rw [ByteArray.extract_append_extract]
    have e1 : min 0 (lnF s s.size) = 0 := by omega
    have e2 : max (lnF s s.size) s.size = s.size := by omega
    rw [e1, e2, ByteArray.extract_zero_size]
  · rw [joinB_lnL, show lnF s s.size = s.size by omega, ByteArray.extract_zero_size]
/-- a part of a slice of texts -/
theorem strs_cut {P : Program} (t e : TypeId) (i : TypeInfo) (ht : P.underlying t = some (.slice e)) (hi : P.info? e = some i) (hs : i.size = 1) (A : Option Addr) (ys : List ByteArray) (n c x X : Nat) (hn : ys.length = n) (h1 : x ≤ X) (h2 : X ≤ n) (h3 : n ≤ c) :
    ∃ A', (∀ w, (Instr.slice t (.slice A n c) (some (.int .i64 x)) (some (.int .i64 X)) none).run P w = .ok (.slice A' (X - x) (c - x)) w) ∧ ∀ w, StrsR w A ys → StrsR w A' ((ys.drop x).take (X - x)) := by
  have k1 : (0 : Int) ≤ (x : Int) := by omega
  have k2 : (x : Int) ≤ (X : Int) := by omega
  have k3 : (X : Int) ≤ (c : Int) := by omega
  have he : P.elem t = e := by unfold Program.elem; rw [ht]
  refine ⟨if c = x then A else A.map (·.add (x * 1)), fun w => ?_, fun w hr => ?_⟩
  · rw [run_slice_lh w t A n c (by rw [he]; exact ht) .i64 .i64 (x : Int) (X : Int) k1 k2 k3]
    simp [he, sizeOf, typeInfo, hi, hs, sliced, Result.andThen]
  · by_cases h : c = x
    · rw [if_pos h]
      have : (ys.drop x).take (X - x) = [] := by
        have : X - x = 0 := by omega
        rw [this, List.take_zero]
      rw [this]
      exact .inl rfl
    · rw [if_neg h]
      rcases hr with h9 | ⟨b, off, rfl, hc⟩
      · have : ys = [] := by simpa [strCells] using h9
        subst this
        exact .inl (by simp [strCells])
      · refine .inr ⟨b, off + x, by simp [add_lit], fun j u hu => ?_⟩
        rw [Nat.add_assoc]
        refine hc (x + j) u ?_
        simp only [strCells, List.map_take, List.map_drop, List.getElem?_take] at hu
        split at hu
        · rw [List.getElem?_drop] at hu
          exact hu
        · cases hu
theorem own_cap2 {w : World} {base e size n c : Nat} {A : Option Addr} {xs : List Value} (h : w.ownsRow base e size (.slice A n c) n xs) : n ≤ c := by
  rcases h.2 with ⟨h1, h2⟩ | ⟨g, cap, cur, hv, _, _, h3, _⟩
  · omega
  · injection hv with h1 h2 h4
    subst h4
    exact h3
/-- a row of edits of which the first k are filled in -/
def rowK (es : List Ed) (k : Nat) : List Ed := es.take k ++ List.replicate (es.length - k) ⟨0, 0, ⟨#[]⟩⟩
theorem rowK_len (es : List Ed) (k : Nat) (h : k ≤ es.length) : (rowK es k).length = es.length := by simp [rowK]; omega
theorem rowK_all (es : List Ed) : rowK es es.length = es := by simp [rowK]
theorem rowK_set (es : List Ed) (k : Nat) (h : k < es.length) : (rowK es k).set k (edAt es k) = rowK es (k + 1) := by
  unfold rowK
  rw [List.set_append_right _ _ (by simp; omega), List.length_take, Nat.min_eq_left (by omega), Nat.sub_self]
  obtain ⟨m, hm⟩ : ∃ m, es.length - k = m + 1 := ⟨es.length - k - 1, by omega⟩
  rw [hm, List.replicate_succ, List.set_cons_zero, take_snoc_ed es k h, List.append_assoc, show es.length - (k + 1) = m by omega]
  rfl
theorem made_ed (n : Nat) : (madeCells #[.int .i64 0, .int .i64 0, .string ⟨#[]⟩] (n * 3)).toList = edCells (List.replicate n ⟨0, 0, ⟨#[]⟩⟩) := by
  apply List.ext_getElem?
  intro i
  by_cases hi : i < n * 3
  · have hk : i / 3 < n := by omega
    have e0 : edAt (List.replicate n (⟨0, 0, ⟨#[]⟩⟩ : Ed)) (i / 3) = ⟨0, 0, ⟨#[]⟩⟩ := by simp [edAt, hk]
    obtain ⟨g0, g1, g2⟩ := edCells_get (List.replicate n (⟨0, 0, ⟨#[]⟩⟩ : Ed)) (i / 3) (by simpa using hk)
    have hl : (madeCells #[Value.int .i64 0, .int .i64 0, .string ⟨#[]⟩] (n * 3)).toList[i]? = some (#[Value.int .i64 0, .int .i64 0, .string ⟨#[]⟩][i % 3]!) := by simp [madeCells, hi]
    rw [hl]
    have h3 : i % 3 = 0 ∨ i % 3 = 1 ∨ i % 3 = 2 := by omega
    rcases h3 with h3 | h3 | h3
    · rw [h3]
      rw [show i / 3 * 3 = i by omega] at g0
      rw [g0]
      simp only [eS, e0]
      rfl
    · rw [h3]
      rw [show i / 3 * 3 + 1 = i by omega] at g1
      rw [g1]
      simp only [eE, e0]
      rfl
    · rw [h3]
      rw [show i / 3 * 3 + 2 = i by omega] at g2
      rw [g2]
      simp only [eN, e0]
      rfl
  · rw [List.getElem?_eq_none (by simp [madeCells]; omega), List.getElem?_eq_none (by rw [edCells_length]; simp; omega)]
theorem rowK_zero (es : List Ed) : rowK es 0 = List.replicate es.length ⟨0, 0, ⟨#[]⟩⟩ := by simp [rowK]
end Go.Proofs.YtgphjnhbheimiaaGreatDoor

namespace Go.Proofs.YtgphjnhbheimiaaGreatDoor
set_option linter.unusedVariables false

theorem lead_chain {E : EQT} {N M : Nat} {ps : List Pc} (h : Ch E 0 0 ps N M) : ∃ k, Lead E N M 0 0 (diffsFrom N M 0 0 ps) k :=
  ⟨_, lead_of h (Nat.le_refl _) (Nat.le_refl _) rfl (fun i hi => by omega)⟩
theorem lead_bounds {E : EQT} {N M : Nat} : ∀ {ds : List Df} {a b k : Nat}, Lead E N M a b ds k → ∀ d ∈ ds, d.s ≤ d.e ∧ d.e ≤ N ∧ d.rs ≤ d.re ∧ d.re ≤ M := by
  intro ds
  induction ds with
  | nil => intro a b k h d hd; cases hd
  | cons x ds ih =>
    intro a b k h d hd
    obtain ⟨g1, g2, g3, g4, g5, g6, g7, g8, k', g9, g10⟩ := h
    rcases List.mem_cons.1 hd with rfl | hd
    · exact ⟨g2, g3, g5, g6⟩
    · exact ih g10 d hd
theorem totB_drop_le (Q : List ByteArray) {a b : Nat} (h : a ≤ b) : totB (Q.drop b) ≤ totB (Q.drop a) := by
  have h1 := totB_append ((Q.drop a).take (b - a)) ((Q.drop a).drop (b - a))
  rw [List.take_append_drop, List.drop_drop, show a + (b - a) = b by omega] at h1
  omega
theorem totB_cut_le (Q : List ByteArray) {a b c : Nat} (h1 : a ≤ b) (h2 : b ≤ c) : totB ((Q.drop b).take (c - b)) + totB (Q.drop c) ≤ totB (Q.drop a) := by
  have h3 := totB_append ((Q.drop b).take (c - b)) ((Q.drop b).drop (c - b))
  rw [List.take_append_drop, List.drop_drop, show b + (c - b) = c by omega] at h3
  have := totB_drop_le Q h1
  omega
theorem lead_szE {E : EQT} {P Q : List ByteArray} {N M : Nat} : ∀ {ds : List Df} {a b k : Nat}, Lead E N M a b ds k → szE (edsOf P Q ds) ≤ totB (Q.drop b) + ds.length := by
  intro ds
  induction ds with
  | nil => intros; simp [edsOf, szE]
  | cons d ds ih =>
    intro a b k h
    obtain ⟨g1, g2, g3, g4, g5, g6, g7, g8, k', g9, g10⟩ := h
    have h1 := ih g10
    have h2 := totB_cut_le Q g4 g5
    simp only [edsOf, List.map_cons, szE, List.length_cons] at h1 ⊢
    rw [joinB_size]
    omega
theorem apart_nilM {E : EQT} {N M : Nat} {ps : List Pc} (h : ∀ i j, i < N → j < M → E i j = false) (hch : Ch E 0 0 ps N M) : ps = [] := by
  cases ps with
  | nil => rfl
  | cons p ps =>
    obtain ⟨g1, g2, ⟨g3, g4⟩, g5⟩ := hch
    have := g5.le
    have h1 := g4 0 g3
    rw [h _ _ (by omega) (by omega)] at h1
    cases h1
theorem linesF_a : linesF ⟨#[97]⟩ = [⟨#[97]⟩] := by decide +kernel
theorem linesF_b : linesF ⟨#[98]⟩ = [⟨#[98]⟩] := by decide +kernel
theorem psums_edge (L : List ByteArray) : totB L = totB (L.take L.length) := by rw [List.take_length]
/-- what is known of the edits between the lines of two texts -/
structure LinesEd (s t : ByteArray) (es : List Ed) : Prop where
  order : inOrderF s.size 0 es = true
  patch : patchB s 0 es = t
  size : szE es ≤ 4000000
  len : es.length ≤ 2000000
theorem linesEd_of {s t : ByteArray} {E : EQT} {ps : List Pc} (hE : ∀ i j, E i j = true → sx (linesF s) i = sx (linesF t) j) (hch : Ch E 0 0 ps (linesF s).length (linesF t).length) (hs : s.size ≤ 1000000) (ht : t.size ≤ 1000000) (hl : (diffsFrom (linesF s).length (linesF t).length 0 0 ps).length ≤ (linesF s).length + (linesF t).length) :
    LinesEd s t (edsOf (linesF s) (linesF t) (diffsFrom (linesF s).length (linesF t).length 0 0 ps)) := by
  obtain ⟨k, hk⟩ := lead_chain hch
  have h1 := lead_order (Q := linesF t) hk
  have h2 := lead_patch (P := linesF s) (Q := linesF t) (fun i j _ _ h => hE i j h) hk
  have h3 := lead_szE (P := linesF s) (Q := linesF t) hk
  have l1 := linesF_len s
  have l2 := linesF_len t
  have t1 := linesF_tot s
  have t2 := linesF_tot t
  rw [List.take_zero] at h1 h2
  rw [joinB_lines, List.drop_zero, joinB_lines] at h2
  rw [t1] at h1
  rw [List.drop_zero, t2] at h3
  exact ⟨h1, h2, by omega, by rw [show (edsOf (linesF s) (linesF t) (diffsFrom (linesF s).length (linesF t).length 0 0 ps)).length = (diffsFrom (linesF s).length (linesF t).length 0 0 ps).length by simp [edsOf]]; omega⟩
end Go.Proofs.YtgphjnhbheimiaaGreatDoor
