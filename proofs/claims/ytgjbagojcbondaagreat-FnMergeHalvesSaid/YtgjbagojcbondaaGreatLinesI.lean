/-
  The walk of impl.Lines: the edits between the lines of two texts. DiffLines' contract is a premise. Condition: texts of at most 1000000 bytes.
-/
import Derived.Test.YtgjbagojcbondaaGreatLinesD
import Derived.Test.YtgjbagojcbondaaGreatTextM
import Derived.Test.YtgjbagojcbondaaGreatLcsT3
namespace Go.Proofs.YtgjbagojcbondaaGreat
set_option linter.unusedVariables false
open Go.RowKit

/-- where lines are alike -/
def eqL (xs ys : List ByteArray) : EQT := fun i j => decide (sx xs i = sx ys j)
/-- the edits between the lines of two texts, from a chain of pieces that are alike -/
def LinesP (s t : ByteArray) (es : List Ed) : Prop :=
  ∃ ps, Ch (eqL (linesF s) (linesF t)) 0 0 ps (linesF s).length (linesF t).length ∧ QT (eqL (linesF s) (linesF t)) (linesF s).length (linesF t).length 50 ps ∧ es = edsOf (linesF s) (linesF t) (diffsFrom (linesF s).length (linesF t).length 0 0 ps)
/-- edits of the thin package in new memory -/
def EdsOutI (P : List Ed → Prop) (w : World) (e : Ending) (w' : World) : Prop :=
  ∃ es A c, e = .returned (.slice A es.length c) ∧ EdsR w' A es ∧ es.length ≤ c ∧ Below w.heap.size w w' ∧ P es
theorem diffs_most {E : EQT} {N M : Nat} {ps : List Pc} (h : Ch E 0 0 ps N M) : (diffsFrom N M 0 0 ps).length ≤ N + M := by
  have h1 := ch_len h
  have h2 := diffs_len N M ps 0 0
  by_cases h3 : N = 0 ∧ M = 0
  · obtain ⟨rfl, rfl⟩ := h3
    have : ps = [] := List.eq_nil_of_length_eq_zero (by omega)
    subst this
    decide
  · omega
theorem eqL_sx {xs ys : List ByteArray} {i j : Nat} (h : eqL xs ys i j = true) : sx xs i = sx ys j := by simpa [eqL] using h
theorem LinesP.ed {s t : ByteArray} {es : List Ed} (h : LinesP s t es) (hs : s.size ≤ 1000000) (ht : t.size ≤ 1000000) : LinesEd s t es := by
  obtain ⟨ps, h1, h2, rfl⟩ := h
  exact linesEd_of (fun i j h => eqL_sx h) h1 hs ht (diffs_most h1)
theorem LinesP.one {es : List Ed} (h : LinesP ⟨#[97]⟩ ⟨#[98]⟩ es) : es.length = 1 := by
  obtain ⟨ps, h1, h2, rfl⟩ := h
  rw [linesF_a, linesF_b] at h1 ⊢
  have : ps = [] := apart_nilM (fun i j hi hj => by
    have : i = 0 := by simpa using hi
    have : j = 0 := by simpa using hj
    subst_vars
    decide) h1
  subst this
  decide
set_option maxRecDepth 100000 in
set_option maxHeartbeats 1000000 in
theorem linesI_any (s t : ByteArray) (w : World) (hs : s.size ≤ 1000000) (ht : t.size ≤ 1000000)
    (hd : ∀ W A C c d, StrsR W A (linesF s) → StrsR W C (linesF t) → (linesF s).length ≤ c → (linesF t).length ≤ d → Calls Tryz.prog 28 #[.slice A (linesF s).length c, .slice C (linesF t).length d] W (DsOut (linesF s).length (linesF t).length (fun ds => ∃ ps, Ch (eqL (linesF s) (linesF t)) 0 0 ps (linesF s).length (linesF t).length ∧ QT (eqL (linesF s) (linesF t)) (linesF s).length (linesF t).length 50 ps ∧ ds = diffsFrom (linesF s).length (linesF t).length 0 0 ps) W)) :
    Calls Tryz.prog 11 #[.string s, .string t] w (EdsOutI (LinesP s t) w) := by
  have hD := linesD_any s t w hs ht _ hd
  have hT := fun A c es W (h : EdsR W A es) (hl : es.length ≤ 20000000) => told_any A c es W h hl
  have HD := Lib.hid hD; have HT := Lib.hid hT; clear hD hT hd
  unfold EdsOut at HD
  go_enter Tryz.func11, Tryz.ntmps11
  go_wp2_with fail
  refine HD.out.mono ?_
  rintro e w1 ⟨es, A, c, rfl, o1, b1, ds, ⟨ps, q1, q2, rfl⟩, q3⟩
  have hp : LinesP s t es := ⟨ps, q1, q2, q3⟩
  have he := hp.ed hs ht
  have HP := Lib.hid hp
  have hl := he.len
  have B1 := Lib.hid b1
  have O1 := Lib.hid (CellsR.of_own o1)
  have hsz := b1.size
  clear q1 q2 q3 hp he o1 b1
  obtain ⟨n, hn⟩ : ∃ n, es.length = n := ⟨_, rfl⟩
  have hTT := HT.out A c es w1 O1.out (by omega)
  rw [hn] at hTT ⊢
  have HTT := Lib.hid hTT
  have HN := Lib.hid hn
  clear hTT hn
  go_wp2_with fail
  refine HTT.out.mono ?_
  rintro e w2 ⟨A2, c2, rfl, o2, b2⟩
  have B2 := Lib.hid (B1.out.trans (b2.mono hsz))
  clear b2
  go_wp2
  go_ret
  exact ⟨es, A2, c2, by rw [HN.out]; rfl, CellsR.of_own o2, by rw [HN.out]; exact own_cap2 o2, B2.out, HP.out⟩
end Go.Proofs.YtgjbagojcbondaaGreat
