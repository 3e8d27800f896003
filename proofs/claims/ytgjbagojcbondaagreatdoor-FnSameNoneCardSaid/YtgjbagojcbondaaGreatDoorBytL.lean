/-
  The walk of impl.Lines: the edits between the lines of two texts. DiffLines' contract is a premise. Condition: texts of at most 1000000 bytes.
  impl.Lines, with DiffLines' contract paid.
  The walk of laws.FnSameNone: for every input it returns true, where the tables of unicode/utf8 lie in memory.
-/
import Derived.Test.YtgjbagojcbondaaGreatDoorLinesD
import Derived.Test.YtgjbagojcbondaaGreatDoorTextM
import Derived.Test.YtgjbagojcbondaaGreatDoorLcsT3
import Derived.Test.YtgjbagojcbondaaGreatDoorLcsE
import Derived.Test.YtgjbagojcbondaaGreatDoorBytE
namespace Go.Proofs.YtgjbagojcbondaaGreatDoor
set_option linter.unusedVariables false
open Go.RowKit

/-- where lines are alike -/
def eqL (xs ys : List ByteArray) : EQT := fun i j => decide (sx xs i = sx ys j)
/-- the edits between the lines of two texts, from a chain of pieces that are alike -/
def LinesP (s t : ByteArray) (es : List Ed) : Prop :=
  ∃ ps, Ch (eqL (linesF s) (linesF t)) 0 0 ps (linesF s).length (linesF t).length ∧ QT (eqL (linesF s) (linesF t)) (linesF s).length (linesF t).length 50 ps ∧ es = edsOf (linesF s) (linesF t) (diffsFrom (linesF s).length (linesF t).length 0 0 ps)
/-- edits of the thin package in new memory -/
def EdsOutI (P : List Ed → Prop) (w : World) (e : Ending) (w' : World) : Prop :=
  ∃ es A c, e = .returned (.slice A es.length c) ∧ EdsR w' A es ∧ es.length ≤ c ∧ Below w.heap.size w w' ∧ P es
theorem diffs_most {E : EQT} {N M : Nat} {ps : List Pc} (h : Ch E 0 0 ps N M) : (diffsFrom N M 0 0 ps).length ≤ N + M := by
  have h1 := ch_len h
  have h2 := diffs_len N M ps 0 0
  by_cases h3 : N = 0 ∧ M = 0
  · obtain ⟨rfl, rfl⟩ := h3
    have : ps = [] := List.eq_nil_of_length_eq_zero (by omega)
    subst this
    decide
  · omega
theorem eqL_sx {xs ys : List ByteArray} {i j : Nat} (h : eqL xs ys i j = true) : sx xs i = sx ys j := by simpa [eqL] using h
theorem LinesP.ed {s t : ByteArray} {es : List Ed} (h : LinesP s t es) (hs : s.size ≤ 1000000) (ht : t.size ≤ 1000000) : LinesEd s t es := by
  obtain ⟨ps, h1, h2, rfl⟩ := h
  exact linesEd_of (fun i j h => eqL_sx h) h1 hs ht (diffs_most h1)
theorem LinesP.one {es : List Ed} (h : LinesP ⟨#[97]⟩ ⟨#[98]⟩ es) : es.length = 1 := by
  obtain ⟨ps, h1, h2, rfl⟩ := h
  rw [linesF_a, linesF_b] at h1 ⊢
  have : ps = [] := apart_nilM (fun i j hi hj => by
    have : i = 0 := by simpa using hi
    have : j = 0 := by simpa using hj
    subst_vars
    decide) h1
  subst this
  decide
set_option maxRecDepth 100000 in
set_option maxHeartbeats 1000000 in
theorem linesI_any (s t : ByteArray) (w : World) (hs : s.size ≤ 1000000) (ht : t.size ≤ 1000000)
    (hd : ∀ W A C c d, StrsR W A (linesF s) → StrsR W C (linesF t) → (linesF s).length ≤ c → (linesF t).length ≤ d → Calls Tryz.prog 42 #[.slice A (linesF s).length c, .slice C (linesF t).length d] W (DsOut (linesF s).length (linesF t).length (fun ds => ∃ ps, Ch (eqL (linesF s) (linesF t)) 0 0 ps (linesF s).length (linesF t).length ∧ QT (eqL (linesF s) (linesF t)) (linesF s).length (linesF t).length 50 ps ∧ ds = diffsFrom (linesF s).length (linesF t).length 0 0 ps) W)) :
    Calls Tryz.prog 15 #[.string s, .string t] w (EdsOutI (LinesP s t) w) := by
  have hD := linesD_any s t w hs ht _ hd
  have hT := fun A c es W (h : EdsR W A es) (hl : es.length ≤ 20000000) => told_any A c es W h hl
  have HD := Lib.hid hD; have HT := Lib.hid hT; clear hD hT hd
  unfold EdsOut at HD
  go_enter Tryz.func15, Tryz.ntmps15
  go_wp2_with fail
  refine HD.out.mono ?_
  rintro e w1 ⟨es, A, c, rfl, o1, b1, ds, ⟨ps, q1, q2, rfl⟩, q3⟩
  have hp : LinesP s t es := ⟨ps, q1, q2, q3⟩
  have he := hp.ed hs ht
  have HP := Lib.hid hp
  have hl := he.len
  have B1 := Lib.hid b1
  have O1 := Lib.hid (CellsR.of_own o1)
  have hsz := b1.size
  clear q1 q2 q3 hp he o1 b1
  obtain ⟨n, hn⟩ : ∃ n, es.length = n := ⟨_, rfl⟩
  have hTT := HT.out A c es w1 O1.out (by omega)
  rw [hn] at hTT ⊢
  have HTT := Lib.hid hTT
  have HN := Lib.hid hn
  clear hTT hn
  go_wp2_with fail
  refine HTT.out.mono ?_
  rintro e w2 ⟨A2, c2, rfl, o2, b2⟩
  have B2 := Lib.hid (B1.out.trans (b2.mono hsz))
  clear b2
  go_wp2
  go_ret
  exact ⟨es, A2, c2, by rw [HN.out]; rfl, CellsR.of_own o2, by rw [HN.out]; exact own_cap2 o2, B2.out, HP.out⟩
end Go.Proofs.YtgjbagojcbondaaGreatDoor

namespace Go.Proofs.YtgjbagojcbondaaGreatDoor
set_option linter.unusedVariables false
open Go.RowKit

theorem implLines_any (s t : ByteArray) (w : World) (hs : s.size ≤ 1000000) (ht : t.size ≤ 1000000) :
    Calls Tryz.prog 15 #[.string s, .string t] w (EdsOutI (LinesP s t) w) := by
  refine linesI_any s t w hs ht (fun W A C c d hx hy hc hd => ?_)
  have l1 := linesF_len s
  have l2 := linesF_len t
  refine (ldifLines (E := eqL (linesF s) (linesF t)) (fun _ _ _ _ => rfl) hx hy hc hd (by omega) (by omega)).mono ?_
  rintro e w' ⟨ps, A', c', rfl, o, b, h1, h2⟩
  obtain ⟨k, hk⟩ := lead_chain h1
  exact ⟨_, A', c', rfl, CellsR.of_own o, b, ⟨ps, h1, h2, rfl⟩, diffs_most h1, lead_bounds hk⟩
end Go.Proofs.YtgjbagojcbondaaGreatDoor

namespace Go.Proofs.YtgjbagojcbondaaGreatDoor
set_option linter.unusedVariables false
open Go.RowKit

theorem diffs_roomS {E : EQT} {N M : Nat} {ps : List Pc} : ∀ {a b}, Ch E a b ps N M → (diffsFrom N M a b ps).length + 2 * sumP ps + a + b ≤ N + M := by
  induction ps with
  | nil =>
    intro a b h
    unfold diffsFrom
    have := h.1
    have := h.2
    by_cases h5 : a < N ∨ b < M
    · rw [if_pos h5]; simp [sumP]; omega
    · rw [if_neg h5]; simp [sumP]; omega
  | cons p ps ih =>
    intro a b h
    obtain ⟨g1, g2, ⟨g3, g4⟩, g5⟩ := h
    have := ih g5
    unfold diffsFrom
    rw [sumP_cons, List.length_append]
    by_cases h5 : a < p.x ∨ b < p.y
    · rw [if_pos h5]; simp; omega
    · rw [if_neg h5]; simp; omega
theorem reach_allS {E : EQT} {N M : Nat} : ∀ n, n ≤ N → n ≤ M → (∀ i, i < n → E i i = true) → Reach E N M 0 n n := by
  intro n
  induction n with
  | zero => intros; exact .zero
  | succ n ih =>
    intro h1 h2 h3
    exact (ih (by omega) (by omega) (fun i hi => h3 i (by omega))).diag (by omega) (by omega) (h3 n (by omega))
theorem alike0S {E : EQT} {N : Nat} {ps : List Pc} (h : ∀ i, i < N → E i i = true) (hch : Ch E 0 0 ps N N) (hq : QT E N N 50 ps) : (diffsFrom N N 0 0 ps).length = 0 := by
  obtain ⟨T, hT⟩ := short_ex E N N
  have h1 := hT.least _ (reach_allS N (Nat.le_refl _) (Nat.le_refl _) h)
  have h2 := hq T hT (by omega)
  have h3 := diffs_roomS hch
  omega
theorem LinesP.none {s : ByteArray} {es : List Ed} (h : LinesP s s es) : es.length = 0 := by
  obtain ⟨ps, h1, h2, rfl⟩ := h
  rw [edsOf_count]
  exact alike0S (fun i _ => by simp [eqL]) h1 h2
/-- a slice of so many elements -/
def SnOut (n : Nat) (w : World) (e : Ending) (w' : World) : Prop := (∃ A c, e = .returned (.slice A n c)) ∧ Below w.heap.size w w'
set_option maxRecDepth 100000 in
set_option maxHeartbeats 1000000 in
theorem FnSameNone_walk (s0 : ByteArray) (w : World) (ws0 : s0.size ≤ maxLen) (hT : TabsU w) :
   Calls Tryz.prog 4 #[.string s0] w fun e w' => e = .returned (.bool true) ∧ Below w.heap.size w w' := by
  have ht := fun A c w' x (h : IntsR .i64 w' A [x]) => tooLong_any A c [x] w' h (by simp)
  have HTL := Lib.hid ht; clear ht
  have ha := fun W => (implStrings_any ⟨#[97]⟩ ⟨#[98]⟩ W (by decide) (by decide)).mono (R' := SnOut 1 W) fun e w' ⟨es, A, c, h1, h2, h3, h4, h5⟩ => ⟨⟨A, c, by rw [h1, h5.one]⟩, h4⟩
  have hb := fun W (g : Below w.heap.size w W) => (implBytes_any ⟨#[97]⟩ ⟨#[98]⟩ W (by decide) (by decide) (hT.below g)).mono (R' := SnOut 1 W) fun e w' ⟨es, A, c, h1, h2, h3, h4, h5⟩ => ⟨⟨A, c, by rw [h1, h5.one]⟩, h4⟩
  have hc := fun W => (implLines_any ⟨#[97]⟩ ⟨#[98]⟩ W (by decide) (by decide)).mono (R' := SnOut 1 W) fun e w' ⟨es, A, c, h1, h2, h3, h4, h5⟩ => ⟨⟨A, c, by rw [h1, h5.one]⟩, h4⟩
  have hd := fun W (g : s0.size ≤ 1000000) => (implStrings_any s0 s0 W g g).mono (R' := SnOut 0 W) fun e w' ⟨es, A, c, h1, h2, h3, h4, h5⟩ => ⟨⟨A, c, by rw [h1, h5.none]; rfl⟩, h4⟩
  have he := fun W (g : s0.size ≤ 1000000) (g2 : Below w.heap.size w W) => (implBytes_any s0 s0 W g g (hT.below g2)).mono (R' := SnOut 0 W) fun e w' ⟨es, A, c, h1, h2, h3, h4, h5⟩ => ⟨⟨A, c, by rw [h1, h5.none]; rfl⟩, h4⟩
  have hf := fun W (g : s0.size ≤ 1000000) => (implLines_any s0 s0 W g g).mono (R' := SnOut 0 W) fun e w' ⟨es, A, c, h1, h2, h3, h4, h5⟩ => ⟨⟨A, c, by rw [h1, h5.none]⟩, h4⟩
  unfold SnOut at ha hb hc hd he hf
  have HA := Lib.hid ha; have HB := Lib.hid hb; have HC := Lib.hid hc; have HD := Lib.hid hd; have HE := Lib.hid he; have HF := Lib.hid hf
  clear ha hb hc hd he hf hT
  unfold maxLen at ws0
  by_cases hb0 : (2147483647 : Int) < (s0.size : Int)
  · go_enter Tryz.func4, Tryz.ntmps4
    go_wp2
    go_ret
    exact ⟨rfl, Below.refl _ _⟩
  · go_enter Tryz.func4, Tryz.ntmps4
    go_wp2_with fail
    refine (HTL.out _ _ _ s0.size (IntsR.lit1 _ _ _ _) (by simp; omega)).mono ?_
    rintro e w3 ⟨rfl, rfl⟩
    have hsum : sumI [(s0.size : Int)] = (s0.size : Int) := by simp [sumI]
    by_cases hbig : 1000000 < (s0.size : Int)
    · have hd : decide (1000000 < sumI [(s0.size : Int)]) = true := by rw [hsum]; simp; omega
      rw [hd]
      clear hd hsum
      go_wp2
      go_ret
      exact ⟨rfl, (Below.refl _ _).alloc (Nat.le_refl _) _⟩
    · have hd : decide (1000000 < sumI [(s0.size : Int)]) = false := by rw [hsum]; simp; omega
      rw [hd]
      have B1 := Lib.hid ((Below.refl w.heap.size w).alloc (Nat.le_refl _) (.cells #[.int .i64 (s0.size : Int)] 3))
      clear hd hsum
      have g0 : s0.size ≤ 1000000 := by omega
      clear hbig
      go_wp2_with fail
      refine (HA.out _).mono ?_
      rintro e w4 ⟨⟨A4, c4, rfl⟩, b4⟩
      have B4 := Lib.hid (B1.out.trans (b4.mono B1.out.size)); clear b4
      go_wp2_with fail
      refine (HB.out _ B4.out).mono ?_
      rintro e w5 ⟨⟨A5, c5, rfl⟩, b5⟩
      have B5 := Lib.hid (B4.out.trans (b5.mono B4.out.size)); clear b5
      go_wp2_with fail
      refine (HC.out _).mono ?_
      rintro e w6 ⟨⟨A6, c6, rfl⟩, b6⟩
      have B6 := Lib.hid (B5.out.trans (b6.mono B5.out.size)); clear b6
      go_wp2_with fail
      refine (HD.out _ g0).mono ?_
      rintro e w7 ⟨⟨A7, c7, rfl⟩, b7⟩
      have B7 := Lib.hid (B6.out.trans (b7.mono B6.out.size)); clear b7
      go_wp2_with fail
      refine (HE.out _ g0 B7.out).mono ?_
      rintro e w8 ⟨⟨A8, c8, rfl⟩, b8⟩
      have B8 := Lib.hid (B7.out.trans (b8.mono B7.out.size)); clear b8
      go_wp2_with fail
      refine (HF.out _ g0).mono ?_
      rintro e w9 ⟨⟨A9, c9, rfl⟩, b9⟩
      have B9 := Lib.hid (B8.out.trans (b9.mono B8.out.size)); clear b9
      go_wp2
      go_ret
      exact ⟨rfl, B9.out⟩
end Go.Proofs.YtgjbagojcbondaaGreatDoor
