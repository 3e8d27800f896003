/-
  The walk of laws.FnUnifiedEmpty: for every input it returns true, where the table of powers of ten lies in memory.
-/
import Derived.Test.YtgphjnhbheimiaaGreatDoorUniI
namespace Go.Proofs.YtgphjnhbheimiaaGreatDoor
set_option linter.unusedVariables false
open Go.RowKit

theorem diffs_roomU {E : EQT} {N M : Nat} {ps : List Pc} : ∀ {a b}, Ch E a b ps N M → (diffsFrom N M a b ps).length + 2 * sumP ps + a + b ≤ N + M := by
  induction ps with
  | nil =>
    intro a b h
    unfold diffsFrom
    have := h.1
    have := h.2
    by_cases h5 : a < N ∨ b < M
    · rw [if_pos h5]; simp [sumP]; omega
    · rw [if_neg h5]; simp [sumP]; omega
  | cons p ps ih =>
    intro a b h
    obtain ⟨g1, g2, ⟨g3, g4⟩, g5⟩ := h
    have := ih g5
    unfold diffsFrom
    rw [sumP_cons, List.length_append]
    by_cases h5 : a < p.x ∨ b < p.y
    · rw [if_pos h5]; simp; omega
    · rw [if_neg h5]; simp; omega
theorem reach_allU {E : EQT} {N M : Nat} : ∀ n, n ≤ N → n ≤ M → (∀ i, i < n → E i i = true) → Reach E N M 0 n n := by
  intro n
  induction n with
  | zero => intros; exact .zero
  | succ n ih =>
    intro h1 h2 h3
    exact (ih (by omega) (by omega) (fun i hi => h3 i (by omega))).diag (by omega) (by omega) (h3 n (by omega))
/-- a text has no differences from itself -/
theorem LinesP.noneU {s : ByteArray} {es : List Ed} (h : LinesP s s es) : es.length = 0 := by
  obtain ⟨ps, h1, h2, rfl⟩ := h
  obtain ⟨T, hT⟩ := short_ex (eqL (linesF s) (linesF s)) (linesF s).length (linesF s).length
  have g1 := hT.least _ (reach_allU (linesF s).length (Nat.le_refl _) (Nat.le_refl _) (fun i _ => by simp [eqL]))
  have g2 := h2.1 T hT (by omega)
  have g3 := diffs_roomU h1
  rw [edsOf_len]
  omega
theorem LinesP.fineU {s : ByteArray} (hs : s.size ≤ 1000000) : ∀ es, LinesP s s es → LinesFine s s es := fun es h => by
  have h1 := List.eq_nil_of_length_eq_zero h.noneU
  subst h1
  refine ⟨rfl, ByteArray.extract_zero_size, by simp, by simp [szE], ?_⟩
  simp [szE]
  omega
theorem nilBytes : ByteArray.toList ⟨#[]⟩ = ([] : List UInt8) := by
  rw [ByteArray.toList, ByteArray.toList.loop]
  rfl
/-- the text of the differences, tested for emptiness -/
def UEmp (b : Bool) (w : World) (e : Ending) (w' : World) : Prop := ∃ u : ByteArray, e = .returned (.string u) ∧ (u.toList == ([] : List UInt8)) = b ∧ u.toList.isEmpty = b ∧ Below w.heap.size w w'
theorem emp_any (s t f g : ByteArray) (w : World) (b : Bool) (hb : b = true ↔ s = t) (hs : s.size ≤ 1000000) (ht : t.size ≤ 1000000) (hF : ∀ es, LinesP s t es → LinesFine s t es) (hfg : f.size + g.size ≤ 1000000) (hT : TabP w) :
    Calls Tryz.prog 6 #[.string f, .string g, .string s, .string t] w (UEmp b w) := by
  refine (implUnified_any s t f g w hs ht hF hfg hT).mono ?_
  rintro e w' ⟨es, hp, hbl, rfl⟩
  have h1 := uniT_empty (f := f) (g := g) (hF es hp) (fun h => by subst h; exact hp.noneU)
  have h2 : uniT s f g es = ⟨#[]⟩ ↔ b = true := h1.trans hb.symm
  refine ⟨_, rfl, ?_, ?_, hbl⟩
  · cases b with
    | true => rw [h2.2 rfl, nilBytes]; rfl
    | false =>
      have h3 : ¬ uniT s f g es = ⟨#[]⟩ := fun h => by have := h2.1 h; cases this
      have e1 : ((uniT s f g es).toList == ByteArray.toList ⟨#[]⟩) = false := strEq_false h3
      rw [nilBytes] at e1
      exact e1
  · cases b with
    | true => rw [h2.2 rfl, nilBytes]; rfl
    | false =>
      have h3 : ¬ uniT s f g es = ⟨#[]⟩ := fun h => by have := h2.1 h; cases this
      have e1 : ((uniT s f g es).toList == ByteArray.toList ⟨#[]⟩) = false := strEq_false h3
      rw [nilBytes] at e1
      cases hx : (uniT s f g es).toList with
      | nil => rw [hx] at e1; simp at e1
      | cons a l => rfl
set_option maxRecDepth 100000 in
set_option maxHeartbeats 1000000 in
theorem FnUnifiedEmpty_walk (s0 s1 s2 s3 : ByteArray) (w : World) (ws0 : s0.size ≤ maxLen) (ws1 : s1.size ≤ maxLen) (ws2 : s2.size ≤ maxLen) (ws3 : s3.size ≤ maxLen) (hT : TabP w) :
   Calls Tryz.prog 3 #[.string s0, .string s1, .string s2, .string s3] w fun e w' => e = .returned (.bool true) ∧ Below w.heap.size w w' := by
  have HTL := Lib.hid (fun A c w' x y z u (h : IntsR .i64 w' A [x, y, z, u]) => tooLong_any A c [x, y, z, u] w' h (by simp))
  have HCD := Lib.hid contextD_any
  obtain ⟨q, hq⟩ : ∃ q : Bool, (q = true ↔ s2 = s3) := ⟨decide (s2 = s3), by simp⟩
  have ha := fun W (g : Below w.heap.size w W) (h1 : s0.size + s1.size + s2.size + s3.size ≤ 1000000) => emp_any s2 s2 s0 s1 W true (by simp) (by omega) (by omega) (LinesP.fineU (by omega)) (by omega) (hT.below g (Nat.le_refl _))
  have hb := fun W (g : Below w.heap.size w W) (h1 : s0.size + s1.size + s2.size + s3.size ≤ 1000000) => emp_any s3 s3 s0 s1 W true (by simp) (by omega) (by omega) (LinesP.fineU (by omega)) (by omega) (hT.below g (Nat.le_refl _))
  have hc := fun W (g : Below w.heap.size w W) (h1 : s0.size + s1.size + s2.size + s3.size ≤ 1000000) => emp_any s2 s3 s0 s1 W q hq (by omega) (by omega) (fun es h => h.fine (by omega)) (by omega) (hT.below g (Nat.le_refl _))
  have hqe : (s2.toList == s3.toList) = q := by
    cases q with
    | true => exact strEq_true (hq.1 rfl)
    | false => exact strEq_false (fun h => by have := hq.2 h; cases this)
  unfold UEmp at ha hb hc
  have HA := Lib.hid ha; have HB := Lib.hid hb; have HC := Lib.hid hc
  clear ha hb hc hT hq
  unfold maxLen at ws0 ws1 ws2 ws3
  by_cases hb0 : (2147483647 : Int) < (s0.size : Int)
  · clear hqe
    go_enter Tryz.func3, Tryz.ntmps3
    go_wp2
    go_ret
    exact ⟨rfl, Below.refl _ _⟩
  · by_cases hb1 : (2147483647 : Int) < (s1.size : Int)
    · clear hqe
      go_enter Tryz.func3, Tryz.ntmps3
      go_wp2
      go_ret
      exact ⟨rfl, Below.refl _ _⟩
    · by_cases hb2 : (2147483647 : Int) < (s2.size : Int)
      · clear hqe
        go_enter Tryz.func3, Tryz.ntmps3
        go_wp2
        go_ret
        exact ⟨rfl, Below.refl _ _⟩
      · by_cases hb3 : (2147483647 : Int) < (s3.size : Int)
        · clear hqe
          go_enter Tryz.func3, Tryz.ntmps3
          go_wp2
          go_ret
          exact ⟨rfl, Below.refl _ _⟩
        · go_enter Tryz.func3, Tryz.ntmps3
          go_wp2_with fail
          refine (HTL.out _ _ _ s0.size s1.size s2.size s3.size (IntsR.lit4 _ _ _ _ _ _ _) (by simp; omega)).mono ?_
          rintro e w3 ⟨rfl, rfl⟩
          have hsum : sumI [(s0.size : Int), (s1.size : Int), (s2.size : Int), (s3.size : Int)] = (s0.size : Int) + s1.size + s2.size + s3.size := by simp [sumI]; omega
          by_cases hbig : 1000000 < (s0.size : Int) + s1.size + s2.size + s3.size
          · have hd : decide (1000000 < sumI [(s0.size : Int), (s1.size : Int), (s2.size : Int), (s3.size : Int)]) = true := by rw [hsum]; simp; omega
            rw [hd]
            clear hd hsum hqe
            go_wp2
            go_ret
            exact ⟨rfl, (Below.refl _ _).alloc (Nat.le_refl _) _⟩
          · have hd : decide (1000000 < sumI [(s0.size : Int), (s1.size : Int), (s2.size : Int), (s3.size : Int)]) = false := by rw [hsum]; simp; omega
            rw [hd]
            have HB1 := Lib.hid ((Below.refl w.heap.size w).alloc (Nat.le_refl _) (.cells #[.int .i64 (s0.size : Int), .int .i64 (s1.size : Int), .int .i64 (s2.size : Int), .int .i64 (s3.size : Int)] 3))
            have hg : s0.size + s1.size + s2.size + s3.size ≤ 1000000 := by omega
            clear hd hsum hbig
            go_wp2_with fail
            refine (HA.out _ HB1.out hg).mono ?_
            rintro e w4 ⟨u4, rfl, e4, i4, b4⟩
            have HB4 := Lib.hid (HB1.out.trans (b4.mono HB1.out.size)); clear b4
            go_wp2_with fail
            refine (HB.out _ HB4.out hg).mono ?_
            rintro e w5 ⟨u5, rfl, e5, i5, b5⟩
            have HB5 := Lib.hid (HB4.out.trans (b5.mono HB4.out.size)); clear b5 e4 i4
            go_wp2_with fail
            refine (HC.out _ HB5.out hg).mono ?_
            rintro e w6 ⟨u6, rfl, e6, i6, b6⟩
            have HB6 := Lib.hid (HB5.out.trans (b6.mono HB5.out.size)); clear b6 e5 i5
            go_wp2_with fail
            refine (HCD.out _).mono ?_
            rintro e w7 ⟨rfl, rfl⟩
            cases q with
            | true =>
              go_wp2
              go_ret
              exact ⟨rfl, HB6.out⟩
            | false =>
              go_wp2
              go_ret
              exact ⟨rfl, HB6.out⟩
end Go.Proofs.YtgphjnhbheimiaaGreatDoor
