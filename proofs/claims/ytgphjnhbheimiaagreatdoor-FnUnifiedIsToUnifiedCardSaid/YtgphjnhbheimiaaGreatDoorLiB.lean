/-
  Edits made into edits of whole lines: what they are, and that they do the same. Plainly. Condition: the edits are in order.
  The unified form of edits, plainly: hunks with lines of three kinds; their number and size. No program in sight. No condition.
  The walks of spec.LinesOf, diff.splitLines and impl.SplitLines: the lines of a text, and where each begins. Condition: at most 3000000 bytes.
  Hunks in memory. No condition.
  The walks of zzIndex and zzContains, asked for the end of a line. Condition: texts of at most 4000000 bytes.
  The walk of addEqualLines, and the number of line ends (zzCount). Condition: at most 4000000 lines and as many bytes.
  The memory in which hunks are made, step by step. No condition.
-/
import Derived.Test.YtgphjnhbheimiaaGreatDoorTxB
import Derived.Test.YtgphjnhbheimiaaGreatDoorSmall
import Derived.Lib.OthersKept
import Derived.WalkSmall
import Derived.Deep.LoopGhost
import Derived.Lib.Hide
import Derived.Lib.Strings
import Derived.LoopTactic
import Derived.Below
import Derived.IntWalk
import Derived.Deep.RegionLaw
namespace Go.Proofs.YtgphjnhbheimiaaGreatDoor
set_option linter.unusedVariables false

/-- where the line ends in which a place lies, or the text -/
def lnEf (s : ByteArray) : Nat → Nat → Nat
  | 0, _ => s.size
  | f + 1, k => if k < s.size then (if byteAt s k = 10 then k + 1 else lnEf s f (k + 1)) else s.size
def lnE (s : ByteArray) (k : Nat) : Nat := lnEf s s.size k
/-- is there an end of a line between two places? -/
def hasNl (s : ByteArray) (a b : Nat) : Bool := (List.range (b - a)).any fun i => decide (byteAt s (a + i) = 10)
/-- does a text end with the end of a line, or is it empty? -/
def wholeB (x : ByteArray) : Bool := x.size == 0 || byteAt x (x.size - 1) == 10
/-- is a place an end of a line, or the beginning? -/
def behindB (s : ByteArray) (p : Nat) : Bool := p == 0 || byteAt s (p - 1) == 10
def expE (s : ByteArray) (x : Ed) : Ed :=
  ⟨lnF s x.s.toNat, (if behindB s x.e.toNat && wholeB (s.extract (lnF s x.s.toNat) x.s.toNat ++ x.n) then x.e.toNat else lnE s x.e.toNat : Nat),
   s.extract (lnF s x.s.toNat) x.s.toNat ++ x.n ++ s.extract x.e.toNat (if behindB s x.e.toNat && wholeB (s.extract (lnF s x.s.toNat) x.s.toNat ++ x.n) then x.e.toNat else lnE s x.e.toNat)⟩
def mrgE (s : ByteArray) : Ed → List Ed → List Ed
  | p, [] => [expE s p]
  | p, x :: l => if hasNl s p.e.toNat x.s.toNat then expE s p :: mrgE s x l else mrgE s ⟨p.s, x.e, p.n ++ s.extract p.e.toNat x.s.toNat ++ x.n⟩ l
def alignB (s : ByteArray) (x : Ed) : Bool := decide (x.s < s.size) && behindB s x.s.toNat && behindB s x.e.toNat && wholeB x.n
def lineF (s : ByteArray) (es : List Ed) : List Ed :=
  if es.all (alignB s) then es else match es with | [] => [] | p :: l => mrgE s p l

theorem lnEf_spec (s : ByteArray) : ∀ f k, k ≤ s.size → s.size ≤ k + f → k ≤ lnEf s f k ∧ lnEf s f k ≤ s.size ∧ (lnEf s f k = s.size ∨ (k < lnEf s f k ∧ byteAt s (lnEf s f k - 1) = 10)) ∧ ∀ j, k ≤ j → j < s.size → byteAt s j = 10 → lnEf s f k ≤ j + 1 := by
  intro f
  induction f with
  | zero =>
    intro k h1 h2
    exact ⟨h1, Nat.le_refl _, .inl rfl, fun j a b c => by unfold lnEf; omega⟩
  | succ f ih =>
    intro k h1 h2
    unfold lnEf
    by_cases hk : k < s.size
    · rw [if_pos hk]
      by_cases hb : byteAt s k = 10
      · rw [if_pos hb]
        exact ⟨by omega, by omega, .inr ⟨by omega, by rw [Nat.add_sub_cancel]; exact hb⟩, fun j a b c => by omega⟩
      · rw [if_neg hb]
        obtain ⟨a, b, c, d⟩ := ih (k + 1) (by omega) (by omega)
        refine ⟨by omega, b, c.imp id (fun h => ⟨by omega, h.2⟩), fun j h3 h4 h5 => ?_⟩
        have : k ≠ j := fun h => hb (h ▸ h5)
        exact d j (by omega) h4 h5
    · rw [if_neg hk]
      exact ⟨h1, Nat.le_refl _, .inl rfl, fun j a b c => by omega⟩
theorem lnE_spec (s : ByteArray) (k : Nat) (h : k ≤ s.size) : k ≤ lnE s k ∧ lnE s k ≤ s.size ∧ (lnE s k = s.size ∨ (k < lnE s k ∧ byteAt s (lnE s k - 1) = 10)) ∧ ∀ j, k ≤ j → j < s.size → byteAt s j = 10 → lnE s k ≤ j + 1 := lnEf_spec s _ _ h (by omega)
theorem lnF_behind (s : ByteArray) (k : Nat) : behindB s (lnF s k) = true := by
  induction k with
  | zero => rfl
  | succ k ih =>
    by_cases h : byteAt s k = 10
    · rw [lnF_nl s k h]; simp [behindB, h]
    · rw [lnF_no s k h]; exact ih
theorem lnF_gt (s : ByteArray) (k j : Nat) (h : j < k) (hb : byteAt s j = 10) : j + 1 ≤ lnF s k := by
  induction k with
  | zero => omega
  | succ k ih =>
    by_cases h10 : byteAt s k = 10
    · rw [lnF_nl s k h10]; omega
    · rw [lnF_no s k h10]
      have : j ≠ k := fun e => h10 (e ▸ hb)
      exact ih (by omega)
theorem hasNl_iff {s : ByteArray} {a b : Nat} : hasNl s a b = true ↔ ∃ j, a ≤ j ∧ j < b ∧ byteAt s j = 10 := by
  simp only [hasNl, List.any_eq_true, List.mem_range, decide_eq_true_eq]
  constructor
  · rintro ⟨i, h1, h2⟩; exact ⟨a + i, by omega, by omega, h2⟩
  · rintro ⟨j, h1, h2, h3⟩; exact ⟨j - a, by omega, by rw [show a + (j - a) = j by omega]; exact h3⟩
/-- from an earlier place on -/
theorem patchX_from (s : ByteArray) (a b : Nat) (es : List Ed) (h : a ≤ b) (hb : b ≤ s.size) (he : ∀ x l, es = x :: l → (b : Int) ≤ x.s) : patchB s a es = s.extract a b ++ patchB s b es := by
  cases es with
  | nil =>
    show s.extract a s.size = s.extract a b ++ s.extract b s.size
    rw [ByteArray.extract_append_extract, Nat.min_eq_left h, Nat.max_eq_right hb]
  | cons x l =>
    have := he x l rfl
    show s.extract a x.s.toNat ++ x.n ++ patchB s x.e.toNat l = s.extract a b ++ (s.extract b x.s.toNat ++ x.n ++ patchB s x.e.toNat l)
    rw [← ByteArray.append_assoc, ← ByteArray.append_assoc, ByteArray.extract_append_extract, Nat.min_eq_left h, Nat.max_eq_right (by omega)]
theorem ext_join (s : ByteArray) {a b c : Nat} (h : a ≤ b) (h2 : b ≤ c) : s.extract a b ++ s.extract b c = s.extract a c := by
  rw [ByteArray.extract_append_extract, Nat.min_eq_left h, Nat.max_eq_right h2]
/-- where a widened edit ends -/
def expEnd (s : ByteArray) (x : Ed) : Nat := if behindB s x.e.toNat && wholeB (s.extract (lnF s x.s.toNat) x.s.toNat ++ x.n) then x.e.toNat else lnE s x.e.toNat
theorem expE_s (s : ByteArray) (x : Ed) : (expE s x).s = lnF s x.s.toNat := rfl
theorem expE_e (s : ByteArray) (x : Ed) : (expE s x).e = expEnd s x := rfl
theorem expE_n (s : ByteArray) (x : Ed) : (expE s x).n = s.extract (lnF s x.s.toNat) x.s.toNat ++ x.n ++ s.extract x.e.toNat (expEnd s x) := rfl
theorem expEnd_spec {s : ByteArray} {x : Ed} (h : 0 ≤ x.s ∧ x.s ≤ x.e ∧ x.e ≤ s.size) : x.e.toNat ≤ expEnd s x ∧ expEnd s x ≤ s.size ∧ ∀ j, x.e.toNat ≤ j → j < s.size → byteAt s j = 10 → expEnd s x ≤ j + 1 := by
  have h1 := lnE_spec s x.e.toNat (by omega)
  unfold expEnd
  split
  · exact ⟨Nat.le_refl _, by omega, fun j a _ _ => by omega⟩
  · exact ⟨h1.1, h1.2.1, h1.2.2.2⟩
/-- one widened edit ahead of others -/
theorem exp_patch {s : ByteArray} {x : Ed} (h : 0 ≤ x.s ∧ x.s ≤ x.e ∧ x.e ≤ s.size) (at_ : Nat) (ha : at_ ≤ lnF s x.s.toNat) (l : List Ed) (hl : ∀ y m, l = y :: m → (expEnd s x : Int) ≤ y.s) :
    patchB s at_ (x :: l) = s.extract at_ (lnF s x.s.toNat) ++ (expE s x).n ++ patchB s (expEnd s x) l := by
  obtain ⟨h1, h2, h3⟩ := expEnd_spec h
  have h4 := lnF_le s x.s.toNat
  rw [patchB_cons, patchX_from s x.e.toNat (expEnd s x) l h1 h2 hl, expE_n, ← ext_join s ha h4]
  simp only [ByteArray.append_assoc]
theorem inOrderF_mk {N at_ : Int} {x : Ed} {l : List Ed} (h1 : 0 ≤ x.s) (h2 : x.s ≤ x.e) (h3 : x.e ≤ N) (h4 : at_ ≤ x.s) (h5 : inOrderF N x.e l = true) : inOrderF N at_ (x :: l) = true := by
  simp only [inOrderF, insideB, Bool.and_eq_true, decide_eq_true_eq]
  exact ⟨⟨⟨h1, h2, h3⟩, h4⟩, h5⟩
theorem mrg_good {s : ByteArray} : ∀ (l : List Ed) (p : Ed) (at_ : Nat), at_ ≤ lnF s p.s.toNat → inOrderF s.size at_ (p :: l) = true → inOrderF s.size at_ (mrgE s p l) = true ∧ patchB s at_ (mrgE s p l) = patchB s at_ (p :: l) := by
  intro l
  induction l with
  | nil =>
    intro p at_ ha h
    obtain ⟨g1, g2, g3, g4, g5⟩ := inOrderF_cons h
    have hs := expEnd_spec (s := s) (x := p) ⟨g1, g2, g3⟩
    have hf := lnF_le s p.s.toNat
    refine ⟨?_, ?_⟩
    · exact inOrderF_mk (x := expE s p) (l := []) (by rw [expE_s]; omega) (by rw [expE_s, expE_e]; omega) (by rw [expE_e]; omega) (by rw [expE_s]; omega) rfl
    · rw [exp_patch ⟨g1, g2, g3⟩ at_ ha [] (fun y m e => by cases e)]
      show s.extract at_ (lnF s p.s.toNat : Int).toNat ++ (expE s p).n ++ patchB s (expEnd s p : Int).toNat [] = _
      simp only [Int.toNat_natCast]
  | cons x l ih =>
    intro p at_ ha h
    obtain ⟨g1, g2, g3, g4, g5⟩ := inOrderF_cons h
    obtain ⟨k1, k2, k3, k4, k5⟩ := inOrderF_cons g5
    by_cases hn : hasNl s p.e.toNat x.s.toNat = true
    · obtain ⟨j, j1, j2, j3⟩ := hasNl_iff.1 hn
      have hs := expEnd_spec (s := s) (x := p) ⟨g1, g2, g3⟩
      have hj := hs.2.2 j j1 (by omega) j3
      have hf := lnF_le s p.s.toNat
      have hg := lnF_gt s x.s.toNat j j2 j3
      have hfx := lnF_le s x.s.toNat
      have hx : inOrderF s.size (expEnd s p : Nat) (x :: l) = true := by
        simp only [inOrderF, insideB, Bool.and_eq_true, decide_eq_true_eq]
        exact ⟨⟨⟨k1, k2, k3⟩, by omega⟩, k5⟩
      obtain ⟨i1, i2⟩ := ih x (expEnd s p) (by omega) hx
      have e : mrgE s p (x :: l) = expE s p :: mrgE s x l := by simp only [mrgE]; rw [if_pos hn]
      rw [e]
      refine ⟨?_, ?_⟩
      · exact inOrderF_mk (x := expE s p) (by rw [expE_s]; omega) (by rw [expE_s, expE_e]; omega) (by rw [expE_e]; omega) (by rw [expE_s]; omega) i1
      · rw [exp_patch ⟨g1, g2, g3⟩ at_ ha (x :: l) (fun y m e => by injection e with e1 e2; subst e1; omega), ← i2]
        show s.extract at_ (lnF s p.s.toNat : Int).toNat ++ (expE s p).n ++ patchB s (expEnd s p : Int).toNat (mrgE s x l) = _
        simp only [Int.toNat_natCast]
    · have e : mrgE s p (x :: l) = mrgE s ⟨p.s, x.e, p.n ++ s.extract p.e.toNat x.s.toNat ++ x.n⟩ l := by simp only [mrgE]; rw [if_neg hn]
      rw [e]
      have hx : inOrderF s.size at_ ((⟨p.s, x.e, p.n ++ s.extract p.e.toNat x.s.toNat ++ x.n⟩ : Ed) :: l) = true := by
        simp only [inOrderF, insideB, Bool.and_eq_true, decide_eq_true_eq]
        exact ⟨⟨⟨g1, by omega, k3⟩, g4⟩, k5⟩
      obtain ⟨i1, i2⟩ := ih ⟨p.s, x.e, p.n ++ s.extract p.e.toNat x.s.toNat ++ x.n⟩ at_ ha hx
      refine ⟨i1, ?_⟩
      rw [i2]
      simp only [patchB_cons, ByteArray.append_assoc]
/-- where a widened edit lies, and what it puts in -/
def LineAt (s : ByteArray) (p : Nat) : Prop := p = 0 ∨ p = s.size ∨ (0 < p ∧ p < s.size ∧ byteAt s (p - 1) = 10)
theorem behind_at {s : ByteArray} {p : Nat} (hp : p ≤ s.size) (h : behindB s p = true) : LineAt s p := by
  simp only [behindB, Bool.or_eq_true, beq_iff_eq] at h
  unfold LineAt
  omega
def AtL (s : ByteArray) (x : Ed) : Prop := ∃ p q : Nat, x.s = p ∧ x.e = q ∧ LineAt s p ∧ LineAt s q ∧ ((x.n.size = 0 ∨ (0 < x.n.size ∧ byteAt x.n (x.n.size - 1) = 10)) ∨ q = s.size)
theorem whole_or {x : ByteArray} (h : wholeB x = true) : x.size = 0 ∨ (0 < x.size ∧ byteAt x (x.size - 1) = 10) := by
  simp only [wholeB, Bool.or_eq_true, beq_iff_eq] at h
  omega
theorem byteAt_rgt (a b : ByteArray) (k : Nat) : byteAt (a ++ b) (a.size + k) = byteAt b k := by
  have h2 : a.data.toList.length = a.size := by simp
  simp only [byteAt, ByteArray.data_append, Array.toList_append, List.getD_eq_getElem?_getD]
  rw [List.getElem?_append_right (by rw [h2]; omega), h2, Nat.add_sub_cancel_left]
theorem byteAt_cut (s : ByteArray) (a b k : Nat) (hb : b ≤ s.size) (h : a + k < b) : byteAt (s.extract a b) k = byteAt s (a + k) := by
  have h1 : k < (s.extract a b).size := by rw [ByteArray.size_extract]; omega
  rw [byteAt_get _ _ h1, byteAt_get s (a + k) (by omega), ByteArray.getElem_extract]
theorem expE_at {s : ByteArray} {x : Ed} (h : 0 ≤ x.s ∧ x.s ≤ x.e ∧ x.e ≤ s.size) : AtL s (expE s x) := by
  have hf := lnF_le s x.s.toNat
  have hb := lnF_behind s x.s.toNat
  have hs := lnE_spec s x.e.toNat (by omega)
  refine ⟨_, _, expE_s s x, expE_e s x, behind_at (by omega) hb, ?_⟩
  rw [expE_n]
  unfold expEnd
  by_cases hc : (behindB s x.e.toNat && wholeB (s.extract (lnF s x.s.toNat) x.s.toNat ++ x.n)) = true
  · rw [if_pos hc]
    simp only [Bool.and_eq_true] at hc
    refine ⟨behind_at (by omega) hc.1, .inl ?_⟩
    have e : s.extract x.e.toNat x.e.toNat = ByteArray.empty := ByteArray.extract_eq_empty_iff.2 (by omega)
    rw [e, ByteArray.append_empty]
    exact whole_or hc.2
  · rw [if_neg hc]
    obtain ⟨h1, h2, h3, h4⟩ := hs
    rcases h3 with h3 | ⟨h3, h5⟩
    · exact ⟨.inr (.inl h3), .inr h3⟩
    · refine ⟨behind_at h2 (by simp [behindB, h5]), .inl (.inr ?_)⟩
      have hz : (s.extract x.e.toNat (lnE s x.e.toNat)).size = lnE s x.e.toNat - x.e.toNat := by rw [ByteArray.size_extract]; omega
      refine ⟨by rw [ByteArray.size_append]; omega, ?_⟩
      rw [ByteArray.size_append, hz, show (s.extract (lnF s x.s.toNat) x.s.toNat ++ x.n).size + (lnE s x.e.toNat - x.e.toNat) - 1 = (s.extract (lnF s x.s.toNat) x.s.toNat ++ x.n).size + (lnE s x.e.toNat - x.e.toNat - 1) by omega, byteAt_rgt, byteAt_cut s _ _ _ h2 (by omega), show x.e.toNat + (lnE s x.e.toNat - x.e.toNat - 1) = lnE s x.e.toNat - 1 by omega]
      exact h5
theorem mrg_at {s : ByteArray} : ∀ (l : List Ed) (p : Ed) (at_ : Int), inOrderF s.size at_ (p :: l) = true → ∀ x ∈ mrgE s p l, AtL s x := by
  intro l
  induction l with
  | nil =>
    intro p at_ h x hx
    obtain ⟨g1, g2, g3, g4, g5⟩ := inOrderF_cons h
    have hx : x = expE s p := by simpa [mrgE] using hx
    subst hx
    exact expE_at ⟨g1, g2, g3⟩
  | cons y l ih =>
    intro p at_ h x hx
    obtain ⟨g1, g2, g3, g4, g5⟩ := inOrderF_cons h
    obtain ⟨k1, k2, k3, k4, k5⟩ := inOrderF_cons g5
    by_cases hn : hasNl s p.e.toNat y.s.toNat = true
    · have e : mrgE s p (y :: l) = expE s p :: mrgE s y l := by simp only [mrgE]; rw [if_pos hn]
      rw [e] at hx
      rcases List.mem_cons.1 hx with rfl | hx
      · exact expE_at ⟨g1, g2, g3⟩
      · exact ih y p.e g5 x hx
    · have e : mrgE s p (y :: l) = mrgE s ⟨p.s, y.e, p.n ++ s.extract p.e.toNat y.s.toNat ++ y.n⟩ l := by simp only [mrgE]; rw [if_neg hn]
      rw [e] at hx
      exact ih ⟨p.s, y.e, p.n ++ s.extract p.e.toNat y.s.toNat ++ y.n⟩ at_ (inOrderF_mk g1 (by show p.s ≤ y.e; omega) k3 g4 k5) x hx
theorem mrg_len (s : ByteArray) : ∀ (l : List Ed) (p : Ed), (mrgE s p l).length ≤ l.length + 1 := by
  intro l
  induction l with
  | nil => intro p; simp [mrgE]
  | cons y l ih =>
    intro p
    simp only [mrgE]
    split
    · have := ih y; simp; omega
    · have := ih ⟨p.s, y.e, p.n ++ s.extract p.e.toNat y.s.toNat ++ y.n⟩; simp; omega
theorem szE_patch (s : ByteArray) : ∀ (l : List Ed) (at_ : Nat), szE l ≤ (patchB s at_ l).size + l.length := by
  intro l
  induction l with
  | nil => intro at_; simp [szE]
  | cons x l ih =>
    intro at_
    have := ih x.e.toNat
    simp only [szE, patchB_cons, ByteArray.size_append, List.length_cons]
    omega
theorem patch_sz (s : ByteArray) : ∀ (l : List Ed) (at_ : Nat), inOrderF s.size at_ l = true → (patchB s at_ l).size ≤ (s.size - at_) + szE l := by
  intro l
  induction l with
  | nil =>
    intro at_ _
    show (s.extract at_ s.size).size ≤ _
    rw [ByteArray.size_extract]
    omega
  | cons x l ih =>
    intro at_ h
    obtain ⟨g1, g2, g3, g4, g5⟩ := inOrderF_cons h
    have := ih x.e.toNat (by rw [Int.toNat_of_nonneg (by omega)]; exact g5)
    simp only [szE, patchB_cons, ByteArray.size_append, ByteArray.size_extract]
    omega
/-- what is known of edits of whole lines -/
structure LineEd (s : ByteArray) (es r : List Ed) : Prop where
  order : inOrderF s.size 0 r = true
  patch : patchB s 0 r = patchB s 0 es
  at_ : ∀ x ∈ r, AtL s x
  size : szE r ≤ s.size + szE es + es.length
  len : r.length ≤ es.length
theorem align_at {s : ByteArray} {x : Ed} (h : 0 ≤ x.s ∧ x.s ≤ x.e ∧ x.e ≤ s.size) (ha : alignB s x = true) : AtL s x := by
  simp only [alignB, Bool.and_eq_true, decide_eq_true_eq] at ha
  exact ⟨x.s.toNat, x.e.toNat, by omega, by omega, behind_at (by omega) ha.1.1.2, behind_at (by omega) ha.1.2, .inl (whole_or ha.2)⟩
theorem inOrderX_mem {N : Int} : ∀ {l : List Ed} {at_ : Int}, inOrderF N at_ l = true → ∀ x ∈ l, 0 ≤ x.s ∧ x.s ≤ x.e ∧ x.e ≤ N := by
  intro l
  induction l with
  | nil => intro _ _ x hx; cases hx
  | cons y l ih =>
    intro at_ h x hx
    obtain ⟨g1, g2, g3, g4, g5⟩ := inOrderF_cons h
    rcases List.mem_cons.1 hx with rfl | hx
    · exact ⟨g1, g2, g3⟩
    · exact ih g5 x hx
theorem lineF_good {s : ByteArray} {es : List Ed} (h : inOrderF s.size 0 es = true) : LineEd s es (lineF s es) := by
  unfold lineF
  split
  · rename_i ha
    refine ⟨h, rfl, fun x hx => align_at (inOrderX_mem h x hx) (List.all_eq_true.1 ha x hx), by omega, Nat.le_refl _⟩
  · cases es with
    | nil => exact ⟨rfl, rfl, fun x hx => (by cases hx), by simp [szE], Nat.le_refl _⟩
    | cons p l =>
      have h0 : inOrderF s.size (0 : Nat) (p :: l) = true := h
      obtain ⟨h1, h2⟩ := mrg_good l p 0 (Nat.zero_le _) h0
      have h3 := szE_patch s (mrgE s p l) 0
      have h4 := patch_sz s (p :: l) 0 h0
      have h5 := mrg_len s l p
      rw [h2] at h3
      exact ⟨h1, h2, mrg_at l p 0 h, by simp only [List.length_cons]; omega, by simpa using h5⟩
end Go.Proofs.YtgphjnhbheimiaaGreatDoor

namespace Go.Proofs.YtgphjnhbheimiaaGreatDoor
set_option linter.unusedVariables false

/-- lines with their kinds: 0 taken away, 1 put in, 2 kept -/
abbrev KLs := List (Int × ByteArray)
/-- a hunk: where it begins in both texts, and its lines -/
structure Hk where
  fl : Int
  tl : Int
  ls : KLs

/-- how many lines end ahead of a place -/
def nlN (s : ByteArray) : Nat → Nat
  | 0 => 0
  | k + 1 => nlN s k + (if byteAt s k = 10 then 1 else 0)
theorem nlN_mono (s : ByteArray) {a b : Nat} (h : a ≤ b) : nlN s a ≤ nlN s b := by
  induction b with
  | zero => have : a = 0 := by omega
            subst this; exact Nat.le_refl _
  | succ b ih =>
    by_cases h1 : a = b + 1
    · subst h1; exact Nat.le_refl _
    · have := ih (by omega)
      simp only [nlN]; omega
theorem nlN_le (s : ByteArray) (k : Nat) : nlN s k ≤ k := by
  induction k with
  | zero => exact Nat.le_refl _
  | succ k ih => simp only [nlN]; split <;> omega
theorem lnL_nlN (s : ByteArray) (k : Nat) : (lnL s k).length = nlN s k := by
  induction k with
  | zero => rfl
  | succ k ih =>
    by_cases h : byteAt s k = 10
    · rw [lnL_nl s k h, List.length_append, ih]; simp [nlN, h]
    · rw [lnL_no s k h, ih]; simp [nlN, h]
/-- does a text end without the end of a line? -/
def openE (s : ByteArray) : Bool := decide (0 < s.size) && decide (byteAt s (s.size - 1) ≠ 10)
theorem linesF_openE {s : ByteArray} (h : openE s = true) : (linesF s).length = nlN s s.size + 1 := by
  simp only [openE, Bool.and_eq_true, decide_eq_true_eq] at h
  obtain ⟨h1, h2⟩ := h
  obtain ⟨k, hk⟩ : ∃ k, s.size = k + 1 := ⟨s.size - 1, by omega⟩
  have e : s.size - 1 = k := by omega
  rw [e] at h2
  have : lnF s s.size < s.size := by
    have h3 := lnF_le s k
    rw [hk, lnF_no s k h2]
    omega
  unfold linesF
  rw [if_pos this, List.length_append, lnL_nlN]
  rfl
theorem linesF_ge (s : ByteArray) : nlN s s.size ≤ (linesF s).length := by
  unfold linesF
  split
  · rw [List.length_append, lnL_nlN]; omega
  · rw [lnL_nlN]; exact Nat.le_refl _

/-- kept lines -/
def eqF (L : List ByteArray) (a b : Int) : KLs := ((L.take b.toNat).drop a.toNat).map fun x => (2, x)
/-- lines taken away -/
def delF (L : List ByteArray) (a b : Int) : KLs := ((L.take b.toNat).drop a.toNat).map fun x => (0, x)
/-- lines put in -/
def insF (n : ByteArray) : KLs := (linesF n).map fun x => (1, x)
/-- the line on which an edit begins, and the one ahead of which it ends -/
def upA (s : ByteArray) (x : Ed) : Int := nlN s x.s.toNat
def upB (s : ByteArray) (x : Ed) : Int := nlN s x.e.toNat + (if decide (x.e = s.size) && openE s then 1 else 0)

/-- where the walk over the edits stands: hunks made, the hunk under way, the line behind the last edit, the line of the second text -/
structure Ust where
  hs : List Hk
  h : Option Hk
  last : Int
  tl : Int
def newHk (L : List ByteArray) (c a tl : Int) : Hk := ⟨a + 1 - (eqF L (a - c) a).length, tl + 1 - (eqF L (a - c) a).length, eqF L (a - c) a⟩
def Hk.add (h : Hk) (l : KLs) : Hk := ⟨h.fl, h.tl, h.ls ++ l⟩
/-- the hunk in which an edit goes, and the ones ahead of it -/
def openU (L : List ByteArray) (c a : Int) (st : Ust) : List Hk × Hk × Int :=
  match st.h with
  | none => (st.hs, newHk L c a (st.tl + (a - st.last)), st.tl + (a - st.last))
  | some h =>
    if a = st.last then (st.hs, h, st.tl)
    else if a ≤ st.last + c * 2 then (st.hs, h.add (eqF L st.last a), st.tl)
    else (st.hs ++ [h.add (eqF L st.last (st.last + c))], newHk L c a (st.tl + (a - st.last)), st.tl + (a - st.last))
def stepU (s : ByteArray) (L : List ByteArray) (c : Int) (st : Ust) (x : Ed) : Ust :=
  ⟨(openU L c (upA s x) st).1, some (((openU L c (upA s x) st).2.1.add (delF L (upA s x) (upB s x))).add (insF x.n)), upB s x, (openU L c (upA s x) st).2.2 + (linesF x.n).length⟩
def foldU (s : ByteArray) (L : List ByteArray) (c : Int) (es : List Ed) : Ust := es.foldl (stepU s L c) ⟨[], none, 0, 0⟩
def endU (L : List ByteArray) (c : Int) (st : Ust) : List Hk :=
  match st.h with
  | none => st.hs
  | some h => st.hs ++ [h.add (eqF L st.last (st.last + c))]
/-- the hunks of edits -/
def unifF (s : ByteArray) (c : Int) (es : List Ed) : List Hk := endU (linesF s) c (foldU s (linesF s) c es)

theorem upAB (s : ByteArray) (x : Ed) (h1 : 0 ≤ x.s) (h2 : x.s ≤ x.e) (h3 : x.e ≤ s.size) : 0 ≤ upA s x ∧ upA s x ≤ upB s x ∧ upB s x ≤ (linesF s).length := by
  have m1 := nlN_mono s (show x.s.toNat ≤ x.e.toNat by omega)
  have m2 := nlN_mono s (show x.e.toNat ≤ s.size by omega)
  have g := linesF_ge s
  unfold upA upB
  refine ⟨by omega, by split <;> omega, ?_⟩
  split
  · rename_i h
    simp only [Bool.and_eq_true, decide_eq_true_eq] at h
    have := linesF_openE h.2
    omega
  · omega

/-! ### one line more -/
theorem eqF_neg (L : List ByteArray) (a i : Int) (h : i < 0) : eqF L a (i + 1) = eqF L a i := by
  unfold eqF
  rw [show (i + 1).toNat = 0 by omega, show i.toNat = 0 by omega]
theorem cut_snoc (L : List ByteArray) (a i : Int) (f : ByteArray → Int × ByteArray) (h0 : 0 ≤ i) (h1 : a ≤ i) (h : i.toNat < L.length) : ((L.take (i + 1).toNat).drop a.toNat).map f = ((L.take i.toNat).drop a.toNat).map f ++ [f (L.getD i.toNat ⟨#[]⟩)] := by
  have e : (i + 1).toNat = i.toNat + 1 := by omega
  rw [e, List.take_succ_eq_append_getElem h, List.drop_append_of_le_length (by simp; omega), List.map_append]
  simp [h]
theorem eqF_snoc (L : List ByteArray) (a i : Int) (h0 : 0 ≤ i) (h1 : a ≤ i) (h : i.toNat < L.length) : eqF L a (i + 1) = eqF L a i ++ [(2, L.getD i.toNat ⟨#[]⟩)] := cut_snoc L a i _ h0 h1 h
theorem delF_snoc (L : List ByteArray) (a i : Int) (h0 : 0 ≤ i) (h1 : a ≤ i) (h : i.toNat < L.length) : delF L a (i + 1) = delF L a i ++ [(0, L.getD i.toNat ⟨#[]⟩)] := cut_snoc L a i _ h0 h1 h
theorem eqF_all (L : List ByteArray) (a i b : Int) (h : (L.length : Int) ≤ i) (h2 : i ≤ b) : eqF L a b = eqF L a i := by
  unfold eqF
  rw [List.take_of_length_le (by omega), List.take_of_length_le (by omega)]
theorem eqF_none (L : List ByteArray) (a b : Int) (h : b ≤ a) : eqF L a b = [] := by
  unfold eqF
  rw [List.drop_of_length_le (by simp; omega)]
  rfl
theorem delF_none (L : List ByteArray) (a b : Int) (h : b ≤ a) : delF L a b = [] := by
  unfold delF
  rw [List.drop_of_length_le (by simp; omega)]
  rfl
theorem eqF_len (L : List ByteArray) (a b : Int) : (eqF L a b).length ≤ L.length := by simp [eqF]; omega
theorem delF_len (L : List ByteArray) (a b : Int) : (delF L a b).length ≤ L.length := by simp [delF]; omega

/-! ### sizes -/
/-- what lines take in the text -/
def szK : KLs → Nat
  | [] => 0
  | x :: l => x.2.size + 30 + szK l
theorem szK_append (a b : KLs) : szK (a ++ b) = szK a + szK b := by
  induction a with
  | nil => simp [szK]
  | cons x a ih => simp only [List.cons_append, szK, ih]; omega
theorem szK_map (k : Int) (L : List ByteArray) : szK (L.map fun x => (k, x)) = totB L + 30 * L.length := by
  induction L with
  | nil => rfl
  | cons x a ih => simp only [List.map_cons, szK, ih, totB, List.length_cons]; omega
theorem totB_cut (L : List ByteArray) (n m : Nat) : totB ((L.take n).drop m) ≤ totB L := by
  have h1 := totB_append (L.take n) (L.drop n)
  rw [List.take_append_drop] at h1
  have h2 := totB_append ((L.take n).take m) ((L.take n).drop m)
  rw [List.take_append_drop] at h2
  omega
theorem szK_eq (L : List ByteArray) (a b : Int) : szK (eqF L a b) ≤ totB L + 30 * L.length := by
  unfold eqF
  rw [szK_map]
  have := totB_cut L b.toNat a.toNat
  simp only [List.length_drop, List.length_take]
  omega
theorem szK_del (L : List ByteArray) (a b : Int) : szK (delF L a b) ≤ totB L + 30 * L.length := by
  unfold delF
  rw [szK_map]
  have := totB_cut L b.toNat a.toNat
  simp only [List.length_drop, List.length_take]
  omega
theorem szK_ins (n : ByteArray) : szK (insF n) ≤ 31 * n.size := by
  unfold insF
  rw [szK_map, linesF_tot]
  have := linesF_len n
  omega
theorem szK_len (l : KLs) : l.length ≤ szK l := by
  induction l with
  | nil => exact Nat.le_refl _
  | cons x a ih => simp only [szK, List.length_cons]; omega
def szH : List Hk → Nat
  | [] => 0
  | h :: l => szK h.ls + 200 + szH l
theorem szH_append (a b : List Hk) : szH (a ++ b) = szH a + szH b := by
  induction a with
  | nil => simp [szH]
  | cons x a ih => simp only [List.cons_append, szH, ih]; omega
def szO : Option Hk → Nat
  | none => 0
  | some h => szK h.ls + 200
/-- what holds behind so many edits whose texts have so many bytes -/
structure UGood (L : List ByteArray) (T : Nat) (k z : Nat) (st : Ust) : Prop where
  size : szH st.hs + szO st.h ≤ k * (3 * T + 200) + 31 * z
  last0 : 0 ≤ st.last
  last1 : st.last ≤ L.length
  tl0 : -((k : Int) * L.length) ≤ st.tl
  tl1 : st.tl ≤ (k : Int) * L.length + z
  lines : ∀ h, (h ∈ st.hs ∨ st.h = some h) → (-10 : Int) ≤ h.fl ∧ h.fl ≤ L.length + 1 ∧ -((k : Int) * L.length) - L.length ≤ h.tl ∧ h.tl ≤ (k : Int) * L.length + z + 1
  count : st.hs.length ≤ k
theorem mulT (k : Nat) (T : Nat) : (k + 1) * T = k * T + T := Nat.succ_mul k T
theorem newHk_sz (L : List ByteArray) (c a tl : Int) : szK (newHk L c a tl).ls ≤ totB L + 30 * L.length := szK_eq L _ _
theorem eqF_near (L : List ByteArray) (c a : Int) (h1 : 0 ≤ a) (hc : 0 ≤ c) (h8 : c ≤ 8) : ((eqF L (a - c) a).length : Int) ≤ 8 := by
  simp only [eqF, List.length_map, List.length_drop, List.length_take]
  omega
theorem openU_good {L : List ByteArray} {T k z : Nat} {st : Ust} {c a : Int} (hT : totB L + 30 * L.length ≤ T) (hc : 0 ≤ c) (h8 : c ≤ 8) (h : UGood L T k z st) (ha : 0 ≤ a) (haL : a ≤ L.length) :
    szH (openU L c a st).1 + (szK (openU L c a st).2.1.ls + 200) ≤ k * (3 * T + 200) + 31 * z + 2 * T + 200 ∧
    -((k : Int) * L.length) - L.length ≤ (openU L c a st).2.2 ∧ (openU L c a st).2.2 ≤ (k : Int) * L.length + z + L.length ∧
    (∀ h, (h ∈ (openU L c a st).1 ∨ (openU L c a st).2.1 = h) → (-10 : Int) ≤ h.fl ∧ h.fl ≤ L.length + 1 ∧ -((k : Int) * L.length) - L.length - L.length ≤ h.tl ∧ h.tl ≤ (k : Int) * L.length + z + L.length + 1) ∧
    (openU L c a st).1.length ≤ k + 1 := by
  obtain ⟨g1, g2, g3, g4, g5, g6, g7⟩ := h
  obtain ⟨hs, oh, last, tl⟩ := st
  simp only at g1 g2 g3 g4 g5 g6 g7
  have hn := fun tl' => newHk_sz L c a tl'
  have hk := eqF_near L c a ha hc h8
  have hnew : ∀ tl', -((k : Int) * L.length) - L.length ≤ tl' → tl' ≤ (k : Int) * L.length + z + L.length → (-10 : Int) ≤ (newHk L c a tl').fl ∧ (newHk L c a tl').fl ≤ L.length + 1 ∧ -((k : Int) * L.length) - L.length - L.length ≤ (newHk L c a tl').tl ∧ (newHk L c a tl').tl ≤ (k : Int) * L.length + z + L.length + 1 := by
    intro tl' h1 h2
    have := eqF_len L (a - c) a
    refine ⟨by show _ ≤ a + 1 - _; omega, by show a + 1 - _ ≤ _; omega, by show _ ≤ tl' + 1 - _; omega, by show tl' + 1 - _ ≤ _; omega⟩
  cases oh with
  | none =>
    simp only [openU]
    simp only [szO] at g1
    refine ⟨by have := hn (tl + (a - last)); omega, by omega, by omega, ?_, by omega⟩
    rintro h (h' | rfl)
    · have := g6 h (.inl h'); omega
    · exact hnew _ (by omega) (by omega)
  | some h =>
    simp only [szO] at g1
    by_cases h1 : a = last
    · simp only [openU, if_pos h1]
      refine ⟨by omega, by omega, by omega, ?_, by omega⟩
      rintro h' (hh | rfl)
      · have := g6 h' (.inl hh); omega
      · have := g6 h (.inr rfl); omega
    · by_cases h2 : a ≤ last + c * 2
      · simp only [openU, if_neg h1, if_pos h2]
        refine ⟨?_, by omega, by omega, ?_, by omega⟩
        · have := szK_eq L last a
          simp only [Hk.add, szK_append]
          omega
        · rintro h' (hh | rfl)
          · have := g6 h' (.inl hh); omega
          · have := g6 h (.inr rfl); simp only [Hk.add]; omega
      · simp only [openU, if_neg h1, if_neg h2]
        refine ⟨?_, by omega, by omega, ?_, by simp; omega⟩
        · have h3 := szK_eq L last (last + c)
          have h4 := hn (tl + (a - last))
          rw [szH_append]
          simp only [Hk.add, szK_append, szH]
          omega
        · rintro h' (hh | rfl)
          · rcases List.mem_append.1 hh with hh | hh
            · have := g6 h' (.inl hh); omega
            · rw [List.mem_singleton] at hh
              subst hh
              have := g6 h (.inr rfl); simp only [Hk.add]; omega
          · exact hnew _ (by omega) (by omega)
theorem stepU_good {s : ByteArray} {L : List ByteArray} {T k z : Nat} {st : Ust} {c : Int} {x : Ed} (hL : L = linesF s) (hT : totB L + 30 * L.length ≤ T) (hc : 0 ≤ c) (h8 : c ≤ 8) (h : UGood L T k z st) (h1 : 0 ≤ x.s) (h2 : x.s ≤ x.e) (h3 : x.e ≤ s.size) :
    UGood L T (k + 1) (z + x.n.size) (stepU s L c st x) := by
  obtain ⟨b1, b2, b3⟩ := upAB s x h1 h2 h3
  rw [← hL] at b3
  obtain ⟨o1, o2, o3, o4, o5⟩ := openU_good hT hc h8 h b1 (by omega)
  have i1 := szK_del L (upA s x) (upB s x)
  have i2 := szK_ins x.n
  have i3 := linesF_len x.n
  have m1 : (((k + 1 : Nat) : Int)) * L.length = (k : Int) * L.length + L.length := by rw [Int.natCast_add, Int.add_mul]; simp
  have m2 := mulT k (3 * T + 200)
  refine ⟨?_, by show 0 ≤ upB s x; omega, by show upB s x ≤ _; omega, ?_, ?_, ?_, ?_⟩
  · show szH (openU L c (upA s x) st).1 + (szK (((openU L c (upA s x) st).2.1.add (delF L (upA s x) (upB s x))).add (insF x.n)).ls + 200) ≤ _
    simp only [Hk.add, szK_append]
    omega
  · rw [m1]; show _ ≤ (openU L c (upA s x) st).2.2 + ((linesF x.n).length : Int); omega
  · rw [m1]; show (openU L c (upA s x) st).2.2 + ((linesF x.n).length : Int) ≤ _; omega
  · rintro h' hh
    rw [m1]
    rcases hh with hh | hh
    · have := o4 h' (.inl hh)
      omega
    · have hh : some (((openU L c (upA s x) st).2.1.add (delF L (upA s x) (upB s x))).add (insF x.n)) = some h' := hh
      injection hh with hh
      subst hh
      have := o4 _ (.inr rfl)
      simp only [Hk.add]
      omega
  · show (openU L c (upA s x) st).1.length ≤ k + 1
    exact o5
theorem UGood.zero (L : List ByteArray) (T : Nat) : UGood L T 0 0 ⟨[], none, 0, 0⟩ :=
  ⟨by simp [szH, szO], by simp, by simp, by simp, by simp, by simp, by simp⟩
theorem foldU_snoc (s : ByteArray) (L : List ByteArray) (c : Int) (es : List Ed) (k : Nat) (h : k < es.length) : foldU s L c (es.take (k + 1)) = stepU s L c (foldU s L c (es.take k)) (edAt es k) := by
  rw [take_snoc_ed es k h]
  simp [foldU]
theorem szN_take (es : List Ed) (k : Nat) (h : k < es.length) : (es.take (k + 1)).foldl (fun a x => a + x.n.size) 0 = (es.take k).foldl (fun a x => a + x.n.size) 0 + (edAt es k).n.size := by
  rw [take_snoc_ed es k h]
  simp
end Go.Proofs.YtgphjnhbheimiaaGreatDoor

namespace Go.Proofs.YtgphjnhbheimiaaGreatDoor
set_option linter.unusedVariables false
open Go.RowKit

theorem infoS : (Tryz.prog.info? 9).map (fun i => (i.zero, i.size, i.bytes)) = some (some (.string ⟨#[]⟩), 1, 16) := by kernel_rfl
theorem infoI : (Tryz.prog.info? 3).map (fun i => (i.zero, i.size, i.bytes)) = some (some (.int .i64 0), 1, 8) := by kernel_rfl

theorem own_iter {w : World} {base e size n : Nat} {v : Value} {xs : List Value} {gi : Nat} {s : ByteArray} {p : Nat} (ho : w.ownsRow base e size v n xs) (hk : w.heap[gi]? = some (.stringIter s p)) (p' : Nat) : (w.iterAt gi s p').ownsRow base e size v n xs := by
  refine ⟨ho.1, ?_⟩
  rcases ho.2 with hn | ⟨g', cap, cur, rfl, hb, hgg, rest⟩
  · exact .inl hn
  · refine .inr ⟨g', cap, cur, rfl, hb, ?_, rest⟩
    rw [Lib.iterAt_other _ _ _ _ _ (fun e => by rw [e, hk] at hgg; cases hgg)]
    exact hgg
/-- rows of different kinds lie apart -/
theorem own_ne {w : World} {base base' e e' size size' n n' : Nat} {v v' : Value} {xs xs' : List Value} (ho : w.ownsRow base e size v n xs) (ho' : w.ownsRow base' e' size' v' n' xs') (hne : e ≠ e') : v.ownBlock = none ∨ v.ownBlock ≠ v'.ownBlock := by
  rcases ho.2 with ⟨rfl, _⟩ | ⟨g, cap, cur, rfl, _, hg, _⟩
  · exact .inl rfl
  · rcases ho'.2 with ⟨rfl, _⟩ | ⟨g', cap', cur', rfl, _, hg', _⟩
    · exact .inr (by simp [Value.ownBlock])
    · refine .inr (fun h => ?_)
      simp only [Value.ownBlock, Option.some.injEq] at h
      subst h
      rw [hg] at hg'
      simp only [Option.some.injEq, Obj.cells.injEq] at hg'
      exact hne hg'.2.1
theorem own_ne_iter {w : World} {base e size n : Nat} {v : Value} {xs : List Value} {gi : Nat} {s : ByteArray} {p : Nat} (ho : w.ownsRow base e size v n xs) (hk : w.heap[gi]? = some (.stringIter s p)) : some gi ≠ v.ownBlock := by
  rcases ho.2 with ⟨rfl, _⟩ | ⟨g, cap, cur, rfl, _, hg, _⟩
  · simp [Value.ownBlock]
  · intro h
    simp only [Value.ownBlock, Option.some.injEq] at h
    rw [← h, hk] at hg
    cases hg
theorem own_none {w : World} {base e size n : Nat} {v : Value} {xs : List Value} (ho : w.ownsRow base e size v n xs) {k : Nat} (hk : v.ownBlock = some k) : base ≤ k := (ho.lt k hk).1

theorem int_lit1 (w : World) (t : TypeId) (x : Int) : CellsR (w.alloc (.cells #[.int .i64 x] t)) (some ⟨w.heap.size, 0, none⟩) (intCells .i64 [x]) := IntsR.lit1 .i64 w t x

set_option maxRecDepth 100000 in
set_option maxHeartbeats 2000000 in
/-- diff.splitLines: the lines, and the sums of their sizes -/
theorem splitLines_any (s : ByteArray) (w : World) (hs : s.size ≤ 3000000) :
   Calls Tryz.prog 17 #[.string s] w fun e w' => ∃ A c B d, e = .returned (.tuple #[.slice A (linesF s).length c, .slice B ((linesF s).length + 1) d]) ∧
     w'.ownsRow w.heap.size 9 1 (.slice A (linesF s).length c) (linesF s).length (strCells (linesF s)) ∧
     w'.ownsRow w.heap.size 3 1 (.slice B ((linesF s).length + 1) d) ((linesF s).length + 1) (intCells .i64 (psums (linesF s))) ∧ Below w.heap.size w w' := by
  obtain ⟨i0, hi, hz0, hz1, hz2⟩ := info_parts infoS
  obtain ⟨i1, hj, hy0, hy1, hy2⟩ := info_parts infoI
  have hlf := fun k => lnF_le s k
  have hll := fun k => lnL_len s k
  have hlt := fun k => lnL_tot s k
  have HLF := Lib.hid hlf; clear hlf
  have HLL := Lib.hid hll; clear hll
  have HLT := Lib.hid hlt; clear hlt
  go_enter Tryz.func17, Tryz.ntmps17
  go_wp2
  generalize hgi : w.heap.size + 1 = gi
  have hgi1 : w.heap.size < gi := by omega
  go_loopg [4, 5, 6, 7, 8] s.size (fun q v4 v5 s6 _ _ wr => ∃ p : Nat, q = s.size - p ∧ p ≤ s.size ∧ s6 = .int .i64 (lnF s p) ∧ wr.ownsRow w.heap.size 9 1 v4 (lnL s p).length (strCells (lnL s p)) ∧
     wr.ownsRow w.heap.size 3 1 v5 ((lnL s p).length + 1) (intCells .i64 (psums (lnL s p))) ∧ wr.heap[gi]? = some (.stringIter s p) ∧ Below w.heap.size w wr)
  case atStart =>
    refine ⟨0, rfl, by omega, rfl, World.ownsRow_nil _ _ _ _, ?_, ?_, ((Below.refl _ _).alloc (Nat.le_refl _) _).alloc (by simp) _⟩
    · exact (World.ownsRow_lit w #[.int .i64 0] 1 (Nat.le_refl _) (by simp [maxLen]) rfl).alloc _
    · subst hgi
      have := World.iter_heap (w.alloc (.cells #[.int .i64 0] 3)) s 0
      simpa using this
  case round =>
    obtain ⟨p, hq, hp, rfl, ho4, ho5, hit, hb⟩ := hrel
    have hbs := hb.size
    have hf := HLF.out p
    have hl := HLL.out p
    have htot := HLT.out p hp
    have HTOT := Lib.hid htot; clear htot
    have HQ := Lib.hid hq; clear hq
    have HO4 := Lib.hid ho4; clear ho4
    have HO5 := Lib.hid ho5; clear ho5
    have HIT := Lib.hid hit
    by_cases hlt : p < s.size
    · have hnf := next_facts s p hlt
      have hnx := fun ty => Lib.run_next_any_at (P := Tryz.prog) wr gi s p ty hit hlt
      have hc1 := decode_le s p
      generalize hC : (Utf8.decode s p).1 = C at *
      generalize hD : (Utf8.decode s p).2 = D at *
      clear hC hD
      obtain ⟨hD1, hD2, hnl, hno⟩ := hnf
      have HNL := Lib.hid hnl; clear hnl
      have HNO := Lib.hid hno; clear hno
      have HIT2 := Lib.hid (Lib.iterAt_heap wr gi s p (p + D) hit)
      have hb2 := Lib.below_iterAt hb (k := gi) (by omega) s (p + D)
      have HB2 := Lib.hid hb2; clear hb2
      have hsz2 : gi < (wr.iterAt gi s (p + D)).heap.size := (Array.getElem?_eq_some_iff.1 HIT2.out).1
      have HO42 := Lib.hid (own_iter HO4.out HIT.out (p + D))
      have HO52 := Lib.hid (own_iter HO5.out HIT.out (p + D))
      clear hit
      by_cases h10 : byteAt s p = 10
      · obtain ⟨hC, hD⟩ := HNL.out h10
        subst hC hD
        have H10 := Lib.hid h10; clear h10
        have j1 : (lnF s p : Int) ≤ (p : Int) + 1 := by omega
        have j2 : (p : Int) + 1 ≤ (s.size : Int) := by omega
        generalize hF : lnF s p = F at *
        generalize hL : lnL s p = L at *
        have HF := Lib.hid hF; clear hF
        have HL := Lib.hid hL; clear hL
        generalize hW : wr.iterAt gi s (p + 1) = W at *
        clear hW
        go_wp2_with (first
          | (at_builtin; refine wpList_append_any _ rfl (.tmp 18) (.tmp 24) _ rfl w.heap.size 9 i0 _ 1 16 Tryz.underlying48 hi hz0 hz1 hz2 rfl (by omega) u4 L.length (strCells L) rfl (HO42.out.alloc _) (some ⟨W.heap.size, 0, none⟩) 1 1 (strCells [s.extract F (p + 1)]) rfl (str_lit1 _ _ _) rfl (strCells_one _) (by unfold maxLen; omega) (by omega) (by simp; omega) ?_; intro A1 c1 w1 hown1 hg1 hat1
             have HO1 := Lib.hid hown1; clear hown1
             have HO51 := Lib.hid ((HO52.out.alloc (.cells #[.string (s.extract F (p + 1))] 9)).kept hg1 (own_ne HO52.out HO42.out (by decide)))
             have HIT1 : Hid (w1.heap[gi]? = some (.stringIter s (p + 1))) := (hg1.block gi (by simp; omega) (own_ne_iter HO42.out HIT2.out)).trans ((Below.heap_alloc _ _ _ (by omega)).trans HIT2.out)
             have HB1 := Lib.hid ((HB2.out.alloc (by omega) (.cells #[.string (s.extract F (p + 1))] 9)).grown hg1 (by simp; omega) (fun g hg => own_none HO42.out hg))
             have hs1 := hg1.size
             simp only [World.size_alloc] at hs1
             clear hat1 hg1)
          | (at_builtin; refine wpList_append_any _ rfl (.tmp 28) (.tmp 30) _ rfl w.heap.size 3 i1 _ 1 8 Tryz.underlying30 hj hy0 hy1 hy2 rfl (by omega) u5 (L.length + 1) (intCells .i64 (psums L)) rfl (HO51.out.alloc _) (some ⟨w1.heap.size, 0, none⟩) 1 1 (intCells .i64 [((p + 1 : Nat) : Int)]) rfl (int_lit1 _ _ _) rfl (intCells_one _ _) (by unfold maxLen; omega) (by omega) (by simp; omega) ?_; intro A2 c2 w2 hown2 hg2 hat2))
        have HO2 := Lib.hid hown2; clear hown2
        have HO42 := Lib.hid ((HO1.out.alloc (.cells #[.int .i64 ((p : Int) + 1)] 3)).kept hg2 (own_ne HO1.out HO51.out (by decide)))
        have HIT3 : Hid (w2.heap[gi]? = some (.stringIter s (p + 1))) := (hg2.block gi (by simp; omega) (own_ne_iter HO51.out HIT1.out)).trans ((Below.heap_alloc _ _ _ (by omega)).trans HIT1.out)
        have HB3 := Lib.hid ((HB1.out.alloc (by omega) (.cells #[.int .i64 ((p : Int) + 1)] 3)).grown hg2 (by simp; omega) (fun g hg => own_none HO51.out hg))
        have eL : lnL s (p + 1) = L ++ [s.extract F (p + 1)] := by rw [lnL_nl s p H10.out, HF.out, HL.out]
        have eF : lnF s (p + 1) = p + 1 := lnF_nl s p H10.out
        have eP : psums (lnL s (p + 1)) = psums L ++ [((p + 1 : Nat) : Int)] := by
          rw [eL, psums_snoc, HTOT.out, ByteArray.size_extract]
          congr 3
          omega
        go_roundg (s.size - (p + 1))
        case measure => rw [HQ.out]; omega
        case rel =>
          refine ⟨p + 1, rfl, by omega, by rw [eF]; go_num, ?_, ?_, HIT3.out, HB3.out⟩
          · rw [eL, strCells_append, List.length_append]
            exact HO42.out
          · rw [eP, eL, List.length_append]
            simp only [intCells, List.map_append]
            exact HO2.out
      · obtain ⟨hC, eL, eF⟩ := HNO.out h10
        have e1 : ((C : Int) == 10) = false := by simp; omega
        have EL := Lib.hid eL; clear eL
        have EF := Lib.hid eF; clear eF
        have HC := Lib.hid hC; clear hC h10 HNL HNO
        go_wp2
        go_roundg (s.size - (p + D))
        case measure => rw [HQ.out]; omega
        case rel => exact ⟨p + D, rfl, by omega, by rw [EF.out], by rw [EL.out]; exact HO42.out, by rw [EL.out]; exact HO52.out, HIT2.out, HB2.out⟩
    · have hps : p = s.size := by omega
      have hnx := fun ty => Lib.run_next_end_at (P := Tryz.prog) wr gi s p ty hit hlt
      have HP := Lib.hid hps; clear hps hit
      by_cases hlast : lnF s p < s.size
      · have e1 : linesF s = lnL s p ++ [s.extract (lnF s p) s.size] := by
          have := HP.out
          subst this
          unfold linesF
          rw [if_pos hlast]
        have e2 : psums (linesF s) = psums (lnL s p) ++ [((s.size : Nat) : Int)] := by
          rw [e1, psums_snoc, HTOT.out, ByteArray.size_extract]
          congr 3
          omega
        have E1 := Lib.hid e1; clear e1
        have E2 := Lib.hid e2; clear e2
        have j1 : (lnF s p : Int) ≤ (s.size : Int) := by omega
        generalize hF : lnF s p = F at *
        generalize hL : lnL s p = L at *
        clear hF hL HTOT
        have hgl : gi < wr.heap.size := (Array.getElem?_eq_some_iff.1 HIT.out).1
        go_wp2_with (first
          | (at_builtin; refine wpList_append_any _ rfl (.tmp 36) (.tmp 40) _ rfl w.heap.size 9 i0 _ 1 16 Tryz.underlying48 hi hz0 hz1 hz2 rfl (by omega) u4 L.length (strCells L) rfl (HO4.out.alloc _) (some ⟨wr.heap.size, 0, none⟩) 1 1 (strCells [s.extract F s.size]) rfl (str_lit1 _ _ _) rfl (strCells_one _) (by unfold maxLen; omega) (by omega) (by simp; omega) ?_; intro A1 c1 w1 hown1 hg1 hat1
             have HO1 := Lib.hid hown1; clear hown1
             have HO51 := Lib.hid ((HO5.out.alloc (.cells #[.string (s.extract F s.size)] 9)).kept hg1 (own_ne HO5.out HO4.out (by decide)))
             have HB1 := Lib.hid ((hb.alloc (by omega) (.cells #[.string (s.extract F s.size)] 9)).grown hg1 (by simp; omega) (fun g hg => own_none HO4.out hg))
             have hs1 := hg1.size
             simp only [World.size_alloc] at hs1
             clear hat1 hg1)
          | (at_builtin; refine wpList_append_any _ rfl (.tmp 42) (.tmp 45) _ rfl w.heap.size 3 i1 _ 1 8 Tryz.underlying30 hj hy0 hy1 hy2 rfl (by omega) u5 (L.length + 1) (intCells .i64 (psums L)) rfl (HO51.out.alloc _) (some ⟨w1.heap.size, 0, none⟩) 1 1 (intCells .i64 [((s.size : Nat) : Int)]) rfl (int_lit1 _ _ _) rfl (intCells_one _ _) (by unfold maxLen; omega) (by omega) (by simp; omega) ?_; intro A2 c2 w2 hown2 hg2 hat2))
        have HO2 := Lib.hid hown2; clear hown2
        have HO42 := Lib.hid ((HO1.out.alloc (.cells #[.int .i64 ((s.size : Nat) : Int)] 3)).kept hg2 (own_ne HO1.out HO51.out (by decide)))
        have HB3 := Lib.hid ((HB1.out.alloc (by omega) (.cells #[.int .i64 ((s.size : Nat) : Int)] 3)).grown hg2 (by simp; omega) (fun g hg => own_none HO51.out hg))
        go_ret2
        refine ⟨A1, c1, A2, c2, ?_, ?_, ?_, HB3.out⟩
        · rw [E1.out, List.length_append]; rfl
        · rw [E1.out, strCells_append, List.length_append]
          exact HO42.out
        · rw [E2.out, E1.out, List.length_append]
          simp only [intCells, List.map_append]
          exact HO2.out
      · have e1 : linesF s = lnL s p := by
          have := HP.out
          subst this
          unfold linesF
          rw [if_neg hlast]
        have E1 := Lib.hid e1; clear e1
        generalize hF : lnF s p = F at *
        generalize hL : lnL s p = L at *
        clear hF hL HTOT
        go_wp2
        go_ret2
        obtain ⟨A1, c1, hv1⟩ := own_form HO4.out
        obtain ⟨A2, c2, hv2⟩ := own_form HO5.out
        subst hv1 hv2
        rw [E1.out]
        exact ⟨A1, c1, A2, c2, rfl, HO4.out, HO5.out, hb⟩

end Go.Proofs.YtgphjnhbheimiaaGreatDoor

namespace Go.Proofs.YtgphjnhbheimiaaGreatDoor
set_option linter.unusedVariables false
open Go.RowKit

theorem infoLn : (Tryz.prog.info? 66).map (fun i => (i.zero, i.size, i.bytes)) = some (some (.agg #[.int .i64 0, .string ⟨#[]⟩]), 2, 24) := by kernel_rfl
theorem infoHp : (Tryz.prog.info? 58).map (fun i => (i.zero, i.size, i.bytes)) = some (some (.pointer none), 1, 8) := by kernel_rfl

def klOne (x : Int × ByteArray) : List Value := [.int .i64 x.1, .string x.2]
def klCells (l : KLs) : List Value := l.flatMap klOne
theorem klCells_cons (x : Int × ByteArray) (l : KLs) : klCells (x :: l) = klOne x ++ klCells l := rfl
theorem klCells_append (a b : KLs) : klCells (a ++ b) = klCells a ++ klCells b := by simp [klCells]
theorem klCells_len (l : KLs) : (klCells l).length = l.length * 2 := by
  induction l with
  | nil => rfl
  | cons x l ih => rw [klCells_cons, List.length_append, ih]; simp [klOne]; omega
theorem klCells_get (l : KLs) (k : Nat) (h : k < l.length) : (klCells l)[k * 2]? = some (.int .i64 (l.getD k (0, ⟨#[]⟩)).1) ∧ (klCells l)[k * 2 + 1]? = some (.string (l.getD k (0, ⟨#[]⟩)).2) := by
  induction l generalizing k with
  | nil => simp at h
  | cons x l ih =>
    rw [klCells_cons]
    cases k with
    | zero => simp [klOne]
    | succ k =>
      have hl : (klOne x).length = 2 := rfl
      have := ih k (by simpa using h)
      refine ⟨?_, ?_⟩
      · rw [List.getElem?_append_right (by omega), hl, show (k + 1) * 2 - 2 = k * 2 by omega, this.1]; rfl
      · rw [List.getElem?_append_right (by omega), hl, show (k + 1) * 2 + 1 - 2 = k * 2 + 1 by omega, this.2]; rfl
theorem klOne_one (x : Int × ByteArray) : ∀ u ∈ klOne x, u.oneCell' = true := by
  intro u hu
  simp only [klOne, List.mem_cons, List.not_mem_nil, or_false] at hu
  rcases hu with rfl | rfl <;> rfl
theorem kl_lit1 (w : World) (t : TypeId) (k : Int) (x : ByteArray) : CellsR (w.alloc (.cells #[.int .i64 k, .string x] t)) (some ⟨w.heap.size, 0, none⟩) (klCells [(k, x)]) := by
  refine .inr ⟨_, _, rfl, fun j u hu => ?_⟩
  have := (Blk.new w t #[.int .i64 k, .string x]).cell (0 + j)
  rw [this]
  simpa [klCells, klOne] using hu
theorem klCells1_one (k : Int) (x : ByteArray) : ∀ u ∈ klCells [(k, x)], u.oneCell' = true := by
  rw [klCells_cons]
  simpa [klCells] using klOne_one (k, x)
def KlR (w : World) (A : Option Addr) (l : KLs) : Prop := CellsR w A (klCells l)
theorem KlR.at_ {w : World} {A : Option Addr} {l : KLs} (h : KlR w A l) {k : Nat} (hk : k < l.length) :
    ∃ b off, A = some ⟨b, off, none⟩ ∧ b < w.heap.size ∧ w.cell? ⟨b, off + k * 2, none⟩ = some (.int .i64 (l.getD k (0, ⟨#[]⟩)).1) ∧ w.cell? ⟨b, off + k * 2 + 1, none⟩ = some (.string (l.getD k (0, ⟨#[]⟩)).2) := by
  obtain ⟨g1, g2⟩ := klCells_get l k hk
  rcases h with h | ⟨b, off, hA, hc⟩
  · rw [h] at g1; simp at g1
  · exact ⟨b, off, hA, World.block_lt_of_cell? _ _ (hc _ _ g1), hc _ _ g1, hc _ _ g2⟩

theorem own_neH {w : World} {base e size n g t : Nat} {v : Value} {xs : List Value} {cs : Array Value} (ho : w.ownsRow base e size v n xs) (hb : Blk w g t cs) (hne : t ≠ e) : some g ≠ v.ownBlock := by
  rcases ho.2 with ⟨rfl, _⟩ | ⟨g', cap, cur, rfl, _, h3, _⟩
  · simp [Value.ownBlock]
  · intro h
    have : g = g' := by simpa [Value.ownBlock] using h
    subst this
    unfold Blk at hb
    rw [hb] at h3
    injection h3 with h3
    injection h3 with _ ht
    exact hne ht
theorem own_belowH {w w' : World} {base : Nat} {e : TypeId} {size n : Nat} {v : Value} {xs : List Value} {B : Nat} (h : w.ownsRow base e size v n xs) (hf : Below B w w') (hB : w.heap.size ≤ B) : w'.ownsRow base e size v n xs := by
  refine ⟨h.1, ?_⟩
  rcases h.2 with h1 | ⟨g, cap, cur, h1, h2, h3, h4⟩
  · exact .inl h1
  · refine .inr ⟨g, cap, cur, h1, h2, ?_, h4⟩
    have hl : g < w.heap.size := by
      rcases Nat.lt_or_ge g w.heap.size with h5 | h5
      · exact h5
      · rw [Array.getElem?_eq_none h5] at h3; cases h3
    exact (hf.block g (by omega)).trans h3
theorem own_setH {w : World} {base e size n g t : Nat} {v : Value} {xs : List Value} {cs : Array Value} (ho : w.ownsRow base e size v n xs) (hb : Blk w g t cs) (hne : t ≠ e) (o : Nat) (u : Value) : (w.setCell ⟨g, o, none⟩ u).ownsRow base e size v n xs := by
  have hn := own_neH ho hb hne
  refine ⟨ho.1, ?_⟩
  rcases ho.2 with h1 | ⟨g', cap, cur, rfl, h2, h3, h4⟩
  · exact .inl h1
  · refine .inr ⟨g', cap, cur, rfl, h2, ?_, h4⟩
    exact (Below.heap_setCell w _ _ g' (fun h => hn (by simp [Value.ownBlock]; exact h.symm))).trans h3

/-- a hunk whose block and row are the call's own -/
def HkO (w : World) (base g : Nat) (h : Hk) : Prop :=
  base ≤ g ∧ ∃ A c, Blk w g 63 #[.int .i64 h.fl, .int .i64 h.tl, .slice A h.ls.length c] ∧ w.ownsRow base 66 2 (.slice A h.ls.length c) h.ls.length (klCells h.ls)
theorem HkO.below {w w' : World} {base B g : Nat} {h : Hk} (hh : HkO w base g h) (hb : Below B w w') (hB : w.heap.size ≤ B) : HkO w' base g h := by
  obtain ⟨h1, A, c, h2, h3⟩ := hh
  exact ⟨h1, A, c, h2.below hb (by have := h2.lt; omega), own_belowH h3 hb hB⟩
theorem HkO.mono {w : World} {base base' g : Nat} {h : Hk} (hh : HkO w base g h) (hb : base' ≤ base) : HkO w base' g h := by
  obtain ⟨h1, A, c, h2, h3⟩ := hh
  exact ⟨by omega, A, c, h2, own_mono h3 hb⟩
theorem HkO.alloc {w : World} {base g : Nat} {h : Hk} (hh : HkO w base g h) (o : Obj) : HkO (w.alloc o) base g h := by
  obtain ⟨h1, A, c, h2, h3⟩ := hh
  exact ⟨h1, A, c, h2.alloc o, h3.alloc o⟩
/-- growing a row of another kind leaves it -/
theorem HkO.grown {w w' : World} {base g : Nat} {h : Hk} {b e size n : Nat} {v : Value} {xs : List Value} (hh : HkO w base g h) (ho : w.ownsRow b e size v n xs) (h1 : e ≠ 63) (h2 : e ≠ 66) (hg : w.grownBy w' v.ownBlock) : HkO w' base g h := by
  obtain ⟨g1, A, c, g2, g3⟩ := hh
  exact ⟨g1, A, c, g2.grown hg (own_neH ho g2 (Ne.symm h1)), g3.kept hg (own_ne g3 ho (Ne.symm h2))⟩
/-- so does a store in a block of another kind -/
theorem HkO.setc {w : World} {base g : Nat} {h : Hk} {b t : Nat} {cs : Array Value} (hh : HkO w base g h) (hb : Blk w b t cs) (h1 : t ≠ 63) (h2 : t ≠ 66) (o : Nat) (u : Value) : HkO (w.setCell ⟨b, o, none⟩ u) base g h := by
  obtain ⟨g1, A, c, g2, g3⟩ := hh
  exact ⟨g1, A, c, g2.far (g2.ne_ hb (Ne.symm h1)) u, own_setH g3 hb h2 o u⟩
def HksO (w : World) (base : Nat) (gs : List Nat) (hs : List Hk) : Prop := gs.length = hs.length ∧ ∀ (k : Nat) (g : Nat) (h : Hk), gs[k]? = some g → hs[k]? = some h → HkO w base g h
theorem HksO.map {w w' : World} {base : Nat} {gs : List Nat} {hs : List Hk} (h : HksO w base gs hs) (f : ∀ g h, HkO w base g h → HkO w' base g h) : HksO w' base gs hs := ⟨h.1, fun k g x h1 h2 => f _ _ (h.2 k g x h1 h2)⟩
theorem HksO.snoc {w : World} {base : Nat} {gs : List Nat} {hs : List Hk} (h : HksO w base gs hs) {g : Nat} {x : Hk} (hx : HkO w base g x) : HksO w base (gs ++ [g]) (hs ++ [x]) := by
  refine ⟨by simp [h.1], fun k g' x' h1 h2 => ?_⟩
  by_cases hk : k < gs.length
  · rw [List.getElem?_append_left hk] at h1
    rw [List.getElem?_append_left (by rw [← h.1]; exact hk)] at h2
    exact h.2 k g' x' h1 h2
  · rw [List.getElem?_append_right (by omega)] at h1
    rw [List.getElem?_append_right (by rw [← h.1]; omega), ← h.1] at h2
    obtain ⟨i, hi⟩ : ∃ i, k - gs.length = i := ⟨_, rfl⟩
    rw [hi] at h1 h2
    cases i with
    | zero =>
      simp at h1 h2
      subst h1 h2
      exact hx
    | succ i => simp at h1
def hpCells (gs : List Nat) : List Value := gs.map fun g => .pointer (some ⟨g, 0, none⟩)
theorem hpCells_append (a b : List Nat) : hpCells (a ++ b) = hpCells a ++ hpCells b := by simp [hpCells]
theorem hp_lit1 (w : World) (t : TypeId) (g : Nat) : CellsR (w.alloc (.cells #[.pointer (some ⟨g, 0, none⟩)] t)) (some ⟨w.heap.size, 0, none⟩) (hpCells [g]) := by
  refine .inr ⟨_, _, rfl, fun j u hu => ?_⟩
  have := (Blk.new w t #[.pointer (some ⟨g, 0, none⟩)]).cell (0 + j)
  rw [this]
  simpa [hpCells] using hu
theorem hp_one (gs : List Nat) : ∀ u ∈ hpCells gs, u.oneCell' = true := by
  intro u hu
  simp only [hpCells, List.mem_map] at hu
  obtain ⟨x, _, rfl⟩ := hu
  rfl
/-- the hunks made so far, in the variable at block ub -/
def UM (w : World) (base ub : Nat) (f t : ByteArray) (hs : List Hk) : Prop :=
  ∃ gs A c, Blk w ub 41 #[.string f, .string t, .slice A hs.length c] ∧ w.ownsRow base 58 1 (.slice A hs.length c) hs.length (hpCells gs) ∧ HksO w base gs hs
theorem UM.below {w w' : World} {base ub B : Nat} {f t : ByteArray} {hs : List Hk} (h : UM w base ub f t hs) (hb : Below B w w') (hB : w.heap.size ≤ B) : UM w' base ub f t hs := by
  obtain ⟨gs, A, c, h1, h2, h3⟩ := h
  exact ⟨gs, A, c, h1.below hb (by have := h1.lt; omega), own_belowH h2 hb hB, h3.map fun g h x => x.below hb hB⟩
/-- one hunk more: the row has grown (out of a world with the new cell laid), the variable is stored -/
theorem UM.push {w w1 : World} {base ub g : Nat} {f t : ByteArray} {hs : List Hk} {x : Hk} {gs : List Nat} {A A' : Option Addr} {c c' : Nat}
    (h1 : Blk w ub 41 #[.string f, .string t, .slice A hs.length c]) (h2 : w.ownsRow base 58 1 (.slice A hs.length c) hs.length (hpCells gs)) (h3 : HksO w base gs hs) (hx : HkO w base g x)
    (o : w1.ownsRow base 58 1 (.slice A' (hs.length + 1) c') (hs.length + 1) (hpCells gs ++ hpCells [g])) (hg : (w.alloc (.cells #[.pointer (some ⟨g, 0, none⟩)] 58)).grownBy w1 (Value.slice A hs.length c).ownBlock) :
    UM (w1.setCell ⟨ub, 2, none⟩ (.slice A' (hs.length + 1) c')) base ub f t (hs ++ [x]) := by
  have b1 := (h1.alloc (.cells #[.pointer (some ⟨g, 0, none⟩)] 58)).grown hg (own_neH (h2.alloc (.cells #[.pointer (some ⟨g, 0, none⟩)] 58)) (h1.alloc _) (by decide))
  refine ⟨gs ++ [g], A', c', ?_, ?_, ?_⟩
  · rw [List.length_append]
    exact b1.set_ 2 _
  · rw [List.length_append, hpCells_append]
    exact own_setH o b1 (by decide) 2 _
  · refine HksO.map (w := w) (h3.snoc hx) fun g' h' hh => ?_
    exact ((hh.alloc _).grown (h2.alloc _) (by decide) (by decide) hg).setc b1 (by decide) (by decide) 2 _
/-- hunks that can be read -/
def HkR (w : World) (g : Nat) (h : Hk) : Prop := ∃ A c, Blk w g 63 #[.int .i64 h.fl, .int .i64 h.tl, .slice A h.ls.length c] ∧ KlR w A h.ls
def HksR (w : World) (A : Option Addr) (hs : List Hk) : Prop := ∃ gs, CellsR w A (hpCells gs) ∧ gs.length = hs.length ∧ ∀ (k : Nat) (g : Nat) (h : Hk), gs[k]? = some g → hs[k]? = some h → HkR w g h
theorem HkO.read {w : World} {base g : Nat} {h : Hk} (hh : HkO w base g h) : HkR w g h := by
  obtain ⟨h1, A, c, h2, h3⟩ := hh
  exact ⟨A, c, h2, CellsR.of_own h3⟩
theorem UM.read {w : World} {base ub : Nat} {f t : ByteArray} {hs : List Hk} (h : UM w base ub f t hs) : ∃ A c, Blk w ub 41 #[.string f, .string t, .slice A hs.length c] ∧ HksR w A hs := by
  obtain ⟨gs, A, c, h1, h2, h3⟩ := h
  exact ⟨A, c, h1, gs, CellsR.of_own h2, h3.1, fun k g x a b => (h3.2 k g x a b).read⟩
theorem HkR.below {w w' : World} {B g : Nat} {h : Hk} (hh : HkR w g h) (hb : Below B w w') (hB : w.heap.size ≤ B) : HkR w' g h := by
  obtain ⟨A, c, h2, h3⟩ := hh
  exact ⟨A, c, h2.below hb (by have := h2.lt; omega), CellsR.below h3 hb hB⟩
theorem HksR.below {w w' : World} {B : Nat} {A : Option Addr} {hs : List Hk} (h : HksR w A hs) (hb : Below B w w') (hB : w.heap.size ≤ B) : HksR w' A hs := by
  obtain ⟨gs, h1, h2, h3⟩ := h
  exact ⟨gs, CellsR.below h1 hb hB, h2, fun k g x a b => (h3 k g x a b).below hb hB⟩
theorem HksR.at_ {w : World} {A : Option Addr} {hs : List Hk} (h : HksR w A hs) {k : Nat} (hk : k < hs.length) : ∃ b off g, A = some ⟨b, off, none⟩ ∧ b < w.heap.size ∧ w.cell? ⟨b, off + k, none⟩ = some (.pointer (some ⟨g, 0, none⟩)) ∧ HkR w g (hs.getD k ⟨0, 0, []⟩) := by
  obtain ⟨gs, h1, h2, h3⟩ := h
  have hkg : k < gs.length := by omega
  have g1 : (hpCells gs)[k]? = some (.pointer (some ⟨gs[k], 0, none⟩)) := by simp [hpCells, hkg]
  rcases h1 with h | ⟨b, off, hA, hc⟩
  · rw [h] at g1; simp at g1
  · refine ⟨b, off, gs[k], hA, World.block_lt_of_cell? _ _ (hc _ _ g1), hc _ _ g1, ?_⟩
    exact h3 k _ _ (List.getElem?_eq_getElem hkg) (by simp [hk])
end Go.Proofs.YtgphjnhbheimiaaGreatDoor

namespace Go.Proofs.YtgphjnhbheimiaaGreatDoor
set_option linter.unusedVariables false
open Go.RowKit

/-- where the first end of a line is, from a place on -/
def nlIx (s : ByteArray) : Nat → Nat → Int
  | 0, _ => -1
  | f + 1, k => if k < s.size then (if byteAt s k = 10 then (k : Int) else nlIx s f (k + 1)) else -1
theorem nlIx_end (s : ByteArray) (f k : Nat) (h : ¬ k < s.size) : nlIx s f k = -1 := by
  cases f with
  | zero => rfl
  | succ f => simp [nlIx, h]
theorem nlIx_has (s : ByteArray) : ∀ f k, s.size ≤ k + f → (0 ≤ nlIx s f k ↔ hasNl s k s.size = true) := by
  intro f
  induction f with
  | zero =>
    intro k h
    rw [nlIx_end s 0 k (by omega), hasNl_iff]
    constructor
    · intro h; omega
    · rintro ⟨j, h1, h2, _⟩; omega
  | succ f ih =>
    intro k h
    unfold nlIx
    by_cases hk : k < s.size
    · rw [if_pos hk]
      by_cases hb : byteAt s k = 10
      · rw [if_pos hb]
        exact ⟨fun _ => hasNl_iff.2 ⟨k, by omega, hk, hb⟩, fun _ => by omega⟩
      · rw [if_neg hb, ih (k + 1) (by omega), hasNl_iff, hasNl_iff]
        constructor
        · rintro ⟨j, h1, h2, h3⟩; exact ⟨j, by omega, h2, h3⟩
        · rintro ⟨j, h1, h2, h3⟩
          have : k ≠ j := fun e => hb (e ▸ h3)
          exact ⟨j, by omega, h2, h3⟩
    · rw [if_neg hk, hasNl_iff]
      constructor
      · intro h; omega
      · rintro ⟨j, h1, h2, _⟩; omega
theorem one_nl {s : ByteArray} {k : Nat} (h : k < s.size) : ((s.extract k (k + 1)).toList == [10]) = decide (byteAt s k = 10) := by
  have e0 : ([10] : List UInt8) = (⟨#[10]⟩ : ByteArray).toList := by simp [ByteArray.toList_eq]
  rw [e0]
  have e : s.extract k (k + 1) = ⟨#[s[k]'h]⟩ := by
    apply ByteArray.ext
    apply Array.ext'
    have h2 : k < s.data.toList.length := by simpa using h
    rw [Lib.extract_data, List.drop_eq_getElem_cons h2]
    simp
    rfl
  rw [e]
  by_cases hb : byteAt s k = 10
  · rw [decide_eq_true hb]
    rw [byteAt_get s k h] at hb
    have : s[k]'h = 10 := UInt8.toNat_inj.1 hb
    rw [this]
    simp
  · rw [decide_eq_false hb]
    refine strEq_false fun hh => hb ?_
    rw [byteAt_get s k h]
    have := congrArg (fun b : ByteArray => b.data.toList) hh
    simp at this
    rw [this]
    rfl
set_option maxRecDepth 100000 in
theorem zzIndex_any (s : ByteArray) (w : World) (hs : s.size ≤ 4000000) :
    Calls Tryz.prog 42 #[.string s, .string ⟨#[10]⟩] w fun e w' => e = .returned (.int .i64 (nlIx s s.size 0)) ∧ w' = w := by
  have hone := fun k (h : k < s.size) => one_nl (s := s) (k := k) h
  have HONE := Lib.hid hone; clear hone
  go_enter Tryz.func42, Tryz.ntmps42
  go_wp2
  go_loop [5] (fun i => ∃ k f : Nat, k ≤ s.size ∧ i = .int .i64 k ∧ s.size ≤ k + f ∧ Hid (nlIx s f k = nlIx s s.size 0)) (fun i => s.size - (intOf i).toNat)
  case atStart => exact ⟨0, s.size, Nat.zero_le _, rfl, by omega, Lib.hid rfl⟩
  case round =>
    obtain ⟨k, f, hk, rfl, hf, hN⟩ := hrel
    by_cases hlt : k < s.size
    · have he := HONE.out k hlt
      obtain ⟨f, rfl⟩ : ∃ f', f = f' + 1 := ⟨f - 1, by omega⟩
      by_cases hb : byteAt s k = 10
      · have hn : nlIx s s.size 0 = (k : Int) := by
          rw [← hN.out]; simp [nlIx, hlt, hb]
        rw [decide_eq_true hb] at he
        have HN := Lib.hid hn
        clear hN hb hn
        go_wp2
        go_ret
        exact ⟨by rw [HN.out]; rfl, rfl⟩
      · have hn : nlIx s f (k + 1) = nlIx s s.size 0 := by
          rw [← hN.out]; simp [nlIx, hlt, hb]
        have HN := Lib.hid hn
        rw [decide_eq_false hb] at he
        clear hN hb hn
        go_wp2
        go_round
        case rel => exact ⟨k + 1, f, by omega, by go_num, by omega, HN⟩
        case measure => simp [intOf]; omega
    · have hn : nlIx s s.size 0 = -1 := by
        rw [← hN.out]; exact nlIx_end s f k hlt
      have HN := Lib.hid hn
      clear hN hn
      go_wp2
      go_ret
      exact ⟨by rw [HN.out]; rfl, rfl⟩
set_option maxRecDepth 100000 in
theorem zzContains_any (s : ByteArray) (w : World) (hs : s.size ≤ 4000000) :
    Calls Tryz.prog 30 #[.string s, .string ⟨#[10]⟩] w fun e w' => e = .returned (.bool (hasNl s 0 s.size)) ∧ w' = w := by
  have hi := zzIndex_any s w hs
  have hh := nlIx_has s s.size 0 (by omega)
  generalize nlIx s s.size 0 = p at *
  generalize hasNl s 0 s.size = b at *
  have HI := Lib.hid hi; clear hi
  have hd : decide ((0 : Int) ≤ p) = b := by
    cases b
    · simp; simp at hh; omega
    · simp; simpa using hh
  clear hh
  go_enter Tryz.func30, Tryz.ntmps30
  go_wp2_with fail
  refine HI.out.mono ?_
  rintro e w1 ⟨rfl, rfl⟩
  go_wp2
  go_ret
  exact ⟨by rw [← hd]; rfl, rfl⟩
end Go.Proofs.YtgphjnhbheimiaaGreatDoor

namespace Go.Proofs.YtgphjnhbheimiaaGreatDoor
set_option linter.unusedVariables false
open Go.RowKit

section
variable {P : Program} (w : World)
/-- append onto a row of the call's own, as one step of a region that draws -/
theorem step_append_anyL {ops : Array Oper} {o : Oper} {a : Act} {K : Act → World → Prop} {Q : Exit → Act → World → Prop} {E : Prop} (hgd : o.guard = none) (s x : Operand) (t : TypeId)
    (ho : o.op = .call { callee := .builtin .append, args := #[s, x], argTypes := #[t, t] })
    (base : Nat) (e : TypeId) (i : TypeInfo) (z : Value) (size bytes : Nat) (ht : P.underlying t = some (.slice e)) (hi : P.info? e = some i) (hz : i.zero = some z)
    (hsize : i.size = size) (hby : i.bytes = bytes) (hzs : z.cells.size = size) (hsz : 0 < size)
    (v : Value) (n : Nat) (xs : List Value) (hs : a.eval s = v) (hown : w.ownsRow base e size v n xs)
    (A : Option Addr) (m c : Nat) (news : List Value) (hx : a.eval x = .slice A m c) (hr : CellsR w A news) (hm : news.length = m * size) (h1 : ∀ u ∈ news, u.oneCell' = true)
    (h63 : n + m ≤ maxLen) (hbytes : (n + m) * bytes ≤ 140737488355328) (hbase : base ≤ w.heap.size)
    (h : ∀ A' c' w', w'.ownsRow base e size (.slice A' (n + m) c') (n + m) (xs ++ news) → w.grownBy w' v.ownBlock → K (a.put o.dst (.slice A' (n + m) c')) w') :
    if Region.wanted o (yielded ops a.tmps) = true then Oper.wp P o a w K Q else E := by
  have hw : Region.wanted o (yielded ops a.tmps) = true := by simp [Region.wanted, hgd]
  rw [if_pos hw]
  refine wp_append_any w s x t ho base e i z size bytes ht hi hz hsize hby hzs hsz v n xs hs hown A m c news hx hr hm h1 h63 hbytes hbase fun v' w' h2 h3 h4 => ?_
  obtain ⟨A', c', rfl⟩ := own_form h2
  exact h A' c' w' h2 h3
end

/-- blocks that are no rows of lines stay as they were, but one -/
def FrH (g : Nat) (w w' : World) : Prop := ∀ (k : Nat) (t : TypeId) (cs : Array Value), Blk w k t cs → k ≠ g → t ≠ 66 → Blk w' k t cs
theorem FrH.refl (g : Nat) (w : World) : FrH g w w := fun _ _ _ h _ _ => h
theorem FrH.trans {g : Nat} {a b c : World} (h : FrH g a b) (h2 : FrH g b c) : FrH g a c := fun k t cs x y z => h2 k t cs (h k t cs x y z) y z
theorem FrH.line {g : Nat} {w W w2 : World} {base n : Nat} {v : Value} {xs : List Value} (h : FrH g w W) (ho : W.ownsRow base 66 2 v n xs) (hg : W.grownBy w2 v.ownBlock) (o : Nat) (u : Value) : FrH g w (w2.setCell ⟨g, o, none⟩ u) :=
  fun k t cs x y z => ((h k t cs x y z).grown hg (own_neH ho (h k t cs x y z) z)).far (p := ⟨g, o, none⟩) y u
theorem FrH.alloc {g : Nat} {w W : World} (h : FrH g w W) (o : Obj) : FrH g w (W.alloc o) := fun k t cs x y z => (h k t cs x y z).alloc o

set_option maxRecDepth 100000 in
set_option maxHeartbeats 1000000 in
theorem addEq_any (g : Nat) (h : Hk) (A : Option Addr) (c : Nat) (L : List ByteArray) (a b : Int) (base : Nat) (w0 w : World) (hL : StrsR w0 A L) (h0 : Below w0.heap.size w0 w) (hB : w0.heap.size ≤ base) (hh : HkO w base g h)
    (hl : L.length ≤ 4000000) (hn : h.ls.length ≤ 5000000000000) (ha : -1000 ≤ a) (ha2 : a ≤ 100000000) (hb : b ≤ 100000000) :
   Calls Tryz.prog 22 #[.pointer (some ⟨g, 0, none⟩), .slice A L.length c, .int .i64 a, .int .i64 b] w fun e w' => e = .returned (.int .i64 (eqF L a b).length) ∧ HkO w' base g (h.add (eqF L a b)) ∧ Below base w w' ∧ FrH g w w' := by
  obtain ⟨i0, hi, hz0, hz1, hz2⟩ := info_parts infoLn
  have hbl := h0.size
  have HL := Lib.hid hL; have H0 := Lib.hid h0; have HH := Lib.hid hh
  have hbase : base ≤ w.heap.size := by
    obtain ⟨h1, A1, c1, h2, h3⟩ := hh
    have := h2.lt
    omega
  clear hL h0 hh
  obtain ⟨n, hln⟩ : ∃ n, L.length = n := ⟨_, rfl⟩
  have HE := Lib.hid (fun k => eqF_len L a k)
  rw [hln] at hl HE ⊢
  have HLN := Lib.hid hln; clear hln
  have hz : eqF L a a = [] := eqF_none L a a (Int.le_refl _)
  have hz2' : b ≤ a → eqF L a b = [] := fun h => eqF_none L a b h
  have HZ := Lib.hid hz; have HZ2 := Lib.hid hz2'
  clear hz hz2'
  go_enter Tryz.func22, Tryz.ntmps22
  go_wp2
  go_loopg [9, 10] (b - a).toNat (fun q d i wr => ∃ k : Int, q = (b - k).toNat ∧ a ≤ k ∧ (k ≤ b ∨ k = a) ∧ i = .int .i64 k ∧ d = .int .i64 (eqF L a k).length ∧ HkO wr base g (h.add (eqF L a k)) ∧ Below base w wr ∧ FrH g w wr)
  case atStart =>
    refine ⟨a, rfl, Int.le_refl _, .inr rfl, rfl, by rw [HZ.out]; rfl, ?_, Below.refl _ _, FrH.refl _ _⟩
    rw [HZ.out]
    have : h.add [] = h := by simp [Hk.add]
    rw [this]
    exact HH.out
  case round =>
    obtain ⟨k, hq, hak, hkb, rfl, rfl, hhk, hbel, hfr⟩ := hrel
    have HFR := Lib.hid hfr; clear hfr
    have hel := HE.out k
    have HQ := Lib.hid hq; clear hq
    by_cases hlt : k < b
    · by_cases hneg : k < 0
      · have e1 := eqF_neg L a k hneg
        have E1 := Lib.hid e1
        have HK := Lib.hid hhk
        clear e1 hhk
        go_wp2
        go_roundg (b - (k + 1)).toNat
        case measure => have := HQ.out; omega
        case rel => exact ⟨k + 1, rfl, by omega, by omega, by go_num, by rw [E1.out], by rw [E1.out]; exact HK.out, hbel, HFR.out⟩
      · by_cases hbig : (n : Int) ≤ k
        · have e1 := eqF_all L a k b (by rw [HLN.out]; exact hbig) (by omega)
          have E1 := Lib.hid e1
          have HK := Lib.hid hhk
          clear e1 hhk
          go_wp2
          go_ret
          exact ⟨by rw [E1.out]; rfl, by rw [E1.out]; exact HK.out, hbel, HFR.out⟩
        · obtain ⟨m, rfl⟩ : ∃ m : Nat, k = m := ⟨k.toNat, by omega⟩
          have hml : m < L.length := by rw [HLN.out]; omega
          have e1 := eqF_snoc L a (m : Int) (by omega) hak (by simpa using hml)
          obtain ⟨b1, off, rfl, hbb, g1⟩ := (HL.out.below (H0.out.trans (hbel.mono hB)) (Nat.le_refl _)).at_ hml
          obtain ⟨hbg, A1, c1, hblk, hown⟩ := hhk
          have eX : L.getD (m : Int).toNat ⟨#[]⟩ = L.getD m ⟨#[]⟩ := rfl
          rw [eX] at e1
          change wr.cell? ⟨b1, off + m, none⟩ = some (.string (L.getD m ⟨#[]⟩)) at g1
          generalize L.getD m ⟨#[]⟩ = X at *
          have E1 := Lib.hid e1; clear e1
          generalize eqF L a (m : Int) = F at *
          simp only [Hk.add] at hblk hown
          have hfl : (h.ls ++ F).length = h.ls.length + F.length := List.length_append
          generalize hLS : h.ls ++ F = l1 at *
          have hbls := hbel.size
          have c0 := hblk.cell 2
          have HBLK := Lib.hid hblk; have HO := Lib.hid hown; have HLS := Lib.hid hLS
          have hgl := hblk.lt
          clear hblk hown hLS
          have hF : ((F ++ [((2 : Int), X)]).length : Int) = (F.length : Int) + 1 := by simp
          have HF := Lib.hid hF; clear hF
          have hle : l1.length ≤ 5000004000000 := by omega
          clear hfl
          have i1 : (m : Int) < (n : Int) := by omega
          go_wp2
          go_region_law (refine step_append_anyL _ rfl (.tmp 28) (.tmp 34) _ rfl base 66 i0 _ 2 24 Tryz.underlying61 hi hz0 hz1 hz2 rfl (by omega) (.slice A1 l1.length c1) l1.length (klCells l1) (by simp [Act.eval]) ((World.ownsRow.alloc HO.out (.cells #[.int .i64 2, .string X] 66)).drew) (some ⟨wr.heap.size, 0, none⟩) 1 1 (klCells [(2, X)]) (by simp [Act.eval]) (kl_lit1 _ _ _ _) rfl (klCells1_one _ _) (by unfold maxLen; omega) (by omega) (by simp; omega) ?_; intro A2 c2 w2 hown2 hg2; have zb := (HBLK.out.alloc (.cells #[.int .i64 2, .string X] 66)).drew.grown hg2 (own_neH ((World.ownsRow.alloc HO.out (.cells #[.int .i64 2, .string X] 66)).drew) ((HBLK.out.alloc _).drew) (by decide)); have zc := zb.cell 2; have zf := zb.frozen 2)
          all_goals
            go_wp2
            go_roundg (b - ((m : Int) + 1)).toNat
            case measure => have := HQ.out; omega
            case rel =>
              refine ⟨(m : Int) + 1, rfl, by omega, by omega, by go_num, by rw [E1.out, HF.out], ?_, ?_, FrH.line (W := (wr.alloc (.cells #[.int .i64 2, .string X] 66)).drew) (HFR.out.alloc _) ((World.ownsRow.alloc HO.out (.cells #[.int .i64 2, .string X] 66)).drew) hg2 2 _⟩
              · rw [E1.out]
                refine ⟨hbg, A2, c2, ?_, ?_⟩
                · have := zb.set_ 2 (.slice A2 (l1.length + 1) c2)
                  simp only [Hk.add, ← List.append_assoc, HLS.out, List.length_append]
                  exact this
                · have := own_setH hown2 zb (by decide) 2 (.slice A2 (l1.length + 1) c2)
                  simp only [Hk.add, ← List.append_assoc, HLS.out, List.length_append]
                  rw [klCells_append]
                  exact this
              · exact (((hbel.alloc (by omega) (.cells #[.int .i64 2, .string X] 66)).drew.grown hg2 (by simp; omega) (fun g' hg' => (HO.out.lt g' hg').1))).setCell (by show base ≤ g; exact hbg) _
    · have e1 : eqF L a k = eqF L a b := by
        rcases hkb with h1 | h1
        · rw [show k = b by omega]
        · subst h1; rw [HZ.out, HZ2.out (by omega)]
      have HK := Lib.hid hhk
      have E1 := Lib.hid e1
      clear e1 hhk
      go_wp2
      go_ret
      exact ⟨by rw [← E1.out]; rfl, by rw [← E1.out]; exact HK.out, hbel, HFR.out⟩

theorem nlN_cut (s : ByteArray) (p : Nat) (hp : p ≤ s.size) : ∀ k, k ≤ p → nlN (s.extract 0 p) k = nlN s k := by
  intro k
  induction k with
  | zero => intros; rfl
  | succ k ih =>
    intro h
    have e := byteAt_cut s 0 p k hp (by omega)
    rw [Nat.zero_add] at e
    simp only [nlN]
    rw [ih (by omega), e]
set_option maxRecDepth 100000 in
theorem zzCount_any (s : ByteArray) (w : World) (hs : s.size ≤ 4000000) :
    Calls Tryz.prog 21 #[.string s, .string ⟨#[10]⟩] w fun e w' => e = .returned (.int .i64 (nlN s s.size)) ∧ w' = w := by
  have hone := fun k (h : k < s.size) => one_nl (s := s) (k := k) h
  have HONE := Lib.hid hone; clear hone
  have hnl := fun k => nlN_le s k
  have HNL := Lib.hid hnl; clear hnl
  go_enter Tryz.func21, Tryz.ntmps21
  go_wp2
  go_loopg [5, 6] s.size (fun q n i wr => ∃ k : Nat, q = s.size - k ∧ k ≤ s.size ∧ i = .int .i64 k ∧ n = .int .i64 (nlN s k) ∧ wr = w)
  case atStart => exact ⟨0, rfl, Nat.zero_le _, rfl, rfl, rfl⟩
  case round =>
    obtain ⟨k, hq, hk, rfl, rfl, rfl⟩ := hrel
    have hle := HNL.out k
    have HQ := Lib.hid hq; clear hq
    by_cases hlt : k < s.size
    · have he := HONE.out k hlt
      by_cases hb : byteAt s k = 10
      · have hn : nlN s (k + 1) = nlN s k + 1 := by simp [nlN, hb]
        rw [decide_eq_true hb] at he
        have HN := Lib.hid hn
        clear hb hn
        go_wp2
        go_roundg (s.size - (k + 1))
        case measure => have := HQ.out; omega
        case rel => exact ⟨k + 1, rfl, by omega, by go_num, by rw [HN.out]; go_num, rfl⟩
      · have hn : nlN s (k + 1) = nlN s k := by simp [nlN, hb]
        rw [decide_eq_false hb] at he
        have HN := Lib.hid hn
        clear hb hn
        go_wp2
        go_roundg (s.size - (k + 1))
        case measure => have := HQ.out; omega
        case rel => exact ⟨k + 1, rfl, by omega, by go_num, by rw [HN.out], rfl⟩
    · have : k = s.size := by omega
      subst this
      go_wp2
      go_ret
      exact ⟨rfl, rfl⟩
end Go.Proofs.YtgphjnhbheimiaaGreatDoor

namespace Go.Proofs.YtgphjnhbheimiaaGreatDoor
set_option linter.unusedVariables false
open Go.RowKit

/-- blocks of a world are as they were, but one -/
def KeepB (ub : Nat) (w0 w : World) : Prop := w0.heap.size ≤ w.heap.size ∧ ∀ g, g < w0.heap.size → g ≠ ub → w.heap[g]? = w0.heap[g]?
theorem KeepB.refl (ub : Nat) (w : World) : KeepB ub w w := ⟨Nat.le_refl _, fun _ _ _ => rfl⟩
theorem KeepB.below {ub B : Nat} {w0 w w' : World} (h : KeepB ub w0 w) (hb : Below B w w') (hB : w0.heap.size ≤ B) : KeepB ub w0 w' :=
  ⟨Nat.le_trans h.1 hb.size, fun g h1 h2 => (hb.block g (by omega)).trans (h.2 g h1 h2)⟩
theorem KeepB.cells {ub : Nat} {w0 w : World} {A : Option Addr} {xs : List Value} (h : CellsR w0 A xs) (hk : KeepB ub w0 w) (hn : ∀ b off, A = some ⟨b, off, none⟩ → xs ≠ [] → b ≠ ub) : CellsR w A xs := by
  by_cases hx : xs = []
  · exact .inl hx
  · rcases h with h | ⟨b, off, hA, hc⟩
    · exact .inl h
    · refine .inr ⟨b, off, hA, fun j u hu => ?_⟩
      have h1 := hc j u hu
      have h2 : b < w0.heap.size := World.block_lt_of_cell? _ _ h1
      rw [World.cell?_of_block (hk.2 b h2 (hn b off hA hx))]
      exact h1
/-- edits do not lie in the variable's block -/
theorem nb_eds {ub : Nat} {w0 : World} {A A2 : Option Addr} {es : List Ed} {f t : ByteArray} {n c : Nat} (h : EdsR w0 A es) (hb : Blk w0 ub 41 #[.string f, .string t, .slice A2 n c]) : ∀ b off, A = some ⟨b, off, none⟩ → edCells es ≠ [] → b ≠ ub := by
  rintro b off rfl hne rfl
  cases es with
  | nil => exact hne rfl
  | cons x l =>
    obtain ⟨b', off', hA, hlt, h0, h1, h2⟩ := h.at_ (k := 0) (by simp)
    injection hA with hA
    injection hA with e1 e2
    subst e1 e2
    rw [Nat.zero_mul, Nat.add_zero] at h0
    rw [hb.cell off] at h0
    rcases off with _ | _ | _ | off <;> simp at h0
/-- nor do lines in a row that was made later -/
theorem nb_own {ub base e size n c : Nat} {w : World} {A : Option Addr} {xs : List Value} (h : w.ownsRow base e size (.slice A n c) n xs) (hu : ub < base) : ∀ b off, A = some ⟨b, off, none⟩ → xs ≠ [] → b ≠ ub := by
  rintro b off rfl _ rfl
  have := (h.lt b rfl).1
  omega

theorem own_nilH (w : World) (base e size c : Nat) : w.ownsRow base e size (.slice none 0 0) 0 [] := ⟨by simp, .inl ⟨rfl, rfl⟩⟩
theorem HkO.new (w : World) (a b : Int) : HkO (w.alloc (.cells #[.int .i64 a, .int .i64 b, .slice none 0 0] 63)) w.heap.size w.heap.size ⟨a, b, []⟩ :=
  ⟨Nat.le_refl _, none, 0, Blk.new w _ _, own_nilH _ _ _ _ 0⟩
theorem HkO.set0 {w : World} {base g : Nat} {h : Hk} (hh : HkO w base g h) (x : Int) : HkO (w.setCell ⟨g, 0, none⟩ (.int .i64 x)) base g ⟨x, h.tl, h.ls⟩ := by
  obtain ⟨g1, A, c, g2, g3⟩ := hh
  exact ⟨g1, A, c, g2.set_ 0 _, own_setH g3 g2 (by decide) 0 _⟩
theorem HkO.set1 {w : World} {base g : Nat} {h : Hk} (hh : HkO w base g h) (x : Int) : HkO (w.setCell ⟨g, 1, none⟩ (.int .i64 x)) base g ⟨h.fl, x, h.ls⟩ := by
  obtain ⟨g1, A, c, g2, g3⟩ := hh
  exact ⟨g1, A, c, g2.set_ 1 _, own_setH g3 g2 (by decide) 1 _⟩
theorem HkO.cells {w : World} {base g : Nat} {h : Hk} (hh : HkO w base g h) : w.cell? ⟨g, 0, none⟩ = some (.int .i64 h.fl) ∧ w.cell? ⟨g, 1, none⟩ = some (.int .i64 h.tl) ∧ w.frozen? ⟨g, 0, none⟩ = false ∧ w.frozen? ⟨g, 1, none⟩ = false ∧ base ≤ g ∧ g < w.heap.size := by
  obtain ⟨g1, A, c, g2, g3⟩ := hh
  exact ⟨g2.cell 0, g2.cell 1, g2.frozen 0, g2.frozen 1, g1, g2.lt⟩

section
variable {B0 ub : Nat} {f t : ByteArray} {w w0 : World}
/-- hunks made, and one under way -/
def StO (B0 ub : Nat) (f t : ByteArray) (w w0 : World) (hs : List Hk) (hk : Hk) (hv : Value) (wr : World) : Prop :=
  ∃ wh g, Below B0 w wh ∧ KeepB ub w0 wh ∧ UM wh w0.heap.size ub f t hs ∧ Below wh.heap.size wh wr ∧ hv = .pointer (some ⟨g, 0, none⟩) ∧ HkO wr wh.heap.size g hk
/-- hunks made, none under way -/
def StN (B0 ub : Nat) (f t : ByteArray) (w w0 : World) (hs : List Hk) (wr : World) : Prop := Below B0 w wr ∧ KeepB ub w0 wr ∧ UM wr w0.heap.size ub f t hs
def StU (B0 ub : Nat) (f t : ByteArray) (w w0 : World) (st : Ust) (hv : Value) (wr : World) : Prop :=
  match st.h with
  | none => hv = .pointer none ∧ StN B0 ub f t w w0 st.hs wr
  | some hk => StO B0 ub f t w w0 st.hs hk hv wr
theorem StO.base {hs : List Hk} {hk : Hk} {hv : Value} {wr : World} (h : StO B0 ub f t w w0 hs hk hv wr) (hB : B0 ≤ w0.heap.size) : ∃ g, hv = .pointer (some ⟨g, 0, none⟩) ∧ HkO wr w0.heap.size g hk ∧ StN B0 ub f t w w0 hs wr := by
  obtain ⟨wh, g, h1, h2, h3, h4, h5, h6⟩ := h
  have := h2.1
  exact ⟨g, h5, h6.mono this, h1.trans (h4.mono (by omega)), h2.below h4 this, h3.below h4 (Nat.le_refl _)⟩
theorem StN.below {hs : List Hk} {wr wr' : World} (h : StN B0 ub f t w w0 hs wr) (hb : Below wr.heap.size wr wr') (hB : B0 ≤ w0.heap.size) : StN B0 ub f t w w0 hs wr' :=
  ⟨h.1.trans (hb.mono (by have := h.2.1.1; omega)), h.2.1.below hb h.2.1.1, h.2.2.below hb (Nat.le_refl _)⟩
theorem StO.below {hs : List Hk} {hk : Hk} {hv : Value} {wr wr' : World} (h : StO B0 ub f t w w0 hs hk hv wr) (hb : Below wr.heap.size wr wr') : StO B0 ub f t w w0 hs hk hv wr' := by
  obtain ⟨wh, g, h1, h2, h3, h4, h5, h6⟩ := h
  exact ⟨wh, g, h1, h2, h3, h4.trans (hb.mono h4.size), h5, h6.below hb (Nat.le_refl _)⟩
theorem StU.below {st : Ust} {hv : Value} {wr wr' : World} (h : StU B0 ub f t w w0 st hv wr) (hb : Below wr.heap.size wr wr') (hB : B0 ≤ w0.heap.size) : StU B0 ub f t w w0 st hv wr' := by
  unfold StU at h ⊢
  split at h
  · exact ⟨h.1, h.2.below hb hB⟩
  · exact StO.below h hb
theorem StU.keep {st : Ust} {hv : Value} {wr : World} (h : StU B0 ub f t w w0 st hv wr) (hB : B0 ≤ w0.heap.size) : Below B0 w wr ∧ KeepB ub w0 wr := by
  unfold StU at h
  split at h
  · exact ⟨h.2.1, h.2.2.1⟩
  · obtain ⟨g, h1, h2, h3⟩ := StO.base h hB
    exact ⟨h3.1, h3.2.1⟩
/-- one hunk is done -/
theorem StN.push {hs : List Hk} {x : Hk} {wr w1 : World} {g : Nat} {gs : List Nat} {A A' : Option Addr} {c c' : Nat} (h : StN B0 ub f t w w0 hs wr) (hB : B0 ≤ w0.heap.size) (hU : B0 ≤ ub) (hw : w.heap.size ≤ B0)
    (h1 : Blk wr ub 41 #[.string f, .string t, .slice A hs.length c]) (h2 : wr.ownsRow w0.heap.size 58 1 (.slice A hs.length c) hs.length (hpCells gs)) (h3 : HksO wr w0.heap.size gs hs) (hx : HkO wr w0.heap.size g x)
    (o : w1.ownsRow w0.heap.size 58 1 (.slice A' (hs.length + 1) c') (hs.length + 1) (hpCells gs ++ hpCells [g])) (hg : (wr.alloc (.cells #[.pointer (some ⟨g, 0, none⟩)] 58)).grownBy w1 (Value.slice A hs.length c).ownBlock) :
    StN B0 ub f t w w0 (hs ++ [x]) (w1.setCell ⟨ub, 2, none⟩ (.slice A' (hs.length + 1) c')) := by
  obtain ⟨g1, g2, g3⟩ := h
  have hz := g2.1
  refine ⟨(((g1.alloc (by omega) _).grown hg (by simp; omega) (fun k hk => by have := (h2.lt k hk).1; omega)).setCell (by show B0 ≤ ub; exact hU) _), ⟨?_, fun k h4 h5 => ?_⟩, UM.push h1 h2 h3 hx o hg⟩
  · have := hg.size
    simp only [World.size_alloc] at this
    rw [World.size_setCell]
    omega
  · have e1 := Below.heap_setCell w1 ⟨ub, 2, none⟩ (.slice A' (hs.length + 1) c') k (fun h => h5 h)
    have e2 := hg.block k (by simp; omega) (fun hh => by have := (h2.lt k hh.symm).1; omega)
    have e3 := Below.heap_alloc wr (.cells #[.pointer (some ⟨g, 0, none⟩)] 58) k (by omega)
    rw [e1, e2, e3]
    exact g2.2 k h4 h5
/-- a new hunk -/
theorem StN.start {hs : List Hk} {wr : World} (h : StN B0 ub f t w w0 hs wr) (a b : Int) : StO B0 ub f t w w0 hs ⟨a, b, []⟩ (.pointer (some ⟨wr.heap.size, 0, none⟩)) (wr.alloc (.cells #[.int .i64 a, .int .i64 b, .slice none 0 0] 63)) :=
  ⟨wr, wr.heap.size, h.1, h.2.1, h.2.2, (Below.refl _ _).alloc (Nat.le_refl _) _, rfl, HkO.new wr a b⟩
/-- one line more in the hunk under way -/
theorem HkO.line {W w2 : World} {base g n1 c1 c2 : Nat} {fl tl : Int} {A1 A2 : Option Addr} {l : KLs} {x : Int × ByteArray} (hbg : base ≤ g) (hbW : base ≤ W.heap.size) (hn1 : l.length = n1)
    (hblk : Blk W g 63 #[.int .i64 fl, .int .i64 tl, .slice A1 n1 c1]) (hown : W.ownsRow base 66 2 (.slice A1 n1 c1) n1 (klCells l))
    (hown2 : w2.ownsRow base 66 2 (.slice A2 (n1 + 1) c2) (n1 + 1) (klCells l ++ klCells [x])) (hg : W.grownBy w2 (Value.slice A1 n1 c1).ownBlock) :
    HkO (w2.setCell ⟨g, 2, none⟩ (.slice A2 (n1 + 1) c2)) base g ⟨fl, tl, l ++ [x]⟩ ∧ Below base W (w2.setCell ⟨g, 2, none⟩ (.slice A2 (n1 + 1) c2)) ∧ FrH g W (w2.setCell ⟨g, 2, none⟩ (.slice A2 (n1 + 1) c2)) := by
  have zb := hblk.grown hg (own_neH hown hblk (by decide))
  refine ⟨⟨hbg, A2, c2, ?_, ?_⟩, ((Below.refl base W).grown hg hbW (fun g' hg' => (hown.lt g' hg').1)).setCell (by show base ≤ g; exact hbg) _, (FrH.refl g W).line hown hg 2 _⟩
  · have := zb.set_ 2 (.slice A2 (n1 + 1) c2)
    simp only [List.length_append, hn1]
    exact this
  · have := own_setH hown2 zb (by decide) 2 (.slice A2 (n1 + 1) c2)
    simp only [List.length_append, hn1]
    rw [klCells_append]
    exact this
/-- what the walk reads of the hunk under way -/
theorem StO.open_ {hs : List Hk} {hk : Hk} {hv : Value} {wr : World} (h : StO B0 ub f t w w0 hs hk hv wr) : ∃ base g A1 c1, hv = .pointer (some ⟨g, 0, none⟩) ∧ base ≤ g ∧ base ≤ wr.heap.size ∧
    Blk wr g 63 #[.int .i64 hk.fl, .int .i64 hk.tl, .slice A1 hk.ls.length c1] ∧ wr.ownsRow base 66 2 (.slice A1 hk.ls.length c1) hk.ls.length (klCells hk.ls) ∧
    ∀ w' hk', HkO w' base g hk' → Below base wr w' → StO B0 ub f t w w0 hs hk' hv w' := by
  obtain ⟨wh, g, h1, h2, h3, h4, h5, h6, A1, c1, h7, h8⟩ := h
  exact ⟨wh.heap.size, g, A1, c1, h5, h6, h4.size, h7, h8, fun w' hk' a b => ⟨wh, g, h1, h2, h3, h4.trans b, h5, a⟩⟩
theorem StO.set0 {hs : List Hk} {hk : Hk} {g : Nat} {wr : World} (h : StO B0 ub f t w w0 hs hk (.pointer (some ⟨g, 0, none⟩)) wr) (x : Int) : StO B0 ub f t w w0 hs ⟨x, hk.tl, hk.ls⟩ (.pointer (some ⟨g, 0, none⟩)) (wr.setCell ⟨g, 0, none⟩ (.int .i64 x)) := by
  obtain ⟨wh, g', h1, h2, h3, h4, h5, h6⟩ := h
  obtain rfl : g = g' := by injection h5 with h5; injection h5 with h5; injection h5
  exact ⟨wh, g, h1, h2, h3, h4.setCell (by show wh.heap.size ≤ g; exact h6.1) _, rfl, h6.set0 x⟩
theorem StO.set1 {hs : List Hk} {hk : Hk} {g : Nat} {wr : World} (h : StO B0 ub f t w w0 hs hk (.pointer (some ⟨g, 0, none⟩)) wr) (x : Int) : StO B0 ub f t w w0 hs ⟨hk.fl, x, hk.ls⟩ (.pointer (some ⟨g, 0, none⟩)) (wr.setCell ⟨g, 1, none⟩ (.int .i64 x)) := by
  obtain ⟨wh, g', h1, h2, h3, h4, h5, h6⟩ := h
  obtain rfl : g = g' := by injection h5 with h5; injection h5 with h5; injection h5
  exact ⟨wh, g, h1, h2, h3, h4.setCell (by show wh.heap.size ≤ g; exact h6.1) _, rfl, h6.set1 x⟩
theorem StO.cells {hs : List Hk} {hk : Hk} {g : Nat} {wr : World} (h : StO B0 ub f t w w0 hs hk (.pointer (some ⟨g, 0, none⟩)) wr) : wr.cell? ⟨g, 0, none⟩ = some (.int .i64 hk.fl) ∧ wr.cell? ⟨g, 1, none⟩ = some (.int .i64 hk.tl) ∧ wr.frozen? ⟨g, 0, none⟩ = false ∧ wr.frozen? ⟨g, 1, none⟩ = false := by
  obtain ⟨wh, g', h1, h2, h3, h4, h5, h6⟩ := h
  obtain rfl : g = g' := by injection h5 with h5; injection h5 with h5; injection h5
  have := h6.cells
  exact ⟨this.1, this.2.1, this.2.2.1, this.2.2.2.1⟩
theorem StO.lines {hs : List Hk} {hk : Hk} {hv : Value} {wr : World} {A : Option Addr} {L : List ByteArray} (h : StO B0 ub f t w w0 hs hk hv wr) (hL : StrsR w0 A L) (hN : ∀ b off, A = some ⟨b, off, none⟩ → strCells L ≠ [] → b ≠ ub) : StrsR wr A L := by
  obtain ⟨wh, g, h1, h2, h3, h4, h5, h6⟩ := h
  exact KeepB.cells hL (h2.below h4 h2.1) hN
/-- kept lines put in -/
theorem addStO {hs : List Hk} {hk : Hk} {g : Nat} {wr : World} {A : Option Addr} {L : List ByteArray} (c : Nat) (a b : Int) (h : StO B0 ub f t w w0 hs hk (.pointer (some ⟨g, 0, none⟩)) wr) (hL : StrsR w0 A L) (hN : ∀ b off, A = some ⟨b, off, none⟩ → strCells L ≠ [] → b ≠ ub)
    (hl : L.length ≤ 4000000) (hn : hk.ls.length ≤ 5000000000000) (ha : -1000 ≤ a) (ha2 : a ≤ 100000000) (hb : b ≤ 100000000) :
    Calls Tryz.prog 22 #[.pointer (some ⟨g, 0, none⟩), .slice A L.length c, .int .i64 a, .int .i64 b] wr fun e w' => e = .returned (.int .i64 (eqF L a b).length) ∧ StO B0 ub f t w w0 hs (hk.add (eqF L a b)) (.pointer (some ⟨g, 0, none⟩)) w' ∧ FrH g wr w' := by
  obtain ⟨wh, g', h1, h2, h3, h4, h5, h6⟩ := h
  obtain rfl : g = g' := by injection h5 with h5; injection h5 with h5; injection h5
  refine (addEq_any g hk A c L a b wh.heap.size wh wr (KeepB.cells hL h2 hN) h4 (Nat.le_refl _) h6 hl hn ha ha2 hb).mono ?_
  rintro e w' ⟨he, h7, h8, h9⟩
  exact ⟨he, ⟨wh, g, h1, h2, h3, h4.trans h8, rfl, h7⟩, h9⟩
end
/-- a store in another variable leaves the hunks -/
theorem UM.setc {w : World} {base ub rb : Nat} {f t : ByteArray} {hs : List Hk} {cs : Array Value} (h : UM w base ub f t hs) (hb : Blk w rb 41 cs) (hn : rb ≠ ub) (o : Nat) (u : Value) : UM (w.setCell ⟨rb, o, none⟩ u) base ub f t hs := by
  obtain ⟨gs, A, c, h1, h2, h3⟩ := h
  exact ⟨gs, A, c, h1.far (p := ⟨rb, o, none⟩) (Ne.symm hn) u, own_setH h2 hb (by decide) o u, h3.map fun g h x => x.setc hb (by decide) (by decide) o u⟩
theorem Hk.add_nil (h : Hk) : h.add [] = h := by simp [Hk.add]
theorem szK_len30 (l : KLs) : 30 * l.length ≤ szK l := by
  induction l with
  | nil => exact Nat.le_refl _
  | cons x a ih => simp only [szK, List.length_cons]; omega
theorem mul_mm {a b m n : Nat} (h1 : a ≤ m) (h2 : b ≤ n) : a * b ≤ m * n := Nat.mul_le_mul h1 h2
/-- bounds in numbers -/
theorem UGood.num {L : List ByteArray} {S k z : Nat} {st : Ust} (h : UGood L (31 * S) k z st) (hS : S ≤ 1000000) (hL : L.length ≤ 1000000) (hk : k ≤ 1000000) (hz : z ≤ 3000000) :
    -1000000000000 ≤ st.tl ∧ st.tl ≤ 1000003000000 ∧ (∀ x, st.h = some x → x.ls.length ≤ 4000000000000) ∧ st.hs.length ≤ 1000000 ∧ 0 ≤ st.last ∧ st.last ≤ 1000000 := by
  have h1 : (k : Int) * L.length ≤ 1000000000000 := by
    have := mul_mm hk hL
    have h2 : ((k * L.length : Nat) : Int) ≤ ((1000000 * 1000000 : Nat) : Int) := by omega
    rw [Int.natCast_mul] at h2
    omega
  have h3 : k * (3 * (31 * S) + 200) ≤ 1000000 * 93000200 := mul_mm hk (by omega)
  have := h.tl0
  have := h.tl1
  have := h.last0
  have := h.last1
  have := h.count
  have h9 := h.size
  refine ⟨by omega, by omega, fun x hx => ?_, by omega, by omega, by omega⟩
  rw [hx] at h9
  simp only [szO] at h9
  have := szK_len30 x.ls
  omega
theorem openU_num {L : List ByteArray} {S k z : Nat} {st : Ust} {c a : Int} (h : UGood L (31 * S) k z st) (hT : totB L + 30 * L.length ≤ 31 * S) (hc : 0 ≤ c) (h8 : c ≤ 8) (ha : 0 ≤ a) (haL : a ≤ L.length) (hS : S ≤ 1000000) (hL : L.length ≤ 1000000) (hk : k ≤ 1000000) (hz : z ≤ 3000000) :
    (openU L c a st).2.1.ls.length ≤ 4000000000000 ∧ -1000001000000 ≤ (openU L c a st).2.2 ∧ (openU L c a st).2.2 ≤ 1000004000000 := by
  have h1 : (k : Int) * L.length ≤ 1000000000000 := by
    have := mul_mm hk hL
    have h2 : ((k * L.length : Nat) : Int) ≤ ((1000000 * 1000000 : Nat) : Int) := by omega
    rw [Int.natCast_mul] at h2
    omega
  have h3 : k * (3 * (31 * S) + 200) ≤ 1000000 * 93000200 := mul_mm hk (by omega)
  obtain ⟨g1, g2, g3, g4, g5⟩ := openU_good hT hc h8 h ha haL
  have := szK_len30 (openU L c a st).2.1.ls
  exact ⟨by omega, by omega, by omega⟩
end Go.Proofs.YtgphjnhbheimiaaGreatDoor
