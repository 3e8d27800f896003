/-
  Edits made into edits of whole lines: what they are, and that they do the same. Plainly. Condition: the edits are in order.
-/
import Derived.Test.YtgphjnhbheimiaaDoorTxtA
import Derived.Test.YtgphjnhbheimiaaDoorLinesP
namespace Go.Proofs.YtgphjnhbheimiaaDoor
set_option linter.unusedVariables false

/-- where the line ends in which a place lies, or the text -/
def lnEf (s : ByteArray) : Nat → Nat → Nat
  | 0, _ => s.size
  | f + 1, k => if k < s.size then (if byteAt s k = 10 then k + 1 else lnEf s f (k + 1)) else s.size
def lnE (s : ByteArray) (k : Nat) : Nat := lnEf s s.size k
/-- is there an end of a line between two places? -/
def hasNl (s : ByteArray) (a b : Nat) : Bool := (List.range (b - a)).any fun i => decide (byteAt s (a + i) = 10)
/-- does a text end with the end of a line, or is it empty? -/
def wholeB (x : ByteArray) : Bool := x.size == 0 || byteAt x (x.size - 1) == 10
/-- is a place an end of a line, or the beginning? -/
def behindB (s : ByteArray) (p : Nat) : Bool := p == 0 || byteAt s (p - 1) == 10
def expE (s : ByteArray) (x : Ed) : Ed :=
  ⟨lnF s x.s.toNat, (if behindB s x.e.toNat && wholeB (s.extract (lnF s x.s.toNat) x.s.toNat ++ x.n) then x.e.toNat else lnE s x.e.toNat : Nat),
   s.extract (lnF s x.s.toNat) x.s.toNat ++ x.n ++ s.extract x.e.toNat (if behindB s x.e.toNat && wholeB (s.extract (lnF s x.s.toNat) x.s.toNat ++ x.n) then x.e.toNat else lnE s x.e.toNat)⟩
def mrgE (s : ByteArray) : Ed → List Ed → List Ed
  | p, [] => [expE s p]
  | p, x :: l => if hasNl s p.e.toNat x.s.toNat then expE s p :: mrgE s x l else mrgE s ⟨p.s, x.e, p.n ++ s.extract p.e.toNat x.s.toNat ++ x.n⟩ l
def alignB (s : ByteArray) (x : Ed) : Bool := decide (x.s < s.size) && behindB s x.s.toNat && behindB s x.e.toNat && wholeB x.n
def lineF (s : ByteArray) (es : List Ed) : List Ed :=
  if es.all (alignB s) then es else match es with | [] => [] | p :: l => mrgE s p l

theorem lnEf_spec (s : ByteArray) : ∀ f k, k ≤ s.size → s.size ≤ k + f → k ≤ lnEf s f k ∧ lnEf s f k ≤ s.size ∧ (lnEf s f k = s.size ∨ (k < lnEf s f k ∧ byteAt s (lnEf s f k - 1) = 10)) ∧ ∀ j, k ≤ j → j < s.size → byteAt s j = 10 → lnEf s f k ≤ j + 1 := by
  intro f
  induction f with
  | zero =>
    intro k h1 h2
    exact ⟨h1, Nat.le_refl _, .inl rfl, fun j a b c => by unfold lnEf; omega⟩
  | succ f ih =>
    intro k h1 h2
    unfold lnEf
    by_cases hk : k < s.size
    · rw [if_pos hk]
      by_cases hb : byteAt s k = 10
      · rw [if_pos hb]
        exact ⟨by omega, by omega, .inr ⟨by omega, by rw [Nat.add_sub_cancel]; exact hb⟩, fun j a b c => by omega⟩
      · rw [if_neg hb]
        obtain ⟨a, b, c, d⟩ := ih (k + 1) (by omega) (by omega)
        refine ⟨by omega, b, c.imp id (fun h => ⟨by omega, h.2⟩), fun j h3 h4 h5 => ?_⟩
        have : k ≠ j := fun h => hb (h ▸ h5)
        exact d j (by omega) h4 h5
    · rw [if_neg hk]
      exact ⟨h1, Nat.le_refl _, .inl rfl, fun j a b c => by omega⟩
theorem lnE_spec (s : ByteArray) (k : Nat) (h : k ≤ s.size) : k ≤ lnE s k ∧ lnE s k ≤ s.size ∧ (lnE s k = s.size ∨ (k < lnE s k ∧ byteAt s (lnE s k - 1) = 10)) ∧ ∀ j, k ≤ j → j < s.size → byteAt s j = 10 → lnE s k ≤ j + 1 := lnEf_spec s _ _ h (by omega)
theorem lnF_behind (s : ByteArray) (k : Nat) : behindB s (lnF s k) = true := by
  induction k with
  | zero => rfl
  | succ k ih =>
    by_cases h : byteAt s k = 10
    · rw [lnF_nl s k h]; simp [behindB, h]
    · rw [lnF_no s k h]; exact ih
theorem lnF_gt (s : ByteArray) (k j : Nat) (h : j < k) (hb : byteAt s j = 10) : j + 1 ≤ lnF s k := by
  induction k with
  | zero => omega
  | succ k ih =>
    by_cases h10 : byteAt s k = 10
    · rw [lnF_nl s k h10]; omega
    · rw [lnF_no s k h10]
      have : j ≠ k := fun e => h10 (e ▸ hb)
      exact ih (by omega)
theorem hasNl_iff {s : ByteArray} {a b : Nat} : hasNl s a b = true ↔ ∃ j, a ≤ j ∧ j < b ∧ byteAt s j = 10 := by
  simp only [hasNl, List.any_eq_true, List.mem_range, decide_eq_true_eq]
  constructor
  · rintro ⟨i, h1, h2⟩; exact ⟨a + i, by omega, by omega, h2⟩
  · rintro ⟨j, h1, h2, h3⟩; exact ⟨j - a, by omega, by rw [show a + (j - a) = j by omega]; exact h3⟩
/-- from an earlier place on -/
theorem patchX_from (s : ByteArray) (a b : Nat) (es : List Ed) (h : a ≤ b) (hb : b ≤ s.size) (he : ∀ x l, es = x :: l → (b : Int) ≤ x.s) : patchB s a es = s.extract a b ++ patchB s b es := by
  cases es with
  | nil =>
    show s.extract a s.size = s.extract a b ++ s.extract b s.size
    rw [ByteArray.extract_append_extract, Nat.min_eq_left h, Nat.max_eq_right hb]
  | cons x l =>
    have := he x l rfl
    show s.extract a x.s.toNat ++ x.n ++ patchB s x.e.toNat l = s.extract a b ++ (s.extract b x.s.toNat ++ x.n ++ patchB s x.e.toNat l)
    rw [← ByteArray.append_assoc, ← ByteArray.append_assoc, ByteArray.extract_append_extract, Nat.min_eq_left h, Nat.max_eq_right (by omega)]
theorem ext_join (s : ByteArray) {a b c : Nat} (h : a ≤ b) (h2 : b ≤ c) : s.extract a b ++ s.extract b c = s.extract a c := by
  rw [ByteArray.extract_append_extract, Nat.min_eq_left h, Nat.max_eq_right h2]
/-- where a widened edit ends -/
def expEnd (s : ByteArray) (x : Ed) : Nat := if behindB s x.e.toNat && wholeB (s.extract (lnF s x.s.toNat) x.s.toNat ++ x.n) then x.e.toNat else lnE s x.e.toNat
theorem expE_s (s : ByteArray) (x : Ed) : (expE s x).s = lnF s x.s.toNat := rfl
theorem expE_e (s : ByteArray) (x : Ed) : (expE s x).e = expEnd s x := rfl
theorem expE_n (s : ByteArray) (x : Ed) : (expE s x).n = s.extract (lnF s x.s.toNat) x.s.toNat ++ x.n ++ s.extract x.e.toNat (expEnd s x) := rfl
theorem expEnd_spec {s : ByteArray} {x : Ed} (h : 0 ≤ x.s ∧ x.s ≤ x.e ∧ x.e ≤ s.size) : x.e.toNat ≤ expEnd s x ∧ expEnd s x ≤ s.size ∧ ∀ j, x.e.toNat ≤ j → j < s.size → byteAt s j = 10 → expEnd s x ≤ j + 1 := by
  have h1 := lnE_spec s x.e.toNat (by omega)
  unfold expEnd
  split
  · exact ⟨Nat.le_refl _, by omega, fun j a _ _ => by omega⟩
  · exact ⟨h1.1, h1.2.1, h1.2.2.2⟩
/-- one widened edit ahead of others -/
theorem exp_patch {s : ByteArray} {x : Ed} (h : 0 ≤ x.s ∧ x.s ≤ x.e ∧ x.e ≤ s.size) (at_ : Nat) (ha : at_ ≤ lnF s x.s.toNat) (l : List Ed) (hl : ∀ y m, l = y :: m → (expEnd s x : Int) ≤ y.s) :
    patchB s at_ (x :: l) = s.extract at_ (lnF s x.s.toNat) ++ (expE s x).n ++ patchB s (expEnd s x) l := by
  obtain ⟨h1, h2, h3⟩ := expEnd_spec h
  have h4 := lnF_le s x.s.toNat
  rw [patchB_cons, patchX_from s x.e.toNat (expEnd s x) l h1 h2 hl, expE_n, ← ext_join s ha h4]
  simp only [ByteArray.append_assoc]
theorem inOrderF_mk {N at_ : Int} {x : Ed} {l : List Ed} (h1 : 0 ≤ x.s) (h2 : x.s ≤ x.e) (h3 : x.e ≤ N) (h4 : at_ ≤ x.s) (h5 : inOrderF N x.e l = true) : inOrderF N at_ (x :: l) = true := by
  simp only [inOrderF, insideB, Bool.and_eq_true, decide_eq_true_eq]
  exact ⟨⟨⟨h1, h2, h3⟩, h4⟩, h5⟩
theorem mrg_good {s : ByteArray} : ∀ (l : List Ed) (p : Ed) (at_ : Nat), at_ ≤ lnF s p.s.toNat → inOrderF s.size at_ (p :: l) = true → inOrderF s.size at_ (mrgE s p l) = true ∧ patchB s at_ (mrgE s p l) = patchB s at_ (p :: l) := by
  intro l
  induction l with
  | nil =>
    intro p at_ ha h
    obtain ⟨g1, g2, g3, g4, g5⟩ := inOrderF_cons h
    have hs := expEnd_spec (s := s) (x := p) ⟨g1, g2, g3⟩
    have hf := lnF_le s p.s.toNat
    refine ⟨?_, ?_⟩
    · exact inOrderF_mk (x := expE s p) (l := []) (by rw [expE_s]; omega) (by rw [expE_s, expE_e]; omega) (by rw [expE_e]; omega) (by rw [expE_s]; omega) rfl
    · rw [exp_patch ⟨g1, g2, g3⟩ at_ ha [] (fun y m e => by cases e)]
      show s.extract at_ (lnF s p.s.toNat : Int).toNat ++ (expE s p).n ++ patchB s (expEnd s p : Int).toNat [] = _
      simp only [Int.toNat_natCast]
  | cons x l ih =>
    intro p at_ ha h
    obtain ⟨g1, g2, g3, g4, g5⟩ := inOrderF_cons h
    obtain ⟨k1, k2, k3, k4, k5⟩ := inOrderF_cons g5
    by_cases hn : hasNl s p.e.toNat x.s.toNat = true
    · obtain ⟨j, j1, j2, j3⟩ := hasNl_iff.1 hn
      have hs := expEnd_spec (s := s) (x := p) ⟨g1, g2, g3⟩
      have hj := hs.2.2 j j1 (by omega) j3
      have hf := lnF_le s p.s.toNat
      have hg := lnF_gt s x.s.toNat j j2 j3
      have hfx := lnF_le s x.s.toNat
      have hx : inOrderF s.size (expEnd s p : Nat) (x :: l) = true := by
        simp only [inOrderF, insideB, Bool.and_eq_true, decide_eq_true_eq]
        exact ⟨⟨⟨k1, k2, k3⟩, by omega⟩, k5⟩
      obtain ⟨i1, i2⟩ := ih x (expEnd s p) (by omega) hx
      have e : mrgE s p (x :: l) = expE s p :: mrgE s x l := by simp only [mrgE]; rw [if_pos hn]
      rw [e]
      refine ⟨?_, ?_⟩
      · exact inOrderF_mk (x := expE s p) (by rw [expE_s]; omega) (by rw [expE_s, expE_e]; omega) (by rw [expE_e]; omega) (by rw [expE_s]; omega) i1
      · rw [exp_patch ⟨g1, g2, g3⟩ at_ ha (x :: l) (fun y m e => by injection e with e1 e2; subst e1; omega), ← i2]
        show s.extract at_ (lnF s p.s.toNat : Int).toNat ++ (expE s p).n ++ patchB s (expEnd s p : Int).toNat (mrgE s x l) = _
        simp only [Int.toNat_natCast]
    · have e : mrgE s p (x :: l) = mrgE s ⟨p.s, x.e, p.n ++ s.extract p.e.toNat x.s.toNat ++ x.n⟩ l := by simp only [mrgE]; rw [if_neg hn]
      rw [e]
      have hx : inOrderF s.size at_ ((⟨p.s, x.e, p.n ++ s.extract p.e.toNat x.s.toNat ++ x.n⟩ : Ed) :: l) = true := by
        simp only [inOrderF, insideB, Bool.and_eq_true, decide_eq_true_eq]
        exact ⟨⟨⟨g1, by omega, k3⟩, g4⟩, k5⟩
      obtain ⟨i1, i2⟩ := ih ⟨p.s, x.e, p.n ++ s.extract p.e.toNat x.s.toNat ++ x.n⟩ at_ ha hx
      refine ⟨i1, ?_⟩
      rw [i2]
      simp only [patchB_cons, ByteArray.append_assoc]
/-- where a widened edit lies, and what it puts in -/
def LineAt (s : ByteArray) (p : Nat) : Prop := p = 0 ∨ p = s.size ∨ (0 < p ∧ p < s.size ∧ byteAt s (p - 1) = 10)
theorem behind_at {s : ByteArray} {p : Nat} (hp : p ≤ s.size) (h : behindB s p = true) : LineAt s p := by
  simp only [behindB, Bool.or_eq_true, beq_iff_eq] at h
  unfold LineAt
  omega
def AtL (s : ByteArray) (x : Ed) : Prop := ∃ p q : Nat, x.s = p ∧ x.e = q ∧ LineAt s p ∧ LineAt s q ∧ ((x.n.size = 0 ∨ (0 < x.n.size ∧ byteAt x.n (x.n.size - 1) = 10)) ∨ q = s.size)
theorem whole_or {x : ByteArray} (h : wholeB x = true) : x.size = 0 ∨ (0 < x.size ∧ byteAt x (x.size - 1) = 10) := by
  simp only [wholeB, Bool.or_eq_true, beq_iff_eq] at h
  omega
theorem byteAt_rgt (a b : ByteArray) (k : Nat) : byteAt (a ++ b) (a.size + k) = byteAt b k := by
  have h2 : a.data.toList.length = a.size := by simp
  simp only [byteAt, ByteArray.data_append, Array.toList_append, List.getD_eq_getElem?_getD]
  rw [List.getElem?_append_right (by rw [h2]; omega), h2, Nat.add_sub_cancel_left]
theorem byteAt_cut (s : ByteArray) (a b k : Nat) (hb : b ≤ s.size) (h : a + k < b) : byteAt (s.extract a b) k = byteAt s (a + k) := by
  have h1 : k < (s.extract a b).size := by rw [ByteArray.size_extract]; omega
  rw [byteAt_get _ _ h1, byteAt_get s (a + k) (by omega), ByteArray.getElem_extract]
theorem expE_at {s : ByteArray} {x : Ed} (h : 0 ≤ x.s ∧ x.s ≤ x.e ∧ x.e ≤ s.size) : AtL s (expE s x) := by
  have hf := lnF_le s x.s.toNat
  have hb := lnF_behind s x.s.toNat
  have hs := lnE_spec s x.e.toNat (by omega)
  refine ⟨_, _, expE_s s x, expE_e s x, behind_at (by omega) hb, ?_⟩
  rw [expE_n]
  unfold expEnd
  by_cases hc : (behindB s x.e.toNat && wholeB (s.extract (lnF s x.s.toNat) x.s.toNat ++ x.n)) = true
  · rw [if_pos hc]
    simp only [Bool.and_eq_true] at hc
    refine ⟨behind_at (by omega) hc.1, .inl ?_⟩
    have e : s.extract x.e.toNat x.e.toNat = ByteArray.empty := ByteArray.extract_eq_empty_iff.2 (by omega)
    rw [e, ByteArray.append_empty]
    exact whole_or hc.2
  · rw [if_neg hc]
    obtain ⟨h1, h2, h3, h4⟩ := hs
    rcases h3 with h3 | ⟨h3, h5⟩
    · exact ⟨.inr (.inl h3), .inr h3⟩
    · refine ⟨behind_at h2 (by simp [behindB, h5]), .inl (.inr ?_)⟩
      have hz : (s.extract x.e.toNat (lnE s x.e.toNat)).size = lnE s x.e.toNat - x.e.toNat := by rw [ByteArray.size_extract]; omega
      refine ⟨by rw [ByteArray.size_append]; omega, ?_⟩
      rw [ByteArray.size_append, hz, show (s.extract (lnF s x.s.toNat) x.s.toNat ++ x.n).size + (lnE s x.e.toNat - x.e.toNat) - 1 = (s.extract (lnF s x.s.toNat) x.s.toNat ++ x.n).size + (lnE s x.e.toNat - x.e.toNat - 1) by omega, byteAt_rgt, byteAt_cut s _ _ _ h2 (by omega), show x.e.toNat + (lnE s x.e.toNat - x.e.toNat - 1) = lnE s x.e.toNat - 1 by omega]
      exact h5
theorem mrg_at {s : ByteArray} : ∀ (l : List Ed) (p : Ed) (at_ : Int), inOrderF s.size at_ (p :: l) = true → ∀ x ∈ mrgE s p l, AtL s x := by
  intro l
  induction l with
  | nil =>
    intro p at_ h x hx
    obtain ⟨g1, g2, g3, g4, g5⟩ := inOrderF_cons h
    have hx : x = expE s p := by simpa [mrgE] using hx
    subst hx
    exact expE_at ⟨g1, g2, g3⟩
  | cons y l ih =>
    intro p at_ h x hx
    obtain ⟨g1, g2, g3, g4, g5⟩ := inOrderF_cons h
    obtain ⟨k1, k2, k3, k4, k5⟩ := inOrderF_cons g5
    by_cases hn : hasNl s p.e.toNat y.s.toNat = true
    · have e : mrgE s p (y :: l) = expE s p :: mrgE s y l := by simp only [mrgE]; rw [if_pos hn]
      rw [e] at hx
      rcases List.mem_cons.1 hx with rfl | hx
      · exact expE_at ⟨g1, g2, g3⟩
      · exact ih y p.e g5 x hx
    · have e : mrgE s p (y :: l) = mrgE s ⟨p.s, y.e, p.n ++ s.extract p.e.toNat y.s.toNat ++ y.n⟩ l := by simp only [mrgE]; rw [if_neg hn]
      rw [e] at hx
      exact ih ⟨p.s, y.e, p.n ++ s.extract p.e.toNat y.s.toNat ++ y.n⟩ at_ (inOrderF_mk g1 (by show p.s ≤ y.e; omega) k3 g4 k5) x hx
theorem mrg_len (s : ByteArray) : ∀ (l : List Ed) (p : Ed), (mrgE s p l).length ≤ l.length + 1 := by
  intro l
  induction l with
  | nil => intro p; simp [mrgE]
  | cons y l ih =>
    intro p
    simp only [mrgE]
    split
    · have := ih y; simp; omega
    · have := ih ⟨p.s, y.e, p.n ++ s.extract p.e.toNat y.s.toNat ++ y.n⟩; simp; omega
theorem szE_patch (s : ByteArray) : ∀ (l : List Ed) (at_ : Nat), szE l ≤ (patchB s at_ l).size + l.length := by
  intro l
  induction l with
  | nil => intro at_; simp [szE]
  | cons x l ih =>
    intro at_
    have := ih x.e.toNat
    simp only [szE, patchB_cons, ByteArray.size_append, List.length_cons]
    omega
theorem patch_sz (s : ByteArray) : ∀ (l : List Ed) (at_ : Nat), inOrderF s.size at_ l = true → (patchB s at_ l).size ≤ (s.size - at_) + szE l := by
  intro l
  induction l with
  | nil =>
    intro at_ _
    show (s.extract at_ s.size).size ≤ _
    rw [ByteArray.size_extract]
    omega
  | cons x l ih =>
    intro at_ h
    obtain ⟨g1, g2, g3, g4, g5⟩ := inOrderF_cons h
    have := ih x.e.toNat (by rw [Int.toNat_of_nonneg (by omega)]; exact g5)
    simp only [szE, patchB_cons, ByteArray.size_append, ByteArray.size_extract]
    omega
/-- what is known of edits of whole lines -/
structure LineEd (s : ByteArray) (es r : List Ed) : Prop where
  order : inOrderF s.size 0 r = true
  patch : patchB s 0 r = patchB s 0 es
  at_ : ∀ x ∈ r, AtL s x
  size : szE r ≤ s.size + szE es + es.length
  len : r.length ≤ es.length
theorem align_at {s : ByteArray} {x : Ed} (h : 0 ≤ x.s ∧ x.s ≤ x.e ∧ x.e ≤ s.size) (ha : alignB s x = true) : AtL s x := by
  simp only [alignB, Bool.and_eq_true, decide_eq_true_eq] at ha
  exact ⟨x.s.toNat, x.e.toNat, by omega, by omega, behind_at (by omega) ha.1.1.2, behind_at (by omega) ha.1.2, .inl (whole_or ha.2)⟩
theorem inOrderX_mem {N : Int} : ∀ {l : List Ed} {at_ : Int}, inOrderF N at_ l = true → ∀ x ∈ l, 0 ≤ x.s ∧ x.s ≤ x.e ∧ x.e ≤ N := by
  intro l
  induction l with
  | nil => intro _ _ x hx; cases hx
  | cons y l ih =>
    intro at_ h x hx
    obtain ⟨g1, g2, g3, g4, g5⟩ := inOrderF_cons h
    rcases List.mem_cons.1 hx with rfl | hx
    · exact ⟨g1, g2, g3⟩
    · exact ih g5 x hx
theorem lineF_good {s : ByteArray} {es : List Ed} (h : inOrderF s.size 0 es = true) : LineEd s es (lineF s es) := by
  unfold lineF
  split
  · rename_i ha
    refine ⟨h, rfl, fun x hx => align_at (inOrderX_mem h x hx) (List.all_eq_true.1 ha x hx), by omega, Nat.le_refl _⟩
  · cases es with
    | nil => exact ⟨rfl, rfl, fun x hx => (by cases hx), by simp [szE], Nat.le_refl _⟩
    | cons p l =>
      have h0 : inOrderF s.size (0 : Nat) (p :: l) = true := h
      obtain ⟨h1, h2⟩ := mrg_good l p 0 (Nat.zero_le _) h0
      have h3 := szE_patch s (mrgE s p l) 0
      have h4 := patch_sz s (p :: l) 0 h0
      have h5 := mrg_len s l p
      rw [h2] at h3
      exact ⟨h1, h2, mrg_at l p 0 h, by simp only [List.length_cons]; omega, by simpa using h5⟩
end Go.Proofs.YtgphjnhbheimiaaDoor
