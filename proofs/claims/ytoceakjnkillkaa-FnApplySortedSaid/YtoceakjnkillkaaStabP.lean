/-
  The stable sort in plain words: what swaps, the insertion sort, rotations and merges do to a row of edits. No condition.
-/
import Derived.Test.YtoceakjnkillkaaSortI
namespace Go.Proofs.Ytoceakjnkillkaa
set_option linter.unusedVariables false
open Go.RowKit

/-- an edit and the place at which it stood first -/
abbrev EdT := Ed × Nat
abbrev RowT := Nat → EdT
/-- the strict order of starts, ends, first places -/
def RR (p q : EdT) : Prop := p.1.s < q.1.s ∨ (p.1.s = q.1.s ∧ (p.1.e < q.1.e ∨ (p.1.e = q.1.e ∧ p.2 < q.2)))
theorem RR.tr {p q r : EdT} (h : RR p q) (g : RR q r) : RR p r := by unfold RR at *; omega
/-- starts between which differences do not overflow -/
def GoodE (x : Ed) : Prop := 0 ≤ x.s ∧ x.s ≤ 2000000
theorem lessW_good {x y : Ed} (hx : GoodE x) (hy : GoodE y) : lessW x y = true ↔ (x.s < y.s ∨ (x.s = y.s ∧ x.e < y.e)) := by
  unfold GoodE at hx hy
  have hw : IntKind.i64.wrap (x.s - y.s) = x.s - y.s := IntWalk.i64_in _ (by omega)
  unfold lessW
  rw [hw]
  by_cases h : x.s - y.s = 0
  · rw [if_pos h]; simp; omega
  · rw [if_neg h]; simp; omega
theorem less_RR {p q : EdT} (hp : GoodE p.1) (hq : GoodE q.1) (ht : q.2 < p.2) (h : lessW p.1 q.1 = true) : RR p q := by
  have := (lessW_good hp hq).1 h; unfold RR; omega
theorem nless_RR {p q : EdT} (hp : GoodE p.1) (hq : GoodE q.1) (ht : q.2 < p.2) (h : lessW p.1 q.1 = false) : RR q p := by
  have : ¬ (p.1.s < q.1.s ∨ (p.1.s = q.1.s ∧ p.1.e < q.1.e)) := fun hh => by rw [(lessW_good hp hq).2 hh] at h; cases h
  unfold RR; omega

/-- what a step between two places changes -/
structure Stp (a b : Nat) (f g : RowT) : Prop where
  out : ∀ k, k < a ∨ b ≤ k → g k = f k
  inn : ∀ k, a ≤ k → k < b → ∃ k', a ≤ k' ∧ k' < b ∧ g k = f k'
theorem Stp.rf (a b : Nat) (f : RowT) : Stp a b f f := ⟨fun _ _ => rfl, fun k h1 h2 => ⟨k, h1, h2, rfl⟩⟩
theorem Stp.tr {a b : Nat} {f g h : RowT} (h1 : Stp a b f g) (h2 : Stp a b g h) : Stp a b f h := by
  refine ⟨fun k hk => (h2.out k hk).trans (h1.out k hk), fun k ha hb => ?_⟩
  obtain ⟨k', p1, p2, e⟩ := h2.inn k ha hb
  obtain ⟨k'', q1, q2, e'⟩ := h1.inn k' p1 p2
  exact ⟨k'', q1, q2, e.trans e'⟩
theorem Stp.wide {a b a' b' : Nat} {f g : RowT} (h : Stp a b f g) (h1 : a' ≤ a) (h2 : b ≤ b') : Stp a' b' f g := by
  refine ⟨fun k hk => h.out k (by omega), fun k ha hb => ?_⟩
  by_cases hk : a ≤ k ∧ k < b
  · obtain ⟨k', p1, p2, e⟩ := h.inn k hk.1 hk.2
    exact ⟨k', by omega, by omega, e⟩
  · exact ⟨k, ha, hb, h.out k (by omega)⟩
def swapF (f : RowT) (i j : Nat) : RowT := fun k => if k = i then f j else if k = j then f i else f k
theorem swapF_l (f : RowT) (i j : Nat) : swapF f i j i = f j := by simp [swapF]
theorem swapF_r (f : RowT) (i j : Nat) : swapF f i j j = f i := by
  by_cases h : j = i
  · subst h; simp [swapF]
  · simp [swapF, h]
theorem swapF_o (f : RowT) (i j k : Nat) (h1 : k ≠ i) (h2 : k ≠ j) : swapF f i j k = f k := by simp [swapF, h1, h2]
theorem Stp.swap {a b : Nat} (f : RowT) {i j : Nat} (h1 : a ≤ i) (h2 : i < b) (h3 : a ≤ j) (h4 : j < b) : Stp a b f (swapF f i j) := by
  refine ⟨fun k hk => swapF_o f i j k (by omega) (by omega), fun k ha hb => ?_⟩
  by_cases e1 : k = i
  · exact ⟨j, h3, h4, by rw [e1, swapF_l]⟩
  · by_cases e2 : k = j
    · exact ⟨i, h1, h2, by rw [e2, swapF_r]⟩
    · exact ⟨k, ha, hb, swapF_o f i j k e1 e2⟩
/-- the row as a list -/
def rowL (n : Nat) (f : RowT) : List Ed := (List.range n).map fun k => (f k).1
def rowT (n : Nat) (f : RowT) : List EdT := (List.range n).map f
theorem rowL_length (n : Nat) (f : RowT) : (rowL n f).length = n := by simp [rowL]
theorem rowT_length (n : Nat) (f : RowT) : (rowT n f).length = n := by simp [rowT]
theorem rowL_map (n : Nat) (f : RowT) : (rowT n f).map (·.1) = rowL n f := by simp [rowL, rowT, Function.comp_def]
theorem rowT_swap (n : Nat) (f : RowT) {i j : Nat} (hi : i < n) (hj : j < n) : (rowT n (swapF f i j)).Perm (rowT n f) := by
  have hi' : i < (rowT n f).toArray.size := by simpa [rowT] using hi
  have hj' : j < (rowT n f).toArray.size := by simpa [rowT] using hj
  have h := Array.swap_perm (xs := (rowT n f).toArray) hi' hj'
  have h2 : ((rowT n f).toArray.swap i j hi' hj').toList = rowT n (swapF f i j) := by
    apply List.ext_getElem
    · simp [rowT]
    · intro k h1 h2
      simp only [Array.getElem_toList, Array.getElem_swap]
      have hk : k < n := by simpa [rowT] using h2
      simp only [rowT, List.getElem_toArray, List.getElem_map, List.getElem_range, swapF]
  have h3 := h.toList
  rw [h2] at h3
  simpa using h3
/-- sorted between two places -/
def SrtF (a b : Nat) (f : RowT) : Prop := ∀ i j, a ≤ i → i < j → j < b → RR (f i) (f j)
/-- what stands between two places stood first ahead of what stands between two others -/
def TagLt (a m b : Nat) (f : RowT) : Prop := ∀ i j, a ≤ i → i < m → m ≤ j → j < b → (f i).2 < (f j).2
def GoodF (n : Nat) (f : RowT) : Prop := ∀ k, k < n → GoodE (f k).1
theorem GoodF.stp {a b n : Nat} {f g : RowT} (h : GoodF n f) (hs : Stp a b f g) (hb : b ≤ n) : GoodF n g := by
  intro k hk
  by_cases h1 : a ≤ k ∧ k < b
  · obtain ⟨k', p1, p2, e⟩ := hs.inn k h1.1 h1.2
    rw [e]; exact h k' (by omega)
  · rw [hs.out k (by omega)]; exact h k hk
theorem SrtF.eq {a b : Nat} {f g : RowT} (h : SrtF a b f) (he : ∀ k, a ≤ k → k < b → g k = f k) : SrtF a b g := by
  intro i j h1 h2 h3
  rw [he i h1 (by omega), he j (by omega) h3]; exact h i j h1 h2 h3
theorem SrtF.one (a b : Nat) (f : RowT) (h : b ≤ a + 1) : SrtF a b f := fun i j h1 h2 h3 => by omega
theorem SrtF.sub {a b a' b' : Nat} {f : RowT} (h : SrtF a b f) (h1 : a ≤ a') (h2 : b' ≤ b) : SrtF a' b' f := fun i j g1 g2 g3 => h i j (by omega) g2 (by omega)

/-- an element on its way down, at j: all other pairs up to i are in order -/
def Sink (a i j : Nat) (f : RowT) : Prop := (∀ p q, a ≤ p → p < q → q ≤ i → q ≠ j → RR (f p) (f q)) ∧ ∀ p, a ≤ p → p < j → (f p).2 < (f j).2
theorem Sink.start {a i : Nat} {f : RowT} (h : SrtF a i f) (ht : ∀ p, a ≤ p → p < i → (f p).2 < (f i).2) : Sink a i i f :=
  ⟨fun p q h1 h2 h3 h4 => h p q h1 h2 (by omega), ht⟩
theorem Sink.next {a i j : Nat} {f : RowT} (h : Sink a i j f) (hj : a < j) (hji : j ≤ i) (hr : RR (f j) (f (j - 1))) : Sink a i (j - 1) (swapF f j (j - 1)) := by
  have e1 := swapF_l f j (j - 1)
  have e2 := swapF_r f j (j - 1)
  refine ⟨fun p q h1 h2 h3 h4 => ?_, fun p h1 h2 => ?_⟩
  · by_cases hq : q = j
    · subst hq
      by_cases hp : p = q - 1
      · subst hp; rw [e1, e2]; exact hr
      · rw [e1, swapF_o f q (q - 1) p (by omega) hp]; exact h.1 p (q - 1) h1 (by omega) (by omega) (by omega)
    · rw [swapF_o f j (j - 1) q hq h4]
      by_cases hp : p = j
      · subst hp; rw [e1]; exact h.1 (p - 1) q (by omega) (by omega) h3 hq
      · by_cases hp2 : p = j - 1
        · subst hp2; rw [e2]; exact h.1 j q (by omega) (by omega) h3 hq
        · rw [swapF_o f j (j - 1) p hp hp2]; exact h.1 p q h1 h2 h3 hq
  · rw [e2, swapF_o f j (j - 1) p (by omega) (by omega)]; exact h.2 p h1 (by omega)
theorem Sink.done {a i j : Nat} {f : RowT} (h : Sink a i j f) (hj : j = a ∨ RR (f (j - 1)) (f j)) : SrtF a (i + 1) f := by
  intro p q h1 h2 h3
  by_cases hq : q = j
  · subst hq
    rcases hj with hj | hj
    · omega
    · by_cases hp : p = q - 1
      · subst hp; exact hj
      · exact (h.1 p (q - 1) h1 (by omega) (by omega) (by omega)).tr hj
  · exact h.1 p q h1 h2 (by omega) hq

/-- a rotation -/
structure Rot (a m b : Nat) (f g : RowT) : Prop where
  out : ∀ k, k < a ∨ b ≤ k → g k = f k
  lo : ∀ t, t < b - m → g (a + t) = f (m + t)
  hi : ∀ t, t < m - a → g (a + (b - m) + t) = f (a + t)
/-- a swap of two ranges -/
structure SwR (a b n : Nat) (f g : RowT) : Prop where
  out : ∀ k, (k < a ∨ a + n ≤ k) → (k < b ∨ b + n ≤ k) → g k = f k
  lo : ∀ t, t < n → g (a + t) = f (b + t)
  hi : ∀ t, t < n → g (b + t) = f (a + t)
theorem SwR.zero (a b : Nat) (f : RowT) : SwR a b 0 f f := ⟨fun _ _ _ => rfl, fun t h => by omega, fun t h => by omega⟩
theorem SwR.next {a b n : Nat} {f g : RowT} (h : SwR a b n f g) (hd : a + n < b) : SwR a b (n + 1) f (swapF g (a + n) (b + n)) := by
  have x1 : g (a + n) = f (a + n) := h.out _ (by omega) (by omega)
  have x2 : g (b + n) = f (b + n) := h.out _ (by omega) (by omega)
  refine ⟨fun k h1 h2 => ?_, fun t ht => ?_, fun t ht => ?_⟩
  · rw [swapF_o _ _ _ _ (by omega) (by omega)]; exact h.out k (by omega) (by omega)
  · by_cases e : t = n
    · subst e; rw [swapF_l]; exact x2
    · rw [swapF_o _ _ _ _ (by omega) (by omega)]; exact h.lo t (by omega)
  · by_cases e : t = n
    · subst e; rw [swapF_r]; exact x1
    · rw [swapF_o _ _ _ _ (by omega) (by omega)]; exact h.hi t (by omega)
theorem Rot.same {a m b : Nat} {f g : RowT} (h : SwR a m (m - a) f g) (h1 : a ≤ m) (h2 : b = m + (m - a)) : Rot a m b f g := by
  refine ⟨fun k hk => h.out k (by omega) (by omega), fun t ht => h.lo t (by omega), fun t ht => ?_⟩
  rw [show a + (b - m) + t = m + t by omega]; exact h.hi t ht
theorem Rot.left {a m b : Nat} {f g h : RowT} (hs : SwR a m (b - m) f g) (h1 : b - m < m - a) (h2 : m < b) (hr : Rot (a + (b - m)) m b g h) : Rot a m b f h := by
  refine ⟨fun k hk => ?_, fun t ht => ?_, fun t ht => ?_⟩
  · rw [hr.out k (by omega), hs.out k (by omega) (by omega)]
  · rw [hr.out _ (by omega), hs.lo t ht]
  · by_cases e : t < b - m
    · rw [hr.lo t e, hs.hi t e]
    · have := hr.hi (t - (b - m)) (by omega)
      rw [show a + (b - m) + (b - m) + (t - (b - m)) = a + (b - m) + t by omega, show a + (b - m) + (t - (b - m)) = a + t by omega] at this
      rw [this, hs.out _ (by omega) (by omega)]
theorem Rot.right {a m b : Nat} {f g h : RowT} (hs : SwR a (b - (m - a)) (m - a) f g) (h1 : m - a < b - m) (h2 : a < m) (hr : Rot a m (b - (m - a)) g h) : Rot a m b f h := by
  refine ⟨fun k hk => ?_, fun t ht => ?_, fun t ht => ?_⟩
  · rw [hr.out k (by omega), hs.out k (by omega) (by omega)]
  · by_cases e : t < b - (m - a) - m
    · rw [hr.lo t e, hs.out _ (by omega) (by omega)]
    · have h3 := hr.hi (t - (b - (m - a) - m)) (by omega)
      rw [show a + (b - (m - a) - m) + (t - (b - (m - a) - m)) = a + t by omega] at h3
      rw [h3, hs.lo _ (by omega)]
      congr 1; omega
  · rw [hr.out _ (by omega)]
    have := hs.hi t ht
    rw [show b - (m - a) + t = a + (b - m) + t by omega] at this
    exact this
theorem Rot.stp {a m b : Nat} {f g : RowT} (h : Rot a m b f g) (h1 : a ≤ m) (h2 : m ≤ b) : Stp a b f g := by
  refine ⟨h.out, fun k ha hb => ?_⟩
  by_cases e : k < a + (b - m)
  · exact ⟨m + (k - a), by omega, by omega, by have := h.lo (k - a) (by omega); rw [show a + (k - a) = k by omega] at this; exact this⟩
  · exact ⟨a + (k - (a + (b - m))), by omega, by omega, by have := h.hi (k - (a + (b - m))) (by omega); rw [show a + (b - m) + (k - (a + (b - m))) = k by omega] at this; exact this⟩

/-- two halves merged by a rotation and two merges -/
theorem merge_join {a m b s t mid : Nat} {f g h1 h2 : RowT} (hs1 : a ≤ s) (hs2 : s ≤ m) (ht1 : m ≤ t) (ht2 : t ≤ b) (hmid : mid = s + (t - m))
    (hr : Rot s m t f g) (e1 : Stp a mid g h1) (e2 : Stp mid b h1 h2) (hL : SrtF a m f) (hR : SrtF m b f) (o1 : SrtF a mid h1) (o2 : SrtF mid b h2)
    (hc1 : a < s → t < b → RR (f (s - 1)) (f t)) (hc2 : m < t → s < m → RR (f (t - 1)) (f s)) : SrtF a b h2 := by
  have lowEl : ∀ k, a ≤ k → k < mid → (∃ k', a ≤ k' ∧ k' < s ∧ h2 k = f k') ∨ (∃ k', m ≤ k' ∧ k' < t ∧ h2 k = f k') := by
    intro k ha hk
    rw [e2.out k (by omega)]
    obtain ⟨k1, p1, p2, q⟩ := e1.inn k ha hk
    rw [q]
    by_cases c : k1 < s
    · exact .inl ⟨k1, p1, c, hr.out k1 (by omega)⟩
    · refine .inr ⟨m + (k1 - s), by omega, by omega, ?_⟩
      have := hr.lo (k1 - s) (by omega)
      rw [show s + (k1 - s) = k1 by omega] at this
      exact this
  have hiEl : ∀ k, mid ≤ k → k < b → (∃ k', s ≤ k' ∧ k' < m ∧ h2 k = f k') ∨ (∃ k', t ≤ k' ∧ k' < b ∧ h2 k = f k') := by
    intro k ha hk
    obtain ⟨k1, p1, p2, q⟩ := e2.inn k ha hk
    rw [q, e1.out k1 (by omega)]
    by_cases c : k1 < t
    · refine .inl ⟨s + (k1 - mid), by omega, by omega, ?_⟩
      have := hr.hi (k1 - mid) (by omega)
      rw [show s + (t - m) + (k1 - mid) = k1 by omega] at this
      exact this
    · exact .inr ⟨k1, by omega, p2, hr.out k1 (by omega)⟩
  intro i j hi hij hj
  by_cases c1 : j < mid
  · rw [e2.out i (by omega), e2.out j (by omega)]; exact o1 i j hi hij c1
  · by_cases c2 : mid ≤ i
    · exact o2 i j c2 hij hj
    · rcases lowEl i hi (by omega) with ⟨i', a1, a2, ei⟩ | ⟨i', a1, a2, ei⟩ <;> rcases hiEl j (by omega) hj with ⟨j', b1, b2, ej⟩ | ⟨j', b1, b2, ej⟩ <;> rw [ei, ej]
      · exact hL i' j' a1 (by omega) b2
      · have h0 := hc1 (by omega) (by omega)
        have h3 : RR (f i') (f t) := by
          by_cases c : i' = s - 1
          · rw [c]; exact h0
          · exact (hL i' (s - 1) a1 (by omega) (by omega)).tr h0
        by_cases c : j' = t
        · rw [c]; exact h3
        · exact h3.tr (hR t j' (by omega) (by omega) b2)
      · have h0 := hc2 (by omega) (by omega)
        have h3 : RR (f i') (f s) := by
          by_cases c : i' = t - 1
          · rw [c]; exact h0
          · exact (hR i' (t - 1) a1 (by omega) (by omega)).tr h0
        by_cases c : j' = s
        · rw [c]; exact h3
        · exact h3.tr (hL s j' (by omega) (by omega) b2)
      · exact hR i' j' a1 (by omega) b2
/-- no rotation -/
theorem Rot.nil {s m t : Nat} (f : RowT) (h : s = m ∨ t = m) : Rot s m t f f := by
  refine ⟨fun _ _ => rfl, fun k hk => ?_, fun k hk => ?_⟩
  · congr 1; omega
  · congr 1; omega
theorem Rot.srtLo {s m t b mid : Nat} {f g : RowT} (h : Rot s m t f g) (hs : SrtF m b f) (hm : mid = s + (t - m)) (h1 : m ≤ t) (h2 : t ≤ b) : SrtF s mid g := by
  intro i j hi hij hj
  have e1 := h.lo (i - s) (by omega)
  have e2 := h.lo (j - s) (by omega)
  rw [show s + (i - s) = i by omega] at e1
  rw [show s + (j - s) = j by omega] at e2
  rw [e1, e2]; exact hs _ _ (by omega) (by omega) (by omega)
theorem Rot.srtHi {a s m t mid : Nat} {f g : RowT} (h : Rot s m t f g) (hs : SrtF a m f) (hm : mid = s + (t - m)) (h1 : a ≤ s) (h2 : s ≤ m) (h3 : m ≤ t) : SrtF mid t g := by
  intro i j hi hij hj
  have e1 := h.hi (i - mid) (by omega)
  have e2 := h.hi (j - mid) (by omega)
  rw [show s + (t - m) + (i - mid) = i by omega] at e1
  rw [show s + (t - m) + (j - mid) = j by omega] at e2
  rw [e1, e2]; exact hs _ _ (by omega) (by omega) (by omega)
theorem Rot.tagLo {a m b s t mid : Nat} {f g : RowT} (h : Rot s m t f g) (ht : TagLt a m b f) (hm : mid = s + (t - m)) (h1 : a ≤ s) (h2 : s ≤ m) (h3 : m ≤ t) (h4 : t ≤ b) : TagLt a s mid g := by
  intro i j h5 h6 h7 h8
  have e2 := h.lo (j - s) (by omega)
  rw [show s + (j - s) = j by omega] at e2
  rw [h.out i (by omega), e2]; exact ht _ _ h5 (by omega) (by omega) (by omega)
theorem Rot.tagHi {a m b s t mid : Nat} {f g : RowT} (h : Rot s m t f g) (ht : TagLt a m b f) (hm : mid = s + (t - m)) (h1 : a ≤ s) (h2 : s ≤ m) (h3 : m ≤ t) (h4 : t ≤ b) : TagLt mid t b g := by
  intro i j h5 h6 h7 h8
  have e1 := h.hi (i - mid) (by omega)
  rw [show s + (t - m) + (i - mid) = i by omega] at e1
  rw [h.out j (by omega), e1]; exact ht _ _ (by omega) (by omega) (by omega) (by omega)
/-- the first element moved up to its place -/
theorem Rot.up {a k : Nat} {f g : RowT} (h : Rot a (a + 1) (k + 1) f g) (hk : a ≤ k) : Rot a (a + 1) (k + 2) f (swapF g k (k + 1)) := by
  refine ⟨fun x hx => ?_, fun t ht => ?_, fun t ht => ?_⟩
  · rw [swapF_o _ _ _ _ (by omega) (by omega)]; exact h.out x (by omega)
  · by_cases e : a + t = k
    · rw [e, swapF_l, h.out (k + 1) (by omega)]; congr 1; omega
    · rw [swapF_o _ _ _ _ e (by omega)]; exact h.lo t (by omega)
  · obtain rfl : t = 0 := by omega
    rw [show a + (k + 2 - (a + 1)) + 0 = k + 1 by omega, swapF_r]
    have := h.hi 0 (by omega)
    rw [show a + (k + 1 - (a + 1)) + 0 = k by omega] at this
    exact this
/-- the last element moved down to its place -/
theorem Rot.dn {m k : Nat} {f g : RowT} (h : Rot k m (m + 1) f g) (hk : 1 ≤ k) (hm : k ≤ m) : Rot (k - 1) m (m + 1) f (swapF g k (k - 1)) := by
  refine ⟨fun x hx => ?_, fun t ht => ?_, fun t ht => ?_⟩
  · rw [swapF_o _ _ _ _ (by omega) (by omega)]; exact h.out x (by omega)
  · obtain rfl : t = 0 := by omega
    rw [show k - 1 + 0 = k - 1 by omega, swapF_r]
    have := h.lo 0 (by omega)
    rw [show k + 0 = k by omega] at this
    exact this
  · by_cases e : t = 0
    · subst e
      rw [show k - 1 + (m + 1 - m) + 0 = k by omega, swapF_l, h.out (k - 1) (by omega)]; congr 1
    · rw [swapF_o _ _ _ _ (by omega) (by omega)]
      have := h.hi (t - 1) (by omega)
      rw [show k + (m + 1 - m) + (t - 1) = k - 1 + (m + 1 - m) + t by omega, show k + (t - 1) = k - 1 + t by omega] at this
      exact this
theorem srt_up {a i b : Nat} {f g : RowT} (h : Rot a (a + 1) i f g) (h1 : a + 1 ≤ i) (h2 : i ≤ b) (hs : SrtF (a + 1) b f) (hlo : i = a + 1 ∨ RR (f (i - 1)) (f a)) (hhi : i = b ∨ RR (f a) (f i)) : SrtF a b g := by
  have m0 : SrtF a (a + (i - (a + 1))) g := h.srtLo hs rfl h1 h2
  have m1 : SrtF (a + (i - (a + 1))) b g := by
    intro p q hp hpq hq
    rw [h.out q (by omega)]
    by_cases c : p = i - 1
    · have := h.hi 0 (by omega)
      rw [show a + (i - (a + 1)) + 0 = p by omega] at this
      rw [this]
      have hh : RR (f a) (f i) := hhi.resolve_left (by omega)
      by_cases c2 : q = i
      · rw [c2]; exact hh
      · exact hh.tr (hs i q (by omega) (by omega) hq)
    · rw [h.out p (by omega)]; exact hs p q (by omega) hpq hq
  exact merge_join (Nat.le_refl a) (by omega) h1 h2 rfl h (Stp.rf _ _ _) (Stp.rf _ _ _) (SrtF.one _ _ _ (by omega)) hs m0 m1 (fun h => by omega) (fun h3 _ => hlo.resolve_left (by omega))
theorem srt_dn {a i m : Nat} {f g : RowT} (h : Rot i m (m + 1) f g) (h1 : a ≤ i) (h2 : i ≤ m) (hs : SrtF a m f) (hlo : i = a ∨ RR (f (i - 1)) (f m)) (hhi : i = m ∨ RR (f m) (f i)) : SrtF a (m + 1) g := by
  have m1 : SrtF (i + (m + 1 - m)) (m + 1) g := h.srtHi hs rfl h1 h2 (by omega)
  have m0 : SrtF a (i + (m + 1 - m)) g := by
    intro p q hp hpq hq
    rw [h.out p (by omega)]
    by_cases c : q = i
    · have := h.lo 0 (by omega)
      rw [show i + 0 = q by omega] at this
      rw [this]
      have hh : RR (f (i - 1)) (f m) := hlo.resolve_left (by omega)
      by_cases c2 : p = i - 1
      · rw [c2]; exact hh
      · exact (hs p (i - 1) hp (by omega) (by omega)).tr hh
    · rw [h.out q (by omega)]; exact hs p q hp hpq (by omega)
  exact merge_join h1 h2 (by omega) (Nat.le_refl _) rfl h (Stp.rf _ _ _) (Stp.rf _ _ _) hs (SrtF.one _ _ _ (by omega)) m0 m1 (fun _ h => by omega) (fun _ h3 => hhi.resolve_left (by omega))

/-- what a merge, an insertion sort of a part of the row gives: the row behind it is a rearrangement, sorted there if all was well ahead -/
structure Mrg (n a b : Nat) (C : Prop) (f g : RowT) : Prop where
  stp : Stp a b f g
  prm : (rowT n g).Perm (rowT n f)
  srt : C → SrtF a b g

/-- sorted by blocks; places first stood at within the block -/
structure BlkS (bs n c : Nat) (f : RowT) : Prop where
  srt : ∀ d, d < c → SrtF (d * bs) (min (d * bs + bs) n) f
  tag : ∀ d k, d * bs ≤ k → k < d * bs + bs → k < n → d * bs ≤ (f k).2 ∧ (f k).2 < d * bs + bs
theorem BlkS.next {bs n c : Nat} {f g : RowT} (h : BlkS bs n c f) (hs : Stp (c * bs) (min (c * bs + bs) n) f g) (ho : SrtF (c * bs) (min (c * bs + bs) n) g) : BlkS bs n (c + 1) g := by
  refine ⟨fun d hd => ?_, fun d k h1 h2 h3 => ?_⟩
  · by_cases e : d = c
    · subst e; exact ho
    · have hm : d * bs + bs ≤ c * bs := by rw [← Nat.succ_mul]; exact Nat.mul_le_mul_right bs (by omega)
      exact (h.srt d (by omega)).eq fun k hk1 hk2 => hs.out k (.inl (by omega))
  · by_cases e : d = c
    · subst e
      obtain ⟨k', q1, q2, e'⟩ := hs.inn k h1 (by omega)
      rw [e']; exact h.tag d k' q1 (by omega) (by omega)
    · rw [hs.out k]
      · exact h.tag d k h1 h2 h3
      · rcases Nat.lt_or_gt_of_ne e with e | e
        · have hm : d * bs + bs ≤ c * bs := by rw [← Nat.succ_mul]; exact Nat.mul_le_mul_right bs (by omega)
          exact .inl (by omega)
        · have hm : c * bs + bs ≤ d * bs := by rw [← Nat.succ_mul]; exact Nat.mul_le_mul_right bs (by omega)
          exact .inr (by omega)
/-- blocks twice as large -/
theorem BlkS.twice {bs n c : Nat} {f : RowT} (h : BlkS bs n c f) : BlkS (2 * bs) n 0 f := by
  refine ⟨fun d hd => by omega, fun d k h1 h2 h3 => ?_⟩
  have e1 : d * (2 * bs) = 2 * d * bs := by rw [Nat.mul_comm 2 d, Nat.mul_assoc]
  have e2 : (2 * d + 1) * bs = 2 * d * bs + bs := Nat.succ_mul _ _
  rw [e1] at h1 h2 ⊢
  by_cases hk : k < 2 * d * bs + bs
  · have := h.tag (2 * d) k h1 hk h3; omega
  · have := h.tag (2 * d + 1) k (by omega) (by omega) h3; omega
theorem BlkS.tagLt {bs n c d : Nat} {f : RowT} (h : BlkS bs n c f) : TagLt (d * (2 * bs)) (d * (2 * bs) + bs) (min (d * (2 * bs) + 2 * bs) n) f := by
  have e1 : d * (2 * bs) = 2 * d * bs := by rw [Nat.mul_comm 2 d, Nat.mul_assoc]
  have e2 : (2 * d + 1) * bs = 2 * d * bs + bs := Nat.succ_mul _ _
  intro i j h1 h2 h3 h4
  rw [e1] at h1 h2 h3 h4
  have a1 := h.tag (2 * d) i h1 h2 (by omega)
  have a2 := h.tag (2 * d + 1) j (by omega) (by omega) (by omega)
  omega
theorem BlkS.halves {bs n d : Nat} {f : RowT} (h : ∀ c, BlkS bs n c f) : SrtF (d * (2 * bs)) (min (d * (2 * bs) + bs) n) f ∧ SrtF (d * (2 * bs) + bs) (min (d * (2 * bs) + 2 * bs) n) f := by
  have e1 : d * (2 * bs) = 2 * d * bs := by rw [Nat.mul_comm 2 d, Nat.mul_assoc]
  have e2 : (2 * d + 1) * bs = 2 * d * bs + bs := Nat.succ_mul _ _
  rw [e1]
  refine ⟨(h (2 * d + 1)).srt (2 * d) (by omega), ?_⟩
  have := (h (2 * d + 2)).srt (2 * d + 1) (by omega)
  rw [e2] at this
  rw [show 2 * d * bs + 2 * bs = 2 * d * bs + bs + bs by omega]
  exact this
/-- all blocks, once the blocks told reach the end -/
theorem BlkS.all {bs n c : Nat} {f : RowT} (h : BlkS bs n c f) (hc : n ≤ c * bs) : ∀ d, BlkS bs n d f := by
  intro d
  refine ⟨fun e he => ?_, h.tag⟩
  by_cases hec : e < c
  · exact h.srt e hec
  · have hm : c * bs ≤ e * bs := Nat.mul_le_mul_right bs (by omega)
    exact fun i j h1 h2 h3 => by omega
theorem BlkS.same {bs n c : Nat} {f g : RowT} (h : BlkS bs n c f) (he : ∀ k, c * bs ≤ k → k < n → g k = f k) {d : Nat} (h0 : c * bs ≤ d) {e : Nat} (h1 : e ≤ n) (hs : SrtF d e f) : SrtF d e g := hs.eq fun k a b => he k (by omega) (by omega)
end Go.Proofs.Ytoceakjnkillkaa
