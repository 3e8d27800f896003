/-
  The unified form of edits, plainly: hunks with lines of three kinds; their number and size. No program in sight. No condition.
-/
import Derived.Test.YtgphjnhbheimiaaDoorLineX
namespace Go.Proofs.YtgphjnhbheimiaaDoor
set_option linter.unusedVariables false

/-- lines with their kinds: 0 taken away, 1 put in, 2 kept -/
abbrev KLs := List (Int × ByteArray)
/-- a hunk: where it begins in both texts, and its lines -/
structure Hk where
  fl : Int
  tl : Int
  ls : KLs

/-- how many lines end ahead of a place -/
def nlN (s : ByteArray) : Nat → Nat
  | 0 => 0
  | k + 1 => nlN s k + (if byteAt s k = 10 then 1 else 0)
theorem nlN_mono (s : ByteArray) {a b : Nat} (h : a ≤ b) : nlN s a ≤ nlN s b := by
  induction b with
  | zero => have : a = 0 := by omega
            subst this; exact Nat.le_refl _
  | succ b ih =>
    by_cases h1 : a = b + 1
    · subst h1; exact Nat.le_refl _
    · have := ih (by omega)
      simp only [nlN]; omega
theorem nlN_le (s : ByteArray) (k : Nat) : nlN s k ≤ k := by
  induction k with
  | zero => exact Nat.le_refl _
  | succ k ih => simp only [nlN]; split <;> omega
theorem lnL_nlN (s : ByteArray) (k : Nat) : (lnL s k).length = nlN s k := by
  induction k with
  | zero => rfl
  | succ k ih =>
    by_cases h : byteAt s k = 10
    · rw [lnL_nl s k h, List.length_append, ih]; simp [nlN, h]
    · rw [lnL_no s k h, ih]; simp [nlN, h]
/-- does a text end without the end of a line? -/
def openE (s : ByteArray) : Bool := decide (0 < s.size) && decide (byteAt s (s.size - 1) ≠ 10)
theorem linesF_openE {s : ByteArray} (h : openE s = true) : (linesF s).length = nlN s s.size + 1 := by
  simp only [openE, Bool.and_eq_true, decide_eq_true_eq] at h
  obtain ⟨h1, h2⟩ := h
  obtain ⟨k, hk⟩ : ∃ k, s.size = k + 1 := ⟨s.size - 1, by omega⟩
  have e : s.size - 1 = k := by omega
  rw [e] at h2
  have : lnF s s.size < s.size := by
    have h3 := lnF_le s k
    rw [hk, lnF_no s k h2]
    omega
  unfold linesF
  rw [if_pos this, List.length_append, lnL_nlN]
  rfl
theorem linesF_ge (s : ByteArray) : nlN s s.size ≤ (linesF s).length := by
  unfold linesF
  split
  · rw [List.length_append, lnL_nlN]; omega
  · rw [lnL_nlN]; exact Nat.le_refl _

/-- kept lines -/
def eqF (L : List ByteArray) (a b : Int) : KLs := ((L.take b.toNat).drop a.toNat).map fun x => (2, x)
/-- lines taken away -/
def delF (L : List ByteArray) (a b : Int) : KLs := ((L.take b.toNat).drop a.toNat).map fun x => (0, x)
/-- lines put in -/
def insF (n : ByteArray) : KLs := (linesF n).map fun x => (1, x)
/-- the line on which an edit begins, and the one ahead of which it ends -/
def upA (s : ByteArray) (x : Ed) : Int := nlN s x.s.toNat
def upB (s : ByteArray) (x : Ed) : Int := nlN s x.e.toNat + (if decide (x.e = s.size) && openE s then 1 else 0)

/-- where the walk over the edits stands: hunks made, the hunk under way, the line behind the last edit, the line of the second text -/
structure Ust where
  hs : List Hk
  h : Option Hk
  last : Int
  tl : Int
def newHk (L : List ByteArray) (c a tl : Int) : Hk := ⟨a + 1 - (eqF L (a - c) a).length, tl + 1 - (eqF L (a - c) a).length, eqF L (a - c) a⟩
def Hk.add (h : Hk) (l : KLs) : Hk := ⟨h.fl, h.tl, h.ls ++ l⟩
/-- the hunk in which an edit goes, and the ones ahead of it -/
def openU (L : List ByteArray) (c a : Int) (st : Ust) : List Hk × Hk × Int :=
  match st.h with
  | none => (st.hs, newHk L c a (st.tl + (a - st.last)), st.tl + (a - st.last))
  | some h =>
    if a = st.last then (st.hs, h, st.tl)
    else if a ≤ st.last + c * 2 then (st.hs, h.add (eqF L st.last a), st.tl)
    else (st.hs ++ [h.add (eqF L st.last (st.last + c))], newHk L c a (st.tl + (a - st.last)), st.tl + (a - st.last))
def stepU (s : ByteArray) (L : List ByteArray) (c : Int) (st : Ust) (x : Ed) : Ust :=
  ⟨(openU L c (upA s x) st).1, some (((openU L c (upA s x) st).2.1.add (delF L (upA s x) (upB s x))).add (insF x.n)), upB s x, (openU L c (upA s x) st).2.2 + (linesF x.n).length⟩
def foldU (s : ByteArray) (L : List ByteArray) (c : Int) (es : List Ed) : Ust := es.foldl (stepU s L c) ⟨[], none, 0, 0⟩
def endU (L : List ByteArray) (c : Int) (st : Ust) : List Hk :=
  match st.h with
  | none => st.hs
  | some h => st.hs ++ [h.add (eqF L st.last (st.last + c))]
/-- the hunks of edits -/
def unifF (s : ByteArray) (c : Int) (es : List Ed) : List Hk := endU (linesF s) c (foldU s (linesF s) c es)

theorem upAB (s : ByteArray) (x : Ed) (h1 : 0 ≤ x.s) (h2 : x.s ≤ x.e) (h3 : x.e ≤ s.size) : 0 ≤ upA s x ∧ upA s x ≤ upB s x ∧ upB s x ≤ (linesF s).length := by
  have m1 := nlN_mono s (show x.s.toNat ≤ x.e.toNat by omega)
  have m2 := nlN_mono s (show x.e.toNat ≤ s.size by omega)
  have g := linesF_ge s
  unfold upA upB
  refine ⟨by omega, by split <;> omega, ?_⟩
  split
  · rename_i h
    simp only [Bool.and_eq_true, decide_eq_true_eq] at h
    have := linesF_openE h.2
    omega
  · omega

/-! ### one line more -/
theorem eqF_neg (L : List ByteArray) (a i : Int) (h : i < 0) : eqF L a (i + 1) = eqF L a i := by
  unfold eqF
  rw [show (i + 1).toNat = 0 by omega, show i.toNat = 0 by omega]
theorem cut_snoc (L : List ByteArray) (a i : Int) (f : ByteArray → Int × ByteArray) (h0 : 0 ≤ i) (h1 : a ≤ i) (h : i.toNat < L.length) : ((L.take (i + 1).toNat).drop a.toNat).map f = ((L.take i.toNat).drop a.toNat).map f ++ [f (L.getD i.toNat ⟨#[]⟩)] := by
  have e : (i + 1).toNat = i.toNat + 1 := by omega
  rw [e, List.take_succ_eq_append_getElem h, List.drop_append_of_le_length (by simp; omega), List.map_append]
  simp [h]
theorem eqF_snoc (L : List ByteArray) (a i : Int) (h0 : 0 ≤ i) (h1 : a ≤ i) (h : i.toNat < L.length) : eqF L a (i + 1) = eqF L a i ++ [(2, L.getD i.toNat ⟨#[]⟩)] := cut_snoc L a i _ h0 h1 h
theorem delF_snoc (L : List ByteArray) (a i : Int) (h0 : 0 ≤ i) (h1 : a ≤ i) (h : i.toNat < L.length) : delF L a (i + 1) = delF L a i ++ [(0, L.getD i.toNat ⟨#[]⟩)] := cut_snoc L a i _ h0 h1 h
theorem eqF_all (L : List ByteArray) (a i b : Int) (h : (L.length : Int) ≤ i) (h2 : i ≤ b) : eqF L a b = eqF L a i := by
  unfold eqF
  rw [List.take_of_length_le (by omega), List.take_of_length_le (by omega)]
theorem eqF_none (L : List ByteArray) (a b : Int) (h : b ≤ a) : eqF L a b = [] := by
  unfold eqF
  rw [List.drop_of_length_le (by simp; omega)]
  rfl
theorem delF_none (L : List ByteArray) (a b : Int) (h : b ≤ a) : delF L a b = [] := by
  unfold delF
  rw [List.drop_of_length_le (by simp; omega)]
  rfl
theorem eqF_len (L : List ByteArray) (a b : Int) : (eqF L a b).length ≤ L.length := by simp [eqF]; omega
theorem delF_len (L : List ByteArray) (a b : Int) : (delF L a b).length ≤ L.length := by simp [delF]; omega

/-! ### sizes -/
/-- what lines take in the text -/
def szK : KLs → Nat
  | [] => 0
  | x :: l => x.2.size + 30 + szK l
theorem szK_append (a b : KLs) : szK (a ++ b) = szK a + szK b := by
  induction a with
  | nil => simp [szK]
  | cons x a ih => simp only [List.cons_append, szK, ih]; omega
theorem szK_map (k : Int) (L : List ByteArray) : szK (L.map fun x => (k, x)) = totB L + 30 * L.length := by
  induction L with
  | nil => rfl
  | cons x a ih => simp only [List.map_cons, szK, ih, totB, List.length_cons]; omega
theorem totB_cut (L : List ByteArray) (n m : Nat) : totB ((L.take n).drop m) ≤ totB L := by
  have h1 := totB_append (L.take n) (L.drop n)
  rw [List.take_append_drop] at h1
  have h2 := totB_append ((L.take n).take m) ((L.take n).drop m)
  rw [List.take_append_drop] at h2
  omega
theorem szK_eq (L : List ByteArray) (a b : Int) : szK (eqF L a b) ≤ totB L + 30 * L.length := by
  unfold eqF
  rw [szK_map]
  have := totB_cut L b.toNat a.toNat
  simp only [List.length_drop, List.length_take]
  omega
theorem szK_del (L : List ByteArray) (a b : Int) : szK (delF L a b) ≤ totB L + 30 * L.length := by
  unfold delF
  rw [szK_map]
  have := totB_cut L b.toNat a.toNat
  simp only [List.length_drop, List.length_take]
  omega
theorem szK_ins (n : ByteArray) : szK (insF n) ≤ 31 * n.size := by
  unfold insF
  rw [szK_map, linesF_tot]
  have := linesF_len n
  omega
theorem szK_len (l : KLs) : l.length ≤ szK l := by
  induction l with
  | nil => exact Nat.le_refl _
  | cons x a ih => simp only [szK, List.length_cons]; omega
def szH : List Hk → Nat
  | [] => 0
  | h :: l => szK h.ls + 200 + szH l
theorem szH_append (a b : List Hk) : szH (a ++ b) = szH a + szH b := by
  induction a with
  | nil => simp [szH]
  | cons x a ih => simp only [List.cons_append, szH, ih]; omega
def szO : Option Hk → Nat
  | none => 0
  | some h => szK h.ls + 200
/-- what holds behind so many edits whose texts have so many bytes -/
structure UGood (L : List ByteArray) (T : Nat) (k z : Nat) (st : Ust) : Prop where
  size : szH st.hs + szO st.h ≤ k * (3 * T + 200) + 31 * z
  last0 : 0 ≤ st.last
  last1 : st.last ≤ L.length
  tl0 : -((k : Int) * L.length) ≤ st.tl
  tl1 : st.tl ≤ (k : Int) * L.length + z
  lines : ∀ h, (h ∈ st.hs ∨ st.h = some h) → (-10 : Int) ≤ h.fl ∧ h.fl ≤ L.length + 1 ∧ -((k : Int) * L.length) - L.length ≤ h.tl ∧ h.tl ≤ (k : Int) * L.length + z + 1
  count : st.hs.length ≤ k
theorem mulT (k : Nat) (T : Nat) : (k + 1) * T = k * T + T := Nat.succ_mul k T
theorem newHk_sz (L : List ByteArray) (c a tl : Int) : szK (newHk L c a tl).ls ≤ totB L + 30 * L.length := szK_eq L _ _
theorem eqF_near (L : List ByteArray) (c a : Int) (h1 : 0 ≤ a) (hc : 0 ≤ c) (h8 : c ≤ 8) : ((eqF L (a - c) a).length : Int) ≤ 8 := by
  simp only [eqF, List.length_map, List.length_drop, List.length_take]
  omega
theorem openU_good {L : List ByteArray} {T k z : Nat} {st : Ust} {c a : Int} (hT : totB L + 30 * L.length ≤ T) (hc : 0 ≤ c) (h8 : c ≤ 8) (h : UGood L T k z st) (ha : 0 ≤ a) (haL : a ≤ L.length) :
    szH (openU L c a st).1 + (szK (openU L c a st).2.1.ls + 200) ≤ k * (3 * T + 200) + 31 * z + 2 * T + 200 ∧
    -((k : Int) * L.length) - L.length ≤ (openU L c a st).2.2 ∧ (openU L c a st).2.2 ≤ (k : Int) * L.length + z + L.length ∧
    (∀ h, (h ∈ (openU L c a st).1 ∨ (openU L c a st).2.1 = h) → (-10 : Int) ≤ h.fl ∧ h.fl ≤ L.length + 1 ∧ -((k : Int) * L.length) - L.length - L.length ≤ h.tl ∧ h.tl ≤ (k : Int) * L.length + z + L.length + 1) ∧
    (openU L c a st).1.length ≤ k + 1 := by
  obtain ⟨g1, g2, g3, g4, g5, g6, g7⟩ := h
  obtain ⟨hs, oh, last, tl⟩ := st
  simp only at g1 g2 g3 g4 g5 g6 g7
  have hn := fun tl' => newHk_sz L c a tl'
  have hk := eqF_near L c a ha hc h8
  have hnew : ∀ tl', -((k : Int) * L.length) - L.length ≤ tl' → tl' ≤ (k : Int) * L.length + z + L.length → (-10 : Int) ≤ (newHk L c a tl').fl ∧ (newHk L c a tl').fl ≤ L.length + 1 ∧ -((k : Int) * L.length) - L.length - L.length ≤ (newHk L c a tl').tl ∧ (newHk L c a tl').tl ≤ (k : Int) * L.length + z + L.length + 1 := by
    intro tl' h1 h2
    have := eqF_len L (a - c) a
    refine ⟨by show _ ≤ a + 1 - _; omega, by show a + 1 - _ ≤ _; omega, by show _ ≤ tl' + 1 - _; omega, by show tl' + 1 - _ ≤ _; omega⟩
  cases oh with
  | none =>
    simp only [openU]
    simp only [szO] at g1
    refine ⟨by have := hn (tl + (a - last)); omega, by omega, by omega, ?_, by omega⟩
    rintro h (h' | rfl)
    · have := g6 h (.inl h'); omega
    · exact hnew _ (by omega) (by omega)
  | some h =>
    simp only [szO] at g1
    by_cases h1 : a = last
    · simp only [openU, if_pos h1]
      refine ⟨by omega, by omega, by omega, ?_, by omega⟩
      rintro h' (hh | rfl)
      · have := g6 h' (.inl hh); omega
      · have := g6 h (.inr rfl); omega
    · by_cases h2 : a ≤ last + c * 2
      · simp only [openU, if_neg h1, if_pos h2]
        refine ⟨?_, by omega, by omega, ?_, by omega⟩
        · have := szK_eq L last a
          simp only [Hk.add, szK_append]
          omega
        · rintro h' (hh | rfl)
          · have := g6 h' (.inl hh); omega
          · have := g6 h (.inr rfl); simp only [Hk.add]; omega
      · simp only [openU, if_neg h1, if_neg h2]
        refine ⟨?_, by omega, by omega, ?_, by simp; omega⟩
        · have h3 := szK_eq L last (last + c)
          have h4 := hn (tl + (a - last))
          rw [szH_append]
          simp only [Hk.add, szK_append, szH]
          omega
        · rintro h' (hh | rfl)
          · rcases List.mem_append.1 hh with hh | hh
            · have := g6 h' (.inl hh); omega
            · rw [List.mem_singleton] at hh
              subst hh
              have := g6 h (.inr rfl); simp only [Hk.add]; omega
          · exact hnew _ (by omega) (by omega)
theorem stepU_good {s : ByteArray} {L : List ByteArray} {T k z : Nat} {st : Ust} {c : Int} {x : Ed} (hL : L = linesF s) (hT : totB L + 30 * L.length ≤ T) (hc : 0 ≤ c) (h8 : c ≤ 8) (h : UGood L T k z st) (h1 : 0 ≤ x.s) (h2 : x.s ≤ x.e) (h3 : x.e ≤ s.size) :
    UGood L T (k + 1) (z + x.n.size) (stepU s L c st x) := by
  obtain ⟨b1, b2, b3⟩ := upAB s x h1 h2 h3
  rw [← hL] at b3
  obtain ⟨o1, o2, o3, o4, o5⟩ := openU_good hT hc h8 h b1 (by omega)
  have i1 := szK_del L (upA s x) (upB s x)
  have i2 := szK_ins x.n
  have i3 := linesF_len x.n
  have m1 : (((k + 1 : Nat) : Int)) * L.length = (k : Int) * L.length + L.length := by rw [Int.natCast_add, Int.add_mul]; simp
  have m2 := mulT k (3 * T + 200)
  refine ⟨?_, by show 0 ≤ upB s x; omega, by show upB s x ≤ _; omega, ?_, ?_, ?_, ?_⟩
  · show szH (openU L c (upA s x) st).1 + (szK (((openU L c (upA s x) st).2.1.add (delF L (upA s x) (upB s x))).add (insF x.n)).ls + 200) ≤ _
    simp only [Hk.add, szK_append]
    omega
  · rw [m1]; show _ ≤ (openU L c (upA s x) st).2.2 + ((linesF x.n).length : Int); omega
  · rw [m1]; show (openU L c (upA s x) st).2.2 + ((linesF x.n).length : Int) ≤ _; omega
  · rintro h' hh
    rw [m1]
    rcases hh with hh | hh
    · have := o4 h' (.inl hh)
      omega
    · have hh : some (((openU L c (upA s x) st).2.1.add (delF L (upA s x) (upB s x))).add (insF x.n)) = some h' := hh
      injection hh with hh
      subst hh
      have := o4 _ (.inr rfl)
      simp only [Hk.add]
      omega
  · show (openU L c (upA s x) st).1.length ≤ k + 1
    exact o5
theorem UGood.zero (L : List ByteArray) (T : Nat) : UGood L T 0 0 ⟨[], none, 0, 0⟩ :=
  ⟨by simp [szH, szO], by simp, by simp, by simp, by simp, by simp, by simp⟩
theorem foldU_snoc (s : ByteArray) (L : List ByteArray) (c : Int) (es : List Ed) (k : Nat) (h : k < es.length) : foldU s L c (es.take (k + 1)) = stepU s L c (foldU s L c (es.take k)) (edAt es k) := by
  rw [take_snoc_ed es k h]
  simp [foldU]
theorem szN_take (es : List Ed) (k : Nat) (h : k < es.length) : (es.take (k + 1)).foldl (fun a x => a + x.n.size) 0 = (es.take k).foldl (fun a x => a + x.n.size) 0 + (edAt es k).n.size := by
  rw [take_snoc_ed es k h]
  simp
end Go.Proofs.YtgphjnhbheimiaaDoor
