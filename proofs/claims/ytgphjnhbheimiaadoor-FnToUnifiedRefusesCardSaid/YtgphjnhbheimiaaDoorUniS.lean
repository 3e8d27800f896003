/-
  The text of hunks, plainly, and its size. No program in sight. No condition.
-/
import Derived.Test.YtgphjnhbheimiaaDoorUniP
import Derived.Lib.ItoaLen
import Derived.Lib.Strings
namespace Go.Proofs.YtgphjnhbheimiaaDoor
set_option linter.unusedVariables false
open Go.Lib

/-- a number in decimals -/
def itoB (n : Int) : ByteArray := ⟨(Lib.itoa n).toArray⟩
theorem itoB_size (n : Int) (h0 : -9223372036854775808 ≤ n) (h1 : n ≤ 9223372036854775807) : (itoB n).size ≤ 21 := by
  have := itoa_length_le n h0 h1
  simpa [itoB, ByteArray.size] using this
/-- how many lines of a hunk are not of a kind -/
def cntK (b : Int) : KLs → Nat
  | [] => 0
  | x :: l => (if x.1 = b then 0 else 1) + cntK b l
theorem cntK_append (b : Int) (x y : KLs) : cntK b (x ++ y) = cntK b x + cntK b y := by
  induction x with
  | nil => simp [cntK]
  | cons a l ih => simp only [List.cons_append, cntK, ih]; omega
theorem cntK_le (b : Int) (l : KLs) : cntK b l ≤ l.length := by
  induction l with
  | nil => exact Nat.le_refl _
  | cons a l ih => simp only [cntK, List.length_cons]; split <;> omega
/-- where a hunk begins in a text and how many lines of it it tells: behind a sign -/
def rngS (sg : ByteArray) (fl : Int) (c : Nat) : ByteArray :=
  if 1 < c then ((sg ++ itoB fl) ++ ⟨#[44]⟩) ++ itoB c
  else if fl = 1 ∧ c = 0 then sg ++ ⟨#[48, 44, 48]⟩
  else sg ++ itoB fl
/-- does a line end as one? -/
def nlEnd (x : ByteArray) : Bool := Go.Lib.hasSuffix x.data.toList [10]
def noNl : ByteArray := ⟨#[10, 92, 32, 78, 111, 32, 110, 101, 119, 108, 105, 110, 101, 32, 97, 116, 32, 101, 110, 100, 32, 111, 102, 32, 102, 105, 108, 101, 10]⟩
def sgK (k : Int) : ByteArray := if k = 0 then ⟨#[45]⟩ else if k = 1 then ⟨#[43]⟩ else ⟨#[32]⟩
/-- one line's text -/
def lnS (x : Int × ByteArray) : ByteArray := if nlEnd x.2 then sgK x.1 ++ x.2 else (sgK x.1 ++ x.2) ++ noNl
def lnsS (l : KLs) : ByteArray := l.foldl (fun a x => a ++ lnS x) ⟨#[]⟩
/-- a hunk's head -/
def hdS (h : Hk) : ByteArray := ((⟨#[64, 64]⟩ ++ rngS ⟨#[32, 45]⟩ h.fl (cntK 1 h.ls)) ++ rngS ⟨#[32, 43]⟩ h.tl (cntK 0 h.ls)) ++ ⟨#[32, 64, 64, 10]⟩
/-- a hunk's text behind another -/
def hkS (T : ByteArray) (h : Hk) : ByteArray := h.ls.foldl (fun a x => a ++ lnS x) (T ++ hdS h)
def topS (f t : ByteArray) : ByteArray := ((⟨#[45, 45, 45, 32]⟩ ++ f) ++ ⟨#[10]⟩) ++ ((⟨#[43, 43, 43, 32]⟩ ++ t) ++ ⟨#[10]⟩)
/-- the unified form -/
def uniS (f t : ByteArray) (hs : List Hk) : ByteArray := if hs = [] then ⟨#[]⟩ else hs.foldl hkS (topS f t)

theorem rngS_size (sg : ByteArray) (fl : Int) (c : Nat) (h0 : -9223372036854775808 ≤ fl) (h1 : fl ≤ 9223372036854775807) (hc : c ≤ 9223372036854775807) : (rngS sg fl c).size ≤ sg.size + 50 := by
  have a := itoB_size fl h0 h1
  have b := itoB_size c (by omega) (by omega)
  have e2 : (⟨#[44]⟩ : ByteArray).size = 1 := rfl
  have e3 : (⟨#[48, 44, 48]⟩ : ByteArray).size = 3 := rfl
  unfold rngS
  split
  · simp only [ByteArray.size_append, e2]; omega
  · split
    · simp only [ByteArray.size_append, e3]; omega
    · simp only [ByteArray.size_append]; omega
theorem sgK_size (k : Int) : (sgK k).size = 1 := by
  unfold sgK
  split
  · rfl
  · split <;> rfl
theorem lnS_size (x : Int × ByteArray) : (lnS x).size ≤ x.2.size + 30 := by
  have e : noNl.size = 29 := rfl
  have := sgK_size x.1
  unfold lnS
  split
  · simp only [ByteArray.size_append]; omega
  · simp only [ByteArray.size_append, e]; omega
theorem fold_size (l : KLs) (T : ByteArray) : (l.foldl (fun a x => a ++ lnS x) T).size ≤ T.size + szK l := by
  induction l generalizing T with
  | nil => exact Nat.le_refl _
  | cons x l ih =>
    have h1 := ih (T ++ lnS x)
    have h2 := lnS_size x
    rw [ByteArray.size_append] at h1
    simp only [List.foldl_cons, szK]
    omega
/-- the numbers of a hunk are numbers of Go -/
def HkOk (h : Hk) : Prop := -9223372036854775000 ≤ h.fl ∧ h.fl ≤ 9223372036854775000 ∧ -9223372036854775000 ≤ h.tl ∧ h.tl ≤ 9223372036854775000 ∧ h.ls.length ≤ 9000000000000
theorem hdS_size (h : Hk) (ho : HkOk h) : (hdS h).size ≤ 200 := by
  obtain ⟨a, b, c, d, e⟩ := ho
  have h1 := cntK_le 1 h.ls
  have h2 := cntK_le 0 h.ls
  have r1 := rngS_size ⟨#[32, 45]⟩ h.fl (cntK 1 h.ls) (by omega) (by omega) (by omega)
  have r2 := rngS_size ⟨#[32, 43]⟩ h.tl (cntK 0 h.ls) (by omega) (by omega) (by omega)
  have e1 : (⟨#[32, 45]⟩ : ByteArray).size = 2 := rfl
  have e2 : (⟨#[32, 43]⟩ : ByteArray).size = 2 := rfl
  have e3 : (⟨#[64, 64]⟩ : ByteArray).size = 2 := rfl
  have e4 : (⟨#[32, 64, 64, 10]⟩ : ByteArray).size = 4 := rfl
  unfold hdS
  rw [e1] at r1
  rw [e2] at r2
  simp only [ByteArray.size_append, e3, e4]
  omega
theorem hkS_size (T : ByteArray) (h : Hk) (ho : HkOk h) : (hkS T h).size ≤ T.size + (szK h.ls + 200) := by
  have h1 := fold_size h.ls (T ++ hdS h)
  have h2 := hdS_size h ho
  rw [ByteArray.size_append] at h1
  unfold hkS
  omega
theorem hksS_size (hs : List Hk) (T : ByteArray) (ho : ∀ h ∈ hs, HkOk h) : (hs.foldl hkS T).size ≤ T.size + szH hs := by
  induction hs generalizing T with
  | nil => exact Nat.le_refl _
  | cons h l ih =>
    have h1 := ih (hkS T h) (fun x hx => ho x (List.mem_cons_of_mem _ hx))
    have h2 := hkS_size T h (ho h (List.mem_cons_self))
    simp only [List.foldl_cons, szH]
    omega
theorem topS_size (f t : ByteArray) : (topS f t).size = f.size + t.size + 10 := by
  have e1 : (⟨#[45, 45, 45, 32]⟩ : ByteArray).size = 4 := rfl
  have e2 : (⟨#[43, 43, 43, 32]⟩ : ByteArray).size = 4 := rfl
  have e3 : (⟨#[10]⟩ : ByteArray).size = 1 := rfl
  simp only [topS, ByteArray.size_append, e1, e2, e3]
  omega
theorem foldS_ge (l : KLs) (T : ByteArray) : T.size ≤ (l.foldl (fun a x => a ++ lnS x) T).size := by
  induction l generalizing T with
  | nil => exact Nat.le_refl _
  | cons x l ih =>
    have h1 := ih (T ++ lnS x)
    rw [ByteArray.size_append] at h1
    simp only [List.foldl_cons]
    omega
theorem hksS_ge (hs : List Hk) (T : ByteArray) : T.size ≤ (hs.foldl hkS T).size := by
  induction hs generalizing T with
  | nil => exact Nat.le_refl _
  | cons h l ih =>
    have h1 := ih (hkS T h)
    have h2 := foldS_ge h.ls (T ++ hdS h)
    rw [ByteArray.size_append] at h2
    simp only [List.foldl_cons]
    unfold hkS at *
    omega
theorem uniS_empty (f t : ByteArray) (hs : List Hk) : uniS f t hs = ⟨#[]⟩ ↔ hs = [] := by
  constructor
  · intro h
    by_cases h1 : hs = []
    · exact h1
    · exfalso
      unfold uniS at h
      rw [if_neg h1] at h
      have h2 := hksS_ge hs (topS f t)
      rw [h, topS_size] at h2
      have : (⟨#[]⟩ : ByteArray).size = 0 := rfl
      omega
  · intro h
    unfold uniS
    rw [if_pos h]
/-- lines told so far -/
theorem cntK_take (b : Int) (l : KLs) (k : Nat) (h : k < l.length) : cntK b (l.take (k + 1)) = cntK b (l.take k) + (if (l.getD k (0, ⟨#[]⟩)).1 = b then 0 else 1) := by
  rw [List.take_succ_eq_append_getElem h, cntK_append]
  simp [cntK, h]
theorem fold_take (l : KLs) (T : ByteArray) (k : Nat) (h : k < l.length) : (l.take (k + 1)).foldl (fun a x => a ++ lnS x) T = (l.take k).foldl (fun a x => a ++ lnS x) T ++ lnS (l.getD k (0, ⟨#[]⟩)) := by
  rw [List.take_succ_eq_append_getElem h, List.foldl_append]
  simp [h]
theorem hks_take (hs : List Hk) (T : ByteArray) (k : Nat) (h : k < hs.length) : (hs.take (k + 1)).foldl hkS T = hkS ((hs.take k).foldl hkS T) (hs.getD k ⟨0, 0, []⟩) := by
  rw [List.take_succ_eq_append_getElem h, List.foldl_append]
  simp [h]
theorem szH_take (hs : List Hk) (k : Nat) : szH (hs.take k) ≤ szH hs := by
  have := szH_append (hs.take k) (hs.drop k)
  rw [List.take_append_drop] at this
  omega
theorem szK_take (l : KLs) (k : Nat) : szK (l.take k) ≤ szK l := by
  have := szK_append (l.take k) (l.drop k)
  rw [List.take_append_drop] at this
  omega
theorem szH_at (hs : List Hk) (k : Nat) (h : k < hs.length) : szH (hs.take k) + (szK (hs.getD k ⟨0, 0, []⟩).ls + 200) ≤ szH hs := by
  have h1 := szH_take hs (k + 1)
  rw [List.take_succ_eq_append_getElem h, szH_append] at h1
  simp only [szH] at h1
  simp only [List.getD_eq_getElem?_getD, List.getElem?_eq_getElem h, Option.getD_some]
  omega
end Go.Proofs.YtgphjnhbheimiaaDoor
