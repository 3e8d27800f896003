/-
  The text of hunks, plainly, and its size. No program in sight. No condition.
  The contracts of strings.Builder, strconv.Itoa and strings.HasSuffix at this program: the builder's write laid by hand. Condition: a text of at most 140737488355328 bytes.
  The walk of (unified).String: the text of hunks. Condition: at most 140737488355328 bytes.
-/
import Derived.Test.YtgphjnhbheimiaaGreatDoorLiB
import Derived.Lib.ItoaLen
import Derived.Lib.Strings
import Derived.Test.YtgphjnhbheimiaaGreatDoorLayU
import Derived.Shelf.Strings.BuilderK
import Derived.Lib.SmallJoins
import Derived.Deep.DeepCutAuto
import Derived.Deep.LoopGhost
import Derived.Deep.CutBlock
namespace Go.Proofs.YtgphjnhbheimiaaGreatDoor
set_option linter.unusedVariables false
open Go.Lib

/-- a number in decimals -/
def itoB (n : Int) : ByteArray := ⟨(Lib.itoa n).toArray⟩
theorem itoB_size (n : Int) (h0 : -9223372036854775808 ≤ n) (h1 : n ≤ 9223372036854775807) : (itoB n).size ≤ 21 := by
  have := itoa_length_le n h0 h1
  simpa [itoB, ByteArray.size] using this
/-- how many lines of a hunk are not of a kind -/
def cntK (b : Int) : KLs → Nat
  | [] => 0
  | x :: l => (if x.1 = b then 0 else 1) + cntK b l
theorem cntK_append (b : Int) (x y : KLs) : cntK b (x ++ y) = cntK b x + cntK b y := by
  induction x with
  | nil => simp [cntK]
  | cons a l ih => simp only [List.cons_append, cntK, ih]; omega
theorem cntK_le (b : Int) (l : KLs) : cntK b l ≤ l.length := by
  induction l with
  | nil => exact Nat.le_refl _
  | cons a l ih => simp only [cntK, List.length_cons]; split <;> omega
/-- where a hunk begins in a text and how many lines of it it tells: behind a sign -/
def rngS (sg : ByteArray) (fl : Int) (c : Nat) : ByteArray :=
  if 1 < c then ((sg ++ itoB fl) ++ ⟨#[44]⟩) ++ itoB c
  else if fl = 1 ∧ c = 0 then sg ++ ⟨#[48, 44, 48]⟩
  else sg ++ itoB fl
/-- does a line end as one? -/
def nlEnd (x : ByteArray) : Bool := Go.Lib.hasSuffix x.data.toList [10]
def noNl : ByteArray := ⟨#[10, 92, 32, 78, 111, 32, 110, 101, 119, 108, 105, 110, 101, 32, 97, 116, 32, 101, 110, 100, 32, 111, 102, 32, 102, 105, 108, 101, 10]⟩
def sgK (k : Int) : ByteArray := if k = 0 then ⟨#[45]⟩ else if k = 1 then ⟨#[43]⟩ else ⟨#[32]⟩
/-- one line's text -/
def lnS (x : Int × ByteArray) : ByteArray := if nlEnd x.2 then sgK x.1 ++ x.2 else (sgK x.1 ++ x.2) ++ noNl
def lnsS (l : KLs) : ByteArray := l.foldl (fun a x => a ++ lnS x) ⟨#[]⟩
/-- a hunk's head -/
def hdS (h : Hk) : ByteArray := ((⟨#[64, 64]⟩ ++ rngS ⟨#[32, 45]⟩ h.fl (cntK 1 h.ls)) ++ rngS ⟨#[32, 43]⟩ h.tl (cntK 0 h.ls)) ++ ⟨#[32, 64, 64, 10]⟩
/-- a hunk's text behind another -/
def hkS (T : ByteArray) (h : Hk) : ByteArray := h.ls.foldl (fun a x => a ++ lnS x) (T ++ hdS h)
def topS (f t : ByteArray) : ByteArray := ((⟨#[45, 45, 45, 32]⟩ ++ f) ++ ⟨#[10]⟩) ++ ((⟨#[43, 43, 43, 32]⟩ ++ t) ++ ⟨#[10]⟩)
/-- the unified form -/
def uniS (f t : ByteArray) (hs : List Hk) : ByteArray := if hs = [] then ⟨#[]⟩ else hs.foldl hkS (topS f t)

theorem rngS_size (sg : ByteArray) (fl : Int) (c : Nat) (h0 : -9223372036854775808 ≤ fl) (h1 : fl ≤ 9223372036854775807) (hc : c ≤ 9223372036854775807) : (rngS sg fl c).size ≤ sg.size + 50 := by
  have a := itoB_size fl h0 h1
  have b := itoB_size c (by omega) (by omega)
  have e2 : (⟨#[44]⟩ : ByteArray).size = 1 := rfl
  have e3 : (⟨#[48, 44, 48]⟩ : ByteArray).size = 3 := rfl
  unfold rngS
  split
  · simp only [ByteArray.size_append, e2]; omega
  · split
    · simp only [ByteArray.size_append, e3]; omega
    · simp only [ByteArray.size_append]; omega
theorem sgK_size (k : Int) : (sgK k).size = 1 := by
  unfold sgK
  split
  · rfl
  · split <;> rfl
theorem lnS_size (x : Int × ByteArray) : (lnS x).size ≤ x.2.size + 30 := by
  have e : noNl.size = 29 := rfl
  have := sgK_size x.1
  unfold lnS
  split
  · simp only [ByteArray.size_append]; omega
  · simp only [ByteArray.size_append, e]; omega
theorem fold_size (l : KLs) (T : ByteArray) : (l.foldl (fun a x => a ++ lnS x) T).size ≤ T.size + szK l := by
  induction l generalizing T with
  | nil => exact Nat.le_refl _
  | cons x l ih =>
    have h1 := ih (T ++ lnS x)
    have h2 := lnS_size x
    rw [ByteArray.size_append] at h1
    simp only [List.foldl_cons, szK]
    omega
/-- the numbers of a hunk are numbers of Go -/
def HkOk (h : Hk) : Prop := -9223372036854775000 ≤ h.fl ∧ h.fl ≤ 9223372036854775000 ∧ -9223372036854775000 ≤ h.tl ∧ h.tl ≤ 9223372036854775000 ∧ h.ls.length ≤ 9000000000000
theorem hdS_size (h : Hk) (ho : HkOk h) : (hdS h).size ≤ 200 := by
  obtain ⟨a, b, c, d, e⟩ := ho
  have h1 := cntK_le 1 h.ls
  have h2 := cntK_le 0 h.ls
  have r1 := rngS_size ⟨#[32, 45]⟩ h.fl (cntK 1 h.ls) (by omega) (by omega) (by omega)
  have r2 := rngS_size ⟨#[32, 43]⟩ h.tl (cntK 0 h.ls) (by omega) (by omega) (by omega)
  have e1 : (⟨#[32, 45]⟩ : ByteArray).size = 2 := rfl
  have e2 : (⟨#[32, 43]⟩ : ByteArray).size = 2 := rfl
  have e3 : (⟨#[64, 64]⟩ : ByteArray).size = 2 := rfl
  have e4 : (⟨#[32, 64, 64, 10]⟩ : ByteArray).size = 4 := rfl
  unfold hdS
  rw [e1] at r1
  rw [e2] at r2
  simp only [ByteArray.size_append, e3, e4]
  omega
theorem hkS_size (T : ByteArray) (h : Hk) (ho : HkOk h) : (hkS T h).size ≤ T.size + (szK h.ls + 200) := by
  have h1 := fold_size h.ls (T ++ hdS h)
  have h2 := hdS_size h ho
  rw [ByteArray.size_append] at h1
  unfold hkS
  omega
theorem hksS_size (hs : List Hk) (T : ByteArray) (ho : ∀ h ∈ hs, HkOk h) : (hs.foldl hkS T).size ≤ T.size + szH hs := by
  induction hs generalizing T with
  | nil => exact Nat.le_refl _
  | cons h l ih =>
    have h1 := ih (hkS T h) (fun x hx => ho x (List.mem_cons_of_mem _ hx))
    have h2 := hkS_size T h (ho h (List.mem_cons_self))
    simp only [List.foldl_cons, szH]
    omega
theorem topS_size (f t : ByteArray) : (topS f t).size = f.size + t.size + 10 := by
  have e1 : (⟨#[45, 45, 45, 32]⟩ : ByteArray).size = 4 := rfl
  have e2 : (⟨#[43, 43, 43, 32]⟩ : ByteArray).size = 4 := rfl
  have e3 : (⟨#[10]⟩ : ByteArray).size = 1 := rfl
  simp only [topS, ByteArray.size_append, e1, e2, e3]
  omega
theorem foldS_ge (l : KLs) (T : ByteArray) : T.size ≤ (l.foldl (fun a x => a ++ lnS x) T).size := by
  induction l generalizing T with
  | nil => exact Nat.le_refl _
  | cons x l ih =>
    have h1 := ih (T ++ lnS x)
    rw [ByteArray.size_append] at h1
    simp only [List.foldl_cons]
    omega
theorem hksS_ge (hs : List Hk) (T : ByteArray) : T.size ≤ (hs.foldl hkS T).size := by
  induction hs generalizing T with
  | nil => exact Nat.le_refl _
  | cons h l ih =>
    have h1 := ih (hkS T h)
    have h2 := foldS_ge h.ls (T ++ hdS h)
    rw [ByteArray.size_append] at h2
    simp only [List.foldl_cons]
    unfold hkS at *
    omega
theorem uniS_empty (f t : ByteArray) (hs : List Hk) : uniS f t hs = ⟨#[]⟩ ↔ hs = [] := by
  constructor
  · intro h
    by_cases h1 : hs = []
    · exact h1
    · exfalso
      unfold uniS at h
      rw [if_neg h1] at h
      have h2 := hksS_ge hs (topS f t)
      rw [h, topS_size] at h2
      have : (⟨#[]⟩ : ByteArray).size = 0 := rfl
      omega
  · intro h
    unfold uniS
    rw [if_pos h]
/-- lines told so far -/
theorem cntK_take (b : Int) (l : KLs) (k : Nat) (h : k < l.length) : cntK b (l.take (k + 1)) = cntK b (l.take k) + (if (l.getD k (0, ⟨#[]⟩)).1 = b then 0 else 1) := by
  rw [List.take_succ_eq_append_getElem h, cntK_append]
  simp [cntK, h]
theorem fold_take (l : KLs) (T : ByteArray) (k : Nat) (h : k < l.length) : (l.take (k + 1)).foldl (fun a x => a ++ lnS x) T = (l.take k).foldl (fun a x => a ++ lnS x) T ++ lnS (l.getD k (0, ⟨#[]⟩)) := by
  rw [List.take_succ_eq_append_getElem h, List.foldl_append]
  simp [h]
theorem hks_take (hs : List Hk) (T : ByteArray) (k : Nat) (h : k < hs.length) : (hs.take (k + 1)).foldl hkS T = hkS ((hs.take k).foldl hkS T) (hs.getD k ⟨0, 0, []⟩) := by
  rw [List.take_succ_eq_append_getElem h, List.foldl_append]
  simp [h]
theorem szH_take (hs : List Hk) (k : Nat) : szH (hs.take k) ≤ szH hs := by
  have := szH_append (hs.take k) (hs.drop k)
  rw [List.take_append_drop] at this
  omega
theorem szK_take (l : KLs) (k : Nat) : szK (l.take k) ≤ szK l := by
  have := szK_append (l.take k) (l.drop k)
  rw [List.take_append_drop] at this
  omega
theorem szH_at (hs : List Hk) (k : Nat) (h : k < hs.length) : szH (hs.take k) + (szK (hs.getD k ⟨0, 0, []⟩).ls + 200) ≤ szH hs := by
  have h1 := szH_take hs (k + 1)
  rw [List.take_succ_eq_append_getElem h, szH_append] at h1
  simp only [szH] at h1
  simp only [List.getD_eq_getElem?_getD, List.getElem?_eq_getElem h, Option.getD_some]
  omega
end Go.Proofs.YtgphjnhbheimiaaGreatDoor

namespace Go.Proofs
set_option linter.unusedVariables false
open Go.Shelf Go.RowKit
def Tryz.bw_ren : Go.Shelf.Ren := ⟨fun | 166 => 23 | 240 => 32 | 276 => 45 | n => n, fun | 0 => 0 | 3 => 3 | 4 => 4 | 9 => 9 | 20 => 20 | 37 => 68 | 70 => 67 | 72 => 70 | 75 => 32 | 164 => 96 | 80 => 44 | 5 => 5 | n => n, fun | n => n⟩
theorem Tryz.bw : Go.Proofs.Lays.n166 Tryz.prog Tryz.bw_ren := {
  mixed := by kernel_rfl
  f166 := Tryz.func23.trans (congrArg some (by kernel_rfl))
  f240 := Tryz.func32.trans (congrArg some (by kernel_rfl))
  f276 := Tryz.func45.trans (congrArg some (by kernel_rfl))
  t0 := Tryz.underlying0
  a0 := Tryz.isAgg0
  z0 := Tryz.sizeOf0
  v0 := Tryz.zeroValue0
  t3 := Tryz.underlying3
  a3 := Tryz.isAgg3
  z3 := Tryz.sizeOf3
  v3 := Tryz.zeroValue3
  t4 := Tryz.underlying4
  a4 := Tryz.isAgg4
  z4 := Tryz.sizeOf4
  v4 := Tryz.zeroValue4
  t9 := Tryz.underlying9
  a9 := Tryz.isAgg9
  z9 := Tryz.sizeOf9
  v9 := Tryz.zeroValue9
  t20 := Tryz.underlying20
  a20 := Tryz.isAgg20
  z20 := Tryz.sizeOf20
  v20 := Tryz.zeroValue20
  t37 := Tryz.underlying68
  a37 := Tryz.isAgg68
  z37 := Tryz.sizeOf68
  v37 := Tryz.zeroValue68
  t70 := Tryz.underlying67
  a70 := Tryz.isAgg67
  z70 := Tryz.sizeOf67
  v70 := Tryz.zeroValue67
  t72 := Tryz.underlying70
  a72 := Tryz.isAgg70
  z72 := Tryz.sizeOf70
  v72 := Tryz.zeroValue70
  t75 := Tryz.underlying32
  a75 := Tryz.isAgg32
  z75 := Tryz.sizeOf32
  v75 := Tryz.zeroValue32
  t164 := Tryz.underlying96
  a164 := Tryz.isAgg96
  z164 := Tryz.sizeOf96
  v164 := Tryz.zeroValue96 }
theorem Tryz.bX : Builder.Extra Tryz.prog Tryz.bw_ren where
  sizeBuilder := by kernel_rfl
  liesBuilder := by kernel_rfl
  t5 := Tryz.underlying5
  a5 := Tryz.isAgg5
  z5 := Tryz.sizeOf5
  v5 := Tryz.zeroValue5
  infoByte := by kernel_rfl
  cellsByte := by kernel_rfl
  sizeByte := by kernel_rfl
  neB5 := by decide
theorem Tryz.bY : Builder.Extra Tryz.prog Tryz.bs_ren where
  sizeBuilder := by kernel_rfl
  liesBuilder := by kernel_rfl
  t5 := Tryz.underlying5
  a5 := Tryz.isAgg5
  z5 := Tryz.sizeOf5
  v5 := Tryz.zeroValue5
  infoByte := by kernel_rfl
  cellsByte := by kernel_rfl
  sizeByte := by kernel_rfl
  neB5 := by decide
end Go.Proofs
namespace Go.Proofs.YtgphjnhbheimiaaGreatDoor
set_option linter.unusedVariables false
open Go.Shelf Go.RowKit
/-- a builder that holds a text -/
def Bd (B b : Nat) (T : ByteArray) (w : World) : Prop := Lib.IsBuilderF 70 5 B b (Lib.strCells T) w
theorem strCells_appU (a b : ByteArray) : Lib.strCells (a ++ b) = Lib.strCells a ++ Lib.strCells b := by
  simp [Lib.strCells, ByteArray.data_append]
theorem Bd.new (w : World) : Bd w.heap.size w.heap.size ⟨#[]⟩ (w.alloc (.cells #[.pointer none, .slice none 0 0] 70)) :=
  Lib.IsBuilderF.of (.inl ⟨Nat.le_refl _, _, Blk.new w _ _, ⟨by simp [Lib.strCells], .inl ⟨rfl, by simp [Lib.strCells]⟩⟩, by simp [Value.ownBlock]⟩)
theorem bdAt_below {p : Value} {bs : List Value} {B b : Nat} {w w' : World} (h : Lib.BuilderAtF 70 5 B b p bs w) (hb : Below w.heap.size w w') : Lib.BuilderAtF 70 5 B b p bs w' := by
  have hlt := h.lt
  obtain ⟨hB, v, hbk, hown, hne⟩ := h
  refine ⟨hB, v, (hb.block b hlt).trans hbk, ⟨hown.1, ?_⟩, hne⟩
  rcases hown.2 with h1 | ⟨g, cap, cur, fz, h1, h2, h3, h4⟩
  · exact .inl h1
  · refine .inr ⟨g, cap, cur, fz, h1, h2, (hb.block g ?_).trans h3, h4⟩
    rcases Nat.lt_or_ge g w.heap.size with h5 | h5
    · exact h5
    · rw [Array.getElem?_eq_none h5] at h3; cases h3
theorem Bd.below {B b : Nat} {T : ByteArray} {w w' : World} (h : Bd B b T w) (hb : Below w.heap.size w w') : Bd B b T w' :=
  h.elim (fun x => .inl (bdAt_below x hb)) (fun x => .inr (bdAt_below x hb))
theorem Bd.lt {B b : Nat} {T : ByteArray} {w : World} (h : Bd B b T w) : b < w.heap.size := h.elim (fun x => x.lt) (fun x => x.lt)
theorem write_any (B b : Nat) (T s T' : ByteArray) (w : World) (h : Bd B b T w) (hT : T ++ s = T') (hlen : T'.size ≤ 140737488355328) (hB : B ≤ w.heap.size) :
    Calls Tryz.prog 23 #[.pointer (some ⟨b, 0, none⟩), .string s] w fun e w' => e = .returned (.tuple #[.int .i64 s.size, .nilIface]) ∧ Bd B b T' w' ∧ Below B w w' ∧ Lib.OthersKept 5 (some b) w w' := by
  subst hT
  rw [ByteArray.size_append] at hlen
  refine (Any.Builder_WriteString_k Tryz.bw Tryz.bX B b (Lib.strCells T) s w h (by rw [Lib.strCells_length]; exact hlen) hB).mono ?_
  rintro e w' ⟨h1, h2, h3, h4⟩
  exact ⟨h1, by unfold Bd; rw [strCells_appU]; exact .inr h2, h3, h4⟩
/-- a block of another kind stands behind a write -/
theorem kept_blk {b g t : Nat} {cs : Array Value} {w w' : World} (h : Lib.OthersKept 5 (some b) w w') (hb : Blk w g t cs) (hn : g ≠ b) (ht : t ≠ 5) : Blk w' g t cs :=
  h g _ hb (fun e => hn (by injection e)) (fun c fz e => by injection e with _ e; exact ht e)
theorem bstring_any (B b : Nat) (T : ByteArray) (w : World) (h : Bd B b T w) (h0 : T.size ≠ 0) :
    Calls Tryz.prog 26 #[.pointer (some ⟨b, 0, none⟩)] w fun e w' => e = .returned (.string T) ∧ Below B w w' := by
  have e1 : (⟨T.data.toList.toArray⟩ : ByteArray) = T := by simp
  have h2 := Any.Builder_String_f Tryz.bs Tryz.bY B b T.data.toList w h (fun hh => h0 (by
    have := congrArg List.length hh
    simpa using this))
  rw [e1] at h2
  exact h2.mono fun e w' h => ⟨h.1, h.2.2⟩
/-- the table of powers of ten -/
def TabP (w : World) : Prop := Lib.TabIs Tryz.prog w "internal/strconv.uint64pow10" .u64 Lib.pow10Tab
theorem TabP.below {B : Nat} {w w' : World} (h : TabP w) (hb : Below B w w') (hB : w.heap.size ≤ B) : TabP w' := by
  unfold TabP Lib.TabIs World.var? at *
  cases hg : Tryz.prog.globalNamed "internal/strconv.uint64pow10" with
  | none => rw [hg] at h; exact h
  | some g =>
    rw [hg] at h
    simp only [Option.bind_some] at h ⊢
    rcases Nat.lt_or_ge g w.heap.size with h1 | h1
    · rw [hb.block g (by omega)]; exact h
    · rw [Array.getElem?_eq_none h1] at h; cases h
theorem itoa_any (n : Int) (w : World) (h0 : -9223372036854775808 ≤ n) (h1 : n ≤ 9223372036854775807) (htab : TabP w) :
    Calls Tryz.prog 24 #[.int .i64 n] w fun e w' => e = .returned (.string (itoB n)) ∧ Below w.heap.size w w' := by
  refine (Any.strconv_Itoa Tryz.ia n h0 h1 w htab).mono ?_
  rintro e w' ⟨he, k, os, rfl⟩
  refine ⟨he, ⟨rfl, rfl, rfl, ?_, fun g hg => ?_⟩⟩
  · show w.heap.size ≤ (w.heap ++ os).size
    rw [Array.size_append]; omega
  · show (w.heap ++ os)[g]? = w.heap[g]?
    rw [Array.getElem?_append_left hg]
theorem hasSuf_any (s : ByteArray) (w : World) (hs : s.size ≤ 9223372036854775807) :
    Calls Tryz.prog 25 #[.string s, .string ⟨#[10]⟩] w fun e w' => e = .returned (.bool (nlEnd s)) ∧ w' = w := Any.strings_HasSuffix Tryz.hx s ⟨#[10]⟩ w hs
end Go.Proofs.YtgphjnhbheimiaaGreatDoor

namespace Go.Proofs.YtgphjnhbheimiaaGreatDoor
set_option linter.unusedVariables false
open Go.RowKit

theorem ba_nil_app (x : ByteArray) : (⟨#[]⟩ : ByteArray) ++ x = x := ByteArray.ext (by simp [ByteArray.data_append])
theorem ba_assoc (a b c : ByteArray) : a ++ b ++ c = a ++ (b ++ c) := ByteArray.ext (by simp [ByteArray.data_append])
theorem rngZ (c : UInt8) : (⟨#[32, c]⟩ : ByteArray) ++ ⟨#[48, 44, 48]⟩ = ⟨#[32, c, 48, 44, 48]⟩ := ByteArray.ext (by simp [ByteArray.data_append])
/-- an edge of the walk: a builder that holds a text, all below as it was -/
def UW (b : Nat) (W0 : World) (T : ByteArray) (w : World) : Prop := Bd b b T w ∧ Below b W0 w
theorem UW.below {b : Nat} {W0 w w' : World} {T : ByteArray} (h : UW b W0 T w) (hb : Below w.heap.size w w') : UW b W0 T w' := ⟨h.1.below hb, h.2.trans (hb.mono (by have := h.1.lt; omega))⟩
theorem UW.write {b : Nat} {W0 w : World} {T : ByteArray} (h : UW b W0 T w) (s T' : ByteArray) (hT : T ++ s = T') (hlen : T'.size ≤ 140737488355328) :
    Calls Tryz.prog 23 #[.pointer (some ⟨b, 0, none⟩), .string s] w fun e w' => e = .returned (.tuple #[.int .i64 s.size, .nilIface]) ∧ UW b W0 T' w' ∧ Lib.OthersKept 5 (some b) w w' :=
  (write_any b b T s T' w h.1 hT hlen (by have := h.1.lt; omega)).mono fun e w' ⟨h1, h2, h3, h4⟩ => ⟨h1, ⟨h2, h.2.trans h3⟩, h4⟩
theorem szK_get (l : KLs) (k : Nat) (h : k < l.length) : (l.getD k (0, ⟨#[]⟩)).2.size + 30 ≤ szK l := by
  have h1 := szK_append (l.take k) (l.drop k)
  rw [List.take_append_drop, List.drop_eq_getElem_cons h] at h1
  simp only [szK] at h1
  simp only [List.getD_eq_getElem?_getD, List.getElem?_eq_getElem h, Option.getD_some]
  omega

set_option maxRecDepth 100000 in
set_option maxHeartbeats 4000000 in
theorem ustring_any (f t : ByteArray) (hs : List Hk) (A : Option Addr) (c : Nat) (w : World) (hr : HksR w A hs) (hz : f.size + t.size + 10 + szH hs ≤ 140737488355328) (hn : hs.length ≤ 1000001) (hok : ∀ h ∈ hs, HkOk h) (hT : TabP w) :
    Calls Tryz.prog 16 #[.agg #[.string f, .string t, .slice A hs.length c]] w fun e w' => e = .returned (.string (uniS f t hs)) ∧ Below w.heap.size w w' := by
  by_cases hes : hs = []
  · subst hes
    clear hr hz hn hok hT
    go_enter Tryz.func16, Tryz.ntmps16
    go_wp2
    go_ret
    exact ⟨rfl, (Below.refl _ _).alloc (Nat.le_refl _) _⟩
  · obtain ⟨n, hn0⟩ : ∃ n, hs.length = n := ⟨_, rfl⟩
    have hpos : ¬ n = 0 := fun h => hes (List.eq_nil_of_length_eq_zero (hn0.trans h))
    have huni : uniS f t hs = hs.foldl hkS (topS f t) := by unfold uniS; rw [if_neg hes]
    have htop := topS_size f t
    have hall : (hs.take n).foldl hkS (topS f t) = hs.foldl hkS (topS f t) := by rw [← hn0, List.take_length]
    have hge := hksS_ge hs (topS f t)
    have htk := fun k (h : k < hs.length) => hks_take hs (topS f t) k h
    have hsz := fun k => hksS_size (hs.take k) (topS f t) (fun h hh => hok h (List.mem_of_mem_take hh))
    have hat := fun k (h : k < hs.length) => szH_at hs k h
    have hoke := fun k (h : k < hs.length) => hok (hs.getD k ⟨0, 0, []⟩) (by rw [List.getD_eq_getElem?_getD, List.getElem?_eq_getElem h]; exact List.getElem_mem h)
    have hszn := hsz n
    rw [hall] at hszn
    have hszt : szH (hs.take n) ≤ szH hs := szH_take hs n
    have hffz : (hs.foldl hkS (topS f t)).size ≤ 140737488355328 := by omega
    clear hszn hszt hsz
    have hsz := fun k => hksS_size (hs.take k) (topS f t) (fun h hh => hok h (List.mem_of_mem_take hh))
    have HR := Lib.hid hr; have HT := Lib.hid hT; have HN := Lib.hid hn0; have HUNI := Lib.hid huni; have HTK := Lib.hid htk; have HSZ := Lib.hid hsz; have HAT := Lib.hid hat; have HOKE := Lib.hid hoke; have HALL := Lib.hid hall
    have htd : topS f t = ((⟨#[45, 45, 45, 32]⟩ ++ f) ++ ⟨#[10]⟩) ++ ((⟨#[43, 43, 43, 32]⟩ ++ t) ++ ⟨#[10]⟩) := rfl
    have HTD := Lib.hid htd
    rw [hn0] at hn ⊢
    clear hr hT hn0 huni htk hsz hat hoke hall hok hes htd
    obtain ⟨Z, hZ⟩ : ∃ Z, szH hs = Z := ⟨_, rfl⟩
    obtain ⟨TT, hTT⟩ : ∃ TT, topS f t = TT := ⟨_, rfl⟩
    rw [hZ] at hz HAT
    rw [hTT] at htop hge HTK HSZ HTD HALL HUNI hffz
    generalize hFF : hs.foldl hkS TT = FF at *
    have e0 : ((n : Int) == 0) = false := by simp; omega
    have p1 : (⟨#[45, 45, 45, 32]⟩ : ByteArray).size = 4 := rfl
    have p2 : (⟨#[43, 43, 43, 32]⟩ : ByteArray).size = 4 := rfl
    have p3 : (⟨#[10]⟩ : ByteArray).size = 1 := rfl
    clear hFF hTT hZ
    go_enter Tryz.func16, Tryz.ntmps16
    go_wp2_with fail
    have hbd := Bd.new (w.alloc (.cells #[.string f, .string t, .slice A n c] 41))
    have hU0 := (Blk.new w 41 #[.string f, .string t, .slice A n c]).alloc (.cells #[.pointer none, .slice none 0 0] 70)
    have hw0 := ((Below.refl w.heap.size w).alloc (Nat.le_refl _) (.cells #[.string f, .string t, .slice A n c] 41)).alloc (by simp) (.cells #[.pointer none, .slice none 0 0] 70)
    rw [World.size_alloc] at hbd
    generalize (w.alloc (.cells #[.string f, .string t, .slice A n c] 41)).alloc (.cells #[.pointer none, .slice none 0 0] 70) = W0 at *
    obtain ⟨ub, hub⟩ : ∃ ub, w.heap.size = ub := ⟨_, rfl⟩
    rw [hub] at hbd hU0 hw0 ⊢
    obtain ⟨b, hb⟩ : ∃ b, ub + 1 = b := ⟨_, rfl⟩
    rw [hb] at hbd ⊢
    have hW : UW b W0 ⟨#[]⟩ W0 := ⟨hbd, Below.refl _ _⟩
    have hbl := hbd.lt
    have hcell : ∀ W, Below b W0 W → W.cell? ⟨ub, 0, none⟩ = some (.string f) ∧ W.cell? ⟨ub, 1, none⟩ = some (.string t) ∧ W.cell? ⟨ub, 2, none⟩ = some (.slice A n c) := fun W h => by
      have := hU0.below h (by omega)
      exact ⟨this.cell 0, this.cell 1, this.cell 2⟩
    have hww : ∀ W, Below b W0 W → Below w.heap.size w W := fun W h => by rw [hub]; exact hw0.trans (h.mono (by omega))
    have HC := Lib.hid hcell; have HWW := Lib.hid hww; have HW := Lib.hid hW
    clear hbd hU0 hw0 hW hcell hww
    have hS1 : (((⟨#[45, 45, 45, 32]⟩ : ByteArray) ++ f) ++ ⟨#[10]⟩).size ≤ 140737488355328 := by
      rw [ByteArray.size_append, ByteArray.size_append, p1, p3]
      omega
    have hw1 := HW.out.write (((⟨#[45, 45, 45, 32]⟩ : ByteArray) ++ f) ++ ⟨#[10]⟩) _ (ba_nil_app _) hS1
    have HW1' := Lib.hid hw1
    clear hw1 hS1
    refine HW1'.out.mono ?_
    rintro e w1 ⟨rfl, hW1, -⟩
    obtain ⟨c0, c1, c2⟩ := HC.out _ hW1.2
    have HW1 := Lib.hid hW1; clear hW1
    go_wp2_with fail
    have htt : TT.size ≤ 140737488355328 := by omega
    have HW2' := Lib.hid (HW1.out.write (((⟨#[43, 43, 43, 32]⟩ : ByteArray) ++ t) ++ ⟨#[10]⟩) TT HTD.out.symm htt)
    clear htt
    refine HW2'.out.mono ?_
    rintro e w2 ⟨rfl, hW2, -⟩
    obtain ⟨d0, d1, d2⟩ := HC.out _ hW2.2
    have HW2 := Lib.hid hW2; clear hW2 c0 c1 c2
    go_wp2_with fail
    go_loopg [32] n (fun q i wr => ∃ k : Nat, q = n - k ∧ k ≤ n ∧ i = .int .i64 (k : Int) ∧ UW b W0 ((hs.take k).foldl hkS TT) wr)
    case atStart => exact ⟨0, rfl, Nat.zero_le _, rfl, by rw [List.take_zero]; exact HW2.out⟩
    case round =>
      obtain ⟨k, hq, hk, rfl, hW3⟩ := hrel
      have HQ := Lib.hid hq; clear hq
      by_cases hlt : k < n
      · --<0
        have hkl : k < hs.length := by rw [HN.out]; exact hlt
        obtain ⟨b0, off, g, hA, hb0, g0, hkr⟩ := HR.out.at_ hkl
        subst hA
        have htk := HTK.out k hkl
        have hat := HAT.out k hkl
        have hoke := HOKE.out k hkl
        have hszk := HSZ.out k
        generalize hs.getD k ⟨0, 0, []⟩ = h at *
        generalize (hs.take k).foldl hkS TT = T at *
        obtain ⟨fl, tl, ls⟩ := h
        obtain ⟨A2, c2', hgb, hkl2⟩ := hkr
        simp only at hat hgb hkl2
        obtain ⟨o1, o2, o3, o4, o5⟩ := hoke
        simp only at o1 o2 o3 o4 o5
        obtain ⟨nl, hnl⟩ : ∃ nl, ls.length = nl := ⟨_, rfl⟩
        rw [hnl] at hgb o5
        have hg0 : ∀ W, Below b W0 W → W.cell? ⟨b0, off + k, none⟩ = some (.pointer (some ⟨g, 0, none⟩)) := fun W h => ((HWW.out W h).cell (by exact hb0)).trans g0
        have hgc : ∀ W, Below b W0 W → W.cell? ⟨g, 0, none⟩ = some (.int .i64 fl) ∧ W.cell? ⟨g, 1, none⟩ = some (.int .i64 tl) ∧ W.cell? ⟨g, 2, none⟩ = some (.slice A2 nl c2') := fun W h => by
          have := hgb.below (HWW.out W h) hgb.lt
          exact ⟨this.cell 0, this.cell 1, this.cell 2⟩
        have hgl : ∀ W, Below b W0 W → KlR W A2 ls := fun W h => CellsR.below hkl2 (HWW.out W h) (Nat.le_refl _)
        have hglt := hgb.lt
        have hd200 := hdS_size ⟨fl, tl, ls⟩ ⟨o1, o2, o3, o4, by show ls.length ≤ _; omega⟩
        have hfold := fun m (T2 : ByteArray) => fold_size (ls.take m) T2
        have hszm := fun m => szK_take ls m
        have hT2 : (hkS T ⟨fl, tl, ls⟩).size ≤ 140737488355328 := by
          have := hkS_size T ⟨fl, tl, ls⟩ ⟨o1, o2, o3, o4, by show ls.length ≤ _; omega⟩
          simp only at this
          omega
        have HG0 := Lib.hid hg0; have HGC := Lib.hid hgc; have HGL := Lib.hid hgl; have HTK2 := Lib.hid htk; have HNL := Lib.hid hnl; have HFO := Lib.hid hfold; have HSM := Lib.hid hszm
        have x0 := hg0 _ hW3.2
        obtain ⟨y0, y1, y2⟩ := hgc _ hW3.2
        have HW3 := Lib.hid hW3
        clear hgb hkl2 g0 hg0 hgc hgl htk hnl hW3 hfold hszm
        go_wp2_with fail
        go_loopg [41, 6, 7] nl (fun q i fc tc wi => ∃ m : Nat, q = nl - m ∧ m ≤ nl ∧ i = .int .i64 (m : Int) ∧ fc = .int .i64 (cntK 1 (ls.take m) : Nat) ∧ tc = .int .i64 (cntK 0 (ls.take m) : Nat) ∧ UW b W0 T wi)
        case atStart => exact ⟨0, rfl, Nat.zero_le _, rfl, rfl, rfl, HW3.out⟩
        case round =>
          obtain ⟨m, hq2, hm, rfl, rfl, rfl, hW4⟩ := hrel
          have HQ2 := Lib.hid hq2
          have hc1 := cntK_le 1 (ls.take m)
          have hc0 := cntK_le 0 (ls.take m)
          have hlt2 : (ls.take m).length ≤ nl := by simp; have := HNL.out; omega
          clear hq2
          by_cases hml : m < nl
          · have hmll : m < ls.length := by rw [HNL.out]; exact hml
            obtain ⟨b1, off1, hA2, hb1, k0, k1⟩ := (HGL.out _ hW4.2).at_ hmll
            subst hA2
            have e1 := cntK_take 1 ls m hmll
            have e0' := cntK_take 0 ls m hmll
            generalize ls.getD m (0, ⟨#[]⟩) = x at *
            obtain ⟨kd, X⟩ := x
            simp only at k0 k1 e1 e0'
            generalize cntK 1 (ls.take m) = a1 at *
            generalize cntK 0 (ls.take m) = a0 at *
            have HW4 := Lib.hid hW4; clear hW4
            have HWN := Lib.hid (HW4.out.below ((Below.refl _ _).alloc (Nat.le_refl _) (.cells #[.int .i64 kd, .string X] 66)))
            by_cases hk0 : kd = 0
            · subst hk0
              rw [if_neg (by decide)] at e1
              rw [if_pos rfl] at e0'
              have E1 := Lib.hid e1; have E0 := Lib.hid e0'
              clear e1 e0'
              go_wp2
              go_roundg (nl - (m + 1))
              case measure => have := HQ2.out; omega
              case rel => exact ⟨m + 1, rfl, by omega, by go_num, by rw [E1.out]; go_num, by rw [E0.out]; go_num, HWN.out⟩
            · have q0 : (kd == 0) = false := by simp [hk0]
              by_cases hk1 : kd = 1
              · subst hk1
                rw [if_pos rfl] at e1
                rw [if_neg (by decide)] at e0'
                have E1 := Lib.hid e1; have E0 := Lib.hid e0'
                clear e1 e0' q0 hk0
                go_wp2
                go_roundg (nl - (m + 1))
                case measure => have := HQ2.out; omega
                case rel => exact ⟨m + 1, rfl, by omega, by go_num, by rw [E1.out]; go_num, by rw [E0.out]; go_num, HWN.out⟩
              · have q1 : (kd == 1) = false := by simp [hk1]
                rw [if_neg hk1] at e1
                rw [if_neg hk0] at e0'
                have E1 := Lib.hid e1; have E0 := Lib.hid e0'
                clear e1 e0' hk0 hk1
                go_wp2
                go_roundg (nl - (m + 1))
                case measure => have := HQ2.out; omega
                case rel => exact ⟨m + 1, rfl, by omega, by go_num, by rw [E1.out]; go_num, by rw [E0.out]; go_num, HWN.out⟩
          · have hmn : m = nl := by omega
            subst hmn
            have hta : ls.take m = ls := List.take_of_length_le (by rw [HNL.out]; omega)
            rw [hta] at hc1 hc0 ⊢
            clear hta hlt2
            have hd : hdS ⟨fl, tl, ls⟩ = ((⟨#[64, 64]⟩ ++ rngS ⟨#[32, 45]⟩ fl (cntK 1 ls)) ++ rngS ⟨#[32, 43]⟩ tl (cntK 0 ls)) ++ ⟨#[32, 64, 64, 10]⟩ := rfl
            obtain ⟨HD, hHD⟩ : ∃ HD, hdS ⟨fl, tl, ls⟩ = HD := ⟨_, rfl⟩
            obtain ⟨FC, hFC⟩ : ∃ FC, cntK 1 ls = FC := ⟨_, rfl⟩
            obtain ⟨TC, hTC⟩ : ∃ TC, cntK 0 ls = TC := ⟨_, rfl⟩
            rw [hHD] at hd hd200
            rw [hFC, hTC] at hd
            rw [hFC] at hc1 ⊢
            rw [hTC] at hc0 ⊢
            have hFm : FC ≤ m := by have := HNL.out; omega
            have hTm : TC ≤ m := by have := HNL.out; omega
            clear hc1 hc0
            have HK := Lib.hid (show hkS T ⟨fl, tl, ls⟩ = ls.foldl (fun a x => a ++ lnS x) (T ++ HD) by unfold hkS; rw [hHD])
            have hTs : T.size + HD.size + szK ls ≤ 140737488355328 := by omega
            have HDD := Lib.hid hd; have HW4 := Lib.hid hW4
            clear hd hHD hFC hTC hW4 x0 y0 y1 y2 HW3
            go_wp2_with fail
            have hs4 : (T ++ (⟨#[64, 64]⟩ : ByteArray)).size ≤ 140737488355328 := by
              have h1 : (⟨#[64, 64]⟩ : ByteArray).size = 2 := rfl
              have h2 := congrArg ByteArray.size HDD.out
              simp only [ByteArray.size_append, h1] at h2 ⊢
              omega
            have HW4' := Lib.hid (HW4.out.write (⟨#[64, 64]⟩ : ByteArray) _ rfl hs4)
            clear hs4
            refine HW4'.out.mono ?_
            rintro e w5 ⟨rfl, hW5, -⟩
            have HW5 := Lib.hid hW5; clear hW5 HW4 HW4'
            have hhs := congrArg ByteArray.size HDD.out
            simp only [ByteArray.size_append] at hhs
            have p5 : (⟨#[64, 64]⟩ : ByteArray).size = 2 := rfl
            have p6 : (⟨#[32, 64, 64, 10]⟩ : ByteArray).size = 4 := rfl
            obtain ⟨R1, hR1⟩ : ∃ R, rngS ⟨#[32, 45]⟩ fl FC = R := ⟨_, rfl⟩
            obtain ⟨R2, hR2⟩ : ∃ R, rngS ⟨#[32, 43]⟩ tl TC = R := ⟨_, rfl⟩
            rw [hR1, hR2] at hhs HDD
            have HR1 := Lib.hid hR1; have HR2 := Lib.hid hR2
            clear hR1 hR2
            go_upto_if 63 with fail
            go_cut [] (fun wx => UW b W0 (T ++ ⟨#[64, 64]⟩ ++ R1) wx)
            case first =>
              --<a
              obtain ⟨y0, y1, y2⟩ := HGC.out _ HW5.out.2
              have hTT := HT.out.below (HWW.out _ HW5.out.2) (Nat.le_refl _)
              have hle : ((T ++ (⟨#[64, 64]⟩ : ByteArray)) ++ R1).size ≤ 140737488355328 := by simp only [ByteArray.size_append]; omega
              by_cases hf1 : (1 : Int) < (FC : Int)
              · have hrr : R1 = (((⟨#[32, 45]⟩ : ByteArray) ++ itoB fl) ++ ⟨#[44]⟩) ++ itoB (FC : Int) := by
                  rw [← HR1.out]
                  unfold rngS
                  rw [if_pos (by omega)]
                have s1 := itoB_size fl (by omega) (by omega)
                have s2 := itoB_size (FC : Int) (by omega) (by omega)
                have HI1 := Lib.hid (fun W (h : TabP W) => itoa_any fl W (by omega) (by omega) h)
                have HI2 := Lib.hid (fun W (h : TabP W) => itoa_any (FC : Int) W (by omega) (by omega) h)
                rw [hrr] at hle
                have HRR := Lib.hid hrr; have HLE := Lib.hid hle; have HTB := Lib.hid hTT
                clear hrr hle hTT
                go_wp2_with fail
                refine (HI1.out _ HTB.out).mono ?_
                rintro e w6 ⟨rfl, hb6⟩
                have HW6 := Lib.hid (HW5.out.below hb6)
                have HTB6 := Lib.hid (HTB.out.below hb6 (Nat.le_refl _))
                clear hb6
                go_wp2_with fail
                refine (HI2.out _ HTB6.out).mono ?_
                rintro e w7 ⟨rfl, hb7⟩
                have HW7 := Lib.hid (HW6.out.below hb7)
                clear hb7
                go_wp2_with fail
                have HWR := Lib.hid (HW7.out.write ((((⟨#[32, 45]⟩ : ByteArray) ++ itoB fl) ++ ⟨#[44]⟩) ++ itoB (FC : Int)) _ rfl HLE.out)
                refine HWR.out.mono ?_
                rintro e w9 ⟨rfl, hW9, -⟩
                have HW9 := Lib.hid hW9; clear hW9
                go_wp2_with fail
                go_meet
                rw [HRR.out]
                exact HW9.out
              · by_cases hz1 : fl = 1
                · have q1 : (fl == 1) = true := by simp [hz1]
                  by_cases hz0 : (FC : Int) = 0
                  · have q0 : ((FC : Int) == 0) = true := by simp [hz0]
                    have hrr : R1 = (⟨#[32, 45, 48, 44, 48]⟩ : ByteArray) := by
                      rw [← HR1.out]
                      unfold rngS
                      rw [if_neg (by omega), if_pos ⟨hz1, by omega⟩]
                      exact rngZ _
                    rw [hrr] at hle
                    have HRR := Lib.hid hrr; have HLE := Lib.hid hle
                    clear hrr hle hTT hz1 hz0
                    go_wp2_with fail
                    have HWR := Lib.hid (HW5.out.write (⟨#[32, 45, 48, 44, 48]⟩ : ByteArray) _ rfl HLE.out)
                    refine HWR.out.mono ?_
                    rintro e w9 ⟨rfl, hW9, -⟩
                    have HW9 := Lib.hid hW9; clear hW9
                    go_wp2_with fail
                    go_meet
                    rw [HRR.out]
                    exact HW9.out
                  · have q0 : ((FC : Int) == 0) = false := by simp; omega
                    have hrr : R1 = ((⟨#[32, 45]⟩ : ByteArray) ++ itoB fl) := by
                      rw [← HR1.out]
                      unfold rngS
                      rw [if_neg (by omega), if_neg (by omega)]
                    have s1 := itoB_size fl (by omega) (by omega)
                    have HI1 := Lib.hid (fun W (h : TabP W) => itoa_any fl W (by omega) (by omega) h)
                    rw [hrr] at hle
                    have HRR := Lib.hid hrr; have HLE := Lib.hid hle; have HTB := Lib.hid hTT
                    clear hrr hle hTT hz1 hz0
                    go_wp2_with fail
                    refine (HI1.out _ HTB.out).mono ?_
                    rintro e w6 ⟨rfl, hb6⟩
                    have HW6 := Lib.hid (HW5.out.below hb6)
                    clear hb6
                    go_wp2_with fail
                    have HWR := Lib.hid (HW6.out.write (((⟨#[32, 45]⟩ : ByteArray) ++ itoB fl)) _ rfl HLE.out)
                    refine HWR.out.mono ?_
                    rintro e w9 ⟨rfl, hW9, -⟩
                    have HW9 := Lib.hid hW9; clear hW9
                    go_wp2_with fail
                    go_meet
                    rw [HRR.out]
                    exact HW9.out
                · have q1 : (fl == 1) = false := by simp [hz1]
                  have hrr : R1 = ((⟨#[32, 45]⟩ : ByteArray) ++ itoB fl) := by
                    rw [← HR1.out]
                    unfold rngS
                    rw [if_neg (by omega), if_neg (by omega)]
                  have s1 := itoB_size fl (by omega) (by omega)
                  have HI1 := Lib.hid (fun W (h : TabP W) => itoa_any fl W (by omega) (by omega) h)
                  rw [hrr] at hle
                  have HRR := Lib.hid hrr; have HLE := Lib.hid hle; have HTB := Lib.hid hTT
                  clear hrr hle hTT hz1
                  go_wp2_with fail
                  refine (HI1.out _ HTB.out).mono ?_
                  rintro e w6 ⟨rfl, hb6⟩
                  have HW6 := Lib.hid (HW5.out.below hb6)
                  clear hb6
                  go_wp2_with fail
                  have HWR := Lib.hid (HW6.out.write (((⟨#[32, 45]⟩ : ByteArray) ++ itoB fl)) _ rfl HLE.out)
                  refine HWR.out.mono ?_
                  rintro e w9 ⟨rfl, hW9, -⟩
                  have HW9 := Lib.hid hW9; clear hW9
                  go_wp2_with fail
                  go_meet
                  rw [HRR.out]
                  exact HW9.out
              -->a
            case rest =>
              have HW6 := Lib.hid hcut; clear hcut HW5
              go_upto_if 96 with fail
              go_cut [] (fun wx => UW b W0 (T ++ ⟨#[64, 64]⟩ ++ R1 ++ R2) wx)
              case first =>
                --<b
                obtain ⟨y0, y1, y2⟩ := HGC.out _ HW6.out.2
                have hTT := HT.out.below (HWW.out _ HW6.out.2) (Nat.le_refl _)
                have hle : ((T ++ (⟨#[64, 64]⟩ : ByteArray) ++ R1) ++ R2).size ≤ 140737488355328 := by simp only [ByteArray.size_append]; omega
                by_cases hf1 : (1 : Int) < (TC : Int)
                · have hrr : R2 = (((⟨#[32, 43]⟩ : ByteArray) ++ itoB tl) ++ ⟨#[44]⟩) ++ itoB (TC : Int) := by
                    rw [← HR2.out]
                    unfold rngS
                    rw [if_pos (by omega)]
                  have s1 := itoB_size tl (by omega) (by omega)
                  have s2 := itoB_size (TC : Int) (by omega) (by omega)
                  have HI1 := Lib.hid (fun W (h : TabP W) => itoa_any tl W (by omega) (by omega) h)
                  have HI2 := Lib.hid (fun W (h : TabP W) => itoa_any (TC : Int) W (by omega) (by omega) h)
                  rw [hrr] at hle
                  have HRR := Lib.hid hrr; have HLE := Lib.hid hle; have HTB := Lib.hid hTT
                  clear hrr hle hTT
                  go_wp2_with fail
                  refine (HI1.out _ HTB.out).mono ?_
                  rintro e w6 ⟨rfl, hb6⟩
                  have HW6 := Lib.hid (HW6.out.below hb6)
                  have HTB6 := Lib.hid (HTB.out.below hb6 (Nat.le_refl _))
                  clear hb6
                  go_wp2_with fail
                  refine (HI2.out _ HTB6.out).mono ?_
                  rintro e w7 ⟨rfl, hb7⟩
                  have HW7 := Lib.hid (HW6.out.below hb7)
                  clear hb7
                  go_wp2_with fail
                  have HWR := Lib.hid (HW7.out.write ((((⟨#[32, 43]⟩ : ByteArray) ++ itoB tl) ++ ⟨#[44]⟩) ++ itoB (TC : Int)) _ rfl HLE.out)
                  refine HWR.out.mono ?_
                  rintro e w9 ⟨rfl, hW9, -⟩
                  have HW9 := Lib.hid hW9; clear hW9
                  go_wp2_with fail
                  go_meet
                  rw [HRR.out]
                  exact HW9.out
                · by_cases hz1 : tl = 1
                  · have q1 : (tl == 1) = true := by simp [hz1]
                    by_cases hz0 : (TC : Int) = 0
                    · have q0 : ((TC : Int) == 0) = true := by simp [hz0]
                      have hrr : R2 = (⟨#[32, 43, 48, 44, 48]⟩ : ByteArray) := by
                        rw [← HR2.out]
                        unfold rngS
                        rw [if_neg (by omega), if_pos ⟨hz1, by omega⟩]
                        exact rngZ _
                      rw [hrr] at hle
                      have HRR := Lib.hid hrr; have HLE := Lib.hid hle
                      clear hrr hle hTT hz1 hz0
                      go_wp2_with fail
                      have HWR := Lib.hid (HW6.out.write (⟨#[32, 43, 48, 44, 48]⟩ : ByteArray) _ rfl HLE.out)
                      refine HWR.out.mono ?_
                      rintro e w9 ⟨rfl, hW9, -⟩
                      have HW9 := Lib.hid hW9; clear hW9
                      go_wp2_with fail
                      go_meet
                      rw [HRR.out]
                      exact HW9.out
                    · have q0 : ((TC : Int) == 0) = false := by simp; omega
                      have hrr : R2 = ((⟨#[32, 43]⟩ : ByteArray) ++ itoB tl) := by
                        rw [← HR2.out]
                        unfold rngS
                        rw [if_neg (by omega), if_neg (by omega)]
                      have s1 := itoB_size tl (by omega) (by omega)
                      have HI1 := Lib.hid (fun W (h : TabP W) => itoa_any tl W (by omega) (by omega) h)
                      rw [hrr] at hle
                      have HRR := Lib.hid hrr; have HLE := Lib.hid hle; have HTB := Lib.hid hTT
                      clear hrr hle hTT hz1 hz0
                      go_wp2_with fail
                      refine (HI1.out _ HTB.out).mono ?_
                      rintro e w6 ⟨rfl, hb6⟩
                      have HW6 := Lib.hid (HW6.out.below hb6)
                      clear hb6
                      go_wp2_with fail
                      have HWR := Lib.hid (HW6.out.write (((⟨#[32, 43]⟩ : ByteArray) ++ itoB tl)) _ rfl HLE.out)
                      refine HWR.out.mono ?_
                      rintro e w9 ⟨rfl, hW9, -⟩
                      have HW9 := Lib.hid hW9; clear hW9
                      go_wp2_with fail
                      go_meet
                      rw [HRR.out]
                      exact HW9.out
                  · have q1 : (tl == 1) = false := by simp [hz1]
                    have hrr : R2 = ((⟨#[32, 43]⟩ : ByteArray) ++ itoB tl) := by
                      rw [← HR2.out]
                      unfold rngS
                      rw [if_neg (by omega), if_neg (by omega)]
                    have s1 := itoB_size tl (by omega) (by omega)
                    have HI1 := Lib.hid (fun W (h : TabP W) => itoa_any tl W (by omega) (by omega) h)
                    rw [hrr] at hle
                    have HRR := Lib.hid hrr; have HLE := Lib.hid hle; have HTB := Lib.hid hTT
                    clear hrr hle hTT hz1
                    go_wp2_with fail
                    refine (HI1.out _ HTB.out).mono ?_
                    rintro e w6 ⟨rfl, hb6⟩
                    have HW6 := Lib.hid (HW6.out.below hb6)
                    clear hb6
                    go_wp2_with fail
                    have HWR := Lib.hid (HW6.out.write (((⟨#[32, 43]⟩ : ByteArray) ++ itoB tl)) _ rfl HLE.out)
                    refine HWR.out.mono ?_
                    rintro e w9 ⟨rfl, hW9, -⟩
                    have HW9 := Lib.hid hW9; clear hW9
                    go_wp2_with fail
                    go_meet
                    rw [HRR.out]
                    exact HW9.out
                -->b
              case rest =>
                have HW7 := Lib.hid hcut; clear hcut HW6
                obtain ⟨y0, y1, y2⟩ := HGC.out _ HW7.out.2
                go_wp2_with fail
                have hs7 : (T ++ HD).size ≤ 140737488355328 := by rw [ByteArray.size_append]; omega
                have he7 : T ++ ⟨#[64, 64]⟩ ++ R1 ++ R2 ++ (⟨#[32, 64, 64, 10]⟩ : ByteArray) = T ++ HD := by rw [HDD.out]; simp only [ba_assoc]
                have HW7' := Lib.hid (HW7.out.write (⟨#[32, 64, 64, 10]⟩ : ByteArray) _ he7 hs7)
                clear hs7 he7
                refine HW7'.out.mono ?_
                rintro e w8 ⟨rfl, hW8, -⟩
                obtain ⟨z0, z1, z2⟩ := HGC.out _ hW8.2
                have HW8 := Lib.hid hW8; clear hW8 HW7 HW7' y0 y1 y2
                go_wp2_with fail
                go_loopg [135] m (fun q i wi => ∃ m2 : Nat, q = m - m2 ∧ m2 ≤ m ∧ i = .int .i64 (m2 : Int) ∧ UW b W0 ((ls.take m2).foldl (fun a x => a ++ lnS x) (T ++ HD)) wi)
                case atStart => exact ⟨0, rfl, Nat.zero_le _, rfl, by rw [List.take_zero]; exact HW8.out⟩
                case round =>
                  obtain ⟨m2, hq3, hm2, rfl, hW9⟩ := hrel
                  have HQ3 := Lib.hid hq3; clear hq3 z0 z1 z2
                  by_cases hml2 : m2 < m
                  · --<c
                    have hmll : m2 < ls.length := by rw [HNL.out]; exact hml2
                    obtain ⟨b1, off1, hA2, hb1, k0, k1⟩ := (HGL.out _ hW9.2).at_ hmll
                    have e1 := fold_take ls (T ++ HD) m2 hmll
                    have hsz1 := szK_get ls m2 hmll
                    have hfz := HFO.out (m2 + 1) (T ++ HD)
                    have hfz2 := HSM.out (m2 + 1)
                    rw [ByteArray.size_append, e1] at hfz
                    subst hA2
                    generalize ls.getD m2 (0, ⟨#[]⟩) = x at *
                    obtain ⟨kd, X⟩ := x
                    simp only at k0 k1 hsz1
                    generalize (ls.take m2).foldl (fun a x => a ++ lnS x) (T ++ HD) = TM at *
                    have hlz : (TM ++ lnS (kd, X)).size ≤ 140737488355328 := by omega
                    have E1 := Lib.hid e1
                    have HW9 := Lib.hid hW9
                    have hbk := Blk.new wr 66 #[.int .i64 kd, .string X]
                    have HWN := Lib.hid (hW9.below ((Below.refl _ _).alloc (Nat.le_refl _) (.cells #[.int .i64 kd, .string X] 66)))
                    have hgb : wr.heap.size ≠ b := by have := hW9.1.lt; omega
                    have HBK := Lib.hid hbk; have HGB := Lib.hid hgb
                    have hls1 : lnS (kd, X) = if nlEnd X then sgK kd ++ X else (sgK kd ++ X) ++ noNl := rfl
                    have hsg := sgK_size kd
                    have hn1 : noNl.size = 29 := rfl
                    have hXs : X.size ≤ 140737488355328 := by omega
                    have hw1 : (TM ++ (sgK kd ++ X)).size ≤ 140737488355328 := by
                      rw [hls1] at hlz
                      split at hlz
                      · exact hlz
                      · simp only [ByteArray.size_append] at hlz ⊢; omega
                    have HSF := Lib.hid (fun W => hasSuf_any X W (by omega))
                    have HW1 := Lib.hid hw1; have HLZ := Lib.hid hlz; have HLS := Lib.hid hls1
                    clear e1 hW9 hbk hgb hls1 hw1 hfz hfz2 hsz1 hlz hsg
                    by_cases hk0 : kd = 0
                    · subst hk0
                      have hsk : sgK 0 = ⟨#[45]⟩ := rfl
                      rw [hsk] at HW1 HLS
                      clear hsk
                      go_wp2_with fail
                      have HWR := Lib.hid (HWN.out.write ((⟨#[45]⟩ : ByteArray) ++ X) _ rfl HW1.out)
                      refine HWR.out.mono ?_
                      rintro e w5 ⟨rfl, hW5, hok⟩
                      have hb5 := kept_blk hok HBK.out HGB.out (by decide)
                      have l1 := hb5.cell 1
                      have HW5 := Lib.hid hW5
                      clear hW5 hok hb5
                      go_wp2_with fail
                      refine (HSF.out _).mono ?_
                      rintro e w6 ⟨rfl, rfl⟩
                      cases hnl9 : nlEnd X with
                      | true =>
                        have hls := HLS.out
                        rw [hnl9, if_pos rfl] at hls
                        have HLS2 := Lib.hid hls
                        clear hnl9 hls
                        go_wp2_with fail
                        go_roundg (m - (m2 + 1))
                        case measure => have := HQ3.out; omega
                        case rel => exact ⟨m2 + 1, rfl, by omega, by go_num, by rw [E1.out, HLS2.out]; exact HW5.out⟩
                      | false =>
                        have hls := HLS.out
                        rw [hnl9, if_neg (by simp)] at hls
                        have hlz := HLZ.out
                        rw [hls] at hlz
                        have hee : TM ++ ((⟨#[45]⟩ : ByteArray) ++ X) ++ noNl = TM ++ ((⟨#[45]⟩ : ByteArray) ++ X ++ noNl) := ba_assoc _ _ _
                        have HLS2 := Lib.hid hls; have HLZ2 := Lib.hid hlz; have HEE := Lib.hid hee
                        clear hnl9 hls hlz hee
                        go_wp2_with fail
                        have HWS := Lib.hid (HW5.out.write noNl _ HEE.out HLZ2.out)
                        refine HWS.out.mono ?_
                        rintro e w7 ⟨rfl, hW7, -⟩
                        have HW7 := Lib.hid hW7; clear hW7
                        go_wp2_with fail
                        go_roundg (m - (m2 + 1))
                        case measure => have := HQ3.out; omega
                        case rel => exact ⟨m2 + 1, rfl, by omega, by go_num, by rw [E1.out, HLS2.out]; exact HW7.out⟩
                    · have q0 : (kd == 0) = false := by simp [hk0]
                      by_cases hk1 : kd = 1
                      · subst hk1
                        clear q0 hk0
                        have hsk : sgK 1 = ⟨#[43]⟩ := rfl
                        rw [hsk] at HW1 HLS
                        clear hsk
                        go_wp2_with fail
                        have HWR := Lib.hid (HWN.out.write ((⟨#[43]⟩ : ByteArray) ++ X) _ rfl HW1.out)
                        refine HWR.out.mono ?_
                        rintro e w5 ⟨rfl, hW5, hok⟩
                        have hb5 := kept_blk hok HBK.out HGB.out (by decide)
                        have l1 := hb5.cell 1
                        have HW5 := Lib.hid hW5
                        clear hW5 hok hb5
                        go_wp2_with fail
                        refine (HSF.out _).mono ?_
                        rintro e w6 ⟨rfl, rfl⟩
                        cases hnl9 : nlEnd X with
                        | true =>
                          have hls := HLS.out
                          rw [hnl9, if_pos rfl] at hls
                          have HLS2 := Lib.hid hls
                          clear hnl9 hls
                          go_wp2_with fail
                          go_roundg (m - (m2 + 1))
                          case measure => have := HQ3.out; omega
                          case rel => exact ⟨m2 + 1, rfl, by omega, by go_num, by rw [E1.out, HLS2.out]; exact HW5.out⟩
                        | false =>
                          have hls := HLS.out
                          rw [hnl9, if_neg (by simp)] at hls
                          have hlz := HLZ.out
                          rw [hls] at hlz
                          have hee : TM ++ ((⟨#[43]⟩ : ByteArray) ++ X) ++ noNl = TM ++ ((⟨#[43]⟩ : ByteArray) ++ X ++ noNl) := ba_assoc _ _ _
                          have HLS2 := Lib.hid hls; have HLZ2 := Lib.hid hlz; have HEE := Lib.hid hee
                          clear hnl9 hls hlz hee
                          go_wp2_with fail
                          have HWS := Lib.hid (HW5.out.write noNl _ HEE.out HLZ2.out)
                          refine HWS.out.mono ?_
                          rintro e w7 ⟨rfl, hW7, -⟩
                          have HW7 := Lib.hid hW7; clear hW7
                          go_wp2_with fail
                          go_roundg (m - (m2 + 1))
                          case measure => have := HQ3.out; omega
                          case rel => exact ⟨m2 + 1, rfl, by omega, by go_num, by rw [E1.out, HLS2.out]; exact HW7.out⟩
                      · have q1 : (kd == 1) = false := by simp [hk1]
                        have hsk : sgK kd = ⟨#[32]⟩ := by unfold sgK; rw [if_neg hk0, if_neg hk1]
                        rw [hsk] at HW1 HLS
                        clear hsk hk0 hk1
                        go_wp2_with fail
                        have HWR := Lib.hid (HWN.out.write ((⟨#[32]⟩ : ByteArray) ++ X) _ rfl HW1.out)
                        refine HWR.out.mono ?_
                        rintro e w5 ⟨rfl, hW5, hok⟩
                        have hb5 := kept_blk hok HBK.out HGB.out (by decide)
                        have l1 := hb5.cell 1
                        have HW5 := Lib.hid hW5
                        clear hW5 hok hb5
                        go_wp2_with fail
                        refine (HSF.out _).mono ?_
                        rintro e w6 ⟨rfl, rfl⟩
                        cases hnl9 : nlEnd X with
                        | true =>
                          have hls := HLS.out
                          rw [hnl9, if_pos rfl] at hls
                          have HLS2 := Lib.hid hls
                          clear hnl9 hls
                          go_wp2_with fail
                          go_roundg (m - (m2 + 1))
                          case measure => have := HQ3.out; omega
                          case rel => exact ⟨m2 + 1, rfl, by omega, by go_num, by rw [E1.out, HLS2.out]; exact HW5.out⟩
                        | false =>
                          have hls := HLS.out
                          rw [hnl9, if_neg (by simp)] at hls
                          have hlz := HLZ.out
                          rw [hls] at hlz
                          have hee : TM ++ ((⟨#[32]⟩ : ByteArray) ++ X) ++ noNl = TM ++ ((⟨#[32]⟩ : ByteArray) ++ X ++ noNl) := ba_assoc _ _ _
                          have HLS2 := Lib.hid hls; have HLZ2 := Lib.hid hlz; have HEE := Lib.hid hee
                          clear hnl9 hls hlz hee
                          go_wp2_with fail
                          have HWS := Lib.hid (HW5.out.write noNl _ HEE.out HLZ2.out)
                          refine HWS.out.mono ?_
                          rintro e w7 ⟨rfl, hW7, -⟩
                          have HW7 := Lib.hid hW7; clear hW7
                          go_wp2_with fail
                          go_roundg (m - (m2 + 1))
                          case measure => have := HQ3.out; omega
                          case rel => exact ⟨m2 + 1, rfl, by omega, by go_num, by rw [E1.out, HLS2.out]; exact HW7.out⟩
                    -->c
                  · have hmm : m2 = m := by omega
                    subst hmm
                    have hta : ls.take m2 = ls := List.take_of_length_le (by rw [HNL.out]; omega)
                    rw [hta, ← HK.out] at hW9
                    have HW9 := Lib.hid hW9; clear hW9 hta
                    go_wp2_with fail
                    go_roundg (n - (k + 1))
                    case measure => have := HQ.out; omega
                    case rel => exact ⟨k + 1, rfl, by omega, by go_num, by rw [HTK2.out]; exact HW9.out⟩
        -->0
      · have hkn : k = n := by omega
        subst hkn
        rw [HALL.out] at hW3
        have HW3 := Lib.hid hW3; clear hW3
        go_wp2_with fail
        refine (bstring_any b b FF _ HW3.out.1 (by omega)).mono ?_
        rintro e w4 ⟨rfl, hb4⟩
        have HB4 := Lib.hid (HW3.out.2.trans hb4); clear hb4
        go_wp2
        go_ret
        exact ⟨by rw [HUNI.out]; rfl, HWW.out _ HB4.out⟩
end Go.Proofs.YtgphjnhbheimiaaGreatDoor
