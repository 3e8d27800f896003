/-
  The contracts of strings.Builder, strconv.Itoa and strings.HasSuffix at this program: the builder's write laid by hand. Condition: a text of at most 140737488355328 bytes.
-/
import Derived.Test.YtgphjnhbheimiaaDoorLayU
import Derived.Test.YtgphjnhbheimiaaDoorUniS
import Derived.Lib.ItoaLen
import Derived.Shelf.Strings.BuilderK
import Derived.Lib.SmallJoins
namespace Go.Proofs
set_option linter.unusedVariables false
open Go.Shelf Go.RowKit
def Tryd.bw_ren : Go.Shelf.Ren := ⟨fun | 166 => 22 | 240 => 29 | 276 => 39 | n => n, fun | 0 => 0 | 3 => 3 | 4 => 4 | 9 => 9 | 20 => 20 | 37 => 66 | 70 => 65 | 72 => 68 | 75 => 37 | 164 => 83 | 80 => 49 | 5 => 5 | n => n, fun | n => n⟩
theorem Tryd.bw : Go.Proofs.Lays.n166 Tryd.prog Tryd.bw_ren := {
  mixed := by kernel_rfl
  f166 := Tryd.func22.trans (congrArg some (by kernel_rfl))
  f240 := Tryd.func29.trans (congrArg some (by kernel_rfl))
  f276 := Tryd.func39.trans (congrArg some (by kernel_rfl))
  t0 := Tryd.underlying0
  a0 := Tryd.isAgg0
  z0 := Tryd.sizeOf0
  v0 := Tryd.zeroValue0
  t3 := Tryd.underlying3
  a3 := Tryd.isAgg3
  z3 := Tryd.sizeOf3
  v3 := Tryd.zeroValue3
  t4 := Tryd.underlying4
  a4 := Tryd.isAgg4
  z4 := Tryd.sizeOf4
  v4 := Tryd.zeroValue4
  t9 := Tryd.underlying9
  a9 := Tryd.isAgg9
  z9 := Tryd.sizeOf9
  v9 := Tryd.zeroValue9
  t20 := Tryd.underlying20
  a20 := Tryd.isAgg20
  z20 := Tryd.sizeOf20
  v20 := Tryd.zeroValue20
  t37 := Tryd.underlying66
  a37 := Tryd.isAgg66
  z37 := Tryd.sizeOf66
  v37 := Tryd.zeroValue66
  t70 := Tryd.underlying65
  a70 := Tryd.isAgg65
  z70 := Tryd.sizeOf65
  v70 := Tryd.zeroValue65
  t72 := Tryd.underlying68
  a72 := Tryd.isAgg68
  z72 := Tryd.sizeOf68
  v72 := Tryd.zeroValue68
  t75 := Tryd.underlying37
  a75 := Tryd.isAgg37
  z75 := Tryd.sizeOf37
  v75 := Tryd.zeroValue37
  t164 := Tryd.underlying83
  a164 := Tryd.isAgg83
  z164 := Tryd.sizeOf83
  v164 := Tryd.zeroValue83 }
theorem Tryd.bX : Builder.Extra Tryd.prog Tryd.bw_ren where
  sizeBuilder := by kernel_rfl
  liesBuilder := by kernel_rfl
  t5 := Tryd.underlying5
  a5 := Tryd.isAgg5
  z5 := Tryd.sizeOf5
  v5 := Tryd.zeroValue5
  infoByte := by kernel_rfl
  cellsByte := by kernel_rfl
  sizeByte := by kernel_rfl
  neB5 := by decide
theorem Tryd.bY : Builder.Extra Tryd.prog Tryd.bs_ren where
  sizeBuilder := by kernel_rfl
  liesBuilder := by kernel_rfl
  t5 := Tryd.underlying5
  a5 := Tryd.isAgg5
  z5 := Tryd.sizeOf5
  v5 := Tryd.zeroValue5
  infoByte := by kernel_rfl
  cellsByte := by kernel_rfl
  sizeByte := by kernel_rfl
  neB5 := by decide
end Go.Proofs
namespace Go.Proofs.YtgphjnhbheimiaaDoor
set_option linter.unusedVariables false
open Go.Shelf Go.RowKit
/-- a builder that holds a text -/
def Bd (B b : Nat) (T : ByteArray) (w : World) : Prop := Lib.IsBuilderF 68 5 B b (Lib.strCells T) w
theorem strCells_appU (a b : ByteArray) : Lib.strCells (a ++ b) = Lib.strCells a ++ Lib.strCells b := by
  simp [Lib.strCells, ByteArray.data_append]
theorem Bd.new (w : World) : Bd w.heap.size w.heap.size ⟨#[]⟩ (w.alloc (.cells #[.pointer none, .slice none 0 0] 68)) :=
  Lib.IsBuilderF.of (.inl ⟨Nat.le_refl _, _, Blk.new w _ _, ⟨by simp [Lib.strCells], .inl ⟨rfl, by simp [Lib.strCells]⟩⟩, by simp [Value.ownBlock]⟩)
theorem bdAt_below {p : Value} {bs : List Value} {B b : Nat} {w w' : World} (h : Lib.BuilderAtF 68 5 B b p bs w) (hb : Below w.heap.size w w') : Lib.BuilderAtF 68 5 B b p bs w' := by
  have hlt := h.lt
  obtain ⟨hB, v, hbk, hown, hne⟩ := h
  refine ⟨hB, v, (hb.block b hlt).trans hbk, ⟨hown.1, ?_⟩, hne⟩
  rcases hown.2 with h1 | ⟨g, cap, cur, fz, h1, h2, h3, h4⟩
  · exact .inl h1
  · refine .inr ⟨g, cap, cur, fz, h1, h2, (hb.block g ?_).trans h3, h4⟩
    rcases Nat.lt_or_ge g w.heap.size with h5 | h5
    · exact h5
    · rw [Array.getElem?_eq_none h5] at h3; cases h3
theorem Bd.below {B b : Nat} {T : ByteArray} {w w' : World} (h : Bd B b T w) (hb : Below w.heap.size w w') : Bd B b T w' :=
  h.elim (fun x => .inl (bdAt_below x hb)) (fun x => .inr (bdAt_below x hb))
theorem Bd.lt {B b : Nat} {T : ByteArray} {w : World} (h : Bd B b T w) : b < w.heap.size := h.elim (fun x => x.lt) (fun x => x.lt)
theorem write_any (B b : Nat) (T s T' : ByteArray) (w : World) (h : Bd B b T w) (hT : T ++ s = T') (hlen : T'.size ≤ 140737488355328) (hB : B ≤ w.heap.size) :
    Calls Tryd.prog 22 #[.pointer (some ⟨b, 0, none⟩), .string s] w fun e w' => e = .returned (.tuple #[.int .i64 s.size, .nilIface]) ∧ Bd B b T' w' ∧ Below B w w' ∧ Lib.OthersKept 5 (some b) w w' := by
  subst hT
  rw [ByteArray.size_append] at hlen
  refine (Any.Builder_WriteString_k Tryd.bw Tryd.bX B b (Lib.strCells T) s w h (by rw [Lib.strCells_length]; exact hlen) hB).mono ?_
  rintro e w' ⟨h1, h2, h3, h4⟩
  exact ⟨h1, by unfold Bd; rw [strCells_appU]; exact .inr h2, h3, h4⟩
/-- a block of another kind stands behind a write -/
theorem kept_blk {b g t : Nat} {cs : Array Value} {w w' : World} (h : Lib.OthersKept 5 (some b) w w') (hb : Blk w g t cs) (hn : g ≠ b) (ht : t ≠ 5) : Blk w' g t cs :=
  h g _ hb (fun e => hn (by injection e)) (fun c fz e => by injection e with _ e; exact ht e)
theorem bstring_any (B b : Nat) (T : ByteArray) (w : World) (h : Bd B b T w) (h0 : T.size ≠ 0) :
    Calls Tryd.prog 25 #[.pointer (some ⟨b, 0, none⟩)] w fun e w' => e = .returned (.string T) ∧ Below B w w' := by
  have e1 : (⟨T.data.toList.toArray⟩ : ByteArray) = T := by simp
  have h2 := Any.Builder_String_f Tryd.bs Tryd.bY B b T.data.toList w h (fun hh => h0 (by
    have := congrArg List.length hh
    simpa using this))
  rw [e1] at h2
  exact h2.mono fun e w' h => ⟨h.1, h.2.2⟩
/-- the table of powers of ten -/
def TabP (w : World) : Prop := Lib.TabIs Tryd.prog w "internal/strconv.uint64pow10" .u64 Lib.pow10Tab
theorem TabP.below {B : Nat} {w w' : World} (h : TabP w) (hb : Below B w w') (hB : w.heap.size ≤ B) : TabP w' := by
  unfold TabP Lib.TabIs World.var? at *
  cases hg : Tryd.prog.globalNamed "internal/strconv.uint64pow10" with
  | none => rw [hg] at h; exact h
  | some g =>
    rw [hg] at h
    simp only [Option.bind_some] at h ⊢
    rcases Nat.lt_or_ge g w.heap.size with h1 | h1
    · rw [hb.block g (by omega)]; exact h
    · rw [Array.getElem?_eq_none h1] at h; cases h
theorem itoa_any (n : Int) (w : World) (h0 : -9223372036854775808 ≤ n) (h1 : n ≤ 9223372036854775807) (htab : TabP w) :
    Calls Tryd.prog 23 #[.int .i64 n] w fun e w' => e = .returned (.string (itoB n)) ∧ Below w.heap.size w w' := by
  refine (Any.strconv_Itoa Tryd.ia n h0 h1 w htab).mono ?_
  rintro e w' ⟨he, k, os, rfl⟩
  refine ⟨he, ⟨rfl, rfl, rfl, ?_, fun g hg => ?_⟩⟩
  · show w.heap.size ≤ (w.heap ++ os).size
    rw [Array.size_append]; omega
  · show (w.heap ++ os)[g]? = w.heap[g]?
    rw [Array.getElem?_append_left hg]
theorem hasSuf_any (s : ByteArray) (w : World) (hs : s.size ≤ 9223372036854775807) :
    Calls Tryd.prog 24 #[.string s, .string ⟨#[10]⟩] w fun e w' => e = .returned (.bool (nlEnd s)) ∧ w' = w := Any.strings_HasSuffix Tryd.hx s ⟨#[10]⟩ w hs
end Go.Proofs.YtgphjnhbheimiaaDoor
