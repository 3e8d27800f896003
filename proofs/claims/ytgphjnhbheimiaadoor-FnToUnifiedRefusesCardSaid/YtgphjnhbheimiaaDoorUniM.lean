/-
  Hunks in memory. No condition.
-/
import Derived.Test.YtgphjnhbheimiaaDoorUniP
import Derived.Test.YtgphjnhbheimiaaDoorLinesW
namespace Go.Proofs.YtgphjnhbheimiaaDoor
set_option linter.unusedVariables false
open Go.RowKit

theorem infoLn : (Tryd.prog.info? 64).map (fun i => (i.zero, i.size, i.bytes)) = some (some (.agg #[.int .i64 0, .string ⟨#[]⟩]), 2, 24) := by kernel_rfl
theorem infoHp : (Tryd.prog.info? 56).map (fun i => (i.zero, i.size, i.bytes)) = some (some (.pointer none), 1, 8) := by kernel_rfl

def klOne (x : Int × ByteArray) : List Value := [.int .i64 x.1, .string x.2]
def klCells (l : KLs) : List Value := l.flatMap klOne
theorem klCells_cons (x : Int × ByteArray) (l : KLs) : klCells (x :: l) = klOne x ++ klCells l := rfl
theorem klCells_append (a b : KLs) : klCells (a ++ b) = klCells a ++ klCells b := by simp [klCells]
theorem klCells_len (l : KLs) : (klCells l).length = l.length * 2 := by
  induction l with
  | nil => rfl
  | cons x l ih => rw [klCells_cons, List.length_append, ih]; simp [klOne]; omega
theorem klCells_get (l : KLs) (k : Nat) (h : k < l.length) : (klCells l)[k * 2]? = some (.int .i64 (l.getD k (0, ⟨#[]⟩)).1) ∧ (klCells l)[k * 2 + 1]? = some (.string (l.getD k (0, ⟨#[]⟩)).2) := by
  induction l generalizing k with
  | nil => simp at h
  | cons x l ih =>
    rw [klCells_cons]
    cases k with
    | zero => simp [klOne]
    | succ k =>
      have hl : (klOne x).length = 2 := rfl
      have := ih k (by simpa using h)
      refine ⟨?_, ?_⟩
      · rw [List.getElem?_append_right (by omega), hl, show (k + 1) * 2 - 2 = k * 2 by omega, this.1]; rfl
      · rw [List.getElem?_append_right (by omega), hl, show (k + 1) * 2 + 1 - 2 = k * 2 + 1 by omega, this.2]; rfl
theorem klOne_one (x : Int × ByteArray) : ∀ u ∈ klOne x, u.oneCell' = true := by
  intro u hu
  simp only [klOne, List.mem_cons, List.not_mem_nil, or_false] at hu
  rcases hu with rfl | rfl <;> rfl
theorem kl_lit1 (w : World) (t : TypeId) (k : Int) (x : ByteArray) : CellsR (w.alloc (.cells #[.int .i64 k, .string x] t)) (some ⟨w.heap.size, 0, none⟩) (klCells [(k, x)]) := by
  refine .inr ⟨_, _, rfl, fun j u hu => ?_⟩
  have := (Blk.new w t #[.int .i64 k, .string x]).cell (0 + j)
  rw [this]
  simpa [klCells, klOne] using hu
theorem klCells1_one (k : Int) (x : ByteArray) : ∀ u ∈ klCells [(k, x)], u.oneCell' = true := by
  rw [klCells_cons]
  simpa [klCells] using klOne_one (k, x)
def KlR (w : World) (A : Option Addr) (l : KLs) : Prop := CellsR w A (klCells l)
theorem KlR.at_ {w : World} {A : Option Addr} {l : KLs} (h : KlR w A l) {k : Nat} (hk : k < l.length) :
    ∃ b off, A = some ⟨b, off, none⟩ ∧ b < w.heap.size ∧ w.cell? ⟨b, off + k * 2, none⟩ = some (.int .i64 (l.getD k (0, ⟨#[]⟩)).1) ∧ w.cell? ⟨b, off + k * 2 + 1, none⟩ = some (.string (l.getD k (0, ⟨#[]⟩)).2) := by
  obtain ⟨g1, g2⟩ := klCells_get l k hk
  rcases h with h | ⟨b, off, hA, hc⟩
  · rw [h] at g1; simp at g1
  · exact ⟨b, off, hA, World.block_lt_of_cell? _ _ (hc _ _ g1), hc _ _ g1, hc _ _ g2⟩

theorem own_neH {w : World} {base e size n g t : Nat} {v : Value} {xs : List Value} {cs : Array Value} (ho : w.ownsRow base e size v n xs) (hb : Blk w g t cs) (hne : t ≠ e) : some g ≠ v.ownBlock := by
  rcases ho.2 with ⟨rfl, _⟩ | ⟨g', cap, cur, rfl, _, h3, _⟩
  · simp [Value.ownBlock]
  · intro h
    have : g = g' := by simpa [Value.ownBlock] using h
    subst this
    unfold Blk at hb
    rw [hb] at h3
    injection h3 with h3
    injection h3 with _ ht
    exact hne ht
theorem own_belowH {w w' : World} {base : Nat} {e : TypeId} {size n : Nat} {v : Value} {xs : List Value} {B : Nat} (h : w.ownsRow base e size v n xs) (hf : Below B w w') (hB : w.heap.size ≤ B) : w'.ownsRow base e size v n xs := by
  refine ⟨h.1, ?_⟩
  rcases h.2 with h1 | ⟨g, cap, cur, h1, h2, h3, h4⟩
  · exact .inl h1
  · refine .inr ⟨g, cap, cur, h1, h2, ?_, h4⟩
    have hl : g < w.heap.size := by
      rcases Nat.lt_or_ge g w.heap.size with h5 | h5
      · exact h5
      · rw [Array.getElem?_eq_none h5] at h3; cases h3
    exact (hf.block g (by omega)).trans h3
theorem own_setH {w : World} {base e size n g t : Nat} {v : Value} {xs : List Value} {cs : Array Value} (ho : w.ownsRow base e size v n xs) (hb : Blk w g t cs) (hne : t ≠ e) (o : Nat) (u : Value) : (w.setCell ⟨g, o, none⟩ u).ownsRow base e size v n xs := by
  have hn := own_neH ho hb hne
  refine ⟨ho.1, ?_⟩
  rcases ho.2 with h1 | ⟨g', cap, cur, rfl, h2, h3, h4⟩
  · exact .inl h1
  · refine .inr ⟨g', cap, cur, rfl, h2, ?_, h4⟩
    exact (Below.heap_setCell w _ _ g' (fun h => hn (by simp [Value.ownBlock]; exact h.symm))).trans h3

/-- a hunk whose block and row are the call's own -/
def HkO (w : World) (base g : Nat) (h : Hk) : Prop :=
  base ≤ g ∧ ∃ A c, Blk w g 61 #[.int .i64 h.fl, .int .i64 h.tl, .slice A h.ls.length c] ∧ w.ownsRow base 64 2 (.slice A h.ls.length c) h.ls.length (klCells h.ls)
theorem HkO.below {w w' : World} {base B g : Nat} {h : Hk} (hh : HkO w base g h) (hb : Below B w w') (hB : w.heap.size ≤ B) : HkO w' base g h := by
  obtain ⟨h1, A, c, h2, h3⟩ := hh
  exact ⟨h1, A, c, h2.below hb (by have := h2.lt; omega), own_belowH h3 hb hB⟩
theorem HkO.mono {w : World} {base base' g : Nat} {h : Hk} (hh : HkO w base g h) (hb : base' ≤ base) : HkO w base' g h := by
  obtain ⟨h1, A, c, h2, h3⟩ := hh
  exact ⟨by omega, A, c, h2, own_mono h3 hb⟩
theorem HkO.alloc {w : World} {base g : Nat} {h : Hk} (hh : HkO w base g h) (o : Obj) : HkO (w.alloc o) base g h := by
  obtain ⟨h1, A, c, h2, h3⟩ := hh
  exact ⟨h1, A, c, h2.alloc o, h3.alloc o⟩
/-- growing a row of another kind leaves it -/
theorem HkO.grown {w w' : World} {base g : Nat} {h : Hk} {b e size n : Nat} {v : Value} {xs : List Value} (hh : HkO w base g h) (ho : w.ownsRow b e size v n xs) (h1 : e ≠ 61) (h2 : e ≠ 64) (hg : w.grownBy w' v.ownBlock) : HkO w' base g h := by
  obtain ⟨g1, A, c, g2, g3⟩ := hh
  exact ⟨g1, A, c, g2.grown hg (own_neH ho g2 (Ne.symm h1)), g3.kept hg (own_ne g3 ho (Ne.symm h2))⟩
/-- so does a store in a block of another kind -/
theorem HkO.setc {w : World} {base g : Nat} {h : Hk} {b t : Nat} {cs : Array Value} (hh : HkO w base g h) (hb : Blk w b t cs) (h1 : t ≠ 61) (h2 : t ≠ 64) (o : Nat) (u : Value) : HkO (w.setCell ⟨b, o, none⟩ u) base g h := by
  obtain ⟨g1, A, c, g2, g3⟩ := hh
  exact ⟨g1, A, c, g2.far (g2.ne_ hb (Ne.symm h1)) u, own_setH g3 hb h2 o u⟩
def HksO (w : World) (base : Nat) (gs : List Nat) (hs : List Hk) : Prop := gs.length = hs.length ∧ ∀ (k : Nat) (g : Nat) (h : Hk), gs[k]? = some g → hs[k]? = some h → HkO w base g h
theorem HksO.map {w w' : World} {base : Nat} {gs : List Nat} {hs : List Hk} (h : HksO w base gs hs) (f : ∀ g h, HkO w base g h → HkO w' base g h) : HksO w' base gs hs := ⟨h.1, fun k g x h1 h2 => f _ _ (h.2 k g x h1 h2)⟩
theorem HksO.snoc {w : World} {base : Nat} {gs : List Nat} {hs : List Hk} (h : HksO w base gs hs) {g : Nat} {x : Hk} (hx : HkO w base g x) : HksO w base (gs ++ [g]) (hs ++ [x]) := by
  refine ⟨by simp [h.1], fun k g' x' h1 h2 => ?_⟩
  by_cases hk : k < gs.length
  · rw [List.getElem?_append_left hk] at h1
    rw [List.getElem?_append_left (by rw [← h.1]; exact hk)] at h2
    exact h.2 k g' x' h1 h2
  · rw [List.getElem?_append_right (by omega)] at h1
    rw [List.getElem?_append_right (by rw [← h.1]; omega), ← h.1] at h2
    obtain ⟨i, hi⟩ : ∃ i, k - gs.length = i := ⟨_, rfl⟩
    rw [hi] at h1 h2
    cases i with
    | zero =>
      simp at h1 h2
      subst h1 h2
      exact hx
    | succ i => simp at h1
def hpCells (gs : List Nat) : List Value := gs.map fun g => .pointer (some ⟨g, 0, none⟩)
theorem hpCells_append (a b : List Nat) : hpCells (a ++ b) = hpCells a ++ hpCells b := by simp [hpCells]
theorem hp_lit1 (w : World) (t : TypeId) (g : Nat) : CellsR (w.alloc (.cells #[.pointer (some ⟨g, 0, none⟩)] t)) (some ⟨w.heap.size, 0, none⟩) (hpCells [g]) := by
  refine .inr ⟨_, _, rfl, fun j u hu => ?_⟩
  have := (Blk.new w t #[.pointer (some ⟨g, 0, none⟩)]).cell (0 + j)
  rw [this]
  simpa [hpCells] using hu
theorem hp_one (gs : List Nat) : ∀ u ∈ hpCells gs, u.oneCell' = true := by
  intro u hu
  simp only [hpCells, List.mem_map] at hu
  obtain ⟨x, _, rfl⟩ := hu
  rfl
/-- the hunks made so far, in the variable at block ub -/
def UM (w : World) (base ub : Nat) (f t : ByteArray) (hs : List Hk) : Prop :=
  ∃ gs A c, Blk w ub 46 #[.string f, .string t, .slice A hs.length c] ∧ w.ownsRow base 56 1 (.slice A hs.length c) hs.length (hpCells gs) ∧ HksO w base gs hs
theorem UM.below {w w' : World} {base ub B : Nat} {f t : ByteArray} {hs : List Hk} (h : UM w base ub f t hs) (hb : Below B w w') (hB : w.heap.size ≤ B) : UM w' base ub f t hs := by
  obtain ⟨gs, A, c, h1, h2, h3⟩ := h
  exact ⟨gs, A, c, h1.below hb (by have := h1.lt; omega), own_belowH h2 hb hB, h3.map fun g h x => x.below hb hB⟩
/-- one hunk more: the row has grown (out of a world with the new cell laid), the variable is stored -/
theorem UM.push {w w1 : World} {base ub g : Nat} {f t : ByteArray} {hs : List Hk} {x : Hk} {gs : List Nat} {A A' : Option Addr} {c c' : Nat}
    (h1 : Blk w ub 46 #[.string f, .string t, .slice A hs.length c]) (h2 : w.ownsRow base 56 1 (.slice A hs.length c) hs.length (hpCells gs)) (h3 : HksO w base gs hs) (hx : HkO w base g x)
    (o : w1.ownsRow base 56 1 (.slice A' (hs.length + 1) c') (hs.length + 1) (hpCells gs ++ hpCells [g])) (hg : (w.alloc (.cells #[.pointer (some ⟨g, 0, none⟩)] 56)).grownBy w1 (Value.slice A hs.length c).ownBlock) :
    UM (w1.setCell ⟨ub, 2, none⟩ (.slice A' (hs.length + 1) c')) base ub f t (hs ++ [x]) := by
  have b1 := (h1.alloc (.cells #[.pointer (some ⟨g, 0, none⟩)] 56)).grown hg (own_neH (h2.alloc (.cells #[.pointer (some ⟨g, 0, none⟩)] 56)) (h1.alloc _) (by decide))
  refine ⟨gs ++ [g], A', c', ?_, ?_, ?_⟩
  · rw [List.length_append]
    exact b1.set_ 2 _
  · rw [List.length_append, hpCells_append]
    exact own_setH o b1 (by decide) 2 _
  · refine HksO.map (w := w) (h3.snoc hx) fun g' h' hh => ?_
    exact ((hh.alloc _).grown (h2.alloc _) (by decide) (by decide) hg).setc b1 (by decide) (by decide) 2 _
/-- hunks that can be read -/
def HkR (w : World) (g : Nat) (h : Hk) : Prop := ∃ A c, Blk w g 61 #[.int .i64 h.fl, .int .i64 h.tl, .slice A h.ls.length c] ∧ KlR w A h.ls
def HksR (w : World) (A : Option Addr) (hs : List Hk) : Prop := ∃ gs, CellsR w A (hpCells gs) ∧ gs.length = hs.length ∧ ∀ (k : Nat) (g : Nat) (h : Hk), gs[k]? = some g → hs[k]? = some h → HkR w g h
theorem HkO.read {w : World} {base g : Nat} {h : Hk} (hh : HkO w base g h) : HkR w g h := by
  obtain ⟨h1, A, c, h2, h3⟩ := hh
  exact ⟨A, c, h2, CellsR.of_own h3⟩
theorem UM.read {w : World} {base ub : Nat} {f t : ByteArray} {hs : List Hk} (h : UM w base ub f t hs) : ∃ A c, Blk w ub 46 #[.string f, .string t, .slice A hs.length c] ∧ HksR w A hs := by
  obtain ⟨gs, A, c, h1, h2, h3⟩ := h
  exact ⟨A, c, h1, gs, CellsR.of_own h2, h3.1, fun k g x a b => (h3.2 k g x a b).read⟩
theorem HkR.below {w w' : World} {B g : Nat} {h : Hk} (hh : HkR w g h) (hb : Below B w w') (hB : w.heap.size ≤ B) : HkR w' g h := by
  obtain ⟨A, c, h2, h3⟩ := hh
  exact ⟨A, c, h2.below hb (by have := h2.lt; omega), CellsR.below h3 hb hB⟩
theorem HksR.below {w w' : World} {B : Nat} {A : Option Addr} {hs : List Hk} (h : HksR w A hs) (hb : Below B w w') (hB : w.heap.size ≤ B) : HksR w' A hs := by
  obtain ⟨gs, h1, h2, h3⟩ := h
  exact ⟨gs, CellsR.below h1 hb hB, h2, fun k g x a b => (h3 k g x a b).below hb hB⟩
theorem HksR.at_ {w : World} {A : Option Addr} {hs : List Hk} (h : HksR w A hs) {k : Nat} (hk : k < hs.length) : ∃ b off g, A = some ⟨b, off, none⟩ ∧ b < w.heap.size ∧ w.cell? ⟨b, off + k, none⟩ = some (.pointer (some ⟨g, 0, none⟩)) ∧ HkR w g (hs.getD k ⟨0, 0, []⟩) := by
  obtain ⟨gs, h1, h2, h3⟩ := h
  have hkg : k < gs.length := by omega
  have g1 : (hpCells gs)[k]? = some (.pointer (some ⟨gs[k], 0, none⟩)) := by simp [hpCells, hkg]
  rcases h1 with h | ⟨b, off, hA, hc⟩
  · rw [h] at g1; simp at g1
  · refine ⟨b, off, gs[k], hA, World.block_lt_of_cell? _ _ (hc _ _ g1), hc _ _ g1, ?_⟩
    exact h3 k _ _ (List.getElem?_eq_getElem hkg) (by simp [hk])
end Go.Proofs.YtgphjnhbheimiaaDoor
