/-
  The memory in which hunks are made, step by step. No condition.
-/
import Derived.Test.YtgphjnhbheimiaaDoorAddW
namespace Go.Proofs.YtgphjnhbheimiaaDoor
set_option linter.unusedVariables false
open Go.RowKit

/-- blocks of a world are as they were, but one -/
def KeepB (ub : Nat) (w0 w : World) : Prop := w0.heap.size ≤ w.heap.size ∧ ∀ g, g < w0.heap.size → g ≠ ub → w.heap[g]? = w0.heap[g]?
theorem KeepB.refl (ub : Nat) (w : World) : KeepB ub w w := ⟨Nat.le_refl _, fun _ _ _ => rfl⟩
theorem KeepB.below {ub B : Nat} {w0 w w' : World} (h : KeepB ub w0 w) (hb : Below B w w') (hB : w0.heap.size ≤ B) : KeepB ub w0 w' :=
  ⟨Nat.le_trans h.1 hb.size, fun g h1 h2 => (hb.block g (by omega)).trans (h.2 g h1 h2)⟩
theorem KeepB.cells {ub : Nat} {w0 w : World} {A : Option Addr} {xs : List Value} (h : CellsR w0 A xs) (hk : KeepB ub w0 w) (hn : ∀ b off, A = some ⟨b, off, none⟩ → xs ≠ [] → b ≠ ub) : CellsR w A xs := by
  by_cases hx : xs = []
  · exact .inl hx
  · rcases h with h | ⟨b, off, hA, hc⟩
    · exact .inl h
    · refine .inr ⟨b, off, hA, fun j u hu => ?_⟩
      have h1 := hc j u hu
      have h2 : b < w0.heap.size := World.block_lt_of_cell? _ _ h1
      rw [World.cell?_of_block (hk.2 b h2 (hn b off hA hx))]
      exact h1
/-- edits do not lie in the variable's block -/
theorem nb_eds {ub : Nat} {w0 : World} {A A2 : Option Addr} {es : List Ed} {f t : ByteArray} {n c : Nat} (h : EdsR w0 A es) (hb : Blk w0 ub 46 #[.string f, .string t, .slice A2 n c]) : ∀ b off, A = some ⟨b, off, none⟩ → edCells es ≠ [] → b ≠ ub := by
  rintro b off rfl hne rfl
  cases es with
  | nil => exact hne rfl
  | cons x l =>
    obtain ⟨b', off', hA, hlt, h0, h1, h2⟩ := h.at_ (k := 0) (by simp)
    injection hA with hA
    injection hA with e1 e2
    subst e1 e2
    rw [Nat.zero_mul, Nat.add_zero] at h0
    rw [hb.cell off] at h0
    rcases off with _ | _ | _ | off <;> simp at h0
/-- nor do lines in a row that was made later -/
theorem nb_own {ub base e size n c : Nat} {w : World} {A : Option Addr} {xs : List Value} (h : w.ownsRow base e size (.slice A n c) n xs) (hu : ub < base) : ∀ b off, A = some ⟨b, off, none⟩ → xs ≠ [] → b ≠ ub := by
  rintro b off rfl _ rfl
  have := (h.lt b rfl).1
  omega

theorem own_nilH (w : World) (base e size c : Nat) : w.ownsRow base e size (.slice none 0 0) 0 [] := ⟨by simp, .inl ⟨rfl, rfl⟩⟩
theorem HkO.new (w : World) (a b : Int) : HkO (w.alloc (.cells #[.int .i64 a, .int .i64 b, .slice none 0 0] 61)) w.heap.size w.heap.size ⟨a, b, []⟩ :=
  ⟨Nat.le_refl _, none, 0, Blk.new w _ _, own_nilH _ _ _ _ 0⟩
theorem HkO.set0 {w : World} {base g : Nat} {h : Hk} (hh : HkO w base g h) (x : Int) : HkO (w.setCell ⟨g, 0, none⟩ (.int .i64 x)) base g ⟨x, h.tl, h.ls⟩ := by
  obtain ⟨g1, A, c, g2, g3⟩ := hh
  exact ⟨g1, A, c, g2.set_ 0 _, own_setH g3 g2 (by decide) 0 _⟩
theorem HkO.set1 {w : World} {base g : Nat} {h : Hk} (hh : HkO w base g h) (x : Int) : HkO (w.setCell ⟨g, 1, none⟩ (.int .i64 x)) base g ⟨h.fl, x, h.ls⟩ := by
  obtain ⟨g1, A, c, g2, g3⟩ := hh
  exact ⟨g1, A, c, g2.set_ 1 _, own_setH g3 g2 (by decide) 1 _⟩
theorem HkO.cells {w : World} {base g : Nat} {h : Hk} (hh : HkO w base g h) : w.cell? ⟨g, 0, none⟩ = some (.int .i64 h.fl) ∧ w.cell? ⟨g, 1, none⟩ = some (.int .i64 h.tl) ∧ w.frozen? ⟨g, 0, none⟩ = false ∧ w.frozen? ⟨g, 1, none⟩ = false ∧ base ≤ g ∧ g < w.heap.size := by
  obtain ⟨g1, A, c, g2, g3⟩ := hh
  exact ⟨g2.cell 0, g2.cell 1, g2.frozen 0, g2.frozen 1, g1, g2.lt⟩

section
variable {B0 ub : Nat} {f t : ByteArray} {w w0 : World}
/-- hunks made, and one under way -/
def StO (B0 ub : Nat) (f t : ByteArray) (w w0 : World) (hs : List Hk) (hk : Hk) (hv : Value) (wr : World) : Prop :=
  ∃ wh g, Below B0 w wh ∧ KeepB ub w0 wh ∧ UM wh w0.heap.size ub f t hs ∧ Below wh.heap.size wh wr ∧ hv = .pointer (some ⟨g, 0, none⟩) ∧ HkO wr wh.heap.size g hk
/-- hunks made, none under way -/
def StN (B0 ub : Nat) (f t : ByteArray) (w w0 : World) (hs : List Hk) (wr : World) : Prop := Below B0 w wr ∧ KeepB ub w0 wr ∧ UM wr w0.heap.size ub f t hs
def StU (B0 ub : Nat) (f t : ByteArray) (w w0 : World) (st : Ust) (hv : Value) (wr : World) : Prop :=
  match st.h with
  | none => hv = .pointer none ∧ StN B0 ub f t w w0 st.hs wr
  | some hk => StO B0 ub f t w w0 st.hs hk hv wr
theorem StO.base {hs : List Hk} {hk : Hk} {hv : Value} {wr : World} (h : StO B0 ub f t w w0 hs hk hv wr) (hB : B0 ≤ w0.heap.size) : ∃ g, hv = .pointer (some ⟨g, 0, none⟩) ∧ HkO wr w0.heap.size g hk ∧ StN B0 ub f t w w0 hs wr := by
  obtain ⟨wh, g, h1, h2, h3, h4, h5, h6⟩ := h
  have := h2.1
  exact ⟨g, h5, h6.mono this, h1.trans (h4.mono (by omega)), h2.below h4 this, h3.below h4 (Nat.le_refl _)⟩
theorem StN.below {hs : List Hk} {wr wr' : World} (h : StN B0 ub f t w w0 hs wr) (hb : Below wr.heap.size wr wr') (hB : B0 ≤ w0.heap.size) : StN B0 ub f t w w0 hs wr' :=
  ⟨h.1.trans (hb.mono (by have := h.2.1.1; omega)), h.2.1.below hb h.2.1.1, h.2.2.below hb (Nat.le_refl _)⟩
theorem StO.below {hs : List Hk} {hk : Hk} {hv : Value} {wr wr' : World} (h : StO B0 ub f t w w0 hs hk hv wr) (hb : Below wr.heap.size wr wr') : StO B0 ub f t w w0 hs hk hv wr' := by
  obtain ⟨wh, g, h1, h2, h3, h4, h5, h6⟩ := h
  exact ⟨wh, g, h1, h2, h3, h4.trans (hb.mono h4.size), h5, h6.below hb (Nat.le_refl _)⟩
theorem StU.below {st : Ust} {hv : Value} {wr wr' : World} (h : StU B0 ub f t w w0 st hv wr) (hb : Below wr.heap.size wr wr') (hB : B0 ≤ w0.heap.size) : StU B0 ub f t w w0 st hv wr' := by
  unfold StU at h ⊢
  split at h
  · exact ⟨h.1, h.2.below hb hB⟩
  · exact StO.below h hb
theorem StU.keep {st : Ust} {hv : Value} {wr : World} (h : StU B0 ub f t w w0 st hv wr) (hB : B0 ≤ w0.heap.size) : Below B0 w wr ∧ KeepB ub w0 wr := by
  unfold StU at h
  split at h
  · exact ⟨h.2.1, h.2.2.1⟩
  · obtain ⟨g, h1, h2, h3⟩ := StO.base h hB
    exact ⟨h3.1, h3.2.1⟩
/-- one hunk is done -/
theorem StN.push {hs : List Hk} {x : Hk} {wr w1 : World} {g : Nat} {gs : List Nat} {A A' : Option Addr} {c c' : Nat} (h : StN B0 ub f t w w0 hs wr) (hB : B0 ≤ w0.heap.size) (hU : B0 ≤ ub) (hw : w.heap.size ≤ B0)
    (h1 : Blk wr ub 46 #[.string f, .string t, .slice A hs.length c]) (h2 : wr.ownsRow w0.heap.size 56 1 (.slice A hs.length c) hs.length (hpCells gs)) (h3 : HksO wr w0.heap.size gs hs) (hx : HkO wr w0.heap.size g x)
    (o : w1.ownsRow w0.heap.size 56 1 (.slice A' (hs.length + 1) c') (hs.length + 1) (hpCells gs ++ hpCells [g])) (hg : (wr.alloc (.cells #[.pointer (some ⟨g, 0, none⟩)] 56)).grownBy w1 (Value.slice A hs.length c).ownBlock) :
    StN B0 ub f t w w0 (hs ++ [x]) (w1.setCell ⟨ub, 2, none⟩ (.slice A' (hs.length + 1) c')) := by
  obtain ⟨g1, g2, g3⟩ := h
  have hz := g2.1
  refine ⟨(((g1.alloc (by omega) _).grown hg (by simp; omega) (fun k hk => by have := (h2.lt k hk).1; omega)).setCell (by show B0 ≤ ub; exact hU) _), ⟨?_, fun k h4 h5 => ?_⟩, UM.push h1 h2 h3 hx o hg⟩
  · have := hg.size
    simp only [World.size_alloc] at this
    rw [World.size_setCell]
    omega
  · have e1 := Below.heap_setCell w1 ⟨ub, 2, none⟩ (.slice A' (hs.length + 1) c') k (fun h => h5 h)
    have e2 := hg.block k (by simp; omega) (fun hh => by have := (h2.lt k hh.symm).1; omega)
    have e3 := Below.heap_alloc wr (.cells #[.pointer (some ⟨g, 0, none⟩)] 56) k (by omega)
    rw [e1, e2, e3]
    exact g2.2 k h4 h5
/-- a new hunk -/
theorem StN.start {hs : List Hk} {wr : World} (h : StN B0 ub f t w w0 hs wr) (a b : Int) : StO B0 ub f t w w0 hs ⟨a, b, []⟩ (.pointer (some ⟨wr.heap.size, 0, none⟩)) (wr.alloc (.cells #[.int .i64 a, .int .i64 b, .slice none 0 0] 61)) :=
  ⟨wr, wr.heap.size, h.1, h.2.1, h.2.2, (Below.refl _ _).alloc (Nat.le_refl _) _, rfl, HkO.new wr a b⟩
/-- one line more in the hunk under way -/
theorem HkO.line {W w2 : World} {base g n1 c1 c2 : Nat} {fl tl : Int} {A1 A2 : Option Addr} {l : KLs} {x : Int × ByteArray} (hbg : base ≤ g) (hbW : base ≤ W.heap.size) (hn1 : l.length = n1)
    (hblk : Blk W g 61 #[.int .i64 fl, .int .i64 tl, .slice A1 n1 c1]) (hown : W.ownsRow base 64 2 (.slice A1 n1 c1) n1 (klCells l))
    (hown2 : w2.ownsRow base 64 2 (.slice A2 (n1 + 1) c2) (n1 + 1) (klCells l ++ klCells [x])) (hg : W.grownBy w2 (Value.slice A1 n1 c1).ownBlock) :
    HkO (w2.setCell ⟨g, 2, none⟩ (.slice A2 (n1 + 1) c2)) base g ⟨fl, tl, l ++ [x]⟩ ∧ Below base W (w2.setCell ⟨g, 2, none⟩ (.slice A2 (n1 + 1) c2)) ∧ FrH g W (w2.setCell ⟨g, 2, none⟩ (.slice A2 (n1 + 1) c2)) := by
  have zb := hblk.grown hg (own_neH hown hblk (by decide))
  refine ⟨⟨hbg, A2, c2, ?_, ?_⟩, ((Below.refl base W).grown hg hbW (fun g' hg' => (hown.lt g' hg').1)).setCell (by show base ≤ g; exact hbg) _, (FrH.refl g W).line hown hg 2 _⟩
  · have := zb.set_ 2 (.slice A2 (n1 + 1) c2)
    simp only [List.length_append, hn1]
    exact this
  · have := own_setH hown2 zb (by decide) 2 (.slice A2 (n1 + 1) c2)
    simp only [List.length_append, hn1]
    rw [klCells_append]
    exact this
/-- what the walk reads of the hunk under way -/
theorem StO.open_ {hs : List Hk} {hk : Hk} {hv : Value} {wr : World} (h : StO B0 ub f t w w0 hs hk hv wr) : ∃ base g A1 c1, hv = .pointer (some ⟨g, 0, none⟩) ∧ base ≤ g ∧ base ≤ wr.heap.size ∧
    Blk wr g 61 #[.int .i64 hk.fl, .int .i64 hk.tl, .slice A1 hk.ls.length c1] ∧ wr.ownsRow base 64 2 (.slice A1 hk.ls.length c1) hk.ls.length (klCells hk.ls) ∧
    ∀ w' hk', HkO w' base g hk' → Below base wr w' → StO B0 ub f t w w0 hs hk' hv w' := by
  obtain ⟨wh, g, h1, h2, h3, h4, h5, h6, A1, c1, h7, h8⟩ := h
  exact ⟨wh.heap.size, g, A1, c1, h5, h6, h4.size, h7, h8, fun w' hk' a b => ⟨wh, g, h1, h2, h3, h4.trans b, h5, a⟩⟩
theorem StO.set0 {hs : List Hk} {hk : Hk} {g : Nat} {wr : World} (h : StO B0 ub f t w w0 hs hk (.pointer (some ⟨g, 0, none⟩)) wr) (x : Int) : StO B0 ub f t w w0 hs ⟨x, hk.tl, hk.ls⟩ (.pointer (some ⟨g, 0, none⟩)) (wr.setCell ⟨g, 0, none⟩ (.int .i64 x)) := by
  obtain ⟨wh, g', h1, h2, h3, h4, h5, h6⟩ := h
  obtain rfl : g = g' := by injection h5 with h5; injection h5 with h5; injection h5
  exact ⟨wh, g, h1, h2, h3, h4.setCell (by show wh.heap.size ≤ g; exact h6.1) _, rfl, h6.set0 x⟩
theorem StO.set1 {hs : List Hk} {hk : Hk} {g : Nat} {wr : World} (h : StO B0 ub f t w w0 hs hk (.pointer (some ⟨g, 0, none⟩)) wr) (x : Int) : StO B0 ub f t w w0 hs ⟨hk.fl, x, hk.ls⟩ (.pointer (some ⟨g, 0, none⟩)) (wr.setCell ⟨g, 1, none⟩ (.int .i64 x)) := by
  obtain ⟨wh, g', h1, h2, h3, h4, h5, h6⟩ := h
  obtain rfl : g = g' := by injection h5 with h5; injection h5 with h5; injection h5
  exact ⟨wh, g, h1, h2, h3, h4.setCell (by show wh.heap.size ≤ g; exact h6.1) _, rfl, h6.set1 x⟩
theorem StO.cells {hs : List Hk} {hk : Hk} {g : Nat} {wr : World} (h : StO B0 ub f t w w0 hs hk (.pointer (some ⟨g, 0, none⟩)) wr) : wr.cell? ⟨g, 0, none⟩ = some (.int .i64 hk.fl) ∧ wr.cell? ⟨g, 1, none⟩ = some (.int .i64 hk.tl) ∧ wr.frozen? ⟨g, 0, none⟩ = false ∧ wr.frozen? ⟨g, 1, none⟩ = false := by
  obtain ⟨wh, g', h1, h2, h3, h4, h5, h6⟩ := h
  obtain rfl : g = g' := by injection h5 with h5; injection h5 with h5; injection h5
  have := h6.cells
  exact ⟨this.1, this.2.1, this.2.2.1, this.2.2.2.1⟩
theorem StO.lines {hs : List Hk} {hk : Hk} {hv : Value} {wr : World} {A : Option Addr} {L : List ByteArray} (h : StO B0 ub f t w w0 hs hk hv wr) (hL : StrsR w0 A L) (hN : ∀ b off, A = some ⟨b, off, none⟩ → strCells L ≠ [] → b ≠ ub) : StrsR wr A L := by
  obtain ⟨wh, g, h1, h2, h3, h4, h5, h6⟩ := h
  exact KeepB.cells hL (h2.below h4 h2.1) hN
/-- kept lines put in -/
theorem addStO {hs : List Hk} {hk : Hk} {g : Nat} {wr : World} {A : Option Addr} {L : List ByteArray} (c : Nat) (a b : Int) (h : StO B0 ub f t w w0 hs hk (.pointer (some ⟨g, 0, none⟩)) wr) (hL : StrsR w0 A L) (hN : ∀ b off, A = some ⟨b, off, none⟩ → strCells L ≠ [] → b ≠ ub)
    (hl : L.length ≤ 4000000) (hn : hk.ls.length ≤ 5000000000000) (ha : -1000 ≤ a) (ha2 : a ≤ 100000000) (hb : b ≤ 100000000) :
    Calls Tryd.prog 21 #[.pointer (some ⟨g, 0, none⟩), .slice A L.length c, .int .i64 a, .int .i64 b] wr fun e w' => e = .returned (.int .i64 (eqF L a b).length) ∧ StO B0 ub f t w w0 hs (hk.add (eqF L a b)) (.pointer (some ⟨g, 0, none⟩)) w' ∧ FrH g wr w' := by
  obtain ⟨wh, g', h1, h2, h3, h4, h5, h6⟩ := h
  obtain rfl : g = g' := by injection h5 with h5; injection h5 with h5; injection h5
  refine (addEq_any g hk A c L a b wh.heap.size wh wr (KeepB.cells hL h2 hN) h4 (Nat.le_refl _) h6 hl hn ha ha2 hb).mono ?_
  rintro e w' ⟨he, h7, h8, h9⟩
  exact ⟨he, ⟨wh, g, h1, h2, h3, h4.trans h8, rfl, h7⟩, h9⟩
end
/-- a store in another variable leaves the hunks -/
theorem UM.setc {w : World} {base ub rb : Nat} {f t : ByteArray} {hs : List Hk} {cs : Array Value} (h : UM w base ub f t hs) (hb : Blk w rb 46 cs) (hn : rb ≠ ub) (o : Nat) (u : Value) : UM (w.setCell ⟨rb, o, none⟩ u) base ub f t hs := by
  obtain ⟨gs, A, c, h1, h2, h3⟩ := h
  exact ⟨gs, A, c, h1.far (p := ⟨rb, o, none⟩) (Ne.symm hn) u, own_setH h2 hb (by decide) o u, h3.map fun g h x => x.setc hb (by decide) (by decide) o u⟩
theorem Hk.add_nil (h : Hk) : h.add [] = h := by simp [Hk.add]
theorem szK_len30 (l : KLs) : 30 * l.length ≤ szK l := by
  induction l with
  | nil => exact Nat.le_refl _
  | cons x a ih => simp only [szK, List.length_cons]; omega
theorem mul_mm {a b m n : Nat} (h1 : a ≤ m) (h2 : b ≤ n) : a * b ≤ m * n := Nat.mul_le_mul h1 h2
/-- bounds in numbers -/
theorem UGood.num {L : List ByteArray} {S k z : Nat} {st : Ust} (h : UGood L (31 * S) k z st) (hS : S ≤ 1000000) (hL : L.length ≤ 1000000) (hk : k ≤ 1000000) (hz : z ≤ 3000000) :
    -1000000000000 ≤ st.tl ∧ st.tl ≤ 1000003000000 ∧ (∀ x, st.h = some x → x.ls.length ≤ 4000000000000) ∧ st.hs.length ≤ 1000000 ∧ 0 ≤ st.last ∧ st.last ≤ 1000000 := by
  have h1 : (k : Int) * L.length ≤ 1000000000000 := by
    have := mul_mm hk hL
    have h2 : ((k * L.length : Nat) : Int) ≤ ((1000000 * 1000000 : Nat) : Int) := by omega
    rw [Int.natCast_mul] at h2
    omega
  have h3 : k * (3 * (31 * S) + 200) ≤ 1000000 * 93000200 := mul_mm hk (by omega)
  have := h.tl0
  have := h.tl1
  have := h.last0
  have := h.last1
  have := h.count
  have h9 := h.size
  refine ⟨by omega, by omega, fun x hx => ?_, by omega, by omega, by omega⟩
  rw [hx] at h9
  simp only [szO] at h9
  have := szK_len30 x.ls
  omega
theorem openU_num {L : List ByteArray} {S k z : Nat} {st : Ust} {c a : Int} (h : UGood L (31 * S) k z st) (hT : totB L + 30 * L.length ≤ 31 * S) (hc : 0 ≤ c) (h8 : c ≤ 8) (ha : 0 ≤ a) (haL : a ≤ L.length) (hS : S ≤ 1000000) (hL : L.length ≤ 1000000) (hk : k ≤ 1000000) (hz : z ≤ 3000000) :
    (openU L c a st).2.1.ls.length ≤ 4000000000000 ∧ -1000001000000 ≤ (openU L c a st).2.2 ∧ (openU L c a st).2.2 ≤ 1000004000000 := by
  have h1 : (k : Int) * L.length ≤ 1000000000000 := by
    have := mul_mm hk hL
    have h2 : ((k * L.length : Nat) : Int) ≤ ((1000000 * 1000000 : Nat) : Int) := by omega
    rw [Int.natCast_mul] at h2
    omega
  have h3 : k * (3 * (31 * S) + 200) ≤ 1000000 * 93000200 := mul_mm hk (by omega)
  obtain ⟨g1, g2, g3, g4, g5⟩ := openU_good hT hc h8 h ha haL
  have := szK_len30 (openU L c a st).2.1.ls
  exact ⟨by omega, by omega, by omega⟩
end Go.Proofs.YtgphjnhbheimiaaDoor
