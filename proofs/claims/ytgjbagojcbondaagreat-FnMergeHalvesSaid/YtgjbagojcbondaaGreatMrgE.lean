/-
  diff.Merge computes the plain function mg. Condition: at most 3000000 edits each.
  diff.Merge computes the plain function mg, in new memory. Condition: at most 3000000 edits each.
  impl.Merge: the merged edits in new memory, and whether there was no conflict. Condition: at most 3000000 edits each.
  Lists of edits in order, merged, are in order; and how much the merged list puts in. Plainly.
-/
import Derived.Test.YtgjbagojcbondaaGreatTxtA
import Derived.Deep.RegionWith
import Derived.Deep.RegionHeld3
import Derived.Deep.LoopGhost
namespace Go.Proofs.YtgjbagojcbondaaGreat
set_option linter.unusedVariables false
open Go.RowKit

/-- below base nothing but block g has turned -/
structure Only (w w' : World) (g base : Nat) : Prop where
  os : w'.os = w.os
  tape : w'.tape = w.tape
  output : w'.output = w.output
  size : w.heap.size ≤ w'.heap.size
  block : ∀ k, k < base → k ≠ g → w'.heap[k]? = w.heap[k]?
theorem Only.below {w w' : World} {g base B : Nat} (h : Only w w' g base) (hB : B ≤ base) (hg : B ≤ g) : Below B w w' :=
  ⟨h.os, h.tape, h.output, h.size, fun k hk => h.block k (by omega) (by omega)⟩
theorem Only.own {w w' : World} {g base b e size n : Nat} {v : Value} {xs : List Value} (h : Only w w' g base) (ho : w.ownsRow b e size v n xs) (hv : ∀ k, v.ownBlock = some k → k < base ∧ k ≠ g) : w'.ownsRow b e size v n xs := by
  refine ⟨ho.1, ?_⟩
  rcases ho.2 with hn | ⟨g', cap, cur, rfl, hb, hgg, rest⟩
  · exact .inl hn
  · obtain ⟨h1, h2⟩ := hv g' rfl
    exact .inr ⟨g', cap, cur, rfl, hb, by rw [h.block g' h1 h2]; exact hgg, rest⟩

set_option maxHeartbeats 400000 in
/-- the literal that adds an edit to what is merged -/
theorem add_any (gm base : Nat) (vm : Value) (x : Ed) (n : Nat) (acc : List Ed) (w : World) (hB : Blk w gm 40 #[vm])
    (ho : w.ownsRow base 53 3 vm n (edCells acc)) (hg : gm < base) (hb : base ≤ w.heap.size) (hn : n ≤ 13000000) :
   Calls Tryz.prog 31 #[.agg #[.int .i64 x.s, .int .i64 x.e, .string x.n], .pointer (some ⟨gm, 0, none⟩)] w fun e w' => e = .returned (.tuple #[]) ∧
      ∃ A' c', Blk w' gm 40 #[.slice A' (n + 1) c'] ∧ w'.ownsRow base 53 3 (.slice A' (n + 1) c') (n + 1) (edCells (acc ++ [x])) ∧ Only w w' gm base := by
  obtain ⟨i0, hi, hz0, hz1, hz2⟩ := info_parts infoD
  obtain ⟨A, c, rfl⟩ := own_form ho
  have hc0 : w.cell? ⟨gm, 0, none⟩ = some (.slice A n c) := hB.cell 0
  have hlt := hB.lt
  have HB := Lib.hid hB; clear hB
  have HO := Lib.hid ho; clear ho
  have HNE : Hid ((Value.slice A n c).ownBlock ≠ some gm) := by
    intro h
    have := (HO.out.lt gm h).1
    omega
  obtain ⟨s, e, t⟩ := x
  simp only
  go_enter Tryz.func31, Tryz.ntmps31
  go_wp2_with (at_builtin; refine wpList_append_any _ rfl (.tmp 3) (.tmp 5) _ rfl base 53 i0 _ 3 32 Tryz.underlying40 hi hz0 hz1 hz2 rfl (by omega) (.slice A n c) n (edCells acc) rfl ((HO.out.alloc _).alloc _) (some ⟨w.heap.size + 1, 0, none⟩) 1 1 (Ed.cells ⟨s, e, t⟩) rfl (by have := cells_lit3 (w.alloc (.cells #[.int .i64 s, .int .i64 e, .string t] 53)) 53 ⟨s, e, t⟩; simpa using this) rfl (edCells1 _) (by unfold maxLen; omega) (by omega) (by simp; omega) ?_; intro A1 c1 w1 hown1 hg1 hat1; have hB1 : Blk w1 gm 40 #[.slice A n c] := ((HB.out.alloc _).alloc _).grown hg1 (fun h => HNE.out h.symm); have hc1 : w1.cell? ⟨gm, 0, none⟩ = some (.slice A n c) := hB1.cell 0; have hf1 : w1.frozen? ⟨gm, 0, none⟩ = false := hB1.frozen 0; have HB1 := Lib.hid hB1; clear hB1; have HG1 := Lib.hid hg1; clear hg1; have HO1 := Lib.hid hown1; clear hown1; clear hat1)
  go_end0
  refine ⟨rfl, A1, c1, ?_, ?_, ?_⟩
  · have := HB1.out.set_ 0 (.slice A1 (n + 1) c1)
    simpa using this
  · have h := HO1.out
    rw [edCells_append]
    have h2 := ownsRow_setCell_below h (a := ⟨gm, 0, none⟩) hg (.slice A1 (n + 1) c1)
    exact h2
  · have hg1 := HG1.out
    refine ⟨hg1.os, hg1.tape, hg1.output, ?_, fun k hk hkg => ?_⟩
    · have := hg1.size
      simp [World.setCell] at this ⊢
      omega
    · rw [Below.heap_setCell _ _ _ _ (by simpa using hkg)]
      have e1 : some k ≠ (Value.slice A n c).ownBlock := by
        intro h
        have := (HO.out.lt k h.symm).1
        omega
      rw [hg1.block k (by simp; omega) e1, Below.heap_alloc _ _ _ (by simp; omega), Below.heap_alloc _ _ _ (by omega)]


/-- what holds at the head of each round of the merging -/
structure MRel (w : World) (B1 gm nx ny : Nat) (A1 : Option Addr) (c1 : Nat) (A2 : Option Addr) (c2 : Nat) (R : Option (List Ed)) (xi yi : Nat) (ex ey acc : List Ed) (wr : World) : Prop where
  lx : ex.length = nx
  ly : ey.length = ny
  hx : xi ≤ nx
  hy : yi ≤ ny
  res : mg (ex.drop xi) (ey.drop yi) acc = R
  mu : acc.length + mgMu (ex.drop xi) (ey.drop yi) ≤ 2 * (nx + ny) + 1
  ox : wr.ownsRow w.heap.size 53 3 (.slice A1 nx c1) nx (edCells ex)
  oy : wr.ownsRow B1 53 3 (.slice A2 ny c2) ny (edCells ey)
  vm : ∃ Am cm, Blk wr gm 40 #[.slice Am acc.length cm] ∧ wr.ownsRow (gm + 1) 53 3 (.slice Am acc.length cm) acc.length (edCells acc)
  bel : Below w.heap.size w wr
  sz : gm < wr.heap.size
  b1 : w.heap.size ≤ B1
  b2 : B1 ≤ gm
  k1 : ∀ k, (Value.slice A1 nx c1).ownBlock = some k → w.heap.size ≤ k ∧ k < B1
  k2 : ∀ k, (Value.slice A2 ny c2).ownBlock = some k → B1 ≤ k ∧ k < gm

section
variable {w : World} {B1 gm nx ny : Nat} {A1 : Option Addr} {c1 : Nat} {A2 : Option Addr} {c2 : Nat} {R : Option (List Ed)} {xi yi : Nat} {ex ey acc : List Ed} {wr : World}
theorem MRel.drewN (h : MRel w B1 gm nx ny A1 c1 A2 c2 R xi yi ex ey acc wr) (n : Nat) : MRel w B1 gm nx ny A1 c1 A2 c2 R xi yi ex ey acc (wr.drewN n) :=
  ⟨h.lx, h.ly, h.hx, h.hy, h.res, h.mu, h.ox, h.oy, h.vm, below_drewN h.bel n, h.sz, h.b1, h.b2, h.k1, h.k2⟩

/-- an edit more, the lists as they were -/
theorem MRel.add (h : MRel w B1 gm nx ny A1 c1 A2 c2 R xi yi ex ey acc wr) {w' : World} {x : Ed} {xi' yi' : Nat} {Am : Option Addr} {cm : Nat}
    (hO : Only wr w' gm (gm + 1)) (hB : Blk w' gm 40 #[.slice Am (acc.length + 1) cm]) (hown : w'.ownsRow (gm + 1) 53 3 (.slice Am (acc.length + 1) cm) (acc.length + 1) (edCells (acc ++ [x])))
    (hx : xi' ≤ nx) (hy : yi' ≤ ny) (hr : mg (ex.drop xi') (ey.drop yi') (acc ++ [x]) = mg (ex.drop xi) (ey.drop yi) acc)
    (hm : 1 + mgMu (ex.drop xi') (ey.drop yi') ≤ mgMu (ex.drop xi) (ey.drop yi)) :
    MRel w B1 gm nx ny A1 c1 A2 c2 R xi' yi' ex ey (acc ++ [x]) w' := by
  have hmu := h.mu
  have hb1 := h.b1
  have hb2 := h.b2
  refine ⟨h.lx, h.ly, hx, hy, hr.trans h.res, by simp only [List.length_append, List.length_cons, List.length_nil]; omega, ?_, ?_, ⟨Am, cm, by simpa using hB, by simpa using hown⟩, h.bel.trans (hO.below (by omega) (by omega)), Nat.lt_of_lt_of_le h.sz hO.size, hb1, hb2, h.k1, h.k2⟩
  · exact hO.own h.ox (fun k hk => by have := h.k1 k hk; omega)
  · exact hO.own h.oy (fun k hk => by have := h.k2 k hk; omega)

theorem MRel.cellsX (h : MRel w B1 gm nx ny A1 c1 A2 c2 R xi yi ex ey acc wr) (hlt : xi < nx) :
    ∃ g, A1 = some ⟨g, 0, none⟩ ∧ w.heap.size ≤ g ∧ g < B1 ∧ wr.cell? ⟨g, xi * 3, none⟩ = some (.int .i64 (eS ex xi)) ∧ wr.cell? ⟨g, xi * 3 + 1, none⟩ = some (.int .i64 (eE ex xi)) ∧ wr.cell? ⟨g, xi * 3 + 2, none⟩ = some (.string (eN ex xi)) ∧ wr.frozen? ⟨g, xi * 3, none⟩ = false := by
  have ho := h.ox
  have hl := h.lx
  rcases ho.2 with ⟨_, h0⟩ | ⟨g, cap, cur, hv, hg, _⟩
  · omega
  · injection hv with hA _ hc
    subst hA
    obtain ⟨g1, g2, g3⟩ := edCells_get ex xi (by omega)
    refine ⟨g, rfl, hg, (h.k1 g rfl).2, ?_, ?_, ?_, ho.frozenAt _⟩
    · rw [ho.cellAt _ (by omega)]; exact g1
    · rw [ho.cellAt _ (by omega)]; exact g2
    · rw [ho.cellAt _ (by omega)]; exact g3
theorem MRel.cellsY (h : MRel w B1 gm nx ny A1 c1 A2 c2 R xi yi ex ey acc wr) (hlt : yi < ny) :
    ∃ g, A2 = some ⟨g, 0, none⟩ ∧ B1 ≤ g ∧ g < gm ∧ wr.cell? ⟨g, yi * 3, none⟩ = some (.int .i64 (eS ey yi)) ∧ wr.cell? ⟨g, yi * 3 + 1, none⟩ = some (.int .i64 (eE ey yi)) ∧ wr.cell? ⟨g, yi * 3 + 2, none⟩ = some (.string (eN ey yi)) ∧ wr.frozen? ⟨g, yi * 3, none⟩ = false := by
  have ho := h.oy
  have hl := h.ly
  rcases ho.2 with ⟨_, h0⟩ | ⟨g, cap, cur, hv, hg, _⟩
  · omega
  · injection hv with hA _ hc
    subst hA
    obtain ⟨g1, g2, g3⟩ := edCells_get ey yi (by omega)
    refine ⟨g, rfl, hg, (h.k2 g rfl).2, ?_, ?_, ?_, ho.frozenAt _⟩
    · rw [ho.cellAt _ (by omega)]; exact g1
    · rw [ho.cellAt _ (by omega)]; exact g2
    · rw [ho.cellAt _ (by omega)]; exact g3
end

theorem Only.cell {w w' : World} {g base : Nat} (h : Only w w' g base) {p : Addr} (hp : p.block < base) (hg : p.block ≠ g) : w'.cell? p = w.cell? p := World.cell?_of_block (w := w) (h.block p.block hp hg)
theorem Only.frozen {w w' : World} {g base : Nat} (h : Only w w' g base) {p : Addr} (hp : p.block < base) (hg : p.block ≠ g) : w'.frozen? p = w.frozen? p := World.frozen?_of_block (w := w) (h.block p.block hp hg)

section
variable {w : World} {B1 gm nx ny : Nat} {A1 : Option Addr} {c1 : Nat} {A2 : Option Addr} {c2 : Nat} {R : Option (List Ed)} {xi yi : Nat} {ex ey acc : List Ed} {wr : World}
theorem own_set_other {wr : World} {b e size n : Nat} {v : Value} {xs : List Value} (ho : wr.ownsRow b e size v n xs) {a : Addr} (hv : ∀ k, v.ownBlock = some k → k ≠ a.block) (u : Value) : (wr.setCell a u).ownsRow b e size v n xs := by
  refine ⟨ho.1, ?_⟩
  rcases ho.2 with hn | ⟨g', cap, cur, rfl, hb, hgg, rest⟩
  · exact .inl hn
  · exact .inr ⟨g', cap, cur, rfl, hb, by rw [Below.heap_setCell _ _ _ _ (hv g' rfl)]; exact hgg, rest⟩
/-- the first list's head has been split -/
theorem MRel.splitX {gx : Nat} (h : MRel w B1 gm nx ny (some ⟨gx, 0, none⟩) c1 A2 c2 R xi yi ex ey acc wr) {w' : World} {x : Ed} {Am : Option Addr} {cm : Nat} {u : Int}
    (hO : Only wr w' gm (gm + 1)) (hB : Blk w' gm 40 #[.slice Am (acc.length + 1) cm]) (hown : w'.ownsRow (gm + 1) 53 3 (.slice Am (acc.length + 1) cm) (acc.length + 1) (edCells (acc ++ [x])))
    (hxi : xi < nx) (hr : mg ((ex.set xi ⟨u, eE ex xi, eN ex xi⟩).drop xi) (ey.drop yi) (acc ++ [x]) = mg (ex.drop xi) (ey.drop yi) acc)
    (hm : 1 + mgMu ((ex.set xi ⟨u, eE ex xi, eN ex xi⟩).drop xi) (ey.drop yi) ≤ mgMu (ex.drop xi) (ey.drop yi)) :
    MRel w B1 gm nx ny (some ⟨gx, 0, none⟩) c1 A2 c2 R xi yi (ex.set xi ⟨u, eE ex xi, eN ex xi⟩) ey (acc ++ [x]) (w'.setCell ⟨gx, xi * 3, none⟩ (.int .i64 u)) := by
  have hmu := h.mu
  have hb1 := h.b1
  have hb2 := h.b2
  have hk := h.k1 gx rfl
  have hl := h.lx
  have h1 := hO.own h.ox (fun k hk => by have := h.k1 k hk; omega)
  have h2 := hO.own h.oy (fun k hk => by have := h.k2 k hk; omega)
  refine ⟨by simpa using hl, h.ly, h.hx, h.hy, hr.trans h.res, by simp only [List.length_append, List.length_cons, List.length_nil]; omega, ?_, ?_, ⟨Am, cm, ?_, ?_⟩, (h.bel.trans (hO.below (by omega) (by omega))).setCell hk.1 _, by have := Nat.lt_of_lt_of_le h.sz hO.size; simp [World.setCell]; omega, hb1, hb2, h.k1, h.k2⟩
  · rw [← edCells_set ex xi u (by omega)]
    exact (h1.stored (xi * 3) (.int .i64 u)).1
  · exact own_set_other h2 (fun k hk' => by have := h.k2 k hk'; show k ≠ gx; omega) _
  · have := hB.far (p := ⟨gx, xi * 3, none⟩) (by show gm ≠ gx; omega) (.int .i64 u)
    simpa using this
  · have := own_set_other hown (a := ⟨gx, xi * 3, none⟩) (fun k hk' => by have := (hown.lt k hk').1; show k ≠ gx; omega) (.int .i64 u)
    simpa using this
theorem MRel.splitY {gy : Nat} (h : MRel w B1 gm nx ny A1 c1 (some ⟨gy, 0, none⟩) c2 R xi yi ex ey acc wr) {w' : World} {x : Ed} {Am : Option Addr} {cm : Nat} {u : Int}
    (hO : Only wr w' gm (gm + 1)) (hB : Blk w' gm 40 #[.slice Am (acc.length + 1) cm]) (hown : w'.ownsRow (gm + 1) 53 3 (.slice Am (acc.length + 1) cm) (acc.length + 1) (edCells (acc ++ [x])))
    (hyi : yi < ny) (hr : mg (ex.drop xi) ((ey.set yi ⟨u, eE ey yi, eN ey yi⟩).drop yi) (acc ++ [x]) = mg (ex.drop xi) (ey.drop yi) acc)
    (hm : 1 + mgMu (ex.drop xi) ((ey.set yi ⟨u, eE ey yi, eN ey yi⟩).drop yi) ≤ mgMu (ex.drop xi) (ey.drop yi)) :
    MRel w B1 gm nx ny A1 c1 (some ⟨gy, 0, none⟩) c2 R xi yi ex (ey.set yi ⟨u, eE ey yi, eN ey yi⟩) (acc ++ [x]) (w'.setCell ⟨gy, yi * 3, none⟩ (.int .i64 u)) := by
  have hmu := h.mu
  have hb1 := h.b1
  have hb2 := h.b2
  have hk := h.k2 gy rfl
  have hl := h.ly
  have h1 := hO.own h.ox (fun k hk => by have := h.k1 k hk; omega)
  have h2 := hO.own h.oy (fun k hk => by have := h.k2 k hk; omega)
  refine ⟨h.lx, by simpa using hl, h.hx, h.hy, hr.trans h.res, by simp only [List.length_append, List.length_cons, List.length_nil]; omega, ?_, ?_, ⟨Am, cm, ?_, ?_⟩, (h.bel.trans (hO.below (by omega) (by omega))).setCell (p := ⟨gy, yi * 3, none⟩) (by show w.heap.size ≤ gy; omega) _, by have := Nat.lt_of_lt_of_le h.sz hO.size; simp [World.setCell]; omega, hb1, hb2, h.k1, h.k2⟩
  · exact own_set_other h1 (fun k hk' => by have := h.k1 k hk'; show k ≠ gy; omega) _
  · rw [← edCells_set ey yi u (by omega)]
    exact (h2.stored (yi * 3) (.int .i64 u)).1
  · have := hB.far (p := ⟨gy, yi * 3, none⟩) (by show gm ≠ gy; omega) (.int .i64 u)
    simpa using this
  · have := own_set_other hown (a := ⟨gy, yi * 3, none⟩) (fun k hk' => by have := (hown.lt k hk').1; show k ≠ gy; omega) (.int .i64 u)
    simpa using this
end

def MergePost (R : Option (List Ed)) (w : World) (e : Ending) (w' : World) : Prop :=
  Below w.heap.size w w' ∧ ((R = none ∧ e = .returned (.tuple #[.slice none 0 0, .bool false])) ∨
    ∃ r A c, R = some r ∧ e = .returned (.tuple #[.slice A r.length c, .bool true]) ∧ w'.ownsRow w.heap.size 53 3 (.slice A r.length c) r.length (edCells r))

theorem run_eql_ed {P : Program} (t : TypeId) (w : World) (x y : Ed) (r : Bool) (hr : r = edEqB x y)
    (h : ∀ w, (binOp .eql t (.agg #[.int .i64 x.s, .int .i64 x.e, .string x.n]) (.agg #[.int .i64 y.s, .int .i64 y.e, .string y.n])).run P w = .ok (.bool (edEqB x y)) w) :
    (binOp .eql t (.agg #[.int .i64 x.s, .int .i64 x.e, .string x.n]) (.agg #[.int .i64 y.s, .int .i64 y.e, .string y.n])).run P w = .ok (.bool r) w := by
  rw [hr]; exact h w

theorem run_eql_D (w : World) (s e s' e' : Int) (n n' : ByteArray) :
    (binOp .eql 53 (.agg #[.int .i64 s, .int .i64 e, .string n]) (.agg #[.int .i64 s', .int .i64 e', .string n'])).run Tryz.prog w = .ok (.bool (edEqB ⟨s, e, n⟩ ⟨s', e', n'⟩)) w := by
  by_cases hs : s = s'
  · by_cases he : e = e'
    · by_cases hn : n.toList = n'.toList
      · simp [go_sem, edEqB, hs, he, hn]
      · simp [go_sem, edEqB, hs, he, hn]
    · simp [go_sem, edEqB, hs, he]
  · simp [go_sem, edEqB, hs]
end Go.Proofs.YtgjbagojcbondaaGreat

namespace Go.Proofs.YtgjbagojcbondaaGreat
set_option linter.unusedVariables false
open Go.RowKit

set_option maxRecDepth 100000 in
set_option maxHeartbeats 2000000 in
theorem merge_any (A B : Option Addr) (c d : Nat) (xs ys : List Ed) (w : World) (hx : EdsR w A xs) (hy : EdsR w B ys) (hl : xs.length ≤ 3000000) (hm : ys.length ≤ 3000000) :
   Calls Tryz.prog 21 #[.slice A xs.length c, .slice B ys.length d] w (MergePost (mg xs ys []) w) := by
  have hc1 := clone_any A c xs w hx (by omega)
  have hc2 := fun w1 (hb : Below w.heap.size w w1) => clone_any B d ys w1 (hy.below hb (Nat.le_refl _)) (by omega)
  have HC1 := Lib.hid hc1; clear hc1 hx
  have HC2 := Lib.hid hc2; clear hc2 hy
  obtain ⟨nx, hnx⟩ : ∃ n, xs.length = n := ⟨_, rfl⟩
  obtain ⟨ny, hny⟩ : ∃ n, ys.length = n := ⟨_, rfl⟩
  rw [hnx] at hl HC1 ⊢
  rw [hny] at hm HC2 ⊢
  have LX := Lib.hid hnx; clear hnx
  have LY := Lib.hid hny; clear hny
  obtain ⟨R, hR⟩ : ∃ R, mg xs ys [] = R := ⟨_, rfl⟩
  have HR := Lib.hid hR
  rw [hR]
  clear hR
  go_enter Tryz.func21, Tryz.ntmps21
  go_wp2_with fail
  refine HC1.out.mono ?_
  rintro e w1 ⟨A1, c1, rfl, ho1, hb1⟩
  go_wp2_with fail
  refine (HC2.out _ hb1).mono ?_
  rintro e w2 ⟨A2, c2, rfl, ho2, hb2⟩
  go_wp2_with fail
  have hI : MRel w w1.heap.size w2.heap.size nx ny A1 c1 A2 c2 R 0 0 xs ys [] (w2.alloc (.cells #[.slice none 0 0] 40)) := by
    have hs1 := hb1.size
    have hs2 := hb2.size
    have h2 : w2.ownsRow w.heap.size 53 3 (.slice A1 nx c1) nx (edCells xs) := by
      refine ⟨ho1.1, ?_⟩
      rcases ho1.2 with hn | ⟨g', cap, cur, hv, hb, hgg, rest⟩
      · exact .inl hn
      · exact .inr ⟨g', cap, cur, hv, hb, by rw [hb2.block g' (Array.getElem?_eq_some_iff.1 hgg).1]; exact hgg, rest⟩
    refine ⟨LX.out, LY.out, Nat.zero_le _, Nat.zero_le _, by simpa using HR.out, ?_, h2.alloc _, ho2.alloc _, ⟨none, 0, Blk.new w2 _ _, World.ownsRow_nil _ _ _ _⟩, (hb1.trans (hb2.mono hs1)).alloc (by omega) _, by simp, hs1, hs2, fun k hk => ho1.lt k hk, fun k hk => ho2.lt k hk⟩
    have := mgMu_le xs ys
    have e1 := LX.out
    have e2 := LY.out
    simp only [List.drop_zero, List.length_nil, Nat.zero_add]
    omega
  generalize hW : w2.alloc (.cells #[.slice none 0 0] 40) = W3 at *
  generalize hg : w2.heap.size = gm at *
  generalize hg1 : w1.heap.size = B1 at *
  have HI := Lib.hid hI; clear hI
  clear hW hg hg1 ho1 hb1 ho2 hb2
  go_loopg [8, 9, 10, 11] (mgMu xs ys) (fun q s8 s9 _ _ wr => ∃ xi yi ex ey acc, s8 = .int .i64 (xi : Nat) ∧ s9 = .int .i64 (yi : Nat) ∧ q = mgMu (ex.drop xi) (ey.drop yi) ∧ MRel w B1 gm nx ny A1 c1 A2 c2 R xi yi ex ey acc wr)
  case atStart => exact ⟨0, 0, xs, ys, [], rfl, rfl, rfl, HI.out⟩
  case round =>
    obtain ⟨xi, yi, ex, ey, acc, rfl, rfl, hq, hM⟩ := hrel
    have HQ := Lib.hid hq; clear hq
    have hx := hM.hx
    have hy := hM.hy
    have HLX := Lib.hid hM.lx
    have HLY := Lib.hid hM.ly
    have hmu := hM.mu
    have hsz := hM.sz
    obtain ⟨Am, cm, hBm, hOm⟩ := hM.vm
    have HBm := Lib.hid hBm; clear hBm
    have HOm := Lib.hid hOm; clear hOm
    by_cases hxi : xi < nx
    · by_cases hyi : yi < ny
      · obtain ⟨gx, rfl, hgx1, hgx2, x1, x2, x3, x4⟩ := hM.cellsX hxi
        obtain ⟨gy, rfl, hgy1, hgy2, y1, y2, y3, y4⟩ := hM.cellsY hyi
        have hM2 := fun n => hM.drewN n
        have HM := Lib.hid hM2; clear hM hM2
        have hadd := fun (x : Ed) (q : Nat) => add_any gm (gm + 1) _ x acc.length acc (wr.drewN q) HBm.out HOm.out (by omega) (by simp; omega) (by omega)
        have HA := Lib.hid hadd; clear hadd
        cases heq : edEqB (edAt ex xi) (edAt ey yi)
        · have HE := Lib.hid heq; clear heq
          by_cases h2 : eE ex xi ≤ eS ey yi
          · have hnx := mg_x (acc := acc) (by rw [HLX.out]; exact hxi) (by rw [HLY.out]; exact hyi) HE.out h2
            have HN := Lib.hid hnx; clear hnx
            go_wp2
            have hq := fun w => (run_eql_D w (eS ex xi) (eE ex xi) (eS ey yi) (eE ey yi) (eN ex xi) (eN ey yi)).trans (congrArg (fun b => Result.ok (Value.bool b) w) HE.out)
            go_quiet (fail)
            go_wp2
            go_quiet (fail)
            go_wp2_with fail
            refine (HA.out (edAt ex xi) _).mono ?_
            rintro e w' ⟨rfl, Am', cm', hB', hO', hOn⟩
            have hM3 := (HM.out _).add hOn hB' hO' (xi' := xi + 1) (yi' := yi) (by omega) (by omega) HN.out.1 HN.out.2
            have HM3 := Lib.hid hM3; clear hM3 hB' hO' hOn
            go_wp2
            go_roundg (mgMu (ex.drop (xi + 1)) (ey.drop yi))
            case measure => have h := HN.out.2; rw [HQ.out]; omega
            case rel => exact ⟨xi + 1, yi, ex, ey, acc ++ [edAt ex xi], by go_num, rfl, rfl, HM3.out⟩
          · by_cases h3 : eE ey yi ≤ eS ex xi
            · have hnx := mg_y (acc := acc) (by rw [HLX.out]; exact hxi) (by rw [HLY.out]; exact hyi) HE.out h2 h3
              have HN := Lib.hid hnx; clear hnx
              go_wp2
              have hq := fun w => (run_eql_D w (eS ex xi) (eE ex xi) (eS ey yi) (eE ey yi) (eN ex xi) (eN ey yi)).trans (congrArg (fun b => Result.ok (Value.bool b) w) HE.out)
              go_quiet (fail)
              go_wp2
              go_quiet (fail)
              go_wp2
              go_quiet (fail)
              go_wp2_with fail
              refine (HA.out (edAt ey yi) _).mono ?_
              rintro e w' ⟨rfl, Am', cm', hB', hO', hOn⟩
              have hM3 := (HM.out _).add hOn hB' hO' (xi' := xi) (yi' := yi + 1) (by omega) (by omega) HN.out.1 HN.out.2
              have HM3 := Lib.hid hM3; clear hM3 hB' hO' hOn
              go_wp2
              go_roundg (mgMu (ex.drop xi) (ey.drop (yi + 1)))
              case measure => have h := HN.out.2; rw [HQ.out]; omega
              case rel => exact ⟨xi, yi + 1, ex, ey, acc ++ [edAt ey yi], rfl, by go_num, rfl, HM3.out⟩
            · by_cases h4 : eS ex xi < eS ey yi
              · have hnx := mg_sx (acc := acc) (by rw [HLX.out]; exact hxi) (by rw [HLY.out]; exact hyi) HE.out h2 h3 h4
                have HN := Lib.hid hnx; clear hnx
                go_wp2
                have hq := fun w => (run_eql_D w (eS ex xi) (eE ex xi) (eS ey yi) (eE ey yi) (eN ex xi) (eN ey yi)).trans (congrArg (fun b => Result.ok (Value.bool b) w) HE.out)
                go_quiet (fail)
                go_wp2
                go_quiet (fail)
                go_wp2
                go_quiet (fail)
                go_wp2
                go_quiet (fail)
                go_wp2
                go_region_held3 (fun w' => w'.cell? ⟨gx, xi * 3, none⟩ = some (.int .i64 (eS ex xi)) ∧ w'.cell? ⟨gy, yi * 3, none⟩ = some (.int .i64 (eS ey yi))) (go_keep) (first | (go_at_call 31; refine (HA.out ⟨eS ex xi, eS ey yi, ⟨#[]⟩⟩ _).mono ?_; rintro e w' ⟨rfl, Am', cm', hB', hO', hOn⟩; have z1 : w'.cell? ⟨gx, xi * 3, none⟩ = some (.int .i64 (eS ex xi)) := (hOn.cell (p := ⟨gx, xi * 3, none⟩) (by simp; omega) (by simp; omega)).trans x1; have z2 : w'.cell? ⟨gy, yi * 3, none⟩ = some (.int .i64 (eS ey yi)) := (hOn.cell (p := ⟨gy, yi * 3, none⟩) (by simp; omega) (by simp; omega)).trans y1; have z3 : w'.frozen? ⟨gx, xi * 3, none⟩ = false := (hOn.frozen (p := ⟨gx, xi * 3, none⟩) (by simp; omega) (by simp; omega)).trans x4; have hM3 := (HM.out _).splitX hOn hB' hO' hxi HN.out.1 HN.out.2; have HM3 := Lib.hid hM3; clear hM3 hB' hO' hOn))
                go_wp2
                go_roundg (mgMu ((ex.set xi ⟨eS ey yi, eE ex xi, eN ex xi⟩).drop xi) (ey.drop yi))
                case measure => have h := HN.out.2; rw [HQ.out]; omega
                case rel => exact ⟨xi, yi, ex.set xi ⟨eS ey yi, eE ex xi, eN ex xi⟩, ey, acc ++ [⟨eS ex xi, eS ey yi, ⟨#[]⟩⟩], rfl, rfl, rfl, HM3.out⟩
              · by_cases h5 : eS ey yi < eS ex xi
                · have hnx := mg_sy (acc := acc) (by rw [HLX.out]; exact hxi) (by rw [HLY.out]; exact hyi) HE.out h2 h3 h4 h5
                  have HN := Lib.hid hnx; clear hnx
                  go_wp2
                  have hq := fun w => (run_eql_D w (eS ex xi) (eE ex xi) (eS ey yi) (eE ey yi) (eN ex xi) (eN ey yi)).trans (congrArg (fun b => Result.ok (Value.bool b) w) HE.out)
                  go_quiet (fail)
                  go_wp2
                  go_quiet (fail)
                  go_wp2
                  go_quiet (fail)
                  go_wp2
                  go_quiet (fail)
                  go_wp2
                  go_quiet (fail)
                  go_wp2
                  go_region_held3 (fun w' => w'.cell? ⟨gx, xi * 3, none⟩ = some (.int .i64 (eS ex xi)) ∧ w'.cell? ⟨gy, yi * 3, none⟩ = some (.int .i64 (eS ey yi))) (go_keep) (first | (go_at_call 31; refine (HA.out ⟨eS ey yi, eS ex xi, ⟨#[]⟩⟩ _).mono ?_; rintro e w' ⟨rfl, Am', cm', hB', hO', hOn⟩; have z1 : w'.cell? ⟨gx, xi * 3, none⟩ = some (.int .i64 (eS ex xi)) := (hOn.cell (p := ⟨gx, xi * 3, none⟩) (by simp; omega) (by simp; omega)).trans x1; have z2 : w'.cell? ⟨gy, yi * 3, none⟩ = some (.int .i64 (eS ey yi)) := (hOn.cell (p := ⟨gy, yi * 3, none⟩) (by simp; omega) (by simp; omega)).trans y1; have z3 : w'.frozen? ⟨gy, yi * 3, none⟩ = false := (hOn.frozen (p := ⟨gy, yi * 3, none⟩) (by simp; omega) (by simp; omega)).trans y4; have hM3 := (HM.out _).splitY hOn hB' hO' hyi HN.out.1 HN.out.2; have HM3 := Lib.hid hM3; clear hM3 hB' hO' hOn))
                  go_wp2
                  go_roundg (mgMu (ex.drop xi) ((ey.set yi ⟨eS ex xi, eE ey yi, eN ey yi⟩).drop yi))
                  case measure => have h := HN.out.2; rw [HQ.out]; omega
                  case rel => exact ⟨xi, yi, ex, ey.set yi ⟨eS ex xi, eE ey yi, eN ey yi⟩, acc ++ [⟨eS ey yi, eS ex xi, ⟨#[]⟩⟩], rfl, rfl, rfl, HM3.out⟩
                · have hnx := mg_no (acc := acc) (by rw [HLX.out]; exact hxi) (by rw [HLY.out]; exact hyi) HE.out h2 h3 h4 h5
                  have HN := Lib.hid hnx; clear hnx
                  go_wp2
                  have hq := fun w => (run_eql_D w (eS ex xi) (eE ex xi) (eS ey yi) (eE ey yi) (eN ex xi) (eN ey yi)).trans (congrArg (fun b => Result.ok (Value.bool b) w) HE.out)
                  go_quiet (fail)
                  go_wp2
                  go_quiet (fail)
                  go_wp2
                  go_quiet (fail)
                  go_wp2
                  go_quiet (fail)
                  go_wp2
                  go_quiet (fail)
                  go_wp2
                  go_ret2
                  exact ⟨by simp only [World.drewN_drewN]; exact (HM.out _).bel, .inl ⟨by rw [← (HM.out 0).res]; exact HN.out, rfl⟩⟩
        · have HE := Lib.hid heq; clear heq
          have hnx := mg_eq (acc := acc) (by rw [HLX.out]; exact hxi) (by rw [HLY.out]; exact hyi) HE.out
          have HN := Lib.hid hnx; clear hnx
          go_wp2
          have hq := fun w => (run_eql_D w (eS ex xi) (eE ex xi) (eS ey yi) (eE ey yi) (eN ex xi) (eN ey yi)).trans (congrArg (fun b => Result.ok (Value.bool b) w) HE.out)
          go_quiet (fail)
          go_wp2_with fail
          refine (HA.out (edAt ex xi) _).mono ?_
          rintro e w' ⟨rfl, Am', cm', hB', hO', hOn⟩
          have hM3 := (HM.out _).add hOn hB' hO' (xi' := xi + 1) (yi' := yi + 1) (by omega) (by omega) HN.out.1 HN.out.2
          have HM3 := Lib.hid hM3; clear hM3 hB' hO' hOn
          go_wp2
          go_roundg (mgMu (ex.drop (xi + 1)) (ey.drop (yi + 1)))
          case measure => have h := HN.out.2; rw [HQ.out]; omega
          case rel => exact ⟨xi + 1, yi + 1, ex, ey, acc ++ [edAt ex xi], by go_num, by go_num, rfl, HM3.out⟩
      · clear HBm HOm
        have HM0 := Lib.hid hM; clear hM
        go_wp2
        have hend : xi = nx ∨ yi = ny := by omega
        have HEND := Lib.hid hend; clear hend
        go_loopg [8] (nx - xi) (fun q s8 wr => ∃ xi acc, s8 = .int .i64 (xi : Nat) ∧ q = nx - xi ∧ (xi = nx ∨ yi = ny) ∧ MRel w B1 gm nx ny A1 c1 A2 c2 R xi yi ex ey acc wr)
        case atStart => exact ⟨xi, acc, rfl, rfl, HEND.out, HM0.out⟩
        case round =>
          obtain ⟨xi, acc, rfl, hq, hend, hM⟩ := hrel
          clear HEND HM0 HQ
          have HQ := Lib.hid hq; clear hq
          have hx := hM.hx
          have HLX := Lib.hid hM.lx
          have HLY := Lib.hid hM.ly
          have hmu := hM.mu
          have hsz := hM.sz
          obtain ⟨Am, cm, hBm, hOm⟩ := hM.vm
          have HEND := Lib.hid hend; clear hend
          by_cases hxi : xi < nx
          · obtain ⟨gx, rfl, hgx1, hgx2, x1, x2, x3, x4⟩ := hM.cellsX hxi
            have HM := Lib.hid hM; clear hM
            have hadd := add_any gm (gm + 1) _ (edAt ex xi) acc.length acc wr hBm hOm (by omega) (by omega) (by omega)
            have HA := Lib.hid hadd; clear hadd hBm hOm
            have hnx := mg_tx (acc := acc) (ey := ey) (yi := yi) (by rw [HLX.out]; exact hxi) (by rw [HLY.out]; have := HEND.out; omega)
            have HN := Lib.hid hnx; clear hnx
            go_wp2_with fail
            refine HA.out.mono ?_
            rintro e w' ⟨rfl, Am', cm', hB', hO', hOn⟩
            have hM3 := HM.out.add hOn hB' hO' (xi' := xi + 1) (yi' := yi) (by omega) HM.out.hy HN.out.1 HN.out.2
            have HM3 := Lib.hid hM3; clear hM3 hB' hO' hOn
            go_wp2
            go_roundg (nx - (xi + 1))
            case measure => rw [HQ.out]; omega
            case rel => exact ⟨xi + 1, acc ++ [edAt ex xi], by go_num, rfl, by have := HEND.out; omega, HM3.out⟩
          · have HM := Lib.hid hM; clear hM hBm hOm
            go_wp2
            go_loopg [9] (ny - yi) (fun q s9 wr => ∃ yi acc, s9 = .int .i64 (yi : Nat) ∧ q = ny - yi ∧ MRel w B1 gm nx ny A1 c1 A2 c2 R xi yi ex ey acc wr)
            case atStart => exact ⟨yi, acc, rfl, rfl, HM.out⟩
            case round =>
              obtain ⟨yi, acc, rfl, hq, hM⟩ := hrel
              clear HM HQ HEND
              have HQ := Lib.hid hq; clear hq
              have hy := hM.hy
              have hmu := hM.mu
              have hsz := hM.sz
              obtain ⟨Am, cm, hBm, hOm⟩ := hM.vm
              by_cases hyi : yi < ny
              · obtain ⟨gy, rfl, hgy1, hgy2, y1, y2, y3, y4⟩ := hM.cellsY hyi
                have HM := Lib.hid hM; clear hM
                have hadd := add_any gm (gm + 1) _ (edAt ey yi) acc.length acc wr hBm hOm (by omega) (by omega) (by omega)
                have HA := Lib.hid hadd; clear hadd hBm hOm
                have hnx := mg_ty (acc := acc) (ex := ex) (xi := xi) (by rw [HLX.out]; omega) (by rw [HLY.out]; exact hyi)
                have HN := Lib.hid hnx; clear hnx
                go_wp2_with fail
                refine HA.out.mono ?_
                rintro e w' ⟨rfl, Am', cm', hB', hO', hOn⟩
                have hM3 := HM.out.add hOn hB' hO' (xi' := xi) (yi' := yi + 1) HM.out.hx (by omega) HN.out.1 HN.out.2
                have HM3 := Lib.hid hM3; clear hM3 hB' hO' hOn
                go_wp2
                go_roundg (ny - (yi + 1))
                case measure => rw [HQ.out]; omega
                case rel => exact ⟨yi + 1, acc ++ [edAt ey yi], by go_num, rfl, HM3.out⟩
              · have hv : wr.cell? ⟨gm, 0, none⟩ = some (.slice Am acc.length cm) := hBm.cell 0
                have HO := Lib.hid hOm; clear hOm hBm
                have HM := Lib.hid hM; clear hM
                go_wp2
                go_ret2
                exact ⟨HM.out.bel, .inr ⟨acc, Am, cm, by rw [← HM.out.res]; exact mg_done (by rw [HLX.out]; omega) (by rw [HLY.out]; omega), rfl, own_mono HO.out (by have := HM.out.b1; have := HM.out.b2; omega)⟩⟩
    · clear HBm HOm
      have HM0 := Lib.hid hM; clear hM
      go_wp2
      have hend : xi = nx ∨ yi = ny := by omega
      have HEND := Lib.hid hend; clear hend
      go_loopg [8] (nx - xi) (fun q s8 wr => ∃ xi acc, s8 = .int .i64 (xi : Nat) ∧ q = nx - xi ∧ (xi = nx ∨ yi = ny) ∧ MRel w B1 gm nx ny A1 c1 A2 c2 R xi yi ex ey acc wr)
      case atStart => exact ⟨xi, acc, rfl, rfl, HEND.out, HM0.out⟩
      case round =>
        obtain ⟨xi, acc, rfl, hq, hend, hM⟩ := hrel
        clear HEND HM0 HQ
        have HQ := Lib.hid hq; clear hq
        have hx := hM.hx
        have HLX := Lib.hid hM.lx
        have HLY := Lib.hid hM.ly
        have hmu := hM.mu
        have hsz := hM.sz
        obtain ⟨Am, cm, hBm, hOm⟩ := hM.vm
        have HEND := Lib.hid hend; clear hend
        by_cases hxi : xi < nx
        · obtain ⟨gx, rfl, hgx1, hgx2, x1, x2, x3, x4⟩ := hM.cellsX hxi
          have HM := Lib.hid hM; clear hM
          have hadd := add_any gm (gm + 1) _ (edAt ex xi) acc.length acc wr hBm hOm (by omega) (by omega) (by omega)
          have HA := Lib.hid hadd; clear hadd hBm hOm
          have hnx := mg_tx (acc := acc) (ey := ey) (yi := yi) (by rw [HLX.out]; exact hxi) (by rw [HLY.out]; have := HEND.out; omega)
          have HN := Lib.hid hnx; clear hnx
          go_wp2_with fail
          refine HA.out.mono ?_
          rintro e w' ⟨rfl, Am', cm', hB', hO', hOn⟩
          have hM3 := HM.out.add hOn hB' hO' (xi' := xi + 1) (yi' := yi) (by omega) HM.out.hy HN.out.1 HN.out.2
          have HM3 := Lib.hid hM3; clear hM3 hB' hO' hOn
          go_wp2
          go_roundg (nx - (xi + 1))
          case measure => rw [HQ.out]; omega
          case rel => exact ⟨xi + 1, acc ++ [edAt ex xi], by go_num, rfl, by have := HEND.out; omega, HM3.out⟩
        · have HM := Lib.hid hM; clear hM hBm hOm
          go_wp2
          go_loopg [9] (ny - yi) (fun q s9 wr => ∃ yi acc, s9 = .int .i64 (yi : Nat) ∧ q = ny - yi ∧ MRel w B1 gm nx ny A1 c1 A2 c2 R xi yi ex ey acc wr)
          case atStart => exact ⟨yi, acc, rfl, rfl, HM.out⟩
          case round =>
            obtain ⟨yi, acc, rfl, hq, hM⟩ := hrel
            clear HM HQ HEND
            have HQ := Lib.hid hq; clear hq
            have hy := hM.hy
            have hmu := hM.mu
            have hsz := hM.sz
            obtain ⟨Am, cm, hBm, hOm⟩ := hM.vm
            by_cases hyi : yi < ny
            · obtain ⟨gy, rfl, hgy1, hgy2, y1, y2, y3, y4⟩ := hM.cellsY hyi
              have HM := Lib.hid hM; clear hM
              have hadd := add_any gm (gm + 1) _ (edAt ey yi) acc.length acc wr hBm hOm (by omega) (by omega) (by omega)
              have HA := Lib.hid hadd; clear hadd hBm hOm
              have hnx := mg_ty (acc := acc) (ex := ex) (xi := xi) (by rw [HLX.out]; omega) (by rw [HLY.out]; exact hyi)
              have HN := Lib.hid hnx; clear hnx
              go_wp2_with fail
              refine HA.out.mono ?_
              rintro e w' ⟨rfl, Am', cm', hB', hO', hOn⟩
              have hM3 := HM.out.add hOn hB' hO' (xi' := xi) (yi' := yi + 1) HM.out.hx (by omega) HN.out.1 HN.out.2
              have HM3 := Lib.hid hM3; clear hM3 hB' hO' hOn
              go_wp2
              go_roundg (ny - (yi + 1))
              case measure => rw [HQ.out]; omega
              case rel => exact ⟨yi + 1, acc ++ [edAt ey yi], by go_num, rfl, HM3.out⟩
            · have hv : wr.cell? ⟨gm, 0, none⟩ = some (.slice Am acc.length cm) := hBm.cell 0
              have HO := Lib.hid hOm; clear hOm hBm
              have HM := Lib.hid hM; clear hM
              go_wp2
              go_ret2
              exact ⟨HM.out.bel, .inr ⟨acc, Am, cm, by rw [← HM.out.res]; exact mg_done (by rw [HLX.out]; omega) (by rw [HLY.out]; omega), rfl, own_mono HO.out (by have := HM.out.b1; have := HM.out.b2; omega)⟩⟩
end Go.Proofs.YtgjbagojcbondaaGreat

namespace Go.Proofs.YtgjbagojcbondaaGreat
set_option linter.unusedVariables false
open Go.RowKit

/-- what impl.Merge hands back -/
def MergeOut (R : Option (List Ed)) (w : World) (e : Ending) (w' : World) : Prop :=
  ∃ A c, e = .returned (.tuple #[.slice A (R.getD []).length c, .bool R.isSome]) ∧ w'.ownsRow w.heap.size 48 3 (.slice A (R.getD []).length c) (R.getD []).length (edCells (R.getD [])) ∧ Below w.heap.size w w'

theorem own_keep {w w' : World} {B base e size n : Nat} {v : Value} {xs : List Value} (ho : w.ownsRow base e size v n xs) (hb : Below B w w') (hB : w.heap.size ≤ B) : w'.ownsRow base e size v n xs := by
  refine ⟨ho.1, ?_⟩
  rcases ho.2 with hn | ⟨g', cap, cur, hv, hg, hgg, rest⟩
  · exact .inl hn
  · exact .inr ⟨g', cap, cur, hv, hg, by rw [hb.block g' (by have := (Array.getElem?_eq_some_iff.1 hgg).1; omega)]; exact hgg, rest⟩

set_option maxHeartbeats 400000 in
theorem implMerge_any (A B : Option Addr) (c d : Nat) (xs ys : List Ed) (w : World) (hx : EdsR w A xs) (hy : EdsR w B ys) (hl : xs.length ≤ 3000000) (hm : ys.length ≤ 3000000) :
   Calls Tryz.prog 12 #[.slice A xs.length c, .slice B ys.length d] w (MergeOut (mg xs ys []) w) := by
  have hc1 := given_any A c xs w hx (by omega)
  have hc2 := fun w1 (hb : Below w.heap.size w w1) => given_any B d ys w1 (hy.below hb (Nat.le_refl _)) (by omega)
  have hc3 := fun A1 c1 A2 c2 w1 (h1 : EdsR w1 A1 xs) (h2 : EdsR w1 A2 ys) => merge_any A1 A2 c1 c2 xs ys w1 h1 h2 hl hm
  have HC1 := Lib.hid hc1; clear hc1 hx
  have HC2 := Lib.hid hc2; clear hc2 hy
  have HC3 := Lib.hid hc3; clear hc3
  have hlen := fun r (h : mg xs ys [] = some r) => mg_len' h
  have HL := Lib.hid hlen; clear hlen
  obtain ⟨nx, hnx⟩ : ∃ n, xs.length = n := ⟨_, rfl⟩
  obtain ⟨ny, hny⟩ : ∃ n, ys.length = n := ⟨_, rfl⟩
  rw [hnx] at hl HC1 HC3 HL ⊢
  rw [hny] at hm HC2 HC3 HL ⊢
  clear hnx hny
  obtain ⟨R, hR⟩ : ∃ R, mg xs ys [] = R := ⟨_, rfl⟩
  rw [hR] at HC3 HL ⊢
  clear hR
  go_enter Tryz.func12, Tryz.ntmps12
  go_wp2_with fail
  refine HC1.out.mono ?_
  rintro e w1 ⟨A1, c1, rfl, ho1, hb1⟩
  go_wp2_with fail
  refine (HC2.out _ hb1).mono ?_
  rintro e w2 ⟨A2, c2, rfl, ho2, hb2⟩
  go_wp2_with fail
  refine (HC3.out A1 c1 A2 c2 _ (CellsR.of_own (own_keep ho1 hb2 (Nat.le_refl _))) (CellsR.of_own ho2)).mono ?_
  rintro e w3 ⟨hb3, h⟩
  have hb13 : Below w.heap.size w w3 := (hb1.trans (hb2.mono hb1.size)).trans (hb3.mono (Nat.le_trans hb1.size hb2.size))
  have HB := Lib.hid hb13; clear hb13 hb1 hb2 hb3 ho1 ho2
  rcases h with ⟨hR, rfl⟩ | ⟨r, A3, c3, hR, rfl, ho3⟩
  · have ht := told_any none 0 [] w3 (.inl rfl) (by simp)
    have HR := Lib.hid hR; clear hR
    have HT := Lib.hid ht; clear ht
    go_wp2_with fail
    refine HT.out.mono ?_
    rintro e w4 ⟨A4, c4, rfl, ho4, hb4⟩
    go_wp2
    go_ret2
    have hR := HR.out
    subst hR
    exact ⟨A4, c4, rfl, own_mono ho4 HB.out.size, HB.out.trans (hb4.mono HB.out.size)⟩
  · have ht := told_any A3 c3 r w3 (CellsR.of_own ho3) (by have := HL.out r hR; omega)
    have HR := Lib.hid hR; clear hR
    have HT := Lib.hid ht; clear ht ho3
    go_wp2_with fail
    refine HT.out.mono ?_
    rintro e w4 ⟨A4, c4, rfl, ho4, hb4⟩
    go_wp2
    go_ret2
    have hR := HR.out
    subst hR
    exact ⟨A4, c4, rfl, own_mono ho4 HB.out.size, HB.out.trans (hb4.mono HB.out.size)⟩
end Go.Proofs.YtgjbagojcbondaaGreat

namespace Go.Proofs.YtgjbagojcbondaaGreat
set_option linter.unusedVariables false

theorem szE_app (a b : List Ed) : szE (a ++ b) = szE a + szE b := by
  induction a with
  | nil => simp [szE]
  | cons x l ih => simp only [List.cons_append, szE, ih]; omega
/-- whatever is in order from a place on may stand behind the list -/
def Till (size at_ : Int) (acc : List Ed) : Prop := ∀ l, inOrderF size at_ l = true → inOrderF size 0 (acc ++ l) = true
theorem inOrder_c {size at_ : Int} {x : Ed} {l : List Ed} : inOrderF size at_ (x :: l) = true ↔ (0 ≤ x.s ∧ x.s ≤ x.e ∧ x.e ≤ size) ∧ at_ ≤ x.s ∧ inOrderF size x.e l = true := by
  simp only [inOrderF, insideB, Bool.and_eq_true, decide_eq_true_eq, and_assoc]
theorem Till.snoc {size at_ : Int} {acc : List Ed} {x : Ed} (h : Till size at_ acc) (h1 : 0 ≤ x.s ∧ x.s ≤ x.e ∧ x.e ≤ size) (h2 : at_ ≤ x.s) : Till size x.e (acc ++ [x]) := by
  intro l hl
  rw [List.append_assoc]
  exact h _ (inOrder_c.2 ⟨h1, h2, hl⟩)
theorem mg_order (size : Int) (n : Nat) : ∀ (xs ys acc r : List Ed) (at_ : Int), mgMu xs ys ≤ n → mg xs ys acc = some r → inOrderF size at_ xs = true → inOrderF size at_ ys = true → Till size at_ acc → inOrderF size 0 r = true ∧ szE r ≤ szE acc + szE xs + szE ys + mgMu xs ys := by
  induction n with
  | zero =>
    intro xs ys acc r at_ hn h hx hy ht
    have h1 := mgMu_ge xs ys
    have hxe : xs = [] := List.eq_nil_of_length_eq_zero (by omega)
    subst hxe
    rw [mg_end _ _ _ (.inl rfl)] at h
    injection h with h
    subst h
    refine ⟨by rw [List.append_nil]; exact ht _ hy, ?_⟩
    rw [List.append_nil, szE_app]
    simp only [szE]
    omega
  | succ n ih =>
    intro xs ys acc r at_ hn h hx hy ht
    cases xs with
    | nil =>
      rw [mg_end _ _ _ (.inl rfl)] at h
      injection h with h
      subst h
      refine ⟨by rw [List.append_nil]; exact ht _ hy, ?_⟩
      rw [List.append_nil, szE_app]
      simp only [szE]
      omega
    | cons x xs =>
      cases ys with
      | nil =>
        rw [mg_end _ _ _ (.inr rfl)] at h
        injection h with h
        subst h
        refine ⟨by rw [List.append_nil]; exact ht _ hx, ?_⟩
        rw [List.append_nil, szE_app]
        simp only [szE]
        omega
      | cons y ys =>
        have h1 := mgMu_ge (x :: xs) (y :: ys)
        have ix := inOrder_c.1 hx
        have iy := inOrder_c.1 hy
        obtain ⟨x1, x2, x3⟩ := ix
        obtain ⟨y1, y2, y3⟩ := iy
        rw [mg_step] at h
        split at h
        · rename_i he
          have h2 := mgMu_le xs ys
          have he2 : x.e = y.e := by
            unfold edEqB at he
            simp only [Bool.and_eq_true, beq_iff_eq] at he
            exact he.1.2
          have := ih _ _ _ _ x.e (by simp only [List.length_cons] at *; omega) h x3 (by rw [he2]; exact y3) (ht.snoc x1 x2)
          rw [szE_app] at this
          simp only [szE, List.length_cons] at *
          exact ⟨this.1, by omega⟩
        · split at h
          · rename_i hc
            have h2 := mgMu_le xs (y :: ys)
            have := ih _ _ _ _ x.e (by simp only [List.length_cons] at *; omega) h x3 (inOrder_c.2 ⟨y1, hc, y3⟩) (ht.snoc x1 x2)
            rw [szE_app] at this
            simp only [szE, List.length_cons] at *
            exact ⟨this.1, by omega⟩
          · split at h
            · rename_i hc
              have h2 := mgMu_le (x :: xs) ys
              have := ih _ _ _ _ y.e (by simp only [List.length_cons] at *; omega) h (inOrder_c.2 ⟨x1, hc, x3⟩) y3 (ht.snoc y1 y2)
              rw [szE_app] at this
              simp only [szE, List.length_cons] at *
              exact ⟨this.1, by omega⟩
            · split at h
              · rename_i hc1 hc2 hc
                have e1 : mgMu (⟨y.s, x.e, x.n⟩ :: xs) (y :: ys) + 1 ≤ mgMu (x :: xs) (y :: ys) := by
                  simp only [mgMu, if_true]
                  rw [if_neg (by omega)]
                  omega
                have := ih _ _ _ _ y.s (by omega) h (inOrder_c.2 ⟨⟨y1.1, by simp only; omega, x1.2.2⟩, Int.le_refl _, x3⟩) (inOrder_c.2 ⟨y1, Int.le_refl _, y3⟩) (ht.snoc (x := ⟨x.s, y.s, ⟨#[]⟩⟩) ⟨x1.1, by simp only; omega, by simp only; omega⟩ x2)
                rw [szE_app] at this
                have hz : (⟨#[]⟩ : ByteArray).size = 0 := rfl
                simp only [szE, List.length_cons, hz] at *
                exact ⟨this.1, by omega⟩
              · split at h
                · rename_i hc1 hc2 hc3 hc
                  have e1 : mgMu (x :: xs) (⟨x.s, y.e, y.n⟩ :: ys) + 1 ≤ mgMu (x :: xs) (y :: ys) := by
                    simp only [mgMu, if_true]
                    rw [if_neg (by omega)]
                    omega
                  have := ih _ _ _ _ x.s (by omega) h (inOrder_c.2 ⟨x1, Int.le_refl _, x3⟩) (inOrder_c.2 ⟨⟨x1.1, by simp only; omega, y1.2.2⟩, Int.le_refl _, y3⟩) (ht.snoc (x := ⟨y.s, x.s, ⟨#[]⟩⟩) ⟨y1.1, by simp only; omega, by simp only; omega⟩ y2)
                  rw [szE_app] at this
                  have hz : (⟨#[]⟩ : ByteArray).size = 0 := rfl
                  simp only [szE, List.length_cons, hz] at *
                  exact ⟨this.1, by omega⟩
                · cases h
/-- two lists in order, merged -/
theorem mg_in_order {size : Int} {xs ys r : List Ed} (h : mg xs ys [] = some r) (hx : inOrderF size 0 xs = true) (hy : inOrderF size 0 ys = true) : inOrderF size 0 r = true ∧ szE r ≤ szE xs + szE ys + 2 * (xs.length + ys.length) + 1 := by
  have h1 := mg_order size _ xs ys [] r 0 (Nat.le_refl _) h hx hy (fun l hl => hl)
  have h2 := mgMu_le xs ys
  exact ⟨h1.1, by have := h1.2; simp only [szE] at this; omega⟩
end Go.Proofs.YtgjbagojcbondaaGreat
