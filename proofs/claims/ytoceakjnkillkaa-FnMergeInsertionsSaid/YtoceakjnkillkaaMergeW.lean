/-
  diff.Merge computes the plain function mg. Condition: at most 3000000 edits each.
-/
import Derived.Test.YtoceakjnkillkaaMergeP
import Derived.Deep.RegionWith
namespace Go.Proofs.Ytoceakjnkillkaa
set_option linter.unusedVariables false
open Go.RowKit

/-- below base nothing but block g has turned -/
structure Only (w w' : World) (g base : Nat) : Prop where
  os : w'.os = w.os
  tape : w'.tape = w.tape
  output : w'.output = w.output
  size : w.heap.size ≤ w'.heap.size
  block : ∀ k, k < base → k ≠ g → w'.heap[k]? = w.heap[k]?
theorem Only.below {w w' : World} {g base B : Nat} (h : Only w w' g base) (hB : B ≤ base) (hg : B ≤ g) : Below B w w' :=
  ⟨h.os, h.tape, h.output, h.size, fun k hk => h.block k (by omega) (by omega)⟩
theorem Only.own {w w' : World} {g base b e size n : Nat} {v : Value} {xs : List Value} (h : Only w w' g base) (ho : w.ownsRow b e size v n xs) (hv : ∀ k, v.ownBlock = some k → k < base ∧ k ≠ g) : w'.ownsRow b e size v n xs := by
  refine ⟨ho.1, ?_⟩
  rcases ho.2 with hn | ⟨g', cap, cur, rfl, hb, hgg, rest⟩
  · exact .inl hn
  · obtain ⟨h1, h2⟩ := hv g' rfl
    exact .inr ⟨g', cap, cur, rfl, hb, by rw [h.block g' h1 h2]; exact hgg, rest⟩

set_option maxHeartbeats 400000 in
/-- the literal that adds an edit to what is merged -/
theorem add_any (gm base : Nat) (vm : Value) (x : Ed) (n : Nat) (acc : List Ed) (w : World) (hB : Blk w gm 49 #[vm])
    (ho : w.ownsRow base 66 3 vm n (edCells acc)) (hg : gm < base) (hb : base ≤ w.heap.size) (hn : n ≤ 13000000) :
   Calls Try.prog 40 #[.agg #[.int .i64 x.s, .int .i64 x.e, .string x.n], .pointer (some ⟨gm, 0, none⟩)] w fun e w' => e = .returned (.tuple #[]) ∧
      ∃ A' c', Blk w' gm 49 #[.slice A' (n + 1) c'] ∧ w'.ownsRow base 66 3 (.slice A' (n + 1) c') (n + 1) (edCells (acc ++ [x])) ∧ Only w w' gm base := by
  obtain ⟨i0, hi, hz0, hz1, hz2⟩ := info_parts infoD
  obtain ⟨A, c, rfl⟩ := own_form ho
  have hc0 : w.cell? ⟨gm, 0, none⟩ = some (.slice A n c) := hB.cell 0
  have hlt := hB.lt
  have HB := Lib.hid hB; clear hB
  have HO := Lib.hid ho; clear ho
  have HNE : Hid ((Value.slice A n c).ownBlock ≠ some gm) := by
    intro h
    have := (HO.out.lt gm h).1
    omega
  obtain ⟨s, e, t⟩ := x
  simp only
  go_enter Try.func40, Try.ntmps40
  go_wp2_with (at_builtin; refine wpList_append_any _ rfl (.tmp 3) (.tmp 5) _ rfl base 66 i0 _ 3 32 Try.underlying49 hi hz0 hz1 hz2 rfl (by omega) (.slice A n c) n (edCells acc) rfl ((HO.out.alloc _).alloc _) (some ⟨w.heap.size + 1, 0, none⟩) 1 1 (Ed.cells ⟨s, e, t⟩) rfl (by have := cells_lit3 (w.alloc (.cells #[.int .i64 s, .int .i64 e, .string t] 66)) 66 ⟨s, e, t⟩; simpa using this) rfl (edCells1 _) (by unfold maxLen; omega) (by omega) (by simp; omega) ?_; intro A1 c1 w1 hown1 hg1 hat1; have hB1 : Blk w1 gm 49 #[.slice A n c] := ((HB.out.alloc _).alloc _).grown hg1 (fun h => HNE.out h.symm); have hc1 : w1.cell? ⟨gm, 0, none⟩ = some (.slice A n c) := hB1.cell 0; have hf1 : w1.frozen? ⟨gm, 0, none⟩ = false := hB1.frozen 0; have HB1 := Lib.hid hB1; clear hB1; have HG1 := Lib.hid hg1; clear hg1; have HO1 := Lib.hid hown1; clear hown1; clear hat1)
  go_end0
  refine ⟨rfl, A1, c1, ?_, ?_, ?_⟩
  · have := HB1.out.set_ 0 (.slice A1 (n + 1) c1)
    simpa using this
  · have h := HO1.out
    rw [edCells_append]
    have h2 := ownsRow_setCell_below h (a := ⟨gm, 0, none⟩) hg (.slice A1 (n + 1) c1)
    exact h2
  · have hg1 := HG1.out
    refine ⟨hg1.os, hg1.tape, hg1.output, ?_, fun k hk hkg => ?_⟩
    · have := hg1.size
      simp [World.setCell] at this ⊢
      omega
    · rw [Below.heap_setCell _ _ _ _ (by simpa using hkg)]
      have e1 : some k ≠ (Value.slice A n c).ownBlock := by
        intro h
        have := (HO.out.lt k h.symm).1
        omega
      rw [hg1.block k (by simp; omega) e1, Below.heap_alloc _ _ _ (by simp; omega), Below.heap_alloc _ _ _ (by omega)]


/-- what holds at the head of each round of the merging -/
structure MRel (w : World) (B1 gm nx ny : Nat) (A1 : Option Addr) (c1 : Nat) (A2 : Option Addr) (c2 : Nat) (R : Option (List Ed)) (xi yi : Nat) (ex ey acc : List Ed) (wr : World) : Prop where
  lx : ex.length = nx
  ly : ey.length = ny
  hx : xi ≤ nx
  hy : yi ≤ ny
  res : mg (ex.drop xi) (ey.drop yi) acc = R
  mu : acc.length + mgMu (ex.drop xi) (ey.drop yi) ≤ 2 * (nx + ny) + 1
  ox : wr.ownsRow w.heap.size 66 3 (.slice A1 nx c1) nx (edCells ex)
  oy : wr.ownsRow B1 66 3 (.slice A2 ny c2) ny (edCells ey)
  vm : ∃ Am cm, Blk wr gm 49 #[.slice Am acc.length cm] ∧ wr.ownsRow (gm + 1) 66 3 (.slice Am acc.length cm) acc.length (edCells acc)
  bel : Below w.heap.size w wr
  sz : gm < wr.heap.size
  b1 : w.heap.size ≤ B1
  b2 : B1 ≤ gm
  k1 : ∀ k, (Value.slice A1 nx c1).ownBlock = some k → w.heap.size ≤ k ∧ k < B1
  k2 : ∀ k, (Value.slice A2 ny c2).ownBlock = some k → B1 ≤ k ∧ k < gm

section
variable {w : World} {B1 gm nx ny : Nat} {A1 : Option Addr} {c1 : Nat} {A2 : Option Addr} {c2 : Nat} {R : Option (List Ed)} {xi yi : Nat} {ex ey acc : List Ed} {wr : World}
theorem MRel.drewN (h : MRel w B1 gm nx ny A1 c1 A2 c2 R xi yi ex ey acc wr) (n : Nat) : MRel w B1 gm nx ny A1 c1 A2 c2 R xi yi ex ey acc (wr.drewN n) :=
  ⟨h.lx, h.ly, h.hx, h.hy, h.res, h.mu, h.ox, h.oy, h.vm, below_drewN h.bel n, h.sz, h.b1, h.b2, h.k1, h.k2⟩

/-- an edit more, the lists as they were -/
theorem MRel.add (h : MRel w B1 gm nx ny A1 c1 A2 c2 R xi yi ex ey acc wr) {w' : World} {x : Ed} {xi' yi' : Nat} {Am : Option Addr} {cm : Nat}
    (hO : Only wr w' gm (gm + 1)) (hB : Blk w' gm 49 #[.slice Am (acc.length + 1) cm]) (hown : w'.ownsRow (gm + 1) 66 3 (.slice Am (acc.length + 1) cm) (acc.length + 1) (edCells (acc ++ [x])))
    (hx : xi' ≤ nx) (hy : yi' ≤ ny) (hr : mg (ex.drop xi') (ey.drop yi') (acc ++ [x]) = mg (ex.drop xi) (ey.drop yi) acc)
    (hm : 1 + mgMu (ex.drop xi') (ey.drop yi') ≤ mgMu (ex.drop xi) (ey.drop yi)) :
    MRel w B1 gm nx ny A1 c1 A2 c2 R xi' yi' ex ey (acc ++ [x]) w' := by
  have hmu := h.mu
  have hb1 := h.b1
  have hb2 := h.b2
  refine ⟨h.lx, h.ly, hx, hy, hr.trans h.res, by simp only [List.length_append, List.length_cons, List.length_nil]; omega, ?_, ?_, ⟨Am, cm, by simpa using hB, by simpa using hown⟩, h.bel.trans (hO.below (by omega) (by omega)), Nat.lt_of_lt_of_le h.sz hO.size, hb1, hb2, h.k1, h.k2⟩
  · exact hO.own h.ox (fun k hk => by have := h.k1 k hk; omega)
  · exact hO.own h.oy (fun k hk => by have := h.k2 k hk; omega)

theorem MRel.cellsX (h : MRel w B1 gm nx ny A1 c1 A2 c2 R xi yi ex ey acc wr) (hlt : xi < nx) :
    ∃ g, A1 = some ⟨g, 0, none⟩ ∧ w.heap.size ≤ g ∧ g < B1 ∧ wr.cell? ⟨g, xi * 3, none⟩ = some (.int .i64 (eS ex xi)) ∧ wr.cell? ⟨g, xi * 3 + 1, none⟩ = some (.int .i64 (eE ex xi)) ∧ wr.cell? ⟨g, xi * 3 + 2, none⟩ = some (.string (eN ex xi)) ∧ wr.frozen? ⟨g, xi * 3, none⟩ = false := by
  have ho := h.ox
  have hl := h.lx
  rcases ho.2 with ⟨_, h0⟩ | ⟨g, cap, cur, hv, hg, _⟩
  · omega
  · injection hv with hA _ hc
    subst hA
    obtain ⟨g1, g2, g3⟩ := edCells_get ex xi (by omega)
    refine ⟨g, rfl, hg, (h.k1 g rfl).2, ?_, ?_, ?_, ho.frozenAt _⟩
    · rw [ho.cellAt _ (by omega)]; exact g1
    · rw [ho.cellAt _ (by omega)]; exact g2
    · rw [ho.cellAt _ (by omega)]; exact g3
theorem MRel.cellsY (h : MRel w B1 gm nx ny A1 c1 A2 c2 R xi yi ex ey acc wr) (hlt : yi < ny) :
    ∃ g, A2 = some ⟨g, 0, none⟩ ∧ B1 ≤ g ∧ g < gm ∧ wr.cell? ⟨g, yi * 3, none⟩ = some (.int .i64 (eS ey yi)) ∧ wr.cell? ⟨g, yi * 3 + 1, none⟩ = some (.int .i64 (eE ey yi)) ∧ wr.cell? ⟨g, yi * 3 + 2, none⟩ = some (.string (eN ey yi)) ∧ wr.frozen? ⟨g, yi * 3, none⟩ = false := by
  have ho := h.oy
  have hl := h.ly
  rcases ho.2 with ⟨_, h0⟩ | ⟨g, cap, cur, hv, hg, _⟩
  · omega
  · injection hv with hA _ hc
    subst hA
    obtain ⟨g1, g2, g3⟩ := edCells_get ey yi (by omega)
    refine ⟨g, rfl, hg, (h.k2 g rfl).2, ?_, ?_, ?_, ho.frozenAt _⟩
    · rw [ho.cellAt _ (by omega)]; exact g1
    · rw [ho.cellAt _ (by omega)]; exact g2
    · rw [ho.cellAt _ (by omega)]; exact g3
end

theorem Only.cell {w w' : World} {g base : Nat} (h : Only w w' g base) {p : Addr} (hp : p.block < base) (hg : p.block ≠ g) : w'.cell? p = w.cell? p := World.cell?_of_block (w := w) (h.block p.block hp hg)
theorem Only.frozen {w w' : World} {g base : Nat} (h : Only w w' g base) {p : Addr} (hp : p.block < base) (hg : p.block ≠ g) : w'.frozen? p = w.frozen? p := World.frozen?_of_block (w := w) (h.block p.block hp hg)

section
variable {w : World} {B1 gm nx ny : Nat} {A1 : Option Addr} {c1 : Nat} {A2 : Option Addr} {c2 : Nat} {R : Option (List Ed)} {xi yi : Nat} {ex ey acc : List Ed} {wr : World}
theorem own_set_other {wr : World} {b e size n : Nat} {v : Value} {xs : List Value} (ho : wr.ownsRow b e size v n xs) {a : Addr} (hv : ∀ k, v.ownBlock = some k → k ≠ a.block) (u : Value) : (wr.setCell a u).ownsRow b e size v n xs := by
  refine ⟨ho.1, ?_⟩
  rcases ho.2 with hn | ⟨g', cap, cur, rfl, hb, hgg, rest⟩
  · exact .inl hn
  · exact .inr ⟨g', cap, cur, rfl, hb, by rw [Below.heap_setCell _ _ _ _ (hv g' rfl)]; exact hgg, rest⟩
/-- the first list's head has been split -/
theorem MRel.splitX {gx : Nat} (h : MRel w B1 gm nx ny (some ⟨gx, 0, none⟩) c1 A2 c2 R xi yi ex ey acc wr) {w' : World} {x : Ed} {Am : Option Addr} {cm : Nat} {u : Int}
    (hO : Only wr w' gm (gm + 1)) (hB : Blk w' gm 49 #[.slice Am (acc.length + 1) cm]) (hown : w'.ownsRow (gm + 1) 66 3 (.slice Am (acc.length + 1) cm) (acc.length + 1) (edCells (acc ++ [x])))
    (hxi : xi < nx) (hr : mg ((ex.set xi ⟨u, eE ex xi, eN ex xi⟩).drop xi) (ey.drop yi) (acc ++ [x]) = mg (ex.drop xi) (ey.drop yi) acc)
    (hm : 1 + mgMu ((ex.set xi ⟨u, eE ex xi, eN ex xi⟩).drop xi) (ey.drop yi) ≤ mgMu (ex.drop xi) (ey.drop yi)) :
    MRel w B1 gm nx ny (some ⟨gx, 0, none⟩) c1 A2 c2 R xi yi (ex.set xi ⟨u, eE ex xi, eN ex xi⟩) ey (acc ++ [x]) (w'.setCell ⟨gx, xi * 3, none⟩ (.int .i64 u)) := by
  have hmu := h.mu
  have hb1 := h.b1
  have hb2 := h.b2
  have hk := h.k1 gx rfl
  have hl := h.lx
  have h1 := hO.own h.ox (fun k hk => by have := h.k1 k hk; omega)
  have h2 := hO.own h.oy (fun k hk => by have := h.k2 k hk; omega)
  refine ⟨by simpa using hl, h.ly, h.hx, h.hy, hr.trans h.res, by simp only [List.length_append, List.length_cons, List.length_nil]; omega, ?_, ?_, ⟨Am, cm, ?_, ?_⟩, (h.bel.trans (hO.below (by omega) (by omega))).setCell hk.1 _, by have := Nat.lt_of_lt_of_le h.sz hO.size; simp [World.setCell]; omega, hb1, hb2, h.k1, h.k2⟩
  · rw [← edCells_set ex xi u (by omega)]
    exact (h1.stored (xi * 3) (.int .i64 u)).1
  · exact own_set_other h2 (fun k hk' => by have := h.k2 k hk'; show k ≠ gx; omega) _
  · have := hB.far (p := ⟨gx, xi * 3, none⟩) (by show gm ≠ gx; omega) (.int .i64 u)
    simpa using this
  · have := own_set_other hown (a := ⟨gx, xi * 3, none⟩) (fun k hk' => by have := (hown.lt k hk').1; show k ≠ gx; omega) (.int .i64 u)
    simpa using this
theorem MRel.splitY {gy : Nat} (h : MRel w B1 gm nx ny A1 c1 (some ⟨gy, 0, none⟩) c2 R xi yi ex ey acc wr) {w' : World} {x : Ed} {Am : Option Addr} {cm : Nat} {u : Int}
    (hO : Only wr w' gm (gm + 1)) (hB : Blk w' gm 49 #[.slice Am (acc.length + 1) cm]) (hown : w'.ownsRow (gm + 1) 66 3 (.slice Am (acc.length + 1) cm) (acc.length + 1) (edCells (acc ++ [x])))
    (hyi : yi < ny) (hr : mg (ex.drop xi) ((ey.set yi ⟨u, eE ey yi, eN ey yi⟩).drop yi) (acc ++ [x]) = mg (ex.drop xi) (ey.drop yi) acc)
    (hm : 1 + mgMu (ex.drop xi) ((ey.set yi ⟨u, eE ey yi, eN ey yi⟩).drop yi) ≤ mgMu (ex.drop xi) (ey.drop yi)) :
    MRel w B1 gm nx ny A1 c1 (some ⟨gy, 0, none⟩) c2 R xi yi ex (ey.set yi ⟨u, eE ey yi, eN ey yi⟩) (acc ++ [x]) (w'.setCell ⟨gy, yi * 3, none⟩ (.int .i64 u)) := by
  have hmu := h.mu
  have hb1 := h.b1
  have hb2 := h.b2
  have hk := h.k2 gy rfl
  have hl := h.ly
  have h1 := hO.own h.ox (fun k hk => by have := h.k1 k hk; omega)
  have h2 := hO.own h.oy (fun k hk => by have := h.k2 k hk; omega)
  refine ⟨h.lx, by simpa using hl, h.hx, h.hy, hr.trans h.res, by simp only [List.length_append, List.length_cons, List.length_nil]; omega, ?_, ?_, ⟨Am, cm, ?_, ?_⟩, (h.bel.trans (hO.below (by omega) (by omega))).setCell (p := ⟨gy, yi * 3, none⟩) (by show w.heap.size ≤ gy; omega) _, by have := Nat.lt_of_lt_of_le h.sz hO.size; simp [World.setCell]; omega, hb1, hb2, h.k1, h.k2⟩
  · exact own_set_other h1 (fun k hk' => by have := h.k1 k hk'; show k ≠ gy; omega) _
  · rw [← edCells_set ey yi u (by omega)]
    exact (h2.stored (yi * 3) (.int .i64 u)).1
  · have := hB.far (p := ⟨gy, yi * 3, none⟩) (by show gm ≠ gy; omega) (.int .i64 u)
    simpa using this
  · have := own_set_other hown (a := ⟨gy, yi * 3, none⟩) (fun k hk' => by have := (hown.lt k hk').1; show k ≠ gy; omega) (.int .i64 u)
    simpa using this
end

def MergePost (R : Option (List Ed)) (w : World) (e : Ending) (w' : World) : Prop :=
  Below w.heap.size w w' ∧ ((R = none ∧ e = .returned (.tuple #[.slice none 0 0, .bool false])) ∨
    ∃ r A c, R = some r ∧ e = .returned (.tuple #[.slice A r.length c, .bool true]) ∧ w'.ownsRow w.heap.size 66 3 (.slice A r.length c) r.length (edCells r))

theorem run_eql_ed {P : Program} (t : TypeId) (w : World) (x y : Ed) (r : Bool) (hr : r = edEqB x y)
    (h : ∀ w, (binOp .eql t (.agg #[.int .i64 x.s, .int .i64 x.e, .string x.n]) (.agg #[.int .i64 y.s, .int .i64 y.e, .string y.n])).run P w = .ok (.bool (edEqB x y)) w) :
    (binOp .eql t (.agg #[.int .i64 x.s, .int .i64 x.e, .string x.n]) (.agg #[.int .i64 y.s, .int .i64 y.e, .string y.n])).run P w = .ok (.bool r) w := by
  rw [hr]; exact h w

theorem run_eql_D (w : World) (s e s' e' : Int) (n n' : ByteArray) :
    (binOp .eql 66 (.agg #[.int .i64 s, .int .i64 e, .string n]) (.agg #[.int .i64 s', .int .i64 e', .string n'])).run Try.prog w = .ok (.bool (edEqB ⟨s, e, n⟩ ⟨s', e', n'⟩)) w := by
  by_cases hs : s = s'
  · by_cases he : e = e'
    · by_cases hn : n.toList = n'.toList
      · simp [go_sem, edEqB, hs, he, hn]
      · simp [go_sem, edEqB, hs, he, hn]
    · simp [go_sem, edEqB, hs, he]
  · simp [go_sem, edEqB, hs]
end Go.Proofs.Ytoceakjnkillkaa
