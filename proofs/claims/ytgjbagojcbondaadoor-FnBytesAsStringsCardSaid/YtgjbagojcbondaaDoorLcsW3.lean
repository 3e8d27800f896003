/-
  The walks of the list of pieces: prepend, append; of ok. No condition but bounds.
-/
import Derived.Test.YtgjbagojcbondaaDoorLcsW2
namespace Go.Proofs.YtgjbagojcbondaaDoor
set_option linter.unusedVariables false
open Go.RowKit

def Pc.cells (p : Pc) : List Value := [.int .i64 p.x, .int .i64 p.y, .int .i64 p.l]
def pcCells (ps : List Pc) : List Value := ps.flatMap Pc.cells
theorem pcCells_nil : pcCells [] = [] := rfl
theorem pcCells_cons (p : Pc) (ps : List Pc) : pcCells (p :: ps) = p.cells ++ pcCells ps := rfl
theorem pcCells_append (a b : List Pc) : pcCells (a ++ b) = pcCells a ++ pcCells b := by simp [pcCells]
theorem pcCells_length (ps : List Pc) : (pcCells ps).length = ps.length * 3 := by
  induction ps with
  | nil => rfl
  | cons p ps ih => rw [pcCells_cons, List.length_append, ih]; simp [Pc.cells]; omega
theorem pcCells_one (ps : List Pc) : ∀ u ∈ pcCells ps, u.oneCell' = true := by
  intro u hu
  simp only [pcCells, List.mem_flatMap] at hu
  obtain ⟨x, _, hx⟩ := hu
  simp only [Pc.cells, List.mem_cons, List.not_mem_nil, or_false] at hx
  rcases hx with rfl | rfl | rfl <;> rfl
theorem pcCells_get (ps : List Pc) (k : Nat) (h : k < ps.length) :
    (pcCells ps)[k * 3]? = some (.int .i64 ps[k].x) ∧ (pcCells ps)[k * 3 + 1]? = some (.int .i64 ps[k].y) ∧ (pcCells ps)[k * 3 + 2]? = some (.int .i64 ps[k].l) := by
  induction ps generalizing k with
  | nil => simp at h
  | cons p ps ih =>
    rw [pcCells_cons]
    cases k with
    | zero => simp [Pc.cells]
    | succ k =>
      have hl : p.cells.length = 3 := rfl
      have := ih k (by simpa using h)
      refine ⟨?_, ?_, ?_⟩
      · rw [List.getElem?_append_right (by omega), hl, show (k + 1) * 3 - 3 = k * 3 by omega, this.1]; rfl
      · rw [List.getElem?_append_right (by omega), hl, show (k + 1) * 3 + 1 - 3 = k * 3 + 1 by omega, this.2.1]; rfl
      · rw [List.getElem?_append_right (by omega), hl, show (k + 1) * 3 + 2 - 3 = k * 3 + 2 by omega, this.2.2]; rfl
theorem infoG : (Tryd.prog.info? 89).map (fun i => (i.zero, i.size, i.bytes)) = some (some (.agg #[.int .i64 0, .int .i64 0, .int .i64 0]), 3, 24) := by kernel_rfl
theorem pc_lit1 (w : World) (t : TypeId) (x y l : Nat) : CellsR (w.alloc (.cells #[.int .i64 (x : Int), .int .i64 (y : Int), .int .i64 (l : Int)] t)) (some ⟨w.heap.size, 0, none⟩) (pcCells [⟨x, y, l⟩]) := by
  refine .inr ⟨_, _, rfl, fun j u hu => ?_⟩
  have := (Blk.new w t #[.int .i64 (x : Int), .int .i64 (y : Int), .int .i64 (l : Int)]).cell (0 + j)
  rw [this]
  simpa [pcCells, Pc.cells] using hu

/-- a list of pieces in new memory, in a row of the call's own -/
def PcRes (B0 : Nat) (w : World) (qs : List Pc) (e : Ending) (w' : World) : Prop :=
  ∃ v, e = .returned v ∧ w'.ownsRow B0 89 3 v qs.length (pcCells qs) ∧ Below B0 w w'

theorem run_append_types {P : Program} (w : World) (t t' ty e e' : TypeId) (ht : P.underlying t = some (.slice e)) (ht' : P.underlying t' = some (.slice e')) (A A' : Option Addr) (n n' c c' : Nat) :
    (Builtin.append_ #[t, t'] ty #[.slice A n c, .slice A' n' c']).run P w = (Builtin.append_ #[t, t] ty #[.slice A n c, .slice A' n' c']).run P w := by
  simp [Builtin.append_, run_underlying ht, run_underlying ht']
theorem wpList_append_two {P : Program} (w : World) {ops : Array Oper} {rest : List Oper} {o : Oper} {a : Act} {Q : Exit → Act → World → Prop} (hgd : o.guard = none) (s x : Operand) (t t' : TypeId)
    (ho : o.op = .call { callee := .builtin .append, args := #[s, x], argTypes := #[t, t'] })
    (base : Nat) (e e' : TypeId) (i : TypeInfo) (z : Value) (size bytes : Nat) (ht : P.underlying t = some (.slice e)) (ht' : P.underlying t' = some (.slice e')) (hi : P.info? e = some i) (hz : i.zero = some z)
    (hsize : i.size = size) (hby : i.bytes = bytes) (hzs : z.cells.size = size) (hsz : 0 < size)
    (v : Value) (n : Nat) (xs : List Value) (hs : a.eval s = v) (hown : w.ownsRow base e size v n xs)
    (A : Option Addr) (m c : Nat) (news : List Value) (hx : a.eval x = .slice A m c) (hr : CellsR w A news) (hm : news.length = m * size) (h1 : ∀ u ∈ news, u.oneCell' = true)
    (h63 : n + m ≤ maxLen) (hbytes : (n + m) * bytes ≤ 140737488355328) (hbase : base ≤ w.heap.size)
    (h : ∀ A' c' w', w'.ownsRow base e size (.slice A' (n + m) c') (n + m) (xs ++ news) → w.grownBy w' v.ownBlock → ((Value.slice A' (n + m) c').ownBlock = v.ownBlock ∨ (Value.slice A' (n + m) c').ownBlock = some w.heap.size) → wpList P ops Q rest (a.put o.dst (.slice A' (n + m) c')) w') : wpList P ops Q (o :: rest) a w := by
  refine wpList_plain hgd fun K hK => ?_
  obtain ⟨v', w', hrun, h2, h3, h4⟩ := run_append_any (P := P) w base t o.type e i z size bytes ht hi hz hsize hby hzs hsz v n xs hown A m c news hr hm h1 h63 hbytes hbase
  obtain ⟨A0, c0, rfl⟩ := own_form hown
  have hrun' := (run_append_types w t t' o.type e e' ht ht' A0 A n m c0 c).trans hrun
  unfold Oper.wp execOp
  simp only [ho, resolve, invoke, builtin, Sem.run_bind, Sem.run_pure, Result.andThen_ok, List.map_toArray, List.map_cons, List.map_nil, hs, hx, hrun']
  refine hK _ _ ?_
  obtain ⟨A', c', rfl⟩ := own_form h2
  exact h A' c' w' h2 h3 h4
theorem own_someG {w : World} {base e size n c : Nat} {A : Option Addr} {xs : List Value} (h : w.ownsRow base e size (.slice A n c) n xs) (hn : 0 < n) : ∃ g, A = some ⟨g, 0, none⟩ ∧ base ≤ g ∧ g < w.heap.size := by
  obtain ⟨g, rfl⟩ := own_someT h hn
  exact ⟨g, rfl, h.lt g rfl⟩

theorem pc_own (w : World) (B0 x y : Nat) (hB : B0 ≤ w.heap.size) : (w.alloc (.cells #[.int .i64 (x : Int), .int .i64 (y : Int), .int .i64 1] 89)).ownsRow B0 89 3 (.slice (some ⟨w.heap.size, 0, none⟩) 1 1) 1 (pcCells [⟨x, y, 1⟩]) :=
  World.ownsRow_lit w #[.int .i64 (x : Int), .int .i64 (y : Int), .int .i64 1] 1 hB (by simp [maxLen]) rfl

set_option maxRecDepth 100000 in
set_option maxHeartbeats 1000000 in
theorem prepend_any (w : World) (B0 : Nat) (v : Value) (ps : List Pc) (x y : Nat) (hown : w.ownsRow B0 89 3 v ps.length (pcCells ps)) (hB : B0 ≤ w.heap.size) (hl : ps.length ≤ 2000002) (hpl : ∀ p ∈ ps, p.l ≤ 2000002) (hx : x ≤ 2000002) (hy : y ≤ 2000002) :
   Calls Tryd.prog 48 #[v, .int .i64 x, .int .i64 y] w (PcRes B0 w (prep x y ps)) := by
  obtain ⟨i0, hi, hz0, hz1, hz2⟩ := info_parts infoG
  obtain ⟨A, c, rfl⟩ := own_form hown
  cases ps with
  | nil =>
    have HO := Lib.hid hown; clear hown
    have HR : CellsR w A (pcCells []) := CellsR.nil _ _
    have HRR := Lib.hid HR; clear HR
    go_enter Tryd.func48, Tryd.ntmps48
    go_wp2_with (at_builtin; refine wpList_append_two _ rfl (.tmp 50) (.tmp 51) _ _ rfl B0 89 89 i0 _ 3 24 Tryd.underlying62 Tryd.underlying63 hi hz0 hz1 hz2 rfl (by omega) (.slice (some ⟨w.heap.size + 1, 0, none⟩) 1 1) 1 (pcCells [⟨x, y, 1⟩]) rfl (by have h5 := pc_own (w.alloc (.cells #[.int .i64 (x : Int), .int .i64 (y : Int), .int .i64 1] 89)) B0 x y (by simp; omega); simpa using h5) A 0 c (pcCells []) rfl (CellsR.nil _ _) rfl (pcCells_one _) (by unfold maxLen; omega) (by omega) (by simp; omega) ?_; intro A5 c5 w5 hown5 hg5 hat5)
    go_ret
    refine ⟨_, rfl, ?_, ?_⟩
    · simpa [prep, pcCells_nil] using hown5
    · exact (((Below.refl _ _).alloc hB _).alloc (by simp; omega) _).grown hg5 (by simp; omega) (by intro k hk; simp [Value.ownBlock] at hk; omega)
  | cons p ps =>
    obtain ⟨ga, rfl, hga1, hga2⟩ := own_someG hown (by simp)
    have hg := pcCells_get (p :: ps) 0 (by simp)
    simp only [Nat.zero_mul, Nat.zero_add, List.getElem_cons_zero] at hg
    have hc0 := (hown.cellAt (j := 0) (by simp only [List.length_cons]; omega)).trans hg.1
    have hc1 := (hown.cellAt (j := 1) (by simp only [List.length_cons]; omega)).trans hg.2.1
    have hc2 := (hown.cellAt (j := 2) (by simp only [List.length_cons]; omega)).trans hg.2.2
    have hf0 := hown.frozenAt 0
    have hf1 := hown.frozenAt 1
    have hf2 := hown.frozenAt 2
    have hpl0 := hpl p (by simp)
    have HO := Lib.hid hown; clear hown hg hpl
    obtain ⟨n, hn⟩ : ∃ n, (p :: ps).length = n := ⟨_, rfl⟩
    have hn0 : 0 < n := by rw [← hn]; simp
    have hn1 : (0 : Int) < (n : Int) := by omega
    rw [hn] at hl ⊢
    rw [hn] at HO
    have HN := Lib.hid hn; clear hn
    have hprep := prep_cons x y p ps
    by_cases hx1 : (p.x : Int) = (x : Int) + 1
    · by_cases hy1 : (p.y : Int) = (y : Int) + 1
      · rw [if_pos ⟨by omega, by omega⟩] at hprep
        have HP := Lib.hid hprep; clear hprep
        go_enter Tryd.func48, Tryd.ntmps48
        go_wp2
        go_ret
        refine ⟨_, rfl, ?_, (((Below.refl _ _).setCell (p := ⟨ga, 0, none⟩) hga1 _).setCell (p := ⟨ga, 1, none⟩) hga1 _).setCell (p := ⟨ga, 2, none⟩) hga1 _⟩
        have h3 := (((HO.out.stored 0 (.int .i64 (x : Int))).1.stored 1 (.int .i64 (y : Int))).1.stored 2 (.int .i64 ((p.l : Int) + 1))).1
        have e : (((pcCells (p :: ps)).set 0 (.int .i64 (x : Int))).set 1 (.int .i64 (y : Int))).set 2 (.int .i64 ((p.l : Int) + 1)) = pcCells (⟨x, y, p.l + 1⟩ :: ps) := by
          simp [pcCells_cons, Pc.cells]
        rw [e] at h3
        rw [HP.out]
        have h4 : n = (⟨x, y, p.l + 1⟩ :: ps : List Pc).length := by rw [← HN.out]; simp
        rw [← h4]
        exact h3
      · rw [if_neg (by omega)] at hprep
        have HP := Lib.hid hprep; clear hprep
        go_enter Tryd.func48, Tryd.ntmps48
        go_wp2_with (at_builtin; refine wpList_append_two _ rfl (.tmp 50) (.tmp 51) _ _ rfl B0 89 89 i0 _ 3 24 Tryd.underlying62 Tryd.underlying63 hi hz0 hz1 hz2 rfl (by omega) (.slice (some ⟨w.heap.size + 1, 0, none⟩) 1 1) 1 (pcCells [⟨x, y, 1⟩]) rfl (by have h5 := pc_own (w.alloc (.cells #[.int .i64 (x : Int), .int .i64 (y : Int), .int .i64 1] 89)) B0 x y (by simp; omega); simpa using h5) (some ⟨ga, 0, none⟩) n c (pcCells (p :: ps)) rfl (((CellsR.of_own HO.out).alloc _).alloc _) (by rw [pcCells_length, HN.out]) (pcCells_one _) (by unfold maxLen; omega) (by omega) (by simp; omega) ?_; intro A5 c5 w5 hown5 hg5 hat5)
        go_ret
        refine ⟨_, rfl, ?_, (((Below.refl _ _).alloc hB _).alloc (by simp; omega) _).grown hg5 (by simp; omega) (by intro k hk; simp [Value.ownBlock] at hk; omega)⟩
        rw [HP.out]
        have h4 : 1 + n = (⟨x, y, 1⟩ :: p :: ps : List Pc).length := by rw [← HN.out]; simp; omega
        rw [← h4]
        exact hown5
    · rw [if_neg (by omega)] at hprep
      have HP := Lib.hid hprep; clear hprep
      go_enter Tryd.func48, Tryd.ntmps48
      go_wp2_with (at_builtin; refine wpList_append_two _ rfl (.tmp 50) (.tmp 51) _ _ rfl B0 89 89 i0 _ 3 24 Tryd.underlying62 Tryd.underlying63 hi hz0 hz1 hz2 rfl (by omega) (.slice (some ⟨w.heap.size + 1, 0, none⟩) 1 1) 1 (pcCells [⟨x, y, 1⟩]) rfl (by have h5 := pc_own (w.alloc (.cells #[.int .i64 (x : Int), .int .i64 (y : Int), .int .i64 1] 89)) B0 x y (by simp; omega); simpa using h5) (some ⟨ga, 0, none⟩) n c (pcCells (p :: ps)) rfl (((CellsR.of_own HO.out).alloc _).alloc _) (by rw [pcCells_length, HN.out]) (pcCells_one _) (by unfold maxLen; omega) (by omega) (by simp; omega) ?_; intro A5 c5 w5 hown5 hg5 hat5)
      go_ret
      refine ⟨_, rfl, ?_, (((Below.refl _ _).alloc hB _).alloc (by simp; omega) _).grown hg5 (by simp; omega) (by intro k hk; simp [Value.ownBlock] at hk; omega)⟩
      rw [HP.out]
      have h4 : 1 + n = (⟨x, y, 1⟩ :: p :: ps : List Pc).length := by rw [← HN.out]; simp; omega
      rw [← h4]
      exact hown5

set_option maxRecDepth 100000 in
set_option maxHeartbeats 1000000 in
theorem appd_any (w : World) (B0 : Nat) (v : Value) (ps : List Pc) (x y : Nat) (hown : w.ownsRow B0 89 3 v ps.length (pcCells ps)) (hB : B0 ≤ w.heap.size) (hl : ps.length ≤ 2000002) (hpl : ∀ p ∈ ps, p.l ≤ 2000002 ∧ p.x ≤ 2000002 ∧ p.y ≤ 2000002) (hx : x ≤ 2000002) (hy : y ≤ 2000002) :
   Calls Tryd.prog 49 #[v, .int .i64 x, .int .i64 y] w (PcRes B0 w (appd ps x y)) := by
  obtain ⟨i0, hi, hz0, hz1, hz2⟩ := info_parts infoG
  obtain ⟨A, c, rfl⟩ := own_form hown
  have hlit : CellsR (w.alloc (.cells #[.int .i64 (x : Int), .int .i64 (y : Int), .int .i64 1] 89)) (some ⟨w.heap.size, 0, none⟩) (pcCells [⟨x, y, 1⟩]) := pc_lit1 w _ x y 1
  have HLIT := Lib.hid hlit; clear hlit
  rcases snoc_form ps with h | ⟨qs, q, h⟩
  · subst h
    have HO := Lib.hid hown; clear hown
    go_enter Tryd.func49, Tryd.ntmps49
    go_wp2_with (at_builtin; refine wpList_append_any _ rfl (.tmp 48) (.tmp 52) _ rfl B0 89 i0 _ 3 24 Tryd.underlying63 hi hz0 hz1 hz2 rfl (by omega) (.slice A 0 c) 0 (pcCells []) rfl (HO.out.alloc _) (some ⟨w.heap.size, 0, none⟩) 1 1 (pcCells [⟨x, y, 1⟩]) rfl HLIT.out rfl (pcCells_one _) (by unfold maxLen; omega) (by omega) (by simp; omega) ?_; intro A5 c5 w5 hown5 hg5 hat5)
    go_ret
    refine ⟨_, rfl, ?_, ((Below.refl _ _).alloc hB _).grown hg5 (by simp; omega) (fun g hg => (HO.out.lt g hg).1)⟩
    simpa [appd_nil, pcCells_nil] using hown5
  · subst h
    have hga := own_someG hown (by simp)
    obtain ⟨ga, rfl, hga1, hga2⟩ := hga
    have hg := pcCells_get (qs ++ [q]) qs.length (by simp)
    simp only [List.getElem_concat_length] at hg
    have hc0 := (hown.cellAt (j := qs.length * 3) (by simp only [List.length_append, List.length_singleton]; omega)).trans hg.1
    have hc1 := (hown.cellAt (j := qs.length * 3 + 1) (by simp only [List.length_append, List.length_singleton]; omega)).trans hg.2.1
    have hc2 := (hown.cellAt (j := qs.length * 3 + 2) (by simp only [List.length_append, List.length_singleton]; omega)).trans hg.2.2
    have hf2 := hown.frozenAt (qs.length * 3 + 2)
    obtain ⟨hpl0, hpl1, hpl2⟩ := hpl q (by simp)
    have hlen : (qs ++ [q]).length = qs.length + 1 := by simp
    rw [hlen] at hown hl
    rw [hlen]
    have HO := Lib.hid hown; clear hown hg hpl hlen
    obtain ⟨n, hn⟩ : ∃ n, qs.length = n := ⟨_, rfl⟩
    rw [hn] at hl hc0 hc1 hc2 hf2 ⊢
    rw [hn] at HO
    have HN := Lib.hid hn; clear hn
    have happ := appd_snoc qs q x y
    have k0 : (0 : Int) < (n : Int) + 1 := by omega
    have w1 : IntKind.i64.wrap ((q.x : Int) + (q.l : Int)) = (q.x : Int) + (q.l : Int) := IntWalk.i64_in _ (by omega)
    have w2 : IntKind.i64.wrap ((q.y : Int) + (q.l : Int)) = (q.y : Int) + (q.l : Int) := IntWalk.i64_in _ (by omega)
    have w3 : IntKind.i64.wrap ((n : Int) + 1 - 1) = (n : Int) := by rw [show (n : Int) + 1 - 1 = (n : Int) by omega]; exact IntWalk.i64_in _ (by omega)
    by_cases e1 : q.x + q.l = x
    · have b1 : ((q.x : Int) + (q.l : Int) == (x : Int)) = true := by simp; omega
      by_cases e2 : q.y + q.l = y
      · have b2 : ((q.y : Int) + (q.l : Int) == (y : Int)) = true := by simp; omega
        rw [if_pos ⟨e1, e2⟩] at happ
        have HP := Lib.hid happ; clear happ e1 e2
        go_enter Tryd.func49, Tryd.ntmps49
        go_wp2
        go_quiet (fail)
        go_wp2
        go_ret
        refine ⟨_, rfl, ?_, below_drewN ((Below.refl _ _).setCell (p := ⟨ga, n * 3 + 2, none⟩) hga1 _) _⟩
        have h3 := (HO.out.stored (n * 3 + 2) (.int .i64 ((q.l : Int) + 1))).1
        have e : (pcCells (qs ++ [q])).set (n * 3 + 2) (.int .i64 ((q.l : Int) + 1)) = pcCells (qs ++ [⟨q.x, q.y, q.l + 1⟩]) := by
          rw [pcCells_append, pcCells_append, List.set_append_right _ _ (by rw [pcCells_length, HN.out]; omega), pcCells_length, HN.out, show n * 3 + 2 - n * 3 = 2 by omega]
          simp [pcCells, Pc.cells]
        rw [e] at h3
        rw [HP.out]
        have h4 : n + 1 = (qs ++ [⟨q.x, q.y, q.l + 1⟩] : List Pc).length := by rw [← HN.out]; simp
        rw [← h4]
        exact h3
      · have b2 : ((q.y : Int) + (q.l : Int) == (y : Int)) = false := by simp; omega
        rw [if_neg (fun h => e2 h.2)] at happ
        have HP := Lib.hid happ; clear happ e1 e2
        go_enter Tryd.func49, Tryd.ntmps49
        go_wp2
        go_quiet (fail)
        go_wp2_with (at_builtin; refine wpList_append_any _ rfl (.tmp 48) (.tmp 52) _ rfl B0 89 i0 _ 3 24 Tryd.underlying63 hi hz0 hz1 hz2 rfl (by omega) (.slice (some ⟨ga, 0, none⟩) (n + 1) c) (n + 1) (pcCells (qs ++ [q])) rfl (by exact HO.out.alloc _) (some ⟨w.heap.size, 0, none⟩) 1 1 (pcCells [⟨x, y, 1⟩]) rfl (by exact HLIT.out) rfl (pcCells_one _) (by unfold maxLen; omega) (by omega) (by simp; omega) ?_; intro A5 c5 w5 hown5 hg5 hat5)
        go_ret
        refine ⟨_, rfl, ?_, (below_drewN ((Below.refl _ _).alloc hB _) _).grown hg5 (by simp; omega) (fun g hg => (HO.out.lt g hg).1)⟩
        rw [HP.out]
        have h4 : n + 1 + 1 = (qs ++ [q] ++ [⟨x, y, 1⟩] : List Pc).length := by rw [← HN.out]; simp
        rw [← h4, pcCells_append]
        exact hown5
    · have b1 : ((q.x : Int) + (q.l : Int) == (x : Int)) = false := by simp; omega
      rw [if_neg (fun h => e1 h.1)] at happ
      have HP := Lib.hid happ; clear happ e1
      go_enter Tryd.func49, Tryd.ntmps49
      go_wp2
      go_quiet (fail)
      go_wp2_with (at_builtin; refine wpList_append_any _ rfl (.tmp 48) (.tmp 52) _ rfl B0 89 i0 _ 3 24 Tryd.underlying63 hi hz0 hz1 hz2 rfl (by omega) (.slice (some ⟨ga, 0, none⟩) (n + 1) c) (n + 1) (pcCells (qs ++ [q])) rfl (by exact HO.out.alloc _) (some ⟨w.heap.size, 0, none⟩) 1 1 (pcCells [⟨x, y, 1⟩]) rfl (by exact HLIT.out) rfl (pcCells_one _) (by unfold maxLen; omega) (by omega) (by simp; omega) ?_; intro A5 c5 w5 hown5 hg5 hat5)
      go_ret
      refine ⟨_, rfl, ?_, (below_drewN ((Below.refl _ _).alloc hB _) _).grown hg5 (by simp; omega) (fun g hg => (HO.out.lt g hg).1)⟩
      rw [HP.out]
      have h4 : n + 1 + 1 = (qs ++ [q] ++ [⟨x, y, 1⟩] : List Pc).length := by rw [← HN.out]; simp
      rw [← h4, pcCells_append]
      exact hown5
end Go.Proofs.YtgjbagojcbondaaDoor
