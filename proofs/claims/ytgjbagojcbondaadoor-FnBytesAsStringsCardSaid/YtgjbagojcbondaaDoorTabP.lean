/-
  The label tables of lcs: what they look like in the heap; label.get. No condition but bounds.
-/
import Derived.Test.YtgjbagojcbondaaDoorSmall
import Derived.IntWalk
import Derived.Laws.OwnMore
namespace Go.Proofs.YtgjbagojcbondaaDoor
set_option linter.unusedVariables false
open Go.RowKit

/-- a row of a label table: its block, and its numbers (none: a nil slice) -/
abbrev LRow := Nat × List Int
def rowCell (r : LRow) : Value := if r.2 = [] then .slice none 0 0 else .slice (some ⟨r.1, 0, none⟩) r.2.length r.2.length
def rowAt (rows : List LRow) (d : Nat) : LRow := rows.getD d (0, [])
/-- the value v is a table with these rows, all in blocks from B on -/
structure Tab (w : World) (B : Nat) (v : Value) (rows : List LRow) : Prop where
  own : w.ownsRow B 28 1 v rows.length (rows.map rowCell)
  row : ∀ r ∈ rows, r.2 ≠ [] → B ≤ r.1 ∧ Blk w r.1 3 (intCells .i64 r.2).toArray

theorem own_someT {w : World} {base e size n c : Nat} {A : Option Addr} {xs : List Value} (h : w.ownsRow base e size (.slice A n c) n xs) (hn : 0 < n) : ∃ g, A = some ⟨g, 0, none⟩ := by
  rcases h.2 with ⟨h1, h2⟩ | ⟨g, cap, cur, hv, r⟩
  · omega
  · injection hv with h1
    exact ⟨g, h1⟩

set_option maxRecDepth 100000 in
set_option maxHeartbeats 1000000 in
theorem get_any (w : World) (B g o : Nat) (v : Value) (rows : List LRow) (dn jn : Nat) (k : Int) (hv : w.cell? ⟨g, o, none⟩ = some v) (hT : Tab w B v rows) (hd : dn < rows.length) (hj : jn < (rowAt rows dn).2.length)
    (hq : ((dn : Int) + k).tdiv 2 = (jn : Int)) (hk : -4000 ≤ k ∧ k ≤ 4000) (hb : dn ≤ 4000) (hjb : jn ≤ 4000) :
   Calls Tryd.prog 44 #[.pointer (some ⟨g, o, none⟩), .int .i64 dn, .int .i64 k] w fun e w' => e = .returned (.int .i64 (ix (rowAt rows dn).2 jn)) ∧ ∃ q, w' = w.drewN q := by
  obtain ⟨A, c, rfl⟩ := own_form hT.own
  obtain ⟨h, rfl⟩ := own_someT hT.own (by omega)
  have hlt := hT.own.lt h rfl
  have hc1 := hT.own.cellAt (j := dn) (by simp; omega)
  have hf1 := hT.own.frozenAt dn
  have hri : (rows.map rowCell)[dn]? = some (rowCell (rowAt rows dn)) := by simp [rowAt, hd]
  rw [hri] at hc1
  have hmem : rowAt rows dn ∈ rows := by simp [rowAt, hd]
  generalize hR : rowAt rows dn = R at *
  obtain ⟨rb, zs⟩ := R
  have hne : zs ≠ [] := by
    intro h
    rw [h] at hj
    simp at hj
  obtain ⟨hB, hrow⟩ := hT.row _ hmem hne
  have hc2 : w.cell? ⟨rb, jn, none⟩ = some (.int .i64 (ix zs jn)) := by
    rw [hrow.cell jn]
    simpa using intCells_get .i64 zs jn hj
  have hrc : rowCell (rb, zs) = .slice (some ⟨rb, 0, none⟩) zs.length zs.length := by simp [rowCell, hne]
  rw [hrc] at hc1
  simp only at hj
  obtain ⟨m, hm⟩ : ∃ m, zs.length = m := ⟨_, rfl⟩
  rw [hm] at hc1 hj
  obtain ⟨n, hn⟩ : ∃ n, rows.length = n := ⟨_, rfl⟩
  rw [hn] at hd hv
  clear hT hrow hri hmem hrc hm hn hR hne
  have d1 : (dn : Int) < (n : Int) := by omega
  have d2 : (0 : Int) ≤ (dn : Int) := by omega
  have d3 : (jn : Int) < (m : Int) := by omega
  obtain ⟨S, hS⟩ : ∃ S, (dn : Int) + k = S := ⟨_, rfl⟩
  have w1 : IntKind.i64.wrap ((dn : Int) + k) = S := (IntWalk.i64_in _ (by omega)).trans hS
  rw [hS] at hq
  have w2 : wrap64 (S.tdiv 2) = (jn : Int) := by rw [hq]; exact IntWalk.wrap64_in _ (by omega)
  clear hS hq hk hb hjb
  have w3 : (jn : Int) < (m : Int) := by omega
  go_enter Tryd.func44, Tryd.ntmps44
  go_wp2
  go_ret
  exact ⟨rfl, 0, rfl⟩
end Go.Proofs.YtgjbagojcbondaaDoor
