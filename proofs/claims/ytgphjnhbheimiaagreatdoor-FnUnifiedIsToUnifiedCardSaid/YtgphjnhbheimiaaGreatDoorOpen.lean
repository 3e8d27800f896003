/-
  The arguments of the statements, opened into plain lists. No condition.
-/
import Derived.Test.YtgphjnhbheimiaaGreatDoorPlain
import Derived.ProofKit
import Derived.OpenShut
import Derived.ShutString
import Derived.ChangeOld
import Derived.Deep.Slices
import Derived.Deep.Fields
import Derived.ChangeSame
import Derived.SliceStrings
namespace Go.Proofs.YtgphjnhbheimiaaGreatDoor
set_option linter.unusedVariables false
open Go.RowKit Go.ChangeShapes Go.WideShapes Go.Deep

section
variable {H : Type} {enc : TypeId × Value → H} {P : Program} {w : World} {base : Nat} {spare : Nat → Bool} {held : Bool}
theorem open_slice_fields {t e : TypeId} {fs : Array Field} {fuel : Nat} {cs : List Value} {x : DataW H × List MemPlace} (ht : P.underlying t = some (.slice e)) (he : P.underlying e = some (.struct fs))
    (hone : oneCellFields P fs = true) (hC : P.cellsOf e = fs.size) (h : DataW.trod enc P w base spare held fuel t cs = some x) :
    (cs = [.slice none 0 0] ∧ x = (.nil, [])) ∨
    ∃ (a : Addr) (len cap m : Nat) (D : Nat → DataW H) (Pl : Nat → List MemPlace), cs = [.slice (some a) len cap] ∧ base ≤ a.block ∧ len ≤ cap ∧ cap ≤ maxLen ∧ m = (if spare a.block then cap else len) ∧
      x = (.slice ((List.range len).map D) ((List.range (m - len)).map fun j => D (len + j)), MemPlace.row a (m * fs.size) ++ (List.range m).flatMap Pl) ∧
      ∀ i, i < m → ∃ (ys : List (DataW H × List MemPlace)) (n : Nat), D i = .agg (ys.map (·.1)) ∧ Pl i = ys.flatMap (·.2) ∧ ys.length = fs.size ∧
        ∀ (j : Nat) (f : Field), fs[j]? = some f → ∃ (v : Value) (y : DataW H × List MemPlace), w.cell? (a.add (i * fs.size + j)) = some v ∧ ys[j]? = some y ∧ DataW.trod enc P w base spare held n f.type [v] = some y := by
  rcases open_slice ht h with h0 | ⟨a, len, cap, m, n, D, Pl, hcs, hb, hl, hm, hmm, hx, hi⟩
  · exact .inl h0
  · refine .inr ⟨a, len, cap, m, D, Pl, hcs, hb, hl, hm, hmm, by rw [hC] at hx; exact hx, fun i him => ?_⟩
    obtain ⟨cs', hc, ht'⟩ := hi i him
    rw [hC] at hc
    obtain ⟨ys, n', hn', hy, hlen, hyl, hf⟩ := DataW.trod_struct he ht'
    obtain ⟨_, hcl, hat⟩ := World.cells?_some hc
    simp only [Prod.mk.injEq] at hy
    refine ⟨ys, n', hy.1, hy.2, hyl, fun j f hj => ?_⟩
    obtain ⟨ho, hk⟩ := hone_of hone j f hj
    have hjl : j < fs.size := (Array.getElem?_eq_some_iff.1 hj).1
    have hcell := hat j hjl
    have hv : cs'[j]? = some (cs'[j]'(by omega)) := List.getElem?_eq_getElem (by omega)
    have h1 := hf j f hj
    rw [ho, hk] at h1
    have hone' : (cs'.drop j).take 1 = [cs'[j]'(by omega)] := by
      rw [List.drop_eq_getElem_cons (by omega)]
      rfl
    rw [hone'] at h1
    have hys : ys[j]? = some (ys[j]'(by omega)) := List.getElem?_eq_getElem (by omega)
    refine ⟨_, _, ?_, hys, h1.trans hys⟩
    rw [← Go.Deep.add_add, hcell, hv]
end

/-- so many things, each with a property, make a list -/
theorem list_of {α : Type} (d : α) (p : Nat → α → Prop) (n : Nat) (h : ∀ i, i < n → ∃ x, p i x) : ∃ l : List α, l.length = n ∧ ∀ i, i < n → p i (l.getD i d) := by
  induction n with
  | zero => exact ⟨[], rfl, fun i hi => by omega⟩
  | succ n ih =>
    obtain ⟨l, hl, hp⟩ := ih (fun i hi => h i (by omega))
    obtain ⟨x, hx⟩ := h n (by omega)
    refine ⟨l ++ [x], by simp [hl], fun i hi => ?_⟩
    by_cases hin : i < n
    · have := hp i hin
      rw [List.getD_eq_getElem?_getD] at this ⊢
      rw [List.getElem?_append_left (by omega)]
      exact this
    · have : i = n := by omega
      subst this
      subst hl
      rw [List.getD_eq_getElem?_getD, List.getElem?_append_right (Nat.le_refl _)]
      simpa using hx

theorem cellsR_of {w : World} {a : Addr} {xs : List Value} (h : ∀ j u, xs[j]? = some u → w.cell? (a.add j) = some u) : CellsR w (some a) xs := by
  by_cases h0 : xs = []
  · exact .inl h0
  · right
    obtain ⟨b, off, spot⟩ := a
    have hx : xs[0]? = some (xs[0]'(List.length_pos_iff.2 h0)) := List.getElem?_eq_getElem _
    have hc := h 0 _ hx
    have hs : spot = none := by simpa [Addr.add] using World.cell?_spot hc
    subst hs
    refine ⟨b, off, rfl, fun j u hu => ?_⟩
    have := h j u hu
    rw [add_lit] at this
    exact this

section
variable {H : Type} {enc : TypeId × Value → H} {P : Program} {w : World} {t e : TypeId} {A : Option Addr} {len cap : Nat} {d : DataW H} {p : List MemPlace}

theorem open_intsR {k : IntKind} (ht : P.underlying t = some (.slice e)) (he : P.underlying e = some (.int k)) (hC : P.cellsOf e = 1)
    (h : DataW.Trod enc P w 0 (fun _ => true) true t (.slice A len cap) d p) :
    ∃ zs : List Int, zs.length = len ∧ len ≤ maxLen ∧ IntsR k w A zs ∧ ∀ n ∈ zs, (Lit.int k n).wf = true := by
  obtain ⟨fuel, hf⟩ := h
  rcases open_ints ht he hC hf with ⟨hcs, _⟩ | ⟨x, l, c, zs, hcs, _, hl, hm, hz, _, hcell, hwz⟩
  · simp [Value.cells] at hcs
    obtain ⟨rfl, rfl, rfl⟩ := hcs
    exact ⟨[], rfl, Nat.zero_le _, .inl rfl, by simp⟩
  · simp [Value.cells] at hcs
    obtain ⟨rfl, rfl, rfl⟩ := hcs
    simp only [if_true] at hz
    refine ⟨zs.take len, by simp; omega, by omega, cellsR_of (fun j u hu => ?_), fun n hn => hwz n (List.mem_of_mem_take hn)⟩
    simp only [intCells, List.getElem?_map, Option.map_eq_some_iff] at hu
    obtain ⟨n, hn, rfl⟩ := hu
    rw [List.getElem?_take] at hn
    split at hn
    · have hj : j < zs.length := by omega
      rw [hcell j hj]
      simp [hn]
    · cases hn

theorem open_edsR {fs : Array Field} {ti ts : TypeId} (ht : P.underlying t = some (.slice e)) (he : P.underlying e = some (.struct fs))
    (hone : oneCellFields P fs = true) (hC : P.cellsOf e = fs.size) (hfs : fs.size = 3) (h0 : (fs[0]?).map (·.type) = some ti) (h1 : (fs[1]?).map (·.type) = some ti) (h2 : (fs[2]?).map (·.type) = some ts)
    (hi : P.underlying ti = some (.int .i64)) (hs : P.underlying ts = some .string)
    (h : DataW.Trod enc P w 0 (fun _ => true) true t (.slice A len cap) d p) :
    ∃ es : List Ed, es.length = len ∧ len ≤ maxLen ∧ EdsR w A es ∧ ∀ k, k < len → (Lit.int .i64 (eS es k)).wf = true ∧ (Lit.int .i64 (eE es k)).wf = true ∧ (eN es k).size ≤ maxLen := by
  obtain ⟨fuel, hf⟩ := h
  rcases open_slice_fields ht he hone hC hf with ⟨hcs, _⟩ | ⟨x, l, c, m, D, Pl, hcs, _, hl, hm, hmm, _, hcell⟩
  · simp [Value.cells] at hcs
    obtain ⟨rfl, rfl, rfl⟩ := hcs
    exact ⟨[], rfl, Nat.zero_le _, .inl rfl, by simp⟩
  · simp [Value.cells] at hcs
    obtain ⟨rfl, rfl, rfl⟩ := hcs
    simp only [if_true] at hmm
    subst hmm
    rw [hfs] at hcell
    have each : ∀ i, i < len → ∃ y : Ed, w.cell? (x.add (i * 3)) = some (.int .i64 y.s) ∧ w.cell? (x.add (i * 3 + 1)) = some (.int .i64 y.e) ∧ w.cell? (x.add (i * 3 + 2)) = some (.string y.n) ∧
        (Lit.int .i64 y.s).wf = true ∧ (Lit.int .i64 y.e).wf = true ∧ y.n.size ≤ maxLen := by
      intro i hi'
      obtain ⟨ys, n, _, _, _, hj⟩ := hcell i (by omega)
      obtain ⟨f0, hf0, ht0⟩ := Option.map_eq_some_iff.1 h0
      obtain ⟨f1, hf1, ht1⟩ := Option.map_eq_some_iff.1 h1
      obtain ⟨f2, hf2, ht2⟩ := Option.map_eq_some_iff.1 h2
      obtain ⟨v0, y0, c0, _, d0⟩ := hj 0 f0 hf0
      obtain ⟨v1, y1, c1, _, d1⟩ := hj 1 f1 hf1
      obtain ⟨v2, y2, c2, _, d2⟩ := hj 2 f2 hf2
      rw [ht0] at d0
      rw [ht1] at d1
      rw [ht2] at d2
      obtain ⟨n0, e0, _, w0⟩ := DataW.trod_int hi d0
      obtain ⟨n1, e1, _, w1⟩ := DataW.trod_int hi d1
      obtain ⟨n2, e2, _, w2⟩ := DataW.trod_string hs d2
      simp only [List.cons.injEq, and_true] at e0 e1 e2
      subst e0 e1 e2
      exact ⟨⟨n0, n1, n2⟩, by simpa using c0, c1, c2, w0, w1, w2⟩
    obtain ⟨es, hes, hp⟩ := list_of (⟨0, 0, ⟨#[]⟩⟩ : Ed) _ len each
    refine ⟨es, hes, by omega, cellsR_of (fun j u hu => ?_), fun k hk => ?_⟩
    · have hj : j < (edCells es).length := (List.getElem?_eq_some_iff.1 hu).1
      rw [edCells_length, hes] at hj
      obtain ⟨g0, g1, g2⟩ := edCells_get es (j / 3) (by omega)
      have hq := hp (j / 3) (by omega)
      have h3 : j % 3 = 0 ∨ j % 3 = 1 ∨ j % 3 = 2 := by omega
      rcases h3 with h3 | h3 | h3
      · have ej : j = j / 3 * 3 := by omega
        rw [ej, g0] at hu
        rw [ej, hq.1]
        exact hu
      · have ej : j = j / 3 * 3 + 1 := by omega
        rw [ej, g1] at hu
        rw [ej, hq.2.1]
        exact hu
      · have ej : j = j / 3 * 3 + 2 := by omega
        rw [ej, g2] at hu
        rw [ej, hq.2.2.1]
        exact hu
    · exact (hp k hk).2.2.2

theorem open_boolsR (ht : P.underlying t = some (.slice e)) (he : P.underlying e = some .bool) (hC : P.cellsOf e = 1)
    (h : DataW.Trod enc P w 0 (fun _ => true) true t (.slice A len cap) d p) :
    ∃ bs : List Bool, bs.length = len ∧ len ≤ maxLen ∧ CellsR w A (bs.map Value.bool) := by
  obtain ⟨fuel, hf⟩ := h
  rcases open_slice ht hf with ⟨hcs, _⟩ | ⟨x, l, c, m, n, D, Pl, hcs, _, hl, hm, hmm, _, hcell⟩
  · simp [Value.cells] at hcs
    obtain ⟨rfl, rfl, rfl⟩ := hcs
    exact ⟨[], rfl, Nat.zero_le _, .inl rfl⟩
  · simp [Value.cells] at hcs
    obtain ⟨rfl, rfl, rfl⟩ := hcs
    simp only [if_true] at hmm
    subst hmm
    rw [hC] at hcell
    have each : ∀ i, i < len → ∃ y : Bool, w.cell? (x.add i) = some (.bool y) := by
      intro i hi'
      obtain ⟨cs', hc, ht'⟩ := hcell i (by omega)
      obtain ⟨b, hb, _⟩ := DataW.trod_bool he ht'
      obtain ⟨_, hcl, hat⟩ := World.cells?_some hc
      have := hat 0 (by omega)
      subst hb
      exact ⟨b, by simpa [Addr.add] using this⟩
    obtain ⟨bs, hbs, hp⟩ := list_of false _ len each
    refine ⟨bs, hbs, by omega, cellsR_of (fun j u hu => ?_)⟩
    simp only [List.getElem?_map, Option.map_eq_some_iff] at hu
    obtain ⟨b, hb, rfl⟩ := hu
    have hj : j < bs.length := (List.getElem?_eq_some_iff.1 hb).1
    have := hp j (by omega)
    rw [this]
    simp [hb]

theorem open_strsR (ht : P.underlying t = some (.slice e)) (he : P.underlying e = some .string) (hC : P.cellsOf e = 1)
    (h : DataW.Trod enc P w 0 (fun _ => true) true t (.slice A len cap) d p) :
    ∃ ss : List ByteArray, ss.length = len ∧ len ≤ maxLen ∧ CellsR w A (ss.map Value.string) ∧ ∀ s ∈ ss, s.size ≤ maxLen := by
  obtain ⟨fuel, hf⟩ := h
  rcases open_strings ht he hC hf with ⟨hcs, _⟩ | ⟨x, l, c, zs, hcs, _, hl, hm, hz, _, hcell, hwz⟩
  · simp [Value.cells] at hcs
    obtain ⟨rfl, rfl, rfl⟩ := hcs
    exact ⟨[], rfl, Nat.zero_le _, .inl rfl, by simp⟩
  · simp [Value.cells] at hcs
    obtain ⟨rfl, rfl, rfl⟩ := hcs
    simp only [if_true] at hz
    refine ⟨zs.take len, by simp; omega, by omega, cellsR_of (fun j u hu => ?_), fun n hn => hwz n (List.mem_of_mem_take hn)⟩
    simp only [List.getElem?_map, Option.map_eq_some_iff] at hu
    obtain ⟨n, hn, rfl⟩ := hu
    rw [List.getElem?_take] at hn
    split at hn
    · have hj : j < zs.length := by omega
      rw [hcell j hj]
      simp [hn]
    · cases hn
end
end Go.Proofs.YtgphjnhbheimiaaGreatDoor
