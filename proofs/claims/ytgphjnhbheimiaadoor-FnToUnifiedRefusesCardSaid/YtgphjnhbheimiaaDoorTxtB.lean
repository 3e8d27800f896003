/-
  The built-in copy within a row of the call's own whose elements have several cells. No condition.
  The walk of spec.Sorted: the edits by insertion. Condition: at most 20000000 edits.
  The walk of spec.ToldOf: what is told of edits. Condition: at most 20000000 edits.
  The walk of spec.ApplyTo: what the reference makes of a text. Condition: at most 20000000 edits, a text of at most 2000000 bytes.
-/
import Derived.Test.YtgphjnhbheimiaaDoorKit
import Derived.Laws.CopyOwn
import Derived.Deep.RegionLaw
import Derived.Test.YtgphjnhbheimiaaDoorTxtA
import Derived.Deep.RegionHeld3
import Derived.Deep.LoopGhost
import Derived.IntWalk
import Derived.BigQuiet
namespace Go.Proofs.YtgphjnhbheimiaaDoor
set_option linter.unusedVariables false
open Go.RowKit

theorem own_row {w : World} {base e size g n cap : Nat} {xs : List Value} (h : w.ownsRow base e size (.slice (some ⟨g, 0, none⟩) n cap) n xs) :
    ∃ cur : Array Value, base ≤ g ∧ w.heap[g]? = some (.cells cur e (0, 0)) ∧ n ≤ cap ∧ cap ≤ maxLen ∧ cur.size = cap * size ∧ cur.toList.take (n * size) = xs := by
  rcases h.2 with ⟨h1, _⟩ | ⟨g', cap', cur, hv, r⟩
  · cases h1
  · injection hv with h1 _ h3
    injection h1 with h1
    injection h1 with h1
    subst h1 h3
    exact ⟨cur, r⟩

theorem run_copy_own {P : Program} (w : World) (dT ty elem : TypeId) (i : TypeInfo) (size : Nat) (hu : P.underlying dT = some (.slice elem)) (hi : P.info? elem = some i) (hsize : i.size = size)
    (base e g n cap : Nat) (xs : List Value) (hown : w.ownsRow base e size (.slice (some ⟨g, 0, none⟩) n cap) n xs)
    (dp sp : Option Addr) (dLen dCap sLen sCap o1 o2 m : Nat) (hm : m = Nat.min sLen dLen)
    (hpos : 0 < m → dp = some ⟨g, o1 * size, none⟩ ∧ sp = some ⟨g, o2 * size, none⟩) (hfit1 : o1 + m ≤ n) (hfit2 : o2 + m ≤ n) (h1 : ∀ u ∈ xs, u.oneCell' = true) :
    ∃ w', (Builtin.copy_ #[dT, dT] ty #[.slice dp dLen dCap, .slice sp sLen sCap]).run P w = .ok (goInt m) w' ∧
      w'.ownsRow base e size (.slice (some ⟨g, 0, none⟩) n cap) n (xs.take (o1 * size) ++ ((xs.drop (o2 * size)).take (m * size) ++ xs.drop (o1 * size + m * size))) ∧ w.grownBy w' (some g) := by
  subst hsize
  have hlx := hown.1
  by_cases h0 : m = 0
  · subst h0
    have hl : ∀ (x : Addr), (loadCells x 0).run P w = .ok #[] w := fun x => by simpa using run_loadCells_list (P := P) w x [] (by simp)
    refine ⟨w, ?_, by simpa using hown, World.grownBy.refl w _⟩
    cases dp <;> cases sp <;> simp [Builtin.copy_, run_underlying hu, Builtin.lenOf, Builtin.firstCells, sizeOf, typeInfo, hi, ← hm, storeCells, hl]
  · obtain ⟨rfl, rfl⟩ := hpos (by omega)
    obtain ⟨cur, hb, hg, hnc, hcm, hcs, htake⟩ := own_row hown
    have hn2 : (o2 + m) * i.size ≤ n * i.size := Nat.mul_le_mul_right _ hfit2
    have hn1 : (o1 + m) * i.size ≤ n * i.size := Nat.mul_le_mul_right _ hfit1
    have hnc' : n * i.size ≤ cap * i.size := Nat.mul_le_mul_right _ hnc
    rw [Nat.add_mul] at hn1 hn2
    obtain ⟨cs, hcsd⟩ : ∃ cs, cs = (xs.drop (o2 * i.size)).take (m * i.size) := ⟨_, rfl⟩
    have hcl : cs.length = m * i.size := by rw [hcsd]; simp; omega
    have hsrc : ∀ j v, cs[j]? = some v → w.cell? ((⟨g, o2 * i.size, none⟩ : Addr).add j) = some v := by
      intro j v hv
      have hj : j < cs.length := (List.getElem?_eq_some_iff.1 hv).1
      rw [add_lit, hown.cellAt _ (by omega)]
      rw [hcsd, List.getElem?_take, if_pos (by omega), List.getElem?_drop] at hv
      exact hv
    have h1' : ∀ v ∈ cs, v.oneCell' = true := fun v hv => h1 v (by rw [hcsd] at hv; exact List.mem_of_mem_drop (List.mem_of_mem_take hv))
    have hf := run_firstCells_some (P := P) w i.size m ⟨g, o2 * i.size, none⟩ sLen sCap cs hcl hsrc
    have hst := run_storeCells_at P g (o1 * i.size) e cs 0 cur w hg (by omega) h1'
    simp only [Nat.add_zero] at hst
    refine ⟨w.setRow g (cur.toList.take (o1 * i.size) ++ cs ++ cur.toList.drop (o1 * i.size + cs.length)).toArray, ?_, ⟨?_, .inr ⟨g, cap, (cur.toList.take (o1 * i.size) ++ cs ++ cur.toList.drop (o1 * i.size + cs.length)).toArray, rfl, hb, setRow_heap w g cur _ e _ hg, hnc, hcm, ?_, ?_⟩⟩, ⟨rfl, rfl, rfl, by simp [World.setRow], fun k _ hk => setRow_other w g k _ (fun e => hk (by rw [e]))⟩⟩
    · simp [Builtin.copy_, run_underlying hu, Builtin.lenOf, sizeOf, typeInfo, hi, ← hm, hf, hst]
    · rw [← hcsd]
      simp only [List.length_append, List.length_take, List.length_drop]
      omega
    · simp only [List.size_toArray, List.length_append, List.length_take, List.length_drop, Array.length_toList]
      omega
    · rw [← hcsd, ← htake]
      simp only [List.append_assoc]
      rw [List.take_append, List.take_append, List.length_take, List.take_take, List.take_take, Array.length_toList]
      have e1 : min (o1 * i.size) cur.size = o1 * i.size := by omega
      rw [e1, List.drop_take, hcl]
      congr 1
      · congr 1
        omega
      · congr 1
        · exact List.take_of_length_le (by omega)
        · congr 1
          omega

theorem step_copy_own {P : Program} {ops : Array Oper} {o : Oper} {a : Act} {w : World} {K : Act → World → Prop} {Q : Exit → Act → World → Prop} {E : Prop} (hgd : o.guard = none) (d s : Operand) (dT : TypeId)
    (ho : o.op = .call { callee := .builtin .copy, args := #[d, s], argTypes := #[dT, dT] }) (elem : TypeId) (i : TypeInfo) (size : Nat) (hu : P.underlying dT = some (.slice elem)) (hi : P.info? elem = some i) (hsize : i.size = size)
    (base e g n cap : Nat) (xs : List Value) (hown : w.ownsRow base e size (.slice (some ⟨g, 0, none⟩) n cap) n xs)
    (dp sp : Option Addr) (dLen dCap sLen sCap : Nat) (hd : a.eval d = .slice dp dLen dCap) (hs : a.eval s = .slice sp sLen sCap) (o1 o2 m : Nat) (hm : m = Nat.min sLen dLen)
    (hpos : 0 < m → dp = some ⟨g, o1 * size, none⟩ ∧ sp = some ⟨g, o2 * size, none⟩) (hfit1 : o1 + m ≤ n) (hfit2 : o2 + m ≤ n) (h1 : ∀ u ∈ xs, u.oneCell' = true)
    (h : ∀ w', w'.ownsRow base e size (.slice (some ⟨g, 0, none⟩) n cap) n (xs.take (o1 * size) ++ ((xs.drop (o2 * size)).take (m * size) ++ xs.drop (o1 * size + m * size))) → w.grownBy w' (some g) → K (a.put o.dst (goInt m)) w') :
    if Region.wanted o (yielded ops a.tmps) = true then Oper.wp P o a w K Q else E := by
  have hw : Region.wanted o (yielded ops a.tmps) = true := by simp [Region.wanted, hgd]
  rw [if_pos hw]
  obtain ⟨w', hrun, h2, h3⟩ := run_copy_own (P := P) w dT o.type elem i size hu hi hsize base e g n cap xs hown dp sp dLen dCap sLen sCap o1 o2 m hm hpos hfit1 hfit2 h1
  unfold Oper.wp
  simp [execOp, ho, resolve, invoke, builtin, hd, hs, hrun, Result.andThen]
  exact h w' h2 h3

theorem wpList_copy_own3 {P : Program} {ops : Array Oper} {rest : List Oper} {o : Oper} {a : Act} {w : World} {Q : Exit → Act → World → Prop} (hgd : o.guard = none) (d s : Operand) (dT : TypeId)
    (ho : o.op = .call { callee := .builtin .copy, args := #[d, s], argTypes := #[dT, dT] }) (elem : TypeId) (i : TypeInfo) (size : Nat) (hu : P.underlying dT = some (.slice elem)) (hi : P.info? elem = some i) (hsize : i.size = size)
    (base e g n cap : Nat) (xs : List Value) (hown : w.ownsRow base e size (.slice (some ⟨g, 0, none⟩) n cap) n xs)
    (dp sp : Option Addr) (dLen dCap sLen sCap : Nat) (hd : a.eval d = .slice dp dLen dCap) (hs : a.eval s = .slice sp sLen sCap) (o1 o2 m : Nat) (hm : m = Nat.min sLen dLen)
    (hpos : 0 < m → dp = some ⟨g, o1 * size, none⟩ ∧ sp = some ⟨g, o2 * size, none⟩) (hfit1 : o1 + m ≤ n) (hfit2 : o2 + m ≤ n) (h1 : ∀ u ∈ xs, u.oneCell' = true)
    (h : ∀ w', w'.ownsRow base e size (.slice (some ⟨g, 0, none⟩) n cap) n (xs.take (o1 * size) ++ ((xs.drop (o2 * size)).take (m * size) ++ xs.drop (o1 * size + m * size))) → w.grownBy w' (some g) → wpList P ops Q rest (a.put o.dst (goInt m)) w') :
    wpList P ops Q (o :: rest) a w := by
  refine wpList_plain hgd fun K hK => ?_
  obtain ⟨w', hrun, h2, h3⟩ := run_copy_own (P := P) w dT o.type elem i size hu hi hsize base e g n cap xs hown dp sp dLen dCap sLen sCap o1 o2 m hm hpos hfit1 hfit2 h1
  unfold Oper.wp
  simp [execOp, ho, resolve, invoke, builtin, hd, hs, hrun, Result.andThen]
  exact hK _ _ (h w' h2 h3)
end Go.Proofs.YtgphjnhbheimiaaDoor

namespace Go.Proofs.YtgphjnhbheimiaaDoor
set_option linter.unusedVariables false
open Go.RowKit

/-- the first k edits, sorted -/
def srt (es : List Ed) (k : Nat) : List Ed := sortE (es.take k)
theorem insE_len (e : Ed) (l : List Ed) : (insE e l).length = l.length + 1 := by
  induction l with
  | nil => rfl
  | cons x l ih =>
    rw [insE]
    split
    · rfl
    · simp [ih]
theorem srt_succ (es : List Ed) (k : Nat) (h : k < es.length) : srt es (k + 1) = insE (edAt es k) (srt es k) := by
  unfold srt sortE
  rw [take_snoc_ed es k h, List.foldl_append]
  rfl
theorem srt_len (es : List Ed) (k : Nat) (h : k ≤ es.length) : (srt es k).length = k := by
  induction k with
  | zero => rfl
  | succ k ih => rw [srt_succ es k (by omega), insE_len, ih (by omega)]

theorem edCells_take (es : List Ed) (k : Nat) : (edCells es).take (k * 3) = edCells (es.take k) := by
  induction es generalizing k with
  | nil => simp [edCells]
  | cons x l ih =>
    cases k with
    | zero => simp [edCells]
    | succ k =>
      rw [edCells_cons, List.take_succ_cons, edCells_cons, ← ih k]
      have hl : x.cells.length = 3 := rfl
      rw [List.take_append, List.take_of_length_le (by omega), hl, show (k + 1) * 3 - 3 = k * 3 by omega]
theorem edCells_drop (es : List Ed) (k : Nat) : (edCells es).drop (k * 3) = edCells (es.drop k) := by
  induction es generalizing k with
  | nil => simp [edCells]
  | cons x l ih =>
    cases k with
    | zero => simp
    | succ k =>
      rw [edCells_cons, List.drop_succ_cons, ← ih k]
      have hl : x.cells.length = 3 := rfl
      rw [List.drop_append, List.drop_of_length_le (by omega), hl, show (k + 1) * 3 - 3 = k * 3 by omega]
      rfl
/-- three cells stored at a place of a row of edits -/
theorem edCells_put (es : List Ed) (k : Nat) (x : Ed) (h : k < es.length) :
    (((edCells es).set (k * 3) (.int .i64 x.s)).set (k * 3 + 1) (.int .i64 x.e)).set (k * 3 + 2) (.string x.n) = edCells (es.set k x) := by
  induction es generalizing k with
  | nil => simp at h
  | cons y l ih =>
    rw [edCells_cons]
    cases k with
    | zero => simp [Ed.cells, edCells_cons]
    | succ k =>
      have hl : y.cells.length = 3 := rfl
      have := ih k (by simpa using h)
      rw [List.set_append_right _ _ (by omega), List.set_append_right _ _ (by omega), List.set_append_right _ _ (by omega), hl, show (k + 1) * 3 - 3 = k * 3 by omega, show (k + 1) * 3 + 1 - 3 = k * 3 + 1 by omega, show (k + 1) * 3 + 2 - 3 = k * 3 + 2 by omega, this]
      rfl
/-- what the row holds behind the shift and the store -/
theorem shift_put (L : List Ed) (e : Ed) (p : Nat) (hp : p ≤ L.length) :
    ((L ++ [e]).take (p + 1) ++ (((L ++ [e]).drop p).take (L.length - p) ++ (L ++ [e]).drop (p + 1 + (L.length - p)))).set p e = L.take p ++ e :: L.drop p := by
  obtain ⟨L1, L2, rfl, rfl⟩ : ∃ L1 L2, L = L1 ++ L2 ∧ p = L1.length := ⟨L.take p, L.drop p, (List.take_append_drop p L).symm, by simp; omega⟩
  obtain ⟨x, hx⟩ : ∃ x, (L2 ++ [e]).take 1 = [x] := by cases L2 <;> simp
  have e1 : (L1 ++ L2).length - L1.length = L2.length := by simp
  rw [e1, List.append_assoc]
  have e2 : (L1 ++ (L2 ++ [e])).take (L1.length + 1) = L1 ++ [x] := by
    rw [List.take_append, List.take_of_length_le (by omega), Nat.add_sub_cancel_left, hx]
  have e3 : (L1 ++ (L2 ++ [e])).drop L1.length = L2 ++ [e] := by simp
  have e4 : (L1 ++ (L2 ++ [e])).drop (L1.length + 1 + L2.length) = [] := List.drop_of_length_le (by simp; omega)
  rw [e2, e3, e4, List.append_nil, List.take_append_of_le_length (Nat.le_refl _), List.take_length]
  rw [List.append_assoc, List.set_append_right _ _ (Nat.le_refl _), Nat.sub_self]
  simp

theorem own_some {w : World} {base e size n c : Nat} {A : Option Addr} {xs : List Value} (h : w.ownsRow base e size (.slice A n c) n xs) (hn : 0 < n) : ∃ g, A = some ⟨g, 0, none⟩ := by
  rcases h.2 with ⟨h1, h2⟩ | ⟨g, cap, cur, hv, r⟩
  · omega
  · injection hv with h1
    exact ⟨g, h1⟩
/-- the cells of the j-th edit of an owned list -/
theorem own_ed {w : World} {base e n c g : Nat} {L : List Ed} (h : w.ownsRow base e 3 (.slice (some ⟨g, 0, none⟩) n c) n (edCells L)) (hl : L.length = n) {j : Nat} (hj : j < n) :
    base ≤ g ∧ g < w.heap.size ∧ w.cell? ⟨g, j * 3, none⟩ = some (.int .i64 (edAt L j).s) ∧ w.cell? ⟨g, j * 3 + 1, none⟩ = some (.int .i64 (edAt L j).e) ∧ w.cell? ⟨g, j * 3 + 2, none⟩ = some (.string (edAt L j).n) ∧ ∀ i, w.frozen? ⟨g, i, none⟩ = false := by
  obtain ⟨g1, g2, g3⟩ := edCells_get L j (by omega)
  have hlt := h.lt g rfl
  refine ⟨hlt.1, hlt.2, ?_, ?_, ?_, fun i => h.frozenAt i⟩
  · rw [h.cellAt _ (by omega)]; exact g1
  · rw [h.cellAt _ (by omega)]; exact g2
  · rw [h.cellAt _ (by omega)]; exact g3
theorem own_keepS {w w' : World} {B base e size n : Nat} {v : Value} {xs : List Value} (ho : w.ownsRow base e size v n xs) (hb : Below B w w') (hB : w.heap.size ≤ B) : w'.ownsRow base e size v n xs := by
  refine ⟨ho.1, ?_⟩
  rcases ho.2 with hn | ⟨g', cap, cur, hv, hg, hgg, rest⟩
  · exact .inl hn
  · exact .inr ⟨g', cap, cur, hv, hg, by rw [hb.block g' (by have := (Array.getElem?_eq_some_iff.1 hgg).1; omega)]; exact hgg, rest⟩
theorem own_cap {w : World} {base e size n c : Nat} {A : Option Addr} {xs : List Value} (h : w.ownsRow base e size (.slice A n c) n xs) : n ≤ c := by
  rcases h.2 with ⟨h1, h2⟩ | ⟨g, cap, cur, hv, _, _, h3, _⟩
  · omega
  · injection hv with h1 h2 h4
    subst h4
    exact h3

theorem own_has {w : World} {base e size g n c : Nat} {xs : List Value} (h : w.ownsRow base e size (.slice (some ⟨g, 0, none⟩) n c) n xs) (i : Nat) (hi : i < n * size) : ∃ v, w.cell? ⟨g, i, none⟩ = some v := by
  have hl := h.1
  rw [h.cellAt i (by omega)]
  exact ⟨xs[i]'(by omega), List.getElem?_eq_getElem (by omega)⟩
/-- the row behind the append, the shift and the store of one edit -/
theorem own_shifted {w : World} {base e g k p c : Nat} {L : List Ed} {E : Ed} (hl : L.length = k) (hp : p ≤ k)
    (h : w.ownsRow base e 3 (.slice (some ⟨g, 0, none⟩) (k + 1) c) (k + 1) ((edCells L ++ E.cells).take ((p + 1) * 3) ++ (((edCells L ++ E.cells).drop (p * 3)).take ((k - p) * 3) ++ (edCells L ++ E.cells).drop ((p + 1) * 3 + (k - p) * 3)))) (hb : ∀ j, p ≤ j → j < k → beforeB E (edAt L j) = true) (ha : 0 < p → beforeB E (edAt L (p - 1)) = false) :
    ((((w.setCell ⟨g, p * 3, none⟩ (.int .i64 E.s)).setCell ⟨g, p * 3 + 1, none⟩ (.int .i64 E.e)).setCell ⟨g, p * 3 + 2, none⟩ (.string E.n)).ownsRow base e 3 (.slice (some ⟨g, 0, none⟩) (k + 1) c) (k + 1) (edCells (insE E L))) ∧ w.grownBy (((w.setCell ⟨g, p * 3, none⟩ (.int .i64 E.s)).setCell ⟨g, p * 3 + 1, none⟩ (.int .i64 E.e)).setCell ⟨g, p * 3 + 2, none⟩ (.string E.n)) (some g) := by
  have e0 : edCells L ++ E.cells = edCells (L ++ [E]) := by rw [edCells_append, edCells_cons, edCells_nil, List.append_nil]
  have e1 : (p + 1) * 3 + (k - p) * 3 = (p + 1 + (k - p)) * 3 := by omega
  rw [e0, e1, edCells_take, edCells_drop, edCells_drop, edCells_take, ← edCells_append, ← edCells_append] at h
  obtain ⟨h1, g1⟩ := h.stored (p * 3) (.int .i64 E.s)
  obtain ⟨h2, g2⟩ := h1.stored (p * 3 + 1) (.int .i64 E.e)
  obtain ⟨h3, g3⟩ := h2.stored (p * 3 + 2) (.string E.n)
  refine ⟨?_, (g1.trans g2).trans g3⟩
  rw [edCells_put _ _ _ (by simp; omega)] at h3
  rw [insE_at p (by omega) (fun j h1 h2 => hb j h1 (by omega)) ha, ← shift_put L E p (by omega), hl]
  exact h3

end Go.Proofs.YtgphjnhbheimiaaDoor

namespace Go.Proofs.YtgphjnhbheimiaaDoor
set_option linter.unusedVariables false
open Go.RowKit

theorem drop_cons_told (es : List Ed) (k : Nat) (h : k < es.length) : es.drop k = edAt es k :: es.drop (k + 1) := by
  rw [List.drop_eq_getElem_cons h]
  simp [edAt, h]
/-- an odd pair ahead -/
def oddT (T : Int) (es : List Ed) (p : Nat) (E : Ed) : Int := if ∃ d ∈ es.take p, oddB d E = true then 2 else T
theorem oddT_zero (T : Int) (es : List Ed) (E : Ed) : oddT T es 0 E = T := by simp [oddT]
theorem oddT_yes {T : Int} {es : List Ed} {p : Nat} {E F : Ed} (h : es.take (p + 1) = es.take p ++ [F]) (ho : oddB F E = true) : oddT T es (p + 1) E = 2 := by
  unfold oddT
  rw [h, if_pos ⟨F, by simp, ho⟩]
theorem oddT_no {T : Int} {es : List Ed} {p : Nat} {E F : Ed} (h : es.take (p + 1) = es.take p ++ [F]) (ho : oddB F E = false) : oddT T es (p + 1) E = oddT T es p E := by
  unfold oddT
  rw [h]
  have : (∃ d ∈ es.take p ++ [F], oddB d E = true) ↔ ∃ d ∈ es.take p, oddB d E = true := by
    constructor
    · rintro ⟨d, hd, h2⟩
      rcases List.mem_append.1 hd with hd | hd
      · exact ⟨d, hd, h2⟩
      · obtain rfl : d = F := by simpa using hd
        rw [ho] at h2; cases h2
    · rintro ⟨d, hd, h2⟩
      exact ⟨d, by simp [hd], h2⟩
  simp only [this]
theorem told_out {size T : Int} {es : List Ed} {k : Nat} {E : Ed} (hd : es.drop k = E :: es.drop (k + 1)) (h : insideB E size = false) : toldL size T (es.take k) (es.drop k) = 1 := by
  rw [hd]; unfold toldL; rw [if_neg (by rw [h]; simp)]
theorem told_over {size T : Int} {es : List Ed} {k l : Nat} {E : Ed} (hd : es.drop k = E :: es.drop (k + 1)) (hl : l < k) (hk : k ≤ es.length) (h : overlapB (edAt es l) E = true) : toldL size T (es.take k) (es.drop k) = 1 := by
  rw [hd]; unfold toldL; rw [if_neg]
  rintro ⟨_, h2⟩
  have := h2 (edAt es l) (by
    rw [List.mem_take_iff_getElem]
    exact ⟨l, by omega, by simp [edAt, show l < es.length by omega]⟩)
  rw [h] at this; cases this
theorem told_go {size T : Int} {es : List Ed} {k : Nat} {E : Ed} (hd : es.drop k = E :: es.drop (k + 1)) (ht : es.take (k + 1) = es.take k ++ [E]) (hk : k ≤ es.length) (h : insideB E size = true) (ho : ∀ l, l < k → overlapB (edAt es l) E = false) :
    toldL size T (es.take k) (es.drop k) = toldL size (oddT T es k E) (es.take (k + 1)) (es.drop (k + 1)) := by
  rw [hd]
  conv => lhs; unfold toldL
  rw [if_pos ⟨h, fun d hd => by
    obtain ⟨l, hl, rfl⟩ := List.mem_take_iff_getElem.1 hd
    have := ho l (by omega)
    simpa [edAt, show l < es.length by omega] using this⟩, ht]
  rfl

set_option maxRecDepth 100000 in
set_option maxHeartbeats 2000000 in
theorem toldOf_any (A : Option Addr) (c : Nat) (es : List Ed) (size : Int) (w : World) (hr : EdsR w A es) (hc : es.length ≤ c) (hl : es.length ≤ 20000000) :
   Calls Tryd.prog 9 #[.slice A es.length c, .int .i64 size] w fun e w' => e = .returned (.int .i64 (toldF size es)) ∧ Below w.heap.size w w' := by
  have HR := Lib.hid hr; clear hr
  obtain ⟨n, hln⟩ : ∃ n, es.length = n := ⟨_, rfl⟩
  rw [hln] at hl hc ⊢
  have HL := Lib.hid hln; clear hln
  go_enter Tryd.func9, Tryd.ntmps9
  go_wp2
  go_loopg [5, 12] n (fun q t i wr => ∃ (k : Nat) (T : Int), q = n - k ∧ k ≤ n ∧ i = .int .i64 k ∧ t = .int .i64 T ∧ toldF size es = toldL size T (es.take k) (es.drop k) ∧ Below w.heap.size w wr)
  case atStart => exact ⟨0, 0, rfl, Nat.zero_le _, rfl, rfl, rfl, Below.refl _ _⟩
  case round =>
    obtain ⟨k, T, hq, hk, rfl, rfl, hto, hb⟩ := hrel
    have HQ := Lib.hid hq; have HTO := Lib.hid hto
    clear hq hto
    by_cases hlt : k < n
    · obtain ⟨b, off, rfl, hbb, g1, g2, g3⟩ := (EdsR.below HR.out hb (Nat.le_refl _)).at_ (k := k) (by rw [HL.out]; exact hlt)
      have hbs := hb.size
      have hdc := drop_cons_told es k (by rw [HL.out]; exact hlt)
      have htk0 := take_snoc_ed es k (by rw [HL.out]; exact hlt)
      generalize hE : edAt es k = E at *
      have hE1 : eS es k = E.s := by rw [← hE]; rfl
      have hE2 : eE es k = E.e := by rw [← hE]; rfl
      have hE3 : eN es k = E.n := by rw [← hE]; rfl
      rw [hE1] at g1
      rw [hE2] at g2
      rw [hE3] at g3
      have HE := Lib.hid hE; have HDC := Lib.hid hdc; have HTK0 := Lib.hid htk0
      clear hE hE1 hE2 hE3 hdc htk0
      have hbk := Blk.new wr 33 #[.int .i64 E.s, .int .i64 E.e, .string E.n]
      have HBK := Lib.hid hbk; clear hbk
      have HB := Lib.hid (hb.alloc hbs (.cells #[.int .i64 E.s, .int .i64 E.e, .string E.n] 33)); clear hb
      have hwsz : wr.heap.size < (wr.alloc (.cells #[.int .i64 E.s, .int .i64 E.e, .string E.n] 33)).heap.size := by simp
      have hin := inside_any E size (wr.alloc (.cells #[.int .i64 E.s, .int .i64 E.e, .string E.n] 33))
      cases hib : insideB E size with
      | false =>
        rw [hib] at hin
        have HIN := Lib.hid hin; have HIB := Lib.hid hib; clear hin hib
        go_wp2_with fail
        refine HIN.out.mono ?_
        rintro e w2 ⟨rfl, hb2⟩
        have HB2 := Lib.hid (HB.out.trans (hb2.mono HB.out.size)); clear hb2
        go_wp2
        go_ret
        exact ⟨ret_int (by rw [HTO.out, told_out HDC.out HIB.out]), HB2.out⟩
      | true =>
        rw [hib] at hin
        have HIN := Lib.hid hin; have HIB := Lib.hid hib; clear hin hib
        go_wp2_with fail
        refine HIN.out.mono ?_
        rintro e w2 ⟨rfl, hb2⟩
        have hbk2 := HBK.out.below hb2 hwsz
        have HB2 := Lib.hid (HB.out.trans (hb2.mono HB.out.size))
        have hs2 := hb2.size
        have hbxw : wr.heap.size < w2.heap.size := by omega
        have HBK2 := Lib.hid hbk2
        clear hb2 hbk2 HBK HB HIN hwsz hs2
        generalize hbx : wr.heap.size = bx at *
        clear hbx g1 g2 g3 hbb
        have hkc : (k : Int) ≤ (c : Int) := by omega
        have hk0 : (0 : Int) ≤ (k : Int) := by omega
        go_wp2
        go_loopg [5, 25] k (fun q t i wi => ∃ p : Nat, q = k - p ∧ p ≤ k ∧ i = .int .i64 p ∧ t = .int .i64 (oddT T es p E) ∧ (∀ l, l < p → overlapB (edAt es l) E = false) ∧ Below w2.heap.size w2 wi)
        case atStart => exact ⟨0, rfl, Nat.zero_le _, rfl, by rw [oddT_zero], fun l hl => by omega, Below.refl _ _⟩
        case round =>
          obtain ⟨p, hqp, hpk, rfl, rfl, hall, hbi⟩ := hrel
          have HQP := Lib.hid hqp; have HALL2 := Lib.hid hall; clear hqp hall
          have hbis := hbi.size
          by_cases hlt2 : p < k
          · obtain ⟨b', off', hAA, hbb', f1, f2, f3⟩ := (EdsR.below HR.out (HB2.out.trans (hbi.mono HB2.out.size)) (Nat.le_refl _)).at_ (k := p) (by rw [HL.out]; omega)
            cases hAA
            have hbk := HBK2.out.below hbi hbxw
            have HBK3 := Lib.hid hbk
            have HBI2 := Lib.hid hbi
            have b0 : wr.cell? ⟨bx, 0, none⟩ = some (.int .i64 E.s) := hbk.cell 0
            have b1 : wr.cell? ⟨bx, 1, none⟩ = some (.int .i64 E.e) := hbk.cell 1
            have b2 : wr.cell? ⟨bx, 2, none⟩ = some (.string E.n) := hbk.cell 2
            have hbxi : bx < wr.heap.size := by omega
            clear hbk hbi
            have htk := take_snoc_ed es p (by rw [HL.out]; omega)
            generalize hF : edAt es p = F at *
            have hF1 : eS es p = F.s := by rw [← hF]; rfl
            have hF2 : eE es p = F.e := by rw [← hF]; rfl
            have hF3 : eN es p = F.n := by rw [← hF]; rfl
            rw [hF1] at f1
            rw [hF2] at f2
            rw [hF3] at f3
            have HF := Lib.hid hF; have HTK := Lib.hid htk
            clear hF hF1 hF2 hF3 htk
            have hfk := Blk.new wr 33 #[.int .i64 F.s, .int .i64 F.e, .string F.n]
            have hek := HBK3.out.alloc (.cells #[.int .i64 F.s, .int .i64 F.e, .string F.n] 33)
            have HFK := Lib.hid hfk; have HEK := Lib.hid hek
            clear hfk hek
            have hov := overlap_any F E (wr.alloc (.cells #[.int .i64 F.s, .int .i64 F.e, .string F.n] 33))
            have hwsz2 : wr.heap.size < (wr.alloc (.cells #[.int .i64 F.s, .int .i64 F.e, .string F.n] 33)).heap.size := by simp
            cases hoo : overlapB F E with
            | true =>
              rw [hoo] at hov
              have HOV := Lib.hid hov; have HOO := Lib.hid hoo; clear hov hoo
              go_wp2_with fail
              refine HOV.out.mono ?_
              rintro e w4 ⟨rfl, hb4⟩
              have HB4 := Lib.hid ((HB2.out.trans (HBI2.out.mono HB2.out.size)).trans ((((Below.refl _ _).alloc (Nat.le_refl _) (.cells #[.int .i64 F.s, .int .i64 F.e, .string F.n] 33)).trans (hb4.mono (by simp))).mono (by have := HB2.out.size; omega)))
              clear hb4
              go_wp2
              go_ret
              exact ⟨ret_int (by rw [HTO.out, told_over HDC.out hlt2 (by rw [HL.out]; omega) (by rw [HF.out]; exact HOO.out)]), HB4.out⟩
            | false =>
              rw [hoo] at hov
              have HOV := Lib.hid hov; have HOO := Lib.hid hoo; clear hov hoo
              go_wp2_with fail
              refine HOV.out.mono ?_
              rintro e w4 ⟨rfl, hb4⟩
              have HB4 := Lib.hid (HBI2.out.trans ((((Below.refl _ _).alloc (Nat.le_refl _) (.cells #[.int .i64 F.s, .int .i64 F.e, .string F.n] 33)).trans (hb4.mono (by simp))).mono hbis))
              have hk1 := HFK.out.below hb4 hwsz2
              have hk2 := HEK.out.below hb4 (by simp; omega)
              have y0 : w4.cell? ⟨wr.heap.size, 0, none⟩ = some (.int .i64 F.s) := hk1.cell 0
              have y1 : w4.cell? ⟨wr.heap.size, 1, none⟩ = some (.int .i64 F.e) := hk1.cell 1
              have z0 : w4.cell? ⟨bx, 0, none⟩ = some (.int .i64 E.s) := hk2.cell 0
              have z1 : w4.cell? ⟨bx, 1, none⟩ = some (.int .i64 E.e) := hk2.cell 1
              clear hb4 hk1 hk2 b0 b1 b2 f1 f2 f3
              have hall' : ∀ l, l < p + 1 → overlapB (edAt es l) E = false := fun l hl => by
                by_cases hlp : l = p
                · subst hlp; rw [HF.out]; exact HOO.out
                · exact HALL2.out l (by omega)
              have HALL3 := Lib.hid hall'; clear hall'
              by_cases hs : F.s = E.s
              · have hb1 : (F.s == E.s) = true := by simp [hs]
                by_cases he : E.e < F.e
                · have hodd : oddB F E = true := by simp [oddB, hs, he]
                  have HODD := Lib.hid (oddT_yes (T := T) HTK.out hodd)
                  clear hodd hs
                  go_wp2
                  go_roundg (k - (p + 1))
                  case measure => have := HQP.out; omega
                  case rel => exact ⟨p + 1, rfl, by omega, by go_num, by rw [HODD.out], HALL3.out, HB4.out⟩
                · have hodd : oddB F E = false := by simp [oddB]; omega
                  have HODD := Lib.hid (oddT_no (T := T) HTK.out hodd)
                  clear hodd hs
                  go_wp2
                  go_roundg (k - (p + 1))
                  case measure => have := HQP.out; omega
                  case rel => exact ⟨p + 1, rfl, by omega, by go_num, by rw [HODD.out], HALL3.out, HB4.out⟩
              · have hb1 : (F.s == E.s) = false := by simp [hs]
                have hodd : oddB F E = false := by simp [oddB, hs]
                have HODD := Lib.hid (oddT_no (T := T) HTK.out hodd)
                clear hodd hs
                go_wp2
                go_roundg (k - (p + 1))
                case measure => have := HQP.out; omega
                case rel => exact ⟨p + 1, rfl, by omega, by go_num, by rw [HODD.out], HALL3.out, HB4.out⟩
          · obtain rfl : p = k := by omega
            have HBI2 := Lib.hid (HB2.out.trans (hbi.mono HB2.out.size)); clear hbi
            go_wp2
            go_roundg (n - (p + 1))
            case measure => have := HQ.out; omega
            case rel => exact ⟨p + 1, _, rfl, by omega, by go_num, rfl, by rw [HTO.out]; exact told_go HDC.out HTK0.out (by rw [HL.out]; omega) HIB.out HALL2.out, HBI2.out⟩
    · obtain rfl : k = n := by omega
      have HB := Lib.hid hb; clear hb
      go_wp2
      go_ret
      exact ⟨ret_int (by rw [HTO.out, List.drop_of_length_le (by rw [HL.out]; omega)]; rfl), HB.out⟩
end Go.Proofs.YtgphjnhbheimiaaDoor

namespace Go.Proofs.YtgphjnhbheimiaaDoor
set_option linter.unusedVariables false
open Go.RowKit

theorem sortE_len (es : List Ed) : (sortE es).length = es.length := by
  have := srt_len es es.length (Nat.le_refl _)
  unfold srt at this
  rwa [List.take_length] at this
/-- what the reference gives -/
def AppTo (s : ByteArray) (es : List Ed) (w : World) (e : Ending) (w' : World) : Prop :=
  e = .returned (.tuple #[.string (if toldF s.size es = 0 then patchB s 0 (sortE es) else ⟨#[]⟩), .int .i64 (toldF s.size es)]) ∧ Below w.heap.size w w'
end Go.Proofs.YtgphjnhbheimiaaDoor
