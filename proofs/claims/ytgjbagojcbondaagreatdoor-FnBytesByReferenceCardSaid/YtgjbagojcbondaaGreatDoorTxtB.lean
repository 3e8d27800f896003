/-
  The built-in copy within a row of the call's own whose elements have several cells. No condition.
  The walk of spec.Sorted: the edits by insertion. Condition: at most 20000000 edits.
  The walk of spec.ToldOf: what is told of edits. Condition: at most 20000000 edits.
  The walk of spec.ApplyTo: what the reference makes of a text. Condition: at most 20000000 edits, a text of at most 2000000 bytes.
-/
import Derived.Test.YtgjbagojcbondaaGreatDoorKit
import Derived.Laws.CopyOwn
import Derived.Deep.RegionLaw
import Derived.Test.YtgjbagojcbondaaGreatDoorTxtA
import Derived.Deep.RegionHeld3
import Derived.Deep.LoopGhost
import Derived.IntWalk
import Derived.BigQuiet
namespace Go.Proofs.YtgjbagojcbondaaGreatDoor
set_option linter.unusedVariables false
open Go.RowKit

theorem own_row {w : World} {base e size g n cap : Nat} {xs : List Value} (h : w.ownsRow base e size (.slice (some ⟨g, 0, none⟩) n cap) n xs) :
    ∃ cur : Array Value, base ≤ g ∧ w.heap[g]? = some (.cells cur e (0, 0)) ∧ n ≤ cap ∧ cap ≤ maxLen ∧ cur.size = cap * size ∧ cur.toList.take (n * size) = xs := by
  rcases h.2 with ⟨h1, _⟩ | ⟨g', cap', cur, hv, r⟩
  · cases h1
  · injection hv with h1 _ h3
    injection h1 with h1
    injection h1 with h1
    subst h1 h3
    exact ⟨cur, r⟩

theorem run_copy_own {P : Program} (w : World) (dT ty elem : TypeId) (i : TypeInfo) (size : Nat) (hu : P.underlying dT = some (.slice elem)) (hi : P.info? elem = some i) (hsize : i.size = size)
    (base e g n cap : Nat) (xs : List Value) (hown : w.ownsRow base e size (.slice (some ⟨g, 0, none⟩) n cap) n xs)
    (dp sp : Option Addr) (dLen dCap sLen sCap o1 o2 m : Nat) (hm : m = Nat.min sLen dLen)
    (hpos : 0 < m → dp = some ⟨g, o1 * size, none⟩ ∧ sp = some ⟨g, o2 * size, none⟩) (hfit1 : o1 + m ≤ n) (hfit2 : o2 + m ≤ n) (h1 : ∀ u ∈ xs, u.oneCell' = true) :
    ∃ w', (Builtin.copy_ #[dT, dT] ty #[.slice dp dLen dCap, .slice sp sLen sCap]).run P w = .ok (goInt m) w' ∧
      w'.ownsRow base e size (.slice (some ⟨g, 0, none⟩) n cap) n (xs.take (o1 * size) ++ ((xs.drop (o2 * size)).take (m * size) ++ xs.drop (o1 * size + m * size))) ∧ w.grownBy w' (some g) := by
  subst hsize
  have hlx := hown.1
  by_cases h0 : m = 0
  · subst h0
    have hl : ∀ (x : Addr), (loadCells x 0).run P w = .ok #[] w := fun x => by simpa using run_loadCells_list (P := P) w x [] (by simp)
    refine ⟨w, ?_, by simpa using hown, World.grownBy.refl w _⟩
    cases dp <;> cases sp <;> simp [Builtin.copy_, run_underlying hu, Builtin.lenOf, Builtin.firstCells, sizeOf, typeInfo, hi, ← hm, storeCells, hl]
  · obtain ⟨rfl, rfl⟩ := hpos (by omega)
    obtain ⟨cur, hb, hg, hnc, hcm, hcs, htake⟩ := own_row hown
    have hn2 : (o2 + m) * i.size ≤ n * i.size := Nat.mul_le_mul_right _ hfit2
    have hn1 : (o1 + m) * i.size ≤ n * i.size := Nat.mul_le_mul_right _ hfit1
    have hnc' : n * i.size ≤ cap * i.size := Nat.mul_le_mul_right _ hnc
    rw [Nat.add_mul] at hn1 hn2
    obtain ⟨cs, hcsd⟩ : ∃ cs, cs = (xs.drop (o2 * i.size)).take (m * i.size) := ⟨_, rfl⟩
    have hcl : cs.length = m * i.size := by rw [hcsd]; simp; omega
    have hsrc : ∀ j v, cs[j]? = some v → w.cell? ((⟨g, o2 * i.size, none⟩ : Addr).add j) = some v := by
      intro j v hv
      have hj : j < cs.length := (List.getElem?_eq_some_iff.1 hv).1
      rw [add_lit, hown.cellAt _ (by omega)]
      rw [hcsd, List.getElem?_take, if_pos (by omega), List.getElem?_drop] at hv
      exact hv
    have h1' : ∀ v ∈ cs, v.oneCell' = true := fun v hv => h1 v (by rw [hcsd] at hv; exact List.mem_of_mem_drop (List.mem_of_mem_take hv))
    have hf := run_firstCells_some (P := P) w i.size m ⟨g, o2 * i.size, none⟩ sLen sCap cs hcl hsrc
    have hst := run_storeCells_at P g (o1 * i.size) e cs 0 cur w hg (by omega) h1'
    simp only [Nat.add_zero] at hst
    refine ⟨w.setRow g (cur.toList.take (o1 * i.size) ++ cs ++ cur.toList.drop (o1 * i.size + cs.length)).toArray, ?_, ⟨?_, .inr ⟨g, cap, (cur.toList.take (o1 * i.size) ++ cs ++ cur.toList.drop (o1 * i.size + cs.length)).toArray, rfl, hb, setRow_heap w g cur _ e _ hg, hnc, hcm, ?_, ?_⟩⟩, ⟨rfl, rfl, rfl, by simp [World.setRow], fun k _ hk => setRow_other w g k _ (fun e => hk (by rw [e]))⟩⟩
    · simp [Builtin.copy_, run_underlying hu, Builtin.lenOf, sizeOf, typeInfo, hi, ← hm, hf, hst]
    · rw [← hcsd]
      simp only [List.length_append, List.length_take, List.length_drop]
      omega
    · simp only [List.size_toArray, List.length_append, List.length_take, List.length_drop, Array.length_toList]
      omega
    · rw [← hcsd, ← htake]
      simp only [List.append_assoc]
      rw [List.take_append, List.take_append, List.length_take, List.take_take, List.take_take, Array.length_toList]
      have e1 : min (o1 * i.size) cur.size = o1 * i.size := by omega
      rw [e1, List.drop_take, hcl]
      congr 1
      · congr 1
        omega
      · congr 1
        · exact List.take_of_length_le (by omega)
        · congr 1
          omega

theorem step_copy_own {P : Program} {ops : Array Oper} {o : Oper} {a : Act} {w : World} {K : Act → World → Prop} {Q : Exit → Act → World → Prop} {E : Prop} (hgd : o.guard = none) (d s : Operand) (dT : TypeId)
    (ho : o.op = .call { callee := .builtin .copy, args := #[d, s], argTypes := #[dT, dT] }) (elem : TypeId) (i : TypeInfo) (size : Nat) (hu : P.underlying dT = some (.slice elem)) (hi : P.info? elem = some i) (hsize : i.size = size)
    (base e g n cap : Nat) (xs : List Value) (hown : w.ownsRow base e size (.slice (some ⟨g, 0, none⟩) n cap) n xs)
    (dp sp : Option Addr) (dLen dCap sLen sCap : Nat) (hd : a.eval d = .slice dp dLen dCap) (hs : a.eval s = .slice sp sLen sCap) (o1 o2 m : Nat) (hm : m = Nat.min sLen dLen)
    (hpos : 0 < m → dp = some ⟨g, o1 * size, none⟩ ∧ sp = some ⟨g, o2 * size, none⟩) (hfit1 : o1 + m ≤ n) (hfit2 : o2 + m ≤ n) (h1 : ∀ u ∈ xs, u.oneCell' = true)
    (h : ∀ w', w'.ownsRow base e size (.slice (some ⟨g, 0, none⟩) n cap) n (xs.take (o1 * size) ++ ((xs.drop (o2 * size)).take (m * size) ++ xs.drop (o1 * size + m * size))) → w.grownBy w' (some g) → K (a.put o.dst (goInt m)) w') :
    if Region.wanted o (yielded ops a.tmps) = true then Oper.wp P o a w K Q else E := by
  have hw : Region.wanted o (yielded ops a.tmps) = true := by simp [Region.wanted, hgd]
  rw [if_pos hw]
  obtain ⟨w', hrun, h2, h3⟩ := run_copy_own (P := P) w dT o.type elem i size hu hi hsize base e g n cap xs hown dp sp dLen dCap sLen sCap o1 o2 m hm hpos hfit1 hfit2 h1
  unfold Oper.wp
  simp [execOp, ho, resolve, invoke, builtin, hd, hs, hrun, Result.andThen]
  exact h w' h2 h3

theorem wpList_copy_own3 {P : Program} {ops : Array Oper} {rest : List Oper} {o : Oper} {a : Act} {w : World} {Q : Exit → Act → World → Prop} (hgd : o.guard = none) (d s : Operand) (dT : TypeId)
    (ho : o.op = .call { callee := .builtin .copy, args := #[d, s], argTypes := #[dT, dT] }) (elem : TypeId) (i : TypeInfo) (size : Nat) (hu : P.underlying dT = some (.slice elem)) (hi : P.info? elem = some i) (hsize : i.size = size)
    (base e g n cap : Nat) (xs : List Value) (hown : w.ownsRow base e size (.slice (some ⟨g, 0, none⟩) n cap) n xs)
    (dp sp : Option Addr) (dLen dCap sLen sCap : Nat) (hd : a.eval d = .slice dp dLen dCap) (hs : a.eval s = .slice sp sLen sCap) (o1 o2 m : Nat) (hm : m = Nat.min sLen dLen)
    (hpos : 0 < m → dp = some ⟨g, o1 * size, none⟩ ∧ sp = some ⟨g, o2 * size, none⟩) (hfit1 : o1 + m ≤ n) (hfit2 : o2 + m ≤ n) (h1 : ∀ u ∈ xs, u.oneCell' = true)
    (h : ∀ w', w'.ownsRow base e size (.slice (some ⟨g, 0, none⟩) n cap) n (xs.take (o1 * size) ++ ((xs.drop (o2 * size)).take (m * size) ++ xs.drop (o1 * size + m * size))) → w.grownBy w' (some g) → wpList P ops Q rest (a.put o.dst (goInt m)) w') :
    wpList P ops Q (o :: rest) a w := by
  refine wpList_plain hgd fun K hK => ?_
  obtain ⟨w', hrun, h2, h3⟩ := run_copy_own (P := P) w dT o.type elem i size hu hi hsize base e g n cap xs hown dp sp dLen dCap sLen sCap o1 o2 m hm hpos hfit1 hfit2 h1
  unfold Oper.wp
  simp [execOp, ho, resolve, invoke, builtin, hd, hs, hrun, Result.andThen]
  exact hK _ _ (h w' h2 h3)
end Go.Proofs.YtgjbagojcbondaaGreatDoor

namespace Go.Proofs.YtgjbagojcbondaaGreatDoor
set_option linter.unusedVariables false
open Go.RowKit

/-- the first k edits, sorted -/
def srt (es : List Ed) (k : Nat) : List Ed := sortE (es.take k)
theorem insE_len (e : Ed) (l : List Ed) : (insE e l).length = l.length + 1 := by
  induction l with
  | nil => rfl
  | cons x l ih =>
    rw [insE]
    split
    · rfl
    · simp [ih]
theorem srt_succ (es : List Ed) (k : Nat) (h : k < es.length) : srt es (k + 1) = insE (edAt es k) (srt es k) := by
  unfold srt sortE
  rw [take_snoc_ed es k h, List.foldl_append]
  rfl
theorem srt_len (es : List Ed) (k : Nat) (h : k ≤ es.length) : (srt es k).length = k := by
  induction k with
  | zero => rfl
  | succ k ih => rw [srt_succ es k (by omega), insE_len, ih (by omega)]

theorem edCells_take (es : List Ed) (k : Nat) : (edCells es).take (k * 3) = edCells (es.take k) := by
  induction es generalizing k with
  | nil => simp [edCells]
  | cons x l ih =>
    cases k with
    | zero => simp [edCells]
    | succ k =>
      rw [edCells_cons, List.take_succ_cons, edCells_cons, ← ih k]
      have hl : x.cells.length = 3 := rfl
      rw [List.take_append, List.take_of_length_le (by omega), hl, show (k + 1) * 3 - 3 = k * 3 by omega]
theorem edCells_drop (es : List Ed) (k : Nat) : (edCells es).drop (k * 3) = edCells (es.drop k) := by
  induction es generalizing k with
  | nil => simp [edCells]
  | cons x l ih =>
    cases k with
    | zero => simp
    | succ k =>
      rw [edCells_cons, List.drop_succ_cons, ← ih k]
      have hl : x.cells.length = 3 := rfl
      rw [List.drop_append, List.drop_of_length_le (by omega), hl, show (k + 1) * 3 - 3 = k * 3 by omega]
      rfl
/-- three cells stored at a place of a row of edits -/
theorem edCells_put (es : List Ed) (k : Nat) (x : Ed) (h : k < es.length) :
    (((edCells es).set (k * 3) (.int .i64 x.s)).set (k * 3 + 1) (.int .i64 x.e)).set (k * 3 + 2) (.string x.n) = edCells (es.set k x) := by
  induction es generalizing k with
  | nil => simp at h
  | cons y l ih =>
    rw [edCells_cons]
    cases k with
    | zero => simp [Ed.cells, edCells_cons]
    | succ k =>
      have hl : y.cells.length = 3 := rfl
      have := ih k (by simpa using h)
      rw [List.set_append_right _ _ (by omega), List.set_append_right _ _ (by omega), List.set_append_right _ _ (by omega), hl, show (k + 1) * 3 - 3 = k * 3 by omega, show (k + 1) * 3 + 1 - 3 = k * 3 + 1 by omega, show (k + 1) * 3 + 2 - 3 = k * 3 + 2 by omega, this]
      rfl
/-- what the row holds behind the shift and the store -/
theorem shift_put (L : List Ed) (e : Ed) (p : Nat) (hp : p ≤ L.length) :
    ((L ++ [e]).take (p + 1) ++ (((L ++ [e]).drop p).take (L.length - p) ++ (L ++ [e]).drop (p + 1 + (L.length - p)))).set p e = L.take p ++ e :: L.drop p := by
  obtain ⟨L1, L2, rfl, rfl⟩ : ∃ L1 L2, L = L1 ++ L2 ∧ p = L1.length := ⟨L.take p, L.drop p, (List.take_append_drop p L).symm, by simp; omega⟩
  obtain ⟨x, hx⟩ : ∃ x, (L2 ++ [e]).take 1 = [x] := by cases L2 <;> simp
  have e1 : (L1 ++ L2).length - L1.length = L2.length := by simp
  rw [e1, List.append_assoc]
  have e2 : (L1 ++ (L2 ++ [e])).take (L1.length + 1) = L1 ++ [x] := by
    rw [List.take_append, List.take_of_length_le (by omega), Nat.add_sub_cancel_left, hx]
  have e3 : (L1 ++ (L2 ++ [e])).drop L1.length = L2 ++ [e] := by simp
  have e4 : (L1 ++ (L2 ++ [e])).drop (L1.length + 1 + L2.length) = [] := List.drop_of_length_le (by simp; omega)
  rw [e2, e3, e4, List.append_nil, List.take_append_of_le_length (Nat.le_refl _), List.take_length]
  rw [List.append_assoc, List.set_append_right _ _ (Nat.le_refl _), Nat.sub_self]
  simp

theorem own_some {w : World} {base e size n c : Nat} {A : Option Addr} {xs : List Value} (h : w.ownsRow base e size (.slice A n c) n xs) (hn : 0 < n) : ∃ g, A = some ⟨g, 0, none⟩ := by
  rcases h.2 with ⟨h1, h2⟩ | ⟨g, cap, cur, hv, r⟩
  · omega
  · injection hv with h1
    exact ⟨g, h1⟩
/-- the cells of the j-th edit of an owned list -/
theorem own_ed {w : World} {base e n c g : Nat} {L : List Ed} (h : w.ownsRow base e 3 (.slice (some ⟨g, 0, none⟩) n c) n (edCells L)) (hl : L.length = n) {j : Nat} (hj : j < n) :
    base ≤ g ∧ g < w.heap.size ∧ w.cell? ⟨g, j * 3, none⟩ = some (.int .i64 (edAt L j).s) ∧ w.cell? ⟨g, j * 3 + 1, none⟩ = some (.int .i64 (edAt L j).e) ∧ w.cell? ⟨g, j * 3 + 2, none⟩ = some (.string (edAt L j).n) ∧ ∀ i, w.frozen? ⟨g, i, none⟩ = false := by
  obtain ⟨g1, g2, g3⟩ := edCells_get L j (by omega)
  have hlt := h.lt g rfl
  refine ⟨hlt.1, hlt.2, ?_, ?_, ?_, fun i => h.frozenAt i⟩
  · rw [h.cellAt _ (by omega)]; exact g1
  · rw [h.cellAt _ (by omega)]; exact g2
  · rw [h.cellAt _ (by omega)]; exact g3
theorem own_keepS {w w' : World} {B base e size n : Nat} {v : Value} {xs : List Value} (ho : w.ownsRow base e size v n xs) (hb : Below B w w') (hB : w.heap.size ≤ B) : w'.ownsRow base e size v n xs := by
  refine ⟨ho.1, ?_⟩
  rcases ho.2 with hn | ⟨g', cap, cur, hv, hg, hgg, rest⟩
  · exact .inl hn
  · exact .inr ⟨g', cap, cur, hv, hg, by rw [hb.block g' (by have := (Array.getElem?_eq_some_iff.1 hgg).1; omega)]; exact hgg, rest⟩
theorem own_cap {w : World} {base e size n c : Nat} {A : Option Addr} {xs : List Value} (h : w.ownsRow base e size (.slice A n c) n xs) : n ≤ c := by
  rcases h.2 with ⟨h1, h2⟩ | ⟨g, cap, cur, hv, _, _, h3, _⟩
  · omega
  · injection hv with h1 h2 h4
    subst h4
    exact h3

theorem own_has {w : World} {base e size g n c : Nat} {xs : List Value} (h : w.ownsRow base e size (.slice (some ⟨g, 0, none⟩) n c) n xs) (i : Nat) (hi : i < n * size) : ∃ v, w.cell? ⟨g, i, none⟩ = some v := by
  have hl := h.1
  rw [h.cellAt i (by omega)]
  exact ⟨xs[i]'(by omega), List.getElem?_eq_getElem (by omega)⟩
/-- the row behind the append, the shift and the store of one edit -/
theorem own_shifted {w : World} {base e g k p c : Nat} {L : List Ed} {E : Ed} (hl : L.length = k) (hp : p ≤ k)
    (h : w.ownsRow base e 3 (.slice (some ⟨g, 0, none⟩) (k + 1) c) (k + 1) ((edCells L ++ E.cells).take ((p + 1) * 3) ++ (((edCells L ++ E.cells).drop (p * 3)).take ((k - p) * 3) ++ (edCells L ++ E.cells).drop ((p + 1) * 3 + (k - p) * 3)))) (hb : ∀ j, p ≤ j → j < k → beforeB E (edAt L j) = true) (ha : 0 < p → beforeB E (edAt L (p - 1)) = false) :
    ((((w.setCell ⟨g, p * 3, none⟩ (.int .i64 E.s)).setCell ⟨g, p * 3 + 1, none⟩ (.int .i64 E.e)).setCell ⟨g, p * 3 + 2, none⟩ (.string E.n)).ownsRow base e 3 (.slice (some ⟨g, 0, none⟩) (k + 1) c) (k + 1) (edCells (insE E L))) ∧ w.grownBy (((w.setCell ⟨g, p * 3, none⟩ (.int .i64 E.s)).setCell ⟨g, p * 3 + 1, none⟩ (.int .i64 E.e)).setCell ⟨g, p * 3 + 2, none⟩ (.string E.n)) (some g) := by
  have e0 : edCells L ++ E.cells = edCells (L ++ [E]) := by rw [edCells_append, edCells_cons, edCells_nil, List.append_nil]
  have e1 : (p + 1) * 3 + (k - p) * 3 = (p + 1 + (k - p)) * 3 := by omega
  rw [e0, e1, edCells_take, edCells_drop, edCells_drop, edCells_take, ← edCells_append, ← edCells_append] at h
  obtain ⟨h1, g1⟩ := h.stored (p * 3) (.int .i64 E.s)
  obtain ⟨h2, g2⟩ := h1.stored (p * 3 + 1) (.int .i64 E.e)
  obtain ⟨h3, g3⟩ := h2.stored (p * 3 + 2) (.string E.n)
  refine ⟨?_, (g1.trans g2).trans g3⟩
  rw [edCells_put _ _ _ (by simp; omega)] at h3
  rw [insE_at p (by omega) (fun j h1 h2 => hb j h1 (by omega)) ha, ← shift_put L E p (by omega), hl]
  exact h3

set_option maxRecDepth 100000 in
set_option maxHeartbeats 2000000 in
theorem sorted_any (A : Option Addr) (c : Nat) (es : List Ed) (w : World) (hr : EdsR w A es) (hl : es.length ≤ 20000000) :
   Calls Tryz.prog 24 #[.slice A es.length c] w fun e w' => ∃ A' c', e = .returned (.slice A' es.length c') ∧ w'.ownsRow w.heap.size 46 3 (.slice A' es.length c') es.length (edCells (sortE es)) ∧ Below w.heap.size w w' := by
  obtain ⟨i0, hi, hz0, hz1, hz2⟩ := info_parts infoE
  have HR := Lib.hid hr; clear hr
  have hsl := fun k (h : k ≤ es.length) => srt_len es k h
  obtain ⟨n, hln⟩ : ∃ n, es.length = n := ⟨_, rfl⟩
  rw [hln] at hl hsl ⊢
  have HL := Lib.hid hln; clear hln
  have HSL := Lib.hid hsl; clear hsl
  go_enter Tryz.func24, Tryz.ntmps24
  go_wp2
  go_loopg [3, 5, 6, 10] n (fun q v _ _ i wr => ∃ k : Nat, q = n - k ∧ k ≤ n ∧ i = .int .i64 k ∧ wr.ownsRow w.heap.size 46 3 v k (edCells (srt es k)) ∧ Below w.heap.size w wr)
  case atStart => exact ⟨0, rfl, by omega, rfl, World.ownsRow_made w #[] 0 (Nat.le_refl _) (by simp [maxLen]) rfl, (Below.refl _ _).alloc (Nat.le_refl _) _⟩
  case round =>
    obtain ⟨k, hq, hk, rfl, hown, hb⟩ := hrel
    have HQ := Lib.hid hq; clear hq
    by_cases hlt : k < n
    · obtain ⟨b, off, rfl, hbb, g1, g2, g3⟩ := (EdsR.below HR.out hb (Nat.le_refl _)).at_ (k := k) (by rw [HL.out]; exact hlt)
      have hbs := hb.size
      have hsl := HSL.out k (by omega)
      have hss := srt_succ es k (by rw [HL.out]; exact hlt)
      have HSS := Lib.hid hss; clear hss
      obtain ⟨A3, c3, rfl⟩ := own_form hown
      generalize hS : srt es k = L at *
      clear hS
      have HLL := Lib.hid hsl; clear hsl
      generalize hE : edAt es k = E at *
      have hE1 : eS es k = E.s := by rw [← hE]; rfl
      have hE2 : eE es k = E.e := by rw [← hE]; rfl
      have hE3 : eN es k = E.n := by rw [← hE]; rfl
      rw [hE1] at g1
      rw [hE2] at g2
      rw [hE3] at g3
      clear hE hE1 hE2 hE3
      have hbk := Blk.new wr 46 #[.int .i64 E.s, .int .i64 E.e, .string E.n]
      have HBK := Lib.hid hbk; clear hbk
      have HA3 := Lib.hid (fun g h => (hown.lt g h).2)
      have HO := Lib.hid (hown.alloc (.cells #[.int .i64 E.s, .int .i64 E.e, .string E.n] 46)); clear hown
      have HB := Lib.hid (hb.alloc hbs (.cells #[.int .i64 E.s, .int .i64 E.e, .string E.n] 46)); clear hb
      have hwsz : wr.heap.size < (wr.alloc (.cells #[.int .i64 E.s, .int .i64 E.e, .string E.n] 46)).heap.size := by simp
      go_wp2
      generalize hW0 : wr.alloc (.cells #[.int .i64 E.s, .int .i64 E.e, .string E.n] 46) = W0 at *
      clear hW0
      generalize hbx : wr.heap.size = bx at *
      clear hbx
      go_loopg [6] k (fun q s6 wi => ∃ p : Nat, q = p ∧ p ≤ k ∧ s6 = .int .i64 p ∧ (∀ j, p ≤ j → j < k → beforeB E (edAt L j) = true) ∧ Below W0.heap.size W0 wi)
      case atStart => exact ⟨k, rfl, Nat.le_refl _, rfl, fun j h1 h2 => by omega, Below.refl _ _⟩
      case round =>
        obtain ⟨p, hqp, hpk, rfl, hall, hbi⟩ := hrel
        have HQP := Lib.hid hqp; clear hqp
        have HALL := Lib.hid hall; clear hall
        have hbis := hbi.size
        have hbk := HBK.out.below hbi hwsz
        have b0 : wr.cell? ⟨bx, 0, none⟩ = some (.int .i64 E.s) := hbk.cell 0
        have b1 : wr.cell? ⟨bx, 1, none⟩ = some (.int .i64 E.e) := hbk.cell 1
        have b2 : wr.cell? ⟨bx, 2, none⟩ = some (.string E.n) := hbk.cell 2
        have hbxw : bx < wr.heap.size := by omega
        clear hbk
        by_cases hp0 : p = 0
        · have hpi : decide ((0 : Int) < (p : Int)) = false := by simp; omega
          have hpn : decide (0 < p) = false := by simp; omega
          have HP0 := Lib.hid hp0; clear hp0
          go_wp2
          go_quiet (fail)
          generalize hwx : wr.drewN nq = wx at *
          have hbx : Below W0.heap.size W0 wx := by rw [← hwx]; exact below_drewN hbi nq
          clear hwx
          have HBX := Lib.hid hbx; clear hbx
          have HOX := Lib.hid (own_keepS HO.out HBX.out (Nat.le_refl _))
          have hbk := HBK.out.below HBX.out hwsz
          have c0 : wx.cell? ⟨bx, 0, none⟩ = some (.int .i64 E.s) := hbk.cell 0
          have c1 : wx.cell? ⟨bx, 1, none⟩ = some (.int .i64 E.e) := hbk.cell 1
          have c2 : wx.cell? ⟨bx, 2, none⟩ = some (.string E.n) := hbk.cell 2
          have HBKX := Lib.hid hbk; clear hbk
          have hxs := HBX.out.size
          have HBW := Lib.hid (HB.out.trans (HBX.out.mono HB.out.size))
          have hws := HB.out.size
          have hnx := hwsz
          go_wp2_with (at_builtin; refine wpList_append_any _ rfl (.tmp 29) (.tmp 31) _ rfl w.heap.size 46 i0 _ 3 32 Tryz.underlying23 hi hz0 hz1 hz2 rfl (by omega) (.slice A3 k c3) k (edCells L) rfl (HOX.out.alloc _) (some ⟨wx.heap.size, 0, none⟩) 1 1 E.cells rfl (cells_lit3 wx 46 E) rfl (edCells1 _) (by unfold maxLen; omega) (by omega) (by simp; omega) ?_; intro A5 c5 w5 hown5 hg5 hat5)
          obtain ⟨g5, hg5e⟩ := own_some hown5 (by omega)
          subst hg5e
          have hcap := own_cap hown5
          have HO5 := Lib.hid hown5; clear hown5
          have j1 : (p : Int) + 1 ≤ (k : Int) + 1 := by omega
          have j2 : (p : Int) ≤ (k : Int) + 1 := by omega
          have k1 : ((p : Int) + 1).toNat = p + 1 := by omega
          have k2 : (0 : Int) ≤ (p : Int) + 1 := by omega
          have k3 : IntKind.i64.wrap ((p : Int) + 1) = (p : Int) + 1 := IntWalk.i64_in _ (by omega)
          have hone : ∀ u ∈ edCells L ++ E.cells, u.oneCell' = true := fun u hu => by
            rcases List.mem_append.1 hu with h | h
            · exact edCells_one L u h
            · exact edCells1 E u h
          have HONE := Lib.hid hone; clear hone
          have hgg := HO5.out.lt g5 rfl
          have hne : bx ≠ g5 := by
            rcases hat5 with h | h
            · have := HA3.out g5 (h ▸ rfl)
              omega
            · have h' : some g5 = some (wx.heap.size + 1) := by simpa [Value.ownBlock] using h
              injection h'
              omega
          have HBK5 := Lib.hid ((HBKX.out.alloc _).grown hg5 (fun h => by
            have := HA3.out bx (by rw [← h])
            omega))
          have HB5 := Lib.hid ((HBW.out.alloc (by omega) (.cells #[.int .i64 E.s, .int .i64 E.e, .string E.n] 46)).grown hg5 (by simp; omega) (fun q h => (HO.out.lt q h).1))
          have hg5s : wx.heap.size ≤ w5.heap.size := by have := hg5.size; simp at this; omega
          have hwx0 : w.heap.size ≤ wx.heap.size := HBW.out.size
          clear hat5 hg5
          by_cases hpk2 : p = k
          · subst hpk2
            by_cases q1 : c5 = p + 1
            · subst q1
              go_region_law (refine step_copy_own rfl (.tmp 36) (.tmp 39) _ rfl 46 i0 3 Tryz.underlying23 hi hz1 w.heap.size 46 g5 (p + 1) (p + 1) (edCells L ++ E.cells) (World.ownsRow.drew HO5.out) (some ⟨g5, 0, none⟩) (some ⟨g5, p * 3, none⟩) (p - p) (0) 1 1 (by simp [Act.eval, Act.put]) (by simp [Act.eval, Act.put]) (p + 1) p (p - p) (by show p - p = min 1 (p - p); omega) (fun _ => by omega) (by omega) (by omega) HONE.out ?_; intro w6 hown6 hg6)
              have h6s : w5.heap.size ≤ w6.heap.size := hg6.size
              have hbk6 := HBK5.out.drew.grown hg6 (by simp; omega)
              have d0 : w6.cell? ⟨bx, 0, none⟩ = some (.int .i64 E.s) := hbk6.cell 0
              have d1 : w6.cell? ⟨bx, 1, none⟩ = some (.int .i64 E.e) := hbk6.cell 1
              have d2 : w6.cell? ⟨bx, 2, none⟩ = some (.string E.n) := hbk6.cell 2
              have f6 := hown6.frozenAt
              have f60 := f6 (p * 3)
              have f61 := f6 (p * 3 + 1)
              have f62 := f6 (p * 3 + 2)
              clear f6
              obtain ⟨z0, e0⟩ := own_has hown6 (p * 3) (by omega)
              obtain ⟨z1, e1⟩ := own_has hown6 (p * 3 + 1) (by omega)
              obtain ⟨z2, e2⟩ := own_has hown6 (p * 3 + 2) (by omega)
              obtain ⟨ho7, hg7⟩ := own_shifted HLL.out (by omega) hown6 HALL.out (fun h => by have := HP0.out; omega)
              have HO7 := Lib.hid ho7; clear ho7
              have HB7 := Lib.hid (((HB5.out.drew).grown hg6 (by show w.heap.size ≤ w5.heap.size; omega) (fun q h => by cases h; omega)).grown hg7 (by omega) (fun q h => by cases h; omega))
              clear hown6 hg6 hg7 hbk6
              have hp3 : p < p + 1 := by omega
              go_wp2
              go_roundg (n - (p + 1))
              case measure => have := HQ.out; omega
              case rel => exact ⟨p + 1, by omega, by omega, by go_num, by rw [HSS.out]; exact HO7.out, HB7.out⟩
            · have q2 : ¬ c5 = p := by omega
              go_region_law (refine step_copy_own rfl (.tmp 36) (.tmp 39) _ rfl 46 i0 3 Tryz.underlying23 hi hz1 w.heap.size 46 g5 (p + 1) c5 (edCells L ++ E.cells) (World.ownsRow.drew HO5.out) (some ⟨g5, (p + 1) * 3, none⟩) (some ⟨g5, p * 3, none⟩) (p - p) (c5 - (p + 1)) 1 (c5 - p) (by simp [Act.eval, Act.put]) (by simp [Act.eval, Act.put]) (p + 1) p (p - p) (by show p - p = min 1 (p - p); omega) (fun _ => ⟨rfl, rfl⟩) (by omega) (by omega) HONE.out ?_; intro w6 hown6 hg6)
              have h6s : w5.heap.size ≤ w6.heap.size := hg6.size
              have hbk6 := HBK5.out.drew.grown hg6 (by simp; omega)
              have d0 : w6.cell? ⟨bx, 0, none⟩ = some (.int .i64 E.s) := hbk6.cell 0
              have d1 : w6.cell? ⟨bx, 1, none⟩ = some (.int .i64 E.e) := hbk6.cell 1
              have d2 : w6.cell? ⟨bx, 2, none⟩ = some (.string E.n) := hbk6.cell 2
              have f6 := hown6.frozenAt
              have f60 := f6 (p * 3)
              have f61 := f6 (p * 3 + 1)
              have f62 := f6 (p * 3 + 2)
              clear f6
              obtain ⟨z0, e0⟩ := own_has hown6 (p * 3) (by omega)
              obtain ⟨z1, e1⟩ := own_has hown6 (p * 3 + 1) (by omega)
              obtain ⟨z2, e2⟩ := own_has hown6 (p * 3 + 2) (by omega)
              obtain ⟨ho7, hg7⟩ := own_shifted HLL.out (by omega) hown6 HALL.out (fun h => by have := HP0.out; omega)
              have HO7 := Lib.hid ho7; clear ho7
              have HB7 := Lib.hid (((HB5.out.drew).grown hg6 (by show w.heap.size ≤ w5.heap.size; omega) (fun q h => by cases h; omega)).grown hg7 (by omega) (fun q h => by cases h; omega))
              clear hown6 hg6 hg7 hbk6
              have hp3 : p < p + 1 := by omega
              go_wp2
              go_roundg (n - (p + 1))
              case measure => have := HQ.out; omega
              case rel => exact ⟨p + 1, by omega, by omega, by go_num, by rw [HSS.out]; exact HO7.out, HB7.out⟩
          · have q1 : ¬ c5 = p + 1 := by omega
            have q2 : ¬ c5 = p := by omega
            go_region_law (refine step_copy_own rfl (.tmp 36) (.tmp 39) _ rfl 46 i0 3 Tryz.underlying23 hi hz1 w.heap.size 46 g5 (k + 1) c5 (edCells L ++ E.cells) (World.ownsRow.drew HO5.out) (some ⟨g5, (p + 1) * 3, none⟩) (some ⟨g5, p * 3, none⟩) (k - p) (c5 - (p + 1)) (k + 1 - p) (c5 - p) (by simp [Act.eval, Act.put]) (by simp [Act.eval, Act.put]) (p + 1) p (k - p) (by show k - p = min (k + 1 - p) (k - p); omega) (fun _ => ⟨rfl, rfl⟩) (by omega) (by omega) HONE.out ?_; intro w6 hown6 hg6)
            have h6s : w5.heap.size ≤ w6.heap.size := hg6.size
            have hbk6 := HBK5.out.drew.grown hg6 (by simp; omega)
            have d0 : w6.cell? ⟨bx, 0, none⟩ = some (.int .i64 E.s) := hbk6.cell 0
            have d1 : w6.cell? ⟨bx, 1, none⟩ = some (.int .i64 E.e) := hbk6.cell 1
            have d2 : w6.cell? ⟨bx, 2, none⟩ = some (.string E.n) := hbk6.cell 2
            have f6 := hown6.frozenAt
            have f60 := f6 (p * 3)
            have f61 := f6 (p * 3 + 1)
            have f62 := f6 (p * 3 + 2)
            clear f6
            obtain ⟨z0, e0⟩ := own_has hown6 (p * 3) (by omega)
            obtain ⟨z1, e1⟩ := own_has hown6 (p * 3 + 1) (by omega)
            obtain ⟨z2, e2⟩ := own_has hown6 (p * 3 + 2) (by omega)
            obtain ⟨ho7, hg7⟩ := own_shifted HLL.out (by omega) hown6 HALL.out (fun h => by have := HP0.out; omega)
            have HO7 := Lib.hid ho7; clear ho7
            have HB7 := Lib.hid (((HB5.out.drew).grown hg6 (by show w.heap.size ≤ w5.heap.size; omega) (fun q h => by cases h; omega)).grown hg7 (by omega) (fun q h => by cases h; omega))
            clear hown6 hg6 hg7 hbk6
            have hp3 : p < k + 1 := by omega
            go_wp2
            go_roundg (n - (k + 1))
            case measure => have := HQ.out; omega
            case rel => exact ⟨k + 1, by omega, by omega, by go_num, by rw [HSS.out]; exact HO7.out, HB7.out⟩
        · have hp1 : decide ((0 : Int) < (p : Int)) = true := by simp; omega
          have hp2 : decide (0 < p) = true := by simp; omega
          have hp3 : 0 < p := by omega
          have hoi := own_keepS HO.out hbi (Nat.le_refl _)
          obtain ⟨g3, hg3e⟩ := own_some hoi (by omega)
          subst hg3e
          obtain ⟨o1, o2, l0, l1, l2, -⟩ := own_ed hoi HLL.out (j := p - 1) (by omega)
          have q1 : (0 : Int) ≤ (p : Int) - 1 := by omega
          have q2 : ((p : Int) - 1).toNat = p - 1 := by omega
          have q3 : p - 1 < k := by omega
          have q4 : IntKind.i64.wrap ((p : Int) - 1) = (p : Int) - 1 := IntWalk.i64_in _ (by omega)
          have q5 : (p : Int) - 1 < (k : Int) := by omega
          have q7 : (1 : Int) ≤ (p : Int) := by omega
          have q8 : 1 ≤ p := by omega
          have q9 : (p : Int) < (k : Int) + 1 := by omega
          have q10 : (p : Int) ≤ (k : Int) := by omega
          have q6 : g3 < W0.heap.size := by
            have := HA3.out g3 rfl
            omega
          generalize hF : edAt L (p - 1) = F at *
          have HF := Lib.hid hF; clear hF
          cases hbf : beforeB E F with
          | false =>
            have HBF := Lib.hid hbf; clear hbf
            have hbe := fun w => before_any E F w
            rw [HBF.out] at hbe
            have HBE := Lib.hid hbe; clear hbe
            go_wp2
            go_region_held3 (fun w' => Below W0.heap.size W0 w' ∧ w'.cell? ⟨bx, 0, none⟩ = some (.int .i64 E.s) ∧ w'.cell? ⟨bx, 1, none⟩ = some (.int .i64 E.e) ∧ w'.cell? ⟨bx, 2, none⟩ = some (.string E.n) ∧ w'.cell? ⟨g3, (p - 1) * 3, none⟩ = some (.int .i64 F.s) ∧ w'.cell? ⟨g3, (p - 1) * 3 + 1, none⟩ = some (.int .i64 F.e) ∧ w'.cell? ⟨g3, (p - 1) * 3 + 2, none⟩ = some (.string F.n)) (first | (refine ⟨(by first | assumption | exact Below.drew hbi), ?_⟩; go_keep) | go_keep) (first | (go_at_call 39; refine (HBE.out _).mono ?_; rintro e w' ⟨rfl, hbn⟩; have hbn' : Below W0.heap.size W0 w' := hbi.drew.trans (hbn.mono (by exact hbis)); have z0 : w'.cell? ⟨bx, 0, none⟩ = some (.int .i64 E.s) := (hbn.cell (p := ⟨bx, 0, none⟩) (by simp; omega)).trans b0; have z1 : w'.cell? ⟨bx, 1, none⟩ = some (.int .i64 E.e) := (hbn.cell (p := ⟨bx, 1, none⟩) (by simp; omega)).trans b1; have z2 : w'.cell? ⟨bx, 2, none⟩ = some (.string E.n) := (hbn.cell (p := ⟨bx, 2, none⟩) (by simp; omega)).trans b2; have z3 : w'.cell? ⟨g3, (p - 1) * 3, none⟩ = some (.int .i64 F.s) := (hbn.cell (p := ⟨g3, (p - 1) * 3, none⟩) (by simp; omega)).trans l0; have z4 : w'.cell? ⟨g3, (p - 1) * 3 + 1, none⟩ = some (.int .i64 F.e) := (hbn.cell (p := ⟨g3, (p - 1) * 3 + 1, none⟩) (by simp; omega)).trans l1; have z5 : w'.cell? ⟨g3, (p - 1) * 3 + 2, none⟩ = some (.string F.n) := (hbn.cell (p := ⟨g3, (p - 1) * 3 + 2, none⟩) (by simp; omega)).trans l2; clear hbn))
            have HBX := Lib.hid hbn'; clear hbn'
            have HOX := Lib.hid (own_keepS HO.out HBX.out (Nat.le_refl _))
            have hbk := HBK.out.below HBX.out hwsz
            have c0 : w'.cell? ⟨bx, 0, none⟩ = some (.int .i64 E.s) := hbk.cell 0
            have c1 : w'.cell? ⟨bx, 1, none⟩ = some (.int .i64 E.e) := hbk.cell 1
            have c2 : w'.cell? ⟨bx, 2, none⟩ = some (.string E.n) := hbk.cell 2
            have HBKX := Lib.hid hbk; clear hbk
            have hxs := HBX.out.size
            have HBW := Lib.hid (HB.out.trans (HBX.out.mono HB.out.size))
            have hws := HB.out.size
            have hnx := hwsz
            go_wp2_with (at_builtin; refine wpList_append_any _ rfl (.tmp 29) (.tmp 31) _ rfl w.heap.size 46 i0 _ 3 32 Tryz.underlying23 hi hz0 hz1 hz2 rfl (by omega) (.slice (some ⟨g3, 0, none⟩) k c3) k (edCells L) rfl (HOX.out.alloc _) (some ⟨w'.heap.size, 0, none⟩) 1 1 E.cells rfl (cells_lit3 w' 46 E) rfl (edCells1 _) (by unfold maxLen; omega) (by omega) (by simp; omega) ?_; intro A5 c5 w5 hown5 hg5 hat5)
            obtain ⟨g5, hg5e⟩ := own_some hown5 (by omega)
            subst hg5e
            have hcap := own_cap hown5
            have HO5 := Lib.hid hown5; clear hown5
            have j1 : (p : Int) + 1 ≤ (k : Int) + 1 := by omega
            have j2 : (p : Int) ≤ (k : Int) + 1 := by omega
            have k1 : ((p : Int) + 1).toNat = p + 1 := by omega
            have k2 : (0 : Int) ≤ (p : Int) + 1 := by omega
            have k3 : IntKind.i64.wrap ((p : Int) + 1) = (p : Int) + 1 := IntWalk.i64_in _ (by omega)
            have hone : ∀ u ∈ edCells L ++ E.cells, u.oneCell' = true := fun u hu => by
              rcases List.mem_append.1 hu with h | h
              · exact edCells_one L u h
              · exact edCells1 E u h
            have HONE := Lib.hid hone; clear hone
            have hgg := HO5.out.lt g5 rfl
            have hne : bx ≠ g5 := by
              rcases hat5 with h | h
              · have := HA3.out g5 (h ▸ rfl)
                omega
              · have h' : some g5 = some (w'.heap.size + 1) := by simpa [Value.ownBlock] using h
                injection h'
                omega
            have HBK5 := Lib.hid ((HBKX.out.alloc _).grown hg5 (fun h => by
              have := HA3.out bx (by rw [← h])
              omega))
            have HB5 := Lib.hid ((HBW.out.alloc (by omega) (.cells #[.int .i64 E.s, .int .i64 E.e, .string E.n] 46)).grown hg5 (by simp; omega) (fun q h => (HO.out.lt q h).1))
            have hg5s : w'.heap.size ≤ w5.heap.size := by have := hg5.size; simp at this; omega
            have hwx0 : w.heap.size ≤ w'.heap.size := HBW.out.size
            clear hat5 hg5
            by_cases hpk2 : p = k
            · subst hpk2
              by_cases q1 : c5 = p + 1
              · subst q1
                go_region_law (refine step_copy_own rfl (.tmp 36) (.tmp 39) _ rfl 46 i0 3 Tryz.underlying23 hi hz1 w.heap.size 46 g5 (p + 1) (p + 1) (edCells L ++ E.cells) (World.ownsRow.drew HO5.out) (some ⟨g5, 0, none⟩) (some ⟨g5, p * 3, none⟩) (p - p) (0) 1 1 (by simp [Act.eval, Act.put]) (by simp [Act.eval, Act.put]) (p + 1) p (p - p) (by show p - p = min 1 (p - p); omega) (fun _ => by omega) (by omega) (by omega) HONE.out ?_; intro w6 hown6 hg6)
                have h6s : w5.heap.size ≤ w6.heap.size := hg6.size
                have hbk6 := HBK5.out.drew.grown hg6 (by simp; omega)
                have d0 : w6.cell? ⟨bx, 0, none⟩ = some (.int .i64 E.s) := hbk6.cell 0
                have d1 : w6.cell? ⟨bx, 1, none⟩ = some (.int .i64 E.e) := hbk6.cell 1
                have d2 : w6.cell? ⟨bx, 2, none⟩ = some (.string E.n) := hbk6.cell 2
                have f6 := hown6.frozenAt
                have f60 := f6 (p * 3)
                have f61 := f6 (p * 3 + 1)
                have f62 := f6 (p * 3 + 2)
                clear f6
                obtain ⟨z0, e0⟩ := own_has hown6 (p * 3) (by omega)
                obtain ⟨z1, e1⟩ := own_has hown6 (p * 3 + 1) (by omega)
                obtain ⟨z2, e2⟩ := own_has hown6 (p * 3 + 2) (by omega)
                obtain ⟨ho7, hg7⟩ := own_shifted HLL.out (by omega) hown6 HALL.out (fun h => by have := HF.out; rw [this]; exact HBF.out)
                have HO7 := Lib.hid ho7; clear ho7
                have HB7 := Lib.hid (((HB5.out.drew).grown hg6 (by show w.heap.size ≤ w5.heap.size; omega) (fun q h => by cases h; omega)).grown hg7 (by omega) (fun q h => by cases h; omega))
                clear hown6 hg6 hg7 hbk6
                have hp3 : p < p + 1 := by omega
                go_wp2
                go_roundg (n - (p + 1))
                case measure => have := HQ.out; omega
                case rel => exact ⟨p + 1, by omega, by omega, by go_num, by rw [HSS.out]; exact HO7.out, HB7.out⟩
              · have q2 : ¬ c5 = p := by omega
                go_region_law (refine step_copy_own rfl (.tmp 36) (.tmp 39) _ rfl 46 i0 3 Tryz.underlying23 hi hz1 w.heap.size 46 g5 (p + 1) c5 (edCells L ++ E.cells) (World.ownsRow.drew HO5.out) (some ⟨g5, (p + 1) * 3, none⟩) (some ⟨g5, p * 3, none⟩) (p - p) (c5 - (p + 1)) 1 (c5 - p) (by simp [Act.eval, Act.put]) (by simp [Act.eval, Act.put]) (p + 1) p (p - p) (by show p - p = min 1 (p - p); omega) (fun _ => ⟨rfl, rfl⟩) (by omega) (by omega) HONE.out ?_; intro w6 hown6 hg6)
                have h6s : w5.heap.size ≤ w6.heap.size := hg6.size
                have hbk6 := HBK5.out.drew.grown hg6 (by simp; omega)
                have d0 : w6.cell? ⟨bx, 0, none⟩ = some (.int .i64 E.s) := hbk6.cell 0
                have d1 : w6.cell? ⟨bx, 1, none⟩ = some (.int .i64 E.e) := hbk6.cell 1
                have d2 : w6.cell? ⟨bx, 2, none⟩ = some (.string E.n) := hbk6.cell 2
                have f6 := hown6.frozenAt
                have f60 := f6 (p * 3)
                have f61 := f6 (p * 3 + 1)
                have f62 := f6 (p * 3 + 2)
                clear f6
                obtain ⟨z0, e0⟩ := own_has hown6 (p * 3) (by omega)
                obtain ⟨z1, e1⟩ := own_has hown6 (p * 3 + 1) (by omega)
                obtain ⟨z2, e2⟩ := own_has hown6 (p * 3 + 2) (by omega)
                obtain ⟨ho7, hg7⟩ := own_shifted HLL.out (by omega) hown6 HALL.out (fun h => by have := HF.out; rw [this]; exact HBF.out)
                have HO7 := Lib.hid ho7; clear ho7
                have HB7 := Lib.hid (((HB5.out.drew).grown hg6 (by show w.heap.size ≤ w5.heap.size; omega) (fun q h => by cases h; omega)).grown hg7 (by omega) (fun q h => by cases h; omega))
                clear hown6 hg6 hg7 hbk6
                have hp3 : p < p + 1 := by omega
                go_wp2
                go_roundg (n - (p + 1))
                case measure => have := HQ.out; omega
                case rel => exact ⟨p + 1, by omega, by omega, by go_num, by rw [HSS.out]; exact HO7.out, HB7.out⟩
            · have q1 : ¬ c5 = p + 1 := by omega
              have q2 : ¬ c5 = p := by omega
              go_region_law (refine step_copy_own rfl (.tmp 36) (.tmp 39) _ rfl 46 i0 3 Tryz.underlying23 hi hz1 w.heap.size 46 g5 (k + 1) c5 (edCells L ++ E.cells) (World.ownsRow.drew HO5.out) (some ⟨g5, (p + 1) * 3, none⟩) (some ⟨g5, p * 3, none⟩) (k - p) (c5 - (p + 1)) (k + 1 - p) (c5 - p) (by simp [Act.eval, Act.put]) (by simp [Act.eval, Act.put]) (p + 1) p (k - p) (by show k - p = min (k + 1 - p) (k - p); omega) (fun _ => ⟨rfl, rfl⟩) (by omega) (by omega) HONE.out ?_; intro w6 hown6 hg6)
              have h6s : w5.heap.size ≤ w6.heap.size := hg6.size
              have hbk6 := HBK5.out.drew.grown hg6 (by simp; omega)
              have d0 : w6.cell? ⟨bx, 0, none⟩ = some (.int .i64 E.s) := hbk6.cell 0
              have d1 : w6.cell? ⟨bx, 1, none⟩ = some (.int .i64 E.e) := hbk6.cell 1
              have d2 : w6.cell? ⟨bx, 2, none⟩ = some (.string E.n) := hbk6.cell 2
              have f6 := hown6.frozenAt
              have f60 := f6 (p * 3)
              have f61 := f6 (p * 3 + 1)
              have f62 := f6 (p * 3 + 2)
              clear f6
              obtain ⟨z0, e0⟩ := own_has hown6 (p * 3) (by omega)
              obtain ⟨z1, e1⟩ := own_has hown6 (p * 3 + 1) (by omega)
              obtain ⟨z2, e2⟩ := own_has hown6 (p * 3 + 2) (by omega)
              obtain ⟨ho7, hg7⟩ := own_shifted HLL.out (by omega) hown6 HALL.out (fun h => by have := HF.out; rw [this]; exact HBF.out)
              have HO7 := Lib.hid ho7; clear ho7
              have HB7 := Lib.hid (((HB5.out.drew).grown hg6 (by show w.heap.size ≤ w5.heap.size; omega) (fun q h => by cases h; omega)).grown hg7 (by omega) (fun q h => by cases h; omega))
              clear hown6 hg6 hg7 hbk6
              have hp3 : p < k + 1 := by omega
              go_wp2
              go_roundg (n - (k + 1))
              case measure => have := HQ.out; omega
              case rel => exact ⟨k + 1, by omega, by omega, by go_num, by rw [HSS.out]; exact HO7.out, HB7.out⟩
          | true =>
            have HBF := Lib.hid hbf; clear hbf
            have hbe := fun w => before_any E F w
            rw [HBF.out] at hbe
            have HBE := Lib.hid hbe; clear hbe
            go_wp2
            go_region_held3 (fun w' => Below W0.heap.size W0 w' ∧ w'.cell? ⟨bx, 0, none⟩ = some (.int .i64 E.s) ∧ w'.cell? ⟨bx, 1, none⟩ = some (.int .i64 E.e) ∧ w'.cell? ⟨bx, 2, none⟩ = some (.string E.n) ∧ w'.cell? ⟨g3, (p - 1) * 3, none⟩ = some (.int .i64 F.s) ∧ w'.cell? ⟨g3, (p - 1) * 3 + 1, none⟩ = some (.int .i64 F.e) ∧ w'.cell? ⟨g3, (p - 1) * 3 + 2, none⟩ = some (.string F.n)) (first | (refine ⟨(by first | assumption | exact Below.drew hbi), ?_⟩; go_keep) | go_keep) (first | (go_at_call 39; refine (HBE.out _).mono ?_; rintro e w' ⟨rfl, hbn⟩; have hbn' : Below W0.heap.size W0 w' := hbi.drew.trans (hbn.mono (by exact hbis)); have z0 : w'.cell? ⟨bx, 0, none⟩ = some (.int .i64 E.s) := (hbn.cell (p := ⟨bx, 0, none⟩) (by simp; omega)).trans b0; have z1 : w'.cell? ⟨bx, 1, none⟩ = some (.int .i64 E.e) := (hbn.cell (p := ⟨bx, 1, none⟩) (by simp; omega)).trans b1; have z2 : w'.cell? ⟨bx, 2, none⟩ = some (.string E.n) := (hbn.cell (p := ⟨bx, 2, none⟩) (by simp; omega)).trans b2; have z3 : w'.cell? ⟨g3, (p - 1) * 3, none⟩ = some (.int .i64 F.s) := (hbn.cell (p := ⟨g3, (p - 1) * 3, none⟩) (by simp; omega)).trans l0; have z4 : w'.cell? ⟨g3, (p - 1) * 3 + 1, none⟩ = some (.int .i64 F.e) := (hbn.cell (p := ⟨g3, (p - 1) * 3 + 1, none⟩) (by simp; omega)).trans l1; have z5 : w'.cell? ⟨g3, (p - 1) * 3 + 2, none⟩ = some (.string F.n) := (hbn.cell (p := ⟨g3, (p - 1) * 3 + 2, none⟩) (by simp; omega)).trans l2; clear hbn))
            go_wp2
            go_roundg (p - 1)
            case measure => have := HQP.out; omega
            case rel => exact ⟨p - 1, rfl, by omega, by go_num, fun j h1 h2 => by
              by_cases hj : j = p - 1
              · subst hj
                have := HF.out
                rw [this]
                exact HBF.out
              · exact HALL.out j (by omega) h2, hbn'⟩
    · have hkn : k = n := by omega
      subst hkn
      obtain ⟨A3, c3, rfl⟩ := own_form hown
      have hse : srt es k = sortE es := by
        unfold srt
        rw [← HL.out, List.take_length]
      rw [hse] at hown
      have HO := Lib.hid hown; clear hown
      have HB := Lib.hid hb; clear hb
      go_wp2
      go_ret
      exact ⟨A3, c3, rfl, HO.out, HB.out⟩
end Go.Proofs.YtgjbagojcbondaaGreatDoor

namespace Go.Proofs.YtgjbagojcbondaaGreatDoor
set_option linter.unusedVariables false
open Go.RowKit

theorem drop_cons_told (es : List Ed) (k : Nat) (h : k < es.length) : es.drop k = edAt es k :: es.drop (k + 1) := by
  rw [List.drop_eq_getElem_cons h]
  simp [edAt, h]
/-- an odd pair ahead -/
def oddT (T : Int) (es : List Ed) (p : Nat) (E : Ed) : Int := if ∃ d ∈ es.take p, oddB d E = true then 2 else T
theorem oddT_zero (T : Int) (es : List Ed) (E : Ed) : oddT T es 0 E = T := by simp [oddT]
theorem oddT_yes {T : Int} {es : List Ed} {p : Nat} {E F : Ed} (h : es.take (p + 1) = es.take p ++ [F]) (ho : oddB F E = true) : oddT T es (p + 1) E = 2 := by
  unfold oddT
  rw [h, if_pos ⟨F, by simp, ho⟩]
theorem oddT_no {T : Int} {es : List Ed} {p : Nat} {E F : Ed} (h : es.take (p + 1) = es.take p ++ [F]) (ho : oddB F E = false) : oddT T es (p + 1) E = oddT T es p E := by
  unfold oddT
  rw [h]
  have : (∃ d ∈ es.take p ++ [F], oddB d E = true) ↔ ∃ d ∈ es.take p, oddB d E = true := by
    constructor
    · rintro ⟨d, hd, h2⟩
      rcases List.mem_append.1 hd with hd | hd
      · exact ⟨d, hd, h2⟩
      · obtain rfl : d = F := by simpa using hd
        rw [ho] at h2; cases h2
    · rintro ⟨d, hd, h2⟩
      exact ⟨d, by simp [hd], h2⟩
  simp only [this]
theorem told_out {size T : Int} {es : List Ed} {k : Nat} {E : Ed} (hd : es.drop k = E :: es.drop (k + 1)) (h : insideB E size = false) : toldL size T (es.take k) (es.drop k) = 1 := by
  rw [hd]; unfold toldL; rw [if_neg (by rw [h]; simp)]
theorem told_over {size T : Int} {es : List Ed} {k l : Nat} {E : Ed} (hd : es.drop k = E :: es.drop (k + 1)) (hl : l < k) (hk : k ≤ es.length) (h : overlapB (edAt es l) E = true) : toldL size T (es.take k) (es.drop k) = 1 := by
  rw [hd]; unfold toldL; rw [if_neg]
  rintro ⟨_, h2⟩
  have := h2 (edAt es l) (by
    rw [List.mem_take_iff_getElem]
    exact ⟨l, by omega, by simp [edAt, show l < es.length by omega]⟩)
  rw [h] at this; cases this
theorem told_go {size T : Int} {es : List Ed} {k : Nat} {E : Ed} (hd : es.drop k = E :: es.drop (k + 1)) (ht : es.take (k + 1) = es.take k ++ [E]) (hk : k ≤ es.length) (h : insideB E size = true) (ho : ∀ l, l < k → overlapB (edAt es l) E = false) :
    toldL size T (es.take k) (es.drop k) = toldL size (oddT T es k E) (es.take (k + 1)) (es.drop (k + 1)) := by
  rw [hd]
  conv => lhs; unfold toldL
  rw [if_pos ⟨h, fun d hd => by
    obtain ⟨l, hl, rfl⟩ := List.mem_take_iff_getElem.1 hd
    have := ho l (by omega)
    simpa [edAt, show l < es.length by omega] using this⟩, ht]
  rfl

set_option maxRecDepth 100000 in
set_option maxHeartbeats 2000000 in
theorem toldOf_any (A : Option Addr) (c : Nat) (es : List Ed) (size : Int) (w : World) (hr : EdsR w A es) (hc : es.length ≤ c) (hl : es.length ≤ 20000000) :
   Calls Tryz.prog 23 #[.slice A es.length c, .int .i64 size] w fun e w' => e = .returned (.int .i64 (toldF size es)) ∧ Below w.heap.size w w' := by
  have HR := Lib.hid hr; clear hr
  obtain ⟨n, hln⟩ : ∃ n, es.length = n := ⟨_, rfl⟩
  rw [hln] at hl hc ⊢
  have HL := Lib.hid hln; clear hln
  go_enter Tryz.func23, Tryz.ntmps23
  go_wp2
  go_loopg [5, 12] n (fun q t i wr => ∃ (k : Nat) (T : Int), q = n - k ∧ k ≤ n ∧ i = .int .i64 k ∧ t = .int .i64 T ∧ toldF size es = toldL size T (es.take k) (es.drop k) ∧ Below w.heap.size w wr)
  case atStart => exact ⟨0, 0, rfl, Nat.zero_le _, rfl, rfl, rfl, Below.refl _ _⟩
  case round =>
    obtain ⟨k, T, hq, hk, rfl, rfl, hto, hb⟩ := hrel
    have HQ := Lib.hid hq; have HTO := Lib.hid hto
    clear hq hto
    by_cases hlt : k < n
    · obtain ⟨b, off, rfl, hbb, g1, g2, g3⟩ := (EdsR.below HR.out hb (Nat.le_refl _)).at_ (k := k) (by rw [HL.out]; exact hlt)
      have hbs := hb.size
      have hdc := drop_cons_told es k (by rw [HL.out]; exact hlt)
      have htk0 := take_snoc_ed es k (by rw [HL.out]; exact hlt)
      generalize hE : edAt es k = E at *
      have hE1 : eS es k = E.s := by rw [← hE]; rfl
      have hE2 : eE es k = E.e := by rw [← hE]; rfl
      have hE3 : eN es k = E.n := by rw [← hE]; rfl
      rw [hE1] at g1
      rw [hE2] at g2
      rw [hE3] at g3
      have HE := Lib.hid hE; have HDC := Lib.hid hdc; have HTK0 := Lib.hid htk0
      clear hE hE1 hE2 hE3 hdc htk0
      have hbk := Blk.new wr 46 #[.int .i64 E.s, .int .i64 E.e, .string E.n]
      have HBK := Lib.hid hbk; clear hbk
      have HB := Lib.hid (hb.alloc hbs (.cells #[.int .i64 E.s, .int .i64 E.e, .string E.n] 46)); clear hb
      have hwsz : wr.heap.size < (wr.alloc (.cells #[.int .i64 E.s, .int .i64 E.e, .string E.n] 46)).heap.size := by simp
      have hin := inside_any E size (wr.alloc (.cells #[.int .i64 E.s, .int .i64 E.e, .string E.n] 46))
      cases hib : insideB E size with
      | false =>
        rw [hib] at hin
        have HIN := Lib.hid hin; have HIB := Lib.hid hib; clear hin hib
        go_wp2_with fail
        refine HIN.out.mono ?_
        rintro e w2 ⟨rfl, hb2⟩
        have HB2 := Lib.hid (HB.out.trans (hb2.mono HB.out.size)); clear hb2
        go_wp2
        go_ret
        exact ⟨ret_int (by rw [HTO.out, told_out HDC.out HIB.out]), HB2.out⟩
      | true =>
        rw [hib] at hin
        have HIN := Lib.hid hin; have HIB := Lib.hid hib; clear hin hib
        go_wp2_with fail
        refine HIN.out.mono ?_
        rintro e w2 ⟨rfl, hb2⟩
        have hbk2 := HBK.out.below hb2 hwsz
        have HB2 := Lib.hid (HB.out.trans (hb2.mono HB.out.size))
        have hs2 := hb2.size
        have hbxw : wr.heap.size < w2.heap.size := by omega
        have HBK2 := Lib.hid hbk2
        clear hb2 hbk2 HBK HB HIN hwsz hs2
        generalize hbx : wr.heap.size = bx at *
        clear hbx g1 g2 g3 hbb
        have hkc : (k : Int) ≤ (c : Int) := by omega
        have hk0 : (0 : Int) ≤ (k : Int) := by omega
        go_wp2
        go_loopg [5, 25] k (fun q t i wi => ∃ p : Nat, q = k - p ∧ p ≤ k ∧ i = .int .i64 p ∧ t = .int .i64 (oddT T es p E) ∧ (∀ l, l < p → overlapB (edAt es l) E = false) ∧ Below w2.heap.size w2 wi)
        case atStart => exact ⟨0, rfl, Nat.zero_le _, rfl, by rw [oddT_zero], fun l hl => by omega, Below.refl _ _⟩
        case round =>
          obtain ⟨p, hqp, hpk, rfl, rfl, hall, hbi⟩ := hrel
          have HQP := Lib.hid hqp; have HALL2 := Lib.hid hall; clear hqp hall
          have hbis := hbi.size
          by_cases hlt2 : p < k
          · obtain ⟨b', off', hAA, hbb', f1, f2, f3⟩ := (EdsR.below HR.out (HB2.out.trans (hbi.mono HB2.out.size)) (Nat.le_refl _)).at_ (k := p) (by rw [HL.out]; omega)
            cases hAA
            have hbk := HBK2.out.below hbi hbxw
            have HBK3 := Lib.hid hbk
            have HBI2 := Lib.hid hbi
            have b0 : wr.cell? ⟨bx, 0, none⟩ = some (.int .i64 E.s) := hbk.cell 0
            have b1 : wr.cell? ⟨bx, 1, none⟩ = some (.int .i64 E.e) := hbk.cell 1
            have b2 : wr.cell? ⟨bx, 2, none⟩ = some (.string E.n) := hbk.cell 2
            have hbxi : bx < wr.heap.size := by omega
            clear hbk hbi
            have htk := take_snoc_ed es p (by rw [HL.out]; omega)
            generalize hF : edAt es p = F at *
            have hF1 : eS es p = F.s := by rw [← hF]; rfl
            have hF2 : eE es p = F.e := by rw [← hF]; rfl
            have hF3 : eN es p = F.n := by rw [← hF]; rfl
            rw [hF1] at f1
            rw [hF2] at f2
            rw [hF3] at f3
            have HF := Lib.hid hF; have HTK := Lib.hid htk
            clear hF hF1 hF2 hF3 htk
            have hfk := Blk.new wr 46 #[.int .i64 F.s, .int .i64 F.e, .string F.n]
            have hek := HBK3.out.alloc (.cells #[.int .i64 F.s, .int .i64 F.e, .string F.n] 46)
            have HFK := Lib.hid hfk; have HEK := Lib.hid hek
            clear hfk hek
            have hov := overlap_any F E (wr.alloc (.cells #[.int .i64 F.s, .int .i64 F.e, .string F.n] 46))
            have hwsz2 : wr.heap.size < (wr.alloc (.cells #[.int .i64 F.s, .int .i64 F.e, .string F.n] 46)).heap.size := by simp
            cases hoo : overlapB F E with
            | true =>
              rw [hoo] at hov
              have HOV := Lib.hid hov; have HOO := Lib.hid hoo; clear hov hoo
              go_wp2_with fail
              refine HOV.out.mono ?_
              rintro e w4 ⟨rfl, hb4⟩
              have HB4 := Lib.hid ((HB2.out.trans (HBI2.out.mono HB2.out.size)).trans ((((Below.refl _ _).alloc (Nat.le_refl _) (.cells #[.int .i64 F.s, .int .i64 F.e, .string F.n] 46)).trans (hb4.mono (by simp))).mono (by have := HB2.out.size; omega)))
              clear hb4
              go_wp2
              go_ret
              exact ⟨ret_int (by rw [HTO.out, told_over HDC.out hlt2 (by rw [HL.out]; omega) (by rw [HF.out]; exact HOO.out)]), HB4.out⟩
            | false =>
              rw [hoo] at hov
              have HOV := Lib.hid hov; have HOO := Lib.hid hoo; clear hov hoo
              go_wp2_with fail
              refine HOV.out.mono ?_
              rintro e w4 ⟨rfl, hb4⟩
              have HB4 := Lib.hid (HBI2.out.trans ((((Below.refl _ _).alloc (Nat.le_refl _) (.cells #[.int .i64 F.s, .int .i64 F.e, .string F.n] 46)).trans (hb4.mono (by simp))).mono hbis))
              have hk1 := HFK.out.below hb4 hwsz2
              have hk2 := HEK.out.below hb4 (by simp; omega)
              have y0 : w4.cell? ⟨wr.heap.size, 0, none⟩ = some (.int .i64 F.s) := hk1.cell 0
              have y1 : w4.cell? ⟨wr.heap.size, 1, none⟩ = some (.int .i64 F.e) := hk1.cell 1
              have z0 : w4.cell? ⟨bx, 0, none⟩ = some (.int .i64 E.s) := hk2.cell 0
              have z1 : w4.cell? ⟨bx, 1, none⟩ = some (.int .i64 E.e) := hk2.cell 1
              clear hb4 hk1 hk2 b0 b1 b2 f1 f2 f3
              have hall' : ∀ l, l < p + 1 → overlapB (edAt es l) E = false := fun l hl => by
                by_cases hlp : l = p
                · subst hlp; rw [HF.out]; exact HOO.out
                · exact HALL2.out l (by omega)
              have HALL3 := Lib.hid hall'; clear hall'
              by_cases hs : F.s = E.s
              · have hb1 : (F.s == E.s) = true := by simp [hs]
                by_cases he : E.e < F.e
                · have hodd : oddB F E = true := by simp [oddB, hs, he]
                  have HODD := Lib.hid (oddT_yes (T := T) HTK.out hodd)
                  clear hodd hs
                  go_wp2
                  go_roundg (k - (p + 1))
                  case measure => have := HQP.out; omega
                  case rel => exact ⟨p + 1, rfl, by omega, by go_num, by rw [HODD.out], HALL3.out, HB4.out⟩
                · have hodd : oddB F E = false := by simp [oddB]; omega
                  have HODD := Lib.hid (oddT_no (T := T) HTK.out hodd)
                  clear hodd hs
                  go_wp2
                  go_roundg (k - (p + 1))
                  case measure => have := HQP.out; omega
                  case rel => exact ⟨p + 1, rfl, by omega, by go_num, by rw [HODD.out], HALL3.out, HB4.out⟩
              · have hb1 : (F.s == E.s) = false := by simp [hs]
                have hodd : oddB F E = false := by simp [oddB, hs]
                have HODD := Lib.hid (oddT_no (T := T) HTK.out hodd)
                clear hodd hs
                go_wp2
                go_roundg (k - (p + 1))
                case measure => have := HQP.out; omega
                case rel => exact ⟨p + 1, rfl, by omega, by go_num, by rw [HODD.out], HALL3.out, HB4.out⟩
          · obtain rfl : p = k := by omega
            have HBI2 := Lib.hid (HB2.out.trans (hbi.mono HB2.out.size)); clear hbi
            go_wp2
            go_roundg (n - (p + 1))
            case measure => have := HQ.out; omega
            case rel => exact ⟨p + 1, _, rfl, by omega, by go_num, rfl, by rw [HTO.out]; exact told_go HDC.out HTK0.out (by rw [HL.out]; omega) HIB.out HALL2.out, HBI2.out⟩
    · obtain rfl : k = n := by omega
      have HB := Lib.hid hb; clear hb
      go_wp2
      go_ret
      exact ⟨ret_int (by rw [HTO.out, List.drop_of_length_le (by rw [HL.out]; omega)]; rfl), HB.out⟩
end Go.Proofs.YtgjbagojcbondaaGreatDoor

namespace Go.Proofs.YtgjbagojcbondaaGreatDoor
set_option linter.unusedVariables false
open Go.RowKit

theorem sortE_len (es : List Ed) : (sortE es).length = es.length := by
  have := srt_len es es.length (Nat.le_refl _)
  unfold srt at this
  rwa [List.take_length] at this
/-- what the reference gives -/
def AppTo (s : ByteArray) (es : List Ed) (w : World) (e : Ending) (w' : World) : Prop :=
  e = .returned (.tuple #[.string (if toldF s.size es = 0 then patchB s 0 (sortE es) else ⟨#[]⟩), .int .i64 (toldF s.size es)]) ∧ Below w.heap.size w w'
set_option maxRecDepth 100000 in
set_option maxHeartbeats 1000000 in
theorem applyTo_any (s : ByteArray) (A : Option Addr) (c : Nat) (es : List Ed) (w : World) (hr : EdsR w A es) (hc : es.length ≤ c) (hl : es.length ≤ 20000000) (hs : s.size ≤ 2000000) (hz : szE (sortE es) ≤ 4000000) (hord : toldF s.size es = 0 → inOrderF s.size 0 (sortE es) = true) :
   Calls Tryz.prog 11 #[.string s, .slice A es.length c] w (AppTo s es w) := by
  have ht := toldOf_any A c es s.size w hr hc hl
  have hso := fun W (hW : Below w.heap.size w W) => sorted_any A c es W (EdsR.below hr hW (Nat.le_refl _)) hl
  have hsl := sortE_len es
  have HT := Lib.hid ht; have HSO := Lib.hid hso
  clear ht hso hr
  unfold AppTo
  generalize hL : sortE es = L at *
  have HLL := Lib.hid hsl
  clear hL
  obtain ⟨n, hn⟩ : ∃ n, es.length = n := ⟨_, rfl⟩
  rw [hn] at HT HSO hl hc hsl ⊢
  have LX := Lib.hid hsl
  clear hn hsl HLL
  generalize htd : toldF (s.size : Int) es = td at *
  clear htd
  by_cases h0 : td = 0
  · subst h0
    rw [if_pos rfl]
    have HIO := Lib.hid (hord rfl); clear hord
    go_enter Tryz.func11, Tryz.ntmps11
    go_wp2_with fail
    refine HT.out.mono ?_
    rintro e w1 ⟨rfl, hb1⟩
    have HB1 := Lib.hid hb1; clear hb1
    go_wp2_with fail
    refine (HSO.out _ HB1.out).mono ?_
    rintro e w2 ⟨A2, c2, rfl, ho2, hb2⟩
    have HR2 := Lib.hid (CellsR.of_own ho2); have HB2 := Lib.hid (HB1.out.trans (hb2.mono HB1.out.size))
    clear ho2 hb2
    go_wp2
    go_loopg [7, 8, 21] n (fun q v le i wr => ∃ (k at_ : Nat) (acc : ByteArray), q = n - k ∧ k ≤ n ∧ i = .int .i64 k ∧ v = .string acc ∧ le = .int .i64 at_ ∧ at_ ≤ s.size ∧ inOrderF s.size at_ (L.drop k) = true ∧ patchB s 0 L = acc ++ patchB s at_ (L.drop k) ∧ acc.size ≤ at_ + szE (L.take k) ∧ Below w2.heap.size w2 wr)
    case atStart => exact ⟨0, 0, ByteArray.empty, rfl, Nat.zero_le _, rfl, rfl, rfl, Nat.zero_le _, HIO.out, by simp, by simp, Below.refl _ _⟩
    case round =>
      obtain ⟨k, at_, acc, hq, hk, rfl, rfl, rfl, hat, hio, hpa, hsz, hb⟩ := hrel
      have HQ := Lib.hid hq; have HPA := Lib.hid hpa
      clear hq hpa
      by_cases hlt : k < n
      · obtain ⟨b, off, rfl, hbb, g1, g2, g3⟩ := (EdsR.below HR2.out hb (Nat.le_refl _)).at_ (k := k) (by rw [LX.out]; exact hlt)
        have hbs := hb.size
        have hdc := drop_cons_told L k (by rw [LX.out]; exact hlt)
        generalize hX : edAt L k = X at *
        have hX1 : eS L k = X.s := by rw [← hX]; rfl
        have hX2 : eE L k = X.e := by rw [← hX]; rfl
        have hX3 : eN L k = X.n := by rw [← hX]; rfl
        rw [hX1] at g1
        rw [hX2] at g2
        rw [hX3] at g3
        clear hX hX1 hX2
        rw [hdc] at hio
        obtain ⟨i1, i2, i3, i4, i5⟩ := inOrderF_cons hio
        have hpc := patchB_cons s at_ X (L.drop (k + 1))
        rw [← hdc] at hpc
        obtain ⟨sn, hsn⟩ : ∃ sn : Nat, X.s = sn := ⟨X.s.toNat, by omega⟩
        obtain ⟨en, hen⟩ : ∃ en : Nat, X.e = en := ⟨X.e.toNat, by omega⟩
        rw [hsn] at g1 hpc i1 i2 i4
        rw [hen] at g2 hpc i2 i3 i5
        rw [Int.toNat_natCast, Int.toNat_natCast] at hpc
        have HPC := Lib.hid hpc; have HI5 := Lib.hid i5
        clear hdc hio hpc i5 hsn hen
        generalize hM : X.n = M at *
        have hX3' : eN L k = M := by rw [hX3]
        clear hX3 hM
        clear X
        have HB := Lib.hid (hb.alloc hbs (.cells #[.int .i64 (sn : Int), .int .i64 (en : Int), .string M] 46)); clear hb
        have hbk := Blk.new wr 46 #[.int .i64 (sn : Int), .int .i64 (en : Int), .string M]
        have b0 := hbk.cell 0
        have b1 := hbk.cell 1
        have b2 := hbk.cell 2
        clear hbk
        have hex : (s.extract at_ sn).size = sn - at_ := by rw [ByteArray.size_extract]; omega
        have htk := szE_take L k (by rw [LX.out]; exact hlt)
        have hta := szE_take_le L (k + 1)
        rw [hX3'] at htk
        have hml : M.size ≤ 4000000 := by omega
        have hst : (s.extract at_ sn ++ M).size = sn - at_ + M.size := by rw [ByteArray.size_append, hex]
        have hadd1 := fun W => run_string_add_sum (P := Tryz.prog) (w := W) (s.extract at_ sn) M (by omega)
        have hadd2 := fun W => run_string_add_sum (P := Tryz.prog) (w := W) acc (s.extract at_ sn ++ M) (by omega)
        have hacc : (acc ++ (s.extract at_ sn ++ M)).size ≤ en + szE (L.take (k + 1)) := by rw [ByteArray.size_append, hst]; omega
        have HACC := Lib.hid hacc
        clear hacc hta htk hst hml hX3'
        have u0 : (sn : Int) ≤ (s.size : Int) := by omega
        go_wp2
        generalize hW0 : wr.alloc (.cells #[.int .i64 (sn : Int), .int .i64 (en : Int), .string M] 46) = W0 at *
        simp at b0 b1 b2
        clear hW0
        go_quiet (fail)
        go_wp2
        go_roundg (n - (k + 1))
        case measure => have := HQ.out; omega
        case rel => exact ⟨k + 1, en, acc ++ (s.extract at_ sn ++ M), rfl, by omega, by go_num, rfl, rfl, by omega, HI5.out, by rw [HPA.out, HPC.out]; simp only [ByteArray.append_assoc], HACC.out, below_drewN HB.out _⟩
      · obtain rfl : k = n := by omega
        have hdr : L.drop k = [] := List.drop_of_length_le (by rw [LX.out]; omega)
        rw [hdr] at HPA
        have HB := Lib.hid (HB2.out.trans (hb.mono HB2.out.size)); clear hb hio hdr
        have u1 : (at_ : Int) ≤ (s.size : Int) := by omega
        have hta := szE_take_le L k
        have hex : (s.extract at_ s.size).size = s.size - at_ := by rw [ByteArray.size_extract]; omega
        have hadd1 := fun W => run_string_add_sum (P := Tryz.prog) (w := W) acc (s.extract at_ s.size) (by omega)
        clear hta hex
        go_wp2
        go_ret2
        exact ⟨by rw [HPA.out]; rfl, HB.out⟩
  · rw [if_neg h0]
    have hne : (td != 0) = true := by simp [h0]
    go_enter Tryz.func11, Tryz.ntmps11
    go_wp2_with fail
    refine HT.out.mono ?_
    rintro e w1 ⟨rfl, hb1⟩
    have HB1 := Lib.hid hb1; clear hb1
    go_wp2
    go_ret2
    exact ⟨rfl, HB1.out⟩
end Go.Proofs.YtgjbagojcbondaaGreatDoor
