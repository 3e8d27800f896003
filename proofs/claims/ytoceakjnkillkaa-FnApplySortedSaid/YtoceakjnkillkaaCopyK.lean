/-
  The built-in copy within a row of the call's own whose elements have several cells. No condition.
-/
import Derived.Test.YtoceakjnkillkaaKit
import Derived.Laws.CopyOwn
import Derived.Deep.RegionLaw
namespace Go.Proofs.Ytoceakjnkillkaa
set_option linter.unusedVariables false
open Go.RowKit

theorem own_row {w : World} {base e size g n cap : Nat} {xs : List Value} (h : w.ownsRow base e size (.slice (some ⟨g, 0, none⟩) n cap) n xs) :
    ∃ cur : Array Value, base ≤ g ∧ w.heap[g]? = some (.cells cur e (0, 0)) ∧ n ≤ cap ∧ cap ≤ maxLen ∧ cur.size = cap * size ∧ cur.toList.take (n * size) = xs := by
  rcases h.2 with ⟨h1, _⟩ | ⟨g', cap', cur, hv, r⟩
  · cases h1
  · injection hv with h1 _ h3
    injection h1 with h1
    injection h1 with h1
    subst h1 h3
    exact ⟨cur, r⟩

theorem run_copy_own {P : Program} (w : World) (dT ty elem : TypeId) (i : TypeInfo) (size : Nat) (hu : P.underlying dT = some (.slice elem)) (hi : P.info? elem = some i) (hsize : i.size = size)
    (base e g n cap : Nat) (xs : List Value) (hown : w.ownsRow base e size (.slice (some ⟨g, 0, none⟩) n cap) n xs)
    (dp sp : Option Addr) (dLen dCap sLen sCap o1 o2 m : Nat) (hm : m = Nat.min sLen dLen)
    (hpos : 0 < m → dp = some ⟨g, o1 * size, none⟩ ∧ sp = some ⟨g, o2 * size, none⟩) (hfit1 : o1 + m ≤ n) (hfit2 : o2 + m ≤ n) (h1 : ∀ u ∈ xs, u.oneCell' = true) :
    ∃ w', (Builtin.copy_ #[dT, dT] ty #[.slice dp dLen dCap, .slice sp sLen sCap]).run P w = .ok (goInt m) w' ∧
      w'.ownsRow base e size (.slice (some ⟨g, 0, none⟩) n cap) n (xs.take (o1 * size) ++ ((xs.drop (o2 * size)).take (m * size) ++ xs.drop (o1 * size + m * size))) ∧ w.grownBy w' (some g) := by
  subst hsize
  have hlx := hown.1
  by_cases h0 : m = 0
  · subst h0
    have hl : ∀ (x : Addr), (loadCells x 0).run P w = .ok #[] w := fun x => by simpa using run_loadCells_list (P := P) w x [] (by simp)
    refine ⟨w, ?_, by simpa using hown, World.grownBy.refl w _⟩
    cases dp <;> cases sp <;> simp [Builtin.copy_, run_underlying hu, Builtin.lenOf, Builtin.firstCells, sizeOf, typeInfo, hi, ← hm, storeCells, hl]
  · obtain ⟨rfl, rfl⟩ := hpos (by omega)
    obtain ⟨cur, hb, hg, hnc, hcm, hcs, htake⟩ := own_row hown
    have hn2 : (o2 + m) * i.size ≤ n * i.size := Nat.mul_le_mul_right _ hfit2
    have hn1 : (o1 + m) * i.size ≤ n * i.size := Nat.mul_le_mul_right _ hfit1
    have hnc' : n * i.size ≤ cap * i.size := Nat.mul_le_mul_right _ hnc
    rw [Nat.add_mul] at hn1 hn2
    obtain ⟨cs, hcsd⟩ : ∃ cs, cs = (xs.drop (o2 * i.size)).take (m * i.size) := ⟨_, rfl⟩
    have hcl : cs.length = m * i.size := by rw [hcsd]; simp; omega
    have hsrc : ∀ j v, cs[j]? = some v → w.cell? ((⟨g, o2 * i.size, none⟩ : Addr).add j) = some v := by
      intro j v hv
      have hj : j < cs.length := (List.getElem?_eq_some_iff.1 hv).1
      rw [add_lit, hown.cellAt _ (by omega)]
      rw [hcsd, List.getElem?_take, if_pos (by omega), List.getElem?_drop] at hv
      exact hv
    have h1' : ∀ v ∈ cs, v.oneCell' = true := fun v hv => h1 v (by rw [hcsd] at hv; exact List.mem_of_mem_drop (List.mem_of_mem_take hv))
    have hf := run_firstCells_some (P := P) w i.size m ⟨g, o2 * i.size, none⟩ sLen sCap cs hcl hsrc
    have hst := run_storeCells_at P g (o1 * i.size) e cs 0 cur w hg (by omega) h1'
    simp only [Nat.add_zero] at hst
    refine ⟨w.setRow g (cur.toList.take (o1 * i.size) ++ cs ++ cur.toList.drop (o1 * i.size + cs.length)).toArray, ?_, ⟨?_, .inr ⟨g, cap, (cur.toList.take (o1 * i.size) ++ cs ++ cur.toList.drop (o1 * i.size + cs.length)).toArray, rfl, hb, setRow_heap w g cur _ e _ hg, hnc, hcm, ?_, ?_⟩⟩, ⟨rfl, rfl, rfl, by simp [World.setRow], fun k _ hk => setRow_other w g k _ (fun e => hk (by rw [e]))⟩⟩
    · simp [Builtin.copy_, run_underlying hu, Builtin.lenOf, sizeOf, typeInfo, hi, ← hm, hf, hst]
    · rw [← hcsd]
      simp only [List.length_append, List.length_take, List.length_drop]
      omega
    · simp only [List.size_toArray, List.length_append, List.length_take, List.length_drop, Array.length_toList]
      omega
    · rw [← hcsd, ← htake]
      simp only [List.append_assoc]
      rw [List.take_append, List.take_append, List.length_take, List.take_take, List.take_take, Array.length_toList]
      have e1 : min (o1 * i.size) cur.size = o1 * i.size := by omega
      rw [e1, List.drop_take, hcl]
      congr 1
      · congr 1
        omega
      · congr 1
        · exact List.take_of_length_le (by omega)
        · congr 1
          omega

theorem step_copy_own {P : Program} {ops : Array Oper} {o : Oper} {a : Act} {w : World} {K : Act → World → Prop} {Q : Exit → Act → World → Prop} {E : Prop} (hgd : o.guard = none) (d s : Operand) (dT : TypeId)
    (ho : o.op = .call { callee := .builtin .copy, args := #[d, s], argTypes := #[dT, dT] }) (elem : TypeId) (i : TypeInfo) (size : Nat) (hu : P.underlying dT = some (.slice elem)) (hi : P.info? elem = some i) (hsize : i.size = size)
    (base e g n cap : Nat) (xs : List Value) (hown : w.ownsRow base e size (.slice (some ⟨g, 0, none⟩) n cap) n xs)
    (dp sp : Option Addr) (dLen dCap sLen sCap : Nat) (hd : a.eval d = .slice dp dLen dCap) (hs : a.eval s = .slice sp sLen sCap) (o1 o2 m : Nat) (hm : m = Nat.min sLen dLen)
    (hpos : 0 < m → dp = some ⟨g, o1 * size, none⟩ ∧ sp = some ⟨g, o2 * size, none⟩) (hfit1 : o1 + m ≤ n) (hfit2 : o2 + m ≤ n) (h1 : ∀ u ∈ xs, u.oneCell' = true)
    (h : ∀ w', w'.ownsRow base e size (.slice (some ⟨g, 0, none⟩) n cap) n (xs.take (o1 * size) ++ ((xs.drop (o2 * size)).take (m * size) ++ xs.drop (o1 * size + m * size))) → w.grownBy w' (some g) → K (a.put o.dst (goInt m)) w') :
    if Region.wanted o (yielded ops a.tmps) = true then Oper.wp P o a w K Q else E := by
  have hw : Region.wanted o (yielded ops a.tmps) = true := by simp [Region.wanted, hgd]
  rw [if_pos hw]
  obtain ⟨w', hrun, h2, h3⟩ := run_copy_own (P := P) w dT o.type elem i size hu hi hsize base e g n cap xs hown dp sp dLen dCap sLen sCap o1 o2 m hm hpos hfit1 hfit2 h1
  unfold Oper.wp
  simp [execOp, ho, resolve, invoke, builtin, hd, hs, hrun, Result.andThen]
  exact h w' h2 h3

theorem wpList_copy_own3 {P : Program} {ops : Array Oper} {rest : List Oper} {o : Oper} {a : Act} {w : World} {Q : Exit → Act → World → Prop} (hgd : o.guard = none) (d s : Operand) (dT : TypeId)
    (ho : o.op = .call { callee := .builtin .copy, args := #[d, s], argTypes := #[dT, dT] }) (elem : TypeId) (i : TypeInfo) (size : Nat) (hu : P.underlying dT = some (.slice elem)) (hi : P.info? elem = some i) (hsize : i.size = size)
    (base e g n cap : Nat) (xs : List Value) (hown : w.ownsRow base e size (.slice (some ⟨g, 0, none⟩) n cap) n xs)
    (dp sp : Option Addr) (dLen dCap sLen sCap : Nat) (hd : a.eval d = .slice dp dLen dCap) (hs : a.eval s = .slice sp sLen sCap) (o1 o2 m : Nat) (hm : m = Nat.min sLen dLen)
    (hpos : 0 < m → dp = some ⟨g, o1 * size, none⟩ ∧ sp = some ⟨g, o2 * size, none⟩) (hfit1 : o1 + m ≤ n) (hfit2 : o2 + m ≤ n) (h1 : ∀ u ∈ xs, u.oneCell' = true)
    (h : ∀ w', w'.ownsRow base e size (.slice (some ⟨g, 0, none⟩) n cap) n (xs.take (o1 * size) ++ ((xs.drop (o2 * size)).take (m * size) ++ xs.drop (o1 * size + m * size))) → w.grownBy w' (some g) → wpList P ops Q rest (a.put o.dst (goInt m)) w') :
    wpList P ops Q (o :: rest) a w := by
  refine wpList_plain hgd fun K hK => ?_
  obtain ⟨w', hrun, h2, h3⟩ := run_copy_own (P := P) w dT o.type elem i size hu hi hsize base e g n cap xs hown dp sp dLen dCap sLen sCap o1 o2 m hm hpos hfit1 hfit2 h1
  unfold Oper.wp
  simp [execOp, ho, resolve, invoke, builtin, hd, hs, hrun, Result.andThen]
  exact hK _ _ (h w' h2 h3)
end Go.Proofs.Ytoceakjnkillkaa
