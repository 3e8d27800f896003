/-
  The methods of bytesSeqs: they keep the contract of a pair of sequences. Condition: at most a million elements each.
-/
import Derived.Test.YtgphjnhbheimiaaGreatDoorLcsW9
import Derived.Test.YtgphjnhbheimiaaGreatDoorCpl
namespace Go.Proofs.YtgphjnhbheimiaaGreatDoor
set_option linter.unusedVariables false
open Go.RowKit

/-- elements i and j are alike -/
def eqI (xs ys : List Int) : EQT := fun i j => decide (ix xs i = ix ys j)
theorem ix_sub (xs : List Int) (x X j : Nat) (h : j < X - x) : ix ((xs.drop x).take (X - x)) j = ix xs (x + j) := by
  unfold ix
  simp [List.getD, h]
theorem IntsR.sub {kd : IntKind} {w : World} {b off : Nat} {xs : List Int} (h : IntsR kd w (some ⟨b, off, none⟩) xs) (x n : Nat) : IntsR kd w (some ⟨b, off + x, none⟩) ((xs.drop x).take n) := by
  rcases h with h | ⟨b', off', hA, hc⟩
  · have hxs : xs = [] := by simpa [intCells] using h
    subst hxs
    exact .inl (by simp [intCells])
  · injection hA with hA
    injection hA with h1 h2
    subst h1 h2
    refine .inr ⟨b, off + x, rfl, fun j u hu => ?_⟩
    rw [Nat.add_assoc]
    refine hc (x + j) u ?_
    simp only [intCells, List.map_take, List.map_drop, List.getElem?_take] at hu
    split at hu
    · rw [List.getElem?_drop] at hu
      exact hu
    · cases hu
theorem cpl_lead (xs ys : List Int) (x X y Y : Nat) (h1 : X ≤ xs.length) (h2 : Y ≤ ys.length) : cpl ((xs.drop x).take (X - x)) ((ys.drop y).take (Y - y)) = lead (eqI xs ys) (min (X - x) (Y - y)) x y := by
  have hl1 : ((xs.drop x).take (X - x)).length = X - x := by simp; omega
  have hl2 : ((ys.drop y).take (Y - y)).length = Y - y := by simp; omega
  have hle := lead_le (eqI xs ys) (min (X - x) (Y - y)) x y
  refine cpl_eq _ _ _ (by omega) (by omega) (fun j hj => ?_) ?_
  · have := lead_all (eqI xs ys) _ x y j hj
    rw [ix_sub _ _ _ _ (by omega), ix_sub _ _ _ _ (by omega)]
    simpa [eqI] using this
  · by_cases h : lead (eqI xs ys) (min (X - x) (Y - y)) x y = min (X - x) (Y - y)
    · rw [hl1, hl2]; omega
    · right; right
      have := lead_next (eqI xs ys) (min (X - x) (Y - y)) x y (by omega)
      rw [ix_sub _ _ _ _ (by omega), ix_sub _ _ _ _ (by omega)]
      simpa [eqI] using this
theorem rev_eqI (xs ys : List Int) (x y k : Nat) (h1 : k < x) (h2 : x ≤ xs.length) (h3 : k < y) (h4 : y ≤ ys.length) : rev (eqI xs ys) xs.length ys.length (xs.length - x + k) (ys.length - y + k) = decide (ix xs (x - 1 - k) = ix ys (y - 1 - k)) := by
  unfold rev eqI
  rw [show xs.length - 1 - (xs.length - x + k) = x - 1 - k by omega, show ys.length - 1 - (ys.length - y + k) = y - 1 - k by omega]
theorem csl_lead (xs ys : List Int) (x y : Nat) (h1 : x ≤ xs.length) (h2 : y ≤ ys.length) : csl (xs.take x) (ys.take y) = lead (rev (eqI xs ys) xs.length ys.length) (min x y) (xs.length - x) (ys.length - y) := by
  have hl1 : (xs.take x).length = x := by simp; omega
  have hl2 : (ys.take y).length = y := by simp; omega
  have ht : ∀ (zs : List Int) (n j : Nat), j < n → ix (zs.take n) j = ix zs j := fun zs n j h => by simp [ix, List.getD, h]
  have hle := lead_le (rev (eqI xs ys) xs.length ys.length) (min x y) (xs.length - x) (ys.length - y)
  refine csl_eq _ _ _ (by omega) (by omega) (fun j hj => ?_) ?_
  · have := lead_all (rev (eqI xs ys) xs.length ys.length) _ _ _ j hj
    rw [hl1, hl2, ht _ _ _ (by omega), ht _ _ _ (by omega)]
    rw [rev_eqI xs ys x y j (by omega) h1 (by omega) h2] at this
    simpa using this
  · by_cases h : lead (rev (eqI xs ys) xs.length ys.length) (min x y) (xs.length - x) (ys.length - y) = min x y
    · rw [hl1, hl2]; omega
    · right; right
      have := lead_next (rev (eqI xs ys) xs.length ys.length) (min x y) (xs.length - x) (ys.length - y) (by omega)
      rw [hl1, hl2, ht _ _ _ (by omega), ht _ _ _ (by omega)]
      rw [rev_eqI xs ys x y _ (by omega) h1 (by omega) h2] at this
      simpa using this
theorem run_cut3 {P : Program} (t e : TypeId) (i : TypeInfo) (ht : P.underlying t = some (.slice e)) (hi : P.info? e = some i) (hs : i.size = 1) (b off n c x X : Nat) (h1 : x < X) (h2 : X ≤ c) (w : World) :
    (Instr.slice t (.slice (some ⟨b, off, none⟩) n c) (some (.int .i64 x)) (some (.int .i64 X)) (some (.int .i64 X))).run P w = .ok (.slice (some ⟨b, off + x, none⟩) (X - x) (X - x)) w := by
  have k1 : (0 : Int) ≤ (x : Int) := by omega
  have k2 : (x : Int) ≤ (X : Int) := by omega
  have k3 : (X : Int) ≤ (c : Int) := by omega
  have k4 : ¬ X = x := by omega
  have he : P.elem t = e := by unfold Program.elem; rw [ht]
  rw [run_slice_lhm w t (some ⟨b, off, none⟩) n c (by rw [he]; exact ht) .i64 .i64 .i64 (x : Int) (X : Int) (X : Int) k1 k2 (Int.le_refl _) k3]
  simp [he, sizeOf, typeInfo, hi, hs, sliced, k4, Result.andThen, add_lit]

theorem infoU : (Tryz.prog.info? 5).map (fun i => (i.zero, i.size, i.bytes)) = some (some (.int .u8 0), 1, 1) := by kernel_rfl

end Go.Proofs.YtgphjnhbheimiaaGreatDoor
