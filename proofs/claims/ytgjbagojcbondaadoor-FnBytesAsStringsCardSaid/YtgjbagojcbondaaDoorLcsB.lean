/-
  The methods of bytesSeqs: they keep the contract of a pair of sequences. Condition: at most a million elements each.
-/
import Derived.Test.YtgjbagojcbondaaDoorLcsW9
import Derived.Test.YtgjbagojcbondaaDoorCpl
namespace Go.Proofs.YtgjbagojcbondaaDoor
set_option linter.unusedVariables false
open Go.RowKit

/-- elements i and j are alike -/
def eqI (xs ys : List Int) : EQT := fun i j => decide (ix xs i = ix ys j)
theorem ix_sub (xs : List Int) (x X j : Nat) (h : j < X - x) : ix ((xs.drop x).take (X - x)) j = ix xs (x + j) := by
  unfold ix
  simp [List.getD, h]
theorem IntsR.sub {kd : IntKind} {w : World} {b off : Nat} {xs : List Int} (h : IntsR kd w (some ⟨b, off, none⟩) xs) (x n : Nat) : IntsR kd w (some ⟨b, off + x, none⟩) ((xs.drop x).take n) := by
  rcases h with h | ⟨b', off', hA, hc⟩
  · have hxs : xs = [] := by simpa [intCells] using h
    subst hxs
    exact .inl (by simp [intCells])
  · injection hA with hA
    injection hA with h1 h2
    subst h1 h2
    refine .inr ⟨b, off + x, rfl, fun j u hu => ?_⟩
    rw [Nat.add_assoc]
    refine hc (x + j) u ?_
    simp only [intCells, List.map_take, List.map_drop, List.getElem?_take] at hu
    split at hu
    · rw [List.getElem?_drop] at hu
      exact hu
    · cases hu
theorem cpl_lead (xs ys : List Int) (x X y Y : Nat) (h1 : X ≤ xs.length) (h2 : Y ≤ ys.length) : cpl ((xs.drop x).take (X - x)) ((ys.drop y).take (Y - y)) = lead (eqI xs ys) (min (X - x) (Y - y)) x y := by
  have hl1 : ((xs.drop x).take (X - x)).length = X - x := by simp; omega
  have hl2 : ((ys.drop y).take (Y - y)).length = Y - y := by simp; omega
  have hle := lead_le (eqI xs ys) (min (X - x) (Y - y)) x y
  refine cpl_eq _ _ _ (by omega) (by omega) (fun j hj => ?_) ?_
  · have := lead_all (eqI xs ys) _ x y j hj
    rw [ix_sub _ _ _ _ (by omega), ix_sub _ _ _ _ (by omega)]
    simpa [eqI] using this
  · by_cases h : lead (eqI xs ys) (min (X - x) (Y - y)) x y = min (X - x) (Y - y)
    · rw [hl1, hl2]; omega
    · right; right
      have := lead_next (eqI xs ys) (min (X - x) (Y - y)) x y (by omega)
      rw [ix_sub _ _ _ _ (by omega), ix_sub _ _ _ _ (by omega)]
      simpa [eqI] using this
theorem rev_eqI (xs ys : List Int) (x y k : Nat) (h1 : k < x) (h2 : x ≤ xs.length) (h3 : k < y) (h4 : y ≤ ys.length) : rev (eqI xs ys) xs.length ys.length (xs.length - x + k) (ys.length - y + k) = decide (ix xs (x - 1 - k) = ix ys (y - 1 - k)) := by
  unfold rev eqI
  rw [show xs.length - 1 - (xs.length - x + k) = x - 1 - k by omega, show ys.length - 1 - (ys.length - y + k) = y - 1 - k by omega]
theorem csl_lead (xs ys : List Int) (x y : Nat) (h1 : x ≤ xs.length) (h2 : y ≤ ys.length) : csl (xs.take x) (ys.take y) = lead (rev (eqI xs ys) xs.length ys.length) (min x y) (xs.length - x) (ys.length - y) := by
  have hl1 : (xs.take x).length = x := by simp; omega
  have hl2 : (ys.take y).length = y := by simp; omega
  have ht : ∀ (zs : List Int) (n j : Nat), j < n → ix (zs.take n) j = ix zs j := fun zs n j h => by simp [ix, List.getD, h]
  have hle := lead_le (rev (eqI xs ys) xs.length ys.length) (min x y) (xs.length - x) (ys.length - y)
  refine csl_eq _ _ _ (by omega) (by omega) (fun j hj => ?_) ?_
  · have := lead_all (rev (eqI xs ys) xs.length ys.length) _ _ _ j hj
    rw [hl1, hl2, ht _ _ _ (by omega), ht _ _ _ (by omega)]
    rw [rev_eqI xs ys x y j (by omega) h1 (by omega) h2] at this
    simpa using this
  · by_cases h : lead (rev (eqI xs ys) xs.length ys.length) (min x y) (xs.length - x) (ys.length - y) = min x y
    · rw [hl1, hl2]; omega
    · right; right
      have := lead_next (rev (eqI xs ys) xs.length ys.length) (min x y) (xs.length - x) (ys.length - y) (by omega)
      rw [hl1, hl2, ht _ _ _ (by omega), ht _ _ _ (by omega)]
      rw [rev_eqI xs ys x y _ (by omega) h1 (by omega) h2] at this
      simpa using this
theorem run_cut3 {P : Program} (t e : TypeId) (i : TypeInfo) (ht : P.underlying t = some (.slice e)) (hi : P.info? e = some i) (hs : i.size = 1) (b off n c x X : Nat) (h1 : x < X) (h2 : X ≤ c) (w : World) :
    (Instr.slice t (.slice (some ⟨b, off, none⟩) n c) (some (.int .i64 x)) (some (.int .i64 X)) (some (.int .i64 X))).run P w = .ok (.slice (some ⟨b, off + x, none⟩) (X - x) (X - x)) w := by
  have k1 : (0 : Int) ≤ (x : Int) := by omega
  have k2 : (x : Int) ≤ (X : Int) := by omega
  have k3 : (X : Int) ≤ (c : Int) := by omega
  have k4 : ¬ X = x := by omega
  have he : P.elem t = e := by unfold Program.elem; rw [ht]
  rw [run_slice_lhm w t (some ⟨b, off, none⟩) n c (by rw [he]; exact ht) .i64 .i64 .i64 (x : Int) (X : Int) (X : Int) k1 k2 (Int.le_refl _) k3]
  simp [he, sizeOf, typeInfo, hi, hs, sliced, k4, Result.andThen, add_lit]

theorem infoU : (Tryd.prog.info? 5).map (fun i => (i.zero, i.size, i.bytes)) = some (some (.int .u8 0), 1, 1) := by kernel_rfl

set_option maxRecDepth 100000 in
set_option maxHeartbeats 400000 in
theorem bytesLen_any (w : World) (A C : Option Addr) (n c m d : Nat) :
    Calls Tryd.prog 104 #[.agg #[.slice A n c, .slice C m d]] w fun e w' => e = .returned (.tuple #[.int .i64 n, .int .i64 m]) ∧ Below w.heap.size w w' := by
  go_enter Tryd.func104, Tryd.ntmps104
  go_wp2
  go_quiet (fail)
  go_wp2
  go_ret2
  exact ⟨rfl, below_drewN ((Below.refl _ _).alloc (Nat.le_refl _) _) _⟩

set_option maxRecDepth 100000 in
set_option maxHeartbeats 1000000 in
theorem bytesPre_any (w : World) (A C : Option Addr) (c d : Nat) (xs ys : List Int) (hx : IntsR .u8 w A xs) (hy : IntsR .u8 w C ys) (hc : xs.length ≤ c) (hd : ys.length ≤ d) (hl : xs.length ≤ 1000001) (hm : ys.length ≤ 1000001) (x X y Y : Nat) (h1 : x < X) (h2 : X ≤ xs.length) (h3 : y < Y) (h4 : Y ≤ ys.length) :
    Calls Tryd.prog 102 #[.agg #[.slice A xs.length c, .slice C ys.length d], .int .i64 x, .int .i64 X, .int .i64 y, .int .i64 Y] w fun e w' => e = .returned (.int .i64 (lead (eqI xs ys) (min (X - x) (Y - y)) x y : Nat)) ∧ Below w.heap.size w w' := by
  obtain ⟨i0, hi, hz0, hz1, hz2⟩ := info_parts infoU
  obtain ⟨b, off, rfl, hb, _⟩ := hx.at_ (k := x) (by omega)
  obtain ⟨b', off', rfl, hb', _⟩ := hy.at_ (k := y) (by omega)
  have hcut := fun w => run_cut3 (P := Tryd.prog) 34 5 i0 Tryd.underlying34 hi hz1 b off xs.length c x X h1 (by omega) w
  have hcut' := fun w => run_cut3 (P := Tryd.prog) 34 5 i0 Tryd.underlying34 hi hz1 b' off' ys.length d y Y h3 (by omega) w
  have hl1 : ((xs.drop x).take (X - x)).length = X - x := by simp; omega
  have hl2 : ((ys.drop y).take (Y - y)).length = Y - y := by simp; omega
  have hcall := fun W (hW : Below w.heap.size w W) => cplB_any (some ⟨b, off + x, none⟩) (some ⟨b', off' + y, none⟩) (X - x) (Y - y) _ _ W ((IntsR.below hx hW (Nat.le_refl _)).sub x (X - x)) ((IntsR.below hy hW (Nat.le_refl _)).sub y (Y - y)) (by rw [hl1]; unfold maxLen; omega) (by rw [hl2]; unfold maxLen; omega)
  rw [hl1, hl2, cpl_lead xs ys x X y Y h2 h4] at hcall
  have HC := Lib.hid hcall; clear hcall hx hy hl1 hl2
  generalize xs.length = n at *
  generalize ys.length = m at *
  go_enter Tryd.func102, Tryd.ntmps102
  go_wp2
  go_quiet ((go_at_call 105; exact Calls.quiet_of (HC.out _ (by first | exact ((Below.refl _ _).alloc (Nat.le_refl _) _).drew | exact below_drewN ((Below.refl _ _).alloc (Nat.le_refl _) _) _))))
  go_wp2
  go_ret
  exact ⟨rfl, below_drewN ((Below.refl _ _).alloc (Nat.le_refl _) _) _⟩

set_option maxRecDepth 100000 in
set_option maxHeartbeats 1000000 in
theorem bytesSuf_any (w : World) (A C : Option Addr) (c d : Nat) (xs ys : List Int) (hx : IntsR .u8 w A xs) (hy : IntsR .u8 w C ys) (hc : xs.length ≤ c) (hd : ys.length ≤ d) (hl : xs.length ≤ 1000001) (hm : ys.length ≤ 1000001) (x y : Nat) (h1 : 0 < x) (h2 : x ≤ xs.length) (h3 : 0 < y) (h4 : y ≤ ys.length) :
    Calls Tryd.prog 103 #[.agg #[.slice A xs.length c, .slice C ys.length d], .int .i64 0, .int .i64 x, .int .i64 0, .int .i64 y] w fun e w' => e = .returned (.int .i64 (lead (rev (eqI xs ys) xs.length ys.length) (min x y) (xs.length - x) (ys.length - y) : Nat)) ∧ Below w.heap.size w w' := by
  obtain ⟨i0, hi, hz0, hz1, hz2⟩ := info_parts infoU
  obtain ⟨b, off, rfl, hb, _⟩ := hx.at_ (k := 0) (by omega)
  obtain ⟨b', off', rfl, hb', _⟩ := hy.at_ (k := 0) (by omega)
  have hcut : ∀ w, (Instr.slice 34 (.slice (some ⟨b, off, none⟩) xs.length c) (some (.int .i64 0)) (some (.int .i64 x)) (some (.int .i64 x))).run Tryd.prog w = .ok (.slice (some ⟨b, off, none⟩) x x) w := fun w => run_cut3 (P := Tryd.prog) 34 5 i0 Tryd.underlying34 hi hz1 b off xs.length c 0 x h1 (by omega) w
  have hcut' : ∀ w, (Instr.slice 34 (.slice (some ⟨b', off', none⟩) ys.length d) (some (.int .i64 0)) (some (.int .i64 y)) (some (.int .i64 y))).run Tryd.prog w = .ok (.slice (some ⟨b', off', none⟩) y y) w := fun w => run_cut3 (P := Tryd.prog) 34 5 i0 Tryd.underlying34 hi hz1 b' off' ys.length d 0 y h3 (by omega) w
  have hl1 : ((xs.drop 0).take x).length = x := by simp; omega
  have hl2 : ((ys.drop 0).take y).length = y := by simp; omega
  have hcall := fun W (hW : Below w.heap.size w W) => cslB_any (some ⟨b, off, none⟩) (some ⟨b', off', none⟩) x y _ _ W ((IntsR.below hx hW (Nat.le_refl _)).sub 0 x) ((IntsR.below hy hW (Nat.le_refl _)).sub 0 y) (by rw [hl1]; unfold maxLen; omega) (by rw [hl2]; unfold maxLen; omega)
  rw [hl1, hl2, List.drop_zero, List.drop_zero, csl_lead xs ys x y h2 h4] at hcall
  have HC := Lib.hid hcall; clear hcall hx hy hl1 hl2
  generalize xs.length = n at *
  generalize ys.length = m at *
  go_enter Tryd.func103, Tryd.ntmps103
  go_wp2
  go_quiet ((go_at_call 106; exact Calls.quiet_of (HC.out _ (by first | exact ((Below.refl _ _).alloc (Nat.le_refl _) _).drew | exact below_drewN ((Below.refl _ _).alloc (Nat.le_refl _) _) _))))
  go_wp2
  go_ret
  exact ⟨rfl, below_drewN ((Below.refl _ _).alloc (Nat.le_refl _) _) _⟩

/-- a pair of sequences of bytes keeps the contract -/
theorem bytes_seq {w : World} {A C : Option Addr} {c d : Nat} {xs ys : List Int} (hx : IntsR .u8 w A xs) (hy : IntsR .u8 w C ys) (hc : xs.length ≤ c) (hd : ys.length ≤ d) (hl : xs.length ≤ 1000001) (hm : ys.length ≤ 1000001) :
    SeqC w w.heap.size 55 (.agg #[.slice A xs.length c, .slice C ys.length d]) 102 103 (eqI xs ys) xs.length ys.length where
  mP := fun _ => by kernel_rfl
  mS := fun _ => by kernel_rfl
  eP := enters_of Tryd.func102 (by kernel_rfl) rfl
  eS := enters_of Tryd.func103 (by kernel_rfl) rfl
  cP := fun W hW x X y Y h1 h2 h3 h4 => bytesPre_any W A C c d xs ys (IntsR.below hx hW (Nat.le_refl _)) (IntsR.below hy hW (Nat.le_refl _)) hc hd hl hm x X y Y h1 h2 h3 h4
  cS := fun W hW x y h1 h2 h3 h4 => bytesSuf_any W A C c d xs ys (IntsR.below hx hW (Nat.le_refl _)) (IntsR.below hy hW (Nat.le_refl _)) hc hd hl hm x y h1 h2 h3 h4
  nA := hl
  nM := hm
theorem bytes_len (p : Value) : ∀ w, Sem.run Tryd.prog (method 253 55 p ("loop.example" ++ String.singleton (Char.ofNat 47) ++ "pub-g01452" ++ String.singleton (Char.ofNat 47) ++ "pub" ++ String.singleton (Char.ofNat 47) ++ "xdiff_lcs." ++ "lengths")) w = .ok (104, p) w := fun _ => by kernel_rfl
end Go.Proofs.YtgjbagojcbondaaDoor
