/-
  lcs.diff and the functions of differences of bytes, code points, texts, over compute's answer. Condition: at most a million elements each.
  The methods of runesSeqs: they keep the contract of a pair of sequences. Condition: at most a million elements each.
  What the functions of differences give: the contracts of the road from both ends put in. Condition: at most a million elements each.
  The methods of linesSeqs: they keep the contract of a pair of sequences. Condition: at most a million elements each.
  What DiffLines gives, under any relation that says where the texts are alike. Condition: at most a million and one each.
-/
import Derived.Test.YtgphjnhbheimiaaGreatDoorLcsI
import Derived.Test.YtgphjnhbheimiaaGreatDoorLcsT3
import Derived.Test.YtgphjnhbheimiaaGreatDoorLcsB
import Derived.Test.YtgphjnhbheimiaaGreatDoorLcsY
import Derived.Test.YtgphjnhbheimiaaGreatDoorLcsZ
import Derived.Test.YtgphjnhbheimiaaGreatDoorTxB
namespace Go.Proofs.YtgphjnhbheimiaaGreatDoor
set_option linter.unusedVariables false
open Go.RowKit

/-- what a function of differences gives -/
def DOut (E : EQT) (N M : Nat) (Q : List Pc → Prop) (t : TypeId) (w : World) (e : Ending) (w' : World) : Prop :=
  ∃ ps A c, e = .returned (.slice A (diffsFrom N M 0 0 ps).length c) ∧ w'.ownsRow w.heap.size t 4 (.slice A (diffsFrom N M 0 0 ps).length c) (diffsFrom N M 0 0 ps).length (dfCells (diffsFrom N M 0 0 ps)) ∧ Below w.heap.size w w' ∧ Ch E 0 0 ps N M ∧ Q ps
set_option maxRecDepth 100000 in
set_option maxHeartbeats 400000 in
theorem diff_any {w : World} {N M : Nat} {E : EQT} {Q : List Pc → Prop} {T : TypeId} {rv : Value} (hc : Calls Tryz.prog 35 #[.iface T rv, .func (.func 36) #[] #[], .int .i64 50] w (CompOut E N M Q w)) :
    Calls Tryz.prog 27 #[.iface T rv] w (DOut E N M Q 54 w) := by
  have HC := Lib.hid hc; clear hc
  go_enter Tryz.func27, Tryz.ntmps27
  go_wp2_with (fail)
  refine HC.out.mono ?_
  rintro e w1 ⟨ps, A1, c1, v, rfl, ho1, ho2, hb1, hch, hq⟩
  have HO := Lib.hid ho1; have HB := Lib.hid hb1; have HCH := Lib.hid hch; have HQ := Lib.hid hq
  clear ho1 ho2 hb1 hch hq
  go_wp2
  go_ret
  exact ⟨ps, A1, c1, rfl, HO.out, HB.out, HCH.out, HQ.out⟩
set_option maxRecDepth 100000 in
set_option maxHeartbeats 400000 in
theorem lLines_any {w : World} {N M c d : Nat} {A C : Option Addr} {E : EQT} {Q : List Pc → Prop} (hc : Calls Tryz.prog 35 #[.iface 77 (.agg #[.slice A N c, .slice C M d]), .func (.func 36) #[] #[], .int .i64 50] w (CompOut E N M Q w)) :
    Calls Tryz.prog 18 #[.slice A N c, .slice C M d] w (DOut E N M Q 54 w) := by
  have HD := Lib.hid (diff_any hc); clear hc
  go_enter Tryz.func18, Tryz.ntmps18
  go_wp2_with (fail)
  refine HD.out.mono ?_
  rintro e w1 ⟨ps, A1, c1, rfl, ho1, hb1, hch, hq⟩
  have HO := Lib.hid ho1; have HB := Lib.hid hb1; have HCH := Lib.hid hch; have HQ := Lib.hid hq
  clear ho1 hb1 hch hq
  go_wp2
  go_ret
  exact ⟨ps, A1, c1, rfl, HO.out, HB.out, HCH.out, HQ.out⟩
end Go.Proofs.YtgphjnhbheimiaaGreatDoor

namespace Go.Proofs.YtgphjnhbheimiaaGreatDoor
set_option linter.unusedVariables false
open Go.RowKit

end Go.Proofs.YtgphjnhbheimiaaGreatDoor

namespace Go.Proofs.YtgphjnhbheimiaaGreatDoor
set_option linter.unusedVariables false
open Go.RowKit

end Go.Proofs.YtgphjnhbheimiaaGreatDoor

namespace Go.Proofs.YtgphjnhbheimiaaGreatDoor
set_option linter.unusedVariables false
open Go.RowKit

/-- texts i and j are alike -/
def eqS (xs ys : List ByteArray) : EQT := fun i j => decide (sx xs i = sx ys j)
theorem sx_sub (xs : List ByteArray) (x X j : Nat) (h : j < X) : sx ((xs.drop x).take X) j = sx xs (x + j) := by
  unfold sx
  simp [List.getD, h]
theorem StrsR.sub {w : World} {b off : Nat} {xs : List ByteArray} (h : StrsR w (some ⟨b, off, none⟩) xs) (x n : Nat) : StrsR w (some ⟨b, off + x, none⟩) ((xs.drop x).take n) := by
  rcases h with h | ⟨b', off', hA, hc⟩
  · have hxs : xs = [] := by simpa [strCells] using h
    subst hxs
    exact .inl (by simp [strCells])
  · injection hA with hA
    injection hA with h1 h2
    subst h1 h2
    refine .inr ⟨b, off + x, rfl, fun j u hu => ?_⟩
    rw [Nat.add_assoc]
    refine hc (x + j) u ?_
    simp only [strCells, List.map_take, List.map_drop, List.getElem?_take] at hu
    split at hu
    · rw [List.getElem?_drop] at hu
      exact hu
    · cases hu
theorem cplS_lead (xs ys : List ByteArray) (x X y Y : Nat) (h1 : X ≤ xs.length) (h2 : Y ≤ ys.length) : lead (eqS ((xs.drop x).take (X - x)) ((ys.drop y).take (Y - y))) (min (X - x) (Y - y)) 0 0 = lead (eqS xs ys) (min (X - x) (Y - y)) x y := by
  have hle := lead_le (eqS xs ys) (min (X - x) (Y - y)) x y
  have hs : ∀ i, i < min (X - x) (Y - y) → eqS ((xs.drop x).take (X - x)) ((ys.drop y).take (Y - y)) (0 + i) (0 + i) = eqS xs ys (x + i) (y + i) := fun i hi => by
    simp only [Nat.zero_add, eqS]; rw [sx_sub _ _ _ _ (by omega), sx_sub _ _ _ _ (by omega)]
  refine lead_eq _ _ _ _ _ hle (fun i hi => ?_) ?_
  · rw [hs i (by omega)]; exact lead_all _ _ _ _ i hi
  · rcases Nat.lt_or_ge (lead (eqS xs ys) (min (X - x) (Y - y)) x y) (min (X - x) (Y - y)) with h | h
    · right; rw [hs _ h]; exact lead_next _ _ _ _ h
    · left; omega
theorem cslS_lead (xs ys : List ByteArray) (x y : Nat) (h1 : x ≤ xs.length) (h2 : y ≤ ys.length) : lead (rev (eqS (xs.take x) (ys.take y)) x y) (min x y) 0 0 = lead (rev (eqS xs ys) xs.length ys.length) (min x y) (xs.length - x) (ys.length - y) := by
  have hle := lead_le (rev (eqS xs ys) xs.length ys.length) (min x y) (xs.length - x) (ys.length - y)
  have hs : ∀ i, i < min x y → rev (eqS (xs.take x) (ys.take y)) x y (0 + i) (0 + i) = rev (eqS xs ys) xs.length ys.length (xs.length - x + i) (ys.length - y + i) := fun i hi => by
    simp only [Nat.zero_add, rev, eqS]
    have e1 := sx_sub xs 0 x (x - 1 - i) (by omega)
    have e2 := sx_sub ys 0 y (y - 1 - i) (by omega)
    simp only [List.drop_zero, Nat.zero_add] at e1 e2
    rw [e1, e2, show xs.length - 1 - (xs.length - x + i) = x - 1 - i by omega, show ys.length - 1 - (ys.length - y + i) = y - 1 - i by omega]
  refine lead_eq _ _ _ _ _ hle (fun i hi => ?_) ?_
  · rw [hs i (by omega)]; exact lead_all _ _ _ _ i hi
  · rcases Nat.lt_or_ge (lead (rev (eqS xs ys) xs.length ys.length) (min x y) (xs.length - x) (ys.length - y)) (min x y) with h | h
    · right; rw [hs _ h]; exact lead_next _ _ _ _ h
    · left; omega
theorem run_cut2 {P : Program} (t e : TypeId) (i : TypeInfo) (ht : P.underlying t = some (.slice e)) (hi : P.info? e = some i) (hs : i.size = 1) (b off n c x X : Nat) (h1 : x < X) (h2 : X ≤ n) (h3 : n ≤ c) (w : World) :
    (Instr.slice t (.slice (some ⟨b, off, none⟩) n c) (some (.int .i64 x)) (some (.int .i64 X)) none).run P w = .ok (.slice (some ⟨b, off + x, none⟩) (X - x) (c - x)) w := by
  have k1 : (0 : Int) ≤ (x : Int) := by omega
  have k2 : (x : Int) ≤ (X : Int) := by omega
  have k3 : (X : Int) ≤ (c : Int) := by omega
  have k4 : ¬ c = x := by omega
  have he : P.elem t = e := by unfold Program.elem; rw [ht]
  rw [run_slice_lh w t (some ⟨b, off, none⟩) n c (by rw [he]; exact ht) .i64 .i64 (x : Int) (X : Int) k1 k2 k3]
  simp [he, sizeOf, typeInfo, hi, hs, sliced, k4, Result.andThen, add_lit]

set_option maxHeartbeats 400000 in
theorem cplS_any (A B : Option Addr) (c d : Nat) (xs ys : List ByteArray) (w : World) (hx : StrsR w A xs) (hy : StrsR w B ys) (hl : xs.length ≤ maxLen) (hm : ys.length ≤ maxLen) :
   Calls Tryz.prog 147 #[.slice A xs.length c, .slice B ys.length d] w fun e w' => e = .returned (.int .i64 (lead (eqS xs ys) (min xs.length ys.length) 0 0 : Nat)) ∧ ∃ n, w' = w.drewN n := by
  unfold maxLen at hl hm
  have HX := Lib.hid hx; clear hx
  have HY := Lib.hid hy; clear hy
  obtain ⟨l, hln⟩ : ∃ n, xs.length = n := ⟨_, rfl⟩
  obtain ⟨m, hlm⟩ : ∃ n, ys.length = n := ⟨_, rfl⟩
  rw [hln] at hl ⊢
  rw [hlm] at hm ⊢
  have LX := Lib.hid hln; clear hln
  have LY := Lib.hid hlm; clear hlm
  obtain ⟨n, hn⟩ : ∃ n, n = min l m := ⟨_, rfl⟩
  have hn0 : n ≤ l := by omega
  have hn1 : n ≤ m := by omega
  have HN := Lib.hid hn; clear hn
  have hmin := fun w => run_min2 (P := Tryz.prog) w 3 l m n HN.out
  go_enter Tryz.func147, Tryz.ntmps147
  go_wp2
  go_loopw [6] (fun i wr => ∃ k nq : Nat, k ≤ n ∧ i = .int .i64 k ∧ (∀ j, j < k → sx xs j = sx ys j) ∧ wr = w.drewN nq) (fun i _ => n - (intOf i).toNat)
  case atStart => exact ⟨0, 0, by omega, rfl, by intro j hj; omega, rfl⟩
  case round =>
    obtain ⟨k, nq, hk, rfl, hall, rfl⟩ := hrel
    have HA := Lib.hid hall; clear hall
    by_cases hlt : k < n
    · have hd : decide ((k : Int) < (n : Int)) = true := by simp; omega
      obtain ⟨b0, o0, rfl, _, g0⟩ := HX.out.at_ (k := k) (by rw [LX.out]; omega)
      obtain ⟨b1, o1, rfl, _, g1⟩ := HY.out.at_ (k := k) (by rw [LY.out]; omega)
      by_cases he : sx xs k = sx ys k
      · have he' : ((sx xs k).toList == (sx ys k).toList) = true := strEq_true he
        have HE := Lib.hid he; clear he
        go_wp2
        go_quiet (fail)
        go_wp2
        go_roundw
        case rel => exact ⟨k + 1, _, by omega, by go_num, fun j hj => by
            by_cases hjk : j = k
            · subst hjk; exact HE.out
            · exact HA.out j (by omega), rfl⟩
        case measure => simp [intOf]; omega
      · have he' : ((sx xs k).toList == (sx ys k).toList) = false := strEq_false he
        have HE := Lib.hid he; clear he
        go_wp2
        go_quiet (fail)
        go_wp2
        go_ret
        exact ⟨ret_int (by rw [lead_eq (eqS xs ys) (min l m) 0 0 k (by omega) (fun j hj => by simp only [Nat.zero_add, eqS]; exact decide_eq_true (HA.out j hj)) (.inr (by simp only [Nat.zero_add, eqS]; exact decide_eq_false HE.out))]), _, World.drewN_drewN _ _ _⟩
    · have hd : decide ((k : Int) < (n : Int)) = false := by simp; omega
      go_wp2
      go_quiet (fail)
      go_wp2
      go_ret
      exact ⟨ret_int (by rw [lead_eq (eqS xs ys) (min l m) 0 0 k (by omega) (fun j hj => by simp only [Nat.zero_add, eqS]; exact decide_eq_true (HA.out j hj)) (.inl (by have := HN.out; omega))]), _, World.drewN_drewN _ _ _⟩

set_option maxHeartbeats 400000 in
theorem cslS_any (A B : Option Addr) (c d : Nat) (xs ys : List ByteArray) (w : World) (hx : StrsR w A xs) (hy : StrsR w B ys) (hl : xs.length ≤ maxLen) (hm : ys.length ≤ maxLen) :
   Calls Tryz.prog 148 #[.slice A xs.length c, .slice B ys.length d] w fun e w' => e = .returned (.int .i64 (lead (rev (eqS xs ys) xs.length ys.length) (min xs.length ys.length) 0 0 : Nat)) ∧ ∃ n, w' = w.drewN n := by
  unfold maxLen at hl hm
  have HX := Lib.hid hx; clear hx
  have HY := Lib.hid hy; clear hy
  obtain ⟨l, hln⟩ : ∃ n, xs.length = n := ⟨_, rfl⟩
  obtain ⟨m, hlm⟩ : ∃ n, ys.length = n := ⟨_, rfl⟩
  rw [hln] at hl ⊢
  rw [hlm] at hm ⊢
  have LX := Lib.hid hln; clear hln
  have LY := Lib.hid hlm; clear hlm
  obtain ⟨n, hn⟩ : ∃ n, n = min l m := ⟨_, rfl⟩
  have hn0 : n ≤ l := by omega
  have hn1 : n ≤ m := by omega
  have HN := Lib.hid hn; clear hn
  have hmin := fun w => run_min2 (P := Tryz.prog) w 3 l m n HN.out
  go_enter Tryz.func148, Tryz.ntmps148
  go_wp2
  go_loopw [6] (fun i wr => ∃ k nq : Nat, k ≤ n ∧ i = .int .i64 k ∧ (∀ j, j < k → sx xs (l - 1 - j) = sx ys (m - 1 - j)) ∧ wr = w.drewN nq) (fun i _ => n - (intOf i).toNat)
  case atStart => exact ⟨0, 0, by omega, rfl, by intro j hj; omega, rfl⟩
  case round =>
    obtain ⟨k, nq, hk, rfl, hall, rfl⟩ := hrel
    have HA := Lib.hid hall; clear hall
    by_cases hlt : k < n
    · have hd : decide ((k : Int) < (n : Int)) = true := by simp; omega
      obtain ⟨b0, o0, rfl, _, g0⟩ := HX.out.at_ (k := l - 1 - k) (by rw [LX.out]; omega)
      obtain ⟨b1, o1, rfl, _, g1⟩ := HY.out.at_ (k := m - 1 - k) (by rw [LY.out]; omega)
      obtain ⟨p, hp⟩ : ∃ p, l = p + 1 + k := ⟨l - 1 - k, by omega⟩
      obtain ⟨q, hq⟩ : ∃ q, m = q + 1 + k := ⟨m - 1 - k, by omega⟩
      have ep : l - 1 - k = p := by omega
      have eq : m - 1 - k = q := by omega
      rw [ep] at g0
      rw [eq] at g1
      have EP := Lib.hid ep; clear ep
      have EQ := Lib.hid eq; clear eq
      have t0 : ((l : Int) - 1 - k).toNat = p := by omega
      have t1 : ((m : Int) - 1 - k).toNat = q := by omega
      have HP := Lib.hid hp; clear hp
      have HQ := Lib.hid hq; clear hq
      by_cases he : sx xs p = sx ys q
      · have he' : ((sx xs p).toList == (sx ys q).toList) = true := strEq_true he
        have HE := Lib.hid he; clear he
        go_wp2
        go_quiet (fail)
        go_wp2
        go_roundw
        case rel => exact ⟨k + 1, _, by omega, by go_num, fun j hj => by
            by_cases hjk : j = k
            · subst hjk; rw [EP.out, EQ.out]; exact HE.out
            · exact HA.out j (by omega), rfl⟩
        case measure => simp [intOf]; omega
      · have he' : ((sx xs p).toList == (sx ys q).toList) = false := strEq_false he
        have HE := Lib.hid he; clear he
        go_wp2
        go_quiet (fail)
        go_wp2
        go_ret
        exact ⟨ret_int (by rw [lead_eq (rev (eqS xs ys) l m) (min l m) 0 0 k (by omega) (fun j hj => by simp only [Nat.zero_add, rev, eqS]; exact decide_eq_true (HA.out j hj)) (.inr (by simp only [Nat.zero_add, rev, eqS]; rw [EP.out, EQ.out]; exact decide_eq_false HE.out))]), _, World.drewN_drewN _ _ _⟩
    · have hd : decide ((k : Int) < (n : Int)) = false := by simp; omega
      go_wp2
      go_quiet (fail)
      go_wp2
      go_ret
      exact ⟨ret_int (by rw [lead_eq (rev (eqS xs ys) l m) (min l m) 0 0 k (by omega) (fun j hj => by simp only [Nat.zero_add, rev, eqS]; exact decide_eq_true (HA.out j hj)) (.inl (by have := HN.out; omega))]), _, World.drewN_drewN _ _ _⟩

theorem infoT : (Tryz.prog.info? 9).map (fun i => (i.zero, i.size, i.bytes)) = some (some (.string ⟨#[]⟩), 1, 16) := by kernel_rfl

set_option maxRecDepth 100000 in
set_option maxHeartbeats 400000 in
theorem linesLen_any (w : World) (A C : Option Addr) (n c m d : Nat) :
    Calls Tryz.prog 146 #[.agg #[.slice A n c, .slice C m d]] w fun e w' => e = .returned (.tuple #[.int .i64 n, .int .i64 m]) ∧ Below w.heap.size w w' := by
  go_enter Tryz.func146, Tryz.ntmps146
  go_wp2
  go_quiet (fail)
  go_wp2
  go_ret2
  exact ⟨rfl, below_drewN ((Below.refl _ _).alloc (Nat.le_refl _) _) _⟩

set_option maxRecDepth 100000 in
set_option maxHeartbeats 1000000 in
theorem linesPre_any (w : World) (A C : Option Addr) (c d : Nat) (xs ys : List ByteArray) (hx : StrsR w A xs) (hy : StrsR w C ys) (hc : xs.length ≤ c) (hd : ys.length ≤ d) (hl : xs.length ≤ 1000001) (hm : ys.length ≤ 1000001) (x X y Y : Nat) (h1 : x < X) (h2 : X ≤ xs.length) (h3 : y < Y) (h4 : Y ≤ ys.length) :
    Calls Tryz.prog 144 #[.agg #[.slice A xs.length c, .slice C ys.length d], .int .i64 x, .int .i64 X, .int .i64 y, .int .i64 Y] w fun e w' => e = .returned (.int .i64 (lead (eqS xs ys) (min (X - x) (Y - y)) x y : Nat)) ∧ Below w.heap.size w w' := by
  obtain ⟨i0, hi, hz0, hz1, hz2⟩ := info_parts infoT
  obtain ⟨b, off, rfl, hb, _⟩ := hx.at_ (k := x) (by omega)
  obtain ⟨b', off', rfl, hb', _⟩ := hy.at_ (k := y) (by omega)
  have hcut := fun w => run_cut2 (P := Tryz.prog) 48 9 i0 Tryz.underlying48 hi hz1 b off xs.length c x X h1 (by omega) (by omega) w
  have hcut' := fun w => run_cut2 (P := Tryz.prog) 48 9 i0 Tryz.underlying48 hi hz1 b' off' ys.length d y Y h3 (by omega) (by omega) w
  have hl1 : ((xs.drop x).take (X - x)).length = X - x := by simp; omega
  have hl2 : ((ys.drop y).take (Y - y)).length = Y - y := by simp; omega
  have hcall := fun W (hW : Below w.heap.size w W) => cplS_any (some ⟨b, off + x, none⟩) (some ⟨b', off' + y, none⟩) (c - x) (d - y) _ _ W ((StrsR.below hx hW (Nat.le_refl _)).sub x (X - x)) ((StrsR.below hy hW (Nat.le_refl _)).sub y (Y - y)) (by rw [hl1]; unfold maxLen; omega) (by rw [hl2]; unfold maxLen; omega)
  rw [hl1, hl2, cplS_lead xs ys x X y Y h2 h4] at hcall
  have HC := Lib.hid hcall; clear hcall hx hy hl1 hl2
  generalize xs.length = n at *
  generalize ys.length = m at *
  go_enter Tryz.func144, Tryz.ntmps144
  go_wp2
  go_quiet ((go_at_call 147; exact Calls.quiet_of (HC.out _ (by first | exact ((Below.refl _ _).alloc (Nat.le_refl _) _).drew | exact below_drewN ((Below.refl _ _).alloc (Nat.le_refl _) _) _))))
  go_wp2
  go_ret
  exact ⟨rfl, below_drewN ((Below.refl _ _).alloc (Nat.le_refl _) _) _⟩

set_option maxRecDepth 100000 in
set_option maxHeartbeats 1000000 in
theorem linesSuf_any (w : World) (A C : Option Addr) (c d : Nat) (xs ys : List ByteArray) (hx : StrsR w A xs) (hy : StrsR w C ys) (hc : xs.length ≤ c) (hd : ys.length ≤ d) (hl : xs.length ≤ 1000001) (hm : ys.length ≤ 1000001) (x y : Nat) (h1 : 0 < x) (h2 : x ≤ xs.length) (h3 : 0 < y) (h4 : y ≤ ys.length) :
    Calls Tryz.prog 145 #[.agg #[.slice A xs.length c, .slice C ys.length d], .int .i64 0, .int .i64 x, .int .i64 0, .int .i64 y] w fun e w' => e = .returned (.int .i64 (lead (rev (eqS xs ys) xs.length ys.length) (min x y) (xs.length - x) (ys.length - y) : Nat)) ∧ Below w.heap.size w w' := by
  obtain ⟨i0, hi, hz0, hz1, hz2⟩ := info_parts infoT
  obtain ⟨b, off, rfl, hb, _⟩ := hx.at_ (k := 0) (by omega)
  obtain ⟨b', off', rfl, hb', _⟩ := hy.at_ (k := 0) (by omega)
  have hcut : ∀ w, (Instr.slice 48 (.slice (some ⟨b, off, none⟩) xs.length c) (some (.int .i64 0)) (some (.int .i64 x)) none).run Tryz.prog w = .ok (.slice (some ⟨b, off, none⟩) x c) w := fun w => run_cut2 (P := Tryz.prog) 48 9 i0 Tryz.underlying48 hi hz1 b off xs.length c 0 x h1 (by omega) (by omega) w
  have hcut' : ∀ w, (Instr.slice 48 (.slice (some ⟨b', off', none⟩) ys.length d) (some (.int .i64 0)) (some (.int .i64 y)) none).run Tryz.prog w = .ok (.slice (some ⟨b', off', none⟩) y d) w := fun w => run_cut2 (P := Tryz.prog) 48 9 i0 Tryz.underlying48 hi hz1 b' off' ys.length d 0 y h3 (by omega) (by omega) w
  have hl1 : ((xs.drop 0).take x).length = x := by simp; omega
  have hl2 : ((ys.drop 0).take y).length = y := by simp; omega
  have hcall := fun W (hW : Below w.heap.size w W) => cslS_any (some ⟨b, off, none⟩) (some ⟨b', off', none⟩) c d _ _ W ((StrsR.below hx hW (Nat.le_refl _)).sub 0 x) ((StrsR.below hy hW (Nat.le_refl _)).sub 0 y) (by rw [hl1]; unfold maxLen; omega) (by rw [hl2]; unfold maxLen; omega)
  rw [hl1, hl2, List.drop_zero, List.drop_zero, cslS_lead xs ys x y h2 h4] at hcall
  have HC := Lib.hid hcall; clear hcall hx hy hl1 hl2
  generalize xs.length = n at *
  generalize ys.length = m at *
  go_enter Tryz.func145, Tryz.ntmps145
  go_wp2
  go_quiet ((go_at_call 148; exact Calls.quiet_of (HC.out _ (by first | exact ((Below.refl _ _).alloc (Nat.le_refl _) _).drew | exact below_drewN ((Below.refl _ _).alloc (Nat.le_refl _) _) _))))
  go_wp2
  go_ret
  exact ⟨rfl, below_drewN ((Below.refl _ _).alloc (Nat.le_refl _) _) _⟩

/-- a pair of sequences of bytes keeps the contract -/
theorem lines_seq {w : World} {A C : Option Addr} {c d : Nat} {xs ys : List ByteArray} (hx : StrsR w A xs) (hy : StrsR w C ys) (hc : xs.length ≤ c) (hd : ys.length ≤ d) (hl : xs.length ≤ 1000001) (hm : ys.length ≤ 1000001) :
    SeqC w w.heap.size 77 (.agg #[.slice A xs.length c, .slice C ys.length d]) 144 145 (eqS xs ys) xs.length ys.length where
  mP := fun _ => by kernel_rfl
  mS := fun _ => by kernel_rfl
  eP := enters_of Tryz.func144 (by kernel_rfl) rfl
  eS := enters_of Tryz.func145 (by kernel_rfl) rfl
  cP := fun W hW x X y Y h1 h2 h3 h4 => linesPre_any W A C c d xs ys (StrsR.below hx hW (Nat.le_refl _)) (StrsR.below hy hW (Nat.le_refl _)) hc hd hl hm x X y Y h1 h2 h3 h4
  cS := fun W hW x y h1 h2 h3 h4 => linesSuf_any W A C c d xs ys (StrsR.below hx hW (Nat.le_refl _)) (StrsR.below hy hW (Nat.le_refl _)) hc hd hl hm x y h1 h2 h3 h4
  nA := hl
  nM := hm
theorem lines_len (p : Value) : ∀ w, Sem.run Tryz.prog (method 300 77 p ("loop.example" ++ String.singleton (Char.ofNat 47) ++ "pub-g01452" ++ String.singleton (Char.ofNat 47) ++ "pub" ++ String.singleton (Char.ofNat 47) ++ "xdiff_lcs." ++ "lengths")) w = .ok (146, p) w := fun _ => by kernel_rfl
theorem lead_congr {E F : EQT} {n x y : Nat} (h : ∀ i, i < n → E (x + i) (y + i) = F (x + i) (y + i)) : lead E n x y = lead F n x y := by
  have hle := lead_le F n x y
  refine lead_eq _ _ _ _ _ hle (fun i hi => ?_) ?_
  · rw [h i (by omega)]; exact lead_all _ _ _ _ i hi
  · rcases Nat.lt_or_ge (lead F n x y) n with h1 | h1
    · right; rw [h _ h1]; exact lead_next _ _ _ _ h1
    · left; omega
/-- a pair of sequences of texts under any relation that says where they are alike -/
theorem lines_seq_of {w : World} {A C : Option Addr} {c d : Nat} {xs ys : List ByteArray} {E : EQT} (hE : ∀ i j, i < xs.length → j < ys.length → E i j = eqS xs ys i j) (hx : StrsR w A xs) (hy : StrsR w C ys) (hc : xs.length ≤ c) (hd : ys.length ≤ d) (hl : xs.length ≤ 1000001) (hm : ys.length ≤ 1000001) :
    SeqC w w.heap.size 77 (.agg #[.slice A xs.length c, .slice C ys.length d]) 144 145 E xs.length ys.length :=
  let s := lines_seq hx hy hc hd hl hm
  { mP := s.mP, mS := s.mS, eP := s.eP, eS := s.eS, nA := s.nA, nM := s.nM
    cP := fun W hW x X y Y h1 h2 h3 h4 => by
      have := s.cP W hW x X y Y h1 h2 h3 h4
      have e : lead E (min (X - x) (Y - y)) x y = lead (eqS xs ys) (min (X - x) (Y - y)) x y := lead_congr fun i hi => by first | exact hE _ _ (by omega) (by omega) | (simp only [rev]; exact hE _ _ (by omega) (by omega))
      rw [e]
      exact this
    cS := fun W hW x y h1 h2 h3 h4 => by
      have := s.cS W hW x y h1 h2 h3 h4
      have e : lead (rev E xs.length ys.length) (min x y) (xs.length - x) (ys.length - y) = lead (rev (eqS xs ys) xs.length ys.length) (min x y) (xs.length - x) (ys.length - y) := lead_congr fun i hi => by first | exact hE _ _ (by omega) (by omega) | (simp only [rev]; exact hE _ _ (by omega) (by omega))
      rw [e]
      exact this }

end Go.Proofs.YtgphjnhbheimiaaGreatDoor

namespace Go.Proofs.YtgphjnhbheimiaaGreatDoor
set_option linter.unusedVariables false
open Go.RowKit

theorem cmpLines {w : World} {A C : Option Addr} {c d : Nat} {xs ys : List ByteArray} {E : EQT} (hE : ∀ i j, i < xs.length → j < ys.length → E i j = eqS xs ys i j) (hx : StrsR w A xs) (hy : StrsR w C ys) (hc : xs.length ≤ c) (hd : ys.length ≤ d) (hl : xs.length ≤ 1000001) (hm : ys.length ≤ 1000001) :
    Calls Tryz.prog 35 #[.iface 77 (.agg #[.slice A xs.length c, .slice C ys.length d]), .func (.func 36) #[] #[], .int .i64 50] w (CompOut E xs.length ys.length (QT E xs.length ys.length 50) w) := by
  have hS := lines_seq_of hE hx hy hc hd hl hm
  refine compute_any (lim := 50) hS (lines_len _) (enters_of Tryz.func146 (by kernel_rfl) rfl) (enters_of Tryz.func36 (by kernel_rfl) rfl) (fun W _ => linesLen_any W A C xs.length c ys.length d) ?_ (by omega) (by omega)
  intro W g K vf vb rf rb hG hb hsq hux huy hdl hlim
  exact twosided_any hS hb hG hsq hux huy hdl hlim (by omega) (by omega) (fun W' vf' rf' vb' rb' df db j j' k hFS hF hB ho hk hsel hsh hdf hdb => twolcs_any hS hFS hsq hux huy hdl hlim (by omega) (by omega) hF hB ho hk hsh hdf hdb) (fix_any hl hm)
theorem ldifLines {w : World} {A C : Option Addr} {c d : Nat} {xs ys : List ByteArray} {E : EQT} (hE : ∀ i j, i < xs.length → j < ys.length → E i j = eqS xs ys i j) (hx : StrsR w A xs) (hy : StrsR w C ys) (hc : xs.length ≤ c) (hd : ys.length ≤ d) (hl : xs.length ≤ 1000001) (hm : ys.length ≤ 1000001) :
    Calls Tryz.prog 18 #[.slice A xs.length c, .slice C ys.length d] w (DOut E xs.length ys.length (QT E xs.length ys.length 50) 54 w) := lLines_any (cmpLines hE hx hy hc hd hl hm)
theorem eqS_refl (xs : List ByteArray) (i : Nat) : eqS xs xs i i = true := by simp [eqS]
theorem sx_app (xs : List ByteArray) (x : ByteArray) (i : Nat) (h : i < xs.length) : sx (xs ++ [x]) i = sx xs i := by simp [sx, List.getElem?_append_left h, h]
theorem eqS_more (xs : List ByteArray) (x : ByteArray) (i : Nat) (h : i < xs.length) : eqS xs (xs ++ [x]) i i = true := by simp [eqS, sx_app xs x i h]
theorem eqS_less (xs : List ByteArray) (x : ByteArray) (i : Nat) (h : i < xs.length) : eqS (xs ++ [x]) xs i i = true := by simp [eqS, sx_app xs x i h]
end Go.Proofs.YtgphjnhbheimiaaGreatDoor
