/-
  lcs.diff and the functions of differences of bytes, code points, texts, over compute's answer. Condition: at most a million elements each.
  The methods of runesSeqs: they keep the contract of a pair of sequences. Condition: at most a million elements each.
  What the functions of differences give: the contracts of the road from both ends put in. Condition: at most a million elements each.
  diff.Strings and impl.Strings, the contracts of DiffBytes and DiffRunes paid. Condition: texts of at most 1000000 bytes.
-/
import Derived.Test.YtgjbagojcbondaaDoorLcsI
import Derived.Test.YtgjbagojcbondaaDoorLcsT3
import Derived.Test.YtgjbagojcbondaaDoorLcsB
import Derived.Test.YtgjbagojcbondaaDoorLcsY
import Derived.Test.YtgjbagojcbondaaDoorLcsZ
import Derived.Test.YtgjbagojcbondaaDoorStB
namespace Go.Proofs.YtgjbagojcbondaaDoor
set_option linter.unusedVariables false
open Go.RowKit

/-- what a function of differences gives -/
def DOut (E : EQT) (N M : Nat) (Q : List Pc → Prop) (t : TypeId) (w : World) (e : Ending) (w' : World) : Prop :=
  ∃ ps A c, e = .returned (.slice A (diffsFrom N M 0 0 ps).length c) ∧ w'.ownsRow w.heap.size t 4 (.slice A (diffsFrom N M 0 0 ps).length c) (diffsFrom N M 0 0 ps).length (dfCells (diffsFrom N M 0 0 ps)) ∧ Below w.heap.size w w' ∧ Ch E 0 0 ps N M ∧ Q ps
set_option maxRecDepth 100000 in
set_option maxHeartbeats 400000 in
theorem diff_any {w : World} {N M : Nat} {E : EQT} {Q : List Pc → Prop} {T : TypeId} {rv : Value} (hc : Calls Tryd.prog 28 #[.iface T rv, .func (.func 29) #[] #[], .int .i64 50] w (CompOut E N M Q w)) :
    Calls Tryd.prog 24 #[.iface T rv] w (DOut E N M Q 47 w) := by
  have HC := Lib.hid hc; clear hc
  go_enter Tryd.func24, Tryd.ntmps24
  go_wp2_with (fail)
  refine HC.out.mono ?_
  rintro e w1 ⟨ps, A1, c1, v, rfl, ho1, ho2, hb1, hch, hq⟩
  have HO := Lib.hid ho1; have HB := Lib.hid hb1; have HCH := Lib.hid hch; have HQ := Lib.hid hq
  clear ho1 ho2 hb1 hch hq
  go_wp2
  go_ret
  exact ⟨ps, A1, c1, rfl, HO.out, HB.out, HCH.out, HQ.out⟩
set_option maxRecDepth 100000 in
set_option maxHeartbeats 400000 in
theorem lBytes_any {w : World} {N M c d : Nat} {A C : Option Addr} {E : EQT} {Q : List Pc → Prop} (hc : Calls Tryd.prog 28 #[.iface 55 (.agg #[.slice A N c, .slice C M d]), .func (.func 29) #[] #[], .int .i64 50] w (CompOut E N M Q w)) :
    Calls Tryd.prog 19 #[.slice A N c, .slice C M d] w (DOut E N M Q 47 w) := by
  have HD := Lib.hid (diff_any hc); clear hc
  go_enter Tryd.func19, Tryd.ntmps19
  go_wp2_with (fail)
  refine HD.out.mono ?_
  rintro e w1 ⟨ps, A1, c1, rfl, ho1, hb1, hch, hq⟩
  have HO := Lib.hid ho1; have HB := Lib.hid hb1; have HCH := Lib.hid hch; have HQ := Lib.hid hq
  clear ho1 hb1 hch hq
  go_wp2
  go_ret
  exact ⟨ps, A1, c1, rfl, HO.out, HB.out, HCH.out, HQ.out⟩
set_option maxRecDepth 100000 in
set_option maxHeartbeats 400000 in
theorem lRunes_any {w : World} {N M c d : Nat} {A C : Option Addr} {E : EQT} {Q : List Pc → Prop} (hc : Calls Tryd.prog 28 #[.iface 57 (.agg #[.slice A N c, .slice C M d]), .func (.func 29) #[] #[], .int .i64 50] w (CompOut E N M Q w)) :
    Calls Tryd.prog 20 #[.slice A N c, .slice C M d] w (DOut E N M Q 47 w) := by
  have HD := Lib.hid (diff_any hc); clear hc
  go_enter Tryd.func20, Tryd.ntmps20
  go_wp2_with (fail)
  refine HD.out.mono ?_
  rintro e w1 ⟨ps, A1, c1, rfl, ho1, hb1, hch, hq⟩
  have HO := Lib.hid ho1; have HB := Lib.hid hb1; have HCH := Lib.hid hch; have HQ := Lib.hid hq
  clear ho1 hb1 hch hq
  go_wp2
  go_ret
  exact ⟨ps, A1, c1, rfl, HO.out, HB.out, HCH.out, HQ.out⟩
end Go.Proofs.YtgjbagojcbondaaDoor

namespace Go.Proofs.YtgjbagojcbondaaDoor
set_option linter.unusedVariables false
open Go.RowKit

set_option maxHeartbeats 400000 in
theorem cplR_any (A B : Option Addr) (c d : Nat) (xs ys : List Int) (w : World) (hx : IntsR .i32 w A xs) (hy : IntsR .i32 w B ys) (hl : xs.length ≤ maxLen) (hm : ys.length ≤ maxLen) :
   Calls Tryd.prog 110 #[.slice A xs.length c, .slice B ys.length d] w fun e w' => e = .returned (.int .i64 (cpl xs ys : Nat)) ∧ ∃ n, w' = w.drewN n := by
  unfold maxLen at hl hm
  have HX := Lib.hid hx; clear hx
  have HY := Lib.hid hy; clear hy
  obtain ⟨l, hln⟩ : ∃ n, xs.length = n := ⟨_, rfl⟩
  obtain ⟨m, hlm⟩ : ∃ n, ys.length = n := ⟨_, rfl⟩
  rw [hln] at hl ⊢
  rw [hlm] at hm ⊢
  have LX := Lib.hid hln; clear hln
  have LY := Lib.hid hlm; clear hlm
  obtain ⟨n, hn⟩ : ∃ n, n = min l m := ⟨_, rfl⟩
  have hn0 : n ≤ l := by omega
  have hn1 : n ≤ m := by omega
  have HN := Lib.hid hn; clear hn
  have hmin := fun w => run_min2 (P := Tryd.prog) w 3 l m n HN.out
  go_enter Tryd.func110, Tryd.ntmps110
  go_wp2
  go_loopw [6] (fun i wr => ∃ k nq : Nat, k ≤ n ∧ i = .int .i64 k ∧ (∀ j, j < k → ix xs j = ix ys j) ∧ wr = w.drewN nq) (fun i _ => n - (intOf i).toNat)
  case atStart => exact ⟨0, 0, by omega, rfl, by intro j hj; omega, rfl⟩
  case round =>
    obtain ⟨k, nq, hk, rfl, hall, rfl⟩ := hrel
    have HA := Lib.hid hall; clear hall
    by_cases hlt : k < n
    · have hd : decide ((k : Int) < (n : Int)) = true := by simp; omega
      obtain ⟨b0, o0, rfl, _, g0⟩ := HX.out.at_ (k := k) (by rw [LX.out]; omega)
      obtain ⟨b1, o1, rfl, _, g1⟩ := HY.out.at_ (k := k) (by rw [LY.out]; omega)
      by_cases he : ix xs k = ix ys k
      · have he' : (ix xs k == ix ys k) = true := by simp [he]
        have HE := Lib.hid he; clear he
        go_wp2
        go_quiet (fail)
        go_wp2
        go_roundw
        case rel => exact ⟨k + 1, _, by omega, by go_num, fun j hj => by
            by_cases hjk : j = k
            · subst hjk; exact HE.out
            · exact HA.out j (by omega), rfl⟩
        case measure => simp [intOf]; omega
      · have he' : (ix xs k == ix ys k) = false := by simp [he]
        have HE := Lib.hid he; clear he
        go_wp2
        go_quiet (fail)
        go_wp2
        go_ret
        exact ⟨ret_int (by rw [cpl_eq xs ys k (by rw [LX.out]; omega) (by rw [LY.out]; omega) HA.out (.inr (.inr HE.out))]), _, World.drewN_drewN _ _ _⟩
    · have hd : decide ((k : Int) < (n : Int)) = false := by simp; omega
      go_wp2
      go_quiet (fail)
      go_wp2
      go_ret
      exact ⟨ret_int (by rw [cpl_eq xs ys k (by rw [LX.out]; omega) (by rw [LY.out]; omega) HA.out (by have := HN.out; rw [LX.out, LY.out]; omega)]), _, World.drewN_drewN _ _ _⟩

set_option maxHeartbeats 400000 in
theorem cslR_any (A B : Option Addr) (c d : Nat) (xs ys : List Int) (w : World) (hx : IntsR .i32 w A xs) (hy : IntsR .i32 w B ys) (hl : xs.length ≤ maxLen) (hm : ys.length ≤ maxLen) :
   Calls Tryd.prog 111 #[.slice A xs.length c, .slice B ys.length d] w fun e w' => e = .returned (.int .i64 (csl xs ys : Nat)) ∧ ∃ n, w' = w.drewN n := by
  unfold maxLen at hl hm
  have HX := Lib.hid hx; clear hx
  have HY := Lib.hid hy; clear hy
  obtain ⟨l, hln⟩ : ∃ n, xs.length = n := ⟨_, rfl⟩
  obtain ⟨m, hlm⟩ : ∃ n, ys.length = n := ⟨_, rfl⟩
  rw [hln] at hl ⊢
  rw [hlm] at hm ⊢
  have LX := Lib.hid hln; clear hln
  have LY := Lib.hid hlm; clear hlm
  obtain ⟨n, hn⟩ : ∃ n, n = min l m := ⟨_, rfl⟩
  have hn0 : n ≤ l := by omega
  have hn1 : n ≤ m := by omega
  have HN := Lib.hid hn; clear hn
  have hmin := fun w => run_min2 (P := Tryd.prog) w 3 l m n HN.out
  go_enter Tryd.func111, Tryd.ntmps111
  go_wp2
  go_loopw [6] (fun i wr => ∃ k nq : Nat, k ≤ n ∧ i = .int .i64 k ∧ (∀ j, j < k → ix xs (l - 1 - j) = ix ys (m - 1 - j)) ∧ wr = w.drewN nq) (fun i _ => n - (intOf i).toNat)
  case atStart => exact ⟨0, 0, by omega, rfl, by intro j hj; omega, rfl⟩
  case round =>
    obtain ⟨k, nq, hk, rfl, hall, rfl⟩ := hrel
    have HA := Lib.hid hall; clear hall
    by_cases hlt : k < n
    · have hd : decide ((k : Int) < (n : Int)) = true := by simp; omega
      obtain ⟨b0, o0, rfl, _, g0⟩ := HX.out.at_ (k := l - 1 - k) (by rw [LX.out]; omega)
      obtain ⟨b1, o1, rfl, _, g1⟩ := HY.out.at_ (k := m - 1 - k) (by rw [LY.out]; omega)
      obtain ⟨p, hp⟩ : ∃ p, l = p + 1 + k := ⟨l - 1 - k, by omega⟩
      obtain ⟨q, hq⟩ : ∃ q, m = q + 1 + k := ⟨m - 1 - k, by omega⟩
      have ep : l - 1 - k = p := by omega
      have eq : m - 1 - k = q := by omega
      rw [ep] at g0
      rw [eq] at g1
      have EP := Lib.hid ep; clear ep
      have EQ := Lib.hid eq; clear eq
      have t0 : ((l : Int) - 1 - k).toNat = p := by omega
      have t1 : ((m : Int) - 1 - k).toNat = q := by omega
      have HP := Lib.hid hp; clear hp
      have HQ := Lib.hid hq; clear hq
      by_cases he : ix xs p = ix ys q
      · have he' : (ix xs p == ix ys q) = true := by simp [he]
        have HE := Lib.hid he; clear he
        go_wp2
        go_quiet (fail)
        go_wp2
        go_roundw
        case rel => exact ⟨k + 1, _, by omega, by go_num, fun j hj => by
            by_cases hjk : j = k
            · subst hjk; rw [EP.out, EQ.out]; exact HE.out
            · exact HA.out j (by omega), rfl⟩
        case measure => simp [intOf]; omega
      · have he' : (ix xs p == ix ys q) = false := by simp [he]
        have HE := Lib.hid he; clear he
        go_wp2
        go_quiet (fail)
        go_wp2
        go_ret
        exact ⟨ret_int (by rw [csl_eq xs ys k (by rw [LX.out]; omega) (by rw [LY.out]; omega) (by rw [LX.out, LY.out]; exact HA.out) (.inr (.inr (by rw [LX.out, LY.out, EP.out, EQ.out]; exact HE.out)))]), _, World.drewN_drewN _ _ _⟩
    · have hd : decide ((k : Int) < (n : Int)) = false := by simp; omega
      go_wp2
      go_quiet (fail)
      go_wp2
      go_ret
      exact ⟨ret_int (by rw [csl_eq xs ys k (by rw [LX.out]; omega) (by rw [LY.out]; omega) (by rw [LX.out, LY.out]; exact HA.out) (by have := HN.out; rw [LX.out, LY.out]; omega)]), _, World.drewN_drewN _ _ _⟩

theorem infoR : (Tryd.prog.info? 21).map (fun i => (i.zero, i.size, i.bytes)) = some (some (.int .i32 0), 1, 4) := by kernel_rfl

set_option maxRecDepth 100000 in
set_option maxHeartbeats 400000 in
theorem runesLen_any (w : World) (A C : Option Addr) (n c m d : Nat) :
    Calls Tryd.prog 109 #[.agg #[.slice A n c, .slice C m d]] w fun e w' => e = .returned (.tuple #[.int .i64 n, .int .i64 m]) ∧ Below w.heap.size w w' := by
  go_enter Tryd.func109, Tryd.ntmps109
  go_wp2
  go_quiet (fail)
  go_wp2
  go_ret2
  exact ⟨rfl, below_drewN ((Below.refl _ _).alloc (Nat.le_refl _) _) _⟩

set_option maxRecDepth 100000 in
set_option maxHeartbeats 1000000 in
theorem runesPre_any (w : World) (A C : Option Addr) (c d : Nat) (xs ys : List Int) (hx : IntsR .i32 w A xs) (hy : IntsR .i32 w C ys) (hc : xs.length ≤ c) (hd : ys.length ≤ d) (hl : xs.length ≤ 1000001) (hm : ys.length ≤ 1000001) (x X y Y : Nat) (h1 : x < X) (h2 : X ≤ xs.length) (h3 : y < Y) (h4 : Y ≤ ys.length) :
    Calls Tryd.prog 107 #[.agg #[.slice A xs.length c, .slice C ys.length d], .int .i64 x, .int .i64 X, .int .i64 y, .int .i64 Y] w fun e w' => e = .returned (.int .i64 (lead (eqI xs ys) (min (X - x) (Y - y)) x y : Nat)) ∧ Below w.heap.size w w' := by
  obtain ⟨i0, hi, hz0, hz1, hz2⟩ := info_parts infoR
  obtain ⟨b, off, rfl, hb, _⟩ := hx.at_ (k := x) (by omega)
  obtain ⟨b', off', rfl, hb', _⟩ := hy.at_ (k := y) (by omega)
  have hcut := fun w => run_cut3 (P := Tryd.prog) 40 21 i0 Tryd.underlying40 hi hz1 b off xs.length c x X h1 (by omega) w
  have hcut' := fun w => run_cut3 (P := Tryd.prog) 40 21 i0 Tryd.underlying40 hi hz1 b' off' ys.length d y Y h3 (by omega) w
  have hl1 : ((xs.drop x).take (X - x)).length = X - x := by simp; omega
  have hl2 : ((ys.drop y).take (Y - y)).length = Y - y := by simp; omega
  have hcall := fun W (hW : Below w.heap.size w W) => cplR_any (some ⟨b, off + x, none⟩) (some ⟨b', off' + y, none⟩) (X - x) (Y - y) _ _ W ((IntsR.below hx hW (Nat.le_refl _)).sub x (X - x)) ((IntsR.below hy hW (Nat.le_refl _)).sub y (Y - y)) (by rw [hl1]; unfold maxLen; omega) (by rw [hl2]; unfold maxLen; omega)
  rw [hl1, hl2, cpl_lead xs ys x X y Y h2 h4] at hcall
  have HC := Lib.hid hcall; clear hcall hx hy hl1 hl2
  generalize xs.length = n at *
  generalize ys.length = m at *
  go_enter Tryd.func107, Tryd.ntmps107
  go_wp2
  go_quiet ((go_at_call 110; exact Calls.quiet_of (HC.out _ (by first | exact ((Below.refl _ _).alloc (Nat.le_refl _) _).drew | exact below_drewN ((Below.refl _ _).alloc (Nat.le_refl _) _) _))))
  go_wp2
  go_ret
  exact ⟨rfl, below_drewN ((Below.refl _ _).alloc (Nat.le_refl _) _) _⟩

set_option maxRecDepth 100000 in
set_option maxHeartbeats 1000000 in
theorem runesSuf_any (w : World) (A C : Option Addr) (c d : Nat) (xs ys : List Int) (hx : IntsR .i32 w A xs) (hy : IntsR .i32 w C ys) (hc : xs.length ≤ c) (hd : ys.length ≤ d) (hl : xs.length ≤ 1000001) (hm : ys.length ≤ 1000001) (x y : Nat) (h1 : 0 < x) (h2 : x ≤ xs.length) (h3 : 0 < y) (h4 : y ≤ ys.length) :
    Calls Tryd.prog 108 #[.agg #[.slice A xs.length c, .slice C ys.length d], .int .i64 0, .int .i64 x, .int .i64 0, .int .i64 y] w fun e w' => e = .returned (.int .i64 (lead (rev (eqI xs ys) xs.length ys.length) (min x y) (xs.length - x) (ys.length - y) : Nat)) ∧ Below w.heap.size w w' := by
  obtain ⟨i0, hi, hz0, hz1, hz2⟩ := info_parts infoR
  obtain ⟨b, off, rfl, hb, _⟩ := hx.at_ (k := 0) (by omega)
  obtain ⟨b', off', rfl, hb', _⟩ := hy.at_ (k := 0) (by omega)
  have hcut : ∀ w, (Instr.slice 40 (.slice (some ⟨b, off, none⟩) xs.length c) (some (.int .i64 0)) (some (.int .i64 x)) (some (.int .i64 x))).run Tryd.prog w = .ok (.slice (some ⟨b, off, none⟩) x x) w := fun w => run_cut3 (P := Tryd.prog) 40 21 i0 Tryd.underlying40 hi hz1 b off xs.length c 0 x h1 (by omega) w
  have hcut' : ∀ w, (Instr.slice 40 (.slice (some ⟨b', off', none⟩) ys.length d) (some (.int .i64 0)) (some (.int .i64 y)) (some (.int .i64 y))).run Tryd.prog w = .ok (.slice (some ⟨b', off', none⟩) y y) w := fun w => run_cut3 (P := Tryd.prog) 40 21 i0 Tryd.underlying40 hi hz1 b' off' ys.length d 0 y h3 (by omega) w
  have hl1 : ((xs.drop 0).take x).length = x := by simp; omega
  have hl2 : ((ys.drop 0).take y).length = y := by simp; omega
  have hcall := fun W (hW : Below w.heap.size w W) => cslR_any (some ⟨b, off, none⟩) (some ⟨b', off', none⟩) x y _ _ W ((IntsR.below hx hW (Nat.le_refl _)).sub 0 x) ((IntsR.below hy hW (Nat.le_refl _)).sub 0 y) (by rw [hl1]; unfold maxLen; omega) (by rw [hl2]; unfold maxLen; omega)
  rw [hl1, hl2, List.drop_zero, List.drop_zero, csl_lead xs ys x y h2 h4] at hcall
  have HC := Lib.hid hcall; clear hcall hx hy hl1 hl2
  generalize xs.length = n at *
  generalize ys.length = m at *
  go_enter Tryd.func108, Tryd.ntmps108
  go_wp2
  go_quiet ((go_at_call 111; exact Calls.quiet_of (HC.out _ (by first | exact ((Below.refl _ _).alloc (Nat.le_refl _) _).drew | exact below_drewN ((Below.refl _ _).alloc (Nat.le_refl _) _) _))))
  go_wp2
  go_ret
  exact ⟨rfl, below_drewN ((Below.refl _ _).alloc (Nat.le_refl _) _) _⟩

/-- a pair of sequences of bytes keeps the contract -/
theorem runes_seq {w : World} {A C : Option Addr} {c d : Nat} {xs ys : List Int} (hx : IntsR .i32 w A xs) (hy : IntsR .i32 w C ys) (hc : xs.length ≤ c) (hd : ys.length ≤ d) (hl : xs.length ≤ 1000001) (hm : ys.length ≤ 1000001) :
    SeqC w w.heap.size 57 (.agg #[.slice A xs.length c, .slice C ys.length d]) 107 108 (eqI xs ys) xs.length ys.length where
  mP := fun _ => by kernel_rfl
  mS := fun _ => by kernel_rfl
  eP := enters_of Tryd.func107 (by kernel_rfl) rfl
  eS := enters_of Tryd.func108 (by kernel_rfl) rfl
  cP := fun W hW x X y Y h1 h2 h3 h4 => runesPre_any W A C c d xs ys (IntsR.below hx hW (Nat.le_refl _)) (IntsR.below hy hW (Nat.le_refl _)) hc hd hl hm x X y Y h1 h2 h3 h4
  cS := fun W hW x y h1 h2 h3 h4 => runesSuf_any W A C c d xs ys (IntsR.below hx hW (Nat.le_refl _)) (IntsR.below hy hW (Nat.le_refl _)) hc hd hl hm x y h1 h2 h3 h4
  nA := hl
  nM := hm
theorem runes_len (p : Value) : ∀ w, Sem.run Tryd.prog (method 253 57 p ("loop.example" ++ String.singleton (Char.ofNat 47) ++ "pub-g01452" ++ String.singleton (Char.ofNat 47) ++ "pub" ++ String.singleton (Char.ofNat 47) ++ "xdiff_lcs." ++ "lengths")) w = .ok (109, p) w := fun _ => by kernel_rfl
end Go.Proofs.YtgjbagojcbondaaDoor

namespace Go.Proofs.YtgjbagojcbondaaDoor
set_option linter.unusedVariables false
open Go.RowKit

theorem cmpBytes {w : World} {A C : Option Addr} {c d : Nat} {xs ys : List Int} (hx : IntsR .u8 w A xs) (hy : IntsR .u8 w C ys) (hc : xs.length ≤ c) (hd : ys.length ≤ d) (hl : xs.length ≤ 1000001) (hm : ys.length ≤ 1000001) :
    Calls Tryd.prog 28 #[.iface 55 (.agg #[.slice A xs.length c, .slice C ys.length d]), .func (.func 29) #[] #[], .int .i64 50] w (CompOut (eqI xs ys) xs.length ys.length (QT (eqI xs ys) xs.length ys.length 50) w) := by
  have hS := bytes_seq hx hy hc hd hl hm
  refine compute_any (lim := 50) hS (bytes_len _) (enters_of Tryd.func104 (by kernel_rfl) rfl) (enters_of Tryd.func29 (by kernel_rfl) rfl) (fun W _ => bytesLen_any W A C xs.length c ys.length d) ?_ (by omega) (by omega)
  intro W g K vf vb rf rb hG hb hsq hux huy hdl hlim
  exact twosided_any hS hb hG hsq hux huy hdl hlim (by omega) (by omega) (fun W' vf' rf' vb' rb' df db j j' k hFS hF hB ho hk hsel hsh hdf hdb => twolcs_any hS hFS hsq hux huy hdl hlim (by omega) (by omega) hF hB ho hk hsh hdf hdb) (fix_any hl hm)
theorem ldifBytes {w : World} {A C : Option Addr} {c d : Nat} {xs ys : List Int} (hx : IntsR .u8 w A xs) (hy : IntsR .u8 w C ys) (hc : xs.length ≤ c) (hd : ys.length ≤ d) (hl : xs.length ≤ 1000001) (hm : ys.length ≤ 1000001) :
    Calls Tryd.prog 19 #[.slice A xs.length c, .slice C ys.length d] w (DOut (eqI xs ys) xs.length ys.length (QT (eqI xs ys) xs.length ys.length 50) 47 w) := lBytes_any (cmpBytes hx hy hc hd hl hm)
theorem cmpRunes {w : World} {A C : Option Addr} {c d : Nat} {xs ys : List Int} (hx : IntsR .i32 w A xs) (hy : IntsR .i32 w C ys) (hc : xs.length ≤ c) (hd : ys.length ≤ d) (hl : xs.length ≤ 1000001) (hm : ys.length ≤ 1000001) :
    Calls Tryd.prog 28 #[.iface 57 (.agg #[.slice A xs.length c, .slice C ys.length d]), .func (.func 29) #[] #[], .int .i64 50] w (CompOut (eqI xs ys) xs.length ys.length (QT (eqI xs ys) xs.length ys.length 50) w) := by
  have hS := runes_seq hx hy hc hd hl hm
  refine compute_any (lim := 50) hS (runes_len _) (enters_of Tryd.func109 (by kernel_rfl) rfl) (enters_of Tryd.func29 (by kernel_rfl) rfl) (fun W _ => runesLen_any W A C xs.length c ys.length d) ?_ (by omega) (by omega)
  intro W g K vf vb rf rb hG hb hsq hux huy hdl hlim
  exact twosided_any hS hb hG hsq hux huy hdl hlim (by omega) (by omega) (fun W' vf' rf' vb' rb' df db j j' k hFS hF hB ho hk hsel hsh hdf hdb => twolcs_any hS hFS hsq hux huy hdl hlim (by omega) (by omega) hF hB ho hk hsh hdf hdb) (fix_any hl hm)
theorem ldifRunes {w : World} {A C : Option Addr} {c d : Nat} {xs ys : List Int} (hx : IntsR .i32 w A xs) (hy : IntsR .i32 w C ys) (hc : xs.length ≤ c) (hd : ys.length ≤ d) (hl : xs.length ≤ 1000001) (hm : ys.length ≤ 1000001) :
    Calls Tryd.prog 20 #[.slice A xs.length c, .slice C ys.length d] w (DOut (eqI xs ys) xs.length ys.length (QT (eqI xs ys) xs.length ys.length 50) 47 w) := lRunes_any (cmpRunes hx hy hc hd hl hm)
end Go.Proofs.YtgjbagojcbondaaDoor

namespace Go.Proofs.YtgjbagojcbondaaDoor
set_option linter.unusedVariables false
open Go.RowKit

/-- how much is kept -/
def KQ (xs ys : List Int) (ps : List Pc) : Prop := QT (eqI xs ys) xs.length ys.length 50 ps
theorem payBytes (s t : ByteArray) (hs : s.size ≤ 1000000) (ht : t.size ≤ 1000000) : ∀ W A C c d, IntsR .u8 W A (bytesI s) → IntsR .u8 W C (bytesI t) → s.size ≤ c → t.size ≤ d → Calls Tryd.prog 19 #[.slice A s.size c, .slice C t.size d] W (DsX s.size t.size (DfP KQ (bytesI s) (bytesI t)) W) := by
  intro W A C c d h1 h2 h3 h4
  have l1 := bytesI_len s
  have l2 := bytesI_len t
  have h := ldifBytes (c := c) (d := d) h1 h2 (by rw [l1]; exact h3) (by rw [l2]; exact h4) (by rw [l1]; omega) (by rw [l2]; omega)
  rw [l1, l2] at h
  refine h.mono ?_
  rintro e w' ⟨ps, A', c', rfl, o, b, g1, g2⟩
  have := dsX_of (K := KQ) (xs := bytesI s) (ys := bytesI t) (w := W) (w' := w') (e := .returned (.slice A' (diffsFrom s.size t.size 0 0 ps).length c')) ⟨ps, A', c', by rw [l1, l2], by rw [l1, l2]; exact CellsR.of_own o, b, by rw [l1, l2]; exact g1, by unfold KQ; rw [l1, l2]; exact g2⟩
  rw [l1, l2] at this
  exact this
theorem payRunes (s t : ByteArray) (hs : s.size ≤ 1000000) (ht : t.size ≤ 1000000) : ∀ W A C c d, IntsR .i32 W A (runesF s) → IntsR .i32 W C (runesF t) → (runesF s).length ≤ c → (runesF t).length ≤ d → Calls Tryd.prog 20 #[.slice A (runesF s).length c, .slice C (runesF t).length d] W (DsX (runesF s).length (runesF t).length (DfP KQ (runesF s) (runesF t)) W) := by
  intro W A C c d h1 h2 h3 h4
  have l1 := runesF_len s
  have l2 := runesF_len t
  refine (ldifRunes h1 h2 h3 h4 (by omega) (by omega)).mono ?_
  rintro e w' ⟨ps, A', c', rfl, o, b, g1, g2⟩
  exact dsX_of (K := KQ) ⟨ps, A', c', rfl, CellsR.of_own o, b, g1, g2⟩
theorem implStrings_any (s t : ByteArray) (w : World) (hs : s.size ≤ 1000000) (ht : t.size ≤ 1000000) :
    Calls Tryd.prog 6 #[.string s, .string t] w (StrOut (StrP s t) w) := by
  refine (strImpl_any s t w hs (strings_any s t w hs ht (payBytes s t hs ht) (payRunes s t hs ht))).mono ?_
  rintro e w' ⟨es, A, c, h1, h2, h3, h4, h5⟩
  exact ⟨es, A, c, h1, h2, h3, h4, h5.str⟩
end Go.Proofs.YtgjbagojcbondaaDoor
