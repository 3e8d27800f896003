/-
  The walks of sort.swapRange, sort.rotate over edits. No condition but the length.
-/
import Derived.Test.YtgphjnhbheimiaaDoorStabS
namespace Go.Proofs.YtgphjnhbheimiaaDoor
set_option linter.unusedVariables false
open Go.RowKit Go.Shelf

/-- what a part of the sort gives -/
def SortOut (base g n c : Nat) (f : RowT) (R : RowT → Prop) (w : World) (e : Ending) (w' : World) : Prop := e = .returned (.tuple #[]) ∧ ∃ f', RowS w' base g n c f' ∧ Below base w w' ∧ (rowT n f').Perm (rowT n f) ∧ R f'
set_option maxRecDepth 100000 in
theorem mLess (p : Option Addr) (n c : Nat) : ∀ w, Sem.run Tryd.prog (method 227 78 (.slice p n c) "Less") w = .ok (82, .slice p n c) w := findsLess p n c
set_option maxRecDepth 100000 in
theorem mSwap (p : Option Addr) (n c : Nat) : ∀ w, Sem.run Tryd.prog (method 227 78 (.slice p n c) "Swap") w = .ok (83, .slice p n c) w := findsSwap p n c
set_option maxRecDepth 100000 in
theorem mLen (p : Option Addr) (n c : Nat) : ∀ w, Sem.run Tryd.prog (method 227 78 (.slice p n c) "Len") w = .ok (81, .slice p n c) w := findsLen p n c
theorem RowS.less {w : World} {base g n c : Nat} {f : RowT} (h : RowS w base g n c f) {i j : Nat} (hi : i < n) (hj : j < n) (hl : n ≤ 20000000) :
    Calls Tryd.prog 82 #[.slice (some ⟨g, 0, none⟩) n c, .int .i64 i, .int .i64 j] w fun e w' => e = .returned (.bool (lessW (f i).1 (f j).1)) ∧ ∃ q, w' = w.drewN q := by
  have h1 := less_any (some ⟨g, 0, none⟩) c (rowL n f) w i j h.eds (by rw [rowL_length]; exact hi) (by rw [rowL_length]; exact hj) (by rw [rowL_length]; exact hl)
  rw [rowL_length, edAt_row n f hi, edAt_row n f hj] at h1
  exact h1

set_option maxRecDepth 100000 in
set_option maxHeartbeats 1000000 in
theorem swapRange_any {w : World} {base g n c : Nat} {f : RowT} (h : RowS w base g n c f) {a b m : Nat} (hab : a + m ≤ b) (hb : b + m ≤ n) (hl : n ≤ 20000000) :
    Calls Tryd.prog 62 #[.iface 78 (.slice (some ⟨g, 0, none⟩) n c), .int .i64 a, .int .i64 b, .int .i64 m] w (SortOut base g n c f (SwR a b m f) w) := by
  have m3 := mSwap (some ⟨g, 0, none⟩) n c
  have e3 := enters_of Tryd.func83 (by kernel_rfl) rfl
  have H := Lib.hid h; clear h
  go_enter Tryd.func62, Tryd.ntmps62
  go_wp2
  go_loopg [8] m (fun q i wr => ∃ (k : Nat) (f' : RowT), q = m - k ∧ k ≤ m ∧ i = .int .i64 k ∧ RowS wr base g n c f' ∧ Below base w wr ∧ (rowT n f').Perm (rowT n f) ∧ SwR a b k f f')
  case atStart => exact ⟨0, f, rfl, Nat.zero_le _, rfl, H.out, Below.refl _ _, List.Perm.refl _, SwR.zero a b f⟩
  case round =>
    obtain ⟨k, f', hq, hk, rfl, hr, hbl, hp, hs⟩ := hrel
    have HQ := Lib.hid hq; have HR := Lib.hid hr; have HBL := Lib.hid hbl; have HP := Lib.hid hp; have HS := Lib.hid hs
    clear hq hr hbl hp hs
    by_cases hlt : k < m
    · have hsw := swap_any HR.out (i := a + k) (j := b + k) (by omega) (by omega) (by omega) hl
      rw [Int.natCast_add, Int.natCast_add] at hsw
      have HSW := Lib.hid hsw; clear hsw
      go_wp2_with fail
      refine HSW.out.mono ?_
      rintro e w' ⟨rfl, hr', hb'⟩
      have HR2 := Lib.hid hr'; have HB2 := Lib.hid hb'; clear hr' hb'
      go_wp2
      go_roundg (m - (k + 1))
      case measure => have := HQ.out; omega
      case rel => exact ⟨k + 1, _, rfl, by omega, by go_num, HR2.out, HBL.out.trans HB2.out, (rowT_swap n f' (by omega) (by omega)).trans HP.out, HS.out.next (by omega)⟩
    · obtain rfl : k = m := by omega
      go_wp2
      go_end0
      exact ⟨rfl, f', HR.out, HBL.out, HP.out, HS.out⟩

set_option maxRecDepth 100000 in
set_option maxHeartbeats 1000000 in
theorem rotate_any {w : World} {base g n c : Nat} {f : RowT} (h : RowS w base g n c f) {a m b : Nat} (ham : a < m) (hmb : m < b) (hb : b ≤ n) (hl : n ≤ 20000000) :
    Calls Tryd.prog 61 #[.iface 78 (.slice (some ⟨g, 0, none⟩) n c), .int .i64 a, .int .i64 m, .int .i64 b] w (SortOut base g n c f (Rot a m b f) w) := by
  have H := Lib.hid h; clear h
  have w1 : IntKind.i64.wrap ((m : Int) - (a : Int)) = ((m - a : Nat) : Int) := by rw [Int.natCast_sub (by omega)]; exact IntWalk.i64_in _ (by omega)
  have w2 : IntKind.i64.wrap ((b : Int) - (m : Int)) = ((b - m : Nat) : Int) := by rw [Int.natCast_sub (by omega)]; exact IntWalk.i64_in _ (by omega)
  go_enter Tryd.func61, Tryd.ntmps61
  go_wp2
  go_loopg [8, 9] (b - a) (fun q u v wr => ∃ (i j : Nat) (f' : RowT), u = .int .i64 i ∧ v = .int .i64 j ∧ q = i + j ∧ 1 ≤ i ∧ 1 ≤ j ∧ a + i ≤ m ∧ m + j ≤ b ∧ RowS wr base g n c f' ∧ Below base w wr ∧ (rowT n f').Perm (rowT n f) ∧ ∀ h, Rot (m - i) m (m + j) f' h → Rot a m b f h)
  case atStart => exact ⟨m - a, b - m, f, by first | rfl | (rw [Int.natCast_sub (by omega)]), by first | rfl | (rw [Int.natCast_sub (by omega)]), by omega, by omega, by omega, by omega, by omega, H.out, Below.refl _ _, List.Perm.refl _, fun h hh => by rw [show m - (m - a) = a by omega, show m + (b - m) = b by omega] at hh; exact hh⟩
  case round =>
    obtain ⟨i, j, f', rfl, rfl, hq, hi, hj, hai, hjb, hr, hbl, hp, hro⟩ := hrel
    have HQ := Lib.hid hq; have HR := Lib.hid hr; have HBL := Lib.hid hbl; have HP := Lib.hid hp; have HRO := Lib.hid hro
    clear hq hr hbl hp hro w1 w2
    obtain ⟨lo, hlo⟩ : ∃ lo, lo + i = m := ⟨m - i, by omega⟩
    have elo : m - i = lo := by omega
    have wlo : IntKind.i64.wrap ((m : Int) - (i : Int)) = (lo : Int) := by rw [show (m : Int) - (i : Int) = (lo : Int) by omega]; exact IntWalk.i64_in _ (by omega)
    by_cases hne : i = j
    · subst hne
      have hsw := swapRange_any HR.out (a := lo) (b := m) (m := i) (by omega) (by omega) hl
      have HSW := Lib.hid hsw; clear hsw
      have hb1 : ((i : Int) != (i : Int)) = false := by simp
      go_wp2_with fail
      refine HSW.out.mono ?_
      rintro e w' ⟨rfl, f2, hr2, hb2, hp2, hs2⟩
      have HR2 := Lib.hid hr2; have HB2 := Lib.hid hb2; have HP2 := Lib.hid hp2; have HS2 := Lib.hid hs2; clear hr2 hb2 hp2 hs2
      go_wp2
      go_end0
      refine ⟨rfl, f2, HR2.out, HBL.out.trans HB2.out, HP2.out.trans HP.out, HRO.out _ ?_⟩
      rw [elo]
      exact Rot.same (by rw [show m - lo = i by omega]; exact HS2.out) (by omega) (by omega)
    · have hb1 : ((i : Int) != (j : Int)) = true := by simp; omega
      by_cases hgt : j < i
      · have hsw := swapRange_any HR.out (a := lo) (b := m) (m := j) (by omega) (by omega) hl
        have HSW := Lib.hid hsw; clear hsw
        have wi : IntKind.i64.wrap ((i : Int) - (j : Int)) = ((i - j : Nat) : Int) := by rw [Int.natCast_sub (by omega)]; exact IntWalk.i64_in _ (by omega)
        go_wp2_with fail
        refine HSW.out.mono ?_
        rintro e w' ⟨rfl, f2, hr2, hb2, hp2, hs2⟩
        have HR2 := Lib.hid hr2; have HB2 := Lib.hid hb2; have HP2 := Lib.hid hp2; have HS2 := Lib.hid hs2; clear hr2 hb2 hp2 hs2
        go_wp2
        go_roundg (i - j + j)
        case measure => have := HQ.out; omega
        case rel => exact ⟨i - j, j, f2, by first | rfl | (rw [Int.natCast_sub (by omega)]), rfl, rfl, by omega, hj, by omega, hjb, HR2.out, HBL.out.trans HB2.out, HP2.out.trans HP.out, fun h hh => HRO.out h (by
          rw [elo]
          refine Rot.left (g := f2) (by rw [show m + j - m = j by omega]; exact HS2.out) (by omega) (by omega) ?_
          rw [show lo + (m + j - m) = m - (i - j) by omega]; exact hh)⟩
      · have hlt : i < j := by omega
        obtain ⟨hi2, hhi⟩ : ∃ k, k + i = m + j := ⟨m + j - i, by omega⟩
        have hsw := swapRange_any HR.out (a := lo) (b := hi2) (m := i) (by omega) (by omega) hl
        have HSW := Lib.hid hsw; clear hsw
        have wk : IntKind.i64.wrap ((m : Int) + (j : Int) - (i : Int)) = (hi2 : Int) := by rw [show (m : Int) + (j : Int) - (i : Int) = (hi2 : Int) by omega]; exact IntWalk.i64_in _ (by omega)
        have wk' : (m : Int) + (j : Int) - (i : Int) = (hi2 : Int) := by omega
        have wi : IntKind.i64.wrap ((j : Int) - (i : Int)) = ((j - i : Nat) : Int) := by rw [Int.natCast_sub (by omega)]; exact IntWalk.i64_in _ (by omega)
        go_wp2_with fail
        refine HSW.out.mono ?_
        rintro e w' ⟨rfl, f2, hr2, hb2, hp2, hs2⟩
        have HR2 := Lib.hid hr2; have HB2 := Lib.hid hb2; have HP2 := Lib.hid hp2; have HS2 := Lib.hid hs2; clear hr2 hb2 hp2 hs2
        go_wp2
        go_roundg (i + (j - i))
        case measure => have := HQ.out; omega
        case rel => exact ⟨i, j - i, f2, rfl, by first | rfl | (rw [Int.natCast_sub (by omega)]), rfl, hi, by omega, hai, by omega, HR2.out, HBL.out.trans HB2.out, HP2.out.trans HP.out, fun h hh => HRO.out h (by
          rw [elo] at hh ⊢
          refine Rot.right (g := f2) (by rw [show m - lo = i by omega, show m + j - i = hi2 by omega]; exact HS2.out) (by omega) (by omega) ?_
          rw [show m + j - (m - lo) = m + (j - i) by omega]; exact hh)⟩
end Go.Proofs.YtgphjnhbheimiaaDoor
