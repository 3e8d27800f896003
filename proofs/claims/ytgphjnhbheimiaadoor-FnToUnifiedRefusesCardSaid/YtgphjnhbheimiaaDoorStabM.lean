/-
  The walk of sort.symMerge over edits. No condition but the length.
-/
import Derived.Test.YtgphjnhbheimiaaDoorStabI
import Derived.Deep.CutRange
import Derived.Deep.DeepCutAuto
namespace Go.Proofs.YtgphjnhbheimiaaDoor
set_option linter.unusedVariables false
open Go.RowKit Go.Shelf

/-- all well ahead of a merge -/
def MrgPre (n a m b : Nat) (f : RowT) : Prop := GoodF n f ∧ SrtF a m f ∧ SrtF m b f ∧ TagLt a m b f
/-- what a merge gives -/
def MrgPost (n a m b : Nat) (f f' : RowT) : Prop := Stp a b f f' ∧ (MrgPre n a m b f → SrtF a b f')
/-- the contract of symMerge over fewer elements -/
def MrgC (base g n c N : Nat) : Prop := ∀ a m b f w, b - a ≤ N → a < m → m < b → b ≤ n → RowS w base g n c f →
    Calls Tryd.prog 58 #[.iface 78 (.slice (some ⟨g, 0, none⟩) n c), .int .i64 (a : Nat), .int .i64 (m : Nat), .int .i64 (b : Nat)] w (SortOut base g n c f (MrgPost n a m b f) w)

set_option maxRecDepth 100000 in
set_option maxHeartbeats 4000000 in
theorem merge_one {base g n c : Nat} (hl : n ≤ 20000000) {a m b : Nat} {f : RowT} {w : World} (ham : a < m) (hmb : m < b) (hb : b ≤ n) (h : RowS w base g n c f) (h1 : m = a + 1) :
    Calls Tryd.prog 58 #[.iface 78 (.slice (some ⟨g, 0, none⟩) n c), .int .i64 (a : Nat), .int .i64 (m : Nat), .int .i64 (b : Nat)] w (SortOut base g n c f (MrgPost n a m b f) w) := by
  have m2 := mLess (some ⟨g, 0, none⟩) n c
  have m3 := mSwap (some ⟨g, 0, none⟩) n c
  have e2 := enters_of Tryd.func82 (by kernel_rfl) rfl
  have e3 := enters_of Tryd.func83 (by kernel_rfl) rfl
  have H := Lib.hid h; clear h
  have hm1 : m ≤ a + 1 := by omega
  have hm2 : a + 1 ≤ m := by omega
  have H1 := Lib.hid h1; clear h1
  have wm : IntKind.i64.wrap ((m : Int) - (a : Int)) = 1 := by rw [show (m : Int) - (a : Int) = 1 by omega]; rfl
  have wm' : (m : Int) - (a : Int) = 1 := by omega
  have hone : ((1 : Int) == 1) = true := rfl
  go_enter Tryd.func58, Tryd.ntmps58
  go_wp2
  go_loopg [8, 9] (b - m) (fun q u v wr => ∃ i j r : Nat, u = .int .i64 i ∧ v = .int .i64 j ∧ m ≤ i ∧ i ≤ j ∧ j ≤ b ∧ q = j - i ∧ wr = w.drewN r ∧ (MrgPre n a m b f → i = m ∨ RR (f (i - 1)) (f a)) ∧ (MrgPre n a m b f → j = b ∨ RR (f a) (f j)))
  case atStart => exact ⟨m, b, 0, rfl, rfl, Nat.le_refl _, by omega, Nat.le_refl _, rfl, rfl, fun _ => .inl rfl, fun _ => .inl rfl⟩
  case round =>
    obtain ⟨i, j, r, rfl, rfl, hmi, hij, hjb, hq, rfl, hlo, hhi⟩ := hrel
    have HQ := Lib.hid hq; have HLO := Lib.hid hlo; have HHI := Lib.hid hhi
    clear hq hlo hhi
    by_cases hlt : i < j
    · obtain ⟨h, hh1, hh2⟩ : ∃ h, 2 * h ≤ i + j ∧ i + j ≤ 2 * h + 1 := ⟨(i + j) / 2, by omega, by omega⟩
      have hdiv : ((i : Int) + (j : Int)) / 2 = (h : Int) := by omega
      have hls := (H.out.drewN r).less (i := h) (j := a) (by omega) (by omega) hl
      cases hb1 : lessW (f h).1 (f a).1 with
      | true =>
        rw [hb1] at hls
        have HLS := Lib.hid hls; clear hls
        go_wp2_with fail
        refine HLS.out.mono ?_
        rintro e w3 ⟨rfl, q3, rfl⟩
        go_wp2
        go_roundg (j - (h + 1))
        case measure => have := HQ.out; omega
        case rel => exact ⟨h + 1, j, r + q3, by first | rfl | go_num, rfl, by omega, by omega, hjb, rfl, rfl, fun hG => .inr (by rw [Nat.add_sub_cancel]; exact less_RR (hG.1 h (by omega)) (hG.1 a (by omega)) (hG.2.2.2 a h (Nat.le_refl _) ham (by omega) (by omega)) hb1), HHI.out⟩
      | false =>
        rw [hb1] at hls
        have HLS := Lib.hid hls; clear hls
        go_wp2_with fail
        refine HLS.out.mono ?_
        rintro e w3 ⟨rfl, q3, rfl⟩
        go_wp2
        go_roundg (h - i)
        case measure => have := HQ.out; omega
        case rel => exact ⟨i, h, r + q3, rfl, rfl, hmi, by omega, by omega, rfl, rfl, HLO.out, fun hG => .inr (nless_RR (hG.1 h (by omega)) (hG.1 a (by omega)) (hG.2.2.2 a h (Nat.le_refl _) ham (by omega) (by omega)) hb1)⟩
    · obtain rfl : i = j := by omega
      go_wp2
      go_loopg [11] (i - a) (fun q v wr => ∃ (k : Nat) (f' : RowT), v = .int .i64 k ∧ a ≤ k ∧ k + 1 ≤ i ∧ q = i - k ∧ RowS wr base g n c f' ∧ Below base w wr ∧ (rowT n f').Perm (rowT n f) ∧ Rot a (a + 1) (k + 1) f f')
      case atStart => exact ⟨a, f, rfl, Nat.le_refl _, by omega, rfl, H.out.drewN r, below_drewN (Below.refl _ _) r, List.Perm.refl _, Rot.nil f (.inr rfl)⟩
      case round =>
        obtain ⟨k, f', rfl, hak, hki, hq, hr, hbl, hp, hro⟩ := hrel
        have HQ2 := Lib.hid hq; have HR := Lib.hid hr; have HBL := Lib.hid hbl; have HP := Lib.hid hp; have HRO := Lib.hid hro
        clear hq hr hbl hp hro
        have wi : IntKind.i64.wrap ((i : Int) - 1) = (i : Int) - 1 := IntWalk.i64_in _ (by omega)
        by_cases hk2 : k + 1 < i
        · have hc1 : (k : Int) < (i : Int) - 1 := by omega
          have hsw := swap_any HR.out (i := k) (j := k + 1) (by omega) (by omega) (by omega) hl
          rw [Int.natCast_add] at hsw
          have HSW := Lib.hid hsw; clear hsw
          go_wp2_with fail
          refine HSW.out.mono ?_
          rintro e w4 ⟨rfl, hr4, hb4⟩
          have HR4 := Lib.hid hr4; have HB4 := Lib.hid hb4; clear hr4 hb4
          go_wp2
          go_roundg (i - (k + 1))
          case measure => have := HQ2.out; omega
          case rel => exact ⟨k + 1, swapF f' k (k + 1), by first | rfl | go_num, by omega, by omega, rfl, HR4.out, HBL.out.trans HB4.out, (rowT_swap n f' (by omega) (by omega)).trans HP.out, HRO.out.up hak⟩
        · have hc1 : ¬ (k : Int) < (i : Int) - 1 := by omega
          obtain rfl : i = k + 1 := by omega
          go_wp2
          go_end0
          have hst : Stp a b f f' := (HRO.out.stp (by omega) (by omega)).wide (Nat.le_refl _) hjb
          refine ⟨rfl, f', HR.out, HBL.out, HP.out, hst, fun hG => ?_⟩
          have h1 := H1.out
          have h2 := HLO.out hG
          have h3 := HHI.out hG
          rw [h1] at h2
          exact srt_up HRO.out (by omega) (by omega) (by rw [← h1]; exact hG.2.2.1) h2 h3

set_option maxRecDepth 100000 in
set_option maxHeartbeats 4000000 in
theorem merge_two {base g n c : Nat} (hl : n ≤ 20000000) {a m b : Nat} {f : RowT} {w : World} (ham : a < m) (hmb : m < b) (hb : b ≤ n) (h : RowS w base g n c f) (h1 : m ≠ a + 1) (h2 : b = m + 1) :
    Calls Tryd.prog 58 #[.iface 78 (.slice (some ⟨g, 0, none⟩) n c), .int .i64 (a : Nat), .int .i64 (m : Nat), .int .i64 (b : Nat)] w (SortOut base g n c f (MrgPost n a m b f) w) := by
  have m2 := mLess (some ⟨g, 0, none⟩) n c
  have m3 := mSwap (some ⟨g, 0, none⟩) n c
  have e2 := enters_of Tryd.func82 (by kernel_rfl) rfl
  have e3 := enters_of Tryd.func83 (by kernel_rfl) rfl
  have H := Lib.hid h; clear h
  have hm1 : b ≤ m + 1 := by omega
  have hm2 : m + 1 ≤ b := by omega
  have H2 := Lib.hid h2; clear h2
  have hne : ¬ (m : Int) - (a : Int) = 1 := by omega
  have hne' : ((m : Int) - (a : Int) == 1) = false := by simp; omega
  have wm' : (b : Int) - (m : Int) = 1 := by omega
  have hone : ((1 : Int) == 1) = true := rfl
  go_enter Tryd.func58, Tryd.ntmps58
  go_wp2
  go_loopg [12, 13] (m - a) (fun q u v wr => ∃ i j r : Nat, u = .int .i64 i ∧ v = .int .i64 j ∧ a ≤ i ∧ i ≤ j ∧ j ≤ m ∧ q = j - i ∧ wr = w.drewN r ∧ (MrgPre n a m b f → i = a ∨ RR (f (i - 1)) (f m)) ∧ (MrgPre n a m b f → j = m ∨ RR (f m) (f j)))
  case atStart => exact ⟨a, m, 0, rfl, rfl, Nat.le_refl _, by omega, Nat.le_refl _, rfl, rfl, fun _ => .inl rfl, fun _ => .inl rfl⟩
  case round =>
    obtain ⟨i, j, r, rfl, rfl, hmi, hij, hjb, hq, rfl, hlo, hhi⟩ := hrel
    have HQ := Lib.hid hq; have HLO := Lib.hid hlo; have HHI := Lib.hid hhi
    clear hq hlo hhi
    by_cases hlt : i < j
    · obtain ⟨h, hh1, hh2⟩ : ∃ h, 2 * h ≤ i + j ∧ i + j ≤ 2 * h + 1 := ⟨(i + j) / 2, by omega, by omega⟩
      have hdiv : ((i : Int) + (j : Int)) / 2 = (h : Int) := by omega
      have hls := (H.out.drewN r).less (i := m) (j := h) (by omega) (by omega) hl
      cases hb1 : lessW (f m).1 (f h).1 with
      | false =>
        rw [hb1] at hls
        have HLS := Lib.hid hls; clear hls
        go_wp2_with fail
        refine HLS.out.mono ?_
        rintro e w3 ⟨rfl, q3, rfl⟩
        go_wp2
        go_roundg (j - (h + 1))
        case measure => have := HQ.out; omega
        case rel => exact ⟨h + 1, j, r + q3, by first | rfl | go_num, rfl, by omega, by omega, hjb, rfl, rfl, fun hG => .inr (by rw [Nat.add_sub_cancel]; exact nless_RR (hG.1 m (by omega)) (hG.1 h (by omega)) (hG.2.2.2 h m (by omega) (by omega) (Nat.le_refl _) (by omega)) hb1), HHI.out⟩
      | true =>
        rw [hb1] at hls
        have HLS := Lib.hid hls; clear hls
        go_wp2_with fail
        refine HLS.out.mono ?_
        rintro e w3 ⟨rfl, q3, rfl⟩
        go_wp2
        go_roundg (h - i)
        case measure => have := HQ.out; omega
        case rel => exact ⟨i, h, r + q3, rfl, rfl, hmi, by omega, by omega, rfl, rfl, HLO.out, fun hG => .inr (less_RR (hG.1 m (by omega)) (hG.1 h (by omega)) (hG.2.2.2 h m (by omega) (by omega) (Nat.le_refl _) (by omega)) hb1)⟩
    · obtain rfl : i = j := by omega
      go_wp2
      go_loopg [15] (m - i) (fun q v wr => ∃ (k : Nat) (f' : RowT), v = .int .i64 k ∧ i ≤ k ∧ k ≤ m ∧ q = k - i ∧ RowS wr base g n c f' ∧ Below base w wr ∧ (rowT n f').Perm (rowT n f) ∧ Rot k m (m + 1) f f')
      case atStart => exact ⟨m, f, rfl, hjb, Nat.le_refl _, rfl, H.out.drewN r, below_drewN (Below.refl _ _) r, List.Perm.refl _, Rot.nil f (.inl rfl)⟩
      case round =>
        obtain ⟨k, f', rfl, hak, hki, hq, hr, hbl, hp, hro⟩ := hrel
        have HQ2 := Lib.hid hq; have HR := Lib.hid hr; have HBL := Lib.hid hbl; have HP := Lib.hid hp; have HRO := Lib.hid hro
        clear hq hr hbl hp hro
        by_cases hk2 : i < k
        · obtain ⟨k1, hk3, hk4⟩ : ∃ k1, k ≤ k1 + 1 ∧ k1 + 1 ≤ k := ⟨k - 1, by omega, by omega⟩
          have wk : IntKind.i64.wrap ((k : Int) - 1) = (k1 : Int) := by rw [show (k : Int) - 1 = (k1 : Int) by omega]; exact IntWalk.i64_in _ (by omega)
          have wk' : (k : Int) - 1 = (k1 : Int) := by omega
          have hsw := swap_any HR.out (i := k) (j := k1) (by omega) (by omega) (by omega) hl
          have HSW := Lib.hid hsw; clear hsw
          go_wp2_with fail
          refine HSW.out.mono ?_
          rintro e w4 ⟨rfl, hr4, hb4⟩
          have HR4 := Lib.hid hr4; have HB4 := Lib.hid hb4; clear hr4 hb4
          go_wp2
          go_roundg (k1 - i)
          case measure => have := HQ2.out; omega
          case rel => exact ⟨k1, swapF f' k k1, by first | rfl | go_num, by omega, by omega, rfl, HR4.out, HBL.out.trans HB4.out, (rowT_swap n f' (by omega) (by omega)).trans HP.out, by have := HRO.out.dn (by omega) hki; rw [show k - 1 = k1 by omega] at this; exact this⟩
        · obtain rfl : i = k := by omega
          go_wp2
          go_end0
          have h2 := H2.out
          have hst : Stp a b f f' := (HRO.out.stp (by omega) (by omega)).wide hmi (by omega)
          refine ⟨rfl, f', HR.out, HBL.out, HP.out, hst, fun hG => ?_⟩
          have h3 := HLO.out hG
          have h4 := HHI.out hG
          rw [h2]
          exact srt_dn HRO.out hmi hjb hG.2.1 h3 h4

set_option maxRecDepth 100000 in
set_option maxHeartbeats 8000000 in
theorem merge_more {base g n c N : Nat} (hl : n ≤ 20000000) (hN : MrgC base g n c N) {a m b : Nat} {f : RowT} {w : World} (hab : b - a ≤ N + 1) (ham : a < m) (hmb : m < b) (hb : b ≤ n) (h : RowS w base g n c f) (h1 : m ≠ a + 1) (h2 : b ≠ m + 1) :
    Calls Tryd.prog 58 #[.iface 78 (.slice (some ⟨g, 0, none⟩) n c), .int .i64 (a : Nat), .int .i64 (m : Nat), .int .i64 (b : Nat)] w (SortOut base g n c f (MrgPost n a m b f) w) := by
  have m2 := mLess (some ⟨g, 0, none⟩) n c
  have e2 := enters_of Tryd.func82 (by kernel_rfl) rfl
  have H := Lib.hid h; have HN := Lib.hid hN; clear h hN
  have hne : ¬ (m : Int) - (a : Int) = 1 := by omega
  have hne' : ((m : Int) - (a : Int) == 1) = false := by simp; omega
  have hne2 : ¬ (b : Int) - (m : Int) = 1 := by omega
  have hne2' : ((b : Int) - (m : Int) == 1) = false := by simp; omega
  obtain ⟨mid, hd1, hd2⟩ : ∃ mid, 2 * mid ≤ a + b ∧ a + b ≤ 2 * mid + 1 := ⟨(a + b) / 2, by omega, by omega⟩
  have hdiv : ((a : Int) + (b : Int)) / 2 = (mid : Int) := by omega
  go_enter Tryd.func58, Tryd.ntmps58
  go_upto_if 102 with fail
  go_cut [18, 19] (fun u v wx => ∃ s0 r0 : Nat, u = .int .i64 s0 ∧ v = .int .i64 r0 ∧ w = wx ∧ ((m ≤ mid ∧ s0 = a ∧ r0 = m) ∨ (mid < m ∧ s0 + b = mid + m ∧ r0 = mid)))
  case first =>
    by_cases hm : mid < m
    · obtain ⟨s0, hs1, hs2⟩ : ∃ s0, s0 + b ≤ mid + m ∧ mid + m ≤ s0 + b := ⟨mid + m - b, by omega, by omega⟩
      have hs3 : (mid : Int) + (m : Int) - (b : Int) = (s0 : Int) := by omega
      go_wp2
      go_meet
      exact ⟨s0, mid, rfl, rfl, rfl, .inr ⟨hm, by omega, rfl⟩⟩
    · go_wp2
      go_meet
      exact ⟨a, m, rfl, rfl, rfl, .inl ⟨by omega, rfl, rfl⟩⟩
  case rest =>
    obtain ⟨s0, r0, rfl, rfl, rfl, hsr⟩ := hcut
    have hs0 : a ≤ s0 := by omega
    have hr0 : r0 ≤ m := by omega
    have hr1 : r0 ≤ mid := by omega
    have hsr0 : s0 ≤ r0 := by omega
    have hp0 : mid + m ≤ s0 + b := by omega
    have HSR := Lib.hid hsr; clear hsr
    go_wp2
    go_loopg [18, 19] (r0 - s0) (fun q u v wr => ∃ i j r : Nat, u = .int .i64 i ∧ v = .int .i64 j ∧ s0 ≤ i ∧ i ≤ j ∧ j ≤ r0 ∧ q = j - i ∧ wr = w.drewN r ∧ (MrgPre n a m b f → i = s0 ∨ RR (f (i - 1)) (f (mid + m - i))) ∧ (MrgPre n a m b f → j = r0 ∨ RR (f (mid + m - 1 - j)) (f j)))
    case atStart => exact ⟨s0, r0, 0, rfl, rfl, Nat.le_refl _, hsr0, Nat.le_refl _, rfl, rfl, fun _ => .inl rfl, fun _ => .inl rfl⟩
    case round =>
      obtain ⟨i, j, r, rfl, rfl, hmi, hij, hjb, hq, rfl, hlo, hhi⟩ := hrel
      have HQ := Lib.hid hq; have HLO := Lib.hid hlo; have HHI := Lib.hid hhi
      clear hq hlo hhi
      by_cases hlt : i < j
      · obtain ⟨h, hh1, hh2⟩ : ∃ h, 2 * h ≤ i + j ∧ i + j ≤ 2 * h + 1 := ⟨(i + j) / 2, by omega, by omega⟩
        have hdiv2 : ((i : Int) + (j : Int)) / 2 = (h : Int) := by omega
        obtain ⟨pc, hp1, hp2⟩ : ∃ pc, pc + 1 + h ≤ mid + m ∧ mid + m ≤ pc + 1 + h := ⟨mid + m - 1 - h, by omega, by omega⟩
        have hpc : (mid : Int) + (m : Int) - 1 - (h : Int) = (pc : Int) := by omega
        have hls := (H.out.drewN r).less (i := pc) (j := h) (by omega) (by omega) hl
        cases hb1 : lessW (f pc).1 (f h).1 with
        | false =>
          rw [hb1] at hls
          have HLS := Lib.hid hls; clear hls
          go_wp2_with fail
          refine HLS.out.mono ?_
          rintro e w3 ⟨rfl, q3, rfl⟩
          go_wp2
          go_roundg (j - (h + 1))
          case measure => have := HQ.out; omega
          case rel => exact ⟨h + 1, j, r + q3, by first | rfl | go_num, rfl, by omega, by omega, hjb, rfl, rfl, fun hG => .inr (by rw [Nat.add_sub_cancel, show mid + m - (h + 1) = pc by omega]; exact nless_RR (hG.1 pc (by omega)) (hG.1 h (by omega)) (hG.2.2.2 h pc (by omega) (by omega) (by omega) (by omega)) hb1), HHI.out⟩
        | true =>
          rw [hb1] at hls
          have HLS := Lib.hid hls; clear hls
          go_wp2_with fail
          refine HLS.out.mono ?_
          rintro e w3 ⟨rfl, q3, rfl⟩
          go_wp2
          go_roundg (h - i)
          case measure => have := HQ.out; omega
          case rel => exact ⟨i, h, r + q3, rfl, rfl, hmi, by omega, by omega, rfl, rfl, HLO.out, fun hG => .inr (by rw [show mid + m - 1 - h = pc by omega]; exact less_RR (hG.1 pc (by omega)) (hG.1 h (by omega)) (hG.2.2.2 h pc (by omega) (by omega) (by omega) (by omega)) hb1)⟩
      · obtain rfl : i = j := by omega
        obtain ⟨t, ht1, ht2⟩ : ∃ t, t + i ≤ mid + m ∧ mid + m ≤ t + i := ⟨mid + m - i, by omega, by omega⟩
        have hti : (mid : Int) + (m : Int) - (i : Int) = (t : Int) := by omega
        have hsm : i ≤ m := by omega
        have hmt : m ≤ t := by omega
        have htb : t ≤ b := by have := HSR.out; omega
        have hc1' : MrgPre n a m b f → a < i → t < b → RR (f (i - 1)) (f t) := fun hG h1 h2 => by
          have := HLO.out hG
          rw [show mid + m - i = t by omega] at this
          exact this.resolve_left (by have := HSR.out; omega)
        have hc2' : MrgPre n a m b f → m < t → i < m → RR (f (t - 1)) (f i) := fun hG h1 h2 => by
          have := HHI.out hG
          rw [show mid + m - 1 - i = t - 1 by omega] at this
          exact this.resolve_left (by have := HSR.out; omega)
        have hc1 := Lib.hid hc1'; have hc2 := Lib.hid hc2'
        clear HQ HLO HHI hc1' hc2'
        have hmidi : i ≤ mid := by omega
        have hmid1 : mid + m ≤ i + t := by omega
        have hmid2 : i + t ≤ mid + m := by omega
        go_upto_region 39 with fail
        go_cut [140] (fun u wy => ∃ b1 : Bool, u = .bool b1 ∧ w.drewN r = wy ∧ (b1 = true → i < m ∧ m < t) ∧ (b1 = false → i = m ∨ t = m))
        case first =>
          by_cases c1 : (i : Int) < (m : Int)
          · by_cases c2 : (m : Int) < (t : Int)
            · go_wp2
              go_meet
              exact ⟨true, rfl, rfl, fun _ => ⟨by omega, by omega⟩, (fun h => by cases h)⟩
            · go_wp2
              go_meet
              exact ⟨false, rfl, rfl, (fun h => by cases h), fun _ => by omega⟩
          · go_wp2
            go_meet
            exact ⟨false, rfl, rfl, (fun h => by cases h), fun _ => by omega⟩
        case rest =>
          obtain ⟨b1, rfl, rfl, hb1, hb2⟩ := hcut
          have HB1 := Lib.hid hb1; have HB2 := Lib.hid hb2; clear hb1 hb2
          go_upto_if 140 with fail
          go_cut [] (fun wy => ∃ f1 : RowT, RowS wy base g n c f1 ∧ Below base w wy ∧ (rowT n f1).Perm (rowT n f) ∧ Rot i m t f f1)
          case first =>
            cases b1 with
            | true =>
              obtain ⟨x1, x2⟩ := HB1.out rfl
              have hro := rotate_any (H.out.drewN r) (a := i) (m := m) (b := t) x1 x2 (by omega) hl
              have HRO := Lib.hid hro; clear hro
              go_wp2_with fail
              refine HRO.out.mono ?_
              rintro e w4 ⟨rfl, f1, hr1, hbl1, hp1, hrot⟩
              have HR1 := Lib.hid hr1; have HBL1 := Lib.hid hbl1; have HP1 := Lib.hid hp1; have HROT := Lib.hid hrot
              clear hr1 hbl1 hp1 hrot
              go_wp2
              go_meet
              exact ⟨f1, HR1.out, (below_drewN (Below.refl _ _) r).trans HBL1.out, HP1.out, HROT.out⟩
            | false =>
              have x1 := HB2.out rfl
              go_wp2
              go_meet
              exact ⟨f, H.out.drewN r, below_drewN (Below.refl _ _) r, List.Perm.refl _, Rot.nil f x1⟩
          case rest =>
            obtain ⟨f1, hr1, hbl1, hp1, hrot⟩ := hcut
            have HR1 := Lib.hid hr1; have HBL1 := Lib.hid hbl1; have HP1 := Lib.hid hp1; have HROT := Lib.hid hrot
            clear hr1 hbl1 hp1 hrot HB1 HB2
            go_upto_region 41 with fail
            go_cut [153] (fun u wy => ∃ b1 : Bool, u = .bool b1 ∧ wc = wy ∧ (b1 = true → a < i ∧ i < mid) ∧ (b1 = false → i = a ∨ i = mid))
            case first =>
              by_cases c1 : (a : Int) < (i : Int)
              · by_cases c2 : (i : Int) < (mid : Int)
                · go_wp2
                  go_meet
                  exact ⟨true, rfl, rfl, fun _ => ⟨by omega, by omega⟩, (fun h => by cases h)⟩
                · go_wp2
                  go_meet
                  exact ⟨false, rfl, rfl, (fun h => by cases h), fun _ => by omega⟩
              · go_wp2
                go_meet
                exact ⟨false, rfl, rfl, (fun h => by cases h), fun _ => by omega⟩
            case rest =>
              obtain ⟨b2, rfl, rfl, hb1, hb2⟩ := hcut
              have HB1 := Lib.hid hb1; have HB2 := Lib.hid hb2; clear hb1 hb2
              go_upto_if 153 with fail
              go_cut [] (fun wy => ∃ f2 : RowT, RowS wy base g n c f2 ∧ Below base w wy ∧ (rowT n f2).Perm (rowT n f) ∧ Stp a mid f1 f2 ∧ (MrgPre n a m b f → SrtF a mid f2))
              case first =>
                cases b2 with
                | true =>
                  obtain ⟨x1, x2⟩ := HB1.out rfl
                  have hcl := HN.out a i mid f1 _ (by omega) x1 x2 (by omega) HR1.out
                  have HCL := Lib.hid hcl; clear hcl
                  go_wp2_with fail
                  refine HCL.out.mono ?_
                  rintro e w4 ⟨rfl, f2, hr2, hbl2, hp2, hst2, hso2⟩
                  have HR2 := Lib.hid hr2; have HBL2 := Lib.hid hbl2; have HP2 := Lib.hid hp2; have HST2 := Lib.hid hst2; have HSO2 := Lib.hid hso2
                  clear hr2 hbl2 hp2 hst2 hso2
                  go_wp2
                  go_meet
                  refine ⟨f2, HR2.out, HBL1.out.trans HBL2.out, HP2.out.trans HP1.out, HST2.out, fun hG => HSO2.out ⟨hG.1.stp (HROT.out.stp hsm hmt) (by omega), ?_, ?_, ?_⟩⟩
                  · exact (hG.2.1.sub (Nat.le_refl _) hsm).eq fun k _ hk => HROT.out.out k (.inl hk)
                  · exact HROT.out.srtLo hG.2.2.1 (by omega) hmt htb
                  · exact HROT.out.tagLo hG.2.2.2 (by omega) (by omega) hsm hmt htb
                | false =>
                  have x1 := HB2.out rfl
                  go_wp2
                  go_meet
                  refine ⟨f1, HR1.out, HBL1.out, HP1.out, Stp.rf _ _ _, fun hG => ?_⟩
                  rcases x1 with x1 | x1
                  · have := HROT.out.srtLo (mid := mid) hG.2.2.1 (by omega) hmt htb
                    rw [x1] at this
                    exact this
                  · rw [← x1]
                    exact (hG.2.1.sub (Nat.le_refl _) hsm).eq fun k _ hk => HROT.out.out k (.inl hk)
              case rest =>
                obtain ⟨f2, hr2, hbl2, hp2, hst2, hso2⟩ := hcut
                have HR2 := Lib.hid hr2; have HBL2 := Lib.hid hbl2; have HP2 := Lib.hid hp2; have HST2 := Lib.hid hst2; have HSO2 := Lib.hid hso2
                clear hr2 hbl2 hp2 hst2 hso2 HB1 HB2
                have hfin' : ∀ f3, Stp mid b f2 f3 → (MrgPre n a m b f → SrtF mid b f3) → MrgPost n a m b f f3 := fun f3 g1 g2 => ⟨(((HROT.out.stp hsm hmt).wide (by omega) htb).tr (HST2.out.wide (Nat.le_refl _) (by omega))).tr (g1.wide (by omega) (Nat.le_refl _)), fun hG => merge_join (by omega) hsm hmt htb (by omega) HROT.out HST2.out g1 hG.2.1 hG.2.2.1 (HSO2.out hG) (g2 hG) (hc1.out hG) (hc2.out hG)⟩
                have hfin := Lib.hid hfin'; clear hfin'
                by_cases c1 : (mid : Int) < (t : Int)
                · by_cases c2 : (t : Int) < (b : Int)
                  · have hcl := HN.out mid t b f2 _ (by omega) (by omega) (by omega) hb HR2.out
                    have HCL := Lib.hid hcl; clear hcl
                    go_wp2_with fail
                    refine HCL.out.mono ?_
                    rintro e w4 ⟨rfl, f3, hr3, hbl3, hp3, hst3, hso3⟩
                    have HR3 := Lib.hid hr3; have HBL3 := Lib.hid hbl3; have HP3 := Lib.hid hp3; have HST3 := Lib.hid hst3; have HSO3 := Lib.hid hso3
                    clear hr3 hbl3 hp3 hst3 hso3
                    go_wp2
                    go_end0
                    refine ⟨rfl, f3, HR3.out, HBL2.out.trans HBL3.out, HP3.out.trans HP2.out, hfin.out f3 HST3.out fun hG => HSO3.out ⟨(hG.1.stp (HROT.out.stp hsm hmt) (by omega)).stp HST2.out (by omega), ?_, ?_, ?_⟩⟩
                    · exact (HROT.out.srtHi hG.2.1 (by omega) (by omega) hsm hmt).eq fun k hk _ => HST2.out.out k (.inr hk)
                    · exact (hG.2.2.1.sub hmt (Nat.le_refl _)).eq fun k hk _ => (HST2.out.out k (.inr (by omega))).trans (HROT.out.out k (.inr hk))
                    · have hT := HROT.out.tagHi (mid := mid) hG.2.2.2 (by omega) (by omega) hsm hmt htb
                      intro p q h1 h2 h3 h4
                      rw [HST2.out.out p (.inr h1), HST2.out.out q (.inr (by omega))]
                      exact hT p q h1 h2 h3 h4
                  · go_wp2
                    go_end0
                    refine ⟨rfl, f2, HR2.out, HBL2.out, HP2.out, hfin.out f2 (Stp.rf _ _ _) fun hG => ?_⟩
                    have := HROT.out.srtHi (mid := mid) hG.2.1 (by omega) (by omega) hsm hmt
                    rw [show t = b by omega] at this
                    exact this.eq fun k hk _ => HST2.out.out k (.inr hk)
                · go_wp2
                  go_end0
                  refine ⟨rfl, f2, HR2.out, HBL2.out, HP2.out, hfin.out f2 (Stp.rf _ _ _) fun hG => ?_⟩
                  exact ((hG.2.2.1.sub (by omega) (Nat.le_refl _)).eq (g := f2) fun k hk _ => (HST2.out.out k (.inr hk)).trans (HROT.out.out k (.inr (by omega)))).sub (Nat.le_refl _) (Nat.le_refl _)
theorem merge_any {base g n c : Nat} (hl : n ≤ 20000000) : ∀ N, MrgC base g n c N := by
  intro N
  induction N with
  | zero => intro a m b f w h1 h2 h3; omega
  | succ N ih =>
    intro a m b f w h1 h2 h3 h4 h5
    by_cases c1 : m = a + 1
    · exact merge_one hl h2 h3 h4 h5 c1
    · by_cases c2 : b = m + 1
      · exact merge_two hl h2 h3 h4 h5 c1 c2
      · exact merge_more hl ih h1 h2 h3 h4 h5 c1 c2
end Go.Proofs.YtgphjnhbheimiaaDoor
