/-
  The walk of spec.OfRunes. Condition: at most two million elements.
-/
import Derived.Test.YtbolgikdadhaeaaLcsS
namespace Go.Proofs.Ytbolgikdadhaeaa
set_option linter.unusedVariables false
open Go.RowKit

set_option maxHeartbeats 400000 in
/-- spec.OfRunes: code points as numbers. -/
theorem ofRunes_any (A : Option Addr) (c : Nat) (zs : List Int) (w : World) (hr : IntsR .i32 w A zs) (hl : zs.length ≤ 2000002) (hw : ∀ n ∈ zs, (Lit.int .i32 n).wf = true) :
   Calls Try.prog 32 #[.slice A zs.length c] w (IntRes w zs) := by
  have HR := Lib.hid hr; have HW := Lib.hid hw; clear hr hw
  obtain ⟨n, hln⟩ : ∃ n, zs.length = n := ⟨_, rfl⟩
  rw [hln] at hl ⊢
  have HL := Lib.hid hln; clear hln
  obtain ⟨i0, hi, hz0, hz1, hz2⟩ := info_parts infoII
  go_enter Try.func32, Try.ntmps32
  go_wp2
  go_loopw [3, 9] (fun v i wr => ∃ k : Nat, k ≤ n ∧ i = .int .i64 k ∧ wr.ownsRow w.heap.size 3 1 v k (intCells .i64 (zs.take k)) ∧ Below w.heap.size w wr) (fun _ i _ => n - (intOf i).toNat)
  case atStart => exact ⟨0, by omega, rfl, World.ownsRow_made w #[] 0 (Nat.le_refl _) (by simp [maxLen]) rfl, (Below.refl _ _).alloc (Nat.le_refl _) _⟩
  case round =>
    obtain ⟨k, hk, rfl, hown, hb⟩ := hrel
    by_cases hlt : k < n
    · have hkl : k < zs.length := by rw [HL.out]; exact hlt
      obtain ⟨b, off, rfl, hbb, g1⟩ := (IntsR.below HR.out hb (Nat.le_refl _)).at_ hkl
      have hbs := hb.size
      have ht := intTake .i64 zs k hkl
      have hwx := HW.out _ (ix_mem zs k hkl)
      obtain ⟨p, hp⟩ : ∃ p, ix zs k = p := ⟨_, rfl⟩
      rw [hp] at g1 ht hwx
      have hp1 : -2147483648 ≤ p ∧ p ≤ 2147483647 := by
        simp [Lit.wf, IntKind.min, IntKind.max, IntKind.bits, IntKind.signed] at hwx
        omega
      have HT := Lib.hid ht; clear ht hp hwx
      have HO := Lib.hid hown; clear hown
      go_wp2_with (at_builtin; refine wpList_append_any _ rfl (.tmp 13) (.tmp 16) _ rfl w.heap.size 3 i0 _ 1 8 Try.underlying29 hi hz0 hz1 hz2 rfl (by omega) u3 k (intCells .i64 (zs.take k)) rfl (HO.out.alloc _) (some ⟨wr.heap.size, 0, none⟩) 1 1 (intCells .i64 [p]) rfl (int_lit1 _ _ _) rfl (intCells_one _ _) (by unfold maxLen; omega) (by omega) (by simp; omega) ?_; intro A1 c1 w1 hown1 hg1 hat1)
      go_wp2
      go_roundw
      case rel => exact ⟨k + 1, by omega, by go_num, by rw [HT.out]; exact hown1, ((hb.alloc hb.size _).grown hg1 (by simp; omega) (fun g hg => (HO.out.lt g hg).1))⟩
      case measure => simp [intOf]; omega
    · have hkn : k = n := by omega
      subst hkn
      go_wp2
      go_ret
      have e1 : zs.take k = zs := List.take_of_length_le (by rw [HL.out]; omega)
      rw [e1] at hown
      obtain ⟨A', c', hv⟩ := own_form hown
      subst hv
      exact ⟨A', c', by rw [HL.out]; rfl, by rw [HL.out]; exact hown, hb⟩
end Go.Proofs.Ytbolgikdadhaeaa
