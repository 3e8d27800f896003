/-
  The small functions of the statements' own package: which inputs are too long, what is within the size bound. No condition.
-/
import Derived.Test.YtgphjnhbheimiaaGreatDoorProg
import Derived.Test.YtgphjnhbheimiaaGreatDoorPlain
import Derived.Deep.QuietTactic
import Derived.BigQuiet
import Derived.Outline
namespace Go.Proofs.YtgphjnhbheimiaaGreatDoor
set_option linter.unusedVariables false
open Go.RowKit

set_option maxHeartbeats 400000 in
/-- spec.TooLong: whether numbers that are not below 0 are together more than a million. -/
theorem tooLong_any (A : Option Addr) (c : Nat) (zs : List Int) (w : World) (hr : IntsR .i64 w A zs) (hl : zs.length ≤ 100) (hn : ∀ x ∈ zs, 0 ≤ x ∧ x ≤ 9223372036854775807) :
   Calls Tryz.prog 5 #[.slice A zs.length c] w fun e w' => e = .returned (.bool (decide (1000000 < sumI zs))) ∧ w = w' := by
  have hn0 : ∀ x ∈ zs, 0 ≤ x := fun x hx => (hn x hx).1
  have HN := Lib.hid hn; clear hn
  have HR := Lib.hid hr; clear hr
  obtain ⟨n, hln⟩ : ∃ n, zs.length = n := ⟨_, rfl⟩
  rw [hln] at hl ⊢
  have HL := Lib.hid hln; clear hln
  have H0 := Lib.hid hn0; clear hn0
  go_enter Tryz.func5, Tryz.ntmps5
  go_wp2
  go_loop [3, 5, 8] (fun s v i => ∃ k : Nat, k ≤ n ∧ i = .int .i64 k ∧ s = .int .i64 (sumI (zs.take k)) ∧ sumI (zs.take k) ≤ 1000000) (fun _ _ i => n - (intOf i).toNat)
  case atStart => exact ⟨0, by omega, rfl, rfl, by simp [sumI]⟩
  case round =>
    obtain ⟨k, hk, rfl, rfl, hs⟩ := hrel
    have hs0 : 0 ≤ sumI (zs.take k) := sumI_nonneg _ (fun x hx => H0.out x (List.mem_of_mem_take hx))
    by_cases hlt : k < n
    · obtain ⟨b, off, rfl, hbb, g1⟩ := HR.out.at_ (k := k) (by rw [HL.out]; exact hlt)
      have hx := HN.out _ (ix_mem zs k (by rw [HL.out]; exact hlt))
      obtain ⟨hx0, hx1⟩ := hx
      have ht := sumI_take zs k (by rw [HL.out]; exact hlt)
      have HT := Lib.hid ht; clear ht
      generalize hS : sumI (zs.take k) = S at *
      generalize hX : ix zs k = X at *
      have hle := sumI_take_le zs (k + 1) H0.out
      clear hS hX
      by_cases hbig : 1000000 - S < X
      · go_wp2
        go_ret
        exact ⟨ret_bool (by have := HT.out; symm; simp; omega), rfl⟩
      · go_wp2
        go_round
        case rel => exact ⟨k + 1, by omega, by go_num, by rw [HT.out], by rw [HT.out]; omega⟩
        case measure => simp [intOf]; omega
    · go_wp2
      go_ret
      exact ⟨ret_bool (by have : zs.take k = zs := List.take_of_length_le (by rw [HL.out]; omega); rw [this] at hs; symm; simp; omega), rfl⟩

end Go.Proofs.YtgphjnhbheimiaaGreatDoor
