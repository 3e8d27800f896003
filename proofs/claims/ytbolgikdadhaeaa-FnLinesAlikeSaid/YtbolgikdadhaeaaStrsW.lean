/-
  The walks of laws.zzFits3 and spec.SizeOf. No condition but lengths.
-/
import Derived.Test.YtbolgikdadhaeaaLinesP
import Derived.Test.YtbolgikdadhaeaaSmall
namespace Go.Proofs.Ytbolgikdadhaeaa
set_option linter.unusedVariables false
open Go.RowKit

def szS : List ByteArray → Nat
  | [] => 0
  | x :: l => x.size + 1 + szS l
def szSR (ss : List ByteArray) : Int := if szS ss ≤ 1000000 then (szS ss : Int) else 1000001
theorem szS_append (a b : List ByteArray) : szS (a ++ b) = szS a + szS b := by
  induction a with
  | nil => simp [szS]
  | cons x l ih => simp [szS, ih]; omega
theorem take_snoc_sx (ss : List ByteArray) (k : Nat) (h : k < ss.length) : ss.take (k + 1) = ss.take k ++ [sx ss k] := by
  rw [List.take_add_one, List.getElem?_eq_getElem h]
  simp [sx, h]
theorem szS_take (ss : List ByteArray) (k : Nat) (h : k < ss.length) : szS (ss.take (k + 1)) = szS (ss.take k) + ((sx ss k).size + 1) := by
  rw [take_snoc_sx ss k h, szS_append]
  simp [szS]
theorem szS_take_le (ss : List ByteArray) (k : Nat) : szS (ss.take k) ≤ szS ss := by
  conv => rhs; rw [← List.take_append_drop k ss, szS_append]
  omega
theorem len_le_szS (ss : List ByteArray) : ss.length ≤ szS ss := by
  induction ss with
  | nil => simp [szS]
  | cons x l ih => simp [szS]; omega
theorem szSR_le {ss : List ByteArray} (h : ¬ (1000000 : Int) < szSR ss) : szS ss ≤ 1000000 := by
  unfold szSR at h
  split at h
  · assumption
  · omega
theorem szSR_nonneg (ss : List ByteArray) : 0 ≤ szSR ss ∧ szSR ss ≤ 9223372036854775807 := by
  unfold szSR
  split <;> omega

theorem sx_mem (ss : List ByteArray) (k : Nat) (h : k < ss.length) : sx ss k ∈ ss := by
  simp [sx, h]

set_option maxHeartbeats 400000 in
theorem zzFits3_any (A : Option Addr) (c : Nat) (ss : List ByteArray) (w : World) (hr : StrsR w A ss) (hl : ss.length ≤ maxLen) (hn : ∀ x ∈ ss, x.size ≤ maxLen) :
   Calls Try.prog 27 #[.slice A ss.length c] w fun e w' => (∃ b, e = .returned (.bool b)) ∧ w' = w := by
  unfold maxLen at hl
  have HN := Lib.hid hn; clear hn
  have HR := Lib.hid hr; clear hr
  obtain ⟨n, hln⟩ : ∃ n, ss.length = n := ⟨_, rfl⟩
  rw [hln] at hl ⊢
  have HL := Lib.hid hln; clear hln
  by_cases hbig : n ≤ 2147483647
  · go_enter Try.func27, Try.ntmps27
    go_wp2
    go_loop [10] (fun i => ∃ k : Nat, k ≤ n ∧ i = .int .i64 k) (fun i => n - (intOf i).toNat)
    case atStart => exact ⟨0, by omega, rfl⟩
    case round =>
      obtain ⟨k, hk, rfl⟩ := hrel
      by_cases hlt : k < n
      · obtain ⟨b, off, rfl, hbb, g1⟩ := HR.out.at_ (k := k) (by rw [HL.out]; exact hlt)
        have hsz := HN.out (sx ss k) (sx_mem ss k (by rw [HL.out]; exact hlt))
        unfold maxLen at hsz
        by_cases hb2 : 2147483647 < (sx ss k).size
        · go_wp2
          go_ret
          exact ⟨.inl rfl, rfl⟩
        · go_wp2
          go_round
          case rel => exact ⟨k + 1, by omega, by go_num⟩
          case measure => simp [intOf]; omega
      · go_wp2
        go_ret
        exact ⟨.inr rfl, rfl⟩
  · go_enter Try.func27, Try.ntmps27
    go_wp2
    go_ret
    exact ⟨⟨_, rfl⟩, rfl⟩

set_option maxHeartbeats 400000 in
/-- spec.SizeOf -/
theorem sizeOf_any (A : Option Addr) (c : Nat) (ss : List ByteArray) (w : World) (hr : StrsR w A ss) (hl : ss.length ≤ maxLen) (hn : ∀ x ∈ ss, x.size ≤ maxLen) :
   Calls Try.prog 28 #[.slice A ss.length c] w fun e w' => e = .returned (.int .i64 (szSR ss)) ∧ w' = w := by
  unfold maxLen at hl
  have HN := Lib.hid hn; clear hn
  have HR := Lib.hid hr; clear hr
  obtain ⟨n, hln⟩ : ∃ n, ss.length = n := ⟨_, rfl⟩
  rw [hln] at hl ⊢
  have HL := Lib.hid hln; clear hln
  go_enter Try.func28, Try.ntmps28
  go_wp2
  go_loop [3, 8] (fun s i => ∃ k : Nat, k ≤ n ∧ i = .int .i64 k ∧ s = .int .i64 (szS (ss.take k)) ∧ szS (ss.take k) ≤ 1000000) (fun _ i => n - (intOf i).toNat)
  case atStart => exact ⟨0, by omega, rfl, rfl, by simp [szS]⟩
  case round =>
    obtain ⟨k, hk, rfl, rfl, hs⟩ := hrel
    by_cases hlt : k < n
    · obtain ⟨b, off, rfl, hbb, g1⟩ := HR.out.at_ (k := k) (by rw [HL.out]; exact hlt)
      have hsz := HN.out (sx ss k) (sx_mem ss k (by rw [HL.out]; exact hlt))
      unfold maxLen at hsz
      have ht := szS_take ss k (by rw [HL.out]; exact hlt)
      have HT := Lib.hid ht; clear ht
      have hle := szS_take_le ss (k + 1)
      generalize hS : szS (ss.take k) = S at *
      generalize hZ : sx ss k = Z at *
      clear hZ hS
      by_cases hbig : (1000000 : Int) - S ≤ Z.size
      · go_wp2
        go_ret
        exact ⟨ret_int (by have := HT.out; rw [szSR, if_neg (by omega)]), rfl⟩
      · go_wp2
        go_round
        case rel => exact ⟨k + 1, by omega, by go_num, by rw [HT.out]; go_num, by rw [HT.out]; omega⟩
        case measure => simp [intOf]; omega
    · go_wp2
      go_ret
      exact ⟨ret_int (by have : ss.take k = ss := List.take_of_length_le (by rw [HL.out]; omega); rw [this] at hs ⊢; rw [szSR, if_pos hs]), rfl⟩
end Go.Proofs.Ytbolgikdadhaeaa
