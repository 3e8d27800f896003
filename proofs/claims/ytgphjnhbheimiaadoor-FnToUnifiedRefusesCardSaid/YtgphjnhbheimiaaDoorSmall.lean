/-
  The small functions of the statements' own package: which inputs are too long, what is within the size bound. No condition.
-/
import Derived.Test.YtgphjnhbheimiaaDoorProg
import Derived.Test.YtgphjnhbheimiaaDoorPlain
import Derived.Deep.QuietTactic
import Derived.BigQuiet
import Derived.Outline
namespace Go.Proofs.YtgphjnhbheimiaaDoor
set_option linter.unusedVariables false
open Go.RowKit

set_option maxHeartbeats 400000 in
theorem zzFits2_any (s e : Int) (n : ByteArray) (w : World) (hn : n.size ≤ maxLen) :
   Calls Tryd.prog 11 #[.agg #[.int .i64 s, .int .i64 e, .string n]] w fun e w' => (∃ b, e = .returned (.bool b)) ∧ Below w.heap.size w w' := by
  unfold maxLen at hn
  by_cases h : n.size ≤ 2147483647
  all_goals
    go_enter Tryd.func11, Tryd.ntmps11
    go_wp2
    go_ret
    exact ⟨⟨_, rfl⟩, (Below.refl _ _).alloc (Nat.le_refl _) _⟩

set_option maxHeartbeats 400000 in
theorem zzFits1_any (A : Option Addr) (c : Nat) (es : List Ed) (w : World) (hr : EdsR w A es) (hl : es.length ≤ maxLen) (hn : ∀ k, k < es.length → (eN es k).size ≤ maxLen) :
   Calls Tryd.prog 4 #[.slice A es.length c] w fun e w' => (∃ b, e = .returned (.bool b)) ∧ Below w.heap.size w w' := by
  unfold maxLen at hl
  have HN := Lib.hid hn; clear hn
  have HR := Lib.hid hr; clear hr
  obtain ⟨n, hln⟩ : ∃ n, es.length = n := ⟨_, rfl⟩
  rw [hln] at hl ⊢
  have HL := Lib.hid hln; clear hln
  by_cases hbig : n ≤ 2147483647
  · go_enter Tryd.func4, Tryd.ntmps4
    go_wp2
    go_loopw [10] (fun i wr => ∃ k : Nat, k ≤ n ∧ i = .int .i64 k ∧ Below w.heap.size w wr) (fun i _ => n - (intOf i).toNat)
    case atStart => exact ⟨0, by omega, rfl, Below.refl _ _⟩
    case round =>
      obtain ⟨k, hk, rfl, hb⟩ := hrel
      by_cases hlt : k < n
      · obtain ⟨b, off, rfl, hbb, g1, g2, g3⟩ := (EdsR.below HR.out hb (Nat.le_refl _)).at_ (k := k) (by rw [HL.out]; exact hlt)
        have hsz := HN.out k (by rw [HL.out]; exact hlt)
        have hbs := hb.size
        go_wp2_with (fail)
        refine (zzFits2_any _ _ _ _ hsz).mono ?_
        rintro e w1 ⟨⟨bb, rfl⟩, hb1⟩
        have hb2 : Below w.heap.size w w1 := (hb.alloc hb.size _).trans (hb1.mono (by simp; omega))
        cases bb
        · go_wp2
          go_ret
          exact ⟨⟨_, rfl⟩, hb2⟩
        · go_wp2
          go_roundw
          case rel => exact ⟨k + 1, by omega, by go_num, hb2⟩
          case measure => simp [intOf]; omega
      · go_wp2
        go_ret
        exact ⟨⟨_, rfl⟩, hb⟩
  · go_enter Tryd.func4, Tryd.ntmps4
    go_wp2
    go_ret
    exact ⟨⟨_, rfl⟩, Below.refl _ _⟩


set_option maxHeartbeats 400000 in
/-- spec.TooLong: whether numbers that are not below 0 are together more than a million. -/
theorem tooLong_any (A : Option Addr) (c : Nat) (zs : List Int) (w : World) (hr : IntsR .i64 w A zs) (hl : zs.length ≤ 100) (hn : ∀ x ∈ zs, 0 ≤ x ∧ x ≤ 9223372036854775807) :
   Calls Tryd.prog 5 #[.slice A zs.length c] w fun e w' => e = .returned (.bool (decide (1000000 < sumI zs))) ∧ w = w' := by
  have hn0 : ∀ x ∈ zs, 0 ≤ x := fun x hx => (hn x hx).1
  have HN := Lib.hid hn; clear hn
  have HR := Lib.hid hr; clear hr
  obtain ⟨n, hln⟩ : ∃ n, zs.length = n := ⟨_, rfl⟩
  rw [hln] at hl ⊢
  have HL := Lib.hid hln; clear hln
  have H0 := Lib.hid hn0; clear hn0
  go_enter Tryd.func5, Tryd.ntmps5
  go_wp2
  go_loop [3, 5, 8] (fun s v i => ∃ k : Nat, k ≤ n ∧ i = .int .i64 k ∧ s = .int .i64 (sumI (zs.take k)) ∧ sumI (zs.take k) ≤ 1000000) (fun _ _ i => n - (intOf i).toNat)
  case atStart => exact ⟨0, by omega, rfl, rfl, by simp [sumI]⟩
  case round =>
    obtain ⟨k, hk, rfl, rfl, hs⟩ := hrel
    have hs0 : 0 ≤ sumI (zs.take k) := sumI_nonneg _ (fun x hx => H0.out x (List.mem_of_mem_take hx))
    by_cases hlt : k < n
    · obtain ⟨b, off, rfl, hbb, g1⟩ := HR.out.at_ (k := k) (by rw [HL.out]; exact hlt)
      have hx := HN.out _ (ix_mem zs k (by rw [HL.out]; exact hlt))
      obtain ⟨hx0, hx1⟩ := hx
      have ht := sumI_take zs k (by rw [HL.out]; exact hlt)
      have HT := Lib.hid ht; clear ht
      generalize hS : sumI (zs.take k) = S at *
      generalize hX : ix zs k = X at *
      have hle := sumI_take_le zs (k + 1) H0.out
      clear hS hX
      by_cases hbig : 1000000 - S < X
      · go_wp2
        go_ret
        exact ⟨ret_bool (by have := HT.out; symm; simp; omega), rfl⟩
      · go_wp2
        go_round
        case rel => exact ⟨k + 1, by omega, by go_num, by rw [HT.out], by rw [HT.out]; omega⟩
        case measure => simp [intOf]; omega
    · go_wp2
      go_ret
      exact ⟨ret_bool (by have : zs.take k = zs := List.take_of_length_le (by rw [HL.out]; omega); rw [this] at hs; symm; simp; omega), rfl⟩

set_option maxHeartbeats 400000 in
/-- spec.SizeOfEdits -/
theorem sizeOfEdits_any (A : Option Addr) (c : Nat) (es : List Ed) (w : World) (hr : EdsR w A es) (hl : es.length ≤ maxLen) (hn : ∀ k, k < es.length → (eN es k).size ≤ maxLen) :
   Calls Tryd.prog 6 #[.slice A es.length c] w fun e w' => e = .returned (.int .i64 (szR es)) ∧ Below w.heap.size w w' := by
  unfold maxLen at hl
  have HN := Lib.hid hn; clear hn
  have HR := Lib.hid hr; clear hr
  obtain ⟨n, hln⟩ : ∃ n, es.length = n := ⟨_, rfl⟩
  rw [hln] at hl ⊢
  have HL := Lib.hid hln; clear hln
  go_enter Tryd.func6, Tryd.ntmps6
  go_wp2
  go_loopw [3, 5, 8] (fun s v i wr => ∃ k : Nat, k ≤ n ∧ i = .int .i64 k ∧ s = .int .i64 (szE (es.take k)) ∧ szE (es.take k) ≤ 1000000 ∧ Below w.heap.size w wr) (fun _ _ i _ => n - (intOf i).toNat)
  case atStart => exact ⟨0, by omega, rfl, rfl, by simp [szE], Below.refl _ _⟩
  case round =>
    obtain ⟨k, hk, rfl, rfl, hs, hb⟩ := hrel
    by_cases hlt : k < n
    · obtain ⟨b, off, rfl, hbb, g1, g2, g3⟩ := (EdsR.below HR.out hb (Nat.le_refl _)).at_ (k := k) (by rw [HL.out]; exact hlt)
      have hsz := HN.out k (by rw [HL.out]; exact hlt)
      unfold maxLen at hsz
      have hbs := hb.size
      have ht := szE_take es k (by rw [HL.out]; exact hlt)
      have HT := Lib.hid ht; clear ht
      have hle := szE_take_le es (k + 1)
      generalize hS : szE (es.take k) = S at *
      have h2 : Below w.heap.size w (wr.alloc (.cells #[.int .i64 (eS es k), .int .i64 (eE es k), .string (eN es k)] 33)) := hb.alloc hb.size _
      have H2 := Lib.hid h2; clear h2 hS
      generalize hZ : eN es k = Z at *
      clear hZ
      by_cases hbig : (1000000 : Int) - S ≤ Z.size
      · go_wp2
        go_ret
        exact ⟨ret_int (by have := HT.out; rw [szR, if_neg (by omega)]), H2.out⟩
      · go_wp2
        go_roundw
        case rel => exact ⟨k + 1, by omega, by go_num, by rw [HT.out]; go_num, by rw [HT.out]; omega, H2.out⟩
        case measure => simp [intOf]; omega
    · go_wp2
      go_ret
      exact ⟨ret_int (by have : es.take k = es := List.take_of_length_le (by rw [HL.out]; omega); rw [this] at hs ⊢; rw [szR, if_pos hs]), hb⟩
end Go.Proofs.YtgphjnhbheimiaaDoor
