/-
  The walks of zzIndex and zzContains, asked for the end of a line. Condition: texts of at most 4000000 bytes.
-/
import Derived.Test.YtgphjnhbheimiaaDoorLineX
import Derived.Lib.Hide
import Derived.Lib.Strings
import Derived.LoopTactic
import Derived.Below
import Derived.IntWalk
namespace Go.Proofs.YtgphjnhbheimiaaDoor
set_option linter.unusedVariables false
open Go.RowKit

/-- where the first end of a line is, from a place on -/
def nlIx (s : ByteArray) : Nat → Nat → Int
  | 0, _ => -1
  | f + 1, k => if k < s.size then (if byteAt s k = 10 then (k : Int) else nlIx s f (k + 1)) else -1
theorem nlIx_end (s : ByteArray) (f k : Nat) (h : ¬ k < s.size) : nlIx s f k = -1 := by
  cases f with
  | zero => rfl
  | succ f => simp [nlIx, h]
theorem nlIx_has (s : ByteArray) : ∀ f k, s.size ≤ k + f → (0 ≤ nlIx s f k ↔ hasNl s k s.size = true) := by
  intro f
  induction f with
  | zero =>
    intro k h
    rw [nlIx_end s 0 k (by omega), hasNl_iff]
    constructor
    · intro h; omega
    · rintro ⟨j, h1, h2, _⟩; omega
  | succ f ih =>
    intro k h
    unfold nlIx
    by_cases hk : k < s.size
    · rw [if_pos hk]
      by_cases hb : byteAt s k = 10
      · rw [if_pos hb]
        exact ⟨fun _ => hasNl_iff.2 ⟨k, by omega, hk, hb⟩, fun _ => by omega⟩
      · rw [if_neg hb, ih (k + 1) (by omega), hasNl_iff, hasNl_iff]
        constructor
        · rintro ⟨j, h1, h2, h3⟩; exact ⟨j, by omega, h2, h3⟩
        · rintro ⟨j, h1, h2, h3⟩
          have : k ≠ j := fun e => hb (e ▸ h3)
          exact ⟨j, by omega, h2, h3⟩
    · rw [if_neg hk, hasNl_iff]
      constructor
      · intro h; omega
      · rintro ⟨j, h1, h2, _⟩; omega
theorem one_nl {s : ByteArray} {k : Nat} (h : k < s.size) : ((s.extract k (k + 1)).toList == [10]) = decide (byteAt s k = 10) := by
  have e0 : ([10] : List UInt8) = (⟨#[10]⟩ : ByteArray).toList := by simp [ByteArray.toList_eq]
  rw [e0]
  have e : s.extract k (k + 1) = ⟨#[s[k]'h]⟩ := by
    apply ByteArray.ext
    apply Array.ext'
    have h2 : k < s.data.toList.length := by simpa using h
    rw [Lib.extract_data, List.drop_eq_getElem_cons h2]
    simp
    rfl
  rw [e]
  by_cases hb : byteAt s k = 10
  · rw [decide_eq_true hb]
    rw [byteAt_get s k h] at hb
    have : s[k]'h = 10 := UInt8.toNat_inj.1 hb
    rw [this]
    simp
  · rw [decide_eq_false hb]
    refine strEq_false fun hh => hb ?_
    rw [byteAt_get s k h]
    have := congrArg (fun b : ByteArray => b.data.toList) hh
    simp at this
    rw [this]
    rfl
set_option maxRecDepth 100000 in
theorem zzIndex_any (s : ByteArray) (w : World) (hs : s.size ≤ 4000000) :
    Calls Tryd.prog 36 #[.string s, .string ⟨#[10]⟩] w fun e w' => e = .returned (.int .i64 (nlIx s s.size 0)) ∧ w' = w := by
  have hone := fun k (h : k < s.size) => one_nl (s := s) (k := k) h
  have HONE := Lib.hid hone; clear hone
  go_enter Tryd.func36, Tryd.ntmps36
  go_wp2
  go_loop [5] (fun i => ∃ k f : Nat, k ≤ s.size ∧ i = .int .i64 k ∧ s.size ≤ k + f ∧ Hid (nlIx s f k = nlIx s s.size 0)) (fun i => s.size - (intOf i).toNat)
  case atStart => exact ⟨0, s.size, Nat.zero_le _, rfl, by omega, Lib.hid rfl⟩
  case round =>
    obtain ⟨k, f, hk, rfl, hf, hN⟩ := hrel
    by_cases hlt : k < s.size
    · have he := HONE.out k hlt
      obtain ⟨f, rfl⟩ : ∃ f', f = f' + 1 := ⟨f - 1, by omega⟩
      by_cases hb : byteAt s k = 10
      · have hn : nlIx s s.size 0 = (k : Int) := by
          rw [← hN.out]; simp [nlIx, hlt, hb]
        rw [decide_eq_true hb] at he
        have HN := Lib.hid hn
        clear hN hb hn
        go_wp2
        go_ret
        exact ⟨by rw [HN.out]; rfl, rfl⟩
      · have hn : nlIx s f (k + 1) = nlIx s s.size 0 := by
          rw [← hN.out]; simp [nlIx, hlt, hb]
        have HN := Lib.hid hn
        rw [decide_eq_false hb] at he
        clear hN hb hn
        go_wp2
        go_round
        case rel => exact ⟨k + 1, f, by omega, by go_num, by omega, HN⟩
        case measure => simp [intOf]; omega
    · have hn : nlIx s s.size 0 = -1 := by
        rw [← hN.out]; exact nlIx_end s f k hlt
      have HN := Lib.hid hn
      clear hN hn
      go_wp2
      go_ret
      exact ⟨by rw [HN.out]; rfl, rfl⟩
set_option maxRecDepth 100000 in
theorem zzContains_any (s : ByteArray) (w : World) (hs : s.size ≤ 4000000) :
    Calls Tryd.prog 27 #[.string s, .string ⟨#[10]⟩] w fun e w' => e = .returned (.bool (hasNl s 0 s.size)) ∧ w' = w := by
  have hi := zzIndex_any s w hs
  have hh := nlIx_has s s.size 0 (by omega)
  generalize nlIx s s.size 0 = p at *
  generalize hasNl s 0 s.size = b at *
  have HI := Lib.hid hi; clear hi
  have hd : decide ((0 : Int) ≤ p) = b := by
    cases b
    · simp; simp at hh; omega
    · simp; simpa using hh
  clear hh
  go_enter Tryd.func27, Tryd.ntmps27
  go_wp2_with fail
  refine HI.out.mono ?_
  rintro e w1 ⟨rfl, rfl⟩
  go_wp2
  go_ret
  exact ⟨by rw [← hd]; rfl, rfl⟩
end Go.Proofs.YtgphjnhbheimiaaDoor
