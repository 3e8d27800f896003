/-
  The code points of a text, and the texts that they make: plainly. No condition.
  Where code points begin; texts made of code points are in UTF-8. Plainly. No condition.
  The walks of isASCII, utf8.RuneLen and runesLen. Condition: texts of at most 4000000 bytes.
  The walk of diffASCII: edits out of the differences of bytes. DiffBytes' contract is a premise. Condition: texts of single bytes below 128, at most 1000000 each.
  The walk of diffRunes: edits out of the differences of code points. DiffRunes' contract is a premise. Condition: texts of at most 1000000 bytes.
  What is known of the edits between two texts by code points. Plainly. Condition: texts of at most 1000000 bytes together.
  The walks of diff.Strings and impl.Strings. The contracts of DiffBytes and DiffRunes are premises. Condition: texts of at most 1000000 bytes.
-/
import Derived.Test.YtgjbagojcbondaaGreatDoorTextM
import Derived.Lib.MapLaws
import Derived.Lib.RuneCountTail
import Derived.Laws.Cover4
import Derived.Laws.IdiomStrings
import Derived.Test.YtgjbagojcbondaaGreatDoorTxtA
import Derived.Test.YtgjbagojcbondaaGreatDoorKit
import Derived.IntWalk
import Derived.Test.YtgjbagojcbondaaGreatDoorLcsI
import Derived.Test.YtgjbagojcbondaaGreatDoorTxtC
import Derived.Laws.BytesString
import Derived.Deep.RegionHeld3
import Derived.Deep.CutRange
import Derived.Deep.DeepCutAuto
import Derived.Test.YtgjbagojcbondaaGreatDoorLcsB
import Derived.Test.YtgjbagojcbondaaGreatDoorLcsW8
import Derived.Lib.ConvBytes
namespace Go.Proofs.YtgjbagojcbondaaGreatDoor
set_option linter.unusedVariables false
open Go.RowKit

/-- the code points from a place on -/
def rnF (s : ByteArray) : Nat → Nat → List Int
  | 0, _ => []
  | f + 1, i => if i < s.size then ((Utf8.decode s i).1 : Int) :: rnF s f (i + (Utf8.decode s i).2) else []
def runesF (s : ByteArray) : List Int := rnF s s.size 0
theorem rnF_end (s : ByteArray) (f i : Nat) (h : ¬ i < s.size) : rnF s f i = [] := by
  cases f with
  | zero => rfl
  | succ f => simp [rnF, h]
theorem conv_rnF (s : ByteArray) : ∀ b i acc, Conv.runesFrom s b i acc = acc ++ ((rnF s b i).map (Value.int .i32)).toArray := by
  intro b
  induction b with
  | zero => intro i acc; simp [Conv.runesFrom, rnF]
  | succ b ih =>
    intro i acc
    unfold Conv.runesFrom rnF
    by_cases h : i < s.size
    · rw [if_pos h, if_pos h]
      simp only [ih]
      simp
    · rw [if_neg h, if_neg h]
      simp
theorem conv_runes (s : ByteArray) : Conv.runesFrom s s.size 0 #[] = (intCells .i32 (runesF s)).toArray := by
  rw [conv_rnF]
  simp [runesF, intCells]
theorem rnF_len (s : ByteArray) : ∀ f i, (rnF s f i).length ≤ f := by
  intro f
  induction f with
  | zero => intro i; simp [rnF]
  | succ f ih =>
    intro i
    unfold rnF
    split
    · have := ih (i + (Utf8.decode s i).2)
      simp; omega
    · simp
theorem runesF_len (s : ByteArray) : (runesF s).length ≤ s.size := rnF_len s _ _
theorem rnF_count (s : ByteArray) : ∀ f i, (rnF s f i).length = Lib.runeCountFrom s f i := by
  intro f
  induction f with
  | zero => intro i; rfl
  | succ f ih =>
    intro i
    unfold rnF Lib.runeCountFrom
    split
    · simp [ih]; omega
    · rfl
theorem runesF_count (s : ByteArray) : (runesF s).length = Lib.runeCount s := rnF_count s _ _
/-- more fuel than bytes left turns nothing -/
theorem rnF_fuel (s : ByteArray) : ∀ f g i, s.size ≤ i + f → s.size ≤ i + g → rnF s f i = rnF s g i := by
  intro f
  induction f with
  | zero => intro g i h1 h2; rw [rnF_end s g i (by omega)]; rfl
  | succ f ih =>
    intro g i h1 h2
    cases g with
    | zero => rw [rnF_end s (f + 1) i (by omega)]; rfl
    | succ g =>
      unfold rnF
      by_cases h : i < s.size
      · have := Lib.decode_width_pos s i h
        rw [if_pos h, if_pos h, ih g _ (by omega) (by omega)]
      · rw [if_neg h, if_neg h]
/-- what a decoded code point is -/
theorem decode_valid (s : ByteArray) (i : Nat) : Utf8.valid ((Utf8.decode s i).1 : Int) = true := by
  rw [Lib.decode_at]
  have k0 := UInt8.toNat_lt (s.get! i)
  rcases Lib.decodeN_shape (s.size - i) (s.get! i).toNat (s.get! (i + 1)).toNat (s.get! (i + 2)).toNat (s.get! (i + 3)).toNat with ⟨c, e⟩ | ⟨c1, c2, c3, cv, e⟩ | ⟨c1, c2, c3, c4, cv, cs, e⟩ | ⟨c1, c2, c3, c4, c5, cv, cw, e⟩ | e
  all_goals
    rw [e]
    simp only [Utf8.valid, Bool.or_eq_true, Bool.and_eq_true, decide_eq_true_eq]
    omega
theorem rnF_valid (s : ByteArray) : ∀ f i, ∀ r ∈ rnF s f i, Utf8.valid r = true := by
  intro f
  induction f with
  | zero => intro i r hr; cases hr
  | succ f ih =>
    intro i r hr
    unfold rnF at hr
    split at hr
    · rcases List.mem_cons.1 hr with rfl | hr
      · exact decode_valid s i
      · exact ih _ r hr
    · cases hr
theorem runesF_valid (s : ByteArray) : ∀ r ∈ runesF s, Utf8.valid r = true := rnF_valid s _ _
/-- the bytes of a code point, as a list -/
theorem enc_list (r : Int) : (Utf8.encode r).data.toList = Lib.encodeRune r := by
  unfold Utf8.encode Lib.encodeRune
  by_cases hv : Utf8.valid r = true
  · have hv' := hv
    simp only [Utf8.valid, Bool.or_eq_true, Bool.and_eq_true, decide_eq_true_eq] at hv'
    obtain ⟨n, rfl⟩ : ∃ n : Nat, r = n := ⟨r.toNat, by omega⟩
    rw [if_pos hv]
    simp only [Int.toNat_natCast]
    by_cases h1 : n < 0x80
    · rw [if_pos h1, Lib.encodeRuneZ_one (by omega) (by omega)]
      simp only [List.map_cons, List.map_nil, Int.toNat_natCast]
    · rw [if_neg h1]
      by_cases h2 : n < 0x800
      · have e1 : (192 + (n : Int) / 64).toNat = 192 + n / 64 := by omega
        have e2 : (128 + (n : Int) % 64).toNat = 128 + n % 64 := by omega
        rw [if_pos h2, Lib.encodeRuneZ_two (by omega) (by omega)]
        simp only [List.map_cons, List.map_nil, e1, e2]
      · rw [if_neg h2]
        by_cases h3 : n < 0x10000
        · have e1 : (224 + (n : Int) / 4096).toNat = 224 + n / 4096 := by omega
          have e2 : (128 + (n : Int) / 64 % 64).toNat = 128 + n / 64 % 64 := by omega
          have e3 : (128 + (n : Int) % 64).toNat = 128 + n % 64 := by omega
          rw [if_pos h3, Lib.encodeRuneZ_three (by omega)]
          simp only [List.map_cons, List.map_nil, e1, e2, e3]
        · have e1 : (240 + (n : Int) / 262144).toNat = 240 + n / 262144 := by omega
          have e2 : (128 + (n : Int) / 4096 % 64).toNat = 128 + n / 4096 % 64 := by omega
          have e3 : (128 + (n : Int) / 64 % 64).toNat = 128 + n / 64 % 64 := by omega
          have e4 : (128 + (n : Int) % 64).toNat = 128 + n % 64 := by omega
          rw [if_neg h3, Lib.encodeRuneZ_four (by omega) (by omega)]
          simp only [List.map_cons, List.map_nil, e1, e2, e3, e4]
  · rw [if_neg hv]
    simp only [Utf8.valid, Bool.or_eq_true, Bool.and_eq_true, decide_eq_true_eq] at hv
    rw [Lib.encodeRuneZ_bad (by omega)]
    rfl
theorem enc_size (r : Int) : (Utf8.encode r).size = (Lib.encodeRune r).length := by rw [← enc_list]; simp
theorem enc_pos (r : Int) : 0 < (Utf8.encode r).size ∧ (Utf8.encode r).size ≤ 4 := by
  rw [enc_size, Lib.encodeRune, List.length_map]
  have := Lib.encodeRuneZ_length r
  omega
theorem ba_ext {a b : ByteArray} (h : a.data.toList = b.data.toList) : a = b := ByteArray.ext (Array.ext' h)
/-- a code point that was read out of a text gives the bytes back -/
theorem enc_dec (s : ByteArray) (i : Nat) (h : i < s.size) (hv : ¬ ((Utf8.decode s i).1 = 65533 ∧ (Utf8.decode s i).2 = 1)) : Utf8.encode ((Utf8.decode s i).1 : Int) = s.extract i (i + (Utf8.decode s i).2) ∧ i + (Utf8.decode s i).2 ≤ s.size := by
  have ht := Lib.tail_decode s i 0
  rw [Nat.add_zero] at ht
  have hd : Lib.decodeL (s.extract i s.size).data.toList = Utf8.decode s i := by
    rw [← ht]
    unfold Lib.decodeL
    have : (⟨(s.extract i s.size).data.toList.toArray⟩ : ByteArray) = s.extract i s.size := by cases (s.extract i s.size); simp
    rw [this]
  have hsz := Lib.tail_size s i
  have hne : (s.extract i s.size).data.toList ≠ [] := fun h0 => by
    have : (s.extract i s.size).size = 0 := by rw [Lib.size_eq, h0]; rfl
    omega
  have h1 := Lib.encode_decode _ hne (by rw [hd]; exact hv)
  have h2 := Lib.decodeL_le _ hne
  rw [hd] at h1 h2
  rw [← Lib.size_eq, hsz] at h2
  refine ⟨ba_ext ?_, by omega⟩
  rw [enc_list, h1, Lib.extract_data, Lib.extract_data]
  rw [List.take_of_length_le (l := List.drop i s.data.toList) (by rw [List.length_drop, ← Lib.size_eq]; omega), Nat.add_sub_cancel_left]
/-- a text in UTF-8 -/
def wfL (s : ByteArray) : Nat → Nat → Bool
  | 0, _ => true
  | f + 1, i => if i < s.size then (if (Utf8.decode s i).1 = 65533 ∧ (Utf8.decode s i).2 = 1 then false else wfL s f (i + (Utf8.decode s i).2)) else true
def wfB (s : ByteArray) : Bool := wfL s s.size 0
theorem wfL_end (s : ByteArray) (f i : Nat) (h : ¬ i < s.size) : wfL s f i = true := by
  cases f with
  | zero => rfl
  | succ f => simp [wfL, h]
theorem wfL_fuel (s : ByteArray) : ∀ f g i, s.size ≤ i + f → s.size ≤ i + g → wfL s f i = wfL s g i := by
  intro f
  induction f with
  | zero => intro g i h1 h2; rw [wfL_end s g i (by omega)]; rfl
  | succ f ih =>
    intro g i h1 h2
    cases g with
    | zero => rw [wfL_end s (f + 1) i (by omega)]; rfl
    | succ g =>
      unfold wfL
      by_cases h : i < s.size
      · have := Lib.decode_width_pos s i h
        rw [if_pos h, if_pos h, ih g _ (by omega) (by omega)]
      · rw [if_neg h, if_neg h]
/-- the texts of the code points of a text -/
def pcsR (rs : List Int) : List ByteArray := rs.map Utf8.encode
theorem join_rnF (s : ByteArray) : ∀ f i, s.size ≤ i + f → wfL s f i = true → joinB (pcsR (rnF s f i)) = s.extract i s.size := by
  intro f
  induction f with
  | zero =>
    intro i h _
    have : s.extract i s.size = ByteArray.empty := ByteArray.extract_eq_empty_iff.2 (by omega)
    rw [this]
    rfl
  | succ f ih =>
    intro i h hw
    unfold wfL at hw
    unfold rnF
    by_cases hi : i < s.size
    · rw [if_pos hi] at hw ⊢
      by_cases hb : (Utf8.decode s i).1 = 65533 ∧ (Utf8.decode s i).2 = 1
      · rw [if_pos hb] at hw; cases hw
      · rw [if_neg hb] at hw
        have hp := Lib.decode_width_pos s i hi
        obtain ⟨h1, h2⟩ := enc_dec s i hi hb
        show Utf8.encode ((Utf8.decode s i).1 : Int) ++ joinB (pcsR (rnF s f (i + (Utf8.decode s i).2))) = _
        rw [ih _ (by omega) hw, h1, ByteArray.extract_append_extract, Nat.min_eq_left (by omega), Nat.max_eq_right (by omega)]
    · rw [if_neg hi]
      have : s.extract i s.size = ByteArray.empty := ByteArray.extract_eq_empty_iff.2 (by omega)
      rw [this]
      rfl
theorem join_runes {s : ByteArray} (h : wfB s = true) : joinB (pcsR (runesF s)) = s := by
  have := join_rnF s s.size 0 (by omega) h
  rw [ByteArray.extract_zero_size] at this
  exact this
theorem totB_pcsR (rs : List Int) : totB (pcsR rs) ≤ 4 * rs.length := by
  induction rs with
  | nil => simp [pcsR, totB]
  | cons r l ih =>
    have := (enc_pos r).2
    simp only [pcsR, List.map_cons, totB, List.length_cons] at ih ⊢
    omega
/-- at most three bytes for each byte -/
theorem dec_three (s : ByteArray) (i : Nat) (h : i < s.size) : (Utf8.encode ((Utf8.decode s i).1 : Int)).size ≤ 3 * (Utf8.decode s i).2 ∧ (i + (Utf8.decode s i).2 ≤ s.size) := by
  by_cases hb : (Utf8.decode s i).1 = 65533 ∧ (Utf8.decode s i).2 = 1
  · have h1 : (Utf8.encode ((Utf8.decode s i).1 : Int)).size = 3 := by
      rw [enc_size, Lib.encodeRune, List.length_map, Lib.encodeRuneZ_three (by have := hb.1; omega)]
      rfl
    have h2 := hb.2
    omega
  · obtain ⟨h1, h2⟩ := enc_dec s i h hb
    rw [h1, ByteArray.size_extract]
    omega
theorem totB_rnF (s : ByteArray) : ∀ f i, totB (pcsR (rnF s f i)) ≤ 3 * (s.size - i) := by
  intro f
  induction f with
  | zero => intro i; simp [rnF, pcsR, totB]
  | succ f ih =>
    intro i
    unfold rnF
    by_cases hi : i < s.size
    · rw [if_pos hi]
      have h1 := ih (i + (Utf8.decode s i).2)
      have h2 := dec_three s i hi
      simp only [pcsR, List.map_cons, totB] at h1 ⊢
      omega
    · rw [if_neg hi]
      simp [pcsR, totB]
theorem totB_runes (s : ByteArray) : totB (pcsR (runesF s)) ≤ 3 * s.size := totB_rnF s _ _
/-- the length of a code point -/
theorem runeLen_enc {r : Int} (h : Utf8.valid r = true) : Lib.runeLen r = ((Utf8.encode r).size : Int) := by
  rw [enc_size, Lib.encodeRune, List.length_map]
  simp only [Utf8.valid, Bool.or_eq_true, Bool.and_eq_true, decide_eq_true_eq] at h
  unfold Lib.runeLen Lib.encodeRuneZ
  repeat' split
  all_goals first | rfl | omega
end Go.Proofs.YtgjbagojcbondaaGreatDoor

namespace Go.Proofs.YtgjbagojcbondaaGreatDoor
set_option linter.unusedVariables false
open Go.RowKit

theorem byteAt_lft (a b : ByteArray) (k : Nat) (h : k < a.size) : byteAt (a ++ b) k = byteAt a k := by
  have h2 : k < a.data.toList.length := by simpa using h
  simp only [byteAt, ByteArray.data_append, Array.toList_append, List.getD_eq_getElem?_getD]
  rw [List.getElem?_append_left h2]
theorem byteAt_ext (s : ByteArray) (a b k : Nat) (hb : b ≤ s.size) (h : a + k < b) : byteAt (s.extract a b) k = byteAt s (a + k) := by
  have h1 : k < (s.extract a b).size := by rw [ByteArray.size_extract]; omega
  rw [byteAt_get _ _ h1, byteAt_get s (a + k) (by omega), ByteArray.getElem_extract]
theorem decN1 {n b0 b1 b2 b3 : Nat} (h : b0 < 128) : Lib.decodeN n b0 b1 b2 b3 = (b0, 1) := by unfold Lib.decodeN; rw [if_pos h]
theorem decN2 {n b0 b1 b2 b3 : Nat} (h : b0 / 32 = 6) (hn : 1 < n) (h1 : b1 / 64 = 2) (hv : 128 ≤ b0 % 32 * 64 + b1 % 64) : Lib.decodeN n b0 b1 b2 b3 = (b0 % 32 * 64 + b1 % 64, 2) := by
  unfold Lib.decodeN
  rw [if_neg (by omega), if_pos ⟨h, hn, h1⟩, if_pos hv]
theorem decN3 {n b0 b1 b2 b3 : Nat} (h : b0 / 16 = 14) (hn : 2 < n) (h1 : b1 / 64 = 2) (h2 : b2 / 64 = 2) (hv : 2048 ≤ b0 % 16 * 4096 + b1 % 64 * 64 + b2 % 64) (hs : b0 % 16 * 4096 + b1 % 64 * 64 + b2 % 64 < 55296 ∨ 57344 ≤ b0 % 16 * 4096 + b1 % 64 * 64 + b2 % 64) : Lib.decodeN n b0 b1 b2 b3 = (b0 % 16 * 4096 + b1 % 64 * 64 + b2 % 64, 3) := by
  unfold Lib.decodeN
  rw [if_neg (by omega), if_neg (by omega), if_pos ⟨h, ⟨by omega, h1⟩, hn, h2⟩, if_pos ⟨hv, by omega⟩]
theorem decN4 {n b0 b1 b2 b3 : Nat} (h : b0 / 8 = 30) (hn : 3 < n) (h1 : b1 / 64 = 2) (h2 : b2 / 64 = 2) (h3 : b3 / 64 = 2) (hv : 65536 ≤ b0 % 8 * 262144 + b1 % 64 * 4096 + b2 % 64 * 64 + b3 % 64) (hs : b0 % 8 * 262144 + b1 % 64 * 4096 + b2 % 64 * 64 + b3 % 64 ≤ 1114111) : Lib.decodeN n b0 b1 b2 b3 = (b0 % 8 * 262144 + b1 % 64 * 4096 + b2 % 64 * 64 + b3 % 64, 4) := by
  unfold Lib.decodeN
  rw [if_neg (by omega), if_neg (by omega), if_neg (by omega), if_pos ⟨h, ⟨by omega, h1⟩, ⟨by omega, h2⟩, hn, h3⟩, if_pos ⟨hv, by omega⟩]
theorem u8_of (x : Int) (h : 0 ≤ x ∧ x < 256) : (x.toNat.toUInt8).toNat = x.toNat := by
  show (UInt8.ofNat x.toNat).toNat = _
  rw [UInt8.toNat_ofNat']
  omega
/-- a code point read back -/
theorem dec_enc (r : Int) (y : ByteArray) : ∃ c, Utf8.decode (Utf8.encode r ++ y) 0 = (c, (Utf8.encode r).size) ∧ ¬ (c = 65533 ∧ (Utf8.encode r).size = 1) := by
  have hl : (Utf8.encode r ++ y).data.toList = Lib.encodeRune r ++ y.data.toList := by
    rw [ByteArray.data_append, Array.toList_append, enc_list]
  rw [Lib.decode_N, hl, enc_size]
  unfold Lib.encodeRune Lib.encodeRuneZ
  by_cases h1 : 0 ≤ r ∧ r ≤ 127
  · rw [if_pos h1]
    refine ⟨r.toNat, ?_, by omega⟩
    simp only [List.map_cons, List.map_nil, List.cons_append, List.nil_append, List.getD_cons_zero, List.length_cons, List.length_nil]
    rw [decN1 (by rw [u8_of _ (by omega)]; omega), u8_of _ (by omega)]
  · rw [if_neg h1]
    by_cases h2 : 128 ≤ r ∧ r ≤ 2047
    · rw [if_pos h2]
      refine ⟨r.toNat, ?_, fun h => by simp at h⟩
      simp only [List.map_cons, List.map_nil, List.cons_append, List.nil_append, List.getD_cons_zero, List.getD_cons_succ, List.length_cons, List.length_nil]
      rw [decN2 (by rw [u8_of _ (by omega)]; omega) (by omega) (by rw [u8_of _ (by omega)]; omega) (by rw [u8_of _ (by omega), u8_of _ (by omega)]; omega), u8_of _ (by omega), u8_of _ (by omega)]
      congr 1
      omega
    · rw [if_neg h2]
      by_cases h3 : (2048 ≤ r ∧ r < 55296) ∨ (57343 < r ∧ r ≤ 65535)
      · rw [if_pos h3]
        refine ⟨r.toNat, ?_, fun h => by simp at h⟩
        simp only [List.map_cons, List.map_nil, List.cons_append, List.nil_append, List.getD_cons_zero, List.getD_cons_succ, List.length_cons, List.length_nil]
        rw [decN3 (by rw [u8_of _ (by omega)]; omega) (by omega) (by rw [u8_of _ (by omega)]; omega) (by rw [u8_of _ (by omega)]; omega) (by rw [u8_of _ (by omega), u8_of _ (by omega), u8_of _ (by omega)]; omega) (by rw [u8_of _ (by omega), u8_of _ (by omega), u8_of _ (by omega)]; omega), u8_of _ (by omega), u8_of _ (by omega), u8_of _ (by omega)]
        congr 1
        omega
      · rw [if_neg h3]
        by_cases h4 : 65536 ≤ r ∧ r ≤ 1114111
        · rw [if_pos h4]
          refine ⟨r.toNat, ?_, fun h => by simp at h⟩
          simp only [List.map_cons, List.map_nil, List.cons_append, List.nil_append, List.getD_cons_zero, List.getD_cons_succ, List.length_cons, List.length_nil]
          rw [decN4 (by rw [u8_of _ (by omega)]; omega) (by omega) (by rw [u8_of _ (by omega)]; omega) (by rw [u8_of _ (by omega)]; omega) (by rw [u8_of _ (by omega)]; omega) (by rw [u8_of _ (by omega), u8_of _ (by omega), u8_of _ (by omega), u8_of _ (by omega)]; omega) (by rw [u8_of _ (by omega), u8_of _ (by omega), u8_of _ (by omega), u8_of _ (by omega)]; omega), u8_of _ (by omega), u8_of _ (by omega), u8_of _ (by omega), u8_of _ (by omega)]
          congr 1
          omega
        · rw [if_neg h4]
          refine ⟨65533, ?_, fun h => by simp at h⟩
          simp only [List.map_cons, List.map_nil, List.cons_append, List.nil_append, List.getD_cons_zero, List.getD_cons_succ, List.length_cons, List.length_nil]
          rw [decN3 (by decide) (by omega) (by decide) (by decide) (by decide) (by decide)]
          rfl
/-- texts made of code points are in UTF-8 -/
theorem wf_joined : ∀ (rs : List Int) (x : ByteArray) (f : Nat), wfL (x ++ joinB (pcsR rs)) f x.size = true := by
  intro rs
  induction rs with
  | nil =>
    intro x f
    refine wfL_end _ _ _ ?_
    simp [pcsR, joinB]
  | cons r l ih =>
    intro x f
    cases f with
    | zero => rfl
    | succ f =>
      have hp := (enc_pos r).1
      have hj : joinB (pcsR (r :: l)) = Utf8.encode r ++ joinB (pcsR l) := rfl
      rw [hj]
      have ht := Lib.tail_decode (x ++ (Utf8.encode r ++ joinB (pcsR l))) x.size 0
      have hx : (x ++ (Utf8.encode r ++ joinB (pcsR l))).extract x.size (x ++ (Utf8.encode r ++ joinB (pcsR l))).size = Utf8.encode r ++ joinB (pcsR l) := by
        have := cut3 x (Utf8.encode r ++ joinB (pcsR l)) ByteArray.empty
        rw [ByteArray.append_empty] at this
        rw [ByteArray.size_append (a := x)]
        exact this
      rw [hx, Nat.add_zero] at ht
      obtain ⟨c, hc, hb⟩ := dec_enc r (joinB (pcsR l))
      rw [hc] at ht
      unfold wfL
      rw [if_pos (by simp only [ByteArray.size_append]; omega), ← ht, if_neg hb]
      have := ih (x ++ Utf8.encode r) f
      rw [ByteArray.append_assoc, ByteArray.size_append] at this
      exact this
theorem wf_pcs (rs : List Int) : wfB (joinB (pcsR rs)) = true := by
  have := wf_joined rs ByteArray.empty (joinB (pcsR rs)).size
  rw [ByteArray.empty_append] at this
  exact this
theorem wf_part (rs : List Int) (a n : Nat) : wfB (joinB (((pcsR rs).drop a).take n)) = true := by
  have : ((pcsR rs).drop a).take n = pcsR ((rs.drop a).take n) := by simp [pcsR, List.map_take, List.map_drop]
  rw [this]
  exact wf_pcs _
/-- a place between two code points, or an end -/
def RuneAt (s : ByteArray) (p : Nat) : Prop := p = 0 ∨ p = s.size ∨ (0 < p ∧ p < s.size ∧ (byteAt s p < 128 ∨ 191 < byteAt s p))
theorem enc_first (r : Int) : byteAt (Utf8.encode r) 0 < 128 ∨ 191 < byteAt (Utf8.encode r) 0 := by
  unfold byteAt
  rw [enc_list]
  unfold Lib.encodeRune Lib.encodeRuneZ
  by_cases h1 : 0 ≤ r ∧ r ≤ 127
  · rw [if_pos h1]
    simp only [List.map_cons, List.getD_cons_zero]
    rw [u8_of _ (by omega)]; omega
  · rw [if_neg h1]
    by_cases h2 : 128 ≤ r ∧ r ≤ 2047
    · rw [if_pos h2]
      simp only [List.map_cons, List.getD_cons_zero]
      rw [u8_of _ (by omega)]; omega
    · rw [if_neg h2]
      by_cases h3 : (2048 ≤ r ∧ r < 55296) ∨ (57343 < r ∧ r ≤ 65535)
      · rw [if_pos h3]
        simp only [List.map_cons, List.getD_cons_zero]
        rw [u8_of _ (by omega)]; omega
      · rw [if_neg h3]
        by_cases h4 : 65536 ≤ r ∧ r ≤ 1114111
        · rw [if_pos h4]
          simp only [List.map_cons, List.getD_cons_zero]
          rw [u8_of _ (by omega)]; omega
        · rw [if_neg h4]
          right
          decide
theorem totB_take_succ (L : List ByteArray) (k : Nat) (h : k < L.length) : totB (L.take (k + 1)) = totB (L.take k) + L[k].size := by
  rw [List.take_succ_eq_append_getElem h, totB_append]
  simp [totB]
theorem rune_place {s : ByteArray} (h : wfB s = true) (k : Nat) : RuneAt s (totB ((pcsR (runesF s)).take k)) := by
  have hj := join_runes h
  have hc := joinB_cut (pcsR (runesF s)) (a := k) (b := k + 1) (by omega)
  have ht := joinB_size (pcsR (runesF s))
  rw [hj] at hc ht
  by_cases hk : k < (pcsR (runesF s)).length
  · have h1 := totB_take_succ _ _ hk
    have h2 := totB_take_all (pcsR (runesF s)) (k + 1)
    have h3 : (pcsR (runesF s))[k] = Utf8.encode ((runesF s)[k]'(by simpa [pcsR] using hk)) := by simp [pcsR]
    have h4 := enc_pos ((runesF s)[k]'(by simpa [pcsR] using hk))
    have h5 := enc_first ((runesF s)[k]'(by simpa [pcsR] using hk))
    rw [← h3] at h4 h5
    have h6 : joinB (((pcsR (runesF s)).drop k).take (k + 1 - k)) = (pcsR (runesF s))[k] := by
      rw [Nat.add_sub_cancel_left, List.drop_eq_getElem_cons hk]
      show joinB ((pcsR (runesF s))[k] :: List.take 0 _) = _
      simp only [List.take_zero, joinB, ByteArray.append_empty]
    rw [h6] at hc
    rw [← hc] at h5
    rw [byteAt_ext s _ _ 0 (by omega) (by omega), Nat.add_zero] at h5
    unfold RuneAt
    omega
  · rw [List.take_of_length_le (by omega)]
    exact .inr (.inl ht.symm)
/-- a text of single bytes below 128 -/
def asciiF (s : ByteArray) : Bool := (List.range s.size).all fun j => decide (byteAt s j < 128)
theorem ascii_iff {s : ByteArray} : asciiF s = true ↔ ∀ j, j < s.size → byteAt s j < 128 := by simp [asciiF]
def bytesI (s : ByteArray) : List Int := s.data.toList.map fun x => (x.toNat : Int)
theorem bytesI_len (s : ByteArray) : (bytesI s).length = s.size := by simp [bytesI]
theorem bytesI_ix (s : ByteArray) (k : Nat) (h : k < s.size) : ix (bytesI s) k = (byteAt s k : Int) := by
  have h2 : k < s.data.size := h
  simp [ix, bytesI, byteAt, Array.getElem?_eq_getElem h2]
theorem bytesI_cells (s : ByteArray) : Lib.strCells s = intCells .u8 (bytesI s) := by simp [Lib.strCells, intCells, bytesI]
theorem rnF_ascii {s : ByteArray} (h : asciiF s = true) : ∀ f i, s.size = i + f → rnF s f i = (bytesI s).drop i := by
  intro f
  induction f with
  | zero =>
    intro i hi
    rw [List.drop_of_length_le (by rw [bytesI_len]; omega)]
    rfl
  | succ f ih =>
    intro i hi
    have hlt : i < s.size := by omega
    have h1 := ascii_iff.1 h i hlt
    rw [byteAt_get s i hlt] at h1
    unfold rnF
    rw [if_pos hlt, decode_ascii s i hlt h1, ih (i + 1) (by omega)]
    rw [List.drop_eq_getElem_cons (show i < (bytesI s).length by rw [bytesI_len]; exact hlt)]
    congr 1
    simp [bytesI]
    rfl
theorem runes_ascii {s : ByteArray} (h : asciiF s = true) : runesF s = bytesI s := by
  have := rnF_ascii h s.size 0 (by omega)
  simpa [runesF] using this
theorem enc_ascii {r : Nat} (h : r < 128) : Utf8.encode (r : Int) = ⟨#[UInt8.ofNat r]⟩ := by
  have hv : Utf8.valid (r : Int) = true := by
    simp only [Utf8.valid, Bool.or_eq_true, Bool.and_eq_true, decide_eq_true_eq]
    omega
  unfold Utf8.encode
  rw [if_pos hv]
  simp only [Int.toNat_natCast]
  rw [if_pos h]
theorem pcsR_at (rs : List Int) (k : Nat) (h : k < (pcsR rs).length) : (pcsR rs)[k] = Utf8.encode (ix rs k) := by
  have h2 : k < rs.length := by simpa [pcsR] using h
  simp [pcsR, ix, h2]
theorem one_byte (s : ByteArray) (b : Nat) (h : b < s.size) : s.extract b (b + 1) = ⟨#[UInt8.ofNat (byteAt s b)]⟩ := by
  refine ba_ext ?_
  have h2 : b < s.data.toList.length := by simpa using h
  rw [Lib.extract_data, List.drop_eq_getElem_cons h2, Nat.add_sub_cancel_left]
  show [s.data.toList[b]] = [UInt8.ofNat (byteAt s b)]
  rw [byteAt_get s b h]
  simp
  rfl
theorem piece_ascii {s : ByteArray} (h : asciiF s = true) (b : Nat) (hb : b < s.size) (hl : b < (pcsR (bytesI s)).length) : (pcsR (bytesI s))[b] = s.extract b (b + 1) := by
  rw [pcsR_at, bytesI_ix s b hb, enc_ascii (ascii_iff.1 h b hb), one_byte s b hb]
/-- the pieces of a text of single bytes -/
theorem join_ascii {s : ByteArray} (h : asciiF s = true) (a b : Nat) (h1 : a ≤ b) (h2 : b ≤ s.size) : joinB (((pcsR (bytesI s)).drop a).take (b - a)) = s.extract a b := by
  induction b with
  | zero =>
    have : a = 0 := by omega
    subst this
    simp [joinB]
  | succ b ih =>
    by_cases hab : a = b + 1
    · subst hab
      simp [joinB]
    · have hb : b < s.size := by omega
      have hl : b < (pcsR (bytesI s)).length := by
        have : (pcsR (bytesI s)).length = s.size := by simp [pcsR, bytesI_len]
        omega
      have e1 : ((pcsR (bytesI s)).drop a).take (b + 1 - a) = ((pcsR (bytesI s)).drop a).take (b - a) ++ [(pcsR (bytesI s))[b]] := by
        rw [show b + 1 - a = (b - a) + 1 by omega, List.take_succ_eq_append_getElem (by rw [List.length_drop]; omega)]
        congr 2
        rw [List.getElem_drop]
        congr 1
        omega
      rw [e1, joinB_append, ih (by omega) (by omega), piece_ascii h b hb hl]
      simp only [joinB, ByteArray.append_empty]
      rw [ByteArray.extract_append_extract, Nat.min_eq_left (by omega), Nat.max_eq_right (by omega)]
theorem tot_ascii {s : ByteArray} (h : asciiF s = true) (k : Nat) (hk : k ≤ s.size) : totB ((pcsR (bytesI s)).take k) = k := by
  have := join_ascii h 0 k (by omega) hk
  rw [List.drop_zero, Nat.sub_zero] at this
  rw [← joinB_size, this, ByteArray.size_extract]
  omega
/-- the length of code points together -/
def lenI (rs : List Int) : Int := (rs.map Lib.runeLen).sum
theorem lenI_eq {rs : List Int} (h : ∀ r ∈ rs, Utf8.valid r = true) : lenI rs = (totB (pcsR rs) : Int) := by
  induction rs with
  | nil => rfl
  | cons r l ih =>
    have h1 := runeLen_enc (h r (by simp))
    have h2 := ih (fun x hx => h x (by simp [hx]))
    simp only [lenI, List.map_cons, List.sum_cons, pcsR, totB] at h2 ⊢
    rw [h1, h2]
    simp
end Go.Proofs.YtgjbagojcbondaaGreatDoor

namespace Go.Proofs.YtgjbagojcbondaaGreatDoor
set_option linter.unusedVariables false
open Go.RowKit

set_option maxRecDepth 100000 in
theorem isAscii_any (s : ByteArray) (w : World) (hs : s.size ≤ 4000000) :
    Calls Tryz.prog 40 #[.string s] w fun e w' => e = .returned (.bool (asciiF s)) ∧ w' = w := by
  have hyes := fun (h : ∀ j, j < s.size → byteAt s j < 128) => ascii_iff.2 h
  have hno := fun j (h : j < s.size) (hb : ¬ byteAt s j < 128) => (show asciiF s = false by
    cases h2 : asciiF s with
    | false => rfl
    | true => exact absurd (ascii_iff.1 h2 j h) hb)
  have HY := Lib.hid hyes; have HN := Lib.hid hno; clear hyes hno
  go_enter Tryz.func40, Tryz.ntmps40
  go_wp2
  go_loop [3] (fun i => ∃ k : Nat, k ≤ s.size ∧ i = .int .i64 k ∧ Hid (∀ j, j < k → byteAt s j < 128)) (fun i => s.size - (intOf i).toNat)
  case atStart => exact ⟨0, Nat.zero_le _, rfl, Lib.hid fun j hj => by omega⟩
  case round =>
    obtain ⟨k, hk, rfl, hall⟩ := hrel
    by_cases hlt : k < s.size
    · have hb0 := byteAt_get s k hlt
      by_cases hb : byteAt s k < 128
      · have hd : decide ((128 : Int) ≤ ((s[k]'hlt).toNat : Int)) = false := by rw [hb0] at hb; exact decide_eq_false (by omega)
        have hd2 : ((s[k]'hlt).toNat : Int) < 128 := by rw [hb0] at hb; omega
        have HA := Lib.hid (show ∀ j, j < k + 1 → byteAt s j < 128 from fun j hj => by
          by_cases h : j = k
          · subst h; exact hb
          · exact hall.out j (by omega))
        clear hb hb0 hall
        go_wp2
        go_round
        case rel => exact ⟨k + 1, by omega, by go_num, HA⟩
        case measure => simp [intOf]; omega
      · have hd : (128 : Int) ≤ ((s[k]'hlt).toNat : Int) := by rw [hb0] at hb; omega
        have hn := HN.out k hlt hb
        have HX := Lib.hid hn
        clear hb hb0 hall hn
        go_wp2
        go_ret
        exact ⟨by rw [HX.out]; rfl, rfl⟩
    · have hn := HY.out fun j hj => hall.out j (by omega)
      have HX := Lib.hid hn
      clear hn hall
      go_wp2
      go_ret
      exact ⟨by rw [HX.out]; rfl, rfl⟩
set_option maxRecDepth 100000 in
theorem rlen_any (r : Int) (w : World) : Calls Tryz.prog 62 #[.int .i32 r] w fun e w' => e = .returned (.int .i64 (Lib.runeLen r)) ∧ w' = w := by
  unfold Lib.runeLen
  by_cases h1 : r < 0
  · rw [if_pos h1]
    go_enter Tryz.func62, Tryz.ntmps62
    go_wp2
    go_ret
    exact ⟨rfl, rfl⟩
  · rw [if_neg h1]
    by_cases h2 : r ≤ 127
    · rw [if_pos h2]
      go_enter Tryz.func62, Tryz.ntmps62
      go_wp2
      go_ret
      exact ⟨rfl, rfl⟩
    · rw [if_neg h2]
      by_cases h3 : r ≤ 2047
      · rw [if_pos h3]
        go_enter Tryz.func62, Tryz.ntmps62
        go_wp2
        go_ret
        exact ⟨rfl, rfl⟩
      · rw [if_neg h3]
        by_cases h4 : 55296 ≤ r ∧ r ≤ 57343
        · rw [if_pos h4]
          obtain ⟨h5, h6⟩ := h4
          go_enter Tryz.func62, Tryz.ntmps62
          go_wp2
          go_ret
          exact ⟨rfl, rfl⟩
        · rw [if_neg h4]
          by_cases h5 : r ≤ 65535
          · rw [if_pos h5]
            by_cases h6 : 55296 ≤ r
            · have h7 : 57343 < r := by omega
              go_enter Tryz.func62, Tryz.ntmps62
              go_wp2
              go_ret
              exact ⟨rfl, rfl⟩
            · go_enter Tryz.func62, Tryz.ntmps62
              go_wp2
              go_ret
              exact ⟨rfl, rfl⟩
          · rw [if_neg h5]
            have h7 : 55296 ≤ r := by omega
            have h8 : 57343 < r := by omega
            by_cases h6 : r ≤ 1114111
            · rw [if_pos h6]
              go_enter Tryz.func62, Tryz.ntmps62
              go_wp2
              go_ret
              exact ⟨rfl, rfl⟩
            · rw [if_neg h6]
              go_enter Tryz.func62, Tryz.ntmps62
              go_wp2
              go_ret
              exact ⟨rfl, rfl⟩
theorem lenI_snoc (rs : List Int) (k : Nat) (h : k < rs.length) : lenI (rs.take (k + 1)) = lenI (rs.take k) + Lib.runeLen (ix rs k) := by
  have e : ix rs k = rs[k] := by simp [ix, h]
  have hs : ∀ (a b : List Int), (a ++ b).sum = a.sum + b.sum := by
    intro a b
    induction a with
    | nil => simp
    | cons x a ih => simp only [List.cons_append, List.sum_cons, ih]; omega
  unfold lenI
  rw [List.take_succ_eq_append_getElem h, e, List.map_append, hs]
  simp only [List.map_cons, List.map_nil, List.sum_cons, List.sum_nil]
  omega
theorem runeLen_bound (r : Int) : -1 ≤ Lib.runeLen r ∧ Lib.runeLen r ≤ 4 := by
  unfold Lib.runeLen
  repeat' split
  all_goals omega
theorem lenI_bound (rs : List Int) : -(rs.length : Int) ≤ lenI rs ∧ lenI rs ≤ 4 * rs.length := by
  induction rs with
  | nil => simp [lenI]
  | cons r l ih =>
    have h1 := runeLen_bound r
    simp only [lenI, List.map_cons, List.sum_cons, List.length_cons] at ih ⊢
    omega
set_option maxRecDepth 100000 in
theorem rsum_any (A : Option Addr) (c : Nat) (rs : List Int) (w : World) (hr : IntsR .i32 w A rs) (hl : rs.length ≤ 4000000) :
    Calls Tryz.prog 49 #[.slice A rs.length c] w fun e w' => e = .returned (.int .i64 (lenI rs)) ∧ w' = w := by
  have HR := Lib.hid hr; clear hr
  have HL := Lib.hid (fun r w => rlen_any r w)
  have hsn := fun k h => lenI_snoc rs k h
  have hbd := fun k => lenI_bound (rs.take k)
  have htk : rs.take rs.length = rs := List.take_length
  have HS := Lib.hid hsn; have HB := Lib.hid hbd; have HT := Lib.hid htk
  clear hsn hbd htk
  obtain ⟨n, hn⟩ : ∃ n, rs.length = n := ⟨_, rfl⟩
  rw [hn] at hl ⊢
  have HN := Lib.hid hn; clear hn
  go_enter Tryz.func49, Tryz.ntmps49
  go_wp2
  go_loop [2, 7] (fun v i => ∃ (k : Nat) (t : Int), k ≤ n ∧ i = .int .i64 k ∧ v = .int .i64 t ∧ Hid (t = lenI (rs.take k))) (fun _ i => n - (intOf i).toNat)
  case atStart => exact ⟨0, 0, Nat.zero_le _, rfl, rfl, Lib.hid rfl⟩
  case round =>
    obtain ⟨k, t, hk, rfl, rfl, ht⟩ := hrel
    by_cases hlt : k < n
    · have hkl : k < rs.length := by rw [HN.out]; exact hlt
      obtain ⟨b, o, rfl, hb, g⟩ := HR.out.at_ hkl
      have hs := HS.out k hkl
      have hb1 := HB.out k
      have hb2 := runeLen_bound (ix rs k)
      rw [List.length_take] at hb1
      rw [← ht.out] at hs hb1
      have hw : IntKind.i64.wrap (t + Lib.runeLen (ix rs k)) = t + Lib.runeLen (ix rs k) := IntWalk.i64_in _ (by omega)
      generalize ix rs k = r at *
      have HS2 := Lib.hid hs
      clear hs hb1
      go_wp2_with fail
      refine (HL.out _ _).mono ?_
      rintro e w1 ⟨rfl, rfl⟩
      generalize Lib.runeLen r = y at *
      go_wp2
      go_round
      case rel => exact ⟨k + 1, t + y, by omega, by go_num, rfl, Lib.hid HS2.out.symm⟩
      case measure => simp [intOf]; omega
    · have : k = n := by omega
      subst this
      have h1 : t = lenI rs := by rw [ht.out, ← HN.out, HT.out]
      have H1 := Lib.hid h1
      clear h1 ht
      go_wp2
      go_ret
      exact ⟨by rw [← H1.out]; rfl, rfl⟩
end Go.Proofs.YtgjbagojcbondaaGreatDoor

namespace Go.Proofs.YtgjbagojcbondaaGreatDoor
set_option linter.unusedVariables false
open Go.RowKit

/-- what a function of differences gives: differences that lie within both -/
def DsX (N M : Nat) (P : List Df → Prop) (w : World) (e : Ending) (w' : World) : Prop :=
  ∃ ds A c, e = .returned (.slice A ds.length c) ∧ CellsR w' A (dfCells ds) ∧ Below w.heap.size w w' ∧ P ds ∧ ds.length ≤ N + M ∧ ∀ d ∈ ds, d.s ≤ d.e ∧ d.e ≤ N ∧ d.rs ≤ d.re ∧ d.re ≤ M
/-- a list of edits in new memory -/
def EdX (P : List Ed → Prop) (w : World) (e : Ending) (w' : World) : Prop :=
  ∃ es A c, e = .returned (.slice A es.length c) ∧ w'.ownsRow w.heap.size 57 3 (.slice A es.length c) es.length (edCells es) ∧ Below w.heap.size w w' ∧ P es
theorem edsX_len (P Q : List ByteArray) (ds : List Df) : (edsOf P Q ds).length = ds.length := by simp [edsOf]
theorem edsX_at (P Q : List ByteArray) (ds : List Df) (k : Nat) (h : k < ds.length) : edAt (edsOf P Q ds) k = ⟨(totB (P.take ds[k].s) : Nat), (totB (P.take ds[k].e) : Nat), joinB ((Q.drop ds[k].rs).take (ds[k].re - ds[k].rs))⟩ := by simp [edAt, edsOf, h]
/-- three cells stored at a place of a row of edits -/
theorem edCells_putX (es : List Ed) (k : Nat) (x : Ed) (h : k < es.length) :
    (((edCells es).set (k * 3) (.int .i64 x.s)).set (k * 3 + 1) (.int .i64 x.e)).set (k * 3 + 2) (.string x.n) = edCells (es.set k x) := by
  induction es generalizing k with
  | nil => simp at h
  | cons y l ih =>
    rw [edCells_cons]
    cases k with
    | zero => simp [Ed.cells, edCells_cons]
    | succ k =>
      have hl : y.cells.length = 3 := rfl
      have := ih k (by simpa using h)
      rw [List.set_append_right _ _ (by omega), List.set_append_right _ _ (by omega), List.set_append_right _ _ (by omega), hl, show (k + 1) * 3 - 3 = k * 3 by omega, show (k + 1) * 3 + 1 - 3 = k * 3 + 1 by omega, show (k + 1) * 3 + 2 - 3 = k * 3 + 2 by omega, this]
      rfl
/-- a part of a slice of elements of one cell -/
theorem cells_cut {P : Program} (t e : TypeId) (i : TypeInfo) (ht : P.underlying t = some (.slice e)) (hi : P.info? e = some i) (hs : i.size = 1) (A : Option Addr) (ys : List Value) (n c x X : Nat) (hn : ys.length = n) (h1 : x ≤ X) (h2 : X ≤ n) (h3 : n ≤ c) :
    ∃ A', (∀ w, (Instr.slice t (.slice A n c) (some (.int .i64 x)) (some (.int .i64 X)) none).run P w = .ok (.slice A' (X - x) (c - x)) w) ∧ ∀ w, CellsR w A ys → CellsR w A' ((ys.drop x).take (X - x)) := by
  have k1 : (0 : Int) ≤ (x : Int) := by omega
  have k2 : (x : Int) ≤ (X : Int) := by omega
  have k3 : (X : Int) ≤ (c : Int) := by omega
  have he : P.elem t = e := by unfold Program.elem; rw [ht]
  refine ⟨if c = x then A else A.map (·.add (x * 1)), fun w => ?_, fun w hr => ?_⟩
  · rw [run_slice_lh w t A n c (by rw [he]; exact ht) .i64 .i64 (x : Int) (X : Int) k1 k2 k3]
    simp [he, sizeOf, typeInfo, hi, hs, sliced, Result.andThen]
  · by_cases h : c = x
    · rw [if_pos h]
      have : (ys.drop x).take (X - x) = [] := by
        have : X - x = 0 := by omega
        rw [this, List.take_zero]
      rw [this]
      exact .inl rfl
    · rw [if_neg h]
      rcases hr with h9 | ⟨b, off, rfl, hc⟩
      · subst h9
        exact .inl (by simp)
      · refine .inr ⟨b, off + x, by simp [add_lit], fun j u hu => ?_⟩
        rw [Nat.add_assoc]
        refine hc (x + j) u ?_
        simp only [List.getElem?_take] at hu
        split at hu
        · rw [List.getElem?_drop] at hu
          exact hu
        · cases hu
theorem push_allX (l : List UInt8) (r : ByteArray) : (l.map fun b => (b.toNat : Int)).foldl (fun r n => r.push (UInt8.ofNat n.toNat)) r = ⟨r.data ++ l.toArray⟩ := by
  induction l generalizing r with
  | nil => simp
  | cons b l ih =>
    rw [List.map_cons, List.foldl_cons, ih]
    simp [ByteArray.push]
theorem run_conv_strX {P : Program} (w : World) (src dst e : TypeId) (hs : P.underlying src = some (.slice e)) (he : P.underlying e = some (.int .u8)) (hd : P.underlying dst = some .string)
    {A : Option Addr} {n c : Nat} {t : ByteArray} (h : CellsR w A (Lib.strCells t)) (hn : t.size = n) : (convert src dst (.slice A n c)).run P w = .ok (.string t) w := by
  rw [run_convert_bytes_string w src dst e A n c hs he hd]
  cases A with
  | none =>
    have h0 : Lib.strCells t = [] := by
      rcases h with h | ⟨b, off, h, _⟩
      · exact h
      · cases h
    have h1 : t.data = #[] := by
      have := congrArg List.length h0
      rw [Lib.strCells_length] at this
      exact Array.eq_empty_of_size_eq_zero this
    obtain ⟨d⟩ := t
    simp only at h1
    subst h1
    simp [Conv.bytesToString]
    rfl
  | some a =>
    have hl : (loadCells a n).run P w = .ok ((t.data.toList.map fun b => (b.toNat : Int)).map (Value.int .u8)).toArray w := by
      have := run_loadCells_list (P := P) w a (Lib.strCells t) (fun j u hj => by
        rcases h with h | ⟨b, off, hA, hc⟩
        · rw [h] at hj; cases hj
        · cases hA
          rw [add_lit]
          exact hc j u hj)
      rw [Lib.strCells_length, hn] at this
      rw [this]
      simp [Lib.strCells]
    rw [run_bytesToString w a n c _ hl, push_allX]
    simp
theorem cut_bytes (t : ByteArray) (x X : Nat) (h : x ≤ X) (hX : X ≤ t.size) : ((intCells .u8 (bytesI t)).drop x).take (X - x) = Lib.strCells (t.extract x X) := by
  rw [← bytesI_cells]
  simp only [Lib.strCells, Lib.extract_data, List.map_take, List.map_drop]
theorem infoS8 : (Tryz.prog.info? 5).map (fun i => (i.zero, i.size, i.bytes)) = some (some (.int .u8 0), 1, 1) := by kernel_rfl
theorem infoDX : (Tryz.prog.info? 57).map (fun i => (i.zero, i.size, i.bytes)) = some (some (.agg #[.int .i64 0, .int .i64 0, .string ⟨#[]⟩]), 3, 32) := by kernel_rfl
set_option maxRecDepth 100000 in
set_option maxHeartbeats 4000000 in
theorem diffAscii_any (s t : ByteArray) (A C : Option Addr) (c d : Nat) (w : World) (hs : s.size ≤ 1000000) (ht : t.size ≤ 1000000) (hA : IntsR .u8 w A (bytesI s)) (hC : IntsR .u8 w C (bytesI t)) (hc : s.size ≤ c) (hd : t.size ≤ d) (ha1 : asciiF s = true) (ha2 : asciiF t = true) (P : List Df → Prop)
    (hdif : Calls Tryz.prog 47 #[.slice A s.size c, .slice C t.size d] w (DsX s.size t.size P w)) :
    Calls Tryz.prog 35 #[.slice A s.size c, .slice C t.size d] w (EdX (fun es => ∃ ds, P ds ∧ es = edsOf (pcsR (bytesI s)) (pcsR (bytesI t)) ds) w) := by
  obtain ⟨i0, hi, hz0, hz1, hz2⟩ := info_parts infoS8
  obtain ⟨i1, hj, hy0, hy1, hy2⟩ := info_parts infoDX
  have htot := fun k (h : k ≤ s.size) => tot_ascii ha1 k h
  have hjoin := fun a b (h1 : a ≤ b) (h2 : b ≤ t.size) => join_ascii ha2 a b h1 h2
  have htl : (intCells .u8 (bytesI t)).length = t.size := by simp [intCells, bytesI_len]
  have hcb := fun x X h hX => cut_bytes t x X h hX
  have hsl := fun x X (h : x ≤ X) (hX : X ≤ t.size) => (show (t.extract x X).size = X - x by rw [ByteArray.size_extract]; omega)
  have HD := Lib.hid hdif; have HC := Lib.hid hC; have HTOT := Lib.hid htot; have HJOIN := Lib.hid hjoin; have HTL := Lib.hid htl; have HCB := Lib.hid hcb; have HSL := Lib.hid hsl
  clear hdif hC hA htot hjoin htl ha1 ha2 hcb hsl
  unfold DsX at HD
  generalize hN : s.size = N at *
  generalize hM : t.size = M at *
  clear hN hM
  go_enter Tryz.func35, Tryz.ntmps35
  go_wp2_with fail
  refine HD.out.mono ?_
  rintro e w3 ⟨ds, A5, c5, rfl, hds, b3, hP, hlen, hbd⟩
  have B3 := Lib.hid b3; have RD := Lib.hid hds; have HP := Lib.hid hP; have HBD := Lib.hid hbd; have HC3 := Lib.hid (CellsR.below HC.out b3 (Nat.le_refl _))
  clear hds b3 hP hbd HC
  have hel := edsX_len (pcsR (bytesI s)) (pcsR (bytesI t)) ds
  have hea := edsX_at (pcsR (bytesI s)) (pcsR (bytesI t)) ds
  have hrz := rowK_zero (edsOf (pcsR (bytesI s)) (pcsR (bytesI t)) ds)
  have hra := rowK_all (edsOf (pcsR (bytesI s)) (pcsR (bytesI t)) ds)
  have hrs := rowK_set (edsOf (pcsR (bytesI s)) (pcsR (bytesI t)) ds)
  have hrl := rowK_len (edsOf (pcsR (bytesI s)) (pcsR (bytesI t)) ds)
  have hfin : ∀ w', Below w.heap.size w w' → ∀ A c, w'.ownsRow w.heap.size 57 3 (.slice A ds.length c) ds.length (edCells (edsOf (pcsR (bytesI s)) (pcsR (bytesI t)) ds)) → EdX (fun es => ∃ ds, P ds ∧ es = edsOf (pcsR (bytesI s)) (pcsR (bytesI t)) ds) w (.returned (.slice A ds.length c)) w' := fun w' hb A c ho => ⟨_, A, c, by rw [hel], by rw [hel]; exact ho, hb, ds, HP.out, rfl⟩
  generalize edsOf (pcsR (bytesI s)) (pcsR (bytesI t)) ds = es at *
  have HEA := Lib.hid hea; have HRS := Lib.hid hrs; have HFIN := Lib.hid hfin; have HRZ := Lib.hid hrz; have HRA := Lib.hid hra; have HRL := Lib.hid hrl
  have hdf := fun W (h : CellsR W A5 (dfCells ds)) k (hk : k < ds.length) => dfs_at h hk
  have HDF := Lib.hid hdf
  clear hea hrs hfin hrz hra hrl hdf
  obtain ⟨n, hn⟩ : ∃ n, ds.length = n := ⟨_, rfl⟩
  rw [hn] at hlen hel HFIN
  have HNN := Lib.hid hn; have HEL := Lib.hid hel
  rw [hn]
  clear hn hel
  have hn4 : n ≤ 2000000 := by omega
  go_wp2_with (at_make; refine wpList_make_full _ rfl _ _ _ rfl w.heap.size 57 i1 (.agg #[.int .i64 0, .int .i64 0, .string ⟨#[]⟩]) 3 Tryz.underlying39 hj hy0 hy1 .i64 .i64 _ _ n rfl rfl rfl rfl (by rw [hy2]; omega) (by unfold maxLen; omega) B3.out.size ?_; intro w4 hown4 hg4)
  have hb4 := B3.out.grown hg4 B3.out.size (fun k h => by cases h)
  have hm4 : w4.ownsRow w.heap.size 57 3 (.slice (some ⟨w3.heap.size, 0, none⟩) n n) n (edCells (rowK es 0)) := by
    rw [HRZ.out, HEL.out, ← made_ed]
    exact hown4
  have hbw4 : Below w3.heap.size w3 w4 := (Below.refl _ _).grown hg4 (Nat.le_refl _) (fun k h => by cases h)
  have O4 := Lib.hid hm4; have HBW4 := Lib.hid hbw4
  have hsz4 := hbw4.size
  clear hb4 hm4 hown4 hg4 hbw4
  go_wp2
  go_loopg [17] n (fun q i wr => ∃ k : Nat, q = n - k ∧ k ≤ n ∧ i = .int .i64 k ∧ wr.ownsRow w.heap.size 57 3 (.slice (some ⟨w3.heap.size, 0, none⟩) n n) n (edCells (rowK es k)) ∧ Below w3.heap.size w3 wr)
  case atStart => exact ⟨0, rfl, Nat.zero_le _, rfl, O4.out, HBW4.out⟩
  case round =>
    obtain ⟨k, hq, hk, rfl, hown, hb⟩ := hrel
    have HQ := Lib.hid hq; have HO := Lib.hid hown; have HB := Lib.hid hb
    have hbs := hb.size
    clear hq hown hb
    by_cases hlt : k < n
    · have hkl : k < ds.length := by rw [HNN.out]; exact hlt
      obtain ⟨b, off, hA, hbb, g0, g1, g2, g3⟩ := HDF.out wr (CellsR.below RD.out HB.out (Nat.le_refl _)) k hkl
      subst hA
      have hea := HEA.out k hkl
      have hbd := HBD.out _ (List.getElem_mem hkl)
      have hset := HRS.out k (by rw [HEL.out]; exact hlt)
      generalize ds[k] = d' at *
      obtain ⟨q1, q2, q3, q4⟩ := hbd
      rw [hea, HTOT.out _ (by omega), HTOT.out _ (by omega), HJOIN.out _ _ q3 q4] at hset
      have HSET := Lib.hid hset
      clear hea hset hkl
      obtain ⟨A6, hcut, hsub⟩ := cells_cut (P := Tryz.prog) 41 5 i0 Tryz.underlying41 hi hz1 C (intCells .u8 (bytesI t)) M d d'.rs d'.re HTL.out q3 q4 hd
      have hconv : ∀ W, Below w3.heap.size w3 W → (convert 41 9 (.slice A6 (d'.re - d'.rs) (d - d'.rs))).run Tryz.prog W = .ok (.string (t.extract d'.rs d'.re)) W := fun W hW => by
        have h := hsub W (CellsR.below HC3.out hW (Nat.le_refl _))
        rw [HCB.out _ _ q3 q4] at h
        exact run_conv_strX W _ _ 5 Tryz.underlying41 Tryz.underlying5 Tryz.underlying9 h (HSL.out _ _ q3 q4)
      have HCONV := Lib.hid hconv
      clear hconv hsub
      generalize t.extract d'.rs d'.re = J at *
      have hbk := Blk.new wr 71 #[.int .i64 d'.s, .int .i64 d'.e, .int .i64 d'.rs, .int .i64 d'.re]
      have hbw : Below w3.heap.size w3 (wr.alloc (.cells #[.int .i64 d'.s, .int .i64 d'.e, .int .i64 d'.rs, .int .i64 d'.re] 71)) := HB.out.alloc hbs _
      have hoa := HO.out.alloc (.cells #[.int .i64 d'.s, .int .i64 d'.e, .int .i64 d'.rs, .int .i64 d'.re] 71)
      obtain ⟨bx, hbx⟩ : ∃ bx, wr.heap.size = bx := ⟨_, rfl⟩
      rw [hbx] at hbk
      have hgx : w3.heap.size < bx := by rw [← hbx]; exact (HO.out.lt _ rfl).2
      go_wp2
      generalize hW0 : wr.alloc (.cells #[.int .i64 d'.s, .int .i64 d'.e, .int .i64 d'.rs, .int .i64 d'.re] 71) = W0 at *
      have HBW := Lib.hid hbw; have HOA := Lib.hid hoa
      clear hbw hoa hW0 hbx HO HB g0 g1 g2 g3 hbb hbs
      have hll : (edCells (rowK es k)).length = n * 3 := by rw [edCells_length, HRL.out k (by rw [HEL.out]; exact hk), HEL.out]
      obtain ⟨y0, hy0⟩ : ∃ v, W0.cell? ⟨w3.heap.size, k * 3, none⟩ = some v := ⟨_, by rw [HOA.out.cellAt _ (by omega)]; exact List.getElem?_eq_getElem (by omega)⟩
      obtain ⟨y1, hy1⟩ : ∃ v, W0.cell? ⟨w3.heap.size, k * 3 + 1, none⟩ = some v := ⟨_, by rw [HOA.out.cellAt _ (by omega)]; exact List.getElem?_eq_getElem (by omega)⟩
      obtain ⟨y2, hy2⟩ : ∃ v, W0.cell? ⟨w3.heap.size, k * 3 + 2, none⟩ = some v := ⟨_, by rw [HOA.out.cellAt _ (by omega)]; exact List.getElem?_eq_getElem (by omega)⟩
      have f0 : W0.frozen? ⟨w3.heap.size, k * 3, none⟩ = false := HOA.out.frozenAt _
      have f1 : W0.frozen? ⟨w3.heap.size, k * 3 + 1, none⟩ = false := HOA.out.frozenAt _
      have f2 : W0.frozen? ⟨w3.heap.size, k * 3 + 2, none⟩ = false := HOA.out.frozenAt _
      have b0 : W0.cell? ⟨bx, 0, none⟩ = some (.int .i64 (d'.s : Int)) := hbk.cell 0
      have b1 : W0.cell? ⟨bx, 1, none⟩ = some (.int .i64 (d'.e : Int)) := hbk.cell 1
      have b2 : W0.cell? ⟨bx, 2, none⟩ = some (.int .i64 (d'.rs : Int)) := hbk.cell 2
      have b3 : W0.cell? ⟨bx, 3, none⟩ = some (.int .i64 (d'.re : Int)) := hbk.cell 3
      have k0 := HCONV.out W0 HBW.out
      have k1 := HCONV.out W0.drew HBW.out.drew
      have i3 : (k : Int) < (n : Int) := by omega
      have i6 : (0 : Int) ≤ (k : Int) := by omega
      clear hll hbk
      go_region
      all_goals
        obtain ⟨s1, _⟩ := World.ownsRow.stored HOA.out (k * 3) (.int .i64 (d'.s : Int))
        obtain ⟨s2, _⟩ := s1.stored (k * 3 + 1) (.int .i64 (d'.e : Int))
        obtain ⟨s3, _⟩ := s2.stored (k * 3 + 2) (.string J)
        rw [edCells_putX (rowK es k) k ⟨d'.s, d'.e, J⟩ (by rw [HRL.out k (by rw [HEL.out]; exact hk), HEL.out]; exact hlt), HSET.out] at s3
        have hb5 := (((HBW.out.setCell (p := ⟨w3.heap.size, k * 3, none⟩) (Nat.le_refl _) (.int .i64 (d'.s : Int))).setCell (p := ⟨w3.heap.size, k * 3 + 1, none⟩) (Nat.le_refl _) (.int .i64 (d'.e : Int))).setCell (p := ⟨w3.heap.size, k * 3 + 2, none⟩) (Nat.le_refl _) (.string J)).drew
        have HS3 := Lib.hid s3.drew; have HB5 := Lib.hid hb5
        clear s1 s2 s3 hb5
        go_wp2
        go_roundg (n - (k + 1))
        case measure => have := HQ.out; omega
        case rel => exact ⟨k + 1, rfl, by omega, by go_num, HS3.out, HB5.out⟩
    · obtain rfl : k = n := by omega
      have hown := HO.out
      rw [show rowK es k = es by have := HRA.out; rwa [HEL.out] at this] at hown
      have HO2 := Lib.hid hown
      clear hown HO
      go_wp2
      go_ret
      exact HFIN.out _ (B3.out.trans (HB.out.mono B3.out.size)) _ _ HO2.out
end Go.Proofs.YtgjbagojcbondaaGreatDoor

namespace Go.Proofs.YtgjbagojcbondaaGreatDoor
set_option linter.unusedVariables false
open Go.RowKit

/-- differences in their order -/
def OrdD : Nat → List Df → Prop
  | _, [] => True
  | a, d :: l => a ≤ d.s ∧ d.s ≤ d.e ∧ OrdD d.e l
theorem lead_ord {E : EQT} {N M : Nat} : ∀ {ds : List Df} {a b k : Nat}, Lead E N M a b ds k → OrdD a ds := by
  intro ds
  induction ds with
  | nil => intros; trivial
  | cons x ds ih =>
    intro a b k h
    obtain ⟨g1, g2, g3, g4, g5, g6, g7, g8, k', g9, g10⟩ := h
    exact ⟨g1, g2, ih g10⟩
theorem joinB_fold (ns : List Int) : ∀ r : ByteArray, ns.foldl (fun r n => r ++ Utf8.encode n) r = r ++ joinB (pcsR ns) := by
  induction ns with
  | nil => intro r; simp [pcsR, joinB]
  | cons n l ih =>
    intro r
    rw [List.foldl_cons, ih]
    simp only [pcsR, List.map_cons, joinB, ByteArray.append_assoc]
theorem runesBytes_join (ns : List Int) : runesBytes ns = joinB (pcsR ns) := by
  unfold runesBytes
  rw [joinB_fold, ByteArray.empty_append]
theorem run_conv_runes {P : Program} (w : World) (src dst e : TypeId) (hs : P.underlying src = some (.slice e)) (he : P.underlying e = some (.int .i32)) (hd : P.underlying dst = some .string)
    {A : Option Addr} {n c : Nat} {ns : List Int} (h : CellsR w A (intCells .i32 ns)) (hn : ns.length = n) : (convert src dst (.slice A n c)).run P w = .ok (.string (joinB (pcsR ns))) w := by
  rw [run_convert_runes_string w src dst e A n c hs he hd]
  cases A with
  | none =>
    have h0 : ns = [] := by
      rcases h with h | ⟨b, off, h, _⟩
      · simpa [intCells] using h
      · cases h
    subst h0
    simp [Conv.runesToString, pcsR, joinB]
  | some a =>
    have hl : (loadCells a n).run P w = .ok (ns.map (Value.int .i32)).toArray w := by
      have := run_loadCells_list (P := P) w a (intCells .i32 ns) (fun j u hj => by
        rcases h with h | ⟨b, off, hA, hc⟩
        · rw [h] at hj; cases hj
        · cases hA
          rw [add_lit]
          exact hc j u hj)
      rw [show (intCells .i32 ns).length = n by simp [intCells, hn]] at this
      rw [this]
      rfl
    rw [run_runesToString w a n c ns hl, runesBytes_join]
theorem infoS32 : (Tryz.prog.info? 21).map (fun i => (i.zero, i.size, i.bytes)) = some (some (.int .i32 0), 1, 4) := by kernel_rfl
theorem lenI_part {rs : List Int} (h : ∀ r ∈ rs, Utf8.valid r = true) (a b : Nat) (hab : a ≤ b) : (totB ((pcsR rs).take a) : Int) + lenI ((rs.drop a).take (b - a)) = (totB ((pcsR rs).take b) : Int) := by
  have h1 : (pcsR rs).take b = (pcsR rs).take a ++ pcsR ((rs.drop a).take (b - a)) := by
    rw [← List.take_append_drop a ((pcsR rs).take b), List.take_take, Nat.min_eq_left hab, List.drop_take]
    simp [pcsR, List.map_take, List.map_drop]
  rw [lenI_eq (fun r hr => h r (List.mem_of_mem_drop (List.mem_of_mem_take hr))), h1, totB_append]
  omega
theorem cut_ints (k : IntKind) (rs : List Int) (x X : Nat) : ((intCells k rs).drop x).take (X - x) = intCells k ((rs.drop x).take (X - x)) := by simp [intCells, List.map_take, List.map_drop]
theorem cut_pcs (rs : List Int) (x n : Nat) : pcsR ((rs.drop x).take n) = ((pcsR rs).drop x).take n := by simp [pcsR, List.map_take, List.map_drop]
set_option maxRecDepth 100000 in
set_option maxHeartbeats 4000000 in
theorem diffRunes_any (xs ys : List Int) (A C : Option Addr) (c d : Nat) (w : World) (hs : xs.length ≤ 1000000) (ht : ys.length ≤ 1000000) (hA : IntsR .i32 w A xs) (hC : IntsR .i32 w C ys) (hc : xs.length ≤ c) (hd : ys.length ≤ d) (hv : ∀ r ∈ xs, Utf8.valid r = true) (P : List Df → Prop) (hP0 : ∀ ds, P ds → OrdD 0 ds)
    (hdif : Calls Tryz.prog 48 #[.slice A xs.length c, .slice C ys.length d] w (DsX xs.length ys.length P w)) :
    Calls Tryz.prog 36 #[.slice A xs.length c, .slice C ys.length d] w (EdX (fun es => ∃ ds, P ds ∧ es = edsOf (pcsR xs) (pcsR ys) ds) w) := by
  obtain ⟨i0, hi, hz0, hz1, hz2⟩ := info_parts infoS32
  obtain ⟨i1, hj, hy0, hy1, hy2⟩ := info_parts infoDX
  have hpart := fun a b (h : a ≤ b) => lenI_part hv a b h
  have htb := totB_pcsR xs
  have hta := fun a => totB_take_all (pcsR xs) a
  have hxl : (intCells .i32 xs).length = xs.length := by simp [intCells]
  have hyl : (intCells .i32 ys).length = ys.length := by simp [intCells]
  have hlx := fun x X (h : x ≤ X) (hX : X ≤ xs.length) => (show ((xs.drop x).take (X - x)).length = X - x by rw [List.length_take, List.length_drop]; omega)
  have hly := fun x X (h : x ≤ X) (hX : X ≤ ys.length) => (show ((ys.drop x).take (X - x)).length = X - x by rw [List.length_take, List.length_drop]; omega)
  have HRL0 := Lib.hid (fun A c rs W (h : IntsR .i32 W A rs) hl => rsum_any A c rs W h hl)
  have HD := Lib.hid hdif; have HC := Lib.hid hC; have HA := Lib.hid hA; have HPART := Lib.hid hpart; have HTA := Lib.hid hta; have HXL := Lib.hid hxl; have HYL := Lib.hid hyl; have HP0 := Lib.hid hP0; have HLX := Lib.hid hlx; have HLY := Lib.hid hly
  clear hdif hC hA hpart hta hxl hyl hP0 hv hlx hly
  unfold DsX at HD
  generalize hN : xs.length = N at *
  generalize hM : ys.length = M at *
  have HN := Lib.hid hN; have HM := Lib.hid hM
  clear hN hM
  generalize hT0 : totB (pcsR xs) = T0 at *
  clear hT0
  go_enter Tryz.func36, Tryz.ntmps36
  go_wp2_with fail
  refine HD.out.mono ?_
  rintro e w3 ⟨ds, A5, c5, rfl, hds, b3, hP, hlen, hbd⟩
  have hord := HP0.out ds hP
  have B3 := Lib.hid b3; have RD := Lib.hid hds; have HP := Lib.hid hP; have HBD := Lib.hid hbd; have HC3 := Lib.hid (CellsR.below HC.out b3 (Nat.le_refl _)); have HA3 := Lib.hid (CellsR.below HA.out b3 (Nat.le_refl _)); have HORD := Lib.hid hord
  clear hds b3 hP hbd HC HA hord
  have hel := edsX_len (pcsR xs) (pcsR ys) ds
  have hea := edsX_at (pcsR xs) (pcsR ys) ds
  have hrz := rowK_zero (edsOf (pcsR xs) (pcsR ys) ds)
  have hra := rowK_all (edsOf (pcsR xs) (pcsR ys) ds)
  have hrs := rowK_set (edsOf (pcsR xs) (pcsR ys) ds)
  have hrl := rowK_len (edsOf (pcsR xs) (pcsR ys) ds)
  have hfin : ∀ w', Below w.heap.size w w' → ∀ A c, w'.ownsRow w.heap.size 57 3 (.slice A ds.length c) ds.length (edCells (edsOf (pcsR xs) (pcsR ys) ds)) → EdX (fun es => ∃ ds, P ds ∧ es = edsOf (pcsR xs) (pcsR ys) ds) w (.returned (.slice A ds.length c)) w' := fun w' hb A c ho => ⟨_, A, c, by rw [hel], by rw [hel]; exact ho, hb, ds, HP.out, rfl⟩
  generalize edsOf (pcsR xs) (pcsR ys) ds = es at *
  have HEA := Lib.hid hea; have HRS := Lib.hid hrs; have HFIN := Lib.hid hfin; have HRZ := Lib.hid hrz; have HRA := Lib.hid hra; have HRL := Lib.hid hrl
  have hdf := fun W (h : CellsR W A5 (dfCells ds)) k (hk : k < ds.length) => dfs_at h hk
  have HDF := Lib.hid hdf
  clear hea hrs hfin hrz hra hrl hdf
  obtain ⟨n, hn⟩ : ∃ n, ds.length = n := ⟨_, rfl⟩
  rw [hn] at hlen hel HFIN
  have HNN := Lib.hid hn; have HEL := Lib.hid hel
  rw [hn]
  clear hn hel
  have hn4 : n ≤ 2000000 := by omega
  go_wp2_with (at_make; refine wpList_make_full _ rfl _ _ _ rfl w.heap.size 57 i1 (.agg #[.int .i64 0, .int .i64 0, .string ⟨#[]⟩]) 3 Tryz.underlying39 hj hy0 hy1 .i64 .i64 _ _ n rfl rfl rfl rfl (by rw [hy2]; omega) (by unfold maxLen; omega) B3.out.size ?_; intro w4 hown4 hg4)
  have hb4 := B3.out.grown hg4 B3.out.size (fun k h => by cases h)
  have hm4 : w4.ownsRow w.heap.size 57 3 (.slice (some ⟨w3.heap.size, 0, none⟩) n n) n (edCells (rowK es 0)) := by
    rw [HRZ.out, HEL.out, ← made_ed]
    exact hown4
  have hbw4 : Below w3.heap.size w3 w4 := (Below.refl _ _).grown hg4 (Nat.le_refl _) (fun k h => by cases h)
  have O4 := Lib.hid hm4; have HBW4 := Lib.hid hbw4
  have hsz4 := hbw4.size
  clear hb4 hm4 hown4 hg4 hbw4
  go_wp2
  go_loopg [7, 8, 20] n (fun q v7 v8 i wr => ∃ k le : Nat, q = n - k ∧ k ≤ n ∧ i = .int .i64 k ∧ v7 = .int .i64 le ∧ v8 = .int .i64 (totB ((pcsR xs).take le) : Nat) ∧ OrdD le (ds.drop k) ∧ wr.ownsRow w.heap.size 57 3 (.slice (some ⟨w3.heap.size, 0, none⟩) n n) n (edCells (rowK es k)) ∧ Below w3.heap.size w3 wr)
  case atStart => exact ⟨0, 0, rfl, Nat.zero_le _, rfl, rfl, rfl, HORD.out, O4.out, HBW4.out⟩
  case round =>
    obtain ⟨k, le, hq, hk, rfl, rfl, rfl, hor, hown, hb⟩ := hrel
    have HQ := Lib.hid hq; have HO := Lib.hid hown; have HB := Lib.hid hb
    have hbs := hb.size
    clear hq hown hb
    by_cases hlt : k < n
    · have hkl : k < ds.length := by rw [HNN.out]; exact hlt
      obtain ⟨b, off, hA, hbb, g0, g1, g2, g3⟩ := HDF.out wr (CellsR.below RD.out HB.out (Nat.le_refl _)) k hkl
      subst hA
      have hea := HEA.out k hkl
      have hbd := HBD.out _ (List.getElem_mem hkl)
      have hset := HRS.out k (by rw [HEL.out]; exact hlt)
      rw [List.drop_eq_getElem_cons hkl] at hor
      obtain ⟨o1, o2, o3⟩ := hor
      generalize ds[k] = d' at *
      obtain ⟨q1, q2, q3, q4⟩ := hbd
      rw [hea] at hset
      have HSET := Lib.hid hset; have HO3 := Lib.hid o3
      clear hea hset hkl o3
      have hp1 := HPART.out le d'.s o1
      have hp2 := HPART.out d'.s d'.e q1
      have hb1 := HTA.out le
      have hb2 := HTA.out d'.s
      have hb3 := HTA.out d'.e
      obtain ⟨A6, hcut6, hsub6⟩ := cells_cut (P := Tryz.prog) 61 21 i0 Tryz.underlying61 hi hz1 A (intCells .i32 xs) N c le d'.s HXL.out o1 (by omega) hc
      obtain ⟨A7, hcut7, hsub7⟩ := cells_cut (P := Tryz.prog) 61 21 i0 Tryz.underlying61 hi hz1 A (intCells .i32 xs) N c d'.s d'.e HXL.out q1 q2 hc
      obtain ⟨A8, hcut8, hsub8⟩ := cells_cut (P := Tryz.prog) 61 21 i0 Tryz.underlying61 hi hz1 C (intCells .i32 ys) M d d'.rs d'.re HYL.out q3 q4 hd
      have hr6 : ∀ W, Below w3.heap.size w3 W → Calls Tryz.prog 49 #[.slice A6 (d'.s - le) (c - le)] W fun e w' => e = .returned (.int .i64 (lenI ((xs.drop le).take (d'.s - le)))) ∧ w' = W := fun W hW => by
        have h := hsub6 W (CellsR.below HA3.out hW (Nat.le_refl _))
        rw [cut_ints] at h
        have hl := HLX.out le d'.s o1 (by omega)
        have := HRL0.out A6 (c - le) _ W h (by rw [hl]; omega)
        rw [hl] at this
        exact this
      have hr7 : ∀ W, Below w3.heap.size w3 W → Calls Tryz.prog 49 #[.slice A7 (d'.e - d'.s) (c - d'.s)] W fun e w' => e = .returned (.int .i64 (lenI ((xs.drop d'.s).take (d'.e - d'.s)))) ∧ w' = W := fun W hW => by
        have h := hsub7 W (CellsR.below HA3.out hW (Nat.le_refl _))
        rw [cut_ints] at h
        have hl := HLX.out d'.s d'.e q1 (by omega)
        have := HRL0.out A7 (c - d'.s) _ W h (by rw [hl]; omega)
        rw [hl] at this
        exact this
      have hconv : ∀ W, Below w3.heap.size w3 W → (convert 61 9 (.slice A8 (d'.re - d'.rs) (d - d'.rs))).run Tryz.prog W = .ok (.string (joinB (((pcsR ys).drop d'.rs).take (d'.re - d'.rs)))) W := fun W hW => by
        have h := hsub8 W (CellsR.below HC3.out hW (Nat.le_refl _))
        rw [cut_ints] at h
        rw [← cut_pcs]
        exact run_conv_runes W _ _ 21 Tryz.underlying61 Tryz.underlying21 Tryz.underlying9 h (HLY.out d'.rs d'.re q3 (by omega))
      have HR6 := Lib.hid hr6; have HR7 := Lib.hid hr7; have HCONV := Lib.hid hconv
      clear hconv hr6 hr7 hsub6 hsub7 hsub8
      generalize joinB (((pcsR ys).drop d'.rs).take (d'.re - d'.rs)) = J at *
      generalize lenI ((xs.drop le).take (d'.s - le)) = L6 at *
      generalize lenI ((xs.drop d'.s).take (d'.e - d'.s)) = L7 at *
      obtain ⟨T1, hT1⟩ : ∃ T1, totB ((pcsR xs).take le) = T1 := ⟨_, rfl⟩
      obtain ⟨T2, hT2⟩ : ∃ T2, totB ((pcsR xs).take d'.s) = T2 := ⟨_, rfl⟩
      obtain ⟨T3, hT3⟩ : ∃ T3, totB ((pcsR xs).take d'.e) = T3 := ⟨_, rfl⟩
      rw [hT1] at hp1 hb1 ⊢
      rw [hT2] at hp1 hp2 hb2
      rw [hT3] at hp2 hb3
      rw [hT2, hT3] at HSET
      have HT3 := Lib.hid hT3
      clear hT1 hT2 hT3
      have hbk := Blk.new wr 71 #[.int .i64 d'.s, .int .i64 d'.e, .int .i64 d'.rs, .int .i64 d'.re]
      have hbw : Below w3.heap.size w3 (wr.alloc (.cells #[.int .i64 d'.s, .int .i64 d'.e, .int .i64 d'.rs, .int .i64 d'.re] 71)) := HB.out.alloc hbs _
      have hoa := HO.out.alloc (.cells #[.int .i64 d'.s, .int .i64 d'.e, .int .i64 d'.rs, .int .i64 d'.re] 71)
      obtain ⟨bx, hbx⟩ : ∃ bx, wr.heap.size = bx := ⟨_, rfl⟩
      rw [hbx] at hbk
      have hgx : w3.heap.size < bx := by rw [← hbx]; exact (HO.out.lt _ rfl).2
      go_upto_region 8 with fail
      generalize hW0 : wr.alloc (.cells #[.int .i64 d'.s, .int .i64 d'.e, .int .i64 d'.rs, .int .i64 d'.re] 71) = W0 at *
      have HBW := Lib.hid hbw; have HOA := Lib.hid hoa
      clear hbw hoa hW0 hbx HO HB g0 g1 g2 g3 hbb hbs
      have hll : (edCells (rowK es k)).length = n * 3 := by rw [edCells_length, HRL.out k (by rw [HEL.out]; exact hk), HEL.out]
      obtain ⟨y0, hy0⟩ : ∃ v, W0.cell? ⟨w3.heap.size, k * 3, none⟩ = some v := ⟨_, by rw [HOA.out.cellAt _ (by omega)]; exact List.getElem?_eq_getElem (by omega)⟩
      obtain ⟨y1, hy1⟩ : ∃ v, W0.cell? ⟨w3.heap.size, k * 3 + 1, none⟩ = some v := ⟨_, by rw [HOA.out.cellAt _ (by omega)]; exact List.getElem?_eq_getElem (by omega)⟩
      obtain ⟨y2, hy2⟩ : ∃ v, W0.cell? ⟨w3.heap.size, k * 3 + 2, none⟩ = some v := ⟨_, by rw [HOA.out.cellAt _ (by omega)]; exact List.getElem?_eq_getElem (by omega)⟩
      have f0 : W0.frozen? ⟨w3.heap.size, k * 3, none⟩ = false := HOA.out.frozenAt _
      have f1 : W0.frozen? ⟨w3.heap.size, k * 3 + 1, none⟩ = false := HOA.out.frozenAt _
      have f2 : W0.frozen? ⟨w3.heap.size, k * 3 + 2, none⟩ = false := HOA.out.frozenAt _
      have b0 : W0.cell? ⟨bx, 0, none⟩ = some (.int .i64 (d'.s : Int)) := hbk.cell 0
      have b1 : W0.cell? ⟨bx, 1, none⟩ = some (.int .i64 (d'.e : Int)) := hbk.cell 1
      have b2 : W0.cell? ⟨bx, 2, none⟩ = some (.int .i64 (d'.rs : Int)) := hbk.cell 2
      have b3 : W0.cell? ⟨bx, 3, none⟩ = some (.int .i64 (d'.re : Int)) := hbk.cell 3
      have k0 := HCONV.out W0 HBW.out
      have i3 : (k : Int) < (n : Int) := by omega
      have i6 : (0 : Int) ≤ (k : Int) := by omega
      have nbx : ¬ bx = w3.heap.size := by omega
      have nbx2 : ¬ w3.heap.size = bx := by omega
      have HPP1 := Lib.hid hp1; have HPP2 := Lib.hid hp2
      clear hll hbk hp1 hp2
      have hu1 : (T1 : Int) + L6 = (T2 : Int) := HPP1.out
      have hu2 : (T2 : Int) + L7 = (T3 : Int) := HPP2.out
      go_wp2_with fail
      refine (HR6.out _ HBW.out).mono ?_
      rintro e wx ⟨rfl, rfl⟩
      go_wp2_with fail
      refine (HR7.out _ HBW.out).mono ?_
      rintro e wx2 ⟨rfl, rfl⟩
      go_wp2
      obtain ⟨s1, _⟩ := World.ownsRow.stored HOA.out (k * 3) (.int .i64 (T2 : Int))
      obtain ⟨s2, _⟩ := s1.stored (k * 3 + 1) (.int .i64 (T3 : Int))
      obtain ⟨s3, _⟩ := s2.stored (k * 3 + 2) (.string J)
      rw [edCells_putX (rowK es k) k ⟨T2, T3, J⟩ (by rw [HRL.out k (by rw [HEL.out]; exact hk), HEL.out]; exact hlt), HSET.out] at s3
      have hb5 := ((HBW.out.setCell (p := ⟨w3.heap.size, k * 3, none⟩) (Nat.le_refl _) (.int .i64 (T2 : Int))).setCell (p := ⟨w3.heap.size, k * 3 + 1, none⟩) (Nat.le_refl _) (.int .i64 (T3 : Int))).setCell (p := ⟨w3.heap.size, k * 3 + 2, none⟩) (Nat.le_refl _) (.string J)
      have HS3 := Lib.hid s3; have HB5 := Lib.hid hb5
      clear s1 s2 s3 hb5
      go_roundg (n - (k + 1))
      case measure => have := HQ.out; omega
      case rel => exact ⟨k + 1, d'.e, rfl, by omega, by go_num, rfl, by rw [HT3.out], HO3.out, HS3.out, HB5.out⟩
    · obtain rfl : k = n := by omega
      have hown := HO.out
      rw [show rowK es k = es by have := HRA.out; rwa [HEL.out] at this] at hown
      have HO2 := Lib.hid hown
      clear hown HO hor
      go_wp2
      go_ret
      exact HFIN.out _ (B3.out.trans (HB.out.mono B3.out.size)) _ _ HO2.out
end Go.Proofs.YtgjbagojcbondaaGreatDoor

namespace Go.Proofs.YtgjbagojcbondaaGreatDoor
set_option linter.unusedVariables false

/-- the edits between two texts, from a chain of portions that are alike -/
def StrP (s t : ByteArray) (es : List Ed) : Prop :=
  (s = t ∧ es = []) ∨ (s ≠ t ∧ ∃ ps, Ch (eqI (runesF s) (runesF t)) 0 0 ps (runesF s).length (runesF t).length ∧ es = edsOf (pcsR (runesF s)) (pcsR (runesF t)) (diffsFrom (runesF s).length (runesF t).length 0 0 ps))
theorem eqI_sx {xs ys : List Int} {i j : Nat} (hi : i < xs.length) (hj : j < ys.length) (h : eqI xs ys i j = true) : sx (pcsR xs) i = sx (pcsR ys) j := by
  have h1 : ix xs i = ix ys j := by simpa [eqI] using h
  simp only [ix, List.getD_eq_getElem?_getD, List.getElem?_eq_getElem hi, List.getElem?_eq_getElem hj, Option.getD_some] at h1
  simp [sx, pcsR, hi, hj, h1]
/-- what holds of any two texts -/
structure StrG (es : List Ed) : Prop where
  order : ∃ T : Nat, T ≤ 4000000 ∧ inOrderF T 0 es = true
  size : szE es ≤ 4000000
  len : es.length ≤ 2000000
theorem edsOf_count (P Q : List ByteArray) (ds : List Df) : (edsOf P Q ds).length = ds.length := by simp [edsOf]
theorem pcsR_len (rs : List Int) : (pcsR rs).length = rs.length := by simp [pcsR]
theorem diffs_min {E : EQT} {N M : Nat} {ps : List Pc} (h : Ch E 0 0 ps N M) : (diffsFrom N M 0 0 ps).length ≤ N + 1 ∧ (diffsFrom N M 0 0 ps).length ≤ M + 1 := by
  have h1 := ch_len h
  have h2 := diffs_len N M ps 0 0
  omega
theorem StrP.gen {s t : ByteArray} {es : List Ed} (h : StrP s t es) (hst : s.size + t.size ≤ 1000000) : StrG es := by
  rcases h with ⟨rfl, rfl⟩ | ⟨_, ps, h1, rfl⟩
  · exact ⟨⟨0, by omega, rfl⟩, by simp [szE], by simp⟩
  · obtain ⟨k, hk⟩ := lead_chain h1
    have hl := diffs_min h1
    have l1 := runesF_len s
    have l2 := runesF_len t
    have t1 := totB_runes s
    have t2 := totB_runes t
    have h2 := lead_szE (P := pcsR (runesF s)) (Q := pcsR (runesF t)) hk
    rw [← pcsR_len (runesF s)] at hk
    have h3 := lead_order (Q := pcsR (runesF t)) hk
    rw [List.take_zero] at h3
    rw [List.drop_zero] at h2
    rw [pcsR_len] at h3
    exact ⟨⟨_, by omega, h3⟩, by omega, by rw [edsOf_count]; omega⟩
theorem patchB_none (s : ByteArray) : patchB s 0 [] = s := by
  show s.extract 0 s.size = s
  exact ByteArray.extract_zero_size
theorem StrP.ed {s t : ByteArray} {es : List Ed} (h : StrP s t es) (hst : s.size + t.size ≤ 1000000) (hs : wfB s = true) (ht : wfB t = true) : LinesEd s t es := by
  have hg := h.gen hst
  rcases h with ⟨rfl, rfl⟩ | ⟨_, ps, h1, rfl⟩
  · exact ⟨rfl, patchB_none s, hg.size, hg.len⟩
  · obtain ⟨k, hk⟩ := lead_chain h1
    have js := join_runes hs
    have jt := join_runes ht
    have ts := joinB_size (pcsR (runesF s))
    rw [js] at ts
    have e1 := pcsR_len (runesF s)
    have e2 := pcsR_len (runesF t)
    rw [← e1, ← e2] at hk
    have h3 := lead_order (Q := pcsR (runesF t)) hk
    have h4 := lead_patch (P := pcsR (runesF s)) (Q := pcsR (runesF t)) (fun i j hi hj h => eqI_sx (by omega) (by omega) h) hk
    rw [List.take_zero] at h3 h4
    rw [js, List.drop_zero, jt] at h4
    rw [← ts] at h3
    rw [e1, e2] at h3 h4
    exact ⟨h3, h4, hg.size, hg.len⟩
/-- they begin and end between code points, and put in texts in UTF-8 -/
theorem StrP.runes {s t : ByteArray} {es : List Ed} (h : StrP s t es) (hs : wfB s = true) : ∀ k, k < es.length → ∃ p q : Nat, eS es k = p ∧ eE es k = q ∧ RuneAt s p ∧ RuneAt s q ∧ wfB (eN es k) = true := by
  intro k hk
  rcases h with ⟨rfl, rfl⟩ | ⟨_, ps, h1, rfl⟩
  · simp at hk
  · rw [edsOf_count] at hk
    have he : edAt (edsOf (pcsR (runesF s)) (pcsR (runesF t)) (diffsFrom (runesF s).length (runesF t).length 0 0 ps)) k = ⟨(totB ((pcsR (runesF s)).take (diffsFrom (runesF s).length (runesF t).length 0 0 ps)[k].s) : Nat), (totB ((pcsR (runesF s)).take (diffsFrom (runesF s).length (runesF t).length 0 0 ps)[k].e) : Nat), joinB (((pcsR (runesF t)).drop (diffsFrom (runesF s).length (runesF t).length 0 0 ps)[k].rs).take ((diffsFrom (runesF s).length (runesF t).length 0 0 ps)[k].re - (diffsFrom (runesF s).length (runesF t).length 0 0 ps)[k].rs))⟩ := by
      simp [edAt, edsOf, hk]
    exact ⟨_, _, by rw [eS, he], by rw [eE, he], rune_place hs _, rune_place hs _, by rw [eN, he]; exact wf_part _ _ _⟩
theorem runesF_a : runesF ⟨#[97]⟩ = [97] := by decide +kernel
theorem runesF_b : runesF ⟨#[98]⟩ = [98] := by decide +kernel
theorem StrP.one {es : List Ed} (h : StrP ⟨#[97]⟩ ⟨#[98]⟩ es) : es.length = 1 := by
  rcases h with ⟨h, _⟩ | ⟨_, ps, h1, rfl⟩
  · exact absurd (congrArg (fun b : ByteArray => b.data) h) (by decide)
  · rw [runesF_a, runesF_b] at h1 ⊢
    have : ps = [] := apart_nilM (fun i j hi hj => by
      have : i = 0 := by simpa using hi
      have : j = 0 := by simpa using hj
      subst_vars
      decide) h1
    subst this
    decide
theorem StrP.none {s : ByteArray} {es : List Ed} (h : StrP s s es) : es = [] := by
  rcases h with ⟨_, rfl⟩ | ⟨h, _⟩
  · rfl
  · exact absurd rfl h
end Go.Proofs.YtgjbagojcbondaaGreatDoor

namespace Go.Proofs.YtgjbagojcbondaaGreatDoor
set_option linter.unusedVariables false
open Go.RowKit

/-- differences out of a chain of portions that are alike -/
def DfP (K : List Int → List Int → List Pc → Prop) (xs ys : List Int) (ds : List Df) : Prop :=
  ∃ ps, Ch (eqI xs ys) 0 0 ps xs.length ys.length ∧ K xs ys ps ∧ ds = diffsFrom xs.length ys.length 0 0 ps
def StrPK (K : List Int → List Int → List Pc → Prop) (s t : ByteArray) (es : List Ed) : Prop :=
  (s = t ∧ es = []) ∨ (s ≠ t ∧ ∃ ps, Ch (eqI (runesF s) (runesF t)) 0 0 ps (runesF s).length (runesF t).length ∧ K (runesF s) (runesF t) ps ∧ es = edsOf (pcsR (runesF s)) (pcsR (runesF t)) (diffsFrom (runesF s).length (runesF t).length 0 0 ps))
theorem StrPK.str {K : List Int → List Int → List Pc → Prop} {s t : ByteArray} {es : List Ed} (h : StrPK K s t es) : StrP s t es := by
  rcases h with h | ⟨h, ps, h1, _, h2⟩
  · exact .inl h
  · exact .inr ⟨h, ps, h1, h2⟩
theorem DfP.ord {K : List Int → List Int → List Pc → Prop} {xs ys : List Int} {ds : List Df} (h : DfP K xs ys ds) : OrdD 0 ds := by
  obtain ⟨ps, h1, _, rfl⟩ := h
  obtain ⟨k, hk⟩ := lead_chain h1
  exact lead_ord hk
theorem dsX_of {K : List Int → List Int → List Pc → Prop} {xs ys : List Int} {w : World} {e : Ending} {w' : World} (h : ∃ ps A c, e = .returned (.slice A (diffsFrom xs.length ys.length 0 0 ps).length c) ∧ CellsR w' A (dfCells (diffsFrom xs.length ys.length 0 0 ps)) ∧ Below w.heap.size w w' ∧ Ch (eqI xs ys) 0 0 ps xs.length ys.length ∧ K xs ys ps) : DsX xs.length ys.length (DfP K xs ys) w e w' := by
  obtain ⟨ps, A, c, rfl, o, b, h1, h2⟩ := h
  obtain ⟨k, hk⟩ := lead_chain h1
  have hl := diffs_min h1
  have hl2 := diffs_len xs.length ys.length ps 0 0
  refine ⟨_, A, c, rfl, o, b, ⟨ps, h1, h2, rfl⟩, ?_, lead_bounds hk⟩
  by_cases h3 : xs.length = 0 ∧ ys.length = 0
  · have h4 := ch_len h1
    have : ps = [] := List.eq_nil_of_length_eq_zero (by omega)
    subst this
    rw [h3.1, h3.2]
    decide
  · omega
theorem below_bytesX (w : World) (e : TypeId) (s : ByteArray) : Below w.heap.size w (Lib.bytesWorld w e s) :=
  ⟨rfl, rfl, rfl, by rw [Lib.bytesWorld_size]; omega, fun g hg => Lib.bytesWorld_at_old w e s g hg⟩
theorem ints_bytesX (w : World) (e : TypeId) (s : ByteArray) : IntsR .u8 (Lib.bytesWorld w e s) (some ⟨w.heap.size, 0, none⟩) (bytesI s) := by
  refine .inr ⟨_, _, rfl, fun j u hu => ?_⟩
  rw [← bytesI_cells] at hu
  have hj : j < s.size := by
    have := (List.getElem?_eq_some_iff.1 hu).1
    rwa [Lib.strCells_length] at this
  rw [Nat.zero_add, Lib.bytesWorld_cell w e s j hj, ← hu]
  simp [Lib.strCells, hj]
theorem ints_runesX (w : World) (e : TypeId) (s : ByteArray) (X : Array Value) : IntsR .i32 (w.alloc (.cells ((intCells .i32 (runesF s)).toArray ++ X) e)) (some ⟨w.heap.size, 0, none⟩) (runesF s) := by
  refine .inr ⟨_, _, rfl, fun j u hu => ?_⟩
  have h := (Blk.new w e ((intCells .i32 (runesF s)).toArray ++ X)).cell (0 + j)
  have hj := (List.getElem?_eq_some_iff.1 hu).1
  rw [h, Nat.zero_add, Array.getElem?_append_left (by simpa using hj), ← hu]
  simp
set_option maxRecDepth 100000 in
set_option maxHeartbeats 1000000 in
theorem strings_any {K : List Int → List Int → List Pc → Prop} (s t : ByteArray) (w : World) (hs : s.size ≤ 1000000) (ht : t.size ≤ 1000000)
    (hdb : ∀ W A C c d, IntsR .u8 W A (bytesI s) → IntsR .u8 W C (bytesI t) → s.size ≤ c → t.size ≤ d → Calls Tryz.prog 47 #[.slice A s.size c, .slice C t.size d] W (DsX s.size t.size (DfP K (bytesI s) (bytesI t)) W))
    (hdr : ∀ W A C c d, IntsR .i32 W A (runesF s) → IntsR .i32 W C (runesF t) → (runesF s).length ≤ c → (runesF t).length ≤ d → Calls Tryz.prog 48 #[.slice A (runesF s).length c, .slice C (runesF t).length d] W (DsX (runesF s).length (runesF t).length (DfP K (runesF s) (runesF t)) W)) :
    Calls Tryz.prog 27 #[.string s, .string t] w (EdX (StrPK K s t) w) := by
  have ha := fun (x : ByteArray) W (h : x.size ≤ 4000000) => isAscii_any x W h
  have HA := Lib.hid ha; clear ha
  by_cases heq : s = t
  · subst heq
    have hq : (s.toList == s.toList) = true := by simp
    go_enter Tryz.func27, Tryz.ntmps27
    go_wp2
    go_ret
    exact ⟨[], none, 0, rfl, ⟨rfl, .inl ⟨rfl, rfl⟩⟩, Below.refl _ _, .inl ⟨rfl, rfl⟩⟩
  · have hq : (s.toList == t.toList) = false := strEq_false heq
    have l1 := runesF_len s
    have l2 := runesF_len t
    have v1 := runesF_valid s
    have hro := fun W A C c d h1 h2 h3 h4 => diffRunes_any (runesF s) (runesF t) A C c d W (by omega) (by omega) h1 h2 h3 h4 v1 (DfP K (runesF s) (runesF t)) (fun ds h => h.ord) (hdr W A C c d h1 h2 h3 h4)
    have hfin : ∀ ds es, DfP K (runesF s) (runesF t) ds → es = edsOf (pcsR (runesF s)) (pcsR (runesF t)) ds → StrPK K s t es := fun ds es h he => by
      obtain ⟨ps, h1, h2, rfl⟩ := h
      exact .inr ⟨heq, ps, h1, h2, he⟩
    have HRO := Lib.hid hro; have HFIN := Lib.hid hfin
    have cv1 := fun W => run_runes_of_string (P := Tryz.prog) W 9 61 21 s Tryz.underlying9 Tryz.underlying61 Tryz.underlying21 (by rw [conv_runes]; simp [intCells]; omega)
    have cv2 := fun W => run_runes_of_string (P := Tryz.prog) W 9 61 21 t Tryz.underlying9 Tryz.underlying61 Tryz.underlying21 (by rw [conv_runes]; simp [intCells]; omega)
    rw [conv_runes] at cv1 cv2
    have hsz1 : (intCells .i32 (runesF s)).toArray.size = (runesF s).length := by simp [intCells]
    have hsz2 : (intCells .i32 (runesF t)).toArray.size = (runesF t).length := by simp [intCells]
    rw [hsz1] at cv1
    rw [hsz2] at cv2
    have hi1 := fun W X => ints_runesX W 21 s X
    have hi2 := fun W X => ints_runesX W 21 t X
    have HI1 := Lib.hid hi1; have HI2 := Lib.hid hi2
    unfold EdX at HRO
    have hrune : asciiF s = false ∨ asciiF t = false → Calls Tryz.prog 27 #[.string s, .string t] w (EdX (StrPK K s t) w) := by
      intro hno
      clear hro hfin hdb hdr hi1 hi2 hsz1 hsz2 v1 heq
      generalize (intCells .i32 (runesF s)).toArray = X1 at *
      generalize (intCells .i32 (runesF t)).toArray = X2 at *
      obtain ⟨n1, hn1⟩ : ∃ n, (runesF s).length = n := ⟨_, rfl⟩
      obtain ⟨n2, hn2⟩ : ∃ n, (runesF t).length = n := ⟨_, rfl⟩
      rw [hn1] at cv1 HRO l1
      rw [hn2] at cv2 HRO l2
      clear hn1 hn2
      cases h1 : asciiF s with
      | false =>
        have HS := Lib.hid h1
        clear hno h1
        go_enter Tryz.func27, Tryz.ntmps27
        go_wp2_with fail
        refine (HA.out _ _ (by omega)).mono ?_
        rintro e w1 ⟨rfl, rfl⟩
        rw [HS.out]
        go_wp2_with fail
        refine (HRO.out _ _ _ _ _ ?_ ?_ (grownCap_ge _ _ _ _) (grownCap_ge _ _ _ _)).mono ?_
        · exact CellsR.below (HI1.out _ _) ((((Below.refl _ _).alloc (Nat.le_refl _) _).drew).drew) (Nat.le_refl _)
        · have h := HI2.out (w1.alloc (.cells (X1 ++ Array.replicate (grownCap w1 n1 0 21 - n1) (.int .i32 0)) 21)) (Array.replicate (grownCap (w1.alloc (.cells (X1 ++ Array.replicate (grownCap w1 n1 0 21 - n1) (.int .i32 0)) 21)).drew n2 0 21 - n2) (.int .i32 0))
          rw [show (w1.alloc (.cells (X1 ++ Array.replicate (grownCap w1 n1 0 21 - n1) (.int .i32 0)) 21)).heap.size = w1.heap.size + 1 by simp] at h
          exact (h.drew).drew
        · have hB := Lib.hid ((((Below.refl w1.heap.size w1).alloc (Nat.le_refl _) (.cells (X1 ++ Array.replicate (grownCap w1 n1 0 21 - n1) (.int .i32 0)) 21)).alloc (by simp) (.cells (X2 ++ Array.replicate (grownCap (w1.alloc (.cells (X1 ++ Array.replicate (grownCap w1 n1 0 21 - n1) (.int .i32 0)) 21)).drew n2 0 21 - n2) (.int .i32 0)) 21)).drew.drew)
          generalize ((w1.alloc (.cells (X1 ++ Array.replicate (grownCap w1 n1 0 21 - n1) (.int .i32 0)) 21)).alloc (.cells (X2 ++ Array.replicate (grownCap (w1.alloc (.cells (X1 ++ Array.replicate (grownCap w1 n1 0 21 - n1) (.int .i32 0)) 21)).drew n2 0 21 - n2) (.int .i32 0)) 21)).drew.drew = W2 at *
          rintro e w5 ⟨es, A, c, rfl, ho, hb, ds, hp, hes⟩
          have HO := Lib.hid ho; have HB := Lib.hid hb; have HP := Lib.hid (HFIN.out ds es hp hes)
          clear ho hb hp hes
          go_wp2
          go_ret
          exact ⟨es, A, c, rfl, own_mono HO.out hB.out.size, hB.out.trans (HB.out.mono hB.out.size), HP.out⟩
      | true =>
        have h2 : asciiF t = false := by
          rcases hno with h | h
          · rw [h1] at h; cases h
          · exact h
        have HS := Lib.hid h1; have HT := Lib.hid h2
        clear hno h1 h2
        go_enter Tryz.func27, Tryz.ntmps27
        go_wp2_with fail
        refine (HA.out _ _ (by omega)).mono ?_
        rintro e w1 ⟨rfl, rfl⟩
        rw [HS.out]
        go_wp2_with fail
        refine (HA.out _ _ (by omega)).mono ?_
        rintro e w1' ⟨rfl, rfl⟩
        rw [HT.out]
        go_wp2_with fail
        refine (HRO.out _ _ _ _ _ ?_ ?_ (grownCap_ge _ _ _ _) (grownCap_ge _ _ _ _)).mono ?_
        · exact CellsR.below (HI1.out _ _) ((((Below.refl _ _).alloc (Nat.le_refl _) _).drew).drew) (Nat.le_refl _)
        · have h := HI2.out (w1'.alloc (.cells (X1 ++ Array.replicate (grownCap w1' n1 0 21 - n1) (.int .i32 0)) 21)) (Array.replicate (grownCap (w1'.alloc (.cells (X1 ++ Array.replicate (grownCap w1' n1 0 21 - n1) (.int .i32 0)) 21)).drew n2 0 21 - n2) (.int .i32 0))
          rw [show (w1'.alloc (.cells (X1 ++ Array.replicate (grownCap w1' n1 0 21 - n1) (.int .i32 0)) 21)).heap.size = w1'.heap.size + 1 by simp] at h
          exact (h.drew).drew
        · have hB := Lib.hid ((((Below.refl w1'.heap.size w1').alloc (Nat.le_refl _) (.cells (X1 ++ Array.replicate (grownCap w1' n1 0 21 - n1) (.int .i32 0)) 21)).alloc (by simp) (.cells (X2 ++ Array.replicate (grownCap (w1'.alloc (.cells (X1 ++ Array.replicate (grownCap w1' n1 0 21 - n1) (.int .i32 0)) 21)).drew n2 0 21 - n2) (.int .i32 0)) 21)).drew.drew)
          generalize ((w1'.alloc (.cells (X1 ++ Array.replicate (grownCap w1' n1 0 21 - n1) (.int .i32 0)) 21)).alloc (.cells (X2 ++ Array.replicate (grownCap (w1'.alloc (.cells (X1 ++ Array.replicate (grownCap w1' n1 0 21 - n1) (.int .i32 0)) 21)).drew n2 0 21 - n2) (.int .i32 0)) 21)).drew.drew = W2 at *
          rintro e w5 ⟨es, A, c, rfl, ho, hb, ds, hp, hes⟩
          have HO := Lib.hid ho; have HB := Lib.hid hb; have HP := Lib.hid (HFIN.out ds es hp hes)
          clear ho hb hp hes
          go_wp2
          go_ret
          exact ⟨es, A, c, rfl, own_mono HO.out hB.out.size, hB.out.trans (HB.out.mono hB.out.size), HP.out⟩
    cases h1 : asciiF s with
    | false => exact hrune (.inl h1)
    | true =>
      cases h2 : asciiF t with
      | false => exact hrune (.inr h2)
      | true =>
        have r1 := runes_ascii h1
        have r2 := runes_ascii h2
        have hao := fun W A C c d g1 g2 g3 g4 => diffAscii_any s t A C c d W (by omega) (by omega) g1 g2 g3 g4 h1 h2 (DfP K (bytesI s) (bytesI t)) (hdb W A C c d g1 g2 g3 g4)
        rw [r1, r2] at hfin
        have HAO := Lib.hid hao; have HFIN2 := Lib.hid hfin; have HS := Lib.hid h1; have HT := Lib.hid h2
        have cb1 := fun W => Lib.run_convert_string_bytes (P := Tryz.prog) W 9 41 5 s Tryz.underlying9 Tryz.underlying41 Tryz.underlying5
        have cb2 := fun W => Lib.run_convert_string_bytes (P := Tryz.prog) W 9 41 5 t Tryz.underlying9 Tryz.underlying41 Tryz.underlying5
        have HX1 := Lib.hid (fun W => ints_bytesX W 5 s)
        have HX2 := Lib.hid (fun W => ints_bytesX W 5 t)
        have HY1 := Lib.hid (fun W => below_bytesX W 5 s)
        have HY2 := Lib.hid (fun W => below_bytesX W 5 t)
        unfold EdX at HAO
        clear hrune hao hfin hro cv1 cv2 HRO HFIN HI1 HI2 hi1 hi2 hsz1 hsz2 v1 hdb hdr r1 r2 h1 h2 l1 l2 heq
        go_enter Tryz.func27, Tryz.ntmps27
        go_wp2_with fail
        refine (HA.out _ _ (by omega)).mono ?_
        rintro e w1 ⟨rfl, rfl⟩
        rw [HS.out]
        go_wp2_with fail
        refine (HA.out _ _ (by omega)).mono ?_
        rintro e w1' ⟨rfl, rfl⟩
        rw [HT.out]
        go_wp2_with fail
        refine (HAO.out _ _ _ _ _ ?_ (HX2.out _) (grownCap_ge _ _ _ _) (grownCap_ge _ _ _ _)).mono ?_
        · exact CellsR.below (HX1.out _) (HY2.out _) (Nat.le_refl _)
        · have hB := Lib.hid ((HY1.out w1').trans ((HY2.out (Lib.bytesWorld w1' 5 s)).mono (HY1.out w1').size))
          generalize Lib.bytesWorld (Lib.bytesWorld w1' 5 s) 5 t = W2 at *
          rintro e w5 ⟨es, A, c, rfl, ho, hb, ds, hp, hes⟩
          have HO := Lib.hid ho; have HB := Lib.hid hb; have HP := Lib.hid (HFIN2.out ds es hp hes)
          clear ho hb hp hes
          go_wp2
          go_ret
          exact ⟨es, A, c, rfl, own_mono HO.out hB.out.size, hB.out.trans (HB.out.mono hB.out.size), HP.out⟩
/-- what impl.Strings gives -/
def StrOut (P : List Ed → Prop) (w : World) (e : Ending) (w' : World) : Prop :=
  ∃ es A c, e = .returned (.slice A es.length c) ∧ EdsR w' A es ∧ es.length ≤ c ∧ Below w.heap.size w w' ∧ P es
theorem own_capX {w : World} {base e size n c : Nat} {A : Option Addr} {xs : List Value} (h : w.ownsRow base e size (.slice A n c) n xs) : n ≤ c := by
  rcases h.2 with ⟨h1, h2⟩ | ⟨g, cap, cur, hv, _, _, h3, _⟩
  · omega
  · injection hv with h1 h2 h4
    subst h4
    exact h3
theorem StrP.count {s t : ByteArray} {es : List Ed} (h : StrP s t es) (hs : s.size ≤ 1000000) : es.length ≤ 1000001 := by
  rcases h with ⟨_, rfl⟩ | ⟨_, ps, h1, rfl⟩
  · simp
  · have := diffs_min h1
    have l1 := runesF_len s
    rw [edsOf_count]
    omega
set_option maxRecDepth 100000 in
set_option maxHeartbeats 1000000 in
theorem strImpl_any {K : List Int → List Int → List Pc → Prop} (s t : ByteArray) (w : World) (hs : s.size ≤ 1000000)
    (hd : Calls Tryz.prog 27 #[.string s, .string t] w (EdX (StrPK K s t) w)) :
    Calls Tryz.prog 14 #[.string s, .string t] w (StrOut (StrPK K s t) w) := by
  have HT := Lib.hid (fun A c es W (h : EdsR W A es) (hl : es.length ≤ 20000000) => told_any A c es W h hl)
  have HD := Lib.hid hd; clear hd
  unfold EdX at HD
  go_enter Tryz.func14, Tryz.ntmps14
  go_wp2_with fail
  refine HD.out.mono ?_
  rintro e w1 ⟨es, A, c, rfl, o1, b1, hp⟩
  have hl := hp.str.count hs
  have HP := Lib.hid hp; have B1 := Lib.hid b1
  have hTT := HT.out A c es w1 (CellsR.of_own o1) (by omega)
  clear hp b1 o1
  obtain ⟨n, hn⟩ : ∃ n, es.length = n := ⟨_, rfl⟩
  rw [hn] at hTT ⊢
  have HTT := Lib.hid hTT; have HN := Lib.hid hn
  clear hTT hn
  go_wp2_with fail
  refine HTT.out.mono ?_
  rintro e w2 ⟨A2, c2, rfl, o2, b2⟩
  have B2 := Lib.hid (B1.out.trans (b2.mono B1.out.size))
  clear b2
  go_wp2
  go_ret
  exact ⟨es, A2, c2, by rw [HN.out]; rfl, CellsR.of_own o2, by rw [HN.out]; exact own_capX o2, B2.out, HP.out⟩
end Go.Proofs.YtgjbagojcbondaaGreatDoor
