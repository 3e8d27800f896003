/-
  The code points of a text, and the texts that they make: plainly. No condition.
  Where code points begin; texts made of code points are in UTF-8. Plainly. No condition.
  Code points of a text by their places, and rows of numbers that are filled in. Plainly. No condition.
  The walks of isASCII, utf8.RuneLen and runesLen. Condition: texts of at most 4000000 bytes.
  The walk of diffASCII: edits out of the differences of bytes. DiffBytes' contract is a premise. Condition: texts of single bytes below 128, at most 1000000 each.
  The walks of isASCII and runes over slices of bytes. Condition: texts of at most 1000000 bytes.
  The walk of diff.runes. Condition: texts of at most 1000000 bytes; the two tables of unicode/utf8 lie in memory.
-/
import Derived.Test.YtgjbagojcbondaaDoorTxB
import Derived.Lib.MapLaws
import Derived.Lib.RuneCountTail
import Derived.Laws.Cover4
import Derived.Laws.IdiomStrings
import Derived.Shelf.Unicode.DecodeSlow
import Derived.Test.YtgjbagojcbondaaDoorKit
import Derived.IntWalk
import Derived.Test.YtgjbagojcbondaaDoorLcsI
import Derived.Laws.BytesString
import Derived.Deep.RegionHeld3
import Derived.Test.YtgjbagojcbondaaDoorLayB
namespace Go.Proofs.YtgjbagojcbondaaDoor
set_option linter.unusedVariables false
open Go.RowKit

/-- the code points from a place on -/
def rnF (s : ByteArray) : Nat → Nat → List Int
  | 0, _ => []
  | f + 1, i => if i < s.size then ((Utf8.decode s i).1 : Int) :: rnF s f (i + (Utf8.decode s i).2) else []
def runesF (s : ByteArray) : List Int := rnF s s.size 0
theorem rnF_end (s : ByteArray) (f i : Nat) (h : ¬ i < s.size) : rnF s f i = [] := by
  cases f with
  | zero => rfl
  | succ f => simp [rnF, h]
theorem conv_rnF (s : ByteArray) : ∀ b i acc, Conv.runesFrom s b i acc = acc ++ ((rnF s b i).map (Value.int .i32)).toArray := by
  intro b
  induction b with
  | zero => intro i acc; simp [Conv.runesFrom, rnF]
  | succ b ih =>
    intro i acc
    unfold Conv.runesFrom rnF
    by_cases h : i < s.size
    · rw [if_pos h, if_pos h]
      simp only [ih]
      simp
    · rw [if_neg h, if_neg h]
      simp
theorem conv_runes (s : ByteArray) : Conv.runesFrom s s.size 0 #[] = (intCells .i32 (runesF s)).toArray := by
  rw [conv_rnF]
  simp [runesF, intCells]
theorem rnF_len (s : ByteArray) : ∀ f i, (rnF s f i).length ≤ f := by
  intro f
  induction f with
  | zero => intro i; simp [rnF]
  | succ f ih =>
    intro i
    unfold rnF
    split
    · have := ih (i + (Utf8.decode s i).2)
      simp; omega
    · simp
theorem runesF_len (s : ByteArray) : (runesF s).length ≤ s.size := rnF_len s _ _
theorem rnF_count (s : ByteArray) : ∀ f i, (rnF s f i).length = Lib.runeCountFrom s f i := by
  intro f
  induction f with
  | zero => intro i; rfl
  | succ f ih =>
    intro i
    unfold rnF Lib.runeCountFrom
    split
    · simp [ih]; omega
    · rfl
theorem runesF_count (s : ByteArray) : (runesF s).length = Lib.runeCount s := rnF_count s _ _
/-- more fuel than bytes left turns nothing -/
theorem rnF_fuel (s : ByteArray) : ∀ f g i, s.size ≤ i + f → s.size ≤ i + g → rnF s f i = rnF s g i := by
  intro f
  induction f with
  | zero => intro g i h1 h2; rw [rnF_end s g i (by omega)]; rfl
  | succ f ih =>
    intro g i h1 h2
    cases g with
    | zero => rw [rnF_end s (f + 1) i (by omega)]; rfl
    | succ g =>
      unfold rnF
      by_cases h : i < s.size
      · have := Lib.decode_width_pos s i h
        rw [if_pos h, if_pos h, ih g _ (by omega) (by omega)]
      · rw [if_neg h, if_neg h]
/-- what a decoded code point is -/
theorem decode_valid (s : ByteArray) (i : Nat) : Utf8.valid ((Utf8.decode s i).1 : Int) = true := by
  rw [Lib.decode_at]
  have k0 := UInt8.toNat_lt (s.get! i)
  rcases Lib.decodeN_shape (s.size - i) (s.get! i).toNat (s.get! (i + 1)).toNat (s.get! (i + 2)).toNat (s.get! (i + 3)).toNat with ⟨c, e⟩ | ⟨c1, c2, c3, cv, e⟩ | ⟨c1, c2, c3, c4, cv, cs, e⟩ | ⟨c1, c2, c3, c4, c5, cv, cw, e⟩ | e
  all_goals
    rw [e]
    simp only [Utf8.valid, Bool.or_eq_true, Bool.and_eq_true, decide_eq_true_eq]
    omega
theorem rnF_valid (s : ByteArray) : ∀ f i, ∀ r ∈ rnF s f i, Utf8.valid r = true := by
  intro f
  induction f with
  | zero => intro i r hr; cases hr
  | succ f ih =>
    intro i r hr
    unfold rnF at hr
    split at hr
    · rcases List.mem_cons.1 hr with rfl | hr
      · exact decode_valid s i
      · exact ih _ r hr
    · cases hr
theorem runesF_valid (s : ByteArray) : ∀ r ∈ runesF s, Utf8.valid r = true := rnF_valid s _ _
/-- the bytes of a code point, as a list -/
theorem enc_list (r : Int) : (Utf8.encode r).data.toList = Lib.encodeRune r := by
  unfold Utf8.encode Lib.encodeRune
  by_cases hv : Utf8.valid r = true
  · have hv' := hv
    simp only [Utf8.valid, Bool.or_eq_true, Bool.and_eq_true, decide_eq_true_eq] at hv'
    obtain ⟨n, rfl⟩ : ∃ n : Nat, r = n := ⟨r.toNat, by omega⟩
    rw [if_pos hv]
    simp only [Int.toNat_natCast]
    by_cases h1 : n < 0x80
    · rw [if_pos h1, Lib.encodeRuneZ_one (by omega) (by omega)]
      simp only [List.map_cons, List.map_nil, Int.toNat_natCast]
    · rw [if_neg h1]
      by_cases h2 : n < 0x800
      · have e1 : (192 + (n : Int) / 64).toNat = 192 + n / 64 := by omega
        have e2 : (128 + (n : Int) % 64).toNat = 128 + n % 64 := by omega
        rw [if_pos h2, Lib.encodeRuneZ_two (by omega) (by omega)]
        simp only [List.map_cons, List.map_nil, e1, e2]
      · rw [if_neg h2]
        by_cases h3 : n < 0x10000
        · have e1 : (224 + (n : Int) / 4096).toNat = 224 + n / 4096 := by omega
          have e2 : (128 + (n : Int) / 64 % 64).toNat = 128 + n / 64 % 64 := by omega
          have e3 : (128 + (n : Int) % 64).toNat = 128 + n % 64 := by omega
          rw [if_pos h3, Lib.encodeRuneZ_three (by omega)]
          simp only [List.map_cons, List.map_nil, e1, e2, e3]
        · have e1 : (240 + (n : Int) / 262144).toNat = 240 + n / 262144 := by omega
          have e2 : (128 + (n : Int) / 4096 % 64).toNat = 128 + n / 4096 % 64 := by omega
          have e3 : (128 + (n : Int) / 64 % 64).toNat = 128 + n / 64 % 64 := by omega
          have e4 : (128 + (n : Int) % 64).toNat = 128 + n % 64 := by omega
          rw [if_neg h3, Lib.encodeRuneZ_four (by omega) (by omega)]
          simp only [List.map_cons, List.map_nil, e1, e2, e3, e4]
  · rw [if_neg hv]
    simp only [Utf8.valid, Bool.or_eq_true, Bool.and_eq_true, decide_eq_true_eq] at hv
    rw [Lib.encodeRuneZ_bad (by omega)]
    rfl
theorem enc_size (r : Int) : (Utf8.encode r).size = (Lib.encodeRune r).length := by rw [← enc_list]; simp
theorem enc_pos (r : Int) : 0 < (Utf8.encode r).size ∧ (Utf8.encode r).size ≤ 4 := by
  rw [enc_size, Lib.encodeRune, List.length_map]
  have := Lib.encodeRuneZ_length r
  omega
theorem ba_ext {a b : ByteArray} (h : a.data.toList = b.data.toList) : a = b := ByteArray.ext (Array.ext' h)
/-- a code point that was read out of a text gives the bytes back -/
theorem enc_dec (s : ByteArray) (i : Nat) (h : i < s.size) (hv : ¬ ((Utf8.decode s i).1 = 65533 ∧ (Utf8.decode s i).2 = 1)) : Utf8.encode ((Utf8.decode s i).1 : Int) = s.extract i (i + (Utf8.decode s i).2) ∧ i + (Utf8.decode s i).2 ≤ s.size := by
  have ht := Lib.tail_decode s i 0
  rw [Nat.add_zero] at ht
  have hd : Lib.decodeL (s.extract i s.size).data.toList = Utf8.decode s i := by
    rw [← ht]
    unfold Lib.decodeL
    have : (⟨(s.extract i s.size).data.toList.toArray⟩ : ByteArray) = s.extract i s.size := by cases (s.extract i s.size); simp
    rw [this]
  have hsz := Lib.tail_size s i
  have hne : (s.extract i s.size).data.toList ≠ [] := fun h0 => by
    have : (s.extract i s.size).size = 0 := by rw [Lib.size_eq, h0]; rfl
    omega
  have h1 := Lib.encode_decode _ hne (by rw [hd]; exact hv)
  have h2 := Lib.decodeL_le _ hne
  rw [hd] at h1 h2
  rw [← Lib.size_eq, hsz] at h2
  refine ⟨ba_ext ?_, by omega⟩
  rw [enc_list, h1, Lib.extract_data, Lib.extract_data]
  rw [List.take_of_length_le (l := List.drop i s.data.toList) (by rw [List.length_drop, ← Lib.size_eq]; omega), Nat.add_sub_cancel_left]
/-- a text in UTF-8 -/
def wfL (s : ByteArray) : Nat → Nat → Bool
  | 0, _ => true
  | f + 1, i => if i < s.size then (if (Utf8.decode s i).1 = 65533 ∧ (Utf8.decode s i).2 = 1 then false else wfL s f (i + (Utf8.decode s i).2)) else true
def wfB (s : ByteArray) : Bool := wfL s s.size 0
theorem wfL_end (s : ByteArray) (f i : Nat) (h : ¬ i < s.size) : wfL s f i = true := by
  cases f with
  | zero => rfl
  | succ f => simp [wfL, h]
theorem wfL_fuel (s : ByteArray) : ∀ f g i, s.size ≤ i + f → s.size ≤ i + g → wfL s f i = wfL s g i := by
  intro f
  induction f with
  | zero => intro g i h1 h2; rw [wfL_end s g i (by omega)]; rfl
  | succ f ih =>
    intro g i h1 h2
    cases g with
    | zero => rw [wfL_end s (f + 1) i (by omega)]; rfl
    | succ g =>
      unfold wfL
      by_cases h : i < s.size
      · have := Lib.decode_width_pos s i h
        rw [if_pos h, if_pos h, ih g _ (by omega) (by omega)]
      · rw [if_neg h, if_neg h]
/-- the texts of the code points of a text -/
def pcsR (rs : List Int) : List ByteArray := rs.map Utf8.encode
theorem join_rnF (s : ByteArray) : ∀ f i, s.size ≤ i + f → wfL s f i = true → joinB (pcsR (rnF s f i)) = s.extract i s.size := by
  intro f
  induction f with
  | zero =>
    intro i h _
    have : s.extract i s.size = ByteArray.empty := ByteArray.extract_eq_empty_iff.2 (by omega)
    rw [this]
    rfl
  | succ f ih =>
    intro i h hw
    unfold wfL at hw
    unfold rnF
    by_cases hi : i < s.size
    · rw [if_pos hi] at hw ⊢
      by_cases hb : (Utf8.decode s i).1 = 65533 ∧ (Utf8.decode s i).2 = 1
      · rw [if_pos hb] at hw; cases hw
      · rw [if_neg hb] at hw
        have hp := Lib.decode_width_pos s i hi
        obtain ⟨h1, h2⟩ := enc_dec s i hi hb
        show Utf8.encode ((Utf8.decode s i).1 : Int) ++ joinB (pcsR (rnF s f (i + (Utf8.decode s i).2))) = _
        rw [ih _ (by omega) hw, h1, ByteArray.extract_append_extract, Nat.min_eq_left (by omega), Nat.max_eq_right (by omega)]
    · rw [if_neg hi]
      have : s.extract i s.size = ByteArray.empty := ByteArray.extract_eq_empty_iff.2 (by omega)
      rw [this]
      rfl
theorem join_runes {s : ByteArray} (h : wfB s = true) : joinB (pcsR (runesF s)) = s := by
  have := join_rnF s s.size 0 (by omega) h
  rw [ByteArray.extract_zero_size] at this
  exact this
theorem totB_pcsR (rs : List Int) : totB (pcsR rs) ≤ 4 * rs.length := by
  induction rs with
  | nil => simp [pcsR, totB]
  | cons r l ih =>
    have := (enc_pos r).2
    simp only [pcsR, List.map_cons, totB, List.length_cons] at ih ⊢
    omega
/-- at most three bytes for each byte -/
theorem dec_three (s : ByteArray) (i : Nat) (h : i < s.size) : (Utf8.encode ((Utf8.decode s i).1 : Int)).size ≤ 3 * (Utf8.decode s i).2 ∧ (i + (Utf8.decode s i).2 ≤ s.size) := by
  by_cases hb : (Utf8.decode s i).1 = 65533 ∧ (Utf8.decode s i).2 = 1
  · have h1 : (Utf8.encode ((Utf8.decode s i).1 : Int)).size = 3 := by
      rw [enc_size, Lib.encodeRune, List.length_map, Lib.encodeRuneZ_three (by have := hb.1; omega)]
      rfl
    have h2 := hb.2
    omega
  · obtain ⟨h1, h2⟩ := enc_dec s i h hb
    rw [h1, ByteArray.size_extract]
    omega
theorem totB_rnF (s : ByteArray) : ∀ f i, totB (pcsR (rnF s f i)) ≤ 3 * (s.size - i) := by
  intro f
  induction f with
  | zero => intro i; simp [rnF, pcsR, totB]
  | succ f ih =>
    intro i
    unfold rnF
    by_cases hi : i < s.size
    · rw [if_pos hi]
      have h1 := ih (i + (Utf8.decode s i).2)
      have h2 := dec_three s i hi
      simp only [pcsR, List.map_cons, totB] at h1 ⊢
      omega
    · rw [if_neg hi]
      simp [pcsR, totB]
theorem totB_runes (s : ByteArray) : totB (pcsR (runesF s)) ≤ 3 * s.size := totB_rnF s _ _
/-- the length of a code point -/
theorem runeLen_enc {r : Int} (h : Utf8.valid r = true) : Lib.runeLen r = ((Utf8.encode r).size : Int) := by
  rw [enc_size, Lib.encodeRune, List.length_map]
  simp only [Utf8.valid, Bool.or_eq_true, Bool.and_eq_true, decide_eq_true_eq] at h
  unfold Lib.runeLen Lib.encodeRuneZ
  repeat' split
  all_goals first | rfl | omega
end Go.Proofs.YtgjbagojcbondaaDoor

namespace Go.Proofs.YtgjbagojcbondaaDoor
set_option linter.unusedVariables false
open Go.RowKit

theorem byteAt_lft (a b : ByteArray) (k : Nat) (h : k < a.size) : byteAt (a ++ b) k = byteAt a k := by
  have h2 : k < a.data.toList.length := by simpa using h
  simp only [byteAt, ByteArray.data_append, Array.toList_append, List.getD_eq_getElem?_getD]
  rw [List.getElem?_append_left h2]
theorem byteAt_ext (s : ByteArray) (a b k : Nat) (hb : b ≤ s.size) (h : a + k < b) : byteAt (s.extract a b) k = byteAt s (a + k) := by
  have h1 : k < (s.extract a b).size := by rw [ByteArray.size_extract]; omega
  rw [byteAt_get _ _ h1, byteAt_get s (a + k) (by omega), ByteArray.getElem_extract]
theorem decN1 {n b0 b1 b2 b3 : Nat} (h : b0 < 128) : Lib.decodeN n b0 b1 b2 b3 = (b0, 1) := by unfold Lib.decodeN; rw [if_pos h]
theorem decN2 {n b0 b1 b2 b3 : Nat} (h : b0 / 32 = 6) (hn : 1 < n) (h1 : b1 / 64 = 2) (hv : 128 ≤ b0 % 32 * 64 + b1 % 64) : Lib.decodeN n b0 b1 b2 b3 = (b0 % 32 * 64 + b1 % 64, 2) := by
  unfold Lib.decodeN
  rw [if_neg (by omega), if_pos ⟨h, hn, h1⟩, if_pos hv]
theorem decN3 {n b0 b1 b2 b3 : Nat} (h : b0 / 16 = 14) (hn : 2 < n) (h1 : b1 / 64 = 2) (h2 : b2 / 64 = 2) (hv : 2048 ≤ b0 % 16 * 4096 + b1 % 64 * 64 + b2 % 64) (hs : b0 % 16 * 4096 + b1 % 64 * 64 + b2 % 64 < 55296 ∨ 57344 ≤ b0 % 16 * 4096 + b1 % 64 * 64 + b2 % 64) : Lib.decodeN n b0 b1 b2 b3 = (b0 % 16 * 4096 + b1 % 64 * 64 + b2 % 64, 3) := by
  unfold Lib.decodeN
  rw [if_neg (by omega), if_neg (by omega), if_pos ⟨h, ⟨by omega, h1⟩, hn, h2⟩, if_pos ⟨hv, by omega⟩]
theorem decN4 {n b0 b1 b2 b3 : Nat} (h : b0 / 8 = 30) (hn : 3 < n) (h1 : b1 / 64 = 2) (h2 : b2 / 64 = 2) (h3 : b3 / 64 = 2) (hv : 65536 ≤ b0 % 8 * 262144 + b1 % 64 * 4096 + b2 % 64 * 64 + b3 % 64) (hs : b0 % 8 * 262144 + b1 % 64 * 4096 + b2 % 64 * 64 + b3 % 64 ≤ 1114111) : Lib.decodeN n b0 b1 b2 b3 = (b0 % 8 * 262144 + b1 % 64 * 4096 + b2 % 64 * 64 + b3 % 64, 4) := by
  unfold Lib.decodeN
  rw [if_neg (by omega), if_neg (by omega), if_neg (by omega), if_pos ⟨h, ⟨by omega, h1⟩, ⟨by omega, h2⟩, hn, h3⟩, if_pos ⟨hv, by omega⟩]
theorem u8_of (x : Int) (h : 0 ≤ x ∧ x < 256) : (x.toNat.toUInt8).toNat = x.toNat := by
  show (UInt8.ofNat x.toNat).toNat = _
  rw [UInt8.toNat_ofNat']
  omega
/-- a code point read back -/
theorem dec_enc (r : Int) (y : ByteArray) : ∃ c, Utf8.decode (Utf8.encode r ++ y) 0 = (c, (Utf8.encode r).size) ∧ ¬ (c = 65533 ∧ (Utf8.encode r).size = 1) := by
  have hl : (Utf8.encode r ++ y).data.toList = Lib.encodeRune r ++ y.data.toList := by
    rw [ByteArray.data_append, Array.toList_append, enc_list]
  rw [Lib.decode_N, hl, enc_size]
  unfold Lib.encodeRune Lib.encodeRuneZ
  by_cases h1 : 0 ≤ r ∧ r ≤ 127
  · rw [if_pos h1]
    refine ⟨r.toNat, ?_, by omega⟩
    simp only [List.map_cons, List.map_nil, List.cons_append, List.nil_append, List.getD_cons_zero, List.length_cons, List.length_nil]
    rw [decN1 (by rw [u8_of _ (by omega)]; omega), u8_of _ (by omega)]
  · rw [if_neg h1]
    by_cases h2 : 128 ≤ r ∧ r ≤ 2047
    · rw [if_pos h2]
      refine ⟨r.toNat, ?_, fun h => by simp at h⟩
      simp only [List.map_cons, List.map_nil, List.cons_append, List.nil_append, List.getD_cons_zero, List.getD_cons_succ, List.length_cons, List.length_nil]
      rw [decN2 (by rw [u8_of _ (by omega)]; omega) (by omega) (by rw [u8_of _ (by omega)]; omega) (by rw [u8_of _ (by omega), u8_of _ (by omega)]; omega), u8_of _ (by omega), u8_of _ (by omega)]
      congr 1
      omega
    · rw [if_neg h2]
      by_cases h3 : (2048 ≤ r ∧ r < 55296) ∨ (57343 < r ∧ r ≤ 65535)
      · rw [if_pos h3]
        refine ⟨r.toNat, ?_, fun h => by simp at h⟩
        simp only [List.map_cons, List.map_nil, List.cons_append, List.nil_append, List.getD_cons_zero, List.getD_cons_succ, List.length_cons, List.length_nil]
        rw [decN3 (by rw [u8_of _ (by omega)]; omega) (by omega) (by rw [u8_of _ (by omega)]; omega) (by rw [u8_of _ (by omega)]; omega) (by rw [u8_of _ (by omega), u8_of _ (by omega), u8_of _ (by omega)]; omega) (by rw [u8_of _ (by omega), u8_of _ (by omega), u8_of _ (by omega)]; omega), u8_of _ (by omega), u8_of _ (by omega), u8_of _ (by omega)]
        congr 1
        omega
      · rw [if_neg h3]
        by_cases h4 : 65536 ≤ r ∧ r ≤ 1114111
        · rw [if_pos h4]
          refine ⟨r.toNat, ?_, fun h => by simp at h⟩
          simp only [List.map_cons, List.map_nil, List.cons_append, List.nil_append, List.getD_cons_zero, List.getD_cons_succ, List.length_cons, List.length_nil]
          rw [decN4 (by rw [u8_of _ (by omega)]; omega) (by omega) (by rw [u8_of _ (by omega)]; omega) (by rw [u8_of _ (by omega)]; omega) (by rw [u8_of _ (by omega)]; omega) (by rw [u8_of _ (by omega), u8_of _ (by omega), u8_of _ (by omega), u8_of _ (by omega)]; omega) (by rw [u8_of _ (by omega), u8_of _ (by omega), u8_of _ (by omega), u8_of _ (by omega)]; omega), u8_of _ (by omega), u8_of _ (by omega), u8_of _ (by omega), u8_of _ (by omega)]
          congr 1
          omega
        · rw [if_neg h4]
          refine ⟨65533, ?_, fun h => by simp at h⟩
          simp only [List.map_cons, List.map_nil, List.cons_append, List.nil_append, List.getD_cons_zero, List.getD_cons_succ, List.length_cons, List.length_nil]
          rw [decN3 (by decide) (by omega) (by decide) (by decide) (by decide) (by decide)]
          rfl
/-- texts made of code points are in UTF-8 -/
theorem wf_joined : ∀ (rs : List Int) (x : ByteArray) (f : Nat), wfL (x ++ joinB (pcsR rs)) f x.size = true := by
  intro rs
  induction rs with
  | nil =>
    intro x f
    refine wfL_end _ _ _ ?_
    simp [pcsR, joinB]
  | cons r l ih =>
    intro x f
    cases f with
    | zero => rfl
    | succ f =>
      have hp := (enc_pos r).1
      have hj : joinB (pcsR (r :: l)) = Utf8.encode r ++ joinB (pcsR l) := rfl
      rw [hj]
      have ht := Lib.tail_decode (x ++ (Utf8.encode r ++ joinB (pcsR l))) x.size 0
      have hx : (x ++ (Utf8.encode r ++ joinB (pcsR l))).extract x.size (x ++ (Utf8.encode r ++ joinB (pcsR l))).size = Utf8.encode r ++ joinB (pcsR l) := by
        have := cut3 x (Utf8.encode r ++ joinB (pcsR l)) ByteArray.empty
        rw [ByteArray.append_empty] at this
        rw [ByteArray.size_append (a := x)]
        exact this
      rw [hx, Nat.add_zero] at ht
      obtain ⟨c, hc, hb⟩ := dec_enc r (joinB (pcsR l))
      rw [hc] at ht
      unfold wfL
      rw [if_pos (by simp only [ByteArray.size_append]; omega), ← ht, if_neg hb]
      have := ih (x ++ Utf8.encode r) f
      rw [ByteArray.append_assoc, ByteArray.size_append] at this
      exact this
theorem wf_pcs (rs : List Int) : wfB (joinB (pcsR rs)) = true := by
  have := wf_joined rs ByteArray.empty (joinB (pcsR rs)).size
  rw [ByteArray.empty_append] at this
  exact this
theorem wf_part (rs : List Int) (a n : Nat) : wfB (joinB (((pcsR rs).drop a).take n)) = true := by
  have : ((pcsR rs).drop a).take n = pcsR ((rs.drop a).take n) := by simp [pcsR, List.map_take, List.map_drop]
  rw [this]
  exact wf_pcs _
/-- a place between two code points, or an end -/
def RuneAt (s : ByteArray) (p : Nat) : Prop := p = 0 ∨ p = s.size ∨ (0 < p ∧ p < s.size ∧ (byteAt s p < 128 ∨ 191 < byteAt s p))
theorem enc_first (r : Int) : byteAt (Utf8.encode r) 0 < 128 ∨ 191 < byteAt (Utf8.encode r) 0 := by
  unfold byteAt
  rw [enc_list]
  unfold Lib.encodeRune Lib.encodeRuneZ
  by_cases h1 : 0 ≤ r ∧ r ≤ 127
  · rw [if_pos h1]
    simp only [List.map_cons, List.getD_cons_zero]
    rw [u8_of _ (by omega)]; omega
  · rw [if_neg h1]
    by_cases h2 : 128 ≤ r ∧ r ≤ 2047
    · rw [if_pos h2]
      simp only [List.map_cons, List.getD_cons_zero]
      rw [u8_of _ (by omega)]; omega
    · rw [if_neg h2]
      by_cases h3 : (2048 ≤ r ∧ r < 55296) ∨ (57343 < r ∧ r ≤ 65535)
      · rw [if_pos h3]
        simp only [List.map_cons, List.getD_cons_zero]
        rw [u8_of _ (by omega)]; omega
      · rw [if_neg h3]
        by_cases h4 : 65536 ≤ r ∧ r ≤ 1114111
        · rw [if_pos h4]
          simp only [List.map_cons, List.getD_cons_zero]
          rw [u8_of _ (by omega)]; omega
        · rw [if_neg h4]
          right
          decide
theorem totB_take_succ (L : List ByteArray) (k : Nat) (h : k < L.length) : totB (L.take (k + 1)) = totB (L.take k) + L[k].size := by
  rw [List.take_succ_eq_append_getElem h, totB_append]
  simp [totB]
theorem rune_place {s : ByteArray} (h : wfB s = true) (k : Nat) : RuneAt s (totB ((pcsR (runesF s)).take k)) := by
  have hj := join_runes h
  have hc := joinB_cut (pcsR (runesF s)) (a := k) (b := k + 1) (by omega)
  have ht := joinB_size (pcsR (runesF s))
  rw [hj] at hc ht
  by_cases hk : k < (pcsR (runesF s)).length
  · have h1 := totB_take_succ _ _ hk
    have h2 := totB_take_all (pcsR (runesF s)) (k + 1)
    have h3 : (pcsR (runesF s))[k] = Utf8.encode ((runesF s)[k]'(by simpa [pcsR] using hk)) := by simp [pcsR]
    have h4 := enc_pos ((runesF s)[k]'(by simpa [pcsR] using hk))
    have h5 := enc_first ((runesF s)[k]'(by simpa [pcsR] using hk))
    rw [← h3] at h4 h5
    have h6 : joinB (((pcsR (runesF s)).drop k).take (k + 1 - k)) = (pcsR (runesF s))[k] := by
      rw [Nat.add_sub_cancel_left, List.drop_eq_getElem_cons hk]
      show joinB ((pcsR (runesF s))[k] :: List.take 0 _) = _
      simp only [List.take_zero, joinB, ByteArray.append_empty]
    rw [h6] at hc
    rw [← hc] at h5
    rw [byteAt_ext s _ _ 0 (by omega) (by omega), Nat.add_zero] at h5
    unfold RuneAt
    omega
  · rw [List.take_of_length_le (by omega)]
    exact .inr (.inl ht.symm)
/-- a text of single bytes below 128 -/
def asciiF (s : ByteArray) : Bool := (List.range s.size).all fun j => decide (byteAt s j < 128)
theorem ascii_iff {s : ByteArray} : asciiF s = true ↔ ∀ j, j < s.size → byteAt s j < 128 := by simp [asciiF]
def bytesI (s : ByteArray) : List Int := s.data.toList.map fun x => (x.toNat : Int)
theorem bytesI_len (s : ByteArray) : (bytesI s).length = s.size := by simp [bytesI]
theorem bytesI_ix (s : ByteArray) (k : Nat) (h : k < s.size) : ix (bytesI s) k = (byteAt s k : Int) := by
  have h2 : k < s.data.size := h
  simp [ix, bytesI, byteAt, Array.getElem?_eq_getElem h2]
theorem bytesI_cells (s : ByteArray) : Lib.strCells s = intCells .u8 (bytesI s) := by simp [Lib.strCells, intCells, bytesI]
theorem rnF_ascii {s : ByteArray} (h : asciiF s = true) : ∀ f i, s.size = i + f → rnF s f i = (bytesI s).drop i := by
  intro f
  induction f with
  | zero =>
    intro i hi
    rw [List.drop_of_length_le (by rw [bytesI_len]; omega)]
    rfl
  | succ f ih =>
    intro i hi
    have hlt : i < s.size := by omega
    have h1 := ascii_iff.1 h i hlt
    rw [byteAt_get s i hlt] at h1
    unfold rnF
    rw [if_pos hlt, decode_ascii s i hlt h1, ih (i + 1) (by omega)]
    rw [List.drop_eq_getElem_cons (show i < (bytesI s).length by rw [bytesI_len]; exact hlt)]
    congr 1
    simp [bytesI]
    rfl
theorem runes_ascii {s : ByteArray} (h : asciiF s = true) : runesF s = bytesI s := by
  have := rnF_ascii h s.size 0 (by omega)
  simpa [runesF] using this
theorem enc_ascii {r : Nat} (h : r < 128) : Utf8.encode (r : Int) = ⟨#[UInt8.ofNat r]⟩ := by
  have hv : Utf8.valid (r : Int) = true := by
    simp only [Utf8.valid, Bool.or_eq_true, Bool.and_eq_true, decide_eq_true_eq]
    omega
  unfold Utf8.encode
  rw [if_pos hv]
  simp only [Int.toNat_natCast]
  rw [if_pos h]
theorem pcsR_at (rs : List Int) (k : Nat) (h : k < (pcsR rs).length) : (pcsR rs)[k] = Utf8.encode (ix rs k) := by
  have h2 : k < rs.length := by simpa [pcsR] using h
  simp [pcsR, ix, h2]
theorem one_byte (s : ByteArray) (b : Nat) (h : b < s.size) : s.extract b (b + 1) = ⟨#[UInt8.ofNat (byteAt s b)]⟩ := by
  refine ba_ext ?_
  have h2 : b < s.data.toList.length := by simpa using h
  rw [Lib.extract_data, List.drop_eq_getElem_cons h2, Nat.add_sub_cancel_left]
  show [s.data.toList[b]] = [UInt8.ofNat (byteAt s b)]
  rw [byteAt_get s b h]
  simp
  rfl
theorem piece_ascii {s : ByteArray} (h : asciiF s = true) (b : Nat) (hb : b < s.size) (hl : b < (pcsR (bytesI s)).length) : (pcsR (bytesI s))[b] = s.extract b (b + 1) := by
  rw [pcsR_at, bytesI_ix s b hb, enc_ascii (ascii_iff.1 h b hb), one_byte s b hb]
/-- the pieces of a text of single bytes -/
theorem join_ascii {s : ByteArray} (h : asciiF s = true) (a b : Nat) (h1 : a ≤ b) (h2 : b ≤ s.size) : joinB (((pcsR (bytesI s)).drop a).take (b - a)) = s.extract a b := by
  induction b with
  | zero =>
    have : a = 0 := by omega
    subst this
    simp [joinB]
  | succ b ih =>
    by_cases hab : a = b + 1
    · subst hab
      simp [joinB]
    · have hb : b < s.size := by omega
      have hl : b < (pcsR (bytesI s)).length := by
        have : (pcsR (bytesI s)).length = s.size := by simp [pcsR, bytesI_len]
        omega
      have e1 : ((pcsR (bytesI s)).drop a).take (b + 1 - a) = ((pcsR (bytesI s)).drop a).take (b - a) ++ [(pcsR (bytesI s))[b]] := by
        rw [show b + 1 - a = (b - a) + 1 by omega, List.take_succ_eq_append_getElem (by rw [List.length_drop]; omega)]
        congr 2
        rw [List.getElem_drop]
        congr 1
        omega
      rw [e1, joinB_append, ih (by omega) (by omega), piece_ascii h b hb hl]
      simp only [joinB, ByteArray.append_empty]
      rw [ByteArray.extract_append_extract, Nat.min_eq_left (by omega), Nat.max_eq_right (by omega)]
theorem tot_ascii {s : ByteArray} (h : asciiF s = true) (k : Nat) (hk : k ≤ s.size) : totB ((pcsR (bytesI s)).take k) = k := by
  have := join_ascii h 0 k (by omega) hk
  rw [List.drop_zero, Nat.sub_zero] at this
  rw [← joinB_size, this, ByteArray.size_extract]
  omega
/-- the length of code points together -/
def lenI (rs : List Int) : Int := (rs.map Lib.runeLen).sum
theorem lenI_eq {rs : List Int} (h : ∀ r ∈ rs, Utf8.valid r = true) : lenI rs = (totB (pcsR rs) : Int) := by
  induction rs with
  | nil => rfl
  | cons r l ih =>
    have h1 := runeLen_enc (h r (by simp))
    have h2 := ih (fun x hx => h x (by simp [hx]))
    simp only [lenI, List.map_cons, List.sum_cons, pcsR, totB] at h2 ⊢
    rw [h1, h2]
    simp
end Go.Proofs.YtgjbagojcbondaaDoor

namespace Go.Proofs.YtgjbagojcbondaaDoor
set_option linter.unusedVariables false
open Go.RowKit

/-- the place of the k-th code point behind a place -/
def rpF (s : ByteArray) (i : Nat) : Nat → Nat
  | 0 => i
  | k + 1 => rpF s i k + (Utf8.decode s (rpF s i k)).2
theorem rpF_next (s : ByteArray) (i : Nat) : ∀ k, rpF s (i + (Utf8.decode s i).2) k = rpF s i (k + 1) := by
  intro k
  induction k with
  | zero => rfl
  | succ k ih =>
    show rpF s (i + (Utf8.decode s i).2) k + _ = rpF s i (k + 1) + _
    rw [ih]
theorem rnF_at (s : ByteArray) : ∀ f i k, k < (rnF s f i).length → rpF s i k < s.size ∧ ix (rnF s f i) k = ((Utf8.decode s (rpF s i k)).1 : Int) := by
  intro f
  induction f with
  | zero => intro i k h; simp [rnF] at h
  | succ f ih =>
    intro i k h
    unfold rnF at h ⊢
    by_cases hi : i < s.size
    · rw [if_pos hi] at h ⊢
      cases k with
      | zero => exact ⟨hi, rfl⟩
      | succ k =>
        have := ih (i + (Utf8.decode s i).2) k (by simpa using h)
        rw [rpF_next] at this
        exact ⟨this.1, by rw [← this.2]; rfl⟩
    · rw [if_neg hi] at h
      simp at h
theorem runes_at (s : ByteArray) (k : Nat) (h : k < (runesF s).length) : rpF s 0 k < s.size ∧ ix (runesF s) k = ((Utf8.decode s (rpF s 0 k)).1 : Int) := rnF_at s _ _ k h
theorem rpF_le (s : ByteArray) (k : Nat) (h : rpF s 0 k < s.size) : rpF s 0 (k + 1) ≤ s.size := (dec_three s _ h).2
theorem decode_tl (s : ByteArray) (p : Nat) : Utf8.decode (s.extract p s.size) 0 = Utf8.decode s p := by
  rw [Lib.decode_at, Lib.decode_at s p]
  simp only [Lib.tail_get!, Lib.tail_size, Nat.sub_zero, Nat.add_zero, Nat.zero_add]
theorem decodeGo_tl (s : ByteArray) (p : Nat) (h : p < s.size) : Lib.decodeGo (s.extract p s.size) = Utf8.decode s p := by
  unfold Lib.decodeGo
  rw [if_neg (by rw [Lib.tail_size]; omega), decode_tl]
/-- a row of numbers of which the first k are filled in -/
def rowI (rs : List Int) (k : Nat) : List Int := rs.take k ++ List.replicate (rs.length - k) 0
theorem rowI_zero (rs : List Int) : rowI rs 0 = List.replicate rs.length 0 := by simp [rowI]
theorem rowI_all (rs : List Int) : rowI rs rs.length = rs := by simp [rowI]
theorem rowI_len (rs : List Int) (k : Nat) (h : k ≤ rs.length) : (rowI rs k).length = rs.length := by simp [rowI]; omega
theorem rowI_set (rs : List Int) (k : Nat) (h : k < rs.length) : (rowI rs k).set k (ix rs k) = rowI rs (k + 1) := by
  have hl : (rs.take k).length = k := by simp; omega
  have h1 : List.replicate (rs.length - k) (0 : Int) = 0 :: List.replicate (rs.length - (k + 1)) 0 := by
    rw [show rs.length - k = rs.length - (k + 1) + 1 by omega, List.replicate_succ]
  unfold rowI
  rw [List.set_append_right _ _ (by omega), hl, Nat.sub_self, h1, List.set_cons_zero]
  have h2 : rs.take (k + 1) = rs.take k ++ [ix rs k] := by
    rw [List.take_add_one, List.getElem?_eq_getElem h]
    simp [ix, h]
  rw [h2, List.append_assoc]
  rfl
theorem intCells_put (kd : IntKind) (l : List Int) (k : Nat) (x : Int) : (intCells kd l).set k (.int kd x) = intCells kd (l.set k x) := by
  simp [intCells]
theorem intCells_zero (kd : IntKind) (n : Nat) : intCells kd (List.replicate n 0) = List.replicate n (.int kd 0) := by simp [intCells]
theorem get_byteB (s : ByteArray) (i : Nat) : ((s.get! i).toNat : Int) = (byteAt s i : Int) := by
  rw [← Lib.getD_get!']
  rfl
end Go.Proofs.YtgjbagojcbondaaDoor

namespace Go.Proofs.YtgjbagojcbondaaDoor
set_option linter.unusedVariables false
open Go.RowKit

set_option maxRecDepth 100000 in
theorem isAscii_any (s : ByteArray) (w : World) (hs : s.size ≤ 4000000) :
    Calls Tryd.prog 13 #[.string s] w fun e w' => e = .returned (.bool (asciiF s)) ∧ w' = w := by
  have hyes := fun (h : ∀ j, j < s.size → byteAt s j < 128) => ascii_iff.2 h
  have hno := fun j (h : j < s.size) (hb : ¬ byteAt s j < 128) => (show asciiF s = false by
    cases h2 : asciiF s with
    | false => rfl
    | true => exact absurd (ascii_iff.1 h2 j h) hb)
  have HY := Lib.hid hyes; have HN := Lib.hid hno; clear hyes hno
  go_enter Tryd.func13, Tryd.ntmps13
  go_wp2
  go_loop [3] (fun i => ∃ k : Nat, k ≤ s.size ∧ i = .int .i64 k ∧ Hid (∀ j, j < k → byteAt s j < 128)) (fun i => s.size - (intOf i).toNat)
  case atStart => exact ⟨0, Nat.zero_le _, rfl, Lib.hid fun j hj => by omega⟩
  case round =>
    obtain ⟨k, hk, rfl, hall⟩ := hrel
    by_cases hlt : k < s.size
    · have hb0 := byteAt_get s k hlt
      by_cases hb : byteAt s k < 128
      · have hd : decide ((128 : Int) ≤ ((s[k]'hlt).toNat : Int)) = false := by rw [hb0] at hb; exact decide_eq_false (by omega)
        have hd2 : ((s[k]'hlt).toNat : Int) < 128 := by rw [hb0] at hb; omega
        have HA := Lib.hid (show ∀ j, j < k + 1 → byteAt s j < 128 from fun j hj => by
          by_cases h : j = k
          · subst h; exact hb
          · exact hall.out j (by omega))
        clear hb hb0 hall
        go_wp2
        go_round
        case rel => exact ⟨k + 1, by omega, by go_num, HA⟩
        case measure => simp [intOf]; omega
      · have hd : (128 : Int) ≤ ((s[k]'hlt).toNat : Int) := by rw [hb0] at hb; omega
        have hn := HN.out k hlt hb
        have HX := Lib.hid hn
        clear hb hb0 hall hn
        go_wp2
        go_ret
        exact ⟨by rw [HX.out]; rfl, rfl⟩
    · have hn := HY.out fun j hj => hall.out j (by omega)
      have HX := Lib.hid hn
      clear hn hall
      go_wp2
      go_ret
      exact ⟨by rw [HX.out]; rfl, rfl⟩
set_option maxRecDepth 100000 in
theorem rlen_any (r : Int) (w : World) : Calls Tryd.prog 25 #[.int .i32 r] w fun e w' => e = .returned (.int .i64 (Lib.runeLen r)) ∧ w' = w := by
  unfold Lib.runeLen
  by_cases h1 : r < 0
  · rw [if_pos h1]
    go_enter Tryd.func25, Tryd.ntmps25
    go_wp2
    go_ret
    exact ⟨rfl, rfl⟩
  · rw [if_neg h1]
    by_cases h2 : r ≤ 127
    · rw [if_pos h2]
      go_enter Tryd.func25, Tryd.ntmps25
      go_wp2
      go_ret
      exact ⟨rfl, rfl⟩
    · rw [if_neg h2]
      by_cases h3 : r ≤ 2047
      · rw [if_pos h3]
        go_enter Tryd.func25, Tryd.ntmps25
        go_wp2
        go_ret
        exact ⟨rfl, rfl⟩
      · rw [if_neg h3]
        by_cases h4 : 55296 ≤ r ∧ r ≤ 57343
        · rw [if_pos h4]
          obtain ⟨h5, h6⟩ := h4
          go_enter Tryd.func25, Tryd.ntmps25
          go_wp2
          go_ret
          exact ⟨rfl, rfl⟩
        · rw [if_neg h4]
          by_cases h5 : r ≤ 65535
          · rw [if_pos h5]
            by_cases h6 : 55296 ≤ r
            · have h7 : 57343 < r := by omega
              go_enter Tryd.func25, Tryd.ntmps25
              go_wp2
              go_ret
              exact ⟨rfl, rfl⟩
            · go_enter Tryd.func25, Tryd.ntmps25
              go_wp2
              go_ret
              exact ⟨rfl, rfl⟩
          · rw [if_neg h5]
            have h7 : 55296 ≤ r := by omega
            have h8 : 57343 < r := by omega
            by_cases h6 : r ≤ 1114111
            · rw [if_pos h6]
              go_enter Tryd.func25, Tryd.ntmps25
              go_wp2
              go_ret
              exact ⟨rfl, rfl⟩
            · rw [if_neg h6]
              go_enter Tryd.func25, Tryd.ntmps25
              go_wp2
              go_ret
              exact ⟨rfl, rfl⟩
theorem lenI_snoc (rs : List Int) (k : Nat) (h : k < rs.length) : lenI (rs.take (k + 1)) = lenI (rs.take k) + Lib.runeLen (ix rs k) := by
  have e : ix rs k = rs[k] := by simp [ix, h]
  have hs : ∀ (a b : List Int), (a ++ b).sum = a.sum + b.sum := by
    intro a b
    induction a with
    | nil => simp
    | cons x a ih => simp only [List.cons_append, List.sum_cons, ih]; omega
  unfold lenI
  rw [List.take_succ_eq_append_getElem h, e, List.map_append, hs]
  simp only [List.map_cons, List.map_nil, List.sum_cons, List.sum_nil]
  omega
theorem runeLen_bound (r : Int) : -1 ≤ Lib.runeLen r ∧ Lib.runeLen r ≤ 4 := by
  unfold Lib.runeLen
  repeat' split
  all_goals omega
theorem lenI_bound (rs : List Int) : -(rs.length : Int) ≤ lenI rs ∧ lenI rs ≤ 4 * rs.length := by
  induction rs with
  | nil => simp [lenI]
  | cons r l ih =>
    have h1 := runeLen_bound r
    simp only [lenI, List.map_cons, List.sum_cons, List.length_cons] at ih ⊢
    omega
set_option maxRecDepth 100000 in
theorem rsum_any (A : Option Addr) (c : Nat) (rs : List Int) (w : World) (hr : IntsR .i32 w A rs) (hl : rs.length ≤ 4000000) :
    Calls Tryd.prog 21 #[.slice A rs.length c] w fun e w' => e = .returned (.int .i64 (lenI rs)) ∧ w' = w := by
  have HR := Lib.hid hr; clear hr
  have HL := Lib.hid (fun r w => rlen_any r w)
  have hsn := fun k h => lenI_snoc rs k h
  have hbd := fun k => lenI_bound (rs.take k)
  have htk : rs.take rs.length = rs := List.take_length
  have HS := Lib.hid hsn; have HB := Lib.hid hbd; have HT := Lib.hid htk
  clear hsn hbd htk
  obtain ⟨n, hn⟩ : ∃ n, rs.length = n := ⟨_, rfl⟩
  rw [hn] at hl ⊢
  have HN := Lib.hid hn; clear hn
  go_enter Tryd.func21, Tryd.ntmps21
  go_wp2
  go_loop [2, 7] (fun v i => ∃ (k : Nat) (t : Int), k ≤ n ∧ i = .int .i64 k ∧ v = .int .i64 t ∧ Hid (t = lenI (rs.take k))) (fun _ i => n - (intOf i).toNat)
  case atStart => exact ⟨0, 0, Nat.zero_le _, rfl, rfl, Lib.hid rfl⟩
  case round =>
    obtain ⟨k, t, hk, rfl, rfl, ht⟩ := hrel
    by_cases hlt : k < n
    · have hkl : k < rs.length := by rw [HN.out]; exact hlt
      obtain ⟨b, o, rfl, hb, g⟩ := HR.out.at_ hkl
      have hs := HS.out k hkl
      have hb1 := HB.out k
      have hb2 := runeLen_bound (ix rs k)
      rw [List.length_take] at hb1
      rw [← ht.out] at hs hb1
      have hw : IntKind.i64.wrap (t + Lib.runeLen (ix rs k)) = t + Lib.runeLen (ix rs k) := IntWalk.i64_in _ (by omega)
      generalize ix rs k = r at *
      have HS2 := Lib.hid hs
      clear hs hb1
      go_wp2_with fail
      refine (HL.out _ _).mono ?_
      rintro e w1 ⟨rfl, rfl⟩
      generalize Lib.runeLen r = y at *
      go_wp2
      go_round
      case rel => exact ⟨k + 1, t + y, by omega, by go_num, rfl, Lib.hid HS2.out.symm⟩
      case measure => simp [intOf]; omega
    · have : k = n := by omega
      subst this
      have h1 : t = lenI rs := by rw [ht.out, ← HN.out, HT.out]
      have H1 := Lib.hid h1
      clear h1 ht
      go_wp2
      go_ret
      exact ⟨by rw [← H1.out]; rfl, rfl⟩
end Go.Proofs.YtgjbagojcbondaaDoor

namespace Go.Proofs.YtgjbagojcbondaaDoor
set_option linter.unusedVariables false
open Go.RowKit

/-- what a function of differences gives: differences that lie within both -/
def DsX (N M : Nat) (P : List Df → Prop) (w : World) (e : Ending) (w' : World) : Prop :=
  ∃ ds A c, e = .returned (.slice A ds.length c) ∧ CellsR w' A (dfCells ds) ∧ Below w.heap.size w w' ∧ P ds ∧ ds.length ≤ N + M ∧ ∀ d ∈ ds, d.s ≤ d.e ∧ d.e ≤ N ∧ d.rs ≤ d.re ∧ d.re ≤ M
/-- a list of edits in new memory -/
def EdX (P : List Ed → Prop) (w : World) (e : Ending) (w' : World) : Prop :=
  ∃ es A c, e = .returned (.slice A es.length c) ∧ w'.ownsRow w.heap.size 38 3 (.slice A es.length c) es.length (edCells es) ∧ Below w.heap.size w w' ∧ P es
theorem edsX_len (P Q : List ByteArray) (ds : List Df) : (edsOf P Q ds).length = ds.length := by simp [edsOf]
theorem edsX_at (P Q : List ByteArray) (ds : List Df) (k : Nat) (h : k < ds.length) : edAt (edsOf P Q ds) k = ⟨(totB (P.take ds[k].s) : Nat), (totB (P.take ds[k].e) : Nat), joinB ((Q.drop ds[k].rs).take (ds[k].re - ds[k].rs))⟩ := by simp [edAt, edsOf, h]
/-- three cells stored at a place of a row of edits -/
theorem edCells_putX (es : List Ed) (k : Nat) (x : Ed) (h : k < es.length) :
    (((edCells es).set (k * 3) (.int .i64 x.s)).set (k * 3 + 1) (.int .i64 x.e)).set (k * 3 + 2) (.string x.n) = edCells (es.set k x) := by
  induction es generalizing k with
  | nil => simp at h
  | cons y l ih =>
    rw [edCells_cons]
    cases k with
    | zero => simp [Ed.cells, edCells_cons]
    | succ k =>
      have hl : y.cells.length = 3 := rfl
      have := ih k (by simpa using h)
      rw [List.set_append_right _ _ (by omega), List.set_append_right _ _ (by omega), List.set_append_right _ _ (by omega), hl, show (k + 1) * 3 - 3 = k * 3 by omega, show (k + 1) * 3 + 1 - 3 = k * 3 + 1 by omega, show (k + 1) * 3 + 2 - 3 = k * 3 + 2 by omega, this]
      rfl
/-- a part of a slice of elements of one cell -/
theorem cells_cut {P : Program} (t e : TypeId) (i : TypeInfo) (ht : P.underlying t = some (.slice e)) (hi : P.info? e = some i) (hs : i.size = 1) (A : Option Addr) (ys : List Value) (n c x X : Nat) (hn : ys.length = n) (h1 : x ≤ X) (h2 : X ≤ n) (h3 : n ≤ c) :
    ∃ A', (∀ w, (Instr.slice t (.slice A n c) (some (.int .i64 x)) (some (.int .i64 X)) none).run P w = .ok (.slice A' (X - x) (c - x)) w) ∧ ∀ w, CellsR w A ys → CellsR w A' ((ys.drop x).take (X - x)) := by
  have k1 : (0 : Int) ≤ (x : Int) := by omega
  have k2 : (x : Int) ≤ (X : Int) := by omega
  have k3 : (X : Int) ≤ (c : Int) := by omega
  have he : P.elem t = e := by unfold Program.elem; rw [ht]
  refine ⟨if c = x then A else A.map (·.add (x * 1)), fun w => ?_, fun w hr => ?_⟩
  · rw [run_slice_lh w t A n c (by rw [he]; exact ht) .i64 .i64 (x : Int) (X : Int) k1 k2 k3]
    simp [he, sizeOf, typeInfo, hi, hs, sliced, Result.andThen]
  · by_cases h : c = x
    · rw [if_pos h]
      have : (ys.drop x).take (X - x) = [] := by
        have : X - x = 0 := by omega
        rw [this, List.take_zero]
      rw [this]
      exact .inl rfl
    · rw [if_neg h]
      rcases hr with h9 | ⟨b, off, rfl, hc⟩
      · subst h9
        exact .inl (by simp)
      · refine .inr ⟨b, off + x, by simp [add_lit], fun j u hu => ?_⟩
        rw [Nat.add_assoc]
        refine hc (x + j) u ?_
        simp only [List.getElem?_take] at hu
        split at hu
        · rw [List.getElem?_drop] at hu
          exact hu
        · cases hu
theorem push_allX (l : List UInt8) (r : ByteArray) : (l.map fun b => (b.toNat : Int)).foldl (fun r n => r.push (UInt8.ofNat n.toNat)) r = ⟨r.data ++ l.toArray⟩ := by
  induction l generalizing r with
  | nil => simp
  | cons b l ih =>
    rw [List.map_cons, List.foldl_cons, ih]
    simp [ByteArray.push]
theorem run_conv_strX {P : Program} (w : World) (src dst e : TypeId) (hs : P.underlying src = some (.slice e)) (he : P.underlying e = some (.int .u8)) (hd : P.underlying dst = some .string)
    {A : Option Addr} {n c : Nat} {t : ByteArray} (h : CellsR w A (Lib.strCells t)) (hn : t.size = n) : (convert src dst (.slice A n c)).run P w = .ok (.string t) w := by
  rw [run_convert_bytes_string w src dst e A n c hs he hd]
  cases A with
  | none =>
    have h0 : Lib.strCells t = [] := by
      rcases h with h | ⟨b, off, h, _⟩
      · exact h
      · cases h
    have h1 : t.data = #[] := by
      have := congrArg List.length h0
      rw [Lib.strCells_length] at this
      exact Array.eq_empty_of_size_eq_zero this
    obtain ⟨d⟩ := t
    simp only at h1
    subst h1
    simp [Conv.bytesToString]
    rfl
  | some a =>
    have hl : (loadCells a n).run P w = .ok ((t.data.toList.map fun b => (b.toNat : Int)).map (Value.int .u8)).toArray w := by
      have := run_loadCells_list (P := P) w a (Lib.strCells t) (fun j u hj => by
        rcases h with h | ⟨b, off, hA, hc⟩
        · rw [h] at hj; cases hj
        · cases hA
          rw [add_lit]
          exact hc j u hj)
      rw [Lib.strCells_length, hn] at this
      rw [this]
      simp [Lib.strCells]
    rw [run_bytesToString w a n c _ hl, push_allX]
    simp
theorem cut_bytes (t : ByteArray) (x X : Nat) (h : x ≤ X) (hX : X ≤ t.size) : ((intCells .u8 (bytesI t)).drop x).take (X - x) = Lib.strCells (t.extract x X) := by
  rw [← bytesI_cells]
  simp only [Lib.strCells, Lib.extract_data, List.map_take, List.map_drop]
theorem infoS8 : (Tryd.prog.info? 5).map (fun i => (i.zero, i.size, i.bytes)) = some (some (.int .u8 0), 1, 1) := by kernel_rfl
theorem infoDX : (Tryd.prog.info? 38).map (fun i => (i.zero, i.size, i.bytes)) = some (some (.agg #[.int .i64 0, .int .i64 0, .string ⟨#[]⟩]), 3, 32) := by kernel_rfl
set_option maxRecDepth 100000 in
set_option maxHeartbeats 4000000 in
theorem diffAscii_any (s t : ByteArray) (A C : Option Addr) (c d : Nat) (w : World) (hs : s.size ≤ 1000000) (ht : t.size ≤ 1000000) (hA : IntsR .u8 w A (bytesI s)) (hC : IntsR .u8 w C (bytesI t)) (hc : s.size ≤ c) (hd : t.size ≤ d) (ha1 : asciiF s = true) (ha2 : asciiF t = true) (P : List Df → Prop)
    (hdif : Calls Tryd.prog 19 #[.slice A s.size c, .slice C t.size d] w (DsX s.size t.size P w)) :
    Calls Tryd.prog 14 #[.slice A s.size c, .slice C t.size d] w (EdX (fun es => ∃ ds, P ds ∧ es = edsOf (pcsR (bytesI s)) (pcsR (bytesI t)) ds) w) := by
  obtain ⟨i0, hi, hz0, hz1, hz2⟩ := info_parts infoS8
  obtain ⟨i1, hj, hy0, hy1, hy2⟩ := info_parts infoDX
  have htot := fun k (h : k ≤ s.size) => tot_ascii ha1 k h
  have hjoin := fun a b (h1 : a ≤ b) (h2 : b ≤ t.size) => join_ascii ha2 a b h1 h2
  have htl : (intCells .u8 (bytesI t)).length = t.size := by simp [intCells, bytesI_len]
  have hcb := fun x X h hX => cut_bytes t x X h hX
  have hsl := fun x X (h : x ≤ X) (hX : X ≤ t.size) => (show (t.extract x X).size = X - x by rw [ByteArray.size_extract]; omega)
  have HD := Lib.hid hdif; have HC := Lib.hid hC; have HTOT := Lib.hid htot; have HJOIN := Lib.hid hjoin; have HTL := Lib.hid htl; have HCB := Lib.hid hcb; have HSL := Lib.hid hsl
  clear hdif hC hA htot hjoin htl ha1 ha2 hcb hsl
  unfold DsX at HD
  generalize hN : s.size = N at *
  generalize hM : t.size = M at *
  clear hN hM
  go_enter Tryd.func14, Tryd.ntmps14
  go_wp2_with fail
  refine HD.out.mono ?_
  rintro e w3 ⟨ds, A5, c5, rfl, hds, b3, hP, hlen, hbd⟩
  have B3 := Lib.hid b3; have RD := Lib.hid hds; have HP := Lib.hid hP; have HBD := Lib.hid hbd; have HC3 := Lib.hid (CellsR.below HC.out b3 (Nat.le_refl _))
  clear hds b3 hP hbd HC
  have hel := edsX_len (pcsR (bytesI s)) (pcsR (bytesI t)) ds
  have hea := edsX_at (pcsR (bytesI s)) (pcsR (bytesI t)) ds
  have hrz := rowK_zero (edsOf (pcsR (bytesI s)) (pcsR (bytesI t)) ds)
  have hra := rowK_all (edsOf (pcsR (bytesI s)) (pcsR (bytesI t)) ds)
  have hrs := rowK_set (edsOf (pcsR (bytesI s)) (pcsR (bytesI t)) ds)
  have hrl := rowK_len (edsOf (pcsR (bytesI s)) (pcsR (bytesI t)) ds)
  have hfin : ∀ w', Below w.heap.size w w' → ∀ A c, w'.ownsRow w.heap.size 38 3 (.slice A ds.length c) ds.length (edCells (edsOf (pcsR (bytesI s)) (pcsR (bytesI t)) ds)) → EdX (fun es => ∃ ds, P ds ∧ es = edsOf (pcsR (bytesI s)) (pcsR (bytesI t)) ds) w (.returned (.slice A ds.length c)) w' := fun w' hb A c ho => ⟨_, A, c, by rw [hel], by rw [hel]; exact ho, hb, ds, HP.out, rfl⟩
  generalize edsOf (pcsR (bytesI s)) (pcsR (bytesI t)) ds = es at *
  have HEA := Lib.hid hea; have HRS := Lib.hid hrs; have HFIN := Lib.hid hfin; have HRZ := Lib.hid hrz; have HRA := Lib.hid hra; have HRL := Lib.hid hrl
  have hdf := fun W (h : CellsR W A5 (dfCells ds)) k (hk : k < ds.length) => dfs_at h hk
  have HDF := Lib.hid hdf
  clear hea hrs hfin hrz hra hrl hdf
  obtain ⟨n, hn⟩ : ∃ n, ds.length = n := ⟨_, rfl⟩
  rw [hn] at hlen hel HFIN
  have HNN := Lib.hid hn; have HEL := Lib.hid hel
  rw [hn]
  clear hn hel
  have hn4 : n ≤ 2000000 := by omega
  go_wp2_with (at_make; refine wpList_make_full _ rfl _ _ _ rfl w.heap.size 38 i1 (.agg #[.int .i64 0, .int .i64 0, .string ⟨#[]⟩]) 3 Tryd.underlying31 hj hy0 hy1 .i64 .i64 _ _ n rfl rfl rfl rfl (by rw [hy2]; omega) (by unfold maxLen; omega) B3.out.size ?_; intro w4 hown4 hg4)
  have hb4 := B3.out.grown hg4 B3.out.size (fun k h => by cases h)
  have hm4 : w4.ownsRow w.heap.size 38 3 (.slice (some ⟨w3.heap.size, 0, none⟩) n n) n (edCells (rowK es 0)) := by
    rw [HRZ.out, HEL.out, ← made_ed]
    exact hown4
  have hbw4 : Below w3.heap.size w3 w4 := (Below.refl _ _).grown hg4 (Nat.le_refl _) (fun k h => by cases h)
  have O4 := Lib.hid hm4; have HBW4 := Lib.hid hbw4
  have hsz4 := hbw4.size
  clear hb4 hm4 hown4 hg4 hbw4
  go_wp2
  go_loopg [17] n (fun q i wr => ∃ k : Nat, q = n - k ∧ k ≤ n ∧ i = .int .i64 k ∧ wr.ownsRow w.heap.size 38 3 (.slice (some ⟨w3.heap.size, 0, none⟩) n n) n (edCells (rowK es k)) ∧ Below w3.heap.size w3 wr)
  case atStart => exact ⟨0, rfl, Nat.zero_le _, rfl, O4.out, HBW4.out⟩
  case round =>
    obtain ⟨k, hq, hk, rfl, hown, hb⟩ := hrel
    have HQ := Lib.hid hq; have HO := Lib.hid hown; have HB := Lib.hid hb
    have hbs := hb.size
    clear hq hown hb
    by_cases hlt : k < n
    · have hkl : k < ds.length := by rw [HNN.out]; exact hlt
      obtain ⟨b, off, hA, hbb, g0, g1, g2, g3⟩ := HDF.out wr (CellsR.below RD.out HB.out (Nat.le_refl _)) k hkl
      subst hA
      have hea := HEA.out k hkl
      have hbd := HBD.out _ (List.getElem_mem hkl)
      have hset := HRS.out k (by rw [HEL.out]; exact hlt)
      generalize ds[k] = d' at *
      obtain ⟨q1, q2, q3, q4⟩ := hbd
      rw [hea, HTOT.out _ (by omega), HTOT.out _ (by omega), HJOIN.out _ _ q3 q4] at hset
      have HSET := Lib.hid hset
      clear hea hset hkl
      obtain ⟨A6, hcut, hsub⟩ := cells_cut (P := Tryd.prog) 34 5 i0 Tryd.underlying34 hi hz1 C (intCells .u8 (bytesI t)) M d d'.rs d'.re HTL.out q3 q4 hd
      have hconv : ∀ W, Below w3.heap.size w3 W → (convert 34 9 (.slice A6 (d'.re - d'.rs) (d - d'.rs))).run Tryd.prog W = .ok (.string (t.extract d'.rs d'.re)) W := fun W hW => by
        have h := hsub W (CellsR.below HC3.out hW (Nat.le_refl _))
        rw [HCB.out _ _ q3 q4] at h
        exact run_conv_strX W _ _ 5 Tryd.underlying34 Tryd.underlying5 Tryd.underlying9 h (HSL.out _ _ q3 q4)
      have HCONV := Lib.hid hconv
      clear hconv hsub
      generalize t.extract d'.rs d'.re = J at *
      have hbk := Blk.new wr 47 #[.int .i64 d'.s, .int .i64 d'.e, .int .i64 d'.rs, .int .i64 d'.re]
      have hbw : Below w3.heap.size w3 (wr.alloc (.cells #[.int .i64 d'.s, .int .i64 d'.e, .int .i64 d'.rs, .int .i64 d'.re] 47)) := HB.out.alloc hbs _
      have hoa := HO.out.alloc (.cells #[.int .i64 d'.s, .int .i64 d'.e, .int .i64 d'.rs, .int .i64 d'.re] 47)
      obtain ⟨bx, hbx⟩ : ∃ bx, wr.heap.size = bx := ⟨_, rfl⟩
      rw [hbx] at hbk
      have hgx : w3.heap.size < bx := by rw [← hbx]; exact (HO.out.lt _ rfl).2
      go_wp2
      generalize hW0 : wr.alloc (.cells #[.int .i64 d'.s, .int .i64 d'.e, .int .i64 d'.rs, .int .i64 d'.re] 47) = W0 at *
      have HBW := Lib.hid hbw; have HOA := Lib.hid hoa
      clear hbw hoa hW0 hbx HO HB g0 g1 g2 g3 hbb hbs
      have hll : (edCells (rowK es k)).length = n * 3 := by rw [edCells_length, HRL.out k (by rw [HEL.out]; exact hk), HEL.out]
      obtain ⟨y0, hy0⟩ : ∃ v, W0.cell? ⟨w3.heap.size, k * 3, none⟩ = some v := ⟨_, by rw [HOA.out.cellAt _ (by omega)]; exact List.getElem?_eq_getElem (by omega)⟩
      obtain ⟨y1, hy1⟩ : ∃ v, W0.cell? ⟨w3.heap.size, k * 3 + 1, none⟩ = some v := ⟨_, by rw [HOA.out.cellAt _ (by omega)]; exact List.getElem?_eq_getElem (by omega)⟩
      obtain ⟨y2, hy2⟩ : ∃ v, W0.cell? ⟨w3.heap.size, k * 3 + 2, none⟩ = some v := ⟨_, by rw [HOA.out.cellAt _ (by omega)]; exact List.getElem?_eq_getElem (by omega)⟩
      have f0 : W0.frozen? ⟨w3.heap.size, k * 3, none⟩ = false := HOA.out.frozenAt _
      have f1 : W0.frozen? ⟨w3.heap.size, k * 3 + 1, none⟩ = false := HOA.out.frozenAt _
      have f2 : W0.frozen? ⟨w3.heap.size, k * 3 + 2, none⟩ = false := HOA.out.frozenAt _
      have b0 : W0.cell? ⟨bx, 0, none⟩ = some (.int .i64 (d'.s : Int)) := hbk.cell 0
      have b1 : W0.cell? ⟨bx, 1, none⟩ = some (.int .i64 (d'.e : Int)) := hbk.cell 1
      have b2 : W0.cell? ⟨bx, 2, none⟩ = some (.int .i64 (d'.rs : Int)) := hbk.cell 2
      have b3 : W0.cell? ⟨bx, 3, none⟩ = some (.int .i64 (d'.re : Int)) := hbk.cell 3
      have k0 := HCONV.out W0 HBW.out
      have k1 := HCONV.out W0.drew HBW.out.drew
      have i3 : (k : Int) < (n : Int) := by omega
      have i6 : (0 : Int) ≤ (k : Int) := by omega
      clear hll hbk
      go_region
      all_goals
        obtain ⟨s1, _⟩ := World.ownsRow.stored HOA.out (k * 3) (.int .i64 (d'.s : Int))
        obtain ⟨s2, _⟩ := s1.stored (k * 3 + 1) (.int .i64 (d'.e : Int))
        obtain ⟨s3, _⟩ := s2.stored (k * 3 + 2) (.string J)
        rw [edCells_putX (rowK es k) k ⟨d'.s, d'.e, J⟩ (by rw [HRL.out k (by rw [HEL.out]; exact hk), HEL.out]; exact hlt), HSET.out] at s3
        have hb5 := (((HBW.out.setCell (p := ⟨w3.heap.size, k * 3, none⟩) (Nat.le_refl _) (.int .i64 (d'.s : Int))).setCell (p := ⟨w3.heap.size, k * 3 + 1, none⟩) (Nat.le_refl _) (.int .i64 (d'.e : Int))).setCell (p := ⟨w3.heap.size, k * 3 + 2, none⟩) (Nat.le_refl _) (.string J)).drew
        have HS3 := Lib.hid s3.drew; have HB5 := Lib.hid hb5
        clear s1 s2 s3 hb5
        go_wp2
        go_roundg (n - (k + 1))
        case measure => have := HQ.out; omega
        case rel => exact ⟨k + 1, rfl, by omega, by go_num, HS3.out, HB5.out⟩
    · obtain rfl : k = n := by omega
      have hown := HO.out
      rw [show rowK es k = es by have := HRA.out; rwa [HEL.out] at this] at hown
      have HO2 := Lib.hid hown
      clear hown HO
      go_wp2
      go_ret
      exact HFIN.out _ (B3.out.trans (HB.out.mono B3.out.size)) _ _ HO2.out
end Go.Proofs.YtgjbagojcbondaaDoor

namespace Go.Proofs.YtgjbagojcbondaaDoor
set_option linter.unusedVariables false
open Go.RowKit

set_option maxRecDepth 100000 in
theorem isAsciiB_any (s : ByteArray) (A : Option Addr) (c : Nat) (w : World) (hr : IntsR .u8 w A (bytesI s)) (hs : s.size ≤ 4000000) :
    Calls Tryd.prog 17 #[.slice A s.size c] w fun e w' => e = .returned (.bool (asciiF s)) ∧ w' = w := by
  have hyes := fun (h : ∀ j, j < s.size → byteAt s j < 128) => ascii_iff.2 h
  have hno := fun j (h : j < s.size) (hb : ¬ byteAt s j < 128) => (show asciiF s = false by
    cases h2 : asciiF s with
    | false => rfl
    | true => exact absurd (ascii_iff.1 h2 j h) hb)
  have HY := Lib.hid hyes; have HN := Lib.hid hno; have HR := Lib.hid hr; clear hyes hno hr
  go_enter Tryd.func17, Tryd.ntmps17
  go_wp2
  go_loop [3] (fun i => ∃ k : Nat, k ≤ s.size ∧ i = .int .i64 k ∧ Hid (∀ j, j < k → byteAt s j < 128)) (fun i => s.size - (intOf i).toNat)
  case atStart => exact ⟨0, Nat.zero_le _, rfl, Lib.hid fun j hj => by omega⟩
  case round =>
    obtain ⟨k, hk, rfl, hall⟩ := hrel
    by_cases hlt : k < s.size
    · obtain ⟨b, o, rfl, hb0, g⟩ := HR.out.at_ (k := k) (by rw [bytesI_len]; exact hlt)
      rw [bytesI_ix s k hlt] at g
      obtain ⟨y, hy⟩ : ∃ y, byteAt s k = y := ⟨_, rfl⟩
      rw [hy] at g
      by_cases hb : y < 128
      · have HA := Lib.hid (show ∀ j, j < k + 1 → byteAt s j < 128 from fun j hj => by
          by_cases h : j = k
          · subst h; rw [hy]; exact hb
          · exact hall.out j (by omega))
        have hd : ¬ ((128 : Int) ≤ (y : Int)) := by omega
        clear hall hy
        go_wp2
        go_round
        case rel => exact ⟨k + 1, by omega, by go_num, HA⟩
        case measure => simp [intOf]; omega
      · have hd : (128 : Int) ≤ (y : Int) := by omega
        have HX := Lib.hid (HN.out k hlt (by rw [hy]; exact hb))
        clear hall hy
        go_wp2
        go_ret
        exact ⟨by rw [HX.out]; rfl, rfl⟩
    · have HX := Lib.hid (HY.out fun j hj => hall.out j (by omega))
      clear hall
      go_wp2
      go_ret
      exact ⟨by rw [HX.out]; rfl, rfl⟩
theorem infoR32 : (Tryd.prog.info? 21).map (fun i => (i.zero, i.size, i.bytes)) = some (some (.int .i32 0), 1, 4) := by kernel_rfl
/-- the tail of a slice of bytes -/
theorem low_cut {P : Program} (t e : TypeId) (i : TypeInfo) (ht : P.underlying t = some (.slice e)) (hi : P.info? e = some i) (hs : i.size = 1) (b p n c x : Nat) (h1 : x ≤ n) (h2 : n ≤ c) :
    ∃ A', (∀ w, (Instr.slice t (.slice (some ⟨b, p, none⟩) n c) (some (.int .i64 x)) none none).run P w = .ok (.slice A' (n - x) (c - x)) w) ∧ (x < n → A' = some ⟨b, p + x, none⟩) := by
  have k1 : (0 : Int) ≤ (x : Int) := by omega
  have k2 : (x : Int) ≤ (n : Int) := by omega
  have he : P.elem t = e := by unfold Program.elem; rw [ht]
  refine ⟨if c = x then some ⟨b, p, none⟩ else (some (⟨b, p, none⟩ : Addr)).map (·.add (x * 1)), fun w => ?_, fun h => ?_⟩
  · rw [run_slice_l w t _ n c (by rw [he]; exact ht) .i64 (x : Int) k1 k2]
    simp [he, sizeOf, typeInfo, hi, hs, sliced, Result.andThen]
  · rw [if_neg (by omega)]
    simp [add_lit]
end Go.Proofs.YtgjbagojcbondaaDoor

namespace Go.Proofs.YtgjbagojcbondaaDoor
set_option linter.unusedVariables false
open Go.RowKit

/-- the tables of unicode/utf8 -/
def TabsU (w : World) : Prop := Lib.Utf8Tabs 0 1 w
theorem TabsU.below {w w' : World} (h : TabsU w) (hb : Below w.heap.size w w') : TabsU w' := Utf8Tabs_below h hb
theorem rcB_any (s : ByteArray) (b c : Nat) (w : World) (hr : IntsR .u8 w (some ⟨b, 0, none⟩) (bytesI s)) (hs : s.size ≤ 1000000) (hc : s.size ≤ c) :
    Calls Tryd.prog 22 #[.slice (some ⟨b, 0, none⟩) s.size c] w fun e w' => e = .returned (.int .i64 ((runesF s).length : Nat)) ∧ Below w.heap.size w w' := by
  refine (Any7.utf8_RuneCount Tryd.rc s b 0 c w hc (fun j hj => ?_) (by omega)).mono ?_
  · obtain ⟨b', o, hA, hb0, g⟩ := hr.at_ (k := j) (by rw [bytesI_len]; exact hj)
    cases hA
    rw [g, bytesI_ix s j hj, ← get_byteB]
  · rintro e w' ⟨rfl, h⟩
    rw [runesF_count]
    refine ⟨rfl, ?_⟩
    rcases h with rfl | ⟨t, pos, rfl⟩
    · exact Below.refl _ _
    · exact (Below.refl _ _).alloc (Nat.le_refl _) _
theorem drB_any (s : ByteArray) (b p c : Nat) (w : World) (hr : IntsR .u8 w (some ⟨b, 0, none⟩) (bytesI s)) (hT : TabsU w) (hp : p < s.size) :
    Calls Tryd.prog 23 #[.slice (some ⟨b, p, none⟩) (s.size - p) c] w fun e w' => e = .returned (.tuple #[.int .i32 ((Utf8.decode s p).1 : Nat), .int .i64 ((Utf8.decode s p).2 : Nat)]) ∧ Below w.heap.size w w' := by
  have h := Any7.utf8_DecodeRune Tryd.dr (s.extract p s.size) b p c w hT (fun j hj => by
    rw [Lib.tail_size] at hj
    obtain ⟨b', o, hA, hb0, g⟩ := hr.at_ (k := p + j) (by rw [bytesI_len]; omega)
    cases hA
    rw [Nat.zero_add] at g
    rw [g, bytesI_ix s (p + j) (by omega), Lib.tail_get!, ← get_byteB])
  rw [Lib.tail_size, decodeGo_tl s p hp] at h
  exact h
theorem made_i32 (n : Nat) : (madeCells (Value.int .i32 0).cells (n * 1)).toList = intCells .i32 (List.replicate n 0) := by
  apply List.ext_getElem?
  intro i
  have hz : (Value.int .i32 0).cells = #[.int .i32 0] := rfl
  rw [hz, intCells_zero]
  by_cases hi : i < n
  · simp [madeCells, hi, Nat.mod_one]
  · simp [madeCells, hi]
set_option maxRecDepth 100000 in
set_option maxHeartbeats 1000000 in
theorem runesB_any (s : ByteArray) (b c : Nat) (w : World) (hr : IntsR .u8 w (some ⟨b, 0, none⟩) (bytesI s)) (hT : TabsU w) (hs : s.size ≤ 1000000) (hc : s.size ≤ c) :
    Calls Tryd.prog 18 #[.slice (some ⟨b, 0, none⟩) s.size c] w fun e w' => ∃ A, e = .returned (.slice A (runesF s).length (runesF s).length) ∧ IntsR .i32 w' A (runesF s) ∧ Below w.heap.size w w' := by
  obtain ⟨i0, hi, hz0, hz1, hz2⟩ := info_parts infoS8
  obtain ⟨i1, hj, hy0, hy1, hy2⟩ := info_parts infoR32
  have HRC := Lib.hid (rcB_any s b c w hr hs hc)
  have HDR := Lib.hid (fun p c W (hb : Below w.heap.size w W) (hp : p < s.size) => drB_any s b p c W (CellsR.below hr hb (Nat.le_refl _)) (hT.below hb) hp)
  have HAT := Lib.hid (runes_at s)
  have HLE := Lib.hid (rpF_le s)
  have hln := runesF_len s
  have HSET := Lib.hid (rowI_set (runesF s))
  have HALL := Lib.hid (rowI_all (runesF s))
  have HZ := Lib.hid (rowI_zero (runesF s))
  have HLEN := Lib.hid (rowI_len (runesF s))
  clear hr hT
  generalize runesF s = rs at *
  obtain ⟨n, hn⟩ : ∃ n, rs.length = n := ⟨_, rfl⟩
  rw [hn] at HRC HAT hln HSET HALL HZ HLEN ⊢
  have HN := Lib.hid hn
  clear hn
  generalize hm : s.size = m at *
  have HM := Lib.hid hm
  clear hm
  go_enter Tryd.func18, Tryd.ntmps18
  go_wp2_with fail
  refine HRC.out.mono ?_
  rintro e w3 ⟨rfl, b3⟩
  have B3 := Lib.hid b3
  clear b3
  go_wp2_with (at_make; refine wpList_make_full _ rfl _ _ _ rfl w.heap.size 21 i1 (.int .i32 0) 1 Tryd.underlying40 hj hy0 hy1 .i64 .i64 _ _ n rfl rfl rfl rfl (by rw [hy2]; omega) (by unfold maxLen; omega) B3.out.size ?_; intro w4 hown4 hg4)
  have hm4 : w4.ownsRow w.heap.size 21 1 (.slice (some ⟨w3.heap.size, 0, none⟩) n n) n (intCells .i32 (rowI rs 0)) := by
    rw [HZ.out, ← made_i32]
    exact hown4
  have hbw4 : Below w3.heap.size w3 w4 := (Below.refl _ _).grown hg4 (Nat.le_refl _) (fun k h => by cases h)
  have O4 := Lib.hid hm4; have HBW4 := Lib.hid hbw4
  have hsz4 := hbw4.size
  clear hm4 hown4 hg4 hbw4
  go_wp2
  go_loopg [0, 13] n (fun q v i wr => ∃ k : Nat, q = n - k ∧ k ≤ n ∧ i = .int .i64 k ∧ (∃ A', v = .slice A' (m - rpF s 0 k) (c - rpF s 0 k) ∧ (k < n → A' = some ⟨b, rpF s 0 k, none⟩)) ∧ wr.ownsRow w.heap.size 21 1 (.slice (some ⟨w3.heap.size, 0, none⟩) n n) n (intCells .i32 (rowI rs k)) ∧ Below w3.heap.size w3 wr)
  case atStart => exact ⟨0, rfl, Nat.zero_le _, rfl, ⟨_, rfl, fun _ => rfl⟩, O4.out, HBW4.out⟩
  case round =>
    obtain ⟨k, hq, hk, rfl, ⟨A', rfl, hA⟩, hown, hb⟩ := hrel
    have HQ := Lib.hid hq; have HO := Lib.hid hown; have HB := Lib.hid hb
    have hbs := hb.size
    clear hq hown hb
    by_cases hlt : k < n
    · obtain rfl := hA hlt
      obtain ⟨hp, hx⟩ := HAT.out k hlt
      have hle := HLE.out k hp
      have hst := HSET.out k hlt
      rw [hx] at hst
      have HST := Lib.hid hst
      have hd := HDR.out (rpF s 0 k) (c - rpF s 0 k) wr (B3.out.trans (HB.out.mono B3.out.size)) hp
      have hnx : rpF s 0 (k + 1) = rpF s 0 k + (Utf8.decode s (rpF s 0 k)).2 := rfl
      clear hst hA hx
      generalize rpF s 0 k = p at *
      generalize hp2 : rpF s 0 (k + 1) = p2 at *
      have HP2 := Lib.hid hp2
      clear hp2
      generalize (Utf8.decode s p).1 = r at *
      generalize (Utf8.decode s p).2 = z at *
      have HD := Lib.hid hd
      clear hd
      obtain ⟨A2, hcut, hA2⟩ := low_cut (P := Tryd.prog) 34 5 i0 Tryd.underlying34 hi hz1 b p (m - p) (c - p) z (by omega) (by omega)
      have HA2 := Lib.hid hA2
      clear hA2
      go_wp2_with fail
      refine HD.out.mono ?_
      rintro e w5 ⟨rfl, hb5⟩
      have hB5 := HB.out.trans (hb5.mono HB.out.size)
      have hO5 := own_below HO.out hb5 (Nat.le_refl _)
      have HB5 := Lib.hid hB5; have HO5 := Lib.hid hO5
      clear hb5 hB5 hO5 HO HB
      have hll : (intCells .i32 (rowI rs k)).length = n := by
        have := HLEN.out k hk
        simp only [intCells, List.length_map]
        exact this
      obtain ⟨y0, hy0⟩ : ∃ v, w5.cell? ⟨w3.heap.size, k, none⟩ = some v := ⟨_, by rw [HO5.out.cellAt _ (by omega)]; exact List.getElem?_eq_getElem (by omega)⟩
      have f0 : w5.frozen? ⟨w3.heap.size, k, none⟩ = false := HO5.out.frozenAt _
      clear hll
      go_wp2
      obtain ⟨s1, _⟩ := World.ownsRow.stored HO5.out k (.int .i32 (r : Int))
      rw [intCells_put, HST.out] at s1
      have hb6 := HB5.out.setCell (p := ⟨w3.heap.size, k, none⟩) (Nat.le_refl _) (.int .i32 (r : Int))
      have HS1 := Lib.hid s1; have HB6 := Lib.hid hb6
      clear s1 hb6
      go_roundg (n - (k + 1))
      case measure => have := HQ.out; omega
      case rel =>
        refine ⟨k + 1, rfl, by omega, by go_num, ⟨A2, ?_, fun h => ?_⟩, HS1.out, HB6.out⟩
        · rw [HP2.out, hnx, Nat.sub_sub, Nat.sub_sub]
        · rw [HP2.out, hnx]
          refine HA2.out ?_
          have := (HAT.out (k + 1) h).1
          rw [HP2.out] at this
          omega
    · obtain rfl : k = n := by omega
      have hown := HO.out
      rw [show rowI rs k = rs from HALL.out] at hown
      have HO2 := Lib.hid hown
      clear hown HO
      go_wp2
      go_ret
      exact ⟨_, rfl, CellsR.of_own HO2.out, B3.out.trans (HB.out.mono B3.out.size)⟩
end Go.Proofs.YtgjbagojcbondaaDoor
