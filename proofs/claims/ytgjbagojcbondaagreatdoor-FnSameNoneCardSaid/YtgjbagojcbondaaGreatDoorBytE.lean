/-
  diff.Strings and impl.Strings, the contracts of DiffBytes and DiffRunes paid. Condition: texts of at most 1000000 bytes.
  Code points of a text by their places, and rows of numbers that are filled in. Plainly. No condition.
  The walks of isASCII and runes over slices of bytes. Condition: texts of at most 1000000 bytes.
  The walk of diff.runes. Condition: texts of at most 1000000 bytes; the two tables of unicode/utf8 lie in memory.
  The tables of unicode/utf8 out of what a row lists, and the heap that the program's own initialisers leave. No condition.
  The walks of diff.Bytes and impl.Bytes. Condition: texts of at most 1000000 bytes; the tables of unicode/utf8 lie in memory.
-/
import Derived.Test.YtgjbagojcbondaaGreatDoorStrB
import Derived.Test.YtgjbagojcbondaaGreatDoorLcsE
import Derived.Shelf.Unicode.DecodeSlow
import Derived.Test.YtgjbagojcbondaaGreatDoorLayB
import Derived.Test.YtgjbagojcbondaaGreatDoorRows
import Derived.Lib.LaidU8T
import Derived.ProofKit
import Derived.LaidMore
import Derived.Stop.Joined
import Derived.Test.YtgjbagojcbondaaGreatDoorLayC
import Derived.Shelf.Bytes.SlSearch0
namespace Go.Proofs.YtgjbagojcbondaaGreatDoor
set_option linter.unusedVariables false
open Go.RowKit

/-- how much is kept -/
def KQ (xs ys : List Int) (ps : List Pc) : Prop := QT (eqI xs ys) xs.length ys.length 50 ps
theorem payBytes (s t : ByteArray) (hs : s.size ≤ 1000000) (ht : t.size ≤ 1000000) : ∀ W A C c d, IntsR .u8 W A (bytesI s) → IntsR .u8 W C (bytesI t) → s.size ≤ c → t.size ≤ d → Calls Tryz.prog 47 #[.slice A s.size c, .slice C t.size d] W (DsX s.size t.size (DfP KQ (bytesI s) (bytesI t)) W) := by
  intro W A C c d h1 h2 h3 h4
  have l1 := bytesI_len s
  have l2 := bytesI_len t
  have h := ldifBytes (c := c) (d := d) h1 h2 (by rw [l1]; exact h3) (by rw [l2]; exact h4) (by rw [l1]; omega) (by rw [l2]; omega)
  rw [l1, l2] at h
  refine h.mono ?_
  rintro e w' ⟨ps, A', c', rfl, o, b, g1, g2⟩
  have := dsX_of (K := KQ) (xs := bytesI s) (ys := bytesI t) (w := W) (w' := w') (e := .returned (.slice A' (diffsFrom s.size t.size 0 0 ps).length c')) ⟨ps, A', c', by rw [l1, l2], by rw [l1, l2]; exact CellsR.of_own o, b, by rw [l1, l2]; exact g1, by unfold KQ; rw [l1, l2]; exact g2⟩
  rw [l1, l2] at this
  exact this
theorem payRunes (s t : ByteArray) (hs : s.size ≤ 1000000) (ht : t.size ≤ 1000000) : ∀ W A C c d, IntsR .i32 W A (runesF s) → IntsR .i32 W C (runesF t) → (runesF s).length ≤ c → (runesF t).length ≤ d → Calls Tryz.prog 48 #[.slice A (runesF s).length c, .slice C (runesF t).length d] W (DsX (runesF s).length (runesF t).length (DfP KQ (runesF s) (runesF t)) W) := by
  intro W A C c d h1 h2 h3 h4
  have l1 := runesF_len s
  have l2 := runesF_len t
  refine (ldifRunes h1 h2 h3 h4 (by omega) (by omega)).mono ?_
  rintro e w' ⟨ps, A', c', rfl, o, b, g1, g2⟩
  exact dsX_of (K := KQ) ⟨ps, A', c', rfl, CellsR.of_own o, b, g1, g2⟩
theorem implStrings_any (s t : ByteArray) (w : World) (hs : s.size ≤ 1000000) (ht : t.size ≤ 1000000) :
    Calls Tryz.prog 14 #[.string s, .string t] w (StrOut (StrP s t) w) := by
  refine (strImpl_any s t w hs (strings_any s t w hs ht (payBytes s t hs ht) (payRunes s t hs ht))).mono ?_
  rintro e w' ⟨es, A, c, h1, h2, h3, h4, h5⟩
  exact ⟨es, A, c, h1, h2, h3, h4, h5.str⟩
end Go.Proofs.YtgjbagojcbondaaGreatDoor

namespace Go.Proofs.YtgjbagojcbondaaGreatDoor
set_option linter.unusedVariables false
open Go.RowKit

/-- the place of the k-th code point behind a place -/
def rpF (s : ByteArray) (i : Nat) : Nat → Nat
  | 0 => i
  | k + 1 => rpF s i k + (Utf8.decode s (rpF s i k)).2
theorem rpF_next (s : ByteArray) (i : Nat) : ∀ k, rpF s (i + (Utf8.decode s i).2) k = rpF s i (k + 1) := by
  intro k
  induction k with
  | zero => rfl
  | succ k ih =>
    show rpF s (i + (Utf8.decode s i).2) k + _ = rpF s i (k + 1) + _
    rw [ih]
theorem rnF_at (s : ByteArray) : ∀ f i k, k < (rnF s f i).length → rpF s i k < s.size ∧ ix (rnF s f i) k = ((Utf8.decode s (rpF s i k)).1 : Int) := by
  intro f
  induction f with
  | zero => intro i k h; simp [rnF] at h
  | succ f ih =>
    intro i k h
    unfold rnF at h ⊢
    by_cases hi : i < s.size
    · rw [if_pos hi] at h ⊢
      cases k with
      | zero => exact ⟨hi, rfl⟩
      | succ k =>
        have := ih (i + (Utf8.decode s i).2) k (by simpa using h)
        rw [rpF_next] at this
        exact ⟨this.1, by rw [← this.2]; rfl⟩
    · rw [if_neg hi] at h
      simp at h
theorem runes_at (s : ByteArray) (k : Nat) (h : k < (runesF s).length) : rpF s 0 k < s.size ∧ ix (runesF s) k = ((Utf8.decode s (rpF s 0 k)).1 : Int) := rnF_at s _ _ k h
theorem rpF_le (s : ByteArray) (k : Nat) (h : rpF s 0 k < s.size) : rpF s 0 (k + 1) ≤ s.size := (dec_three s _ h).2
theorem decode_tl (s : ByteArray) (p : Nat) : Utf8.decode (s.extract p s.size) 0 = Utf8.decode s p := by
  rw [Lib.decode_at, Lib.decode_at s p]
  simp only [Lib.tail_get!, Lib.tail_size, Nat.sub_zero, Nat.add_zero, Nat.zero_add]
theorem decodeGo_tl (s : ByteArray) (p : Nat) (h : p < s.size) : Lib.decodeGo (s.extract p s.size) = Utf8.decode s p := by
  unfold Lib.decodeGo
  rw [if_neg (by rw [Lib.tail_size]; omega), decode_tl]
/-- a row of numbers of which the first k are filled in -/
def rowI (rs : List Int) (k : Nat) : List Int := rs.take k ++ List.replicate (rs.length - k) 0
theorem rowI_zero (rs : List Int) : rowI rs 0 = List.replicate rs.length 0 := by simp [rowI]
theorem rowI_all (rs : List Int) : rowI rs rs.length = rs := by simp [rowI]
theorem rowI_len (rs : List Int) (k : Nat) (h : k ≤ rs.length) : (rowI rs k).length = rs.length := by simp [rowI]; omega
theorem rowI_set (rs : List Int) (k : Nat) (h : k < rs.length) : (rowI rs k).set k (ix rs k) = rowI rs (k + 1) := by
  have hl : (rs.take k).length = k := by simp; omega
  have h1 : List.replicate (rs.length - k) (0 : Int) = 0 :: List.replicate (rs.length - (k + 1)) 0 := by
    rw [show rs.length - k = rs.length - (k + 1) + 1 by omega, List.replicate_succ]
  unfold rowI
  rw [List.set_append_right _ _ (by omega), hl, Nat.sub_self, h1, List.set_cons_zero]
  have h2 : rs.take (k + 1) = rs.take k ++ [ix rs k] := by
    rw [List.take_add_one, List.getElem?_eq_getElem h]
    simp [ix, h]
  rw [h2, List.append_assoc]
  rfl
theorem intCells_put (kd : IntKind) (l : List Int) (k : Nat) (x : Int) : (intCells kd l).set k (.int kd x) = intCells kd (l.set k x) := by
  simp [intCells]
theorem intCells_zero (kd : IntKind) (n : Nat) : intCells kd (List.replicate n 0) = List.replicate n (.int kd 0) := by simp [intCells]
theorem get_byteB (s : ByteArray) (i : Nat) : ((s.get! i).toNat : Int) = (byteAt s i : Int) := by
  rw [← Lib.getD_get!']
  rfl
end Go.Proofs.YtgjbagojcbondaaGreatDoor

namespace Go.Proofs.YtgjbagojcbondaaGreatDoor
set_option linter.unusedVariables false
open Go.RowKit

set_option maxRecDepth 100000 in
theorem isAsciiB_any (s : ByteArray) (A : Option Addr) (c : Nat) (w : World) (hr : IntsR .u8 w A (bytesI s)) (hs : s.size ≤ 4000000) :
    Calls Tryz.prog 34 #[.slice A s.size c] w fun e w' => e = .returned (.bool (asciiF s)) ∧ w' = w := by
  have hyes := fun (h : ∀ j, j < s.size → byteAt s j < 128) => ascii_iff.2 h
  have hno := fun j (h : j < s.size) (hb : ¬ byteAt s j < 128) => (show asciiF s = false by
    cases h2 : asciiF s with
    | false => rfl
    | true => exact absurd (ascii_iff.1 h2 j h) hb)
  have HY := Lib.hid hyes; have HN := Lib.hid hno; have HR := Lib.hid hr; clear hyes hno hr
  go_enter Tryz.func34, Tryz.ntmps34
  go_wp2
  go_loop [3] (fun i => ∃ k : Nat, k ≤ s.size ∧ i = .int .i64 k ∧ Hid (∀ j, j < k → byteAt s j < 128)) (fun i => s.size - (intOf i).toNat)
  case atStart => exact ⟨0, Nat.zero_le _, rfl, Lib.hid fun j hj => by omega⟩
  case round =>
    obtain ⟨k, hk, rfl, hall⟩ := hrel
    by_cases hlt : k < s.size
    · obtain ⟨b, o, rfl, hb0, g⟩ := HR.out.at_ (k := k) (by rw [bytesI_len]; exact hlt)
      rw [bytesI_ix s k hlt] at g
      obtain ⟨y, hy⟩ : ∃ y, byteAt s k = y := ⟨_, rfl⟩
      rw [hy] at g
      by_cases hb : y < 128
      · have HA := Lib.hid (show ∀ j, j < k + 1 → byteAt s j < 128 from fun j hj => by
          by_cases h : j = k
          · subst h; rw [hy]; exact hb
          · exact hall.out j (by omega))
        have hd : ¬ ((128 : Int) ≤ (y : Int)) := by omega
        clear hall hy
        go_wp2
        go_round
        case rel => exact ⟨k + 1, by omega, by go_num, HA⟩
        case measure => simp [intOf]; omega
      · have hd : (128 : Int) ≤ (y : Int) := by omega
        have HX := Lib.hid (HN.out k hlt (by rw [hy]; exact hb))
        clear hall hy
        go_wp2
        go_ret
        exact ⟨by rw [HX.out]; rfl, rfl⟩
    · have HX := Lib.hid (HY.out fun j hj => hall.out j (by omega))
      clear hall
      go_wp2
      go_ret
      exact ⟨by rw [HX.out]; rfl, rfl⟩
theorem infoR32 : (Tryz.prog.info? 21).map (fun i => (i.zero, i.size, i.bytes)) = some (some (.int .i32 0), 1, 4) := by kernel_rfl
/-- the tail of a slice of bytes -/
theorem low_cut {P : Program} (t e : TypeId) (i : TypeInfo) (ht : P.underlying t = some (.slice e)) (hi : P.info? e = some i) (hs : i.size = 1) (b p n c x : Nat) (h1 : x ≤ n) (h2 : n ≤ c) :
    ∃ A', (∀ w, (Instr.slice t (.slice (some ⟨b, p, none⟩) n c) (some (.int .i64 x)) none none).run P w = .ok (.slice A' (n - x) (c - x)) w) ∧ (x < n → A' = some ⟨b, p + x, none⟩) := by
  have k1 : (0 : Int) ≤ (x : Int) := by omega
  have k2 : (x : Int) ≤ (n : Int) := by omega
  have he : P.elem t = e := by unfold Program.elem; rw [ht]
  refine ⟨if c = x then some ⟨b, p, none⟩ else (some (⟨b, p, none⟩ : Addr)).map (·.add (x * 1)), fun w => ?_, fun h => ?_⟩
  · rw [run_slice_l w t _ n c (by rw [he]; exact ht) .i64 (x : Int) k1 k2]
    simp [he, sizeOf, typeInfo, hi, hs, sliced, Result.andThen]
  · rw [if_neg (by omega)]
    simp [add_lit]
end Go.Proofs.YtgjbagojcbondaaGreatDoor

namespace Go.Proofs.YtgjbagojcbondaaGreatDoor
set_option linter.unusedVariables false
open Go.RowKit

/-- the tables of unicode/utf8 -/
def TabsU (w : World) : Prop := Lib.Utf8Tabs 0 1 w
theorem TabsU.below {w w' : World} (h : TabsU w) (hb : Below w.heap.size w w') : TabsU w' := Utf8Tabs_below h hb
theorem rcB_any (s : ByteArray) (b c : Nat) (w : World) (hr : IntsR .u8 w (some ⟨b, 0, none⟩) (bytesI s)) (hs : s.size ≤ 1000000) (hc : s.size ≤ c) :
    Calls Tryz.prog 50 #[.slice (some ⟨b, 0, none⟩) s.size c] w fun e w' => e = .returned (.int .i64 ((runesF s).length : Nat)) ∧ Below w.heap.size w w' := by
  refine (Any7.utf8_RuneCount Tryz.rc s b 0 c w hc (fun j hj => ?_) (by omega)).mono ?_
  · obtain ⟨b', o, hA, hb0, g⟩ := hr.at_ (k := j) (by rw [bytesI_len]; exact hj)
    cases hA
    rw [g, bytesI_ix s j hj, ← get_byteB]
  · rintro e w' ⟨rfl, h⟩
    rw [runesF_count]
    refine ⟨rfl, ?_⟩
    rcases h with rfl | ⟨t, pos, rfl⟩
    · exact Below.refl _ _
    · exact (Below.refl _ _).alloc (Nat.le_refl _) _
theorem drB_any (s : ByteArray) (b p c : Nat) (w : World) (hr : IntsR .u8 w (some ⟨b, 0, none⟩) (bytesI s)) (hT : TabsU w) (hp : p < s.size) :
    Calls Tryz.prog 51 #[.slice (some ⟨b, p, none⟩) (s.size - p) c] w fun e w' => e = .returned (.tuple #[.int .i32 ((Utf8.decode s p).1 : Nat), .int .i64 ((Utf8.decode s p).2 : Nat)]) ∧ Below w.heap.size w w' := by
  have h := Any7.utf8_DecodeRune Tryz.dr (s.extract p s.size) b p c w hT (fun j hj => by
    rw [Lib.tail_size] at hj
    obtain ⟨b', o, hA, hb0, g⟩ := hr.at_ (k := p + j) (by rw [bytesI_len]; omega)
    cases hA
    rw [Nat.zero_add] at g
    rw [g, bytesI_ix s (p + j) (by omega), Lib.tail_get!, ← get_byteB])
  rw [Lib.tail_size, decodeGo_tl s p hp] at h
  exact h
theorem made_i32 (n : Nat) : (madeCells (Value.int .i32 0).cells (n * 1)).toList = intCells .i32 (List.replicate n 0) := by
  apply List.ext_getElem?
  intro i
  have hz : (Value.int .i32 0).cells = #[.int .i32 0] := rfl
  rw [hz, intCells_zero]
  by_cases hi : i < n
  · simp [madeCells, hi, Nat.mod_one]
  · simp [madeCells, hi]
set_option maxRecDepth 100000 in
set_option maxHeartbeats 1000000 in
theorem runesB_any (s : ByteArray) (b c : Nat) (w : World) (hr : IntsR .u8 w (some ⟨b, 0, none⟩) (bytesI s)) (hT : TabsU w) (hs : s.size ≤ 1000000) (hc : s.size ≤ c) :
    Calls Tryz.prog 37 #[.slice (some ⟨b, 0, none⟩) s.size c] w fun e w' => ∃ A, e = .returned (.slice A (runesF s).length (runesF s).length) ∧ IntsR .i32 w' A (runesF s) ∧ Below w.heap.size w w' := by
  obtain ⟨i0, hi, hz0, hz1, hz2⟩ := info_parts infoS8
  obtain ⟨i1, hj, hy0, hy1, hy2⟩ := info_parts infoR32
  have HRC := Lib.hid (rcB_any s b c w hr hs hc)
  have HDR := Lib.hid (fun p c W (hb : Below w.heap.size w W) (hp : p < s.size) => drB_any s b p c W (CellsR.below hr hb (Nat.le_refl _)) (hT.below hb) hp)
  have HAT := Lib.hid (runes_at s)
  have HLE := Lib.hid (rpF_le s)
  have hln := runesF_len s
  have HSET := Lib.hid (rowI_set (runesF s))
  have HALL := Lib.hid (rowI_all (runesF s))
  have HZ := Lib.hid (rowI_zero (runesF s))
  have HLEN := Lib.hid (rowI_len (runesF s))
  clear hr hT
  generalize runesF s = rs at *
  obtain ⟨n, hn⟩ : ∃ n, rs.length = n := ⟨_, rfl⟩
  rw [hn] at HRC HAT hln HSET HALL HZ HLEN ⊢
  have HN := Lib.hid hn
  clear hn
  generalize hm : s.size = m at *
  have HM := Lib.hid hm
  clear hm
  go_enter Tryz.func37, Tryz.ntmps37
  go_wp2_with fail
  refine HRC.out.mono ?_
  rintro e w3 ⟨rfl, b3⟩
  have B3 := Lib.hid b3
  clear b3
  go_wp2_with (at_make; refine wpList_make_full _ rfl _ _ _ rfl w.heap.size 21 i1 (.int .i32 0) 1 Tryz.underlying61 hj hy0 hy1 .i64 .i64 _ _ n rfl rfl rfl rfl (by rw [hy2]; omega) (by unfold maxLen; omega) B3.out.size ?_; intro w4 hown4 hg4)
  have hm4 : w4.ownsRow w.heap.size 21 1 (.slice (some ⟨w3.heap.size, 0, none⟩) n n) n (intCells .i32 (rowI rs 0)) := by
    rw [HZ.out, ← made_i32]
    exact hown4
  have hbw4 : Below w3.heap.size w3 w4 := (Below.refl _ _).grown hg4 (Nat.le_refl _) (fun k h => by cases h)
  have O4 := Lib.hid hm4; have HBW4 := Lib.hid hbw4
  have hsz4 := hbw4.size
  clear hm4 hown4 hg4 hbw4
  go_wp2
  go_loopg [0, 13] n (fun q v i wr => ∃ k : Nat, q = n - k ∧ k ≤ n ∧ i = .int .i64 k ∧ (∃ A', v = .slice A' (m - rpF s 0 k) (c - rpF s 0 k) ∧ (k < n → A' = some ⟨b, rpF s 0 k, none⟩)) ∧ wr.ownsRow w.heap.size 21 1 (.slice (some ⟨w3.heap.size, 0, none⟩) n n) n (intCells .i32 (rowI rs k)) ∧ Below w3.heap.size w3 wr)
  case atStart => exact ⟨0, rfl, Nat.zero_le _, rfl, ⟨_, rfl, fun _ => rfl⟩, O4.out, HBW4.out⟩
  case round =>
    obtain ⟨k, hq, hk, rfl, ⟨A', rfl, hA⟩, hown, hb⟩ := hrel
    have HQ := Lib.hid hq; have HO := Lib.hid hown; have HB := Lib.hid hb
    have hbs := hb.size
    clear hq hown hb
    by_cases hlt : k < n
    · obtain rfl := hA hlt
      obtain ⟨hp, hx⟩ := HAT.out k hlt
      have hle := HLE.out k hp
      have hst := HSET.out k hlt
      rw [hx] at hst
      have HST := Lib.hid hst
      have hd := HDR.out (rpF s 0 k) (c - rpF s 0 k) wr (B3.out.trans (HB.out.mono B3.out.size)) hp
      have hnx : rpF s 0 (k + 1) = rpF s 0 k + (Utf8.decode s (rpF s 0 k)).2 := rfl
      clear hst hA hx
      generalize rpF s 0 k = p at *
      generalize hp2 : rpF s 0 (k + 1) = p2 at *
      have HP2 := Lib.hid hp2
      clear hp2
      generalize (Utf8.decode s p).1 = r at *
      generalize (Utf8.decode s p).2 = z at *
      have HD := Lib.hid hd
      clear hd
      obtain ⟨A2, hcut, hA2⟩ := low_cut (P := Tryz.prog) 41 5 i0 Tryz.underlying41 hi hz1 b p (m - p) (c - p) z (by omega) (by omega)
      have HA2 := Lib.hid hA2
      clear hA2
      go_wp2_with fail
      refine HD.out.mono ?_
      rintro e w5 ⟨rfl, hb5⟩
      have hB5 := HB.out.trans (hb5.mono HB.out.size)
      have hO5 := own_below HO.out hb5 (Nat.le_refl _)
      have HB5 := Lib.hid hB5; have HO5 := Lib.hid hO5
      clear hb5 hB5 hO5 HO HB
      have hll : (intCells .i32 (rowI rs k)).length = n := by
        have := HLEN.out k hk
        simp only [intCells, List.length_map]
        exact this
      obtain ⟨y0, hy0⟩ : ∃ v, w5.cell? ⟨w3.heap.size, k, none⟩ = some v := ⟨_, by rw [HO5.out.cellAt _ (by omega)]; exact List.getElem?_eq_getElem (by omega)⟩
      have f0 : w5.frozen? ⟨w3.heap.size, k, none⟩ = false := HO5.out.frozenAt _
      clear hll
      go_wp2
      obtain ⟨s1, _⟩ := World.ownsRow.stored HO5.out k (.int .i32 (r : Int))
      rw [intCells_put, HST.out] at s1
      have hb6 := HB5.out.setCell (p := ⟨w3.heap.size, k, none⟩) (Nat.le_refl _) (.int .i32 (r : Int))
      have HS1 := Lib.hid s1; have HB6 := Lib.hid hb6
      clear s1 hb6
      go_roundg (n - (k + 1))
      case measure => have := HQ.out; omega
      case rel =>
        refine ⟨k + 1, rfl, by omega, by go_num, ⟨A2, ?_, fun h => ?_⟩, HS1.out, HB6.out⟩
        · rw [HP2.out, hnx, Nat.sub_sub, Nat.sub_sub]
        · rw [HP2.out, hnx]
          refine HA2.out ?_
          have := (HAT.out (k + 1) h).1
          rw [HP2.out] at this
          omega
    · obtain rfl : k = n := by omega
      have hown := HO.out
      rw [show rowI rs k = rs from HALL.out] at hown
      have HO2 := Lib.hid hown
      clear hown HO
      go_wp2
      go_ret
      exact ⟨_, rfl, CellsR.of_own HO2.out, B3.out.trans (HB.out.mono B3.out.size)⟩
end Go.Proofs.YtgjbagojcbondaaGreatDoor

namespace Go.Proofs.YtgjbagojcbondaaGreatDoor
set_option linter.unusedVariables false
open Go.RowKit Go.Lib

/-- the two tables as a row lists them -/
noncomputable def laidU : List (String × DataW Unit) := [("unicode/utf8.acceptRanges", Rows.laid_unicode_utf8_acceptRanges), ("unicode/utf8.first", Rows.laid_unicode_utf8_first)]
def renU : Go.Shelf.Ren := ⟨fun x => x, fun x => if x = 5 then 5 else if x = 119 then 129 else if x = 138 then 131 else if x = 139 then 132 else x, fun x => if x = 3 then 0 else if x = 4 then 1 else x⟩
theorem typesU : U8Types Tryz.prog renU := { t5 := by kernel_rfl, t119 := by kernel_rfl, t138 := by kernel_rfl, t139 := by kernel_rfl }
theorem extraU : U8Extra Tryz.prog renU := { n3 := by kernel_rfl, n4 := by kernel_rfl, y3 := by kernel_rfl, y4 := by kernel_rfl, c5 := by kernel_rfl, c119 := by kernel_rfl, c138 := by kernel_rfl }
theorem firstU : Rows.laid_unicode_utf8_first = firstData := by kernel_rfl
theorem acceptU : (Rows.laid_unicode_utf8_acceptRanges : DataW Unit) = acceptData := by kernel_rfl
theorem of_laidU {W : World} (h : laidMetH Tryz.prog laidU W) : TabsU W := by
  rw [MakeChecks.laidMetH_plain _ _ _ (by kernel_rfl)] at h
  exact utf8Tabs_of_readsT typesU extraU (laidMet.reads h (by rw [← firstU]; simp [laidU])) (laidMet.reads h (by rw [← acceptU]; simp [laidU]))
end Go.Proofs.YtgjbagojcbondaaGreatDoor

namespace Go.Proofs.YtgjbagojcbondaaGreatDoor
set_option linter.unusedVariables false
open Go.RowKit

theorem beq_any (s t : ByteArray) (A C : Option Addr) (c d : Nat) (w : World) (h1 : IntsR .u8 w A (bytesI s)) (h2 : IntsR .u8 w C (bytesI t)) :
    Calls Tryz.prog 33 #[.slice A s.size c, .slice C t.size d] w fun e w' => e = .returned (.bool (s.toList == t.toList)) ∧ w' = w := by
  refine Any.bytes_Equal_strs { Tryz.be with } (.slice A s.size c) (.slice C t.size d) s t w ?_ ?_
  · exact run_conv_strX w _ _ 5 Tryz.underlying41 Tryz.underlying5 Tryz.underlying9 (by rw [bytesI_cells]; exact h1) rfl
  · exact run_conv_strX w _ _ 5 Tryz.underlying41 Tryz.underlying5 Tryz.underlying9 (by rw [bytesI_cells]; exact h2) rfl
set_option maxRecDepth 100000 in
set_option maxHeartbeats 1000000 in
theorem dbytes_any {K : List Int → List Int → List Pc → Prop} (s t : ByteArray) (b1 b2 c1 c2 : Nat) (w : World) (hs : s.size ≤ 1000000) (ht : t.size ≤ 1000000) (hc1 : s.size ≤ c1) (hc2 : t.size ≤ c2)
    (hA : IntsR .u8 w (some ⟨b1, 0, none⟩) (bytesI s)) (hC : IntsR .u8 w (some ⟨b2, 0, none⟩) (bytesI t)) (hT : TabsU w)
    (hdb : ∀ W A C c d, IntsR .u8 W A (bytesI s) → IntsR .u8 W C (bytesI t) → s.size ≤ c → t.size ≤ d → Calls Tryz.prog 47 #[.slice A s.size c, .slice C t.size d] W (DsX s.size t.size (DfP K (bytesI s) (bytesI t)) W))
    (hdr : ∀ W A C c d, IntsR .i32 W A (runesF s) → IntsR .i32 W C (runesF t) → (runesF s).length ≤ c → (runesF t).length ≤ d → Calls Tryz.prog 48 #[.slice A (runesF s).length c, .slice C (runesF t).length d] W (DsX (runesF s).length (runesF t).length (DfP K (runesF s) (runesF t)) W)) :
    Calls Tryz.prog 21 #[.slice (some ⟨b1, 0, none⟩) s.size c1, .slice (some ⟨b2, 0, none⟩) t.size c2] w (EdX (StrPK K s t) w) := by
  have HE := Lib.hid (beq_any s t _ _ c1 c2 w hA hC)
  by_cases heq : s = t
  · have hq : (s.toList == t.toList) = true := by rw [heq]; simp
    rw [hq] at HE
    have HQ := Lib.hid heq
    clear hdb hdr heq hq
    go_enter Tryz.func21, Tryz.ntmps21
    go_wp2_with fail
    refine HE.out.mono ?_
    rintro e w1 ⟨rfl, rfl⟩
    go_wp2
    go_ret
    exact ⟨[], none, 0, rfl, ⟨rfl, .inl ⟨rfl, rfl⟩⟩, Below.refl _ _, .inl ⟨HQ.out, rfl⟩⟩
  · have hq : (s.toList == t.toList) = false := strEq_false heq
    rw [hq] at HE
    have HA1 := Lib.hid (isAsciiB_any s _ c1 w hA (by omega))
    have HA2 := Lib.hid (isAsciiB_any t _ c2 w hC (by omega))
    have l1 := runesF_len s
    have l2 := runesF_len t
    have v1 := runesF_valid s
    have hro := fun W A C c d h1 h2 h3 h4 => diffRunes_any (runesF s) (runesF t) A C c d W (by omega) (by omega) h1 h2 h3 h4 v1 (DfP K (runesF s) (runesF t)) (fun ds h => h.ord) (hdr W A C c d h1 h2 h3 h4)
    have hfin : ∀ ds es, DfP K (runesF s) (runesF t) ds → es = edsOf (pcsR (runesF s)) (pcsR (runesF t)) ds → StrPK K s t es := fun ds es h he => by
      obtain ⟨ps, h1, h2, rfl⟩ := h
      exact .inr ⟨heq, ps, h1, h2, he⟩
    have HRO := Lib.hid hro; have HFIN := Lib.hid hfin
    have HR1 := Lib.hid (runesB_any s b1 c1 w hA hT hs hc1)
    have HR2 := Lib.hid (fun W (hb : Below w.heap.size w W) => runesB_any t b2 c2 W (CellsR.below hC hb (Nat.le_refl _)) (hT.below hb) ht hc2)
    unfold EdX at HRO
    have hrune : asciiF s = false ∨ asciiF t = false → Calls Tryz.prog 21 #[.slice (some ⟨b1, 0, none⟩) s.size c1, .slice (some ⟨b2, 0, none⟩) t.size c2] w (EdX (StrPK K s t) w) := by
      intro hno
      clear hro hfin hdb hdr v1 heq hA hC hT
      cases h1 : asciiF s with
      | false =>
        rw [h1] at HA1
        clear hno h1
        go_enter Tryz.func21, Tryz.ntmps21
        go_wp2_with fail
        refine HE.out.mono ?_
        rintro e w1 ⟨rfl, rfl⟩
        go_wp2_with fail
        refine HA1.out.mono ?_
        rintro e w1' ⟨rfl, rfl⟩
        go_wp2_with fail
        refine HR1.out.mono ?_
        rintro e w3 ⟨A3, rfl, hi3, hb3⟩
        have HI3 := Lib.hid hi3; have HB3 := Lib.hid hb3; clear hi3 hb3
        go_wp2_with fail
        refine (HR2.out _ HB3.out).mono ?_
        rintro e w4 ⟨A4, rfl, hi4, hb4⟩
        have HB4 := Lib.hid (HB3.out.trans (hb4.mono HB3.out.size)); have HI4 := Lib.hid hi4; have HI34 := Lib.hid (CellsR.below HI3.out hb4 (Nat.le_refl _)); clear hi4 hb4 HB3 HI3
        go_wp2_with fail
        refine (HRO.out _ _ _ _ _ HI34.out HI4.out (Nat.le_refl _) (Nat.le_refl _)).mono ?_
        rintro e w5 ⟨es, A, c, rfl, ho, hb, ds, hp, hes⟩
        have HO := Lib.hid ho; have HB := Lib.hid hb; have HP := Lib.hid (HFIN.out ds es hp hes)
        clear ho hb hp hes
        go_wp2
        go_ret
        exact ⟨es, A, c, rfl, own_mono HO.out HB4.out.size, HB4.out.trans (HB.out.mono HB4.out.size), HP.out⟩
      | true =>
        have h2 : asciiF t = false := by
          rcases hno with h | h
          · rw [h1] at h; cases h
          · exact h
        rw [h1] at HA1
        rw [h2] at HA2
        clear hno h1 h2
        go_enter Tryz.func21, Tryz.ntmps21
        go_wp2_with fail
        refine HE.out.mono ?_
        rintro e w1 ⟨rfl, rfl⟩
        go_wp2_with fail
        refine HA1.out.mono ?_
        rintro e w1' ⟨rfl, rfl⟩
        go_wp2_with fail
        refine HA2.out.mono ?_
        rintro e w1'' ⟨rfl, rfl⟩
        go_wp2_with fail
        refine HR1.out.mono ?_
        rintro e w3 ⟨A3, rfl, hi3, hb3⟩
        have HI3 := Lib.hid hi3; have HB3 := Lib.hid hb3; clear hi3 hb3
        go_wp2_with fail
        refine (HR2.out _ HB3.out).mono ?_
        rintro e w4 ⟨A4, rfl, hi4, hb4⟩
        have HB4 := Lib.hid (HB3.out.trans (hb4.mono HB3.out.size)); have HI4 := Lib.hid hi4; have HI34 := Lib.hid (CellsR.below HI3.out hb4 (Nat.le_refl _)); clear hi4 hb4 HB3 HI3
        go_wp2_with fail
        refine (HRO.out _ _ _ _ _ HI34.out HI4.out (Nat.le_refl _) (Nat.le_refl _)).mono ?_
        rintro e w5 ⟨es, A, c, rfl, ho, hb, ds, hp, hes⟩
        have HO := Lib.hid ho; have HB := Lib.hid hb; have HP := Lib.hid (HFIN.out ds es hp hes)
        clear ho hb hp hes
        go_wp2
        go_ret
        exact ⟨es, A, c, rfl, own_mono HO.out HB4.out.size, HB4.out.trans (HB.out.mono HB4.out.size), HP.out⟩
    cases h1 : asciiF s with
    | false => exact hrune (.inl h1)
    | true =>
      cases h2 : asciiF t with
      | false => exact hrune (.inr h2)
      | true =>
        have r1 := runes_ascii h1
        have r2 := runes_ascii h2
        have hao := diffAscii_any s t _ _ c1 c2 w (by omega) (by omega) hA hC hc1 hc2 h1 h2 (DfP K (bytesI s) (bytesI t)) (hdb w _ _ c1 c2 hA hC hc1 hc2)
        rw [r1, r2] at hfin
        rw [h1] at HA1
        rw [h2] at HA2
        have HAO := Lib.hid hao; have HFIN2 := Lib.hid hfin
        unfold EdX at HAO
        clear hrune hao hfin hro HRO HFIN v1 hdb hdr r1 r2 h1 h2 l1 l2 heq hA hC hT HR1 HR2
        go_enter Tryz.func21, Tryz.ntmps21
        go_wp2_with fail
        refine HE.out.mono ?_
        rintro e w1 ⟨rfl, rfl⟩
        go_wp2_with fail
        refine HA1.out.mono ?_
        rintro e w1' ⟨rfl, rfl⟩
        go_wp2_with fail
        refine HA2.out.mono ?_
        rintro e w1'' ⟨rfl, rfl⟩
        go_wp2_with fail
        refine HAO.out.mono ?_
        rintro e w5 ⟨es, A, c, rfl, ho, hb, ds, hp, hes⟩
        have HO := Lib.hid ho; have HB := Lib.hid hb; have HP := Lib.hid (HFIN2.out ds es hp hes)
        clear ho hb hp hes
        go_wp2
        go_ret
        exact ⟨es, A, c, rfl, HO.out, HB.out, HP.out⟩
set_option maxRecDepth 100000 in
set_option maxHeartbeats 1000000 in
theorem bytImpl_any {K : List Int → List Int → List Pc → Prop} (s t : ByteArray) (w : World) (hs : s.size ≤ 1000000) (ht : t.size ≤ 1000000) (hT : TabsU w)
    (hdb : ∀ W A C c d, IntsR .u8 W A (bytesI s) → IntsR .u8 W C (bytesI t) → s.size ≤ c → t.size ≤ d → Calls Tryz.prog 47 #[.slice A s.size c, .slice C t.size d] W (DsX s.size t.size (DfP K (bytesI s) (bytesI t)) W))
    (hdr : ∀ W A C c d, IntsR .i32 W A (runesF s) → IntsR .i32 W C (runesF t) → (runesF s).length ≤ c → (runesF t).length ≤ d → Calls Tryz.prog 48 #[.slice A (runesF s).length c, .slice C (runesF t).length d] W (DsX (runesF s).length (runesF t).length (DfP K (runesF s) (runesF t)) W)) :
    Calls Tryz.prog 9 #[.string s, .string t] w (StrOut (StrPK K s t) w) := by
  have HTO := Lib.hid (fun A c es W (h : EdsR W A es) (hl : es.length ≤ 20000000) => told_any A c es W h hl)
  have HD := Lib.hid (fun W b1 b2 c1 c2 (h1 : s.size ≤ c1) (h2 : t.size ≤ c2) (h3 : IntsR .u8 W (some ⟨b1, 0, none⟩) (bytesI s)) (h4 : IntsR .u8 W (some ⟨b2, 0, none⟩) (bytesI t)) (h5 : Below w.heap.size w W) => dbytes_any s t b1 b2 c1 c2 W hs ht h1 h2 h3 h4 (hT.below h5) hdb hdr)
  unfold EdX at HD
  have cb1 := fun W => Lib.run_convert_string_bytes (P := Tryz.prog) W 9 41 5 s Tryz.underlying9 Tryz.underlying41 Tryz.underlying5
  have cb2 := fun W => Lib.run_convert_string_bytes (P := Tryz.prog) W 9 41 5 t Tryz.underlying9 Tryz.underlying41 Tryz.underlying5
  have HX1 := Lib.hid (fun W => ints_bytesX W 5 s)
  have HX2 := Lib.hid (fun W => ints_bytesX W 5 t)
  have HY1 := Lib.hid (fun W => below_bytesX W 5 s)
  have HY2 := Lib.hid (fun W => below_bytesX W 5 t)
  clear hT hdb hdr
  go_enter Tryz.func9, Tryz.ntmps9
  go_wp2_with fail
  refine (HD.out _ _ _ _ _ (grownCap_ge _ _ _ _) (grownCap_ge _ _ _ _) ?_ (HX2.out _) ((HY1.out w).trans ((HY2.out (Lib.bytesWorld w 5 s)).mono (HY1.out w).size))).mono ?_
  · exact CellsR.below (HX1.out _) (HY2.out _) (Nat.le_refl _)
  · have hB := Lib.hid ((HY1.out w).trans ((HY2.out (Lib.bytesWorld w 5 s)).mono (HY1.out w).size))
    generalize Lib.bytesWorld (Lib.bytesWorld w 5 s) 5 t = W2 at *
    rintro e w1 ⟨es, A, c, rfl, o1, b1, hp⟩
    have hl := hp.str.count hs
    have HP := Lib.hid hp; have B1 := Lib.hid (hB.out.trans (b1.mono hB.out.size))
    have hTT := HTO.out A c es w1 (CellsR.of_own o1) (by omega)
    clear hp b1 o1
    obtain ⟨n, hn⟩ : ∃ n, es.length = n := ⟨_, rfl⟩
    rw [hn] at hTT ⊢
    have HTT := Lib.hid hTT; have HN := Lib.hid hn
    clear hTT hn
    go_wp2_with fail
    refine HTT.out.mono ?_
    rintro e w2 ⟨A2, c2, rfl, o2, b2⟩
    have B2 := Lib.hid (B1.out.trans (b2.mono B1.out.size))
    clear b2
    go_wp2
    go_ret
    exact ⟨es, A2, c2, by rw [HN.out]; rfl, CellsR.of_own o2, by rw [HN.out]; exact own_capX o2, B2.out, HP.out⟩
theorem implBytes_any (s t : ByteArray) (w : World) (hs : s.size ≤ 1000000) (ht : t.size ≤ 1000000) (hT : TabsU w) :
    Calls Tryz.prog 9 #[.string s, .string t] w (StrOut (StrP s t) w) := by
  refine (bytImpl_any s t w hs ht hT (payBytes s t hs ht) (payRunes s t hs ht)).mono ?_
  rintro e w' ⟨es, A, c, h1, h2, h3, h4, h5⟩
  exact ⟨es, A, c, h1, h2, h3, h4, h5.str⟩
end Go.Proofs.YtgjbagojcbondaaGreatDoor
