/-
  The walk of spec.ApplyTo: what the reference makes of a text. Condition: at most 20000000 edits, a text of at most 2000000 bytes.
-/
import Derived.Test.YtoceakjnkillkaaToldW
import Derived.Test.YtoceakjnkillkaaSortedW
namespace Go.Proofs.Ytoceakjnkillkaa
set_option linter.unusedVariables false
open Go.RowKit

theorem sortE_len (es : List Ed) : (sortE es).length = es.length := by
  have := srt_len es es.length (Nat.le_refl _)
  unfold srt at this
  rwa [List.take_length] at this
/-- what the reference gives -/
def AppTo (s : ByteArray) (es : List Ed) (w : World) (e : Ending) (w' : World) : Prop :=
  e = .returned (.tuple #[.string (if toldF s.size es = 0 then patchB s 0 (sortE es) else ⟨#[]⟩), .int .i64 (toldF s.size es)]) ∧ Below w.heap.size w w'
set_option maxRecDepth 100000 in
set_option maxHeartbeats 1000000 in
theorem applyTo_any (s : ByteArray) (A : Option Addr) (c : Nat) (es : List Ed) (w : World) (hr : EdsR w A es) (hc : es.length ≤ c) (hl : es.length ≤ 20000000) (hs : s.size ≤ 2000000) (hz : szE (sortE es) ≤ 4000000) (hord : toldF s.size es = 0 → inOrderF s.size 0 (sortE es) = true) :
   Calls Try.prog 16 #[.string s, .slice A es.length c] w (AppTo s es w) := by
  have ht := toldOf_any A c es s.size w hr hc hl
  have hso := fun W (hW : Below w.heap.size w W) => sorted_any A c es W (EdsR.below hr hW (Nat.le_refl _)) hl
  have hsl := sortE_len es
  have HT := Lib.hid ht; have HSO := Lib.hid hso
  clear ht hso hr
  unfold AppTo
  generalize hL : sortE es = L at *
  have HLL := Lib.hid hsl
  clear hL
  obtain ⟨n, hn⟩ : ∃ n, es.length = n := ⟨_, rfl⟩
  rw [hn] at HT HSO hl hc hsl ⊢
  have LX := Lib.hid hsl
  clear hn hsl HLL
  generalize htd : toldF (s.size : Int) es = td at *
  clear htd
  by_cases h0 : td = 0
  · subst h0
    rw [if_pos rfl]
    have HIO := Lib.hid (hord rfl); clear hord
    go_enter Try.func16, Try.ntmps16
    go_wp2_with fail
    refine HT.out.mono ?_
    rintro e w1 ⟨rfl, hb1⟩
    have HB1 := Lib.hid hb1; clear hb1
    go_wp2_with fail
    refine (HSO.out _ HB1.out).mono ?_
    rintro e w2 ⟨A2, c2, rfl, ho2, hb2⟩
    have HR2 := Lib.hid (CellsR.of_own ho2); have HB2 := Lib.hid (HB1.out.trans (hb2.mono HB1.out.size))
    clear ho2 hb2
    go_wp2
    go_loopg [7, 8, 21] n (fun q v le i wr => ∃ (k at_ : Nat) (acc : ByteArray), q = n - k ∧ k ≤ n ∧ i = .int .i64 k ∧ v = .string acc ∧ le = .int .i64 at_ ∧ at_ ≤ s.size ∧ inOrderF s.size at_ (L.drop k) = true ∧ patchB s 0 L = acc ++ patchB s at_ (L.drop k) ∧ acc.size ≤ at_ + szE (L.take k) ∧ Below w2.heap.size w2 wr)
    case atStart => exact ⟨0, 0, ByteArray.empty, rfl, Nat.zero_le _, rfl, rfl, rfl, Nat.zero_le _, HIO.out, by simp, by simp, Below.refl _ _⟩
    case round =>
      obtain ⟨k, at_, acc, hq, hk, rfl, rfl, rfl, hat, hio, hpa, hsz, hb⟩ := hrel
      have HQ := Lib.hid hq; have HPA := Lib.hid hpa
      clear hq hpa
      by_cases hlt : k < n
      · obtain ⟨b, off, rfl, hbb, g1, g2, g3⟩ := (EdsR.below HR2.out hb (Nat.le_refl _)).at_ (k := k) (by rw [LX.out]; exact hlt)
        have hbs := hb.size
        have hdc := drop_cons_told L k (by rw [LX.out]; exact hlt)
        generalize hX : edAt L k = X at *
        have hX1 : eS L k = X.s := by rw [← hX]; rfl
        have hX2 : eE L k = X.e := by rw [← hX]; rfl
        have hX3 : eN L k = X.n := by rw [← hX]; rfl
        rw [hX1] at g1
        rw [hX2] at g2
        rw [hX3] at g3
        clear hX hX1 hX2
        rw [hdc] at hio
        obtain ⟨i1, i2, i3, i4, i5⟩ := inOrderF_cons hio
        have hpc := patchB_cons s at_ X (L.drop (k + 1))
        rw [← hdc] at hpc
        obtain ⟨sn, hsn⟩ : ∃ sn : Nat, X.s = sn := ⟨X.s.toNat, by omega⟩
        obtain ⟨en, hen⟩ : ∃ en : Nat, X.e = en := ⟨X.e.toNat, by omega⟩
        rw [hsn] at g1 hpc i1 i2 i4
        rw [hen] at g2 hpc i2 i3 i5
        rw [Int.toNat_natCast, Int.toNat_natCast] at hpc
        have HPC := Lib.hid hpc; have HI5 := Lib.hid i5
        clear hdc hio hpc i5 hsn hen
        generalize hM : X.n = M at *
        have hX3' : eN L k = M := by rw [hX3]
        clear hX3 hM
        clear X
        have HB := Lib.hid (hb.alloc hbs (.cells #[.int .i64 (sn : Int), .int .i64 (en : Int), .string M] 28)); clear hb
        have hbk := Blk.new wr 28 #[.int .i64 (sn : Int), .int .i64 (en : Int), .string M]
        have b0 := hbk.cell 0
        have b1 := hbk.cell 1
        have b2 := hbk.cell 2
        clear hbk
        have hex : (s.extract at_ sn).size = sn - at_ := by rw [ByteArray.size_extract]; omega
        have htk := szE_take L k (by rw [LX.out]; exact hlt)
        have hta := szE_take_le L (k + 1)
        rw [hX3'] at htk
        have hml : M.size ≤ 4000000 := by omega
        have hst : (s.extract at_ sn ++ M).size = sn - at_ + M.size := by rw [ByteArray.size_append, hex]
        have hadd1 := fun W => run_string_add_sum (P := Try.prog) (w := W) (s.extract at_ sn) M (by omega)
        have hadd2 := fun W => run_string_add_sum (P := Try.prog) (w := W) acc (s.extract at_ sn ++ M) (by omega)
        have hacc : (acc ++ (s.extract at_ sn ++ M)).size ≤ en + szE (L.take (k + 1)) := by rw [ByteArray.size_append, hst]; omega
        have HACC := Lib.hid hacc
        clear hacc hta htk hst hml hX3'
        have u0 : (sn : Int) ≤ (s.size : Int) := by omega
        go_wp2
        generalize hW0 : wr.alloc (.cells #[.int .i64 (sn : Int), .int .i64 (en : Int), .string M] 28) = W0 at *
        simp at b0 b1 b2
        clear hW0
        go_quiet (fail)
        go_wp2
        go_roundg (n - (k + 1))
        case measure => have := HQ.out; omega
        case rel => exact ⟨k + 1, en, acc ++ (s.extract at_ sn ++ M), rfl, by omega, by go_num, rfl, rfl, by omega, HI5.out, by rw [HPA.out, HPC.out]; simp only [ByteArray.append_assoc], HACC.out, below_drewN HB.out _⟩
      · obtain rfl : k = n := by omega
        have hdr : L.drop k = [] := List.drop_of_length_le (by rw [LX.out]; omega)
        rw [hdr] at HPA
        have HB := Lib.hid (HB2.out.trans (hb.mono HB2.out.size)); clear hb hio hdr
        have u1 : (at_ : Int) ≤ (s.size : Int) := by omega
        have hta := szE_take_le L k
        have hex : (s.extract at_ s.size).size = s.size - at_ := by rw [ByteArray.size_extract]; omega
        have hadd1 := fun W => run_string_add_sum (P := Try.prog) (w := W) acc (s.extract at_ s.size) (by omega)
        clear hta hex
        go_wp2
        go_ret2
        exact ⟨by rw [HPA.out]; rfl, HB.out⟩
  · rw [if_neg h0]
    have hne : (td != 0) = true := by simp [h0]
    go_enter Try.func16, Try.ntmps16
    go_wp2_with fail
    refine HT.out.mono ?_
    rintro e w1 ⟨rfl, hb1⟩
    have HB1 := Lib.hid hb1; clear hb1
    go_wp2
    go_ret2
    exact ⟨rfl, HB1.out⟩
end Go.Proofs.Ytoceakjnkillkaa
