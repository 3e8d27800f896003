/-
  The tables of unicode/utf8 out of what a row lists, and the heap that the program's own initialisers leave. No condition.
  The walks of diff.Bytes and impl.Bytes. Condition: texts of at most 1000000 bytes; the tables of unicode/utf8 lie in memory.
  The walks of spec.RuneSize and spec.WellFormed. Condition: texts of at most 4000000 bytes.
-/
import Derived.Test.YtgjbagojcbondaaDoorRows
import Derived.Test.YtgjbagojcbondaaDoorRuB
import Derived.Lib.LaidU8T
import Derived.ProofKit
import Derived.LaidMore
import Derived.Stop.Joined
import Derived.Test.YtgjbagojcbondaaDoorLcsE
import Derived.Test.YtgjbagojcbondaaDoorLayC
import Derived.Shelf.Bytes.SlSearch0
import Derived.Test.YtgjbagojcbondaaDoorTxB
import Derived.IntWalk
import Derived.Deep.CutRange
import Derived.Deep.DeepCutAuto
import Derived.Deep.CutBlock
namespace Go.Proofs.YtgjbagojcbondaaDoor
set_option linter.unusedVariables false
open Go.RowKit Go.Lib

/-- the two tables as a row lists them -/
noncomputable def laidU : List (String × DataW Unit) := [("unicode/utf8.acceptRanges", Rows.laid_unicode_utf8_acceptRanges), ("unicode/utf8.first", Rows.laid_unicode_utf8_first)]
def renU : Go.Shelf.Ren := ⟨fun x => x, fun x => if x = 5 then 5 else if x = 119 then 67 else if x = 138 then 69 else if x = 139 then 70 else x, fun x => if x = 3 then 0 else if x = 4 then 1 else x⟩
theorem typesU : U8Types Tryd.prog renU := { t5 := by kernel_rfl, t119 := by kernel_rfl, t138 := by kernel_rfl, t139 := by kernel_rfl }
theorem extraU : U8Extra Tryd.prog renU := { n3 := by kernel_rfl, n4 := by kernel_rfl, y3 := by kernel_rfl, y4 := by kernel_rfl, c5 := by kernel_rfl, c119 := by kernel_rfl, c138 := by kernel_rfl }
theorem firstU : Rows.laid_unicode_utf8_first = firstData := by kernel_rfl
theorem acceptU : (Rows.laid_unicode_utf8_acceptRanges : DataW Unit) = acceptData := by kernel_rfl
theorem of_laidU {W : World} (h : laidMetH Tryd.prog laidU W) : TabsU W := by
  rw [MakeChecks.laidMetH_plain _ _ _ (by kernel_rfl)] at h
  exact utf8Tabs_of_readsT typesU extraU (laidMet.reads h (by rw [← firstU]; simp [laidU])) (laidMet.reads h (by rw [← acceptU]; simp [laidU]))
end Go.Proofs.YtgjbagojcbondaaDoor

namespace Go.Proofs.YtgjbagojcbondaaDoor
set_option linter.unusedVariables false
open Go.RowKit

theorem beq_any (s t : ByteArray) (A C : Option Addr) (c d : Nat) (w : World) (h1 : IntsR .u8 w A (bytesI s)) (h2 : IntsR .u8 w C (bytesI t)) :
    Calls Tryd.prog 16 #[.slice A s.size c, .slice C t.size d] w fun e w' => e = .returned (.bool (s.toList == t.toList)) ∧ w' = w := by
  refine Any.bytes_Equal_strs { Tryd.be with } (.slice A s.size c) (.slice C t.size d) s t w ?_ ?_
  · exact run_conv_strX w _ _ 5 Tryd.underlying34 Tryd.underlying5 Tryd.underlying9 (by rw [bytesI_cells]; exact h1) rfl
  · exact run_conv_strX w _ _ 5 Tryd.underlying34 Tryd.underlying5 Tryd.underlying9 (by rw [bytesI_cells]; exact h2) rfl
set_option maxRecDepth 100000 in
set_option maxHeartbeats 1000000 in
theorem dbytes_any {K : List Int → List Int → List Pc → Prop} (s t : ByteArray) (b1 b2 c1 c2 : Nat) (w : World) (hs : s.size ≤ 1000000) (ht : t.size ≤ 1000000) (hc1 : s.size ≤ c1) (hc2 : t.size ≤ c2)
    (hA : IntsR .u8 w (some ⟨b1, 0, none⟩) (bytesI s)) (hC : IntsR .u8 w (some ⟨b2, 0, none⟩) (bytesI t)) (hT : TabsU w)
    (hdb : ∀ W A C c d, IntsR .u8 W A (bytesI s) → IntsR .u8 W C (bytesI t) → s.size ≤ c → t.size ≤ d → Calls Tryd.prog 19 #[.slice A s.size c, .slice C t.size d] W (DsX s.size t.size (DfP K (bytesI s) (bytesI t)) W))
    (hdr : ∀ W A C c d, IntsR .i32 W A (runesF s) → IntsR .i32 W C (runesF t) → (runesF s).length ≤ c → (runesF t).length ≤ d → Calls Tryd.prog 20 #[.slice A (runesF s).length c, .slice C (runesF t).length d] W (DsX (runesF s).length (runesF t).length (DfP K (runesF s) (runesF t)) W)) :
    Calls Tryd.prog 12 #[.slice (some ⟨b1, 0, none⟩) s.size c1, .slice (some ⟨b2, 0, none⟩) t.size c2] w (EdX (StrPK K s t) w) := by
  have HE := Lib.hid (beq_any s t _ _ c1 c2 w hA hC)
  by_cases heq : s = t
  · have hq : (s.toList == t.toList) = true := by rw [heq]; simp
    rw [hq] at HE
    have HQ := Lib.hid heq
    clear hdb hdr heq hq
    go_enter Tryd.func12, Tryd.ntmps12
    go_wp2_with fail
    refine HE.out.mono ?_
    rintro e w1 ⟨rfl, rfl⟩
    go_wp2
    go_ret
    exact ⟨[], none, 0, rfl, ⟨rfl, .inl ⟨rfl, rfl⟩⟩, Below.refl _ _, .inl ⟨HQ.out, rfl⟩⟩
  · have hq : (s.toList == t.toList) = false := strEq_false heq
    rw [hq] at HE
    have HA1 := Lib.hid (isAsciiB_any s _ c1 w hA (by omega))
    have HA2 := Lib.hid (isAsciiB_any t _ c2 w hC (by omega))
    have l1 := runesF_len s
    have l2 := runesF_len t
    have v1 := runesF_valid s
    have hro := fun W A C c d h1 h2 h3 h4 => diffRunes_any (runesF s) (runesF t) A C c d W (by omega) (by omega) h1 h2 h3 h4 v1 (DfP K (runesF s) (runesF t)) (fun ds h => h.ord) (hdr W A C c d h1 h2 h3 h4)
    have hfin : ∀ ds es, DfP K (runesF s) (runesF t) ds → es = edsOf (pcsR (runesF s)) (pcsR (runesF t)) ds → StrPK K s t es := fun ds es h he => by
      obtain ⟨ps, h1, h2, rfl⟩ := h
      exact .inr ⟨heq, ps, h1, h2, he⟩
    have HRO := Lib.hid hro; have HFIN := Lib.hid hfin
    have HR1 := Lib.hid (runesB_any s b1 c1 w hA hT hs hc1)
    have HR2 := Lib.hid (fun W (hb : Below w.heap.size w W) => runesB_any t b2 c2 W (CellsR.below hC hb (Nat.le_refl _)) (hT.below hb) ht hc2)
    unfold EdX at HRO
    have hrune : asciiF s = false ∨ asciiF t = false → Calls Tryd.prog 12 #[.slice (some ⟨b1, 0, none⟩) s.size c1, .slice (some ⟨b2, 0, none⟩) t.size c2] w (EdX (StrPK K s t) w) := by
      intro hno
      clear hro hfin hdb hdr v1 heq hA hC hT
      cases h1 : asciiF s with
      | false =>
        rw [h1] at HA1
        clear hno h1
        go_enter Tryd.func12, Tryd.ntmps12
        go_wp2_with fail
        refine HE.out.mono ?_
        rintro e w1 ⟨rfl, rfl⟩
        go_wp2_with fail
        refine HA1.out.mono ?_
        rintro e w1' ⟨rfl, rfl⟩
        go_wp2_with fail
        refine HR1.out.mono ?_
        rintro e w3 ⟨A3, rfl, hi3, hb3⟩
        have HI3 := Lib.hid hi3; have HB3 := Lib.hid hb3; clear hi3 hb3
        go_wp2_with fail
        refine (HR2.out _ HB3.out).mono ?_
        rintro e w4 ⟨A4, rfl, hi4, hb4⟩
        have HB4 := Lib.hid (HB3.out.trans (hb4.mono HB3.out.size)); have HI4 := Lib.hid hi4; have HI34 := Lib.hid (CellsR.below HI3.out hb4 (Nat.le_refl _)); clear hi4 hb4 HB3 HI3
        go_wp2_with fail
        refine (HRO.out _ _ _ _ _ HI34.out HI4.out (Nat.le_refl _) (Nat.le_refl _)).mono ?_
        rintro e w5 ⟨es, A, c, rfl, ho, hb, ds, hp, hes⟩
        have HO := Lib.hid ho; have HB := Lib.hid hb; have HP := Lib.hid (HFIN.out ds es hp hes)
        clear ho hb hp hes
        go_wp2
        go_ret
        exact ⟨es, A, c, rfl, own_mono HO.out HB4.out.size, HB4.out.trans (HB.out.mono HB4.out.size), HP.out⟩
      | true =>
        have h2 : asciiF t = false := by
          rcases hno with h | h
          · rw [h1] at h; cases h
          · exact h
        rw [h1] at HA1
        rw [h2] at HA2
        clear hno h1 h2
        go_enter Tryd.func12, Tryd.ntmps12
        go_wp2_with fail
        refine HE.out.mono ?_
        rintro e w1 ⟨rfl, rfl⟩
        go_wp2_with fail
        refine HA1.out.mono ?_
        rintro e w1' ⟨rfl, rfl⟩
        go_wp2_with fail
        refine HA2.out.mono ?_
        rintro e w1'' ⟨rfl, rfl⟩
        go_wp2_with fail
        refine HR1.out.mono ?_
        rintro e w3 ⟨A3, rfl, hi3, hb3⟩
        have HI3 := Lib.hid hi3; have HB3 := Lib.hid hb3; clear hi3 hb3
        go_wp2_with fail
        refine (HR2.out _ HB3.out).mono ?_
        rintro e w4 ⟨A4, rfl, hi4, hb4⟩
        have HB4 := Lib.hid (HB3.out.trans (hb4.mono HB3.out.size)); have HI4 := Lib.hid hi4; have HI34 := Lib.hid (CellsR.below HI3.out hb4 (Nat.le_refl _)); clear hi4 hb4 HB3 HI3
        go_wp2_with fail
        refine (HRO.out _ _ _ _ _ HI34.out HI4.out (Nat.le_refl _) (Nat.le_refl _)).mono ?_
        rintro e w5 ⟨es, A, c, rfl, ho, hb, ds, hp, hes⟩
        have HO := Lib.hid ho; have HB := Lib.hid hb; have HP := Lib.hid (HFIN.out ds es hp hes)
        clear ho hb hp hes
        go_wp2
        go_ret
        exact ⟨es, A, c, rfl, own_mono HO.out HB4.out.size, HB4.out.trans (HB.out.mono HB4.out.size), HP.out⟩
    cases h1 : asciiF s with
    | false => exact hrune (.inl h1)
    | true =>
      cases h2 : asciiF t with
      | false => exact hrune (.inr h2)
      | true =>
        have r1 := runes_ascii h1
        have r2 := runes_ascii h2
        have hao := diffAscii_any s t _ _ c1 c2 w (by omega) (by omega) hA hC hc1 hc2 h1 h2 (DfP K (bytesI s) (bytesI t)) (hdb w _ _ c1 c2 hA hC hc1 hc2)
        rw [r1, r2] at hfin
        rw [h1] at HA1
        rw [h2] at HA2
        have HAO := Lib.hid hao; have HFIN2 := Lib.hid hfin
        unfold EdX at HAO
        clear hrune hao hfin hro HRO HFIN v1 hdb hdr r1 r2 h1 h2 l1 l2 heq hA hC hT HR1 HR2
        go_enter Tryd.func12, Tryd.ntmps12
        go_wp2_with fail
        refine HE.out.mono ?_
        rintro e w1 ⟨rfl, rfl⟩
        go_wp2_with fail
        refine HA1.out.mono ?_
        rintro e w1' ⟨rfl, rfl⟩
        go_wp2_with fail
        refine HA2.out.mono ?_
        rintro e w1'' ⟨rfl, rfl⟩
        go_wp2_with fail
        refine HAO.out.mono ?_
        rintro e w5 ⟨es, A, c, rfl, ho, hb, ds, hp, hes⟩
        have HO := Lib.hid ho; have HB := Lib.hid hb; have HP := Lib.hid (HFIN2.out ds es hp hes)
        clear ho hb hp hes
        go_wp2
        go_ret
        exact ⟨es, A, c, rfl, HO.out, HB.out, HP.out⟩
set_option maxRecDepth 100000 in
set_option maxHeartbeats 1000000 in
theorem bytImpl_any {K : List Int → List Int → List Pc → Prop} (s t : ByteArray) (w : World) (hs : s.size ≤ 1000000) (ht : t.size ≤ 1000000) (hT : TabsU w)
    (hdb : ∀ W A C c d, IntsR .u8 W A (bytesI s) → IntsR .u8 W C (bytesI t) → s.size ≤ c → t.size ≤ d → Calls Tryd.prog 19 #[.slice A s.size c, .slice C t.size d] W (DsX s.size t.size (DfP K (bytesI s) (bytesI t)) W))
    (hdr : ∀ W A C c d, IntsR .i32 W A (runesF s) → IntsR .i32 W C (runesF t) → (runesF s).length ≤ c → (runesF t).length ≤ d → Calls Tryd.prog 20 #[.slice A (runesF s).length c, .slice C (runesF t).length d] W (DsX (runesF s).length (runesF t).length (DfP K (runesF s) (runesF t)) W)) :
    Calls Tryd.prog 7 #[.string s, .string t] w (StrOut (StrPK K s t) w) := by
  have HTO := Lib.hid (fun A c es W (h : EdsR W A es) (hl : es.length ≤ 20000000) => told_any A c es W h hl)
  have HD := Lib.hid (fun W b1 b2 c1 c2 (h1 : s.size ≤ c1) (h2 : t.size ≤ c2) (h3 : IntsR .u8 W (some ⟨b1, 0, none⟩) (bytesI s)) (h4 : IntsR .u8 W (some ⟨b2, 0, none⟩) (bytesI t)) (h5 : Below w.heap.size w W) => dbytes_any s t b1 b2 c1 c2 W hs ht h1 h2 h3 h4 (hT.below h5) hdb hdr)
  unfold EdX at HD
  have cb1 := fun W => Lib.run_convert_string_bytes (P := Tryd.prog) W 9 34 5 s Tryd.underlying9 Tryd.underlying34 Tryd.underlying5
  have cb2 := fun W => Lib.run_convert_string_bytes (P := Tryd.prog) W 9 34 5 t Tryd.underlying9 Tryd.underlying34 Tryd.underlying5
  have HX1 := Lib.hid (fun W => ints_bytesX W 5 s)
  have HX2 := Lib.hid (fun W => ints_bytesX W 5 t)
  have HY1 := Lib.hid (fun W => below_bytesX W 5 s)
  have HY2 := Lib.hid (fun W => below_bytesX W 5 t)
  clear hT hdb hdr
  go_enter Tryd.func7, Tryd.ntmps7
  go_wp2_with fail
  refine (HD.out _ _ _ _ _ (grownCap_ge _ _ _ _) (grownCap_ge _ _ _ _) ?_ (HX2.out _) ((HY1.out w).trans ((HY2.out (Lib.bytesWorld w 5 s)).mono (HY1.out w).size))).mono ?_
  · exact CellsR.below (HX1.out _) (HY2.out _) (Nat.le_refl _)
  · have hB := Lib.hid ((HY1.out w).trans ((HY2.out (Lib.bytesWorld w 5 s)).mono (HY1.out w).size))
    generalize Lib.bytesWorld (Lib.bytesWorld w 5 s) 5 t = W2 at *
    rintro e w1 ⟨es, A, c, rfl, o1, b1, hp⟩
    have hl := hp.str.count hs
    have HP := Lib.hid hp; have B1 := Lib.hid (hB.out.trans (b1.mono hB.out.size))
    have hTT := HTO.out A c es w1 (CellsR.of_own o1) (by omega)
    clear hp b1 o1
    obtain ⟨n, hn⟩ : ∃ n, es.length = n := ⟨_, rfl⟩
    rw [hn] at hTT ⊢
    have HTT := Lib.hid hTT; have HN := Lib.hid hn
    clear hTT hn
    go_wp2_with fail
    refine HTT.out.mono ?_
    rintro e w2 ⟨A2, c2, rfl, o2, b2⟩
    have B2 := Lib.hid (B1.out.trans (b2.mono B1.out.size))
    clear b2
    go_wp2
    go_ret
    exact ⟨es, A2, c2, by rw [HN.out]; rfl, CellsR.of_own o2, by rw [HN.out]; exact own_capX o2, B2.out, HP.out⟩
theorem implBytes_any (s t : ByteArray) (w : World) (hs : s.size ≤ 1000000) (ht : t.size ≤ 1000000) (hT : TabsU w) :
    Calls Tryd.prog 7 #[.string s, .string t] w (StrOut (StrP s t) w) := by
  refine (bytImpl_any s t w hs ht hT (payBytes s t hs ht) (payRunes s t hs ht)).mono ?_
  rintro e w' ⟨es, A, c, h1, h2, h3, h4, h5⟩
  exact ⟨es, A, c, h1, h2, h3, h4, h5.str⟩
end Go.Proofs.YtgjbagojcbondaaDoor

namespace Go.Proofs.YtgjbagojcbondaaDoor
set_option linter.unusedVariables false
open Go.RowKit

/-- how many bytes the code point has, 0 where none begins -/
def rszN (n b0 b1 b2 b3 : Nat) : Nat := if (Lib.decodeN n b0 b1 b2 b3).1 = 65533 ∧ (Lib.decodeN n b0 b1 b2 b3).2 = 1 then 0 else (Lib.decodeN n b0 b1 b2 b3).2
def rszF (s : ByteArray) (i : Nat) : Nat := if (Utf8.decode s i).1 = 65533 ∧ (Utf8.decode s i).2 = 1 then 0 else (Utf8.decode s i).2
theorem get_byteAt (s : ByteArray) (i : Nat) : (s.get! i).toNat = byteAt s i := by
  unfold byteAt
  rw [Lib.getD_get!']
theorem rszF_eq (s : ByteArray) (i : Nat) : rszF s i = rszN (s.size - i) (byteAt s i) (byteAt s (i + 1)) (byteAt s (i + 2)) (byteAt s (i + 3)) := by
  unfold rszF rszN
  rw [Lib.decode_at, get_byteAt, get_byteAt, get_byteAt, get_byteAt]
theorem rsz_of {n b0 b1 b2 b3 c k : Nat} (h : Lib.decodeN n b0 b1 b2 b3 = (c, k)) (hk : ¬ (c = 65533 ∧ k = 1)) : rszN n b0 b1 b2 b3 = k := by
  unfold rszN
  rw [h, if_neg hk]
theorem rsz_bad {n b0 b1 b2 b3 : Nat} (h : Lib.decodeN n b0 b1 b2 b3 = (65533, 1)) : rszN n b0 b1 b2 b3 = 0 := by
  unfold rszN
  rw [h, if_pos ⟨rfl, rfl⟩]
theorem rsz_one {n b0 b1 b2 b3 : Nat} (h : b0 < 128) : rszN n b0 b1 b2 b3 = 1 := rsz_of (decN1 h) (by omega)
theorem dec_bad {n b0 b1 b2 b3 : Nat} (h0 : 128 ≤ b0)
    (h1 : b0 / 32 = 6 → (1 < n ∧ b1 / 64 = 2) → b0 % 32 * 64 + b1 % 64 < 128)
    (h2 : b0 / 16 = 14 → (1 < n ∧ b1 / 64 = 2) → (2 < n ∧ b2 / 64 = 2) → ¬ (b0 % 16 * 4096 + b1 % 64 * 64 + b2 % 64 ≥ 2048 ∧ (b0 % 16 * 4096 + b1 % 64 * 64 + b2 % 64 < 55296 ∨ (57344 ≤ b0 % 16 * 4096 + b1 % 64 * 64 + b2 % 64 ∧ b0 % 16 * 4096 + b1 % 64 * 64 + b2 % 64 ≤ 1114111))))
    (h3 : b0 / 8 = 30 → (1 < n ∧ b1 / 64 = 2) → (2 < n ∧ b2 / 64 = 2) → (3 < n ∧ b3 / 64 = 2) → ¬ (b0 % 8 * 262144 + b1 % 64 * 4096 + b2 % 64 * 64 + b3 % 64 ≥ 65536 ∧ (b0 % 8 * 262144 + b1 % 64 * 4096 + b2 % 64 * 64 + b3 % 64 < 55296 ∨ (57344 ≤ b0 % 8 * 262144 + b1 % 64 * 4096 + b2 % 64 * 64 + b3 % 64 ∧ b0 % 8 * 262144 + b1 % 64 * 4096 + b2 % 64 * 64 + b3 % 64 ≤ 1114111)))) :
    Lib.decodeN n b0 b1 b2 b3 = (65533, 1) := by
  unfold Lib.decodeN
  rw [if_neg (by omega)]
  by_cases g1 : b0 / 32 = 6 ∧ (1 < n ∧ b1 / 64 = 2)
  · have := h1 g1.1 g1.2
    rw [if_pos g1, if_neg (by omega)]
  · rw [if_neg g1]
    by_cases g2 : b0 / 16 = 14 ∧ (1 < n ∧ b1 / 64 = 2) ∧ (2 < n ∧ b2 / 64 = 2)
    · rw [if_pos g2, if_neg (h2 g2.1 g2.2.1 g2.2.2)]
    · rw [if_neg g2]
      by_cases g3 : b0 / 8 = 30 ∧ (1 < n ∧ b1 / 64 = 2) ∧ (2 < n ∧ b2 / 64 = 2) ∧ (3 < n ∧ b3 / 64 = 2)
      · rw [if_pos g3, if_neg (h3 g3.1 g3.2.1 g3.2.2.1 g3.2.2.2)]
      · rw [if_neg g3]
/-- what stands at the head -/
def HdR (b0 m v l : Nat) : Prop := (m = 2 ∧ 194 ≤ b0 ∧ b0 < 224 ∧ v = b0 % 32 ∧ l = 128) ∨ (m = 3 ∧ 224 ≤ b0 ∧ b0 < 240 ∧ v = b0 % 16 ∧ l = 2048) ∨ (m = 4 ∧ 240 ≤ b0 ∧ b0 < 245 ∧ v = b0 % 8 ∧ l = 65536)
/-- what is read behind it -/
def TlR (v b1 b2 b3 k y : Nat) : Prop := (k = 1 ∧ y = v) ∨ (k = 2 ∧ b1 / 64 = 2 ∧ y = v * 64 + b1 % 64) ∨ (k = 3 ∧ b1 / 64 = 2 ∧ b2 / 64 = 2 ∧ y = v * 4096 + b1 % 64 * 64 + b2 % 64) ∨ (k = 4 ∧ b1 / 64 = 2 ∧ b2 / 64 = 2 ∧ b3 / 64 = 2 ∧ y = v * 262144 + b1 % 64 * 4096 + b2 % 64 * 64 + b3 % 64)
def nthB (b1 b2 b3 k : Nat) : Nat := if k = 1 then b1 else if k = 2 then b2 else b3
theorem TlR.bound {b0 m v l b1 b2 b3 k y : Nat} (h : HdR b0 m v l) (t : TlR v b1 b2 b3 k y) : y < 16777216 ∧ 1 ≤ k ∧ k ≤ 4 := by
  unfold HdR at h; unfold TlR at t; omega
theorem TlR.next {v b1 b2 b3 k y : Nat} (t : TlR v b1 b2 b3 k y) (h4 : k < 4) (hb : nthB b1 b2 b3 k / 64 = 2) : TlR v b1 b2 b3 (k + 1) (y * 64 + nthB b1 b2 b3 k % 64) := by
  unfold TlR nthB at *
  rcases t with t | t | t | t
  · rw [if_pos t.1] at hb ⊢; omega
  · rw [if_neg (by omega), if_pos t.1] at hb ⊢; omega
  · rw [if_neg (by omega), if_neg (by omega)] at hb ⊢; omega
  · omega
theorem sz_short {b0 m v l n b1 b2 b3 : Nat} (h : HdR b0 m v l) (hn : n < m) : rszN n b0 b1 b2 b3 = 0 := by
  unfold HdR at h
  refine rsz_bad (dec_bad (by omega) (fun _ _ => by omega) (fun _ _ _ => by omega) (fun _ _ _ _ => by omega))
theorem sz_cont {b0 m v l n b1 b2 b3 k y : Nat} (h : HdR b0 m v l) (t : TlR v b1 b2 b3 k y) (hk : k < m) (hb : ¬ nthB b1 b2 b3 k / 64 = 2) : rszN n b0 b1 b2 b3 = 0 := by
  have hb2 : (k = 1 ∧ ¬ b1 / 64 = 2) ∨ (k = 2 ∧ ¬ b2 / 64 = 2) ∨ (k = 3 ∧ ¬ b3 / 64 = 2) := by
    have := t.bound h
    unfold HdR at h
    unfold nthB at hb
    by_cases h1 : k = 1
    · rw [if_pos h1] at hb; exact .inl ⟨h1, hb⟩
    · rw [if_neg h1] at hb
      by_cases h2 : k = 2
      · rw [if_pos h2] at hb; exact .inr (.inl ⟨h2, hb⟩)
      · rw [if_neg h2] at hb; exact .inr (.inr ⟨by omega, hb⟩)
  unfold HdR at h
  clear hb t
  refine rsz_bad (dec_bad (by omega) (fun _ _ => by omega) (fun _ _ _ => by omega) (fun _ _ _ _ => by omega))
theorem sz_range {b0 m v l n b1 b2 b3 y : Nat} (h : HdR b0 m v l) (t : TlR v b1 b2 b3 m y) (hy : y < l ∨ 1114111 < y ∨ (55296 ≤ y ∧ y < 57344)) : rszN n b0 b1 b2 b3 = 0 := by
  unfold HdR at h; unfold TlR at t
  refine rsz_bad (dec_bad (by omega) (fun _ _ => by omega) (fun _ _ _ => by omega) (fun _ _ _ _ => by omega))
theorem sz_good {b0 m v l n b1 b2 b3 y : Nat} (h : HdR b0 m v l) (t : TlR v b1 b2 b3 m y) (hn : m ≤ n) (h1 : l ≤ y) (h2 : y ≤ 1114111) (h3 : y < 55296 ∨ 57344 ≤ y) : rszN n b0 b1 b2 b3 = m := by
  unfold HdR at h; unfold TlR at t
  rcases h with h | h | h
  · obtain ⟨rfl, g1, g2, rfl, rfl⟩ := h
    exact rsz_of (decN2 (by omega) (by omega) (by omega) (by omega)) (by omega)
  · obtain ⟨rfl, g1, g2, rfl, rfl⟩ := h
    exact rsz_of (decN3 (by omega) (by omega) (by omega) (by omega) (by omega) (by omega)) (by omega)
  · obtain ⟨rfl, g1, g2, rfl, rfl⟩ := h
    exact rsz_of (decN4 (by omega) (by omega) (by omega) (by omega) (by omega) (by omega) (by omega)) (by omega)
theorem sz_none {b0 n b1 b2 b3 : Nat} (h0 : 128 ≤ b0) (h : b0 < 194 ∨ 245 ≤ b0) (hb : b0 < 256) : rszN n b0 b1 b2 b3 = 0 :=
  rsz_bad (dec_bad h0 (fun _ _ => by omega) (fun _ _ _ => by omega) (fun _ _ _ _ => by omega))
theorem and_31 (b : Nat) (h : b < 256) : bits .and .i64 (b : Int) 31 = ((b % 32 : Nat) : Int) := by
  have : ∀ b : Fin 256, bits .and .i64 (b.val : Int) 31 = ((b.val % 32 : Nat) : Int) := by decide +kernel
  exact this ⟨b, h⟩
theorem and_15 (b : Nat) (h : b < 256) : bits .and .i64 (b : Int) 15 = ((b % 16 : Nat) : Int) := by
  have : ∀ b : Fin 256, bits .and .i64 (b.val : Int) 15 = ((b.val % 16 : Nat) : Int) := by decide +kernel
  exact this ⟨b, h⟩
theorem and_7 (b : Nat) (h : b < 256) : bits .and .i64 (b : Int) 7 = ((b % 8 : Nat) : Int) := by
  have : ∀ b : Fin 256, bits .and .i64 (b.val : Int) 7 = ((b.val % 8 : Nat) : Int) := by decide +kernel
  exact this ⟨b, h⟩
theorem and_63 (b : Nat) (h : b < 256) : bits .and .i64 (b : Int) 63 = ((b % 64 : Nat) : Int) := by
  have : ∀ b : Fin 256, bits .and .i64 (b.val : Int) 63 = ((b.val % 64 : Nat) : Int) := by decide +kernel
  exact this ⟨b, h⟩
theorem or_64 (y c : Nat) (hy : y < 16777216) (hc : c < 64) : bits .or .i64 ((y : Int) * 64) (c : Int) = ((y * 64 + c : Nat) : Int) := by
  have h1 : (BitVec.ofInt 64 ((y : Int) * 64)).toNat = y * 64 := by
    rw [BitVec.toNat_ofInt]
    omega
  have h2 : (BitVec.ofInt 64 (c : Int)).toNat = c := by
    rw [BitVec.toNat_ofInt]
    omega
  have h3 : (y * 64) ||| c = y * 64 + c := by
    have := Nat.two_pow_add_eq_or_of_lt (i := 6) (b := c) (by omega) y
    rw [show (2 : Nat) ^ 6 = 64 by rfl] at this
    rw [Nat.mul_comm y 64]
    exact this.symm
  show IntKind.i64.wrap (((BitVec.ofInt 64 ((y : Int) * 64) ||| BitVec.ofInt 64 (c : Int)).toNat : Nat) : Int) = _
  rw [BitVec.toNat_or, h1, h2, h3]
  exact IntWalk.i64_in _ (by omega)
theorem nthB_at (s : ByteArray) (i k : Nat) (h1 : 1 ≤ k) (h4 : k < 4) : nthB (byteAt s (i + 1)) (byteAt s (i + 2)) (byteAt s (i + 3)) k = byteAt s (i + k) := by
  unfold nthB
  by_cases e1 : k = 1
  · rw [if_pos e1, e1]
  · rw [if_neg e1]
    by_cases e2 : k = 2
    · rw [if_pos e2, e2]
    · rw [if_neg e2, show k = 3 by omega]
theorem byteAt_lt (s : ByteArray) (k : Nat) : byteAt s k < 256 := UInt8.toNat_lt _
set_option maxRecDepth 100000 in
set_option maxHeartbeats 2000000 in
theorem runeSize_any (s : ByteArray) (i : Nat) (w : World) (hs : s.size ≤ 4000000) (hi : i < s.size) :
    Calls Tryd.prog 9 #[.string s, .int .i64 i] w fun e w' => e = .returned (.int .i64 (rszF s i)) ∧ w = w' := by
  have hR := rszF_eq s i
  obtain ⟨b0, hb0⟩ : ∃ b, byteAt s i = b := ⟨_, rfl⟩
  have hb0l : b0 < 256 := by rw [← hb0]; exact byteAt_lt s i
  have hbs := byteAt_get s i hi
  have hnth := nthB_at s i
  generalize hB1 : byteAt s (i + 1) = B1 at *
  generalize hB2 : byteAt s (i + 2) = B2 at *
  generalize hB3 : byteAt s (i + 3) = B3 at *
  clear hB1 hB2 hB3
  rw [hb0] at hR hbs
  obtain ⟨N, hN⟩ : ∃ N, s.size - i = N := ⟨_, rfl⟩
  rw [hN] at hR
  obtain ⟨R, hRR⟩ : ∃ R, rszF s i = R := ⟨_, rfl⟩
  rw [hRR] at hR ⊢
  have HR := Lib.hid hR; have HNTH := Lib.hid hnth; have HN := Lib.hid hN
  clear hR hnth hRR hb0 hN
  have hidx : ((s[i]'hi).toNat : Int) = (b0 : Int) := by rw [← hbs]
  clear hbs
  have hi0 : ¬ ((i : Int) < 0) := by omega
  have hi1 : (i : Int) < (s.size : Int) := by omega
  by_cases h1 : b0 < 128
  · have hz : R = 1 := by rw [HR.out, rsz_one h1]
    have h1' : (b0 : Int) < 128 := by omega
    subst hz
    go_enter Tryd.func9, Tryd.ntmps9
    go_wp2
    go_ret
    exact ⟨rfl, rfl⟩
  · by_cases h2 : b0 < 194 ∨ 245 ≤ b0
    · have hz : R = 0 := by rw [HR.out, sz_none (by omega) h2 hb0l]
      subst hz
      rcases h2 with h2 | h2
      · go_enter Tryd.func9, Tryd.ntmps9
        go_wp2
        go_ret
        exact ⟨rfl, rfl⟩
      · go_enter Tryd.func9, Tryd.ntmps9
        go_wp2
        go_ret
        exact ⟨rfl, rfl⟩
    · have k1 := and_31 b0 hb0l
      have k2 := and_15 b0 hb0l
      have k3 := and_7 b0 hb0l
      go_enter Tryd.func9, Tryd.ntmps9
      go_upto_block 0 with fail
      go_cut [5, 6, 7] (fun x y z wy => ∃ m v l : Nat, x = .int .i64 v ∧ y = .int .i64 m ∧ z = .int .i64 l ∧ HdR b0 m v l ∧ w = wy)
      case first =>
        by_cases g1 : b0 < 224
        · go_wp2
          go_meet
          exact ⟨2, b0 % 32, 128, rfl, rfl, rfl, by unfold HdR; omega, rfl⟩
        · by_cases g2 : b0 < 240
          · go_wp2
            go_meet
            exact ⟨3, b0 % 16, 2048, rfl, rfl, rfl, by unfold HdR; omega, rfl⟩
          · go_wp2
            go_meet
            exact ⟨4, b0 % 8, 65536, rfl, rfl, rfl, by unfold HdR; omega, rfl⟩
      case rest =>
        obtain ⟨m, v, l, rfl, rfl, rfl, hh, rfl⟩ := hcut
        have hm4 : 2 ≤ m ∧ m ≤ 4 := by unfold HdR at hh; omega
        have HH := Lib.hid hh
        clear hh k1 k2 k3 h1 h2
        by_cases hsh : N < m
        · have hz : R = 0 := by rw [HR.out, sz_short HH.out hsh]
          have hsh2 : (s.size : Int) < (i : Int) + (m : Int) := by have := HN.out; omega
          subst hz
          go_wp2
          go_ret
          exact ⟨rfl, rfl⟩
        · have hsh2 : (i : Int) + (m : Int) ≤ (s.size : Int) := by have := HN.out; omega
          have hsh3 : m ≤ N := by omega
          clear hsh
          have hsd : decide ((s.size : Int) < (i : Int) + (m : Int)) = false := decide_eq_false (by omega)
          go_wp2
          go_loop [5, 8, 9] (fun x y z => ∃ k c : Nat, 1 ≤ k ∧ k ≤ m ∧ x = .int .i64 c ∧ y = .int .i64 k ∧ Hid (TlR v B1 B2 B3 k c)) (fun _ y _ => m - (intOf y).toNat)
          case atStart => exact ⟨1, v, by omega, by omega, rfl, rfl, Lib.hid (.inl ⟨rfl, rfl⟩)⟩
          case round =>
            obtain ⟨k, c, hk1, hkm, rfl, rfl, ht⟩ := hrel
            have hcb := (ht.out.bound HH.out).1
            by_cases hlt : k < m
            · have hlti : (k : Int) < (m : Int) := by omega
              have hik : i + k < s.size := by omega
              have hbs := byteAt_get s (i + k) hik
              have hnb := HNTH.out k hk1 (by omega)
              have hbl := byteAt_lt s (i + k)
              obtain ⟨b, hb⟩ : ∃ b, byteAt s (i + k) = b := ⟨_, rfl⟩
              rw [hb] at hbs hnb hbl
              have hidx2 : ((s[i + k]'hik).toNat : Int) = (b : Int) := by rw [← hbs]
              clear hbs hb
              by_cases hcn : b / 64 = 2
              · have j1 : ¬ ((b : Int) < 128) := by omega
                have j2 : ¬ ((191 : Int) < (b : Int)) := by omega
                have j3 := and_63 b hbl
                have j4 : bits .or .i64 ((c : Int) * 64) ((b : Int) % 64) = ((c * 64 + b % 64 : Nat) : Int) := by
                  have := or_64 c (b % 64) hcb (by omega)
                  rw [show ((b % 64 : Nat) : Int) = (b : Int) % 64 by omega] at this
                  exact this
                have j5 : IntKind.i64.wrap ((c : Int) * 64) = (c : Int) * 64 := IntWalk.i64_in _ (by omega)
                have ht2 := ht.out.next (by omega) (by rw [hnb]; exact hcn)
                rw [hnb] at ht2
                have HT2 := Lib.hid ht2
                clear ht2 ht hnb
                go_wp2
                go_round
                case rel => exact ⟨k + 1, c * 64 + b % 64, by omega, by omega, by first | rfl | go_num, by go_num, HT2⟩
                case measure => simp [intOf]; omega
              · have hz : R = 0 := by rw [HR.out, sz_cont HH.out ht.out hlt (by rw [hnb]; exact hcn)]
                subst hz
                clear hnb
                by_cases j1 : b < 128
                · have j1' : (b : Int) < 128 := by omega
                  go_wp2
                  go_ret
                  exact ⟨rfl, rfl⟩
                · have j1' : ¬ ((b : Int) < 128) := by omega
                  have j2 : (191 : Int) < (b : Int) := by omega
                  go_wp2
                  go_ret
                  exact ⟨rfl, rfl⟩
            · obtain rfl : k = m := by omega
              have hgood := fun g1 g2 g3 => sz_good HH.out ht.out hsh3 g1 g2 g3
              have hbad := fun g => sz_range (n := N) HH.out ht.out g
              rw [← HR.out] at hgood hbad
              have HGOOD := Lib.hid hgood; have HBAD := Lib.hid hbad
              clear hgood hbad ht HR HNTH
              by_cases r1 : c < l
              · have hz : R = 0 := HBAD.out (.inl r1)
                have r1' : (c : Int) < (l : Int) := by omega
                subst hz
                go_wp2
                go_ret
                exact ⟨rfl, rfl⟩
              · have r1' : ¬ ((c : Int) < (l : Int)) := by omega
                by_cases r2 : 1114111 < c
                · have hz : R = 0 := HBAD.out (.inr (.inl r2))
                  have r2' : (1114111 : Int) < (c : Int) := by omega
                  subst hz
                  go_wp2
                  go_ret
                  exact ⟨rfl, rfl⟩
                · have r2' : ¬ ((1114111 : Int) < (c : Int)) := by omega
                  by_cases r3 : 55296 ≤ c
                  · have r3' : (55296 : Int) ≤ (c : Int) := by omega
                    by_cases r4 : c < 57344
                    · have hz : R = 0 := HBAD.out (.inr (.inr ⟨r3, r4⟩))
                      have r4' : (c : Int) < 57344 := by omega
                      subst hz
                      go_wp2
                      go_ret
                      exact ⟨rfl, rfl⟩
                    · have hz : R = k := HGOOD.out (by omega) (by omega) (.inr (by omega))
                      have r4' : ¬ ((c : Int) < 57344) := by omega
                      have HZ := Lib.hid hz; clear hz
                      go_wp2
                      go_ret
                      exact ⟨by rw [HZ.out]; rfl, rfl⟩
                  · have hz : R = k := HGOOD.out (by omega) (by omega) (.inl (by omega))
                    have r3' : ¬ ((55296 : Int) ≤ (c : Int)) := by omega
                    have HZ := Lib.hid hz; clear hz
                    go_wp2
                    go_ret
                    exact ⟨by rw [HZ.out]; rfl, rfl⟩
/-- the value of WellFormed -/
theorem wfL_step {s : ByteArray} {f i : Nat} (h : i < s.size) : wfL s (f + 1) i = if rszF s i = 0 then false else wfL s f (i + rszF s i) := by
  have hp := Lib.decode_width_pos s i h
  simp only [wfL]
  rw [if_pos h]
  unfold rszF
  by_cases hb : (Utf8.decode s i).1 = 65533 ∧ (Utf8.decode s i).2 = 1
  · rw [if_pos hb, if_pos hb, if_pos rfl]
  · rw [if_neg hb, if_neg hb, if_neg (by omega)]
theorem rszF_le (s : ByteArray) (i : Nat) : rszF s i ≤ 4 := by
  unfold rszF
  rw [Lib.decode_at]
  rcases Lib.decodeN_shape (s.size - i) (s.get! i).toNat (s.get! (i + 1)).toNat (s.get! (i + 2)).toNat (s.get! (i + 3)).toNat with ⟨c, e⟩ | ⟨c1, c2, c3, cv, e⟩ | ⟨c1, c2, c3, c4, cv, cs, e⟩ | ⟨c1, c2, c3, c4, c5, cv, cw, e⟩ | e
  all_goals
    rw [e]
    split
    · omega
    · simp only; omega
set_option maxRecDepth 100000 in
theorem wellFormed_any (s : ByteArray) (w : World) (hs : s.size ≤ 4000000) :
    Calls Tryd.prog 5 #[.string s] w fun e w' => e = .returned (.bool (wfB s)) ∧ w = w' := by
  have HZ := Lib.hid (fun i W (hi : i < s.size) => runeSize_any s i W hs hi)
  have hst := fun f i (h : i < s.size) => wfL_step (s := s) (f := f) h
  have hle := fun i => rszF_le s i
  have hen := fun f i (h : ¬ i < s.size) => wfL_end s f i h
  have HST := Lib.hid hst; have HLE := Lib.hid hle; have HEN := Lib.hid hen; clear hst hle hen
  obtain ⟨b, hb⟩ : ∃ b, wfB s = b := ⟨_, rfl⟩
  rw [hb]
  have HB := Lib.hid hb; clear hb
  go_enter Tryd.func5, Tryd.ntmps5
  go_wp2
  go_loop [3, 4] (fun x _ => ∃ i f : Nat, x = .int .i64 i ∧ i ≤ 8000000 ∧ s.size ≤ i + f ∧ Hid (wfL s f i = b)) (fun x _ => s.size - (intOf x).toNat)
  case atStart => exact ⟨0, s.size, rfl, by omega, by omega, Lib.hid HB.out⟩
  case round =>
    obtain ⟨i, f, rfl, hib, hf, hw⟩ := hrel
    by_cases hi : i < s.size
    · obtain ⟨f, rfl⟩ : ∃ g, f = g + 1 := ⟨f - 1, by omega⟩
      have h1 := HST.out f i hi
      rw [hw.out] at h1
      have hzz := HZ.out i
      have hl := HLE.out i
      have hi' : (i : Int) < (s.size : Int) := by omega
      generalize rszF s i = z at *
      have HZZ := Lib.hid hzz
      clear hzz hw
      go_wp2_with fail
      refine (HZZ.out _ hi).mono ?_
      rintro e w1 ⟨rfl, rfl⟩
      by_cases hz : z = 0
      · subst hz
        rw [if_pos rfl] at h1
        subst h1
        go_wp2
        go_ret
        exact ⟨rfl, rfl⟩
      · rw [if_neg hz] at h1
        have H1 := Lib.hid h1.symm
        have hz2 : ((z : Int) == 0) = false := by simp; omega
        clear h1
        go_wp2
        go_round
        case rel => exact ⟨i + z, f, by go_num, by omega, by omega, H1⟩
        case measure => simp [intOf]; omega
    · have h1 := HEN.out f i hi
      rw [hw.out] at h1
      subst h1
      clear hw
      have hi' : ¬ ((i : Int) < (s.size : Int)) := by omega
      go_wp2
      go_ret
      exact ⟨rfl, rfl⟩
end Go.Proofs.YtgjbagojcbondaaDoor
