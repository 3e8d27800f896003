/-
  The walk of spec.MergeOf: at most 3000000 edits each.
-/
import Derived.Test.YtpbmjnjcjjombaaSortedW
import Derived.Test.YtpbmjnjcjjombaaImplM
namespace Go.Proofs.Ytpbmjnjcjjombaa
set_option linter.unusedVariables false
open Go.RowKit

theorem run_eql_S (w : World) (s e s' e' : Int) (n n' : ByteArray) (b : Bool) (h : edEqB ⟨s, e, n⟩ ⟨s', e', n'⟩ = b) :
    (binOp .eql 41 (.agg #[.int .i64 s, .int .i64 e, .string n]) (.agg #[.int .i64 s', .int .i64 e', .string n'])).run Try.prog w = .ok (.bool b) w := by
  rw [← h]
  by_cases hs : s = s'
  · by_cases he : e = e'
    · by_cases hn : n.toList = n'.toList
      · simp [go_sem, edEqB, hs, he, hn]
      · simp [go_sem, edEqB, hs, he, hn]
    · simp [go_sem, edEqB, hs, he]
  · simp [go_sem, edEqB, hs]
/-- the list behind k edits of the second -/
def mofK (xs ys : List Ed) (k : Nat) : List Ed := xs ++ (ys.take k).filter fun e => !xs.any fun d => edEqB d e

/-- what spec.MergeOf returns -/
def mofR (xs ys : List Ed) : Option (List Ed) := if mofB xs ys = true then some (sortE (mofL xs ys)) else none

set_option maxRecDepth 100000 in
set_option maxHeartbeats 2000000 in
theorem mergeOf_any (A B : Option Addr) (c d : Nat) (xs ys : List Ed) (w : World) (hx : EdsR w A xs) (hy : EdsR w B ys) (hl : xs.length ≤ 3000000) (hm : ys.length ≤ 3000000) :
   Calls Try.prog 21 #[.slice A xs.length c, .slice B ys.length d] w (MergeOut (mofR xs ys) w) := by
  obtain ⟨i0, hi, hz0, hz1, hz2⟩ := info_parts infoE
  have hxc := edCells_length xs
  have HX := Lib.hid hx; clear hx
  have HY := Lib.hid hy; clear hy
  have HXC := Lib.hid hxc; clear hxc
  obtain ⟨n, hln⟩ : ∃ n, xs.length = n := ⟨_, rfl⟩
  obtain ⟨m, hlm⟩ : ∃ n, ys.length = n := ⟨_, rfl⟩
  rw [hln] at hl ⊢
  rw [hlm] at hm ⊢
  have LX := Lib.hid hln; clear hln
  have HXC' : (edCells xs).length = n * 3 := by rw [HXC.out, LX.out]
  have LY := Lib.hid hlm; clear hlm
  go_enter Try.func21, Try.ntmps21
  go_wp2_with (at_builtin; refine wpList_append_any _ rfl (.tmp 12) (.tmp 13) _ rfl w.heap.size 41 i0 _ 3 32 Try.underlying32 hi hz0 hz1 hz2 rfl (by omega) (.slice (some ⟨w.heap.size, 0, none⟩) 0 0) 0 [] rfl (World.ownsRow_made w #[] 0 (Nat.le_refl _) (by simp [maxLen]) rfl) A n c (edCells xs) rfl (HX.out.alloc _) HXC' (edCells_one _) (by unfold maxLen; omega) (by omega) (by simp) ?_; intro A5 c5 w5 hown5 hg5 hat5)
  simp only [Nat.zero_add, List.nil_append] at hown5 ⊢
  have HO5 := Lib.hid hown5; clear hown5
  have HB5 := Lib.hid (((Below.refl w.heap.size w).alloc (Nat.le_refl _) (.cells #[] 41)).grown hg5 (by simp) (by simp [Value.ownBlock]))
  clear hg5 hat5
  go_loopg [6, 17] m (fun q v i wr => ∃ k : Nat, q = m - k ∧ k ≤ m ∧ i = .int .i64 k ∧ (∀ j, j < k → ∀ l, l < n → edEqB (edAt xs l) (edAt ys j) = false → overlapB (edAt xs l) (edAt ys j) = false) ∧ wr.ownsRow w.heap.size 41 3 v (mofK xs ys k).length (edCells (mofK xs ys k)) ∧ Below w.heap.size w wr)
  case atStart => exact ⟨0, by omega, by omega, rfl, fun j hj => by omega, by have := LX.out; subst this; simpa [mofK] using HO5.out, HB5.out⟩
  case round =>
    obtain ⟨k, hq, hk, rfl, hall, hown, hb⟩ := hrel
    have HQ := Lib.hid hq; clear hq
    have HALL := Lib.hid hall; clear hall
    by_cases hlt : k < m
    · obtain ⟨b, off, rfl, hbb, g1, g2, g3⟩ := (EdsR.below HY.out hb (Nat.le_refl _)).at_ (k := k) (by rw [LY.out]; exact hlt)
      have hbs := hb.size
      obtain ⟨A3, c3, rfl⟩ := own_form hown
      generalize hE : edAt ys k = E at *
      have hE1 : eS ys k = E.s := by rw [← hE]; rfl
      have hE2 : eE ys k = E.e := by rw [← hE]; rfl
      have hE3 : eN ys k = E.n := by rw [← hE]; rfl
      rw [hE1] at g1
      rw [hE2] at g2
      rw [hE3] at g3
      have HE := Lib.hid hE; clear hE
      clear hE1 hE2 hE3
      have hbk := Blk.new wr 41 #[.int .i64 E.s, .int .i64 E.e, .string E.n]
      have HBK := Lib.hid hbk; clear hbk
      have HO := Lib.hid (hown.alloc (.cells #[.int .i64 E.s, .int .i64 E.e, .string E.n] 41)); clear hown
      have HB := Lib.hid (hb.alloc hbs (.cells #[.int .i64 E.s, .int .i64 E.e, .string E.n] 41)); clear hb
      have hwsz : wr.heap.size < (wr.alloc (.cells #[.int .i64 E.s, .int .i64 E.e, .string E.n] 41)).heap.size := by simp
      go_wp2
      generalize hW0 : wr.alloc (.cells #[.int .i64 E.s, .int .i64 E.e, .string E.n] 41) = W0 at *
      clear hW0
      generalize hbx : wr.heap.size = bx at *
      clear hbx
      go_loopg [9, 23] n (fun q v i wi => ∃ p : Nat, q = n - p ∧ p ≤ n ∧ i = .int .i64 p ∧ v = .bool ((xs.take p).any fun d => edEqB d E) ∧ (∀ l, l < p → edEqB (edAt xs l) E = false → overlapB (edAt xs l) E = false) ∧ Below W0.heap.size W0 wi)
      case atStart => exact ⟨0, by omega, by omega, rfl, rfl, fun l hl => by omega, Below.refl _ _⟩
      case round =>
        obtain ⟨p, hqp, hpk, rfl, rfl, hall, hbi⟩ := hrel
        have HQP := Lib.hid hqp; clear hqp
        have HALL2 := Lib.hid hall; clear hall
        have hbis := hbi.size
        by_cases hlt2 : p < n
        · have HBI := Lib.hid (HB.out.trans (hbi.mono HB.out.size))
          obtain ⟨b', off', rfl, hbb', f1, f2, f3⟩ := (EdsR.below HX.out HBI.out (Nat.le_refl _)).at_ (k := p) (by rw [LX.out]; exact hlt2)
          have hbk := HBK.out.below hbi hwsz
          have b0 : wr.cell? ⟨bx, 0, none⟩ = some (.int .i64 E.s) := hbk.cell 0
          have b1 : wr.cell? ⟨bx, 1, none⟩ = some (.int .i64 E.e) := hbk.cell 1
          have b2 : wr.cell? ⟨bx, 2, none⟩ = some (.string E.n) := hbk.cell 2
          have hbxw : bx < wr.heap.size := by omega
          have HBK2 := Lib.hid hbk; clear hbk
          generalize hF : edAt xs p = F at *
          have hF1 : eS xs p = F.s := by rw [← hF]; rfl
          have hF2 : eE xs p = F.e := by rw [← hF]; rfl
          have hF3 : eN xs p = F.n := by rw [← hF]; rfl
          rw [hF1] at f1
          rw [hF2] at f2
          rw [hF3] at f3
          clear hF1 hF2 hF3
          have htk := take_snoc_ed xs p (by rw [LX.out]; exact hlt2)
          rw [hF] at htk
          have HTK := Lib.hid htk; clear htk
          have HF := Lib.hid hF; clear hF
          have HBI2 := Lib.hid hbi; clear hbi
          have hws : W0.heap.size ≤ wr.heap.size := hbis
          have hwz : w.heap.size ≤ W0.heap.size := HB.out.size
          cases heq : edEqB F E with
          | true =>
            have hq := fun w => run_eql_S w F.s F.e E.s E.e F.n E.n true heq
            have HEQ := Lib.hid heq; clear heq
            go_wp2
            go_roundg (n - (p + 1))
            case measure => have := HQP.out; omega
            case rel => exact ⟨p + 1, rfl, by omega, by go_num, by rw [HTK.out]; simp [HEQ.out], fun l hl hne => by
              by_cases hlp : l = p
              · subst hlp
                have := HF.out
                rw [this, HEQ.out] at hne
                cases hne
              · exact HALL2.out l (by omega) hne, HBI2.out.alloc hbis _⟩
          | false =>
            have hq := fun w => run_eql_S w F.s F.e E.s E.e F.n E.n false heq
            have HEQ := Lib.hid heq; clear heq
            have hov := fun w => overlap_any F E w
            cases hoo : overlapB F E with
            | true =>
              have HOO := Lib.hid hoo; clear hoo
              rw [HOO.out] at hov
              have HOV := Lib.hid hov; clear hov
              go_wp2_with fail
              refine (HOV.out _).mono ?_
              rintro e w4 ⟨rfl, hb4⟩
              have HB4 := Lib.hid (HBI.out.trans (((Below.refl _ _).alloc (Nat.le_refl _) (.cells #[.int .i64 F.s, .int .i64 F.e, .string F.n] 41)).trans (hb4.mono (by simp)) |>.mono (by omega)))
              clear hb4
              go_wp2
              go_ret2
              have hno : mofR xs ys = none := by
                unfold mofR
                rw [if_neg]
                intro h
                unfold mofB at h
                have h1 := List.all_eq_true.1 h E (by rw [← HE.out, edAt_get (by rw [LY.out]; exact hlt)]; exact List.getElem_mem _)
                have h2 := List.all_eq_true.1 h1 F (by rw [← HF.out, edAt_get (by rw [LX.out]; exact hlt2)]; exact List.getElem_mem _)
                rw [HEQ.out, HOO.out] at h2
                simp at h2
              rw [hno]
              exact ⟨_, _, rfl, World.ownsRow_made w4 #[] 0 HB4.out.size (by simp [maxLen]) rfl, HB4.out.alloc HB4.out.size _⟩
            | false =>
              have HOO := Lib.hid hoo; clear hoo
              rw [HOO.out] at hov
              have HOV := Lib.hid hov; clear hov
              go_wp2_with fail
              refine (HOV.out _).mono ?_
              rintro e w4 ⟨rfl, hb4⟩
              have HB4 := Lib.hid (HBI2.out.trans (((Below.refl _ _).alloc (Nat.le_refl _) (.cells #[.int .i64 F.s, .int .i64 F.e, .string F.n] 41)).trans (hb4.mono (by simp)) |>.mono hbis))
              clear hb4
              go_wp2
              go_roundg (n - (p + 1))
              case measure => have := HQP.out; omega
              case rel => exact ⟨p + 1, rfl, by omega, by go_num, by rw [HTK.out]; simp [HEQ.out], fun l hl hne => by
                by_cases hlp : l = p
                · subst hlp
                  have := HF.out
                  rw [this]
                  exact HOO.out
                · exact HALL2.out l (by omega) hne, HB4.out⟩
        · have hpn : p = n := by omega
          subst hpn
          have HBI := Lib.hid (HB.out.trans (hbi.mono HB.out.size))
          have hbk := HBK.out.below hbi hwsz
          have b0 : wr.cell? ⟨bx, 0, none⟩ = some (.int .i64 E.s) := hbk.cell 0
          have b1 : wr.cell? ⟨bx, 1, none⟩ = some (.int .i64 E.e) := hbk.cell 1
          have b2 : wr.cell? ⟨bx, 2, none⟩ = some (.string E.n) := hbk.cell 2
          clear hbk
          have hox := own_keepS HO.out hbi (Nat.le_refl _)
          have HOX := Lib.hid hox; clear hox
          have HBI2 := Lib.hid hbi; clear hbi
          have htx : xs.take p = xs := by rw [← LX.out, List.take_length]
          rw [htx]
          have HTX := Lib.hid htx; clear htx
          have hall' : ∀ j, j < k + 1 → ∀ l, l < p → edEqB (edAt xs l) (edAt ys j) = false → overlapB (edAt xs l) (edAt ys j) = false := fun j hj l hl hne => by
            by_cases hjk : j = k
            · subst hjk
              have h1 := HE.out
              rw [h1] at hne ⊢
              exact HALL2.out l hl hne
            · exact HALL.out j (by omega) l hl hne
          have HALL3 := Lib.hid hall'; clear hall'
          have htk := take_snoc_ed ys k (by rw [LY.out]; exact hlt)
          rw [HE.out] at htk
          have HTK := Lib.hid htk; clear htk
          have hxl := LX.out
          have hlen : (mofK xs ys k).length ≤ 6000000 := by
            have h1 := List.length_filter_le (fun e => !xs.any fun d => edEqB d e) (ys.take k)
            have h2 := LY.out
            simp only [mofK, List.length_append, List.length_take] at h1 ⊢
            omega
          cases hsm : (xs.any fun d => edEqB d E) with
          | true =>
            have hmk : mofK xs ys (k + 1) = mofK xs ys k := by
              unfold mofK
              rw [HTK.out, List.filter_append]
              simp [hsm]
            have HMK := Lib.hid hmk; clear hmk hsm
            go_wp2
            go_roundg (m - (k + 1))
            case measure => have := HQ.out; omega
            case rel => exact ⟨k + 1, rfl, by omega, by go_num, HALL3.out, by rw [HMK.out]; exact HOX.out, HBI.out⟩
          | false =>
            have hmk : mofK xs ys (k + 1) = mofK xs ys k ++ [E] := by
              unfold mofK
              rw [HTK.out, List.filter_append]
              simp [hsm]
            have HMK := Lib.hid hmk; clear hmk hsm
            have hcs : edCells (mofK xs ys k ++ [E]) = edCells (mofK xs ys k) ++ E.cells := by rw [edCells_append, edCells_cons, edCells_nil, List.append_nil]
            have HCS := Lib.hid hcs; clear hcs
            generalize hMM : mofK xs ys k = M at *
            clear hMM
            generalize hN : M.length = N at *
            have HN := Lib.hid hN; clear hN
            have hws : W0.heap.size ≤ wr.heap.size := hbis
            have hwz : w.heap.size ≤ W0.heap.size := HB.out.size
            go_wp2_with (at_builtin; refine wpList_append_any _ rfl (.tmp 37) (.tmp 39) _ rfl w.heap.size 41 i0 _ 3 32 Try.underlying32 hi hz0 hz1 hz2 rfl (by omega) (.slice A3 N c3) N (edCells M) rfl (HOX.out.alloc _) (some ⟨wr.heap.size, 0, none⟩) 1 1 E.cells rfl (cells_lit3 wr 41 E) rfl (edCells1 _) (by unfold maxLen; omega) (by omega) (by simp; omega) ?_; intro A5 c5 w5 hown5 hg5 hat5)
            have HOK := Lib.hid hown5; clear hown5
            have HBK5 := Lib.hid ((HBI.out.alloc (by omega) (.cells #[.int .i64 E.s, .int .i64 E.e, .string E.n] 41)).grown hg5 (by simp; omega) (fun q h => (HOX.out.lt q h).1))
            clear hg5 hat5
            go_wp2
            go_roundg (m - (k + 1))
            case measure => have := HQ.out; omega
            case rel => exact ⟨k + 1, rfl, by omega, by go_num, HALL3.out, by rw [HMK.out, HCS.out, List.length_append, HN.out]; exact HOK.out, HBK5.out⟩
    · have hkm : k = m := by omega
      subst hkm
      obtain ⟨A3, c3, rfl⟩ := own_form hown
      have htk : mofK xs ys k = mofL xs ys := by
        unfold mofK mofL
        rw [← LY.out, List.take_length]
      rw [htk] at hown ⊢
      have hlen : (mofL xs ys).length ≤ 6000000 := by
        have h1 := List.length_filter_le (fun e => !xs.any fun d => edEqB d e) ys
        have h2 := LY.out
        have h3 := LX.out
        simp only [mofL, List.length_append] at h1 ⊢
        omega
      have hso := sorted_any A3 c3 (mofL xs ys) wr (CellsR.of_own hown) (by omega)
      have HSO := Lib.hid hso; clear hso hown
      have HB := Lib.hid hb; clear hb
      have hR : mofR xs ys = some (sortE (mofL xs ys)) := by
        unfold mofR
        rw [if_pos]
        unfold mofB
        refine List.all_eq_true.2 fun e he => List.all_eq_true.2 fun d hd => ?_
        obtain ⟨j, hj, rfl⟩ := List.mem_iff_getElem.1 he
        obtain ⟨l, hl2, rfl⟩ := List.mem_iff_getElem.1 hd
        have := HALL.out j (by have := LY.out; omega) l (by have := LX.out; omega)
        rw [edAt_get hj, edAt_get hl2] at this
        cases h1 : edEqB xs[l] ys[j]
        · rw [this h1]; rfl
        · rfl
      have HRR := Lib.hid hR; clear hR
      have hsl : (sortE (mofL xs ys)).length = (mofL xs ys).length := by
        have := srt_len (mofL xs ys) (mofL xs ys).length (Nat.le_refl _)
        unfold srt at this
        rwa [List.take_length] at this
      have HSL := Lib.hid hsl; clear hsl
      go_wp2_with fail
      refine HSO.out.mono ?_
      rintro e w4 ⟨A4, c4, rfl, ho4, hb4⟩
      have HO4 := Lib.hid ho4; clear ho4
      go_wp2
      go_ret2
      rw [HRR.out]
      exact ⟨A4, c4, by simp [HSL.out], by simp only [Option.getD_some]; rw [HSL.out]; exact own_mono HO4.out HB.out.size, HB.out.trans (hb4.mono HB.out.size)⟩
end Go.Proofs.Ytpbmjnjcjjombaa
