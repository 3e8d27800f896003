/-
  The walk of laws.FnMergeSplit: it returns true. No condition.
-/
import Derived.Test.YtpbmjnjcjjombaaLMergeAlone
import Derived.Test.YtpbmjnjcjjombaaMergeQ
import Derived.Deep.RegionHeld3
import Derived.Deep.LoopGhost
import Derived.IntWalk
namespace Go.Proofs.Ytpbmjnjcjjombaa
set_option linter.unusedVariables false
open Go.RowKit

theorem pick_snoc (l : List Ed) (x : Ed) (bs : List Bool) :
    pick (l ++ [x]) bs = if bs.getD l.length false = true then ((pick l bs).1 ++ [x], (pick l bs).2) else ((pick l bs).1, (pick l bs).2 ++ [x]) := by
  induction l generalizing bs with
  | nil => cases bs <;> simp [pick]
  | cons y l ih =>
    cases bs with
    | nil =>
      have := ih []
      simp only [List.getD_nil, Bool.false_eq_true, if_false] at this
      rw [List.cons_append, pick, this]
      simp [pick]
    | cons b bs =>
      have := ih bs
      simp only [List.cons_append, pick, List.length_cons, List.getD_cons_succ]
      rw [this]
      generalize bs.getD l.length false = g
      cases b <;> cases g <;> simp

theorem pick_len (l : List Ed) (bs : List Bool) : (pick l bs).1.length + (pick l bs).2.length = l.length := by
  induction l generalizing bs with
  | nil => cases bs <;> simp [pick]
  | cons y l ih =>
    cases bs with
    | nil =>
      have := ih []
      simp only [pick, List.length_cons]
      omega
    | cons b bs =>
      have := ih bs
      cases b <;> simp [pick] <;> omega
theorem own_apart {w w' : World} {base2 e size n1 n2 c1 : Nat} {v : Value} {A1 A' : Option Addr} {n c' : Nat} {ys : List Value} (h2 : w.ownsRow base2 e size v n2 ys)
    (hd : ∀ g, (Value.slice A1 n1 c1).ownBlock = some g → v.ownBlock ≠ some g) (hg : w.grownBy w' (Value.slice A1 n1 c1).ownBlock)
    (ha : (Value.slice A' n c').ownBlock = (Value.slice A1 n1 c1).ownBlock ∨ (Value.slice A' n c').ownBlock = some w.heap.size) :
    w'.ownsRow base2 e size v n2 ys ∧ (∀ g, (Value.slice A' n c').ownBlock = some g → v.ownBlock ≠ some g) := by
  refine ⟨h2.kept hg ?_, ?_⟩
  · cases hv : v.ownBlock with
    | none => exact .inl rfl
    | some g => exact .inr fun h => hd g h.symm hv
  · intro g hA hv
    rcases ha with ha | ha
    · exact hd g (ha.symm.trans hA) hv
    · rw [ha] at hA
      cases hA
      have := h2.lt _ hv
      omega

theorem CellsR.bool_at {w : World} {A : Option Addr} {bs : List Bool} (h : CellsR w A (bs.map Value.bool)) {k : Nat} (hk : k < bs.length) :
    ∃ b off, A = some ⟨b, off, none⟩ ∧ b < w.heap.size ∧ w.cell? ⟨b, off + k, none⟩ = some (.bool (bs.getD k false)) := by
  have g1 : (bs.map Value.bool)[k]? = some (.bool (bs.getD k false)) := by simp [hk]
  rcases h with h | ⟨b, off, hA, hc⟩
  · rw [h] at g1; simp at g1
  · exact ⟨b, off, hA, World.block_lt_of_cell? _ _ (hc _ _ g1), hc _ _ g1⟩

set_option maxRecDepth 100000 in
set_option maxHeartbeats 1000000 in
theorem FnMergeSplit_walk (a0 : Int) (A : Option Addr) (c : Nat) (es : List Ed) (B : Option Addr) (d : Nat) (bs : List Bool) (w : World) (_ : (Lit.int .i64 a0).wf = true)
    (hr : EdsR w A es) (hl : es.length ≤ maxLen) (hw : ∀ k, k < es.length → (Lit.int .i64 (eS es k)).wf = true ∧ (Lit.int .i64 (eE es k)).wf = true ∧ (eN es k).size ≤ maxLen)
    (hr' : CellsR w B (bs.map Value.bool)) (hl' : bs.length ≤ maxLen) :
   Calls Try.prog 9 #[.int .i64 a0, .slice A es.length c, .slice B bs.length d] w fun e w' => e = .returned (.bool true) ∧ Below w.heap.size w w' := by
  obtain ⟨i0, hi, hz0, hz1, hz2⟩ := info_parts infoE
  have h1 := zzFits1_any A c es w hr hl (fun k hk => (hw k hk).2.2)
  have h2 := fun w1 (hb : Below w.heap.size w w1) => sizeOfEdits_any A c es w1 (hr.below hb (Nat.le_refl _)) hl (fun k hk => (hw k hk).2.2)
  have HR := Lib.hid hr; clear hr
  have HR' := Lib.hid hr'; clear hr'
  have H1 := Lib.hid h1; clear h1
  have H2 := Lib.hid h2; clear h2
  have ht := fun A c w' x y (h : IntsR .i64 w' A [x, y]) => tooLong_any A c [x, y] w' h (by simp)
  have HT := Lib.hid ht; clear ht hw
  unfold maxLen at hl'
  obtain ⟨m, hm⟩ : ∃ m, bs.length = m := ⟨_, rfl⟩
  rw [hm] at hl' ⊢
  have LB := Lib.hid hm; clear hm
  go_enter Try.func9, Try.ntmps9
  go_wp2_with fail
  refine H1.out.mono ?_
  rintro e w1 ⟨⟨b, rfl⟩, hb1⟩
  cases b
  · go_wp2
    go_ret
    exact ⟨rfl, hb1⟩
  · by_cases hbm : 2147483647 < m
    · go_wp2
      go_ret
      exact ⟨rfl, hb1⟩
    · go_wp2_with fail
      refine (H2.out _ hb1).mono ?_
      rintro e w2 ⟨rfl, hb2⟩
      have hb2' := hb1.trans (hb2.mono hb1.size)
      have hs := szR_nonneg es
      go_wp2_with fail
      refine (HT.out _ _ _ (szR es) m (IntsR.lit2 _ _ _ _ _) (by simp; omega)).mono ?_
      rintro e w5 ⟨rfl, rfl⟩
      have hb5 : Below w.heap.size w (w2.alloc (.cells #[.int .i64 (szR es), .int .i64 (m : Int)] 3)) := hb2'.alloc hb2'.size _
      have hsum : sumI [szR es, (m : Int)] = szR es + m := by simp [sumI]
      by_cases hbig : 1000000 < szR es + m
      · have hd : decide (1000000 < sumI [szR es, (m : Int)]) = true := by rw [hsum]; simp; omega
        rw [hd]
        have HB := Lib.hid hb5
        clear hd hsum hs hb1 hb2 hb2' hb5
        go_wp2
        go_ret
        exact ⟨rfl, HB.out⟩
      · have hd : decide (1000000 < sumI [szR es, (m : Int)]) = false := by rw [hsum]; simp; omega
        rw [hd]
        have hlen : es.length ≤ 1000000 := Nat.le_trans (len_le_szE es) (szR_le (by omega))
        have hmm : m ≤ 1000000 := by omega
        have hb5' := hb5
        generalize w2.alloc (.cells #[.int .i64 (szR es), .int .i64 (m : Int)] 3) = W at *
        have HB := Lib.hid hb5
        clear hd hsum hs hb1 hb2 hb2' hb5 hb5' hbig H1 H2 HT hbm hl hl'
        have hM0 := implMerge_any none none 0 0 [] [] W (.inl rfl) (.inl rfl) (by simp) (by simp)
        have HM0 := Lib.hid hM0
        rw [mg_nil_left] at HM0
        clear hM0
        go_wp2_with fail
        refine HM0.out.mono ?_
        rintro e w7 ⟨A7, c7, rfl, ho7, hb7⟩
        simp only [Option.getD_some, List.length_nil, Option.isSome_some]
        have hb7' := HB.out.trans (hb7.mono HB.out.size)
        have HB7 := Lib.hid hb7'
        clear hb7 hb7' ho7 HM0
        have ha := apart_any A c es a0 w7 (HR.out.below HB7.out (Nat.le_refl _)) (by omega)
        have HA := Lib.hid ha; clear ha
        cases hap : apartF a0 (-1) es with
        | false =>
          rw [hap] at HA
          have HAP := Lib.hid hap; clear hap
          go_wp2_with fail
          refine HA.out.mono ?_
          rintro e w8 ⟨rfl, hb8⟩
          have HB8 := Lib.hid (HB7.out.trans (hb8.mono HB7.out.size))
          clear hb8
          go_wp2
          go_ret
          exact ⟨rfl, HB8.out⟩
        | true =>
          rw [hap] at HA
          have HAP := Lib.hid hap; clear hap
          obtain ⟨n, hn⟩ : ∃ n, es.length = n := ⟨_, rfl⟩
          rw [hn] at hlen ⊢
          rw [hn] at HA
          have LN := Lib.hid hn; clear hn
          go_wp2_with fail
          refine HA.out.mono ?_
          rintro e w8 ⟨rfl, hb8⟩
          have HB8 := Lib.hid (HB7.out.trans (hb8.mono HB7.out.size))
          clear hb8
          go_wp2
          have hmade1 := (World.ownsRow_made w8 (e := 41) (size := 3) #[] 0 (Nat.le_refl w8.heap.size) (by simp [maxLen]) rfl).alloc (.cells #[] 41)
          have HM1 := Lib.hid hmade1; clear hmade1
          have hmade2 := World.ownsRow_made (w8.alloc (.cells #[] 41)) (e := 41) (size := 3) #[] 0 (base := w8.heap.size) (by simp) (by simp [maxLen]) rfl
          simp only [World.size_alloc] at hmade2
          have HM2 := Lib.hid hmade2; clear hmade2
          go_loopg [9, 10, 46] n (fun q va vb i wr => ∃ k : Nat, q = n - k ∧ k ≤ n ∧ i = .int .i64 k ∧ wr.ownsRow w8.heap.size 41 3 va (pick (es.take k) bs).1.length (edCells (pick (es.take k) bs).1) ∧ wr.ownsRow w8.heap.size 41 3 vb (pick (es.take k) bs).2.length (edCells (pick (es.take k) bs).2) ∧ (∀ g, va.ownBlock = some g → vb.ownBlock ≠ some g) ∧ Below w8.heap.size w8 wr)
          case atStart => exact ⟨0, by omega, by omega, rfl, by simpa [pick, edCells_nil] using HM1.out, by simpa [pick, edCells_nil] using HM2.out, fun g h => by simp [Value.ownBlock] at h ⊢; omega, ((Below.refl _ _).alloc (Nat.le_refl _) _).alloc (by simp) _⟩
          case round =>
            obtain ⟨k, hq, hk, rfl, ho1, ho2, hdis, hb⟩ := hrel
            have HQ := Lib.hid hq; clear hq
            have HDIS := Lib.hid hdis; clear hdis
            obtain ⟨A1, c1, rfl⟩ := own_form ho1
            obtain ⟨A2, c2, rfl⟩ := own_form ho2
            by_cases hlt : k < n
            · have HBW := Lib.hid (HB8.out.trans (hb.mono HB8.out.size))
              have hws : w8.heap.size ≤ wr.heap.size := hb.size
              have hw8 : w.heap.size ≤ w8.heap.size := HB8.out.size
              obtain ⟨b, off, rfl, hbb, g1, g2, g3⟩ := (EdsR.below HR.out HBW.out (Nat.le_refl _)).at_ (k := k) (by rw [LN.out]; exact hlt)
              have hpn := pick_snoc (es.take k) (edAt es k) bs
              rw [← take_snoc_ed es k (by rw [LN.out]; exact hlt), List.length_take, LN.out, show min k n = k by omega] at hpn
              have HPN := Lib.hid hpn; clear hpn
              generalize hE : edAt es k = E at *
              have hE1 : eS es k = E.s := by rw [← hE]; rfl
              have hE2 : eE es k = E.e := by rw [← hE]; rfl
              have hE3 : eN es k = E.n := by rw [← hE]; rfl
              rw [hE1] at g1
              rw [hE2] at g2
              rw [hE3] at g3
              clear hE1 hE2 hE3 hE
              generalize hP : pick (es.take k) bs = P at *
              have hP3 : P.1.length + P.2.length = k := by
                rw [← hP, pick_len, List.length_take, LN.out]
                omega
              have hP1 : P.1.length ≤ k := by omega
              have hP2 : P.2.length ≤ k := by omega
              clear hP hP3
              obtain ⟨P1, P2⟩ := P
              simp only at ho1 ho2 hP1 hP2 ⊢
              generalize hN1 : P1.length = N1 at *
              generalize hN2 : P2.length = N2 at *
              have HN1 := Lib.hid hN1; clear hN1
              have HN2 := Lib.hid hN2; clear hN2
              have HO1 := Lib.hid ho1; clear ho1
              have HO2 := Lib.hid ho2; clear ho2
              have HB := Lib.hid hb; clear hb
              by_cases hkm : k < m
              · obtain ⟨b2, off2, rfl, hbb2, gb⟩ := (HR'.out.below HBW.out (Nat.le_refl _)).bool_at (k := k) (by rw [LB.out]; exact hkm)
                cases hbk : bs.getD k false with
                | true =>
                  rw [hbk] at gb
                  have HBV := Lib.hid hbk; clear hbk
                  go_wp2_with (at_builtin; refine wpList_append_any _ rfl (.tmp 61) (.tmp 63) _ rfl w8.heap.size 41 i0 _ 3 32 Try.underlying32 hi hz0 hz1 hz2 rfl (by omega) (.slice A1 N1 c1) N1 (edCells P1) rfl ((HO1.out.alloc _).alloc _) (some ⟨(wr.alloc (.cells #[.int .i64 E.s, .int .i64 E.e, .string E.n] 41)).heap.size, 0, none⟩) 1 1 E.cells (by simp [Act.eval]) (cells_lit3 _ 41 E) rfl (edCells1 _) (by unfold maxLen; omega) (by omega) (by simp; omega) ?_; intro A5 c5 w5 hown5 hg5 hat5)
                  obtain ⟨hoth, hdis2⟩ := own_apart ((HO2.out.alloc (.cells #[.int .i64 E.s, .int .i64 E.e, .string E.n] 41)).alloc (.cells #[.int .i64 E.s, .int .i64 E.e, .string E.n] 41)) HDIS.out hg5 hat5
                  have HOT := Lib.hid hoth; clear hoth
                  have HD2 := Lib.hid hdis2; clear hdis2
                  have HOK := Lib.hid hown5; clear hown5
                  have HBK5 := Lib.hid (((HB.out.alloc (by omega) (.cells #[.int .i64 E.s, .int .i64 E.e, .string E.n] 41)).alloc (by simp; omega) (.cells #[.int .i64 E.s, .int .i64 E.e, .string E.n] 41)).grown hg5 (by simp; omega) (fun q h => (HO1.out.lt q h).1))
                  clear hg5 hat5
                  go_wp2
                  go_roundg (n - (k + 1))
                  case measure => have := HQ.out; omega
                  case rel => exact ⟨k + 1, rfl, by omega, by go_num, by rw [HPN.out, HBV.out, if_pos rfl]; simp only [List.length_append, List.length_cons, List.length_nil, edCells_append, edCells_cons, edCells_nil, List.append_nil]; rw [HN1.out]; exact HOK.out, by rw [HPN.out, HBV.out, if_pos rfl]; simp only; rw [HN2.out]; exact HOT.out, HD2.out, HBK5.out⟩
                | false =>
                  rw [hbk] at gb
                  have HBV := Lib.hid hbk; clear hbk
                  go_wp2_with (at_builtin; refine wpList_append_any _ rfl (.tmp 65) (.tmp 67) _ rfl w8.heap.size 41 i0 _ 3 32 Try.underlying32 hi hz0 hz1 hz2 rfl (by omega) (.slice A2 N2 c2) N2 (edCells P2) rfl ((HO2.out.alloc _).alloc _) (some ⟨(wr.alloc (.cells #[.int .i64 E.s, .int .i64 E.e, .string E.n] 41)).heap.size, 0, none⟩) 1 1 E.cells (by simp [Act.eval]) (cells_lit3 _ 41 E) rfl (edCells1 _) (by unfold maxLen; omega) (by omega) (by simp; omega) ?_; intro A5 c5 w5 hown5 hg5 hat5)
                  obtain ⟨hoth, hdis2⟩ := own_apart ((HO1.out.alloc (.cells #[.int .i64 E.s, .int .i64 E.e, .string E.n] 41)).alloc (.cells #[.int .i64 E.s, .int .i64 E.e, .string E.n] 41)) (fun g h1 h2 => HDIS.out g h2 h1) hg5 hat5
                  have HOT := Lib.hid hoth; clear hoth
                  have HD2 := Lib.hid hdis2; clear hdis2
                  have HOK := Lib.hid hown5; clear hown5
                  have HBK5 := Lib.hid (((HB.out.alloc (by omega) (.cells #[.int .i64 E.s, .int .i64 E.e, .string E.n] 41)).alloc (by simp; omega) (.cells #[.int .i64 E.s, .int .i64 E.e, .string E.n] 41)).grown hg5 (by simp; omega) (fun q h => (HO2.out.lt q h).1))
                  clear hg5 hat5
                  go_wp2
                  go_roundg (n - (k + 1))
                  case measure => have := HQ.out; omega
                  case rel => exact ⟨k + 1, rfl, by omega, by go_num, by rw [HPN.out, HBV.out, if_neg (by simp)]; simp only; rw [HN1.out]; exact HOT.out, by rw [HPN.out, HBV.out, if_neg (by simp)]; simp only [List.length_append, List.length_cons, List.length_nil, edCells_append, edCells_cons, edCells_nil, List.append_nil]; rw [HN2.out]; exact HOK.out, fun g h1 h2 => HD2.out g h2 h1, HBK5.out⟩
              · have hbv : bs.getD k false = false := by
                  rw [List.getD_eq_getElem?_getD, List.getElem?_eq_none (by rw [LB.out]; omega)]
                  rfl
                have HBV := Lib.hid hbv; clear hbv
                go_wp2_with (at_builtin; refine wpList_append_any _ rfl (.tmp 65) (.tmp 67) _ rfl w8.heap.size 41 i0 _ 3 32 Try.underlying32 hi hz0 hz1 hz2 rfl (by omega) (.slice A2 N2 c2) N2 (edCells P2) rfl ((HO2.out.alloc _).alloc _) (some ⟨(wr.alloc (.cells #[.int .i64 E.s, .int .i64 E.e, .string E.n] 41)).heap.size, 0, none⟩) 1 1 E.cells (by simp [Act.eval]) (cells_lit3 _ 41 E) rfl (edCells1 _) (by unfold maxLen; omega) (by omega) (by simp; omega) ?_; intro A5 c5 w5 hown5 hg5 hat5)
                obtain ⟨hoth, hdis2⟩ := own_apart ((HO1.out.alloc (.cells #[.int .i64 E.s, .int .i64 E.e, .string E.n] 41)).alloc (.cells #[.int .i64 E.s, .int .i64 E.e, .string E.n] 41)) (fun g h1 h2 => HDIS.out g h2 h1) hg5 hat5
                have HOT := Lib.hid hoth; clear hoth
                have HD2 := Lib.hid hdis2; clear hdis2
                have HOK := Lib.hid hown5; clear hown5
                have HBK5 := Lib.hid (((HB.out.alloc (by omega) (.cells #[.int .i64 E.s, .int .i64 E.e, .string E.n] 41)).alloc (by simp; omega) (.cells #[.int .i64 E.s, .int .i64 E.e, .string E.n] 41)).grown hg5 (by simp; omega) (fun q h => (HO2.out.lt q h).1))
                clear hg5 hat5
                go_wp2
                go_roundg (n - (k + 1))
                case measure => have := HQ.out; omega
                case rel => exact ⟨k + 1, rfl, by omega, by go_num, by rw [HPN.out, HBV.out, if_neg (by simp)]; simp only; rw [HN1.out]; exact HOT.out, by rw [HPN.out, HBV.out, if_neg (by simp)]; simp only [List.length_append, List.length_cons, List.length_nil, edCells_append, edCells_cons, edCells_nil, List.append_nil]; rw [HN2.out]; exact HOK.out, fun g h1 h2 => HD2.out g h2 h1, HBK5.out⟩
            · have hkn : k = n := by omega
              subst hkn
              have htk : es.take k = es := by rw [← LN.out, List.take_length]
              rw [htk] at ho1 ho2 ⊢
              have hpl := pick_len es bs
              have h1 := apt_of _ _ _ HAP.out
              have hmg := mg_pick h1 bs []
              rw [List.nil_append] at hmg
              generalize hP : pick es bs = P at *
              clear hP
              obtain ⟨P1, P2⟩ := P
              simp only at ho1 ho2 hpl hmg ⊢
              have HBW := Lib.hid (HB8.out.trans (hb.mono HB8.out.size))
              have hM := implMerge_any A1 A2 c1 c2 P1 P2 wr (CellsR.of_own ho1) (CellsR.of_own ho2) (by have := LN.out; omega) (by have := LN.out; omega)
              rw [hmg] at hM
              have HM := Lib.hid hM; clear hM ho1 ho2 hb hmg h1
              go_wp2_with fail
              refine HM.out.mono ?_
              rintro e w9 ⟨A9, c9, rfl, ho9, hb9⟩
              simp only [Option.getD_some, Option.isSome_some] at ho9 ⊢
              have HB9 := Lib.hid (HBW.out.trans (hb9.mono HBW.out.size))
              have hs := fun q => sameEdits_any A9 A c9 c es es (w9.drewN q) (CellsR.drewN (CellsR.of_own ho9) q) (HR.out.below (below_drewN HB9.out q) (Nat.le_refl _)) (by have := LN.out; omega) (by have := LN.out; omega)
              rw [sameE_refl] at hs
              simp only [LN.out] at hs ⊢
              have HS := Lib.hid hs; clear hs ho9 hb9 HM
              go_wp2_with fail
              refine (HS.out 0).mono ?_
              rintro e w11 ⟨rfl, q1, rfl⟩
              go_wp2
              go_ret
              exact ⟨rfl, below_drewN HB9.out _⟩
end Go.Proofs.Ytpbmjnjcjjombaa
