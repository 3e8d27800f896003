/-
  The walks of spec.LinesOf, diff.splitLines and impl.SplitLines: the lines of a text, and where each begins. Condition: at most 3000000 bytes.
-/
import Derived.Test.YtgphjnhbheimiaaDoorLinesP
import Derived.Test.YtgphjnhbheimiaaDoorSmall
import Derived.Lib.OthersKept
import Derived.WalkSmall
import Derived.Deep.LoopGhost
namespace Go.Proofs.YtgphjnhbheimiaaDoor
set_option linter.unusedVariables false
open Go.RowKit

theorem infoS : (Tryd.prog.info? 9).map (fun i => (i.zero, i.size, i.bytes)) = some (some (.string ⟨#[]⟩), 1, 16) := by kernel_rfl
theorem infoI : (Tryd.prog.info? 3).map (fun i => (i.zero, i.size, i.bytes)) = some (some (.int .i64 0), 1, 8) := by kernel_rfl

theorem own_iter {w : World} {base e size n : Nat} {v : Value} {xs : List Value} {gi : Nat} {s : ByteArray} {p : Nat} (ho : w.ownsRow base e size v n xs) (hk : w.heap[gi]? = some (.stringIter s p)) (p' : Nat) : (w.iterAt gi s p').ownsRow base e size v n xs := by
  refine ⟨ho.1, ?_⟩
  rcases ho.2 with hn | ⟨g', cap, cur, rfl, hb, hgg, rest⟩
  · exact .inl hn
  · refine .inr ⟨g', cap, cur, rfl, hb, ?_, rest⟩
    rw [Lib.iterAt_other _ _ _ _ _ (fun e => by rw [e, hk] at hgg; cases hgg)]
    exact hgg
/-- rows of different kinds lie apart -/
theorem own_ne {w : World} {base base' e e' size size' n n' : Nat} {v v' : Value} {xs xs' : List Value} (ho : w.ownsRow base e size v n xs) (ho' : w.ownsRow base' e' size' v' n' xs') (hne : e ≠ e') : v.ownBlock = none ∨ v.ownBlock ≠ v'.ownBlock := by
  rcases ho.2 with ⟨rfl, _⟩ | ⟨g, cap, cur, rfl, _, hg, _⟩
  · exact .inl rfl
  · rcases ho'.2 with ⟨rfl, _⟩ | ⟨g', cap', cur', rfl, _, hg', _⟩
    · exact .inr (by simp [Value.ownBlock])
    · refine .inr (fun h => ?_)
      simp only [Value.ownBlock, Option.some.injEq] at h
      subst h
      rw [hg] at hg'
      simp only [Option.some.injEq, Obj.cells.injEq] at hg'
      exact hne hg'.2.1
theorem own_ne_iter {w : World} {base e size n : Nat} {v : Value} {xs : List Value} {gi : Nat} {s : ByteArray} {p : Nat} (ho : w.ownsRow base e size v n xs) (hk : w.heap[gi]? = some (.stringIter s p)) : some gi ≠ v.ownBlock := by
  rcases ho.2 with ⟨rfl, _⟩ | ⟨g, cap, cur, rfl, _, hg, _⟩
  · simp [Value.ownBlock]
  · intro h
    simp only [Value.ownBlock, Option.some.injEq] at h
    rw [← h, hk] at hg
    cases hg
theorem own_none {w : World} {base e size n : Nat} {v : Value} {xs : List Value} (ho : w.ownsRow base e size v n xs) {k : Nat} (hk : v.ownBlock = some k) : base ≤ k := (ho.lt k hk).1

theorem int_lit1 (w : World) (t : TypeId) (x : Int) : CellsR (w.alloc (.cells #[.int .i64 x] t)) (some ⟨w.heap.size, 0, none⟩) (intCells .i64 [x]) := IntsR.lit1 .i64 w t x

set_option maxRecDepth 100000 in
set_option maxHeartbeats 2000000 in
/-- diff.splitLines: the lines, and the sums of their sizes -/
theorem splitLines_any (s : ByteArray) (w : World) (hs : s.size ≤ 3000000) :
   Calls Tryd.prog 19 #[.string s] w fun e w' => ∃ A c B d, e = .returned (.tuple #[.slice A (linesF s).length c, .slice B ((linesF s).length + 1) d]) ∧
     w'.ownsRow w.heap.size 9 1 (.slice A (linesF s).length c) (linesF s).length (strCells (linesF s)) ∧
     w'.ownsRow w.heap.size 3 1 (.slice B ((linesF s).length + 1) d) ((linesF s).length + 1) (intCells .i64 (psums (linesF s))) ∧ Below w.heap.size w w' := by
  obtain ⟨i0, hi, hz0, hz1, hz2⟩ := info_parts infoS
  obtain ⟨i1, hj, hy0, hy1, hy2⟩ := info_parts infoI
  have hlf := fun k => lnF_le s k
  have hll := fun k => lnL_len s k
  have hlt := fun k => lnL_tot s k
  have HLF := Lib.hid hlf; clear hlf
  have HLL := Lib.hid hll; clear hll
  have HLT := Lib.hid hlt; clear hlt
  go_enter Tryd.func19, Tryd.ntmps19
  go_wp2
  generalize hgi : w.heap.size + 1 = gi
  have hgi1 : w.heap.size < gi := by omega
  go_loopg [4, 5, 6, 7, 8] s.size (fun q v4 v5 s6 _ _ wr => ∃ p : Nat, q = s.size - p ∧ p ≤ s.size ∧ s6 = .int .i64 (lnF s p) ∧ wr.ownsRow w.heap.size 9 1 v4 (lnL s p).length (strCells (lnL s p)) ∧
     wr.ownsRow w.heap.size 3 1 v5 ((lnL s p).length + 1) (intCells .i64 (psums (lnL s p))) ∧ wr.heap[gi]? = some (.stringIter s p) ∧ Below w.heap.size w wr)
  case atStart =>
    refine ⟨0, rfl, by omega, rfl, World.ownsRow_nil _ _ _ _, ?_, ?_, ((Below.refl _ _).alloc (Nat.le_refl _) _).alloc (by simp) _⟩
    · exact (World.ownsRow_lit w #[.int .i64 0] 1 (Nat.le_refl _) (by simp [maxLen]) rfl).alloc _
    · subst hgi
      have := World.iter_heap (w.alloc (.cells #[.int .i64 0] 3)) s 0
      simpa using this
  case round =>
    obtain ⟨p, hq, hp, rfl, ho4, ho5, hit, hb⟩ := hrel
    have hbs := hb.size
    have hf := HLF.out p
    have hl := HLL.out p
    have htot := HLT.out p hp
    have HTOT := Lib.hid htot; clear htot
    have HQ := Lib.hid hq; clear hq
    have HO4 := Lib.hid ho4; clear ho4
    have HO5 := Lib.hid ho5; clear ho5
    have HIT := Lib.hid hit
    by_cases hlt : p < s.size
    · have hnf := next_facts s p hlt
      have hnx := fun ty => Lib.run_next_any_at (P := Tryd.prog) wr gi s p ty hit hlt
      have hc1 := decode_le s p
      generalize hC : (Utf8.decode s p).1 = C at *
      generalize hD : (Utf8.decode s p).2 = D at *
      clear hC hD
      obtain ⟨hD1, hD2, hnl, hno⟩ := hnf
      have HNL := Lib.hid hnl; clear hnl
      have HNO := Lib.hid hno; clear hno
      have HIT2 := Lib.hid (Lib.iterAt_heap wr gi s p (p + D) hit)
      have hb2 := Lib.below_iterAt hb (k := gi) (by omega) s (p + D)
      have HB2 := Lib.hid hb2; clear hb2
      have hsz2 : gi < (wr.iterAt gi s (p + D)).heap.size := (Array.getElem?_eq_some_iff.1 HIT2.out).1
      have HO42 := Lib.hid (own_iter HO4.out HIT.out (p + D))
      have HO52 := Lib.hid (own_iter HO5.out HIT.out (p + D))
      clear hit
      by_cases h10 : byteAt s p = 10
      · obtain ⟨hC, hD⟩ := HNL.out h10
        subst hC hD
        have H10 := Lib.hid h10; clear h10
        have j1 : (lnF s p : Int) ≤ (p : Int) + 1 := by omega
        have j2 : (p : Int) + 1 ≤ (s.size : Int) := by omega
        generalize hF : lnF s p = F at *
        generalize hL : lnL s p = L at *
        have HF := Lib.hid hF; clear hF
        have HL := Lib.hid hL; clear hL
        generalize hW : wr.iterAt gi s (p + 1) = W at *
        clear hW
        go_wp2_with (first
          | (at_builtin; refine wpList_append_any _ rfl (.tmp 18) (.tmp 24) _ rfl w.heap.size 9 i0 _ 1 16 Tryd.underlying53 hi hz0 hz1 hz2 rfl (by omega) u4 L.length (strCells L) rfl (HO42.out.alloc _) (some ⟨W.heap.size, 0, none⟩) 1 1 (strCells [s.extract F (p + 1)]) rfl (str_lit1 _ _ _) rfl (strCells_one _) (by unfold maxLen; omega) (by omega) (by simp; omega) ?_; intro A1 c1 w1 hown1 hg1 hat1
             have HO1 := Lib.hid hown1; clear hown1
             have HO51 := Lib.hid ((HO52.out.alloc (.cells #[.string (s.extract F (p + 1))] 9)).kept hg1 (own_ne HO52.out HO42.out (by decide)))
             have HIT1 : Hid (w1.heap[gi]? = some (.stringIter s (p + 1))) := (hg1.block gi (by simp; omega) (own_ne_iter HO42.out HIT2.out)).trans ((Below.heap_alloc _ _ _ (by omega)).trans HIT2.out)
             have HB1 := Lib.hid ((HB2.out.alloc (by omega) (.cells #[.string (s.extract F (p + 1))] 9)).grown hg1 (by simp; omega) (fun g hg => own_none HO42.out hg))
             have hs1 := hg1.size
             simp only [World.size_alloc] at hs1
             clear hat1 hg1)
          | (at_builtin; refine wpList_append_any _ rfl (.tmp 28) (.tmp 30) _ rfl w.heap.size 3 i1 _ 1 8 Tryd.underlying35 hj hy0 hy1 hy2 rfl (by omega) u5 (L.length + 1) (intCells .i64 (psums L)) rfl (HO51.out.alloc _) (some ⟨w1.heap.size, 0, none⟩) 1 1 (intCells .i64 [((p + 1 : Nat) : Int)]) rfl (int_lit1 _ _ _) rfl (intCells_one _ _) (by unfold maxLen; omega) (by omega) (by simp; omega) ?_; intro A2 c2 w2 hown2 hg2 hat2))
        have HO2 := Lib.hid hown2; clear hown2
        have HO42 := Lib.hid ((HO1.out.alloc (.cells #[.int .i64 ((p : Int) + 1)] 3)).kept hg2 (own_ne HO1.out HO51.out (by decide)))
        have HIT3 : Hid (w2.heap[gi]? = some (.stringIter s (p + 1))) := (hg2.block gi (by simp; omega) (own_ne_iter HO51.out HIT1.out)).trans ((Below.heap_alloc _ _ _ (by omega)).trans HIT1.out)
        have HB3 := Lib.hid ((HB1.out.alloc (by omega) (.cells #[.int .i64 ((p : Int) + 1)] 3)).grown hg2 (by simp; omega) (fun g hg => own_none HO51.out hg))
        have eL : lnL s (p + 1) = L ++ [s.extract F (p + 1)] := by rw [lnL_nl s p H10.out, HF.out, HL.out]
        have eF : lnF s (p + 1) = p + 1 := lnF_nl s p H10.out
        have eP : psums (lnL s (p + 1)) = psums L ++ [((p + 1 : Nat) : Int)] := by
          rw [eL, psums_snoc, HTOT.out, ByteArray.size_extract]
          congr 3
          omega
        go_roundg (s.size - (p + 1))
        case measure => rw [HQ.out]; omega
        case rel =>
          refine ⟨p + 1, rfl, by omega, by rw [eF]; go_num, ?_, ?_, HIT3.out, HB3.out⟩
          · rw [eL, strCells_append, List.length_append]
            exact HO42.out
          · rw [eP, eL, List.length_append]
            simp only [intCells, List.map_append]
            exact HO2.out
      · obtain ⟨hC, eL, eF⟩ := HNO.out h10
        have e1 : ((C : Int) == 10) = false := by simp; omega
        have EL := Lib.hid eL; clear eL
        have EF := Lib.hid eF; clear eF
        have HC := Lib.hid hC; clear hC h10 HNL HNO
        go_wp2
        go_roundg (s.size - (p + D))
        case measure => rw [HQ.out]; omega
        case rel => exact ⟨p + D, rfl, by omega, by rw [EF.out], by rw [EL.out]; exact HO42.out, by rw [EL.out]; exact HO52.out, HIT2.out, HB2.out⟩
    · have hps : p = s.size := by omega
      have hnx := fun ty => Lib.run_next_end_at (P := Tryd.prog) wr gi s p ty hit hlt
      have HP := Lib.hid hps; clear hps hit
      by_cases hlast : lnF s p < s.size
      · have e1 : linesF s = lnL s p ++ [s.extract (lnF s p) s.size] := by
          have := HP.out
          subst this
          unfold linesF
          rw [if_pos hlast]
        have e2 : psums (linesF s) = psums (lnL s p) ++ [((s.size : Nat) : Int)] := by
          rw [e1, psums_snoc, HTOT.out, ByteArray.size_extract]
          congr 3
          omega
        have E1 := Lib.hid e1; clear e1
        have E2 := Lib.hid e2; clear e2
        have j1 : (lnF s p : Int) ≤ (s.size : Int) := by omega
        generalize hF : lnF s p = F at *
        generalize hL : lnL s p = L at *
        clear hF hL HTOT
        have hgl : gi < wr.heap.size := (Array.getElem?_eq_some_iff.1 HIT.out).1
        go_wp2_with (first
          | (at_builtin; refine wpList_append_any _ rfl (.tmp 36) (.tmp 40) _ rfl w.heap.size 9 i0 _ 1 16 Tryd.underlying53 hi hz0 hz1 hz2 rfl (by omega) u4 L.length (strCells L) rfl (HO4.out.alloc _) (some ⟨wr.heap.size, 0, none⟩) 1 1 (strCells [s.extract F s.size]) rfl (str_lit1 _ _ _) rfl (strCells_one _) (by unfold maxLen; omega) (by omega) (by simp; omega) ?_; intro A1 c1 w1 hown1 hg1 hat1
             have HO1 := Lib.hid hown1; clear hown1
             have HO51 := Lib.hid ((HO5.out.alloc (.cells #[.string (s.extract F s.size)] 9)).kept hg1 (own_ne HO5.out HO4.out (by decide)))
             have HB1 := Lib.hid ((hb.alloc (by omega) (.cells #[.string (s.extract F s.size)] 9)).grown hg1 (by simp; omega) (fun g hg => own_none HO4.out hg))
             have hs1 := hg1.size
             simp only [World.size_alloc] at hs1
             clear hat1 hg1)
          | (at_builtin; refine wpList_append_any _ rfl (.tmp 42) (.tmp 45) _ rfl w.heap.size 3 i1 _ 1 8 Tryd.underlying35 hj hy0 hy1 hy2 rfl (by omega) u5 (L.length + 1) (intCells .i64 (psums L)) rfl (HO51.out.alloc _) (some ⟨w1.heap.size, 0, none⟩) 1 1 (intCells .i64 [((s.size : Nat) : Int)]) rfl (int_lit1 _ _ _) rfl (intCells_one _ _) (by unfold maxLen; omega) (by omega) (by simp; omega) ?_; intro A2 c2 w2 hown2 hg2 hat2))
        have HO2 := Lib.hid hown2; clear hown2
        have HO42 := Lib.hid ((HO1.out.alloc (.cells #[.int .i64 ((s.size : Nat) : Int)] 3)).kept hg2 (own_ne HO1.out HO51.out (by decide)))
        have HB3 := Lib.hid ((HB1.out.alloc (by omega) (.cells #[.int .i64 ((s.size : Nat) : Int)] 3)).grown hg2 (by simp; omega) (fun g hg => own_none HO51.out hg))
        go_ret2
        refine ⟨A1, c1, A2, c2, ?_, ?_, ?_, HB3.out⟩
        · rw [E1.out, List.length_append]; rfl
        · rw [E1.out, strCells_append, List.length_append]
          exact HO42.out
        · rw [E2.out, E1.out, List.length_append]
          simp only [intCells, List.map_append]
          exact HO2.out
      · have e1 : linesF s = lnL s p := by
          have := HP.out
          subst this
          unfold linesF
          rw [if_neg hlast]
        have E1 := Lib.hid e1; clear e1
        generalize hF : lnF s p = F at *
        generalize hL : lnL s p = L at *
        clear hF hL HTOT
        go_wp2
        go_ret2
        obtain ⟨A1, c1, hv1⟩ := own_form HO4.out
        obtain ⟨A2, c2, hv2⟩ := own_form HO5.out
        subst hv1 hv2
        rw [E1.out]
        exact ⟨A1, c1, A2, c2, rfl, HO4.out, HO5.out, hb⟩

end Go.Proofs.YtgphjnhbheimiaaDoor
