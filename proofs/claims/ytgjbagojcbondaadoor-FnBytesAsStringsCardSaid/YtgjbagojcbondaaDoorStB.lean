/-
  The walk of diffRunes: edits out of the differences of code points. DiffRunes' contract is a premise. Condition: texts of at most 1000000 bytes.
  What is known of the edits between two texts by code points. Plainly. Condition: texts of at most 1000000 bytes together.
  The walks of diff.Strings and impl.Strings. The contracts of DiffBytes and DiffRunes are premises. Condition: texts of at most 1000000 bytes.
-/
import Derived.Test.YtgjbagojcbondaaDoorRuB
import Derived.Deep.CutRange
import Derived.Deep.DeepCutAuto
import Derived.Test.YtgjbagojcbondaaDoorLcsB
import Derived.Test.YtgjbagojcbondaaDoorLcsW8
import Derived.Lib.ConvBytes
namespace Go.Proofs.YtgjbagojcbondaaDoor
set_option linter.unusedVariables false
open Go.RowKit

/-- differences in their order -/
def OrdD : Nat → List Df → Prop
  | _, [] => True
  | a, d :: l => a ≤ d.s ∧ d.s ≤ d.e ∧ OrdD d.e l
theorem lead_ord {E : EQT} {N M : Nat} : ∀ {ds : List Df} {a b k : Nat}, Lead E N M a b ds k → OrdD a ds := by
  intro ds
  induction ds with
  | nil => intros; trivial
  | cons x ds ih =>
    intro a b k h
    obtain ⟨g1, g2, g3, g4, g5, g6, g7, g8, k', g9, g10⟩ := h
    exact ⟨g1, g2, ih g10⟩
theorem joinB_fold (ns : List Int) : ∀ r : ByteArray, ns.foldl (fun r n => r ++ Utf8.encode n) r = r ++ joinB (pcsR ns) := by
  induction ns with
  | nil => intro r; simp [pcsR, joinB]
  | cons n l ih =>
    intro r
    rw [List.foldl_cons, ih]
    simp only [pcsR, List.map_cons, joinB, ByteArray.append_assoc]
theorem runesBytes_join (ns : List Int) : runesBytes ns = joinB (pcsR ns) := by
  unfold runesBytes
  rw [joinB_fold, ByteArray.empty_append]
theorem run_conv_runes {P : Program} (w : World) (src dst e : TypeId) (hs : P.underlying src = some (.slice e)) (he : P.underlying e = some (.int .i32)) (hd : P.underlying dst = some .string)
    {A : Option Addr} {n c : Nat} {ns : List Int} (h : CellsR w A (intCells .i32 ns)) (hn : ns.length = n) : (convert src dst (.slice A n c)).run P w = .ok (.string (joinB (pcsR ns))) w := by
  rw [run_convert_runes_string w src dst e A n c hs he hd]
  cases A with
  | none =>
    have h0 : ns = [] := by
      rcases h with h | ⟨b, off, h, _⟩
      · simpa [intCells] using h
      · cases h
    subst h0
    simp [Conv.runesToString, pcsR, joinB]
  | some a =>
    have hl : (loadCells a n).run P w = .ok (ns.map (Value.int .i32)).toArray w := by
      have := run_loadCells_list (P := P) w a (intCells .i32 ns) (fun j u hj => by
        rcases h with h | ⟨b, off, hA, hc⟩
        · rw [h] at hj; cases hj
        · cases hA
          rw [add_lit]
          exact hc j u hj)
      rw [show (intCells .i32 ns).length = n by simp [intCells, hn]] at this
      rw [this]
      rfl
    rw [run_runesToString w a n c ns hl, runesBytes_join]
theorem infoS32 : (Tryd.prog.info? 21).map (fun i => (i.zero, i.size, i.bytes)) = some (some (.int .i32 0), 1, 4) := by kernel_rfl
theorem lenI_part {rs : List Int} (h : ∀ r ∈ rs, Utf8.valid r = true) (a b : Nat) (hab : a ≤ b) : (totB ((pcsR rs).take a) : Int) + lenI ((rs.drop a).take (b - a)) = (totB ((pcsR rs).take b) : Int) := by
  have h1 : (pcsR rs).take b = (pcsR rs).take a ++ pcsR ((rs.drop a).take (b - a)) := by
    rw [← List.take_append_drop a ((pcsR rs).take b), List.take_take, Nat.min_eq_left hab, List.drop_take]
    simp [pcsR, List.map_take, List.map_drop]
  rw [lenI_eq (fun r hr => h r (List.mem_of_mem_drop (List.mem_of_mem_take hr))), h1, totB_append]
  omega
theorem cut_ints (k : IntKind) (rs : List Int) (x X : Nat) : ((intCells k rs).drop x).take (X - x) = intCells k ((rs.drop x).take (X - x)) := by simp [intCells, List.map_take, List.map_drop]
theorem cut_pcs (rs : List Int) (x n : Nat) : pcsR ((rs.drop x).take n) = ((pcsR rs).drop x).take n := by simp [pcsR, List.map_take, List.map_drop]
set_option maxRecDepth 100000 in
set_option maxHeartbeats 4000000 in
theorem diffRunes_any (xs ys : List Int) (A C : Option Addr) (c d : Nat) (w : World) (hs : xs.length ≤ 1000000) (ht : ys.length ≤ 1000000) (hA : IntsR .i32 w A xs) (hC : IntsR .i32 w C ys) (hc : xs.length ≤ c) (hd : ys.length ≤ d) (hv : ∀ r ∈ xs, Utf8.valid r = true) (P : List Df → Prop) (hP0 : ∀ ds, P ds → OrdD 0 ds)
    (hdif : Calls Tryd.prog 20 #[.slice A xs.length c, .slice C ys.length d] w (DsX xs.length ys.length P w)) :
    Calls Tryd.prog 15 #[.slice A xs.length c, .slice C ys.length d] w (EdX (fun es => ∃ ds, P ds ∧ es = edsOf (pcsR xs) (pcsR ys) ds) w) := by
  obtain ⟨i0, hi, hz0, hz1, hz2⟩ := info_parts infoS32
  obtain ⟨i1, hj, hy0, hy1, hy2⟩ := info_parts infoDX
  have hpart := fun a b (h : a ≤ b) => lenI_part hv a b h
  have htb := totB_pcsR xs
  have hta := fun a => totB_take_all (pcsR xs) a
  have hxl : (intCells .i32 xs).length = xs.length := by simp [intCells]
  have hyl : (intCells .i32 ys).length = ys.length := by simp [intCells]
  have hlx := fun x X (h : x ≤ X) (hX : X ≤ xs.length) => (show ((xs.drop x).take (X - x)).length = X - x by rw [List.length_take, List.length_drop]; omega)
  have hly := fun x X (h : x ≤ X) (hX : X ≤ ys.length) => (show ((ys.drop x).take (X - x)).length = X - x by rw [List.length_take, List.length_drop]; omega)
  have HRL0 := Lib.hid (fun A c rs W (h : IntsR .i32 W A rs) hl => rsum_any A c rs W h hl)
  have HD := Lib.hid hdif; have HC := Lib.hid hC; have HA := Lib.hid hA; have HPART := Lib.hid hpart; have HTA := Lib.hid hta; have HXL := Lib.hid hxl; have HYL := Lib.hid hyl; have HP0 := Lib.hid hP0; have HLX := Lib.hid hlx; have HLY := Lib.hid hly
  clear hdif hC hA hpart hta hxl hyl hP0 hv hlx hly
  unfold DsX at HD
  generalize hN : xs.length = N at *
  generalize hM : ys.length = M at *
  have HN := Lib.hid hN; have HM := Lib.hid hM
  clear hN hM
  generalize hT0 : totB (pcsR xs) = T0 at *
  clear hT0
  go_enter Tryd.func15, Tryd.ntmps15
  go_wp2_with fail
  refine HD.out.mono ?_
  rintro e w3 ⟨ds, A5, c5, rfl, hds, b3, hP, hlen, hbd⟩
  have hord := HP0.out ds hP
  have B3 := Lib.hid b3; have RD := Lib.hid hds; have HP := Lib.hid hP; have HBD := Lib.hid hbd; have HC3 := Lib.hid (CellsR.below HC.out b3 (Nat.le_refl _)); have HA3 := Lib.hid (CellsR.below HA.out b3 (Nat.le_refl _)); have HORD := Lib.hid hord
  clear hds b3 hP hbd HC HA hord
  have hel := edsX_len (pcsR xs) (pcsR ys) ds
  have hea := edsX_at (pcsR xs) (pcsR ys) ds
  have hrz := rowK_zero (edsOf (pcsR xs) (pcsR ys) ds)
  have hra := rowK_all (edsOf (pcsR xs) (pcsR ys) ds)
  have hrs := rowK_set (edsOf (pcsR xs) (pcsR ys) ds)
  have hrl := rowK_len (edsOf (pcsR xs) (pcsR ys) ds)
  have hfin : ∀ w', Below w.heap.size w w' → ∀ A c, w'.ownsRow w.heap.size 38 3 (.slice A ds.length c) ds.length (edCells (edsOf (pcsR xs) (pcsR ys) ds)) → EdX (fun es => ∃ ds, P ds ∧ es = edsOf (pcsR xs) (pcsR ys) ds) w (.returned (.slice A ds.length c)) w' := fun w' hb A c ho => ⟨_, A, c, by rw [hel], by rw [hel]; exact ho, hb, ds, HP.out, rfl⟩
  generalize edsOf (pcsR xs) (pcsR ys) ds = es at *
  have HEA := Lib.hid hea; have HRS := Lib.hid hrs; have HFIN := Lib.hid hfin; have HRZ := Lib.hid hrz; have HRA := Lib.hid hra; have HRL := Lib.hid hrl
  have hdf := fun W (h : CellsR W A5 (dfCells ds)) k (hk : k < ds.length) => dfs_at h hk
  have HDF := Lib.hid hdf
  clear hea hrs hfin hrz hra hrl hdf
  obtain ⟨n, hn⟩ : ∃ n, ds.length = n := ⟨_, rfl⟩
  rw [hn] at hlen hel HFIN
  have HNN := Lib.hid hn; have HEL := Lib.hid hel
  rw [hn]
  clear hn hel
  have hn4 : n ≤ 2000000 := by omega
  go_wp2_with (at_make; refine wpList_make_full _ rfl _ _ _ rfl w.heap.size 38 i1 (.agg #[.int .i64 0, .int .i64 0, .string ⟨#[]⟩]) 3 Tryd.underlying31 hj hy0 hy1 .i64 .i64 _ _ n rfl rfl rfl rfl (by rw [hy2]; omega) (by unfold maxLen; omega) B3.out.size ?_; intro w4 hown4 hg4)
  have hb4 := B3.out.grown hg4 B3.out.size (fun k h => by cases h)
  have hm4 : w4.ownsRow w.heap.size 38 3 (.slice (some ⟨w3.heap.size, 0, none⟩) n n) n (edCells (rowK es 0)) := by
    rw [HRZ.out, HEL.out, ← made_ed]
    exact hown4
  have hbw4 : Below w3.heap.size w3 w4 := (Below.refl _ _).grown hg4 (Nat.le_refl _) (fun k h => by cases h)
  have O4 := Lib.hid hm4; have HBW4 := Lib.hid hbw4
  have hsz4 := hbw4.size
  clear hb4 hm4 hown4 hg4 hbw4
  go_wp2
  go_loopg [7, 8, 20] n (fun q v7 v8 i wr => ∃ k le : Nat, q = n - k ∧ k ≤ n ∧ i = .int .i64 k ∧ v7 = .int .i64 le ∧ v8 = .int .i64 (totB ((pcsR xs).take le) : Nat) ∧ OrdD le (ds.drop k) ∧ wr.ownsRow w.heap.size 38 3 (.slice (some ⟨w3.heap.size, 0, none⟩) n n) n (edCells (rowK es k)) ∧ Below w3.heap.size w3 wr)
  case atStart => exact ⟨0, 0, rfl, Nat.zero_le _, rfl, rfl, rfl, HORD.out, O4.out, HBW4.out⟩
  case round =>
    obtain ⟨k, le, hq, hk, rfl, rfl, rfl, hor, hown, hb⟩ := hrel
    have HQ := Lib.hid hq; have HO := Lib.hid hown; have HB := Lib.hid hb
    have hbs := hb.size
    clear hq hown hb
    by_cases hlt : k < n
    · have hkl : k < ds.length := by rw [HNN.out]; exact hlt
      obtain ⟨b, off, hA, hbb, g0, g1, g2, g3⟩ := HDF.out wr (CellsR.below RD.out HB.out (Nat.le_refl _)) k hkl
      subst hA
      have hea := HEA.out k hkl
      have hbd := HBD.out _ (List.getElem_mem hkl)
      have hset := HRS.out k (by rw [HEL.out]; exact hlt)
      rw [List.drop_eq_getElem_cons hkl] at hor
      obtain ⟨o1, o2, o3⟩ := hor
      generalize ds[k] = d' at *
      obtain ⟨q1, q2, q3, q4⟩ := hbd
      rw [hea] at hset
      have HSET := Lib.hid hset; have HO3 := Lib.hid o3
      clear hea hset hkl o3
      have hp1 := HPART.out le d'.s o1
      have hp2 := HPART.out d'.s d'.e q1
      have hb1 := HTA.out le
      have hb2 := HTA.out d'.s
      have hb3 := HTA.out d'.e
      obtain ⟨A6, hcut6, hsub6⟩ := cells_cut (P := Tryd.prog) 40 21 i0 Tryd.underlying40 hi hz1 A (intCells .i32 xs) N c le d'.s HXL.out o1 (by omega) hc
      obtain ⟨A7, hcut7, hsub7⟩ := cells_cut (P := Tryd.prog) 40 21 i0 Tryd.underlying40 hi hz1 A (intCells .i32 xs) N c d'.s d'.e HXL.out q1 q2 hc
      obtain ⟨A8, hcut8, hsub8⟩ := cells_cut (P := Tryd.prog) 40 21 i0 Tryd.underlying40 hi hz1 C (intCells .i32 ys) M d d'.rs d'.re HYL.out q3 q4 hd
      have hr6 : ∀ W, Below w3.heap.size w3 W → Calls Tryd.prog 21 #[.slice A6 (d'.s - le) (c - le)] W fun e w' => e = .returned (.int .i64 (lenI ((xs.drop le).take (d'.s - le)))) ∧ w' = W := fun W hW => by
        have h := hsub6 W (CellsR.below HA3.out hW (Nat.le_refl _))
        rw [cut_ints] at h
        have hl := HLX.out le d'.s o1 (by omega)
        have := HRL0.out A6 (c - le) _ W h (by rw [hl]; omega)
        rw [hl] at this
        exact this
      have hr7 : ∀ W, Below w3.heap.size w3 W → Calls Tryd.prog 21 #[.slice A7 (d'.e - d'.s) (c - d'.s)] W fun e w' => e = .returned (.int .i64 (lenI ((xs.drop d'.s).take (d'.e - d'.s)))) ∧ w' = W := fun W hW => by
        have h := hsub7 W (CellsR.below HA3.out hW (Nat.le_refl _))
        rw [cut_ints] at h
        have hl := HLX.out d'.s d'.e q1 (by omega)
        have := HRL0.out A7 (c - d'.s) _ W h (by rw [hl]; omega)
        rw [hl] at this
        exact this
      have hconv : ∀ W, Below w3.heap.size w3 W → (convert 40 9 (.slice A8 (d'.re - d'.rs) (d - d'.rs))).run Tryd.prog W = .ok (.string (joinB (((pcsR ys).drop d'.rs).take (d'.re - d'.rs)))) W := fun W hW => by
        have h := hsub8 W (CellsR.below HC3.out hW (Nat.le_refl _))
        rw [cut_ints] at h
        rw [← cut_pcs]
        exact run_conv_runes W _ _ 21 Tryd.underlying40 Tryd.underlying21 Tryd.underlying9 h (HLY.out d'.rs d'.re q3 (by omega))
      have HR6 := Lib.hid hr6; have HR7 := Lib.hid hr7; have HCONV := Lib.hid hconv
      clear hconv hr6 hr7 hsub6 hsub7 hsub8
      generalize joinB (((pcsR ys).drop d'.rs).take (d'.re - d'.rs)) = J at *
      generalize lenI ((xs.drop le).take (d'.s - le)) = L6 at *
      generalize lenI ((xs.drop d'.s).take (d'.e - d'.s)) = L7 at *
      obtain ⟨T1, hT1⟩ : ∃ T1, totB ((pcsR xs).take le) = T1 := ⟨_, rfl⟩
      obtain ⟨T2, hT2⟩ : ∃ T2, totB ((pcsR xs).take d'.s) = T2 := ⟨_, rfl⟩
      obtain ⟨T3, hT3⟩ : ∃ T3, totB ((pcsR xs).take d'.e) = T3 := ⟨_, rfl⟩
      rw [hT1] at hp1 hb1 ⊢
      rw [hT2] at hp1 hp2 hb2
      rw [hT3] at hp2 hb3
      rw [hT2, hT3] at HSET
      have HT3 := Lib.hid hT3
      clear hT1 hT2 hT3
      have hbk := Blk.new wr 47 #[.int .i64 d'.s, .int .i64 d'.e, .int .i64 d'.rs, .int .i64 d'.re]
      have hbw : Below w3.heap.size w3 (wr.alloc (.cells #[.int .i64 d'.s, .int .i64 d'.e, .int .i64 d'.rs, .int .i64 d'.re] 47)) := HB.out.alloc hbs _
      have hoa := HO.out.alloc (.cells #[.int .i64 d'.s, .int .i64 d'.e, .int .i64 d'.rs, .int .i64 d'.re] 47)
      obtain ⟨bx, hbx⟩ : ∃ bx, wr.heap.size = bx := ⟨_, rfl⟩
      rw [hbx] at hbk
      have hgx : w3.heap.size < bx := by rw [← hbx]; exact (HO.out.lt _ rfl).2
      go_upto_region 8 with fail
      generalize hW0 : wr.alloc (.cells #[.int .i64 d'.s, .int .i64 d'.e, .int .i64 d'.rs, .int .i64 d'.re] 47) = W0 at *
      have HBW := Lib.hid hbw; have HOA := Lib.hid hoa
      clear hbw hoa hW0 hbx HO HB g0 g1 g2 g3 hbb hbs
      have hll : (edCells (rowK es k)).length = n * 3 := by rw [edCells_length, HRL.out k (by rw [HEL.out]; exact hk), HEL.out]
      obtain ⟨y0, hy0⟩ : ∃ v, W0.cell? ⟨w3.heap.size, k * 3, none⟩ = some v := ⟨_, by rw [HOA.out.cellAt _ (by omega)]; exact List.getElem?_eq_getElem (by omega)⟩
      obtain ⟨y1, hy1⟩ : ∃ v, W0.cell? ⟨w3.heap.size, k * 3 + 1, none⟩ = some v := ⟨_, by rw [HOA.out.cellAt _ (by omega)]; exact List.getElem?_eq_getElem (by omega)⟩
      obtain ⟨y2, hy2⟩ : ∃ v, W0.cell? ⟨w3.heap.size, k * 3 + 2, none⟩ = some v := ⟨_, by rw [HOA.out.cellAt _ (by omega)]; exact List.getElem?_eq_getElem (by omega)⟩
      have f0 : W0.frozen? ⟨w3.heap.size, k * 3, none⟩ = false := HOA.out.frozenAt _
      have f1 : W0.frozen? ⟨w3.heap.size, k * 3 + 1, none⟩ = false := HOA.out.frozenAt _
      have f2 : W0.frozen? ⟨w3.heap.size, k * 3 + 2, none⟩ = false := HOA.out.frozenAt _
      have b0 : W0.cell? ⟨bx, 0, none⟩ = some (.int .i64 (d'.s : Int)) := hbk.cell 0
      have b1 : W0.cell? ⟨bx, 1, none⟩ = some (.int .i64 (d'.e : Int)) := hbk.cell 1
      have b2 : W0.cell? ⟨bx, 2, none⟩ = some (.int .i64 (d'.rs : Int)) := hbk.cell 2
      have b3 : W0.cell? ⟨bx, 3, none⟩ = some (.int .i64 (d'.re : Int)) := hbk.cell 3
      have k0 := HCONV.out W0 HBW.out
      have i3 : (k : Int) < (n : Int) := by omega
      have i6 : (0 : Int) ≤ (k : Int) := by omega
      have nbx : ¬ bx = w3.heap.size := by omega
      have nbx2 : ¬ w3.heap.size = bx := by omega
      have HPP1 := Lib.hid hp1; have HPP2 := Lib.hid hp2
      clear hll hbk hp1 hp2
      have hu1 : (T1 : Int) + L6 = (T2 : Int) := HPP1.out
      have hu2 : (T2 : Int) + L7 = (T3 : Int) := HPP2.out
      go_wp2_with fail
      refine (HR6.out _ HBW.out).mono ?_
      rintro e wx ⟨rfl, rfl⟩
      go_wp2_with fail
      refine (HR7.out _ HBW.out).mono ?_
      rintro e wx2 ⟨rfl, rfl⟩
      go_wp2
      obtain ⟨s1, _⟩ := World.ownsRow.stored HOA.out (k * 3) (.int .i64 (T2 : Int))
      obtain ⟨s2, _⟩ := s1.stored (k * 3 + 1) (.int .i64 (T3 : Int))
      obtain ⟨s3, _⟩ := s2.stored (k * 3 + 2) (.string J)
      rw [edCells_putX (rowK es k) k ⟨T2, T3, J⟩ (by rw [HRL.out k (by rw [HEL.out]; exact hk), HEL.out]; exact hlt), HSET.out] at s3
      have hb5 := ((HBW.out.setCell (p := ⟨w3.heap.size, k * 3, none⟩) (Nat.le_refl _) (.int .i64 (T2 : Int))).setCell (p := ⟨w3.heap.size, k * 3 + 1, none⟩) (Nat.le_refl _) (.int .i64 (T3 : Int))).setCell (p := ⟨w3.heap.size, k * 3 + 2, none⟩) (Nat.le_refl _) (.string J)
      have HS3 := Lib.hid s3; have HB5 := Lib.hid hb5
      clear s1 s2 s3 hb5
      go_roundg (n - (k + 1))
      case measure => have := HQ.out; omega
      case rel => exact ⟨k + 1, d'.e, rfl, by omega, by go_num, rfl, by rw [HT3.out], HO3.out, HS3.out, HB5.out⟩
    · obtain rfl : k = n := by omega
      have hown := HO.out
      rw [show rowK es k = es by have := HRA.out; rwa [HEL.out] at this] at hown
      have HO2 := Lib.hid hown
      clear hown HO hor
      go_wp2
      go_ret
      exact HFIN.out _ (B3.out.trans (HB.out.mono B3.out.size)) _ _ HO2.out
end Go.Proofs.YtgjbagojcbondaaDoor

namespace Go.Proofs.YtgjbagojcbondaaDoor
set_option linter.unusedVariables false

/-- the edits between two texts, from a chain of portions that are alike -/
def StrP (s t : ByteArray) (es : List Ed) : Prop :=
  (s = t ∧ es = []) ∨ (s ≠ t ∧ ∃ ps, Ch (eqI (runesF s) (runesF t)) 0 0 ps (runesF s).length (runesF t).length ∧ es = edsOf (pcsR (runesF s)) (pcsR (runesF t)) (diffsFrom (runesF s).length (runesF t).length 0 0 ps))
theorem eqI_sx {xs ys : List Int} {i j : Nat} (hi : i < xs.length) (hj : j < ys.length) (h : eqI xs ys i j = true) : sx (pcsR xs) i = sx (pcsR ys) j := by
  have h1 : ix xs i = ix ys j := by simpa [eqI] using h
  simp only [ix, List.getD_eq_getElem?_getD, List.getElem?_eq_getElem hi, List.getElem?_eq_getElem hj, Option.getD_some] at h1
  simp [sx, pcsR, hi, hj, h1]
/-- what holds of any two texts -/
structure StrG (es : List Ed) : Prop where
  order : ∃ T : Nat, T ≤ 4000000 ∧ inOrderF T 0 es = true
  size : szE es ≤ 4000000
  len : es.length ≤ 2000000
theorem edsOf_count (P Q : List ByteArray) (ds : List Df) : (edsOf P Q ds).length = ds.length := by simp [edsOf]
theorem pcsR_len (rs : List Int) : (pcsR rs).length = rs.length := by simp [pcsR]
theorem diffs_min {E : EQT} {N M : Nat} {ps : List Pc} (h : Ch E 0 0 ps N M) : (diffsFrom N M 0 0 ps).length ≤ N + 1 ∧ (diffsFrom N M 0 0 ps).length ≤ M + 1 := by
  have h1 := ch_len h
  have h2 := diffs_len N M ps 0 0
  omega
theorem StrP.gen {s t : ByteArray} {es : List Ed} (h : StrP s t es) (hst : s.size + t.size ≤ 1000000) : StrG es := by
  rcases h with ⟨rfl, rfl⟩ | ⟨_, ps, h1, rfl⟩
  · exact ⟨⟨0, by omega, rfl⟩, by simp [szE], by simp⟩
  · obtain ⟨k, hk⟩ := lead_chain h1
    have hl := diffs_min h1
    have l1 := runesF_len s
    have l2 := runesF_len t
    have t1 := totB_runes s
    have t2 := totB_runes t
    have h2 := lead_szE (P := pcsR (runesF s)) (Q := pcsR (runesF t)) hk
    rw [← pcsR_len (runesF s)] at hk
    have h3 := lead_order (Q := pcsR (runesF t)) hk
    rw [List.take_zero] at h3
    rw [List.drop_zero] at h2
    rw [pcsR_len] at h3
    exact ⟨⟨_, by omega, h3⟩, by omega, by rw [edsOf_count]; omega⟩
theorem patchB_none (s : ByteArray) : patchB s 0 [] = s := by
  show s.extract 0 s.size = s
  exact ByteArray.extract_zero_size
theorem StrP.ed {s t : ByteArray} {es : List Ed} (h : StrP s t es) (hst : s.size + t.size ≤ 1000000) (hs : wfB s = true) (ht : wfB t = true) : LinesEd s t es := by
  have hg := h.gen hst
  rcases h with ⟨rfl, rfl⟩ | ⟨_, ps, h1, rfl⟩
  · exact ⟨rfl, patchB_none s, hg.size, hg.len⟩
  · obtain ⟨k, hk⟩ := lead_chain h1
    have js := join_runes hs
    have jt := join_runes ht
    have ts := joinB_size (pcsR (runesF s))
    rw [js] at ts
    have e1 := pcsR_len (runesF s)
    have e2 := pcsR_len (runesF t)
    rw [← e1, ← e2] at hk
    have h3 := lead_order (Q := pcsR (runesF t)) hk
    have h4 := lead_patch (P := pcsR (runesF s)) (Q := pcsR (runesF t)) (fun i j hi hj h => eqI_sx (by omega) (by omega) h) hk
    rw [List.take_zero] at h3 h4
    rw [js, List.drop_zero, jt] at h4
    rw [← ts] at h3
    rw [e1, e2] at h3 h4
    exact ⟨h3, h4, hg.size, hg.len⟩
/-- they begin and end between code points, and put in texts in UTF-8 -/
theorem StrP.runes {s t : ByteArray} {es : List Ed} (h : StrP s t es) (hs : wfB s = true) : ∀ k, k < es.length → ∃ p q : Nat, eS es k = p ∧ eE es k = q ∧ RuneAt s p ∧ RuneAt s q ∧ wfB (eN es k) = true := by
  intro k hk
  rcases h with ⟨rfl, rfl⟩ | ⟨_, ps, h1, rfl⟩
  · simp at hk
  · rw [edsOf_count] at hk
    have he : edAt (edsOf (pcsR (runesF s)) (pcsR (runesF t)) (diffsFrom (runesF s).length (runesF t).length 0 0 ps)) k = ⟨(totB ((pcsR (runesF s)).take (diffsFrom (runesF s).length (runesF t).length 0 0 ps)[k].s) : Nat), (totB ((pcsR (runesF s)).take (diffsFrom (runesF s).length (runesF t).length 0 0 ps)[k].e) : Nat), joinB (((pcsR (runesF t)).drop (diffsFrom (runesF s).length (runesF t).length 0 0 ps)[k].rs).take ((diffsFrom (runesF s).length (runesF t).length 0 0 ps)[k].re - (diffsFrom (runesF s).length (runesF t).length 0 0 ps)[k].rs))⟩ := by
      simp [edAt, edsOf, hk]
    exact ⟨_, _, by rw [eS, he], by rw [eE, he], rune_place hs _, rune_place hs _, by rw [eN, he]; exact wf_part _ _ _⟩
theorem runesF_a : runesF ⟨#[97]⟩ = [97] := by decide +kernel
theorem runesF_b : runesF ⟨#[98]⟩ = [98] := by decide +kernel
theorem StrP.one {es : List Ed} (h : StrP ⟨#[97]⟩ ⟨#[98]⟩ es) : es.length = 1 := by
  rcases h with ⟨h, _⟩ | ⟨_, ps, h1, rfl⟩
  · exact absurd (congrArg (fun b : ByteArray => b.data) h) (by decide)
  · rw [runesF_a, runesF_b] at h1 ⊢
    have : ps = [] := apart_nilM (fun i j hi hj => by
      have : i = 0 := by simpa using hi
      have : j = 0 := by simpa using hj
      subst_vars
      decide) h1
    subst this
    decide
theorem StrP.none {s : ByteArray} {es : List Ed} (h : StrP s s es) : es = [] := by
  rcases h with ⟨_, rfl⟩ | ⟨h, _⟩
  · rfl
  · exact absurd rfl h
end Go.Proofs.YtgjbagojcbondaaDoor

namespace Go.Proofs.YtgjbagojcbondaaDoor
set_option linter.unusedVariables false
open Go.RowKit

/-- differences out of a chain of portions that are alike -/
def DfP (K : List Int → List Int → List Pc → Prop) (xs ys : List Int) (ds : List Df) : Prop :=
  ∃ ps, Ch (eqI xs ys) 0 0 ps xs.length ys.length ∧ K xs ys ps ∧ ds = diffsFrom xs.length ys.length 0 0 ps
def StrPK (K : List Int → List Int → List Pc → Prop) (s t : ByteArray) (es : List Ed) : Prop :=
  (s = t ∧ es = []) ∨ (s ≠ t ∧ ∃ ps, Ch (eqI (runesF s) (runesF t)) 0 0 ps (runesF s).length (runesF t).length ∧ K (runesF s) (runesF t) ps ∧ es = edsOf (pcsR (runesF s)) (pcsR (runesF t)) (diffsFrom (runesF s).length (runesF t).length 0 0 ps))
theorem StrPK.str {K : List Int → List Int → List Pc → Prop} {s t : ByteArray} {es : List Ed} (h : StrPK K s t es) : StrP s t es := by
  rcases h with h | ⟨h, ps, h1, _, h2⟩
  · exact .inl h
  · exact .inr ⟨h, ps, h1, h2⟩
theorem DfP.ord {K : List Int → List Int → List Pc → Prop} {xs ys : List Int} {ds : List Df} (h : DfP K xs ys ds) : OrdD 0 ds := by
  obtain ⟨ps, h1, _, rfl⟩ := h
  obtain ⟨k, hk⟩ := lead_chain h1
  exact lead_ord hk
theorem dsX_of {K : List Int → List Int → List Pc → Prop} {xs ys : List Int} {w : World} {e : Ending} {w' : World} (h : ∃ ps A c, e = .returned (.slice A (diffsFrom xs.length ys.length 0 0 ps).length c) ∧ CellsR w' A (dfCells (diffsFrom xs.length ys.length 0 0 ps)) ∧ Below w.heap.size w w' ∧ Ch (eqI xs ys) 0 0 ps xs.length ys.length ∧ K xs ys ps) : DsX xs.length ys.length (DfP K xs ys) w e w' := by
  obtain ⟨ps, A, c, rfl, o, b, h1, h2⟩ := h
  obtain ⟨k, hk⟩ := lead_chain h1
  have hl := diffs_min h1
  have hl2 := diffs_len xs.length ys.length ps 0 0
  refine ⟨_, A, c, rfl, o, b, ⟨ps, h1, h2, rfl⟩, ?_, lead_bounds hk⟩
  by_cases h3 : xs.length = 0 ∧ ys.length = 0
  · have h4 := ch_len h1
    have : ps = [] := List.eq_nil_of_length_eq_zero (by omega)
    subst this
    rw [h3.1, h3.2]
    decide
  · omega
theorem below_bytesX (w : World) (e : TypeId) (s : ByteArray) : Below w.heap.size w (Lib.bytesWorld w e s) :=
  ⟨rfl, rfl, rfl, by rw [Lib.bytesWorld_size]; omega, fun g hg => Lib.bytesWorld_at_old w e s g hg⟩
theorem ints_bytesX (w : World) (e : TypeId) (s : ByteArray) : IntsR .u8 (Lib.bytesWorld w e s) (some ⟨w.heap.size, 0, none⟩) (bytesI s) := by
  refine .inr ⟨_, _, rfl, fun j u hu => ?_⟩
  rw [← bytesI_cells] at hu
  have hj : j < s.size := by
    have := (List.getElem?_eq_some_iff.1 hu).1
    rwa [Lib.strCells_length] at this
  rw [Nat.zero_add, Lib.bytesWorld_cell w e s j hj, ← hu]
  simp [Lib.strCells, hj]
theorem ints_runesX (w : World) (e : TypeId) (s : ByteArray) (X : Array Value) : IntsR .i32 (w.alloc (.cells ((intCells .i32 (runesF s)).toArray ++ X) e)) (some ⟨w.heap.size, 0, none⟩) (runesF s) := by
  refine .inr ⟨_, _, rfl, fun j u hu => ?_⟩
  have h := (Blk.new w e ((intCells .i32 (runesF s)).toArray ++ X)).cell (0 + j)
  have hj := (List.getElem?_eq_some_iff.1 hu).1
  rw [h, Nat.zero_add, Array.getElem?_append_left (by simpa using hj), ← hu]
  simp
set_option maxRecDepth 100000 in
set_option maxHeartbeats 1000000 in
theorem strings_any {K : List Int → List Int → List Pc → Prop} (s t : ByteArray) (w : World) (hs : s.size ≤ 1000000) (ht : t.size ≤ 1000000)
    (hdb : ∀ W A C c d, IntsR .u8 W A (bytesI s) → IntsR .u8 W C (bytesI t) → s.size ≤ c → t.size ≤ d → Calls Tryd.prog 19 #[.slice A s.size c, .slice C t.size d] W (DsX s.size t.size (DfP K (bytesI s) (bytesI t)) W))
    (hdr : ∀ W A C c d, IntsR .i32 W A (runesF s) → IntsR .i32 W C (runesF t) → (runesF s).length ≤ c → (runesF t).length ≤ d → Calls Tryd.prog 20 #[.slice A (runesF s).length c, .slice C (runesF t).length d] W (DsX (runesF s).length (runesF t).length (DfP K (runesF s) (runesF t)) W)) :
    Calls Tryd.prog 11 #[.string s, .string t] w (EdX (StrPK K s t) w) := by
  have ha := fun (x : ByteArray) W (h : x.size ≤ 4000000) => isAscii_any x W h
  have HA := Lib.hid ha; clear ha
  by_cases heq : s = t
  · subst heq
    have hq : (s.toList == s.toList) = true := by simp
    go_enter Tryd.func11, Tryd.ntmps11
    go_wp2
    go_ret
    exact ⟨[], none, 0, rfl, ⟨rfl, .inl ⟨rfl, rfl⟩⟩, Below.refl _ _, .inl ⟨rfl, rfl⟩⟩
  · have hq : (s.toList == t.toList) = false := strEq_false heq
    have l1 := runesF_len s
    have l2 := runesF_len t
    have v1 := runesF_valid s
    have hro := fun W A C c d h1 h2 h3 h4 => diffRunes_any (runesF s) (runesF t) A C c d W (by omega) (by omega) h1 h2 h3 h4 v1 (DfP K (runesF s) (runesF t)) (fun ds h => h.ord) (hdr W A C c d h1 h2 h3 h4)
    have hfin : ∀ ds es, DfP K (runesF s) (runesF t) ds → es = edsOf (pcsR (runesF s)) (pcsR (runesF t)) ds → StrPK K s t es := fun ds es h he => by
      obtain ⟨ps, h1, h2, rfl⟩ := h
      exact .inr ⟨heq, ps, h1, h2, he⟩
    have HRO := Lib.hid hro; have HFIN := Lib.hid hfin
    have cv1 := fun W => run_runes_of_string (P := Tryd.prog) W 9 40 21 s Tryd.underlying9 Tryd.underlying40 Tryd.underlying21 (by rw [conv_runes]; simp [intCells]; omega)
    have cv2 := fun W => run_runes_of_string (P := Tryd.prog) W 9 40 21 t Tryd.underlying9 Tryd.underlying40 Tryd.underlying21 (by rw [conv_runes]; simp [intCells]; omega)
    rw [conv_runes] at cv1 cv2
    have hsz1 : (intCells .i32 (runesF s)).toArray.size = (runesF s).length := by simp [intCells]
    have hsz2 : (intCells .i32 (runesF t)).toArray.size = (runesF t).length := by simp [intCells]
    rw [hsz1] at cv1
    rw [hsz2] at cv2
    have hi1 := fun W X => ints_runesX W 21 s X
    have hi2 := fun W X => ints_runesX W 21 t X
    have HI1 := Lib.hid hi1; have HI2 := Lib.hid hi2
    unfold EdX at HRO
    have hrune : asciiF s = false ∨ asciiF t = false → Calls Tryd.prog 11 #[.string s, .string t] w (EdX (StrPK K s t) w) := by
      intro hno
      clear hro hfin hdb hdr hi1 hi2 hsz1 hsz2 v1 heq
      generalize (intCells .i32 (runesF s)).toArray = X1 at *
      generalize (intCells .i32 (runesF t)).toArray = X2 at *
      obtain ⟨n1, hn1⟩ : ∃ n, (runesF s).length = n := ⟨_, rfl⟩
      obtain ⟨n2, hn2⟩ : ∃ n, (runesF t).length = n := ⟨_, rfl⟩
      rw [hn1] at cv1 HRO l1
      rw [hn2] at cv2 HRO l2
      clear hn1 hn2
      cases h1 : asciiF s with
      | false =>
        have HS := Lib.hid h1
        clear hno h1
        go_enter Tryd.func11, Tryd.ntmps11
        go_wp2_with fail
        refine (HA.out _ _ (by omega)).mono ?_
        rintro e w1 ⟨rfl, rfl⟩
        rw [HS.out]
        go_wp2_with fail
        refine (HRO.out _ _ _ _ _ ?_ ?_ (grownCap_ge _ _ _ _) (grownCap_ge _ _ _ _)).mono ?_
        · exact CellsR.below (HI1.out _ _) ((((Below.refl _ _).alloc (Nat.le_refl _) _).drew).drew) (Nat.le_refl _)
        · have h := HI2.out (w1.alloc (.cells (X1 ++ Array.replicate (grownCap w1 n1 0 21 - n1) (.int .i32 0)) 21)) (Array.replicate (grownCap (w1.alloc (.cells (X1 ++ Array.replicate (grownCap w1 n1 0 21 - n1) (.int .i32 0)) 21)).drew n2 0 21 - n2) (.int .i32 0))
          rw [show (w1.alloc (.cells (X1 ++ Array.replicate (grownCap w1 n1 0 21 - n1) (.int .i32 0)) 21)).heap.size = w1.heap.size + 1 by simp] at h
          exact (h.drew).drew
        · have hB := Lib.hid ((((Below.refl w1.heap.size w1).alloc (Nat.le_refl _) (.cells (X1 ++ Array.replicate (grownCap w1 n1 0 21 - n1) (.int .i32 0)) 21)).alloc (by simp) (.cells (X2 ++ Array.replicate (grownCap (w1.alloc (.cells (X1 ++ Array.replicate (grownCap w1 n1 0 21 - n1) (.int .i32 0)) 21)).drew n2 0 21 - n2) (.int .i32 0)) 21)).drew.drew)
          generalize ((w1.alloc (.cells (X1 ++ Array.replicate (grownCap w1 n1 0 21 - n1) (.int .i32 0)) 21)).alloc (.cells (X2 ++ Array.replicate (grownCap (w1.alloc (.cells (X1 ++ Array.replicate (grownCap w1 n1 0 21 - n1) (.int .i32 0)) 21)).drew n2 0 21 - n2) (.int .i32 0)) 21)).drew.drew = W2 at *
          rintro e w5 ⟨es, A, c, rfl, ho, hb, ds, hp, hes⟩
          have HO := Lib.hid ho; have HB := Lib.hid hb; have HP := Lib.hid (HFIN.out ds es hp hes)
          clear ho hb hp hes
          go_wp2
          go_ret
          exact ⟨es, A, c, rfl, own_mono HO.out hB.out.size, hB.out.trans (HB.out.mono hB.out.size), HP.out⟩
      | true =>
        have h2 : asciiF t = false := by
          rcases hno with h | h
          · rw [h1] at h; cases h
          · exact h
        have HS := Lib.hid h1; have HT := Lib.hid h2
        clear hno h1 h2
        go_enter Tryd.func11, Tryd.ntmps11
        go_wp2_with fail
        refine (HA.out _ _ (by omega)).mono ?_
        rintro e w1 ⟨rfl, rfl⟩
        rw [HS.out]
        go_wp2_with fail
        refine (HA.out _ _ (by omega)).mono ?_
        rintro e w1' ⟨rfl, rfl⟩
        rw [HT.out]
        go_wp2_with fail
        refine (HRO.out _ _ _ _ _ ?_ ?_ (grownCap_ge _ _ _ _) (grownCap_ge _ _ _ _)).mono ?_
        · exact CellsR.below (HI1.out _ _) ((((Below.refl _ _).alloc (Nat.le_refl _) _).drew).drew) (Nat.le_refl _)
        · have h := HI2.out (w1'.alloc (.cells (X1 ++ Array.replicate (grownCap w1' n1 0 21 - n1) (.int .i32 0)) 21)) (Array.replicate (grownCap (w1'.alloc (.cells (X1 ++ Array.replicate (grownCap w1' n1 0 21 - n1) (.int .i32 0)) 21)).drew n2 0 21 - n2) (.int .i32 0))
          rw [show (w1'.alloc (.cells (X1 ++ Array.replicate (grownCap w1' n1 0 21 - n1) (.int .i32 0)) 21)).heap.size = w1'.heap.size + 1 by simp] at h
          exact (h.drew).drew
        · have hB := Lib.hid ((((Below.refl w1'.heap.size w1').alloc (Nat.le_refl _) (.cells (X1 ++ Array.replicate (grownCap w1' n1 0 21 - n1) (.int .i32 0)) 21)).alloc (by simp) (.cells (X2 ++ Array.replicate (grownCap (w1'.alloc (.cells (X1 ++ Array.replicate (grownCap w1' n1 0 21 - n1) (.int .i32 0)) 21)).drew n2 0 21 - n2) (.int .i32 0)) 21)).drew.drew)
          generalize ((w1'.alloc (.cells (X1 ++ Array.replicate (grownCap w1' n1 0 21 - n1) (.int .i32 0)) 21)).alloc (.cells (X2 ++ Array.replicate (grownCap (w1'.alloc (.cells (X1 ++ Array.replicate (grownCap w1' n1 0 21 - n1) (.int .i32 0)) 21)).drew n2 0 21 - n2) (.int .i32 0)) 21)).drew.drew = W2 at *
          rintro e w5 ⟨es, A, c, rfl, ho, hb, ds, hp, hes⟩
          have HO := Lib.hid ho; have HB := Lib.hid hb; have HP := Lib.hid (HFIN.out ds es hp hes)
          clear ho hb hp hes
          go_wp2
          go_ret
          exact ⟨es, A, c, rfl, own_mono HO.out hB.out.size, hB.out.trans (HB.out.mono hB.out.size), HP.out⟩
    cases h1 : asciiF s with
    | false => exact hrune (.inl h1)
    | true =>
      cases h2 : asciiF t with
      | false => exact hrune (.inr h2)
      | true =>
        have r1 := runes_ascii h1
        have r2 := runes_ascii h2
        have hao := fun W A C c d g1 g2 g3 g4 => diffAscii_any s t A C c d W (by omega) (by omega) g1 g2 g3 g4 h1 h2 (DfP K (bytesI s) (bytesI t)) (hdb W A C c d g1 g2 g3 g4)
        rw [r1, r2] at hfin
        have HAO := Lib.hid hao; have HFIN2 := Lib.hid hfin; have HS := Lib.hid h1; have HT := Lib.hid h2
        have cb1 := fun W => Lib.run_convert_string_bytes (P := Tryd.prog) W 9 34 5 s Tryd.underlying9 Tryd.underlying34 Tryd.underlying5
        have cb2 := fun W => Lib.run_convert_string_bytes (P := Tryd.prog) W 9 34 5 t Tryd.underlying9 Tryd.underlying34 Tryd.underlying5
        have HX1 := Lib.hid (fun W => ints_bytesX W 5 s)
        have HX2 := Lib.hid (fun W => ints_bytesX W 5 t)
        have HY1 := Lib.hid (fun W => below_bytesX W 5 s)
        have HY2 := Lib.hid (fun W => below_bytesX W 5 t)
        unfold EdX at HAO
        clear hrune hao hfin hro cv1 cv2 HRO HFIN HI1 HI2 hi1 hi2 hsz1 hsz2 v1 hdb hdr r1 r2 h1 h2 l1 l2 heq
        go_enter Tryd.func11, Tryd.ntmps11
        go_wp2_with fail
        refine (HA.out _ _ (by omega)).mono ?_
        rintro e w1 ⟨rfl, rfl⟩
        rw [HS.out]
        go_wp2_with fail
        refine (HA.out _ _ (by omega)).mono ?_
        rintro e w1' ⟨rfl, rfl⟩
        rw [HT.out]
        go_wp2_with fail
        refine (HAO.out _ _ _ _ _ ?_ (HX2.out _) (grownCap_ge _ _ _ _) (grownCap_ge _ _ _ _)).mono ?_
        · exact CellsR.below (HX1.out _) (HY2.out _) (Nat.le_refl _)
        · have hB := Lib.hid ((HY1.out w1').trans ((HY2.out (Lib.bytesWorld w1' 5 s)).mono (HY1.out w1').size))
          generalize Lib.bytesWorld (Lib.bytesWorld w1' 5 s) 5 t = W2 at *
          rintro e w5 ⟨es, A, c, rfl, ho, hb, ds, hp, hes⟩
          have HO := Lib.hid ho; have HB := Lib.hid hb; have HP := Lib.hid (HFIN2.out ds es hp hes)
          clear ho hb hp hes
          go_wp2
          go_ret
          exact ⟨es, A, c, rfl, own_mono HO.out hB.out.size, hB.out.trans (HB.out.mono hB.out.size), HP.out⟩
/-- what impl.Strings gives -/
def StrOut (P : List Ed → Prop) (w : World) (e : Ending) (w' : World) : Prop :=
  ∃ es A c, e = .returned (.slice A es.length c) ∧ EdsR w' A es ∧ es.length ≤ c ∧ Below w.heap.size w w' ∧ P es
theorem own_capX {w : World} {base e size n c : Nat} {A : Option Addr} {xs : List Value} (h : w.ownsRow base e size (.slice A n c) n xs) : n ≤ c := by
  rcases h.2 with ⟨h1, h2⟩ | ⟨g, cap, cur, hv, _, _, h3, _⟩
  · omega
  · injection hv with h1 h2 h4
    subst h4
    exact h3
theorem StrP.count {s t : ByteArray} {es : List Ed} (h : StrP s t es) (hs : s.size ≤ 1000000) : es.length ≤ 1000001 := by
  rcases h with ⟨_, rfl⟩ | ⟨_, ps, h1, rfl⟩
  · simp
  · have := diffs_min h1
    have l1 := runesF_len s
    rw [edsOf_count]
    omega
set_option maxRecDepth 100000 in
set_option maxHeartbeats 1000000 in
theorem strImpl_any {K : List Int → List Int → List Pc → Prop} (s t : ByteArray) (w : World) (hs : s.size ≤ 1000000)
    (hd : Calls Tryd.prog 11 #[.string s, .string t] w (EdX (StrPK K s t) w)) :
    Calls Tryd.prog 6 #[.string s, .string t] w (StrOut (StrPK K s t) w) := by
  have HT := Lib.hid (fun A c es W (h : EdsR W A es) (hl : es.length ≤ 20000000) => told_any A c es W h hl)
  have HD := Lib.hid hd; clear hd
  unfold EdX at HD
  go_enter Tryd.func6, Tryd.ntmps6
  go_wp2_with fail
  refine HD.out.mono ?_
  rintro e w1 ⟨es, A, c, rfl, o1, b1, hp⟩
  have hl := hp.str.count hs
  have HP := Lib.hid hp; have B1 := Lib.hid b1
  have hTT := HT.out A c es w1 (CellsR.of_own o1) (by omega)
  clear hp b1 o1
  obtain ⟨n, hn⟩ : ∃ n, es.length = n := ⟨_, rfl⟩
  rw [hn] at hTT ⊢
  have HTT := Lib.hid hTT; have HN := Lib.hid hn
  clear hTT hn
  go_wp2_with fail
  refine HTT.out.mono ?_
  rintro e w2 ⟨A2, c2, rfl, o2, b2⟩
  have B2 := Lib.hid (B1.out.trans (b2.mono B1.out.size))
  clear b2
  go_wp2
  go_ret
  exact ⟨es, A2, c2, by rw [HN.out]; rfl, CellsR.of_own o2, by rw [HN.out]; exact own_capX o2, B2.out, HP.out⟩
end Go.Proofs.YtgjbagojcbondaaDoor
