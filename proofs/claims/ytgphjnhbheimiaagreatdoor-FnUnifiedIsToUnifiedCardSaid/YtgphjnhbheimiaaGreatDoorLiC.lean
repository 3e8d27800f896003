/-
  The walk of diff.Lines: edits between lines out of the differences of the lines. DiffLines' contract is a premise. Condition: texts of at most 1000000 bytes.
  The walk of impl.Lines: the edits between the lines of two texts. DiffLines' contract is a premise. Condition: texts of at most 1000000 bytes.
  impl.Lines, with DiffLines' contract paid.
-/
import Derived.Test.YtgphjnhbheimiaaGreatDoorLcsI
import Derived.Test.YtgphjnhbheimiaaGreatDoorLiB
import Derived.Test.YtgphjnhbheimiaaGreatDoorTxC
import Derived.Deep.RegionHeld3
import Derived.Test.YtgphjnhbheimiaaGreatDoorLcsT3
import Derived.Test.YtgphjnhbheimiaaGreatDoorLcsE
namespace Go.Proofs.YtgphjnhbheimiaaGreatDoor
set_option linter.unusedVariables false
open Go.RowKit

/-- what DiffLines gives: differences that lie within both -/
def DsOut (N M : Nat) (P : List Df → Prop) (w : World) (e : Ending) (w' : World) : Prop :=
  ∃ ds A c, e = .returned (.slice A ds.length c) ∧ CellsR w' A (dfCells ds) ∧ Below w.heap.size w w' ∧ P ds ∧ ds.length ≤ N + M ∧ ∀ d ∈ ds, d.s ≤ d.e ∧ d.e ≤ N ∧ d.rs ≤ d.re ∧ d.re ≤ M
/-- a list of edits in new memory -/
def EdsOut (P : List Ed → Prop) (w : World) (e : Ending) (w' : World) : Prop :=
  ∃ es A c, e = .returned (.slice A es.length c) ∧ w'.ownsRow w.heap.size 47 3 (.slice A es.length c) es.length (edCells es) ∧ Below w.heap.size w w' ∧ P es
theorem edsOf_len (P Q : List ByteArray) (ds : List Df) : (edsOf P Q ds).length = ds.length := by simp [edsOf]
theorem edsOf_at (P Q : List ByteArray) (ds : List Df) (k : Nat) (h : k < ds.length) : edAt (edsOf P Q ds) k = ⟨(totB (P.take ds[k].s) : Nat), (totB (P.take ds[k].e) : Nat), joinB ((Q.drop ds[k].rs).take (ds[k].re - ds[k].rs))⟩ := by simp [edAt, edsOf, h]
theorem totB_part (Q : List ByteArray) (a n : Nat) : totB ((Q.drop a).take n) ≤ totB Q := by
  have h1 := totB_append (Q.take a) (Q.drop a)
  have h2 := totB_append ((Q.drop a).take n) ((Q.drop a).drop n)
  rw [List.take_append_drop] at h1 h2
  omega

/-- three cells stored at a place of a row of edits -/
theorem edCells_put1 (es : List Ed) (k : Nat) (x : Ed) (h : k < es.length) :
    (((edCells es).set (k * 3) (.int .i64 x.s)).set (k * 3 + 1) (.int .i64 x.e)).set (k * 3 + 2) (.string x.n) = edCells (es.set k x) := by
  induction es generalizing k with
  | nil => simp at h
  | cons y l ih =>
    rw [edCells_cons]
    cases k with
    | zero => simp [Ed.cells, edCells_cons]
    | succ k =>
      have hl : y.cells.length = 3 := rfl
      have := ih k (by simpa using h)
      rw [List.set_append_right _ _ (by omega), List.set_append_right _ _ (by omega), List.set_append_right _ _ (by omega), hl, show (k + 1) * 3 - 3 = k * 3 by omega, show (k + 1) * 3 + 1 - 3 = k * 3 + 1 by omega, show (k + 1) * 3 + 2 - 3 = k * 3 + 2 by omega, this]
      rfl
set_option maxRecDepth 100000 in
set_option maxHeartbeats 4000000 in
theorem linesD_any (s t : ByteArray) (w : World) (hs : s.size ≤ 1000000) (ht : t.size ≤ 1000000) (P : List Df → Prop)
    (hd : ∀ W A C c d, StrsR W A (linesF s) → StrsR W C (linesF t) → (linesF s).length ≤ c → (linesF t).length ≤ d → Calls Tryz.prog 18 #[.slice A (linesF s).length c, .slice C (linesF t).length d] W (DsOut (linesF s).length (linesF t).length P W)) :
    Calls Tryz.prog 14 #[.string s, .string t] w (EdsOut (fun es => ∃ ds, P ds ∧ es = edsOf (linesF s) (linesF t) ds) w) := by
  obtain ⟨i0, hi, hz0, hz1, hz2⟩ := info_parts infoS
  obtain ⟨i1, hj, hy0, hy1, hy2⟩ := info_parts infoD
  have h0 := fun W => splitLines_any s W (by omega)
  have h1 := fun W => splitLines_any t W (by omega)
  have hl0 := linesF_len s
  have hl1 := linesF_len t
  have hpl := psums_len (linesF s)
  have hpx := fun j (h : j ≤ (linesF s).length) => psums_ix (linesF s) j h
  have htt := linesF_tot t
  have hts := linesF_tot s
  generalize hS : linesF s = S at *
  generalize hT : linesF t = T at *
  have H0 := Lib.hid h0; have H1 := Lib.hid h1; have HD := Lib.hid hd; have HPL := Lib.hid hpl; have HPX := Lib.hid hpx
  clear h0 h1 hd hpl hpx hS hT
  have hjn := fun W A c xs hr hc h1 h2 => join_any W A c xs hr hc h1 h2
  have HJ := Lib.hid hjn; clear hjn
  obtain ⟨N, hN⟩ : ∃ N, S.length = N := ⟨_, rfl⟩
  obtain ⟨M, hM⟩ : ∃ M, T.length = M := ⟨_, rfl⟩
  rw [hN] at hl0 H0 HD HPL HPX
  rw [hM] at hl1 H1 HD
  have HN := Lib.hid hN; have HM := Lib.hid hM
  clear hN hM
  unfold DsOut at HD
  go_enter Tryz.func14, Tryz.ntmps14
  go_wp2_with fail
  refine (H0.out _).mono ?_
  rintro e w1 ⟨A1, c1, A2, c2, rfl, o1, o2, b1⟩
  have hcA := own_cap2 o1
  have R1 := Lib.hid (CellsR.of_own o1); have R2 := Lib.hid (CellsR.of_own o2); have B1 := Lib.hid b1
  clear o1 o2 b1
  go_wp2_with fail
  refine (H1.out _).mono ?_
  rintro e w2 ⟨A3, c3, A4, c4, rfl, o3, o4, b2⟩
  have hcB := own_cap2 o3
  have R1' := Lib.hid (CellsR.below R1.out b2 (Nat.le_refl _)); have R2' := Lib.hid (CellsR.below R2.out b2 (Nat.le_refl _)); have R3 := Lib.hid (CellsR.of_own o3); have B2 := Lib.hid (B1.out.trans (b2.mono B1.out.size))
  clear o3 o4 b2 R1 R2 B1
  go_wp2_with fail
  refine (HD.out _ A1 A3 c1 c3 R1'.out R3.out hcA hcB).mono ?_
  rintro e w3 ⟨ds, A5, c5, rfl, hds, b3, hP, hlen, hbd⟩
  have R2 := Lib.hid (CellsR.below R2'.out b3 (Nat.le_refl _)); have R3' := Lib.hid (CellsR.below R3.out b3 (Nat.le_refl _)); have B3 := Lib.hid (B2.out.trans (b3.mono B2.out.size)); have RD := Lib.hid hds; have HP := Lib.hid hP; have HBD := Lib.hid hbd
  clear hds b3 hP hbd R1' R2' R3 B2
  have hel := edsOf_len S T ds
  have hea := edsOf_at S T ds
  have hrz := rowK_zero (edsOf S T ds)
  have hra := rowK_all (edsOf S T ds)
  have hrs := rowK_set (edsOf S T ds)
  have hrl := rowK_len (edsOf S T ds)
  have hfin : ∀ w', Below w.heap.size w w' → ∀ A c, w'.ownsRow w.heap.size 47 3 (.slice A ds.length c) ds.length (edCells (edsOf S T ds)) → EdsOut (fun es => ∃ ds, P ds ∧ es = edsOf S T ds) w (.returned (.slice A ds.length c)) w' := fun w' hb A c ho => ⟨edsOf S T ds, A, c, by rw [hel], by rw [hel]; exact ho, hb, ds, HP.out, rfl⟩
  generalize edsOf S T ds = es at *
  have HEA := Lib.hid hea; have HRS := Lib.hid hrs; have HFIN := Lib.hid hfin; have HRZ := Lib.hid hrz; have HRA := Lib.hid hra; have HRL := Lib.hid hrl
  have hdf := fun W (h : CellsR W A5 (dfCells ds)) k (hk : k < ds.length) => dfs_at h hk
  have HDF := Lib.hid hdf
  clear hea hrs hfin hrz hra hrl hdf
  obtain ⟨n, hn⟩ : ∃ n, ds.length = n := ⟨_, rfl⟩
  rw [hn] at hlen hel HFIN
  have HNN := Lib.hid hn; have HEL := Lib.hid hel
  rw [hn]
  clear hn hel
  have hn4 : n ≤ 2000000 := by omega
  go_wp2_with (at_make; refine wpList_make_full _ rfl _ _ _ rfl w.heap.size 47 i1 (.agg #[.int .i64 0, .int .i64 0, .string ⟨#[]⟩]) 3 Tryz.underlying35 hj hy0 hy1 .i64 .i64 _ _ n rfl rfl rfl rfl (by rw [hy2]; omega) (by unfold maxLen; omega) B3.out.size ?_; intro w4 hown4 hg4)
  have hb4 := B3.out.grown hg4 B3.out.size (fun k h => by cases h)
  have hm4 : w4.ownsRow w.heap.size 47 3 (.slice (some ⟨w3.heap.size, 0, none⟩) n n) n (edCells (rowK es 0)) := by
    rw [HRZ.out, HEL.out, ← made_ed]
    exact hown4
  have hbw4 : Below w3.heap.size w3 w4 := (Below.refl _ _).grown hg4 (Nat.le_refl _) (fun k h => by cases h)
  have O4 := Lib.hid hm4; have HBW4 := Lib.hid hbw4
  have hsz4 := hbw4.size
  clear hb4 hm4 hown4 hg4 hbw4
  go_wp2
  go_loopg [31] n (fun q i wr => ∃ k : Nat, q = n - k ∧ k ≤ n ∧ i = .int .i64 k ∧ wr.ownsRow w.heap.size 47 3 (.slice (some ⟨w3.heap.size, 0, none⟩) n n) n (edCells (rowK es k)) ∧ Below w3.heap.size w3 wr)
  case atStart => exact ⟨0, rfl, Nat.zero_le _, rfl, O4.out, HBW4.out⟩
  case round =>
    obtain ⟨k, hq, hk, rfl, hown, hb⟩ := hrel
    have HQ := Lib.hid hq; have HO := Lib.hid hown; have HB := Lib.hid hb
    have hbs := hb.size
    clear hq hown hb
    by_cases hlt : k < n
    · have hkl : k < ds.length := by rw [HNN.out]; exact hlt
      obtain ⟨b, off, hA, hbb, g0, g1, g2, g3⟩ := HDF.out wr (CellsR.below RD.out HB.out (Nat.le_refl _)) k hkl
      subst hA
      have hea := HEA.out k hkl
      have hbd := HBD.out _ (List.getElem_mem hkl)
      have hset := HRS.out k (by rw [HEL.out]; exact hlt)
      generalize ds[k] = d at *
      obtain ⟨q1, q2, q3, q4⟩ := hbd
      rw [hea] at hset
      have HSET := Lib.hid hset
      clear hea hset hkl
      have p1 := HPX.out d.s (by omega)
      have p2 := HPX.out d.e (by omega)
      have hIR := fun W (h : Below w3.heap.size w3 W) => (CellsR.below R2.out h (Nat.le_refl _) : CellsR W A2 _)
      obtain ⟨bo, oo, hA2, hbo3, _⟩ := IntsR.at_ (hIR w3 (Below.refl _ _)) (k := 0) (by rw [HPL.out]; omega)
      subst hA2
      have hps : ∀ W, Below w3.heap.size w3 W → W.cell? ⟨bo, oo + d.s, none⟩ = some (.int .i64 (totB (S.take d.s) : Nat)) := fun W hW => by
        obtain ⟨b9, o9, h9, _, c9⟩ := IntsR.at_ (hIR W hW) (k := d.s) (by rw [HPL.out]; omega)
        injection h9 with h9
        injection h9 with h8 h7
        subst h8 h7
        rw [c9, p1]
      have hpe : ∀ W, Below w3.heap.size w3 W → W.cell? ⟨bo, oo + d.e, none⟩ = some (.int .i64 (totB (S.take d.e) : Nat)) := fun W hW => by
        obtain ⟨b9, o9, h9, _, c9⟩ := IntsR.at_ (hIR W hW) (k := d.e) (by rw [HPL.out]; omega)
        injection h9 with h9
        injection h9 with h8 h7
        subst h8 h7
        rw [c9, p2]
      obtain ⟨A6, hcut, hsub⟩ := strs_cut (P := Tryz.prog) 48 9 i0 Tryz.underlying48 hi hz1 A3 T M c3 d.rs d.re HM.out q3 q4 hcB
      have hsl : ((T.drop d.rs).take (d.re - d.rs)).length = d.re - d.rs := by rw [List.length_take, List.length_drop, HM.out]; omega
      have htb := totB_part T d.rs (d.re - d.rs)
      have hjc : ∀ W, Below w3.heap.size w3 W → Calls Tryz.prog 19 #[.slice A6 (d.re - d.rs) (c3 - d.rs), .string ⟨#[]⟩] W fun e w' => e = .returned (.string (joinB ((T.drop d.rs).take (d.re - d.rs)))) ∧ Below W.heap.size W w' := fun W hW => by
        have := HJ.out W A6 (c3 - d.rs) _ (hsub W (CellsR.below R3'.out hW (Nat.le_refl _))) (by rw [hsl]; omega) (by rw [hsl]; omega) (by omega)
        rw [hsl] at this
        exact this
      have HJC := Lib.hid hjc; have HPS := Lib.hid hps; have HPE := Lib.hid hpe
      clear hjc hps hpe hsl htb hsub hIR p1 p2
      generalize joinB ((T.drop d.rs).take (d.re - d.rs)) = J at *
      generalize hX : totB (S.take d.s) = X at *
      generalize hY : totB (S.take d.e) = Y at *
      clear hX hY
      have hbk := Blk.new wr 54 #[.int .i64 d.s, .int .i64 d.e, .int .i64 d.rs, .int .i64 d.re]
      have hbw : Below w3.heap.size w3 (wr.alloc (.cells #[.int .i64 d.s, .int .i64 d.e, .int .i64 d.rs, .int .i64 d.re] 54)) := HB.out.alloc hbs _
      have hoa := HO.out.alloc (.cells #[.int .i64 d.s, .int .i64 d.e, .int .i64 d.rs, .int .i64 d.re] 54)
      obtain ⟨bx, hbx⟩ : ∃ bx, wr.heap.size = bx := ⟨_, rfl⟩
      rw [hbx] at hbk
      have hgx : w3.heap.size < bx := by rw [← hbx]; exact (HO.out.lt _ rfl).2
      have hwx : bx < (wr.alloc (.cells #[.int .i64 d.s, .int .i64 d.e, .int .i64 d.rs, .int .i64 d.re] 54)).heap.size := by rw [← hbx]; simp
      go_wp2
      generalize hW0 : wr.alloc (.cells #[.int .i64 d.s, .int .i64 d.e, .int .i64 d.rs, .int .i64 d.re] 54) = W0 at *
      have HBK := Lib.hid hbk; have HBW := Lib.hid hbw; have HOA := Lib.hid hoa
      have hs0 := hbw.size
      clear hbk hbw hoa hW0 hbx HO HB g0 g1 g2 g3 hbb hbs
      have hll : (edCells (rowK es k)).length = n * 3 := by rw [edCells_length, HRL.out k (by rw [HEL.out]; exact hk), HEL.out]
      obtain ⟨y0, hy0⟩ : ∃ v, W0.cell? ⟨w3.heap.size, k * 3, none⟩ = some v := ⟨_, by rw [HOA.out.cellAt _ (by omega)]; exact List.getElem?_eq_getElem (by omega)⟩
      obtain ⟨y1, hy1⟩ : ∃ v, W0.cell? ⟨w3.heap.size, k * 3 + 1, none⟩ = some v := ⟨_, by rw [HOA.out.cellAt _ (by omega)]; exact List.getElem?_eq_getElem (by omega)⟩
      obtain ⟨y2, hy2⟩ : ∃ v, W0.cell? ⟨w3.heap.size, k * 3 + 2, none⟩ = some v := ⟨_, by rw [HOA.out.cellAt _ (by omega)]; exact List.getElem?_eq_getElem (by omega)⟩
      have f0 : W0.frozen? ⟨w3.heap.size, k * 3, none⟩ = false := HOA.out.frozenAt _
      have f1 : W0.frozen? ⟨w3.heap.size, k * 3 + 1, none⟩ = false := HOA.out.frozenAt _
      have f2 : W0.frozen? ⟨w3.heap.size, k * 3 + 2, none⟩ = false := HOA.out.frozenAt _
      have b0 : W0.cell? ⟨bx, 0, none⟩ = some (.int .i64 (d.s : Int)) := HBK.out.cell 0
      have b1 : W0.cell? ⟨bx, 1, none⟩ = some (.int .i64 (d.e : Int)) := HBK.out.cell 1
      have b2 : W0.cell? ⟨bx, 2, none⟩ = some (.int .i64 (d.rs : Int)) := HBK.out.cell 2
      have b3 : W0.cell? ⟨bx, 3, none⟩ = some (.int .i64 (d.re : Int)) := HBK.out.cell 3
      have c1 := HPS.out W0 HBW.out
      have c2 := HPE.out W0 HBW.out
      have hbi := Below.refl W0.heap.size W0
      have hg3 : w3.heap.size < W0.heap.size := (HOA.out.lt _ rfl).2
      have hbo : bo < W0.heap.size := World.block_lt_of_cell? _ _ c1
      have i1 : (d.s : Int) < (N : Int) + 1 := by omega
      have i2 : (d.e : Int) < (N : Int) + 1 := by omega
      have i3 : (k : Int) < (n : Int) := by omega
      have i4 : (0 : Int) ≤ (d.s : Int) := by omega
      have i5 : (0 : Int) ≤ (d.e : Int) := by omega
      have i6 : (0 : Int) ≤ (k : Int) := by omega
      have hg4 := hgx
      have n1 : ¬ bx = w3.heap.size := by omega
      have n2 : ¬ w3.heap.size = bx := by omega
      have n3 : ¬ bo = w3.heap.size := by omega
      have n4 : ¬ w3.heap.size = bo := by omega
      clear hll
      go_region_held3 (fun w' => w'.cell? ⟨bx, 0, none⟩ = some (.int .i64 (d.s : Int)) ∧ w'.cell? ⟨bx, 1, none⟩ = some (.int .i64 (d.e : Int)) ∧ w'.cell? ⟨bx, 2, none⟩ = some (.int .i64 (d.rs : Int)) ∧ w'.cell? ⟨bx, 3, none⟩ = some (.int .i64 (d.re : Int)) ∧ w'.cell? ⟨bo, oo + d.s, none⟩ = some (.int .i64 (X : Int)) ∧ w'.cell? ⟨bo, oo + d.e, none⟩ = some (.int .i64 (Y : Int)) ∧ w'.frozen? ⟨w3.heap.size, k * 3, none⟩ = false ∧ w'.frozen? ⟨w3.heap.size, k * 3 + 1, none⟩ = false ∧ w'.frozen? ⟨w3.heap.size, k * 3 + 2, none⟩ = false) (first | go_keep | (simp [*]; done)) (first | (go_at_call 19; refine (HJC.out _ (by first | exact HBW.out | exact HBW.out.drew | exact below_drewN HBW.out _)).mono ?_; rintro e w' ⟨rfl, hbn⟩; have hbn' : Below W0.heap.size W0 w' := hbi.drew.trans hbn; have z0 : w'.cell? ⟨bx, 0, none⟩ = some (.int .i64 (d.s : Int)) := (hbn'.cell (p := ⟨bx, 0, none⟩) hwx).trans b0; have z1 : w'.cell? ⟨bx, 1, none⟩ = some (.int .i64 (d.e : Int)) := (hbn'.cell (p := ⟨bx, 1, none⟩) hwx).trans b1; have z2 : w'.cell? ⟨bx, 2, none⟩ = some (.int .i64 (d.rs : Int)) := (hbn'.cell (p := ⟨bx, 2, none⟩) hwx).trans b2; have z3 : w'.cell? ⟨bx, 3, none⟩ = some (.int .i64 (d.re : Int)) := (hbn'.cell (p := ⟨bx, 3, none⟩) hwx).trans b3; have z4 : w'.cell? ⟨bo, oo + d.s, none⟩ = some (.int .i64 (X : Int)) := (hbn'.cell (p := ⟨bo, oo + d.s, none⟩) hbo).trans c1; have z5 : w'.cell? ⟨bo, oo + d.e, none⟩ = some (.int .i64 (Y : Int)) := (hbn'.cell (p := ⟨bo, oo + d.e, none⟩) hbo).trans c2; have z6 : w'.cell? ⟨w3.heap.size, k * 3, none⟩ = some y0 := (hbn'.cell (p := ⟨w3.heap.size, k * 3, none⟩) hg3).trans hy0; have z7 : w'.cell? ⟨w3.heap.size, k * 3 + 1, none⟩ = some y1 := (hbn'.cell (p := ⟨w3.heap.size, k * 3 + 1, none⟩) hg3).trans hy1; have z8 : w'.cell? ⟨w3.heap.size, k * 3 + 2, none⟩ = some y2 := (hbn'.cell (p := ⟨w3.heap.size, k * 3 + 2, none⟩) hg3).trans hy2; have hoX := own_below HOA.out hbn' (Nat.le_refl _); have z9 : w'.frozen? ⟨w3.heap.size, k * 3, none⟩ = false := hoX.frozenAt _; have z10 : w'.frozen? ⟨w3.heap.size, k * 3 + 1, none⟩ = false := hoX.frozenAt _; have z11 : w'.frozen? ⟨w3.heap.size, k * 3 + 2, none⟩ = false := hoX.frozenAt _; have HOX := Lib.hid hoX; clear hbn hoX))
      obtain ⟨s1, _⟩ := World.ownsRow.stored HOX.out (k * 3) (.int .i64 (X : Int))
      obtain ⟨s2, _⟩ := s1.stored (k * 3 + 1) (.int .i64 (Y : Int))
      obtain ⟨s3, _⟩ := s2.stored (k * 3 + 2) (.string J)
      rw [edCells_put1 (rowK es k) k ⟨X, Y, J⟩ (by rw [HRL.out k (by rw [HEL.out]; exact hk), HEL.out]; exact hlt), HSET.out] at s3
      have hb5 := (((HBW.out.trans (hbn'.mono hs0)).setCell (p := ⟨w3.heap.size, k * 3, none⟩) (Nat.le_refl _) (.int .i64 (X : Int))).setCell (p := ⟨w3.heap.size, k * 3 + 1, none⟩) (Nat.le_refl _) (.int .i64 (Y : Int))).setCell (p := ⟨w3.heap.size, k * 3 + 2, none⟩) (Nat.le_refl _) (.string J)
      have HS3 := Lib.hid s3; have HB5 := Lib.hid hb5
      clear s1 s2 s3 hb5
      go_wp2
      go_roundg (n - (k + 1))
      case measure => have := HQ.out; omega
      case rel => exact ⟨k + 1, rfl, by omega, by go_num, HS3.out, HB5.out⟩
    · obtain rfl : k = n := by omega
      have hown := HO.out
      rw [show rowK es k = es by have := HRA.out; rwa [HEL.out] at this] at hown
      have HO2 := Lib.hid hown
      clear hown HO
      go_wp2
      go_ret
      exact HFIN.out _ (B3.out.trans (HB.out.mono B3.out.size)) _ _ HO2.out
end Go.Proofs.YtgphjnhbheimiaaGreatDoor

namespace Go.Proofs.YtgphjnhbheimiaaGreatDoor
set_option linter.unusedVariables false
open Go.RowKit

/-- where lines are alike -/
def eqL (xs ys : List ByteArray) : EQT := fun i j => decide (sx xs i = sx ys j)
/-- the edits between the lines of two texts, from a chain of pieces that are alike -/
def LinesP (s t : ByteArray) (es : List Ed) : Prop :=
  ∃ ps, Ch (eqL (linesF s) (linesF t)) 0 0 ps (linesF s).length (linesF t).length ∧ QT (eqL (linesF s) (linesF t)) (linesF s).length (linesF t).length 50 ps ∧ es = edsOf (linesF s) (linesF t) (diffsFrom (linesF s).length (linesF t).length 0 0 ps)
/-- edits of the thin package in new memory -/
def EdsOutI (P : List Ed → Prop) (w : World) (e : Ending) (w' : World) : Prop :=
  ∃ es A c, e = .returned (.slice A es.length c) ∧ EdsR w' A es ∧ es.length ≤ c ∧ Below w.heap.size w w' ∧ P es
theorem diffs_most {E : EQT} {N M : Nat} {ps : List Pc} (h : Ch E 0 0 ps N M) : (diffsFrom N M 0 0 ps).length ≤ N + M := by
  have h1 := ch_len h
  have h2 := diffs_len N M ps 0 0
  by_cases h3 : N = 0 ∧ M = 0
  · obtain ⟨rfl, rfl⟩ := h3
    have : ps = [] := List.eq_nil_of_length_eq_zero (by omega)
    subst this
    decide
  · omega
theorem eqL_sx {xs ys : List ByteArray} {i j : Nat} (h : eqL xs ys i j = true) : sx xs i = sx ys j := by simpa [eqL] using h
theorem LinesP.ed {s t : ByteArray} {es : List Ed} (h : LinesP s t es) (hs : s.size ≤ 1000000) (ht : t.size ≤ 1000000) : LinesEd s t es := by
  obtain ⟨ps, h1, h2, rfl⟩ := h
  exact linesEd_of (fun i j h => eqL_sx h) h1 hs ht (diffs_most h1)
theorem LinesP.one {es : List Ed} (h : LinesP ⟨#[97]⟩ ⟨#[98]⟩ es) : es.length = 1 := by
  obtain ⟨ps, h1, h2, rfl⟩ := h
  rw [linesF_a, linesF_b] at h1 ⊢
  have : ps = [] := apart_nilM (fun i j hi hj => by
    have : i = 0 := by simpa using hi
    have : j = 0 := by simpa using hj
    subst_vars
    decide) h1
  subst this
  decide
set_option maxRecDepth 100000 in
set_option maxHeartbeats 1000000 in
theorem linesI_any (s t : ByteArray) (w : World) (hs : s.size ≤ 1000000) (ht : t.size ≤ 1000000)
    (hd : ∀ W A C c d, StrsR W A (linesF s) → StrsR W C (linesF t) → (linesF s).length ≤ c → (linesF t).length ≤ d → Calls Tryz.prog 18 #[.slice A (linesF s).length c, .slice C (linesF t).length d] W (DsOut (linesF s).length (linesF t).length (fun ds => ∃ ps, Ch (eqL (linesF s) (linesF t)) 0 0 ps (linesF s).length (linesF t).length ∧ QT (eqL (linesF s) (linesF t)) (linesF s).length (linesF t).length 50 ps ∧ ds = diffsFrom (linesF s).length (linesF t).length 0 0 ps) W)) :
    Calls Tryz.prog 9 #[.string s, .string t] w (EdsOutI (LinesP s t) w) := by
  have hD := linesD_any s t w hs ht _ hd
  have hT := fun A c es W (h : EdsR W A es) (hl : es.length ≤ 20000000) => told_any A c es W h hl
  have HD := Lib.hid hD; have HT := Lib.hid hT; clear hD hT hd
  unfold EdsOut at HD
  go_enter Tryz.func9, Tryz.ntmps9
  go_wp2_with fail
  refine HD.out.mono ?_
  rintro e w1 ⟨es, A, c, rfl, o1, b1, ds, ⟨ps, q1, q2, rfl⟩, q3⟩
  have hp : LinesP s t es := ⟨ps, q1, q2, q3⟩
  have he := hp.ed hs ht
  have HP := Lib.hid hp
  have hl := he.len
  have B1 := Lib.hid b1
  have O1 := Lib.hid (CellsR.of_own o1)
  have hsz := b1.size
  clear q1 q2 q3 hp he o1 b1
  obtain ⟨n, hn⟩ : ∃ n, es.length = n := ⟨_, rfl⟩
  have hTT := HT.out A c es w1 O1.out (by omega)
  rw [hn] at hTT ⊢
  have HTT := Lib.hid hTT
  have HN := Lib.hid hn
  clear hTT hn
  go_wp2_with fail
  refine HTT.out.mono ?_
  rintro e w2 ⟨A2, c2, rfl, o2, b2⟩
  have B2 := Lib.hid (B1.out.trans (b2.mono hsz))
  clear b2
  go_wp2
  go_ret
  exact ⟨es, A2, c2, by rw [HN.out]; rfl, CellsR.of_own o2, by rw [HN.out]; exact own_cap2 o2, B2.out, HP.out⟩
end Go.Proofs.YtgphjnhbheimiaaGreatDoor

namespace Go.Proofs.YtgphjnhbheimiaaGreatDoor
set_option linter.unusedVariables false
open Go.RowKit

theorem implLines_any (s t : ByteArray) (w : World) (hs : s.size ≤ 1000000) (ht : t.size ≤ 1000000) :
    Calls Tryz.prog 9 #[.string s, .string t] w (EdsOutI (LinesP s t) w) := by
  refine linesI_any s t w hs ht (fun W A C c d hx hy hc hd => ?_)
  have l1 := linesF_len s
  have l2 := linesF_len t
  refine (ldifLines (E := eqL (linesF s) (linesF t)) (fun _ _ _ _ => rfl) hx hy hc hd (by omega) (by omega)).mono ?_
  rintro e w' ⟨ps, A', c', rfl, o, b, h1, h2⟩
  obtain ⟨k, hk⟩ := lead_chain h1
  exact ⟨_, A', c', rfl, CellsR.of_own o, b, ⟨ps, h1, h2, rfl⟩, diffs_most h1, lead_bounds hk⟩
end Go.Proofs.YtgphjnhbheimiaaGreatDoor
