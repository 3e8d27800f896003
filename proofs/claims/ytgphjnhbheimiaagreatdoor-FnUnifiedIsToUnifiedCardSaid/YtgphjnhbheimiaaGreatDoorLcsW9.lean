/-
  The walks of newtriang and compute, over any pair of sequences and any road. No condition but bounds.
-/
import Derived.Test.YtgphjnhbheimiaaGreatDoorLcsW8
namespace Go.Proofs.YtgphjnhbheimiaaGreatDoor
set_option linter.unusedVariables false
open Go.RowKit

/-- what newtriang gives: a table without numbers -/
def NewT (w : World) (e : Ending) (w' : World) : Prop :=
  ∃ v rows, e = .returned (.agg #[v]) ∧ Tab w' w.heap.size v rows ∧ Below w.heap.size w w' ∧ rowBlks rows = [] ∧ Shape rows ∧ rows.length ≤ 2002
theorem madeNil_own (w : World) (n : Nat) (hn : n ≤ 2000) : (w.alloc (.cells (madeCells #[.slice none 0 0] n) 30)).ownsRow w.heap.size 30 1 (.slice (some ⟨w.heap.size, 0, none⟩) n n) n ((List.replicate n ((0, []) : LRow)).map rowCell) := by
  have h := World.ownsRow_lit (size := 1) (e := 30) (base := w.heap.size) w (madeCells #[.slice none 0 0] n) n (Nat.le_refl _) (by unfold maxLen; omega) (by simp [madeCells])
  have h3 := toList_madeCells_one (.slice none 0 0) n
  rw [h3] at h
  have : (List.replicate n ((0, []) : LRow)).map rowCell = List.replicate n (.slice none 0 0) := by simp [rowCell]
  rw [this]
  exact h
theorem rowAt_replicate (n d : Nat) : (rowAt (List.replicate n ((0, []) : LRow)) d).2 = [] := by
  unfold rowAt
  rw [List.getD_eq_getElem?_getD]
  by_cases h : d < n
  · simp [h]
  · rw [List.getElem?_eq_none (by simp; omega)]; rfl

set_option maxRecDepth 100000 in
set_option maxHeartbeats 400000 in
theorem newtriang_any (w : World) (n : Nat) (h1 : 1 ≤ n) (h2 : n ≤ 2000) :
    Calls Tryz.prog 47 #[.int .i64 n] w (NewT w) := by
  by_cases hn : (n : Int) < 100
  · have hmk : ∀ w, (Instr.makeSlice 102 (.int .i64 (n : Int)) (.int .i64 (n : Int))).run Tryz.prog w = .ok (.slice (some ⟨w.heap.size, 0, none⟩) n n) (w.alloc (.cells (madeCells #[.slice none 0 0] n) 30)) := fun w =>
      run_make_row' (P := Tryz.prog) 102 30 (.slice none 0 0) 24 Tryz.underlying102 infoLI rfl .i64 .i64 n (by omega) (by omega) w
    obtain ⟨O, hO⟩ : ∃ O, Obj.cells (madeCells #[Value.slice none 0 0] n) 30 = O := ⟨_, rfl⟩
    rw [hO] at hmk
    have HO := Lib.hid hO; clear hO
    go_enter Tryz.func47, Tryz.ntmps47
    go_wp2
    refine bodyPost_ret (v := .agg #[.slice (some ⟨w.heap.size + 1, 0, none⟩) n n]) (by simp [results, Tryz.results47, go_sem]) rfl ?_
    have hw := madeNil_own (w.alloc (.cells #[.slice (some ⟨w.heap.size + 1, 0, none⟩) n n] 104)) n h2
    rw [HO.out] at hw
    simp only [World.size_alloc] at hw
    exact ⟨_, List.replicate n (0, []), rfl, ⟨own_mono (by simpa using hw) (by omega), fun r hr hne => by
      have := List.eq_of_mem_replicate hr
      subst this
      exact absurd rfl hne⟩, ((Below.refl _ _).alloc (Nat.le_refl _) _).alloc (by simp) _, by simp [rowBlks], fun d => .inl (rowAt_replicate n d), by simp; omega⟩
  · go_enter Tryz.func47, Tryz.ntmps47
    go_wp2
    refine bodyPost_ret (v := .agg #[.slice none 0 0]) (by simp [results, Tryz.results47, go_sem]) rfl ?_
    exact ⟨_, [], rfl, ⟨World.ownsRow_nil _ _ _ _, fun r hr => by simp at hr⟩, (Below.refl _ _).alloc (Nat.le_refl _) _, rfl, fun d => .inl rfl, by simp⟩

/-- what a road gives: a chain of pieces -/
def AlgoOut (E : EQT) (N M B : Nat) (Q : List Pc → Prop) (w : World) (e : Ending) (w' : World) : Prop :=
  ∃ ps v, e = .returned v ∧ w'.ownsRow w.heap.size 131 3 v ps.length (pcCells ps) ∧ Below B w w' ∧ Ch E 0 0 ps N M ∧ Q ps
/-- what compute gives: the pieces, and the differences between them -/
def CompOut (E : EQT) (N M : Nat) (Q : List Pc → Prop) (w : World) (e : Ending) (w' : World) : Prop :=
  ∃ ps A c v, e = .returned (.tuple #[.slice A (diffsFrom N M 0 0 ps).length c, v]) ∧ w'.ownsRow w.heap.size 54 4 (.slice A (diffsFrom N M 0 0 ps).length c) (diffsFrom N M 0 0 ps).length (dfCells (diffsFrom N M 0 0 ps)) ∧
    w'.ownsRow w.heap.size 131 3 v ps.length (pcCells ps) ∧ Below w.heap.size w w' ∧ Ch E 0 0 ps N M ∧ Q ps

theorem Tab.mono {w : World} {B B' : Nat} {v : Value} {rows : List LRow} (h : Tab w B v rows) (hB : B' ≤ B) : Tab w B' v rows :=
  ⟨own_mono h.own hB, fun r hr hne => ⟨by have := (h.row r hr hne).1; omega, (h.row r hr hne).2⟩⟩
theorem gst_new {w1 w2 w3 : World} {B : Nat} {K : GK} {vf vb : Value} {rf rb : List LRow} (h1 : Tab w2 w1.heap.size vf rf) (h2 : Tab w3 w2.heap.size vb rb) (hb1 : Below w2.heap.size w2 w3) (hB : B ≤ w1.heap.size) (hb0 : w1.heap.size ≤ w2.heap.size)
    (n1 : rowBlks rf = []) (n2 : rowBlks rb = []) (s1 : Shape rf) (s2 : Shape rb) (l1 : rf.length ≤ 2002) (l2 : rb.length ≤ 2002) (o : Obj) (ho : o = .cells (gcells K vf vb) 107) :
    GSt (w3.alloc o) B w3.heap.size K vf vb rf rb := by
  subst ho
  have hsz := hb1.size
  have ha := (Below.refl w3.heap.size w3).alloc (Nat.le_refl _) (.cells (gcells K vf vb) 107)
  refine ⟨Blk.new w3 _ _, ((h1.below hb1 (Nat.le_refl _)).below ha (Nat.le_refl _)).mono hB, (h2.below ha (Nat.le_refl _)).mono (by omega), by omega, by rw [n1, n2]; exact List.nodup_nil, fun q hq hq2 => ?_, s1, s2, l1, l2⟩
  have h3 := (h1.own.lt q hq).2
  have h4 := (h2.own.lt q hq2).1
  omega

set_option maxRecDepth 100000 in
set_option maxHeartbeats 1000000 in
theorem compute_any {w : World} {T fP fS fL fA N M lim : Nat} {rv : Value} {E : EQT} {Q : List Pc → Prop} (hS : SeqC w w.heap.size T rv fP fS E N M)
    (mL : ∀ w, Sem.run Tryz.prog (method 300 T rv ("loop.example" ++ String.singleton (Char.ofNat 47) ++ "pub-g01452" ++ String.singleton (Char.ofNat 47) ++ "pub" ++ String.singleton (Char.ofNat 47) ++ "xdiff_lcs." ++ "lengths")) w = .ok (fL, rv) w) (eL : ∀ args w, (callFunc fL args).run Tryz.prog w = .ok (.enter fL args) w) (eA : ∀ args w, (callFunc fA args).run Tryz.prog w = .ok (.enter fA args) w)
    (cL : ∀ W, Below w.heap.size w W → Calls Tryz.prog fL #[rv] W fun e w' => e = .returned (.tuple #[.int .i64 N, .int .i64 M]) ∧ Below W.heap.size W w')
    (cA : ∀ W g K vf vb rf rb, GSt W w.heap.size g K vf vb rf rb → Below w.heap.size w W → K.sq = .iface T rv → K.ux = (N : Int) → K.uy = (M : Int) → K.dl = (N : Int) - (M : Int) → K.lim = (lim : Int) → Calls Tryz.prog fA #[.pointer (some ⟨g, 0, none⟩)] W (AlgoOut E N M w.heap.size Q W))
    (h1 : 1 ≤ lim) (h2 : lim ≤ 2000) :
    Calls Tryz.prog 35 #[.iface T rv, .func (.func fA) #[] #[], .int .i64 lim] w (CompOut E N M Q w) := by
  simp only [String.reduceSingleton, String.reduceAppend, Char.isValue] at mL
  have hN := hS.nA
  have hM := hS.nM
  have HCL := Lib.hid cL; have HCA := Lib.hid cA
  clear cL cA hS
  have k1 : ¬ (lim : Int) ≤ 0 := by omega
  go_enter Tryz.func35, Tryz.ntmps35
  go_wp2_with (fail)
  refine (HCL.out _ (Below.refl _ _)).mono ?_
  rintro e w1 ⟨rfl, hb1⟩
  go_wp2_with (fail)
  refine (newtriang_any _ lim h1 h2).mono ?_
  rintro e w2 ⟨vf, rf, rfl, t1, b2, n1, s1, l1⟩
  have T1 := Lib.hid t1; have B2 := Lib.hid b2; have N1 := Lib.hid n1; have S1 := Lib.hid s1; have L1 := Lib.hid l1
  clear t1 b2 n1 s1 l1
  go_wp2_with (fail)
  refine (newtriang_any _ lim h1 h2).mono ?_
  rintro e w3 ⟨vb, rb, rfl, t1, b3, n1, s1, l1⟩
  have T2 := Lib.hid t1; have B3 := Lib.hid b3; have N2 := Lib.hid n1; have S2 := Lib.hid s1; have L2 := Lib.hid l1
  clear t1 b3 n1 s1 l1
  go_wp2_with (fail)
  have hsz1 := hb1.size
  have hsz2 := B2.out.size
  have hsz3 := B3.out.size
  have hbw : Below w.heap.size w w3 := (hb1.trans (B2.out.mono hsz1)).trans (B3.out.mono (by omega))
  have hgs := gst_new (B := w.heap.size) (K := ⟨.iface T rv, lim, N, M, (N : Int) - (M : Int)⟩) T1.out T2.out B3.out hsz1 hsz2 N1.out N2.out S1.out S2.out L1.out L2.out _ rfl
  have hca := HCA.out _ _ _ _ _ _ _ hgs (hbw.alloc (by omega) _) rfl rfl rfl rfl rfl
  have HGS := Lib.hid hca; clear hgs hca
  refine HGS.out.mono ?_
  rintro e w4 ⟨ps, v, rfl, ho4, hb4, hch4, hq4⟩
  have HO4 := Lib.hid ho4; have HB4 := Lib.hid hb4; have HCH4 := Lib.hid hch4; have HQ4 := Lib.hid hq4
  clear ho4 hb4 hch4 hq4
  obtain ⟨A4, c4, rfl⟩ := own_form HO4.out
  have hbw4 : Below w.heap.size w w4 := (hbw.alloc (by omega) _).trans HB4.out
  have hlen := ch_len HCH4.out
  have htd := toDiffs_any w4 A4 c4 ps N M (CellsR.of_own HO4.out) hN hM (by omega) (fun p hp => by have := HCH4.out.mem p hp; omega)
  have HTD := Lib.hid htd
  have HBW4 := Lib.hid hbw4; have HBW := Lib.hid hbw
  clear hlen htd hbw4 hbw
  go_wp2_with (fail)
  refine HTD.out.mono ?_
  rintro e w5 ⟨A5, c5, rfl, ho5, hb5⟩
  have HO5 := Lib.hid ho5; have HB5 := Lib.hid hb5; clear ho5 hb5
  go_wp2
  go_ret2
  have hs4 := HBW4.out.size
  refine ⟨ps, A5, c5, .slice A4 ps.length c4, rfl, own_mono HO5.out hs4, own_mono (own_below HO4.out HB5.out (Nat.le_refl _)) (by simp; omega), HBW4.out.trans (HB5.out.mono hs4), HCH4.out, HQ4.out⟩
end Go.Proofs.YtgphjnhbheimiaaGreatDoor
