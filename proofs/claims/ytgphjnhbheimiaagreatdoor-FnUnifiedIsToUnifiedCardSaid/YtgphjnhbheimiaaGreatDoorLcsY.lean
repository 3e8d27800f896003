/-
  The walk of (lcs).fix: pieces that do not overlap, sorted. No condition but bounds.
-/
import Derived.Test.YtgphjnhbheimiaaGreatDoorLcsO
import Derived.Test.YtgphjnhbheimiaaGreatDoorSeA
import Derived.Test.YtgphjnhbheimiaaGreatDoorLcsW8
import Derived.Laws.MakeOwn
namespace Go.Proofs.YtgphjnhbheimiaaGreatDoor
set_option linter.unusedVariables false
open Go.RowKit

/-- what overlap's answer means for pieces -/
theorem ov_pc {e p : Pc} {d X Y L : Int} (h : OvI e.x e.y e.l p.x p.y p.l d X Y L) : (d = 0 ∧ L ≤ 0) ∨ d = 3 ∨ ((d = 1 ∨ d = 2) ∧ ∃ q : Pc, X = (q.x : Int) ∧ Y = (q.y : Int) ∧ L = (q.l : Int) ∧ Part q p ∧ Apart e q) := by
  rcases h with h | h | ⟨h1, k, h2, h3, h4, h5, h6, h7⟩
  · exact .inl h
  · exact .inr (.inl h)
  · refine .inr (.inr ⟨h1, ⟨p.x + k.toNat, p.y + k.toNat, L.toNat⟩, ?_, ?_, ?_, ⟨?_, k.toNat, rfl, rfl, ?_⟩, ?_⟩)
    · show X = ((p.x + k.toNat : Nat) : Int); omega
    · show Y = ((p.y + k.toNat : Nat) : Int); omega
    · show L = ((L.toNat : Nat) : Int); omega
    · show 0 < L.toNat; omega
    · show k.toNat + L.toNat ≤ p.l; omega
    · rcases h7 with h7 | h7
      · exact .inr ⟨by show p.x + k.toNat + L.toNat ≤ e.x; omega, by show p.y + k.toNat + L.toNat ≤ e.y; omega⟩
      · exact .inl ⟨by show e.x + e.l ≤ p.x + k.toNat; omega, by show e.y + e.l ≤ p.y + k.toNat; omega⟩
theorem own_at {w : World} {b0 e blk c n : Nat} {ps : List Pc} (h : w.ownsRow b0 e 3 (.slice (some ⟨blk, 0, none⟩) n c) n (pcCells ps)) (hn : ps.length = n) {k : Nat} (hk : k < ps.length) :
    blk < w.heap.size ∧ w.cell? ⟨blk, k * 3, none⟩ = some (.int .i64 ps[k].x) ∧ w.cell? ⟨blk, k * 3 + 1, none⟩ = some (.int .i64 ps[k].y) ∧ w.cell? ⟨blk, k * 3 + 2, none⟩ = some (.int .i64 ps[k].l) := by
  obtain ⟨b, off, hA, h1, h2, h3, h4⟩ := pcs_at (CellsR.of_own h) hk
  injection hA with hA
  injection hA with hA hB
  subst hA hB
  simp only [Nat.zero_add] at h2 h3 h4
  exact ⟨h1, h2, h3, h4⟩
theorem pc_lit (w : World) (t : TypeId) (p : Pc) : CellsR (w.alloc (.cells #[.int .i64 (p.x : Int), .int .i64 (p.y : Int), .int .i64 (p.l : Int)] t)) (some ⟨w.heap.size, 0, none⟩) (pcCells [p]) := by
  refine .inr ⟨_, _, rfl, fun j u hu => ?_⟩
  have := (Blk.new w t #[.int .i64 (p.x : Int), .int .i64 (p.y : Int), .int .i64 (p.l : Int)]).cell (0 + j)
  rw [this]
  simpa [pcCells, Pc.cells] using hu
theorem y_store {w2 wr w5 : World} {nb n : Nat} {v3 : Value} {xs : List Value} {t : TypeId} {o : Obj} (h : Below w2.heap.size w2 wr) (ho : wr.ownsRow w2.heap.size 131 3 v3 n xs) (hb5 : Below (wr.alloc o).heap.size (wr.alloc o) w5) (hne : ∀ k, v3.ownBlock = some k → k < nb) (hnb : w2.heap.size ≤ nb) {a b c : Value} (hk : Blk w5 nb t #[a, b, c]) (u0 u1 u2 : Value) :
    Below w2.heap.size w2 (((w5.setCell ⟨nb, 0, none⟩ u0).setCell ⟨nb, 1, none⟩ u1).setCell ⟨nb, 2, none⟩ u2) ∧ (((w5.setCell ⟨nb, 0, none⟩ u0).setCell ⟨nb, 1, none⟩ u1).setCell ⟨nb, 2, none⟩ u2).ownsRow w2.heap.size 131 3 v3 n xs ∧
    Blk (((w5.setCell ⟨nb, 0, none⟩ u0).setCell ⟨nb, 1, none⟩ u1).setCell ⟨nb, 2, none⟩ u2) nb t #[u0, u1, u2] := by
  have hs := h.size
  have h1 : Below w2.heap.size w2 w5 := (h.alloc hs o).trans (hb5.mono (by simp; omega))
  refine ⟨((h1.setCell hnb _).setCell hnb _).setCell hnb _, ?_, ?_⟩
  · have h2 : w5.ownsRow w2.heap.size 131 3 v3 n xs := own_below (ho.alloc o) hb5 (Nat.le_refl _)
    have hf : Fr (fun q => q = nb) w5 (((w5.setCell ⟨nb, 0, none⟩ u0).setCell ⟨nb, 1, none⟩ u1).setCell ⟨nb, 2, none⟩ u2) := (((Fr.refl (fun q => q = nb) w5).setCell (p := ⟨nb, 0, none⟩) (.inl rfl) u0).setCell (p := ⟨nb, 1, none⟩) (.inl rfl) u1).setCell (p := ⟨nb, 2, none⟩) (.inl rfl) u2
    exact own_fr h2 hf (fun g hg hgn => by have := hne g hg; omega)
  · exact ((hk.set_ 0 u0).set_ 1 u1).set_ 2 u2
/-- the relation of fix's outer loop -/
def YLoop (E : EQT) (N M n : Nat) (us : List Pc) (w2 : World) (q : Nat) (v3 v4 : Value) (wr : World) : Prop :=
  ∃ (i : Nat) (ts : List Pc), v4 = .int .i64 (i : Int) ∧ 1 ≤ i ∧ i ≤ n ∧ q = n - i ∧ ts.length ≤ i ∧ wr.ownsRow w2.heap.size 131 3 v3 ts.length (pcCells ts) ∧ Kept2 E N M ts ∧ Below w2.heap.size w2 wr ∧ ts = fixT us (i - 1)
/-- the relation of fix's inner loop -/
def YIn (ts : List Pc) (p : Pc) (w2 : World) (v3 : Value) (nb : Nat) (q : Nat) (v5 v37 : Value) (wi : World) : Prop :=
  ∃ (t : Nat) (d : Int) (x : Pc), v5 = .int .i64 d ∧ v37 = .int .i64 (t : Int) ∧ t ≤ ts.length ∧ q = ts.length - t ∧ (d = 0 ∨ d = 1 ∨ d = 2) ∧ Part x p ∧ (∀ k (hk : k < ts.length), k < t → Apart ts[k] x) ∧ Blk wi nb 131 #[.int .i64 x.x, .int .i64 x.y, .int .i64 x.l] ∧
    Below w2.heap.size w2 wi ∧ wi.ownsRow w2.heap.size 131 3 v3 ts.length (pcCells ts) ∧ inY (ts.drop t) x = inY ts p
/-- what fix's answer is -/
def YOut (E : EQT) (N M b0 : Nat) (ps : List Pc) (w : World) (e : Ending) (w' : World) : Prop :=
  ∃ qs v', e = .returned v' ∧ w'.ownsRow b0 131 3 v' qs.length (pcCells qs) ∧ Below b0 w w' ∧ Ch E 0 0 qs N M ∧ qs = fixF ps
theorem fixT_next {us ts : List Pc} {i : Nat} {p : Pc} (hi : 1 ≤ i) (hp : us.getD i default = p) (ht : ts = fixT us (i - 1)) : fixT us (i + 1 - 1) = stepY ts p := by
  obtain ⟨k, rfl⟩ : ∃ k, i = k + 1 := ⟨i - 1, by omega⟩
  rw [ht, ← hp]
  rfl

set_option maxRecDepth 100000 in
set_option maxHeartbeats 2000000 in
theorem fix_any {E : EQT} {N M : Nat} (hN : N ≤ 1000001) (hM : M ≤ 1000001) (b0 : Nat) (W : World) (v : Value) (ps : List Pc) (hb : b0 ≤ W.heap.size) (hr : W.ownsRow b0 131 3 v ps.length (pcCells ps)) (hall : ∀ p ∈ ps, p.ok E ∧ p.x + p.l ≤ N ∧ p.y + p.l ≤ M) (hl : ps.length ≤ 2000002) :
    Calls Tryz.prog 59 #[v] W (YOut E N M b0 ps W) := by
  obtain ⟨n, hn⟩ : ∃ n, ps.length = n := ⟨_, rfl⟩
  by_cases hn0 : n = 0
  · have hp0 : ps = [] := List.eq_nil_of_length_eq_zero (hn.trans hn0)
    subst hp0
    obtain ⟨A, c, rfl⟩ := own_form hr
    clear hr hall hn hl
    go_enter Tryz.func59, Tryz.ntmps59
    go_wp2
    go_ret
    exact ⟨[], _, rfl, World.ownsRow_nil _ _ _ _, (Below.refl _ _).alloc hb _, ⟨Nat.zero_le _, Nat.zero_le _⟩, by unfold fixF; rw [if_pos rfl]⟩
  · have hn1 : 1 ≤ n := by omega
    rcases own_nil_or hr with ⟨_, h⟩ | ⟨blk, c, rfl⟩
    · subst h; exfalso; simp at hn; omega
    · rw [hn] at hr hl
      obtain ⟨W1, hW1⟩ : ∃ W1, W.alloc (.cells #[.slice (some ⟨blk, 0, none⟩) ps.length c] 86) = W1 := ⟨_, rfl⟩
      rw [hn] at hW1 ⊢
      have hb1 : Below W.heap.size W W1 := by rw [← hW1]; exact (Below.refl _ _).alloc (Nat.le_refl _) _
      have hr1 : W1.ownsRow b0 131 3 (.slice (some ⟨blk, 0, none⟩) n c) n (pcCells ps) := by rw [← hW1]; exact hr.alloc _
      have hB : W1.cell? ⟨W.heap.size, 0, none⟩ = some (.slice (some ⟨blk, 0, none⟩) n c) := by rw [← hW1]; exact box_cell _ _ _
      have hB1 : W.heap.size < W1.heap.size := by rw [← hW1]; simp
      have hs := sliceL (b0 := b0) (Bs := W.heap.size) (ps := ps) (by rw [hn]; exact hr1) (by omega) hB hB1 (fun k hk => by have := (hr.lt k hk).2; omega)
      have hne : some W.heap.size ≠ (Value.slice (some ⟨blk, 0, none⟩) n c).ownBlock := fun h => by have := (hr.lt _ h.symm).2; omega
      have hbl : ∀ k, (Value.slice (some ⟨blk, 0, none⟩) n c).ownBlock = some k → b0 ≤ k := fun k hk => (hr.lt k hk).1
      clear hr hr1
      have HB := Lib.hid hB; have HS := Lib.hid hs; have HW1 := Lib.hid hW1; have HB1 := Lib.hid hb1; have HN := Lib.hid hn; have HALL := Lib.hid hall; have HBL := Lib.hid hbl; have HNE := Lib.hid hne
      clear hs hb1 hn hall hbl hne
      go_enter Tryz.func59, Tryz.ntmps59
      go_wp2_with (fail)
      clear hW1
      refine HS.out.mono ?_
      rintro e w2 ⟨rfl, us, hus, hp, hst, hown, hg⟩
      have hc2 : w2.cell? ⟨W.heap.size, 0, none⟩ = some (.slice (some ⟨blk, 0, none⟩) n c) := hg.cell HB.out HNE.out
      have hc2lt : W.heap.size < w2.heap.size := by have := hg.size; omega
      have hul : us.length = n := by rw [hp.length_eq]; exact HN.out
      rw [hul] at hown
      have hb2 : Below b0 W w2 := (HB1.out.mono hb).grown hg (by omega) HBL.out
      have hall2 : ∀ p ∈ us, p.ok E ∧ p.x + p.l ≤ N ∧ p.y + p.l ≤ M := fun p hq => HALL.out p (hp.mem_iff.1 hq)
      have hb02 : b0 ≤ w2.heap.size := by have := hb2.size; omega
      obtain ⟨hbk, z1, z2, z3⟩ := own_at hown hul (k := 0) (by omega)
      have hm0 := hall2 us[0] (List.getElem_mem _)
      have hT0 : [us[0]] = fixT us (1 - 1) := by
        have h := List.take_succ_eq_append_getElem (l := us) (i := 0) (by omega)
        show [us[0]] = us.take (0 + 1)
        rw [h]
        rfl
      have hfix : ∀ ts us', ts = fixT us (n - 1) → us' = srt ltS ts → us' = fixF ps := fun ts us' h1 h2 => by
        unfold fixF
        rw [if_neg (fun h => by subst h; have := HN.out; simp at this; omega), HN.out, ← hus, h2, h1]
      have HFIX := Lib.hid hfix
      obtain ⟨p0, hp0⟩ : ∃ p, us[0] = p := ⟨_, rfl⟩
      rw [hp0] at hT0
      have HT0 := Lib.hid hT0
      rw [hp0] at z1 z2 z3 hm0
      simp only [Nat.zero_mul, Nat.zero_add] at z1 z2 z3
      have HOWN := Lib.hid hown; have HB2 := Lib.hid hb2; have HALL2 := Lib.hid hall2; have HUL := Lib.hid hul; have HM0 := Lib.hid hm0
      clear hus hT0 hfix hp hst hown hg hb2 hall2 hul hm0 hp0 hB HS HB HNE HALL HN
      obtain ⟨i0, hi, hz0, hz1, hz2⟩ := info_parts infoG
      obtain ⟨w3, hmk, hown3, hg3⟩ := run_make_own (P := Tryz.prog) (w := w2) w2.heap.size 86 131 i0 _ 3 Tryz.underlying86 hi hz0 hz1 .i64 .i64 n (by rw [hz2]; omega) (by unfold maxLen; omega) (Nat.le_refl _)
      have hsz3 := hg3.size
      have d2 : w3.cell? ⟨W.heap.size, 0, none⟩ = some (.slice (some ⟨blk, 0, none⟩) n c) := hg3.cell hc2 (by simp)
      have y1 : w3.cell? ⟨blk, 0, none⟩ = some (.int .i64 p0.x) := hg3.cell z1 (by simp)
      have y2 : w3.cell? ⟨blk, 1, none⟩ = some (.int .i64 p0.y) := hg3.cell z2 (by simp)
      have y3 : w3.cell? ⟨blk, 2, none⟩ = some (.int .i64 p0.l) := hg3.cell z3 (by simp)
      have HOWN3 := Lib.hid hown3; have HG3 := Lib.hid hg3
      clear hown3 hg3
      go_wp2_with (at_builtin; refine wpList_append_any _ rfl (.tmp 19) (.tmp 23) _ rfl w2.heap.size 131 i0 _ 3 24 Tryz.underlying86 hi hz0 hz1 hz2 rfl (by omega) (.slice (some ⟨w2.heap.size, 0, none⟩) 0 n) 0 [] rfl (HOWN3.out.alloc _) (some ⟨w3.heap.size, 0, none⟩) 1 1 (pcCells [p0]) rfl (pc_lit w3 131 p0) rfl (pcCells_one _) (by unfold maxLen; omega) (by omega) (by simp; omega) ?_; intro A4 c4 w4 hown4 hg4 hat4; have HOWN4 := Lib.hid hown4; have HG4 := Lib.hid hg4; clear hown4 hg4 hat4)
      have hb4 : Below w2.heap.size w2 w4 := (((Below.refl _ _).grown HG3.out (Nat.le_refl _) (by simp)).alloc (by omega) _).grown HG4.out (by simp; omega) (by intro k hk; simp [Value.ownBlock] at hk; omega)
      have HB4 := Lib.hid hb4; clear hb4
      go_loopg [3, 4] (n - 1) (fun q v3 v4 wr => YLoop E N M n us w2 q v3 v4 wr)
      case atStart => exact ⟨1, [p0], rfl, Nat.le_refl _, hn1, rfl, Nat.le_refl _, by simpa using HOWN4.out, Kept2.one HM0.out.1 HM0.out.2, HB4.out, HT0.out⟩
      case round =>
        clear d2 y1 y2 y3 z1 z2 z3 HOWN3 HG3 HOWN4 HG4 HB4 hmk HM0 hbk hsz3
        obtain ⟨i, ts, rfl, h1i, hin, hq, hts, hown, hkept, hbel, hfx⟩ := hrel
        have HFX := Lib.hid hfx; clear hfx
        have e2 : wr.cell? ⟨W.heap.size, 0, none⟩ = some (.slice (some ⟨blk, 0, none⟩) n c) := (hbel.cell (by exact hc2lt)).trans hc2
        have hbs := hbel.size
        obtain ⟨m, hm⟩ : ∃ m, ts.length = m := ⟨_, rfl⟩
        have HQ := Lib.hid hq; have HO := Lib.hid hown; have HK := Lib.hid hkept; have HKT := Lib.hid hkept.all; have HBEL := Lib.hid hbel
        obtain ⟨A3, c3, rfl⟩ := own_form hown
        rw [hm] at hts HO ⊢
        have HMM := Lib.hid hm
        clear hq hown hkept hbel hm
        by_cases hlt : i < n
        · have hiu : i < us.length := by rw [HUL.out]; exact hlt
          obtain ⟨hbk, z1, z2, z3⟩ := own_at (own_below HOWN.out HBEL.out (Nat.le_refl _)) HUL.out hiu
          have hm1 := HALL2.out us[i] (List.getElem_mem _)
          have hgd : us.getD i default = us[i] := by simp [hiu]
          obtain ⟨p, hp⟩ : ∃ p, us[i] = p := ⟨_, rfl⟩
          rw [hp] at hgd
          have hnx := fixT_next h1i hgd HFX.out
          have HNX := Lib.hid hnx; clear hgd hnx
          rw [hp] at z1 z2 z3 hm1
          have HM1 := Lib.hid hm1
          have hpl : 0 < p.l := hm1.1.1
          obtain ⟨hpx, hpy⟩ : p.x + p.l ≤ 1000001 ∧ p.y + p.l ≤ 1000001 := ⟨by have := hm1.2.1; omega, by have := hm1.2.2; omega⟩
          clear hp hm1
          have hnb2 : ∀ k, (Value.slice A3 m c3).ownBlock = some k → k < wr.heap.size := fun k hk => (HO.out.lt k hk).2
          have HNB2 := Lib.hid hnb2; clear hnb2
          obtain ⟨wo, hwo⟩ : ∃ wo, wr.alloc (.cells #[.int .i64 p.x, .int .i64 p.y, .int .i64 p.l] 131) = wo := ⟨_, rfl⟩
          have hblk0 : Blk wo wr.heap.size 131 #[.int .i64 p.x, .int .i64 p.y, .int .i64 p.l] := by rw [← hwo]; exact Blk.new _ _ _
          have hbel0 : Below w2.heap.size w2 wo := by rw [← hwo]; exact HBEL.out.alloc hbs _
          have hown0 : wo.ownsRow w2.heap.size 131 3 (.slice A3 m c3) m (pcCells ts) := by rw [← hwo]; exact HO.out.alloc _
          have HBLK0 := Lib.hid hblk0; have HBEL0 := Lib.hid hbel0; have HOWN0 := Lib.hid hown0
          clear hblk0 hbel0 hown0
          obtain ⟨nb, hnb⟩ : ∃ nb, wr.heap.size = nb := ⟨_, rfl⟩
          rw [hnb] at HBLK0 HNB2
          have hnbs : w2.heap.size ≤ nb := by omega
          go_wp2
          clear hwo hnb
          go_loopg [5, 37] m (fun q v5 v37 wi => YIn ts p w2 (.slice A3 m c3) nb q v5 v37 wi)
          case atStart => exact ⟨0, 0, p, rfl, rfl, Nat.zero_le _, by rw [HMM.out]; rfl, .inl rfl, Part.refl hpl, fun k hk h => by omega, HBLK0.out, HBEL0.out, by rw [HMM.out]; exact HOWN0.out, by rw [List.drop_zero]⟩
          case round =>
            clear z1 z2 z3 e2 hbs hbk HBLK0 HBEL0 HOWN0 HO HBEL
            obtain ⟨t, d, x, rfl, rfl, htm, hq2, hd, hpart, hap, hblk, hbi, hoi, hinv⟩ := hrel
            have HINV := Lib.hid hinv; clear hinv
            rw [HMM.out] at htm hq2 hoi
            have HQ2 := Lib.hid hq2; have HP := Lib.hid hpart; have HAP := Lib.hid hap; have HBI := Lib.hid hbi; have HBK := Lib.hid hblk; have HOI := Lib.hid hoi
            have hxl : 0 < x.l := hpart.1
            obtain ⟨hxx, hxy⟩ : x.x + x.l ≤ 1000001 ∧ x.y + x.l ≤ 1000001 := by
              have := hpart.inb (N := 1000001) (M := 1000001) ⟨hpx, hpy⟩
              exact this
            have f0 : wr.cell? ⟨nb, 0, none⟩ = some (.int .i64 x.x) := hblk.cell 0
            have f1 : wr.cell? ⟨nb, 1, none⟩ = some (.int .i64 x.y) := hblk.cell 1
            have f2 : wr.cell? ⟨nb, 2, none⟩ = some (.int .i64 x.l) := hblk.cell 2
            have hbil := hblk.lt
            have e2 : wr.cell? ⟨W.heap.size, 0, none⟩ = some (.slice (some ⟨blk, 0, none⟩) n c) := (hbi.cell (by exact hc2lt)).trans hc2
            clear hq2 hpart hap hblk hbi hoi
            by_cases htl : t < m
            · have htl2 : t < ts.length := by rw [HMM.out]; exact htl
              have htp := HKT.out ts[t] (List.getElem_mem _)
              obtain ⟨b3, o3, hA3, hb3, y1, y2, y3⟩ := pcs_at (CellsR.of_own HOI.out) htl2
              obtain ⟨e, he⟩ : ∃ e, ts[t] = e := ⟨_, rfl⟩
              rw [he] at y1 y2 y3 htp
              have HE := Lib.hid he
              have hne3 : b3 ≠ nb := fun h => by
                have := HNB2.out b3 (by rw [hA3]; rfl)
                omega
              subst hA3
              have hel : 0 < e.l := htp.1.1
              obtain ⟨hex, hey⟩ : e.x + e.l ≤ 1000001 ∧ e.y + e.l ≤ 1000001 := ⟨by have := htp.2.1; omega, by have := htp.2.2; omega⟩
              clear he htp
              go_wp2_with (fail)
              refine (ov_any _ e.x e.y e.l x.x x.y x.l (by omega) (by omega) (by omega) (by omega) (by omega) (by omega) (by omega) (by omega) (by omega) (by omega) (by omega) (by omega)).mono ?_
              rintro e5 w5 ⟨d', X, Y, L, rfl, hb5, hov, hfn⟩
              have hov2 := ov_pc hov
              rw [← HE.out] at hfn
              have HFN := Lib.hid hfn
              clear hov hfn
              have hs5 := hb5.size
              have hbk5 : Blk w5 nb 131 #[.int .i64 x.x, .int .i64 x.y, .int .i64 x.l] := (HBK.out.alloc _).below hb5 (by simp; omega)
              have hst := y_store HBI.out HOI.out hb5 HNB2.out hnbs hbk5
              have g0 := hbk5.cell 0
              have g1 := hbk5.cell 1
              have g2 := hbk5.cell 2
              have q0 := hbk5.frozen 0
              have q1 := hbk5.frozen 1
              have q2 := hbk5.frozen 2
              have HBK5 := Lib.hid hbk5; have HB5 := Lib.hid hb5; have HST := Lib.hid hst
              clear hbk5 hb5 hst
              rcases hov2 with ⟨rfl, hL⟩ | rfl | ⟨hd', y, rfl, rfl, rfl, hpy, hay⟩
              · have hnn := HINV.out.symm.trans (inY_no htl2 HFN.out (.inl rfl))
                have HNN := Lib.hid hnn; clear hnn
                go_wp2
                obtain ⟨s1, s2, s3⟩ := HST.out (.int .i64 X) (.int .i64 Y) (.int .i64 L)
                go_roundg (n - (i + 1))
                case measure => have := HQ.out; omega
                case rel => exact ⟨i + 1, ts, by go_num, by omega, by omega, rfl, by rw [HMM.out]; omega, by rw [HMM.out]; exact s2, HK.out, s1, by rw [HNX.out, stepY_none HNN.out]⟩
              · have hnn := HINV.out.symm.trans (inY_no htl2 HFN.out (.inr rfl))
                have HNN := Lib.hid hnn; clear hnn
                by_cases hL3 : 0 < L
                · go_wp2
                  obtain ⟨s1, s2, s3⟩ := HST.out (.int .i64 X) (.int .i64 Y) (.int .i64 L)
                  go_roundg (n - (i + 1))
                  case measure => have := HQ.out; omega
                  case rel => exact ⟨i + 1, ts, by go_num, by omega, by omega, rfl, by rw [HMM.out]; omega, by rw [HMM.out]; exact s2, HK.out, s1, by rw [HNX.out, stepY_none HNN.out]⟩
                · go_wp2
                  obtain ⟨s1, s2, s3⟩ := HST.out (.int .i64 X) (.int .i64 Y) (.int .i64 L)
                  go_roundg (n - (i + 1))
                  case measure => have := HQ.out; omega
                  case rel => exact ⟨i + 1, ts, by go_num, by omega, by omega, rfl, by rw [HMM.out]; omega, by rw [HMM.out]; exact s2, HK.out, s1, by rw [HNX.out, stepY_none HNN.out]⟩
              · have HPY := Lib.hid hpy; have HAY := Lib.hid hay
                clear hpy hay
                have hall3 : ∀ k (hk : k < ts.length), k < t + 1 → Apart ts[k] y := fun k hk h => by
                  rcases Nat.lt_or_ge k t with h2 | h2
                  · exact HPY.out.apart (HAP.out k hk h2)
                  · obtain rfl : k = t := by omega
                    have := HE.out
                    rw [this]
                    exact HAY.out
                have HALL3 := Lib.hid hall3; clear hall3
                rcases hd' with rfl | rfl
                · go_wp2
                  obtain ⟨s1, s2, s3⟩ := HST.out (.int .i64 y.x) (.int .i64 y.y) (.int .i64 y.l)
                  go_roundg (m - (t + 1))
                  case measure => have := HQ2.out; omega
                  case rel => exact ⟨t + 1, 1, y, by go_num, by go_num, by rw [HMM.out]; omega, by rw [HMM.out], .inr (.inl rfl), HPY.out.trans HP.out, HALL3.out, s3, s1, by rw [HMM.out]; exact s2, (inY_go htl2 HFN.out (by omega) rfl rfl rfl).symm.trans HINV.out⟩
                · go_wp2
                  obtain ⟨s1, s2, s3⟩ := HST.out (.int .i64 y.x) (.int .i64 y.y) (.int .i64 y.l)
                  go_roundg (m - (t + 1))
                  case measure => have := HQ2.out; omega
                  case rel => exact ⟨t + 1, 2, y, by go_num, by go_num, by rw [HMM.out]; omega, by rw [HMM.out], .inr (.inr rfl), HPY.out.trans HP.out, HALL3.out, s3, s1, by rw [HMM.out]; exact s2, (inY_go htl2 HFN.out (by omega) rfl rfl rfl).symm.trans HINV.out⟩
            · have hap2 : ∀ q ∈ ts, Apart q x := fun q hq => by
                obtain ⟨k, hk, rfl⟩ := List.mem_iff_getElem.1 hq
                exact HAP.out k hk (by rw [HMM.out] at hk; omega)
              have HAP2 := Lib.hid hap2; clear hap2
              have hss : inY ts p = some x := by
                rw [← HINV.out, List.drop_of_length_le (by rw [HMM.out]; omega)]
                rfl
              have HSS := Lib.hid hss; clear hss
              have hd3 : (d != 3) = true := by simp; omega
              have hlp : (0 : Int) < (x.l : Int) := by omega
              clear hd
              go_wp2_with (at_builtin; refine wpList_append_any _ rfl (.tmp 61) (.tmp 63) _ rfl w2.heap.size 131 i0 _ 3 24 Tryz.underlying86 hi hz0 hz1 hz2 rfl (by omega) (.slice A3 m c3) m (pcCells ts) rfl (HOI.out.alloc _) (some ⟨wr.heap.size, 0, none⟩) 1 1 (pcCells [x]) rfl (pc_lit wr 131 x) rfl (pcCells_one _) (by unfold maxLen; omega) (by omega) (by have := HBI.out.size; simp; omega) ?_; intro A6 c6 w6 hown6 hg6 hat6; have HOWN6 := Lib.hid hown6; have HG6 := Lib.hid hg6; clear hown6 hg6 hat6)
              go_roundg (n - (i + 1))
              case measure => have := HQ.out; omega
              case rel => exact ⟨i + 1, ts ++ [x], by go_num, by omega, by omega, rfl, by rw [List.length_append, HMM.out]; simp; omega, by rw [List.length_append, HMM.out, pcCells_append]; exact HOWN6.out, HK.out.snoc (HP.out.ok HM1.out.1) (HP.out.inb HM1.out.2) HAP2.out, (HBI.out.alloc HBI.out.size _).grown HG6.out (by have := HBI.out.size; simp; omega) (fun k hk => (HOI.out.lt k hk).1), by rw [HNX.out, stepY_some HSS.out]⟩
        · have hsr := sort_any w2.heap.size wr (.slice A3 m c3) ts hbs (by rw [HMM.out]; exact HO.out) (by rw [HMM.out]; omega)
          have HSR := Lib.hid hsr; clear hsr
          go_wp2_with (fail)
          refine HSR.out.mono ?_
          rintro e w6 ⟨rfl, us', hus', hp, hs, ho6, hb6⟩
          have hin2 : i = n := by omega
          have hff := HFIX.out ts us' (by rw [← hin2]; exact HFX.out) hus'
          have HFF := Lib.hid hff; clear hff hus' hin2
          have HP6 := Lib.hid hp; have HS6 := Lib.hid hs; have HO6 := Lib.hid ho6; have HB6 := Lib.hid hb6
          clear hp hs ho6 hb6
          go_wp2
          go_ret
          exact ⟨us', _, rfl, own_mono HO6.out hb02, HB2.out.trans ((HBEL.out.trans HB6.out).mono hb02), HK.out.chain HP6.out HS6.out, HFF.out⟩
end Go.Proofs.YtgphjnhbheimiaaGreatDoor
