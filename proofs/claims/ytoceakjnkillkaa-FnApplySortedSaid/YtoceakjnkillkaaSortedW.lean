/-
  The walk of spec.Sorted: the edits by insertion. Condition: at most 20000000 edits.
-/
import Derived.Test.YtoceakjnkillkaaMergeQ
import Derived.Test.YtoceakjnkillkaaCopyK
import Derived.Test.YtoceakjnkillkaaSpecE
import Derived.Deep.RegionHeld3
import Derived.Deep.LoopGhost
import Derived.IntWalk
namespace Go.Proofs.Ytoceakjnkillkaa
set_option linter.unusedVariables false
open Go.RowKit

/-- the first k edits, sorted -/
def srt (es : List Ed) (k : Nat) : List Ed := sortE (es.take k)
theorem insE_len (e : Ed) (l : List Ed) : (insE e l).length = l.length + 1 := by
  induction l with
  | nil => rfl
  | cons x l ih =>
    rw [insE]
    split
    · rfl
    · simp [ih]
theorem srt_succ (es : List Ed) (k : Nat) (h : k < es.length) : srt es (k + 1) = insE (edAt es k) (srt es k) := by
  unfold srt sortE
  rw [take_snoc_ed es k h, List.foldl_append]
  rfl
theorem srt_len (es : List Ed) (k : Nat) (h : k ≤ es.length) : (srt es k).length = k := by
  induction k with
  | zero => rfl
  | succ k ih => rw [srt_succ es k (by omega), insE_len, ih (by omega)]

theorem edCells_take (es : List Ed) (k : Nat) : (edCells es).take (k * 3) = edCells (es.take k) := by
  induction es generalizing k with
  | nil => simp [edCells]
  | cons x l ih =>
    cases k with
    | zero => simp [edCells]
    | succ k =>
      rw [edCells_cons, List.take_succ_cons, edCells_cons, ← ih k]
      have hl : x.cells.length = 3 := rfl
      rw [List.take_append, List.take_of_length_le (by omega), hl, show (k + 1) * 3 - 3 = k * 3 by omega]
theorem edCells_drop (es : List Ed) (k : Nat) : (edCells es).drop (k * 3) = edCells (es.drop k) := by
  induction es generalizing k with
  | nil => simp [edCells]
  | cons x l ih =>
    cases k with
    | zero => simp
    | succ k =>
      rw [edCells_cons, List.drop_succ_cons, ← ih k]
      have hl : x.cells.length = 3 := rfl
      rw [List.drop_append, List.drop_of_length_le (by omega), hl, show (k + 1) * 3 - 3 = k * 3 by omega]
      rfl
/-- three cells stored at a place of a row of edits -/
theorem edCells_put (es : List Ed) (k : Nat) (x : Ed) (h : k < es.length) :
    (((edCells es).set (k * 3) (.int .i64 x.s)).set (k * 3 + 1) (.int .i64 x.e)).set (k * 3 + 2) (.string x.n) = edCells (es.set k x) := by
  induction es generalizing k with
  | nil => simp at h
  | cons y l ih =>
    rw [edCells_cons]
    cases k with
    | zero => simp [Ed.cells, edCells_cons]
    | succ k =>
      have hl : y.cells.length = 3 := rfl
      have := ih k (by simpa using h)
      rw [List.set_append_right _ _ (by omega), List.set_append_right _ _ (by omega), List.set_append_right _ _ (by omega), hl, show (k + 1) * 3 - 3 = k * 3 by omega, show (k + 1) * 3 + 1 - 3 = k * 3 + 1 by omega, show (k + 1) * 3 + 2 - 3 = k * 3 + 2 by omega, this]
      rfl
/-- what the row holds behind the shift and the store -/
theorem shift_put (L : List Ed) (e : Ed) (p : Nat) (hp : p ≤ L.length) :
    ((L ++ [e]).take (p + 1) ++ (((L ++ [e]).drop p).take (L.length - p) ++ (L ++ [e]).drop (p + 1 + (L.length - p)))).set p e = L.take p ++ e :: L.drop p := by
  obtain ⟨L1, L2, rfl, rfl⟩ : ∃ L1 L2, L = L1 ++ L2 ∧ p = L1.length := ⟨L.take p, L.drop p, (List.take_append_drop p L).symm, by simp; omega⟩
  obtain ⟨x, hx⟩ : ∃ x, (L2 ++ [e]).take 1 = [x] := by cases L2 <;> simp
  have e1 : (L1 ++ L2).length - L1.length = L2.length := by simp
  rw [e1, List.append_assoc]
  have e2 : (L1 ++ (L2 ++ [e])).take (L1.length + 1) = L1 ++ [x] := by
    rw [List.take_append, List.take_of_length_le (by omega), Nat.add_sub_cancel_left, hx]
  have e3 : (L1 ++ (L2 ++ [e])).drop L1.length = L2 ++ [e] := by simp
  have e4 : (L1 ++ (L2 ++ [e])).drop (L1.length + 1 + L2.length) = [] := List.drop_of_length_le (by simp; omega)
  rw [e2, e3, e4, List.append_nil, List.take_append_of_le_length (Nat.le_refl _), List.take_length]
  rw [List.append_assoc, List.set_append_right _ _ (Nat.le_refl _), Nat.sub_self]
  simp

theorem own_some {w : World} {base e size n c : Nat} {A : Option Addr} {xs : List Value} (h : w.ownsRow base e size (.slice A n c) n xs) (hn : 0 < n) : ∃ g, A = some ⟨g, 0, none⟩ := by
  rcases h.2 with ⟨h1, h2⟩ | ⟨g, cap, cur, hv, r⟩
  · omega
  · injection hv with h1
    exact ⟨g, h1⟩
/-- the cells of the j-th edit of an owned list -/
theorem own_ed {w : World} {base e n c g : Nat} {L : List Ed} (h : w.ownsRow base e 3 (.slice (some ⟨g, 0, none⟩) n c) n (edCells L)) (hl : L.length = n) {j : Nat} (hj : j < n) :
    base ≤ g ∧ g < w.heap.size ∧ w.cell? ⟨g, j * 3, none⟩ = some (.int .i64 (edAt L j).s) ∧ w.cell? ⟨g, j * 3 + 1, none⟩ = some (.int .i64 (edAt L j).e) ∧ w.cell? ⟨g, j * 3 + 2, none⟩ = some (.string (edAt L j).n) ∧ ∀ i, w.frozen? ⟨g, i, none⟩ = false := by
  obtain ⟨g1, g2, g3⟩ := edCells_get L j (by omega)
  have hlt := h.lt g rfl
  refine ⟨hlt.1, hlt.2, ?_, ?_, ?_, fun i => h.frozenAt i⟩
  · rw [h.cellAt _ (by omega)]; exact g1
  · rw [h.cellAt _ (by omega)]; exact g2
  · rw [h.cellAt _ (by omega)]; exact g3
theorem own_keepS {w w' : World} {B base e size n : Nat} {v : Value} {xs : List Value} (ho : w.ownsRow base e size v n xs) (hb : Below B w w') (hB : w.heap.size ≤ B) : w'.ownsRow base e size v n xs := by
  refine ⟨ho.1, ?_⟩
  rcases ho.2 with hn | ⟨g', cap, cur, hv, hg, hgg, rest⟩
  · exact .inl hn
  · exact .inr ⟨g', cap, cur, hv, hg, by rw [hb.block g' (by have := (Array.getElem?_eq_some_iff.1 hgg).1; omega)]; exact hgg, rest⟩
theorem own_cap {w : World} {base e size n c : Nat} {A : Option Addr} {xs : List Value} (h : w.ownsRow base e size (.slice A n c) n xs) : n ≤ c := by
  rcases h.2 with ⟨h1, h2⟩ | ⟨g, cap, cur, hv, _, _, h3, _⟩
  · omega
  · injection hv with h1 h2 h4
    subst h4
    exact h3

theorem own_has {w : World} {base e size g n c : Nat} {xs : List Value} (h : w.ownsRow base e size (.slice (some ⟨g, 0, none⟩) n c) n xs) (i : Nat) (hi : i < n * size) : ∃ v, w.cell? ⟨g, i, none⟩ = some v := by
  have hl := h.1
  rw [h.cellAt i (by omega)]
  exact ⟨xs[i]'(by omega), List.getElem?_eq_getElem (by omega)⟩
/-- the row behind the append, the shift and the store of one edit -/
theorem own_shifted {w : World} {base e g k p c : Nat} {L : List Ed} {E : Ed} (hl : L.length = k) (hp : p ≤ k)
    (h : w.ownsRow base e 3 (.slice (some ⟨g, 0, none⟩) (k + 1) c) (k + 1) ((edCells L ++ E.cells).take ((p + 1) * 3) ++ (((edCells L ++ E.cells).drop (p * 3)).take ((k - p) * 3) ++ (edCells L ++ E.cells).drop ((p + 1) * 3 + (k - p) * 3)))) (hb : ∀ j, p ≤ j → j < k → beforeB E (edAt L j) = true) (ha : 0 < p → beforeB E (edAt L (p - 1)) = false) :
    ((((w.setCell ⟨g, p * 3, none⟩ (.int .i64 E.s)).setCell ⟨g, p * 3 + 1, none⟩ (.int .i64 E.e)).setCell ⟨g, p * 3 + 2, none⟩ (.string E.n)).ownsRow base e 3 (.slice (some ⟨g, 0, none⟩) (k + 1) c) (k + 1) (edCells (insE E L))) ∧ w.grownBy (((w.setCell ⟨g, p * 3, none⟩ (.int .i64 E.s)).setCell ⟨g, p * 3 + 1, none⟩ (.int .i64 E.e)).setCell ⟨g, p * 3 + 2, none⟩ (.string E.n)) (some g) := by
  have e0 : edCells L ++ E.cells = edCells (L ++ [E]) := by rw [edCells_append, edCells_cons, edCells_nil, List.append_nil]
  have e1 : (p + 1) * 3 + (k - p) * 3 = (p + 1 + (k - p)) * 3 := by omega
  rw [e0, e1, edCells_take, edCells_drop, edCells_drop, edCells_take, ← edCells_append, ← edCells_append] at h
  obtain ⟨h1, g1⟩ := h.stored (p * 3) (.int .i64 E.s)
  obtain ⟨h2, g2⟩ := h1.stored (p * 3 + 1) (.int .i64 E.e)
  obtain ⟨h3, g3⟩ := h2.stored (p * 3 + 2) (.string E.n)
  refine ⟨?_, (g1.trans g2).trans g3⟩
  rw [edCells_put _ _ _ (by simp; omega)] at h3
  rw [insE_at p (by omega) (fun j h1 h2 => hb j h1 (by omega)) ha, ← shift_put L E p (by omega), hl]
  exact h3

set_option maxRecDepth 100000 in
set_option maxHeartbeats 2000000 in
theorem sorted_any (A : Option Addr) (c : Nat) (es : List Ed) (w : World) (hr : EdsR w A es) (hl : es.length ≤ 20000000) :
   Calls Try.prog 27 #[.slice A es.length c] w fun e w' => ∃ A' c', e = .returned (.slice A' es.length c') ∧ w'.ownsRow w.heap.size 28 3 (.slice A' es.length c') es.length (edCells (sortE es)) ∧ Below w.heap.size w w' := by
  obtain ⟨i0, hi, hz0, hz1, hz2⟩ := info_parts infoE
  have HR := Lib.hid hr; clear hr
  have hsl := fun k (h : k ≤ es.length) => srt_len es k h
  obtain ⟨n, hln⟩ : ∃ n, es.length = n := ⟨_, rfl⟩
  rw [hln] at hl hsl ⊢
  have HL := Lib.hid hln; clear hln
  have HSL := Lib.hid hsl; clear hsl
  go_enter Try.func27, Try.ntmps27
  go_wp2
  go_loopg [3, 5, 6, 10] n (fun q v _ _ i wr => ∃ k : Nat, q = n - k ∧ k ≤ n ∧ i = .int .i64 k ∧ wr.ownsRow w.heap.size 28 3 v k (edCells (srt es k)) ∧ Below w.heap.size w wr)
  case atStart => exact ⟨0, rfl, by omega, rfl, World.ownsRow_made w #[] 0 (Nat.le_refl _) (by simp [maxLen]) rfl, (Below.refl _ _).alloc (Nat.le_refl _) _⟩
  case round =>
    obtain ⟨k, hq, hk, rfl, hown, hb⟩ := hrel
    have HQ := Lib.hid hq; clear hq
    by_cases hlt : k < n
    · obtain ⟨b, off, rfl, hbb, g1, g2, g3⟩ := (EdsR.below HR.out hb (Nat.le_refl _)).at_ (k := k) (by rw [HL.out]; exact hlt)
      have hbs := hb.size
      have hsl := HSL.out k (by omega)
      have hss := srt_succ es k (by rw [HL.out]; exact hlt)
      have HSS := Lib.hid hss; clear hss
      obtain ⟨A3, c3, rfl⟩ := own_form hown
      generalize hS : srt es k = L at *
      clear hS
      have HLL := Lib.hid hsl; clear hsl
      generalize hE : edAt es k = E at *
      have hE1 : eS es k = E.s := by rw [← hE]; rfl
      have hE2 : eE es k = E.e := by rw [← hE]; rfl
      have hE3 : eN es k = E.n := by rw [← hE]; rfl
      rw [hE1] at g1
      rw [hE2] at g2
      rw [hE3] at g3
      clear hE hE1 hE2 hE3
      have hbk := Blk.new wr 28 #[.int .i64 E.s, .int .i64 E.e, .string E.n]
      have HBK := Lib.hid hbk; clear hbk
      have HA3 := Lib.hid (fun g h => (hown.lt g h).2)
      have HO := Lib.hid (hown.alloc (.cells #[.int .i64 E.s, .int .i64 E.e, .string E.n] 28)); clear hown
      have HB := Lib.hid (hb.alloc hbs (.cells #[.int .i64 E.s, .int .i64 E.e, .string E.n] 28)); clear hb
      have hwsz : wr.heap.size < (wr.alloc (.cells #[.int .i64 E.s, .int .i64 E.e, .string E.n] 28)).heap.size := by simp
      go_wp2
      generalize hW0 : wr.alloc (.cells #[.int .i64 E.s, .int .i64 E.e, .string E.n] 28) = W0 at *
      clear hW0
      generalize hbx : wr.heap.size = bx at *
      clear hbx
      go_loopg [6] k (fun q s6 wi => ∃ p : Nat, q = p ∧ p ≤ k ∧ s6 = .int .i64 p ∧ (∀ j, p ≤ j → j < k → beforeB E (edAt L j) = true) ∧ Below W0.heap.size W0 wi)
      case atStart => exact ⟨k, rfl, Nat.le_refl _, rfl, fun j h1 h2 => by omega, Below.refl _ _⟩
      case round =>
        obtain ⟨p, hqp, hpk, rfl, hall, hbi⟩ := hrel
        have HQP := Lib.hid hqp; clear hqp
        have HALL := Lib.hid hall; clear hall
        have hbis := hbi.size
        have hbk := HBK.out.below hbi hwsz
        have b0 : wr.cell? ⟨bx, 0, none⟩ = some (.int .i64 E.s) := hbk.cell 0
        have b1 : wr.cell? ⟨bx, 1, none⟩ = some (.int .i64 E.e) := hbk.cell 1
        have b2 : wr.cell? ⟨bx, 2, none⟩ = some (.string E.n) := hbk.cell 2
        have hbxw : bx < wr.heap.size := by omega
        clear hbk
        by_cases hp0 : p = 0
        · have hpi : decide ((0 : Int) < (p : Int)) = false := by simp; omega
          have hpn : decide (0 < p) = false := by simp; omega
          have HP0 := Lib.hid hp0; clear hp0
          go_wp2
          go_quiet (fail)
          generalize hwx : wr.drewN nq = wx at *
          have hbx : Below W0.heap.size W0 wx := by rw [← hwx]; exact below_drewN hbi nq
          clear hwx
          have HBX := Lib.hid hbx; clear hbx
          have HOX := Lib.hid (own_keepS HO.out HBX.out (Nat.le_refl _))
          have hbk := HBK.out.below HBX.out hwsz
          have c0 : wx.cell? ⟨bx, 0, none⟩ = some (.int .i64 E.s) := hbk.cell 0
          have c1 : wx.cell? ⟨bx, 1, none⟩ = some (.int .i64 E.e) := hbk.cell 1
          have c2 : wx.cell? ⟨bx, 2, none⟩ = some (.string E.n) := hbk.cell 2
          have HBKX := Lib.hid hbk; clear hbk
          have hxs := HBX.out.size
          have HBW := Lib.hid (HB.out.trans (HBX.out.mono HB.out.size))
          have hws := HB.out.size
          have hnx := hwsz
          go_wp2_with (at_builtin; refine wpList_append_any _ rfl (.tmp 29) (.tmp 31) _ rfl w.heap.size 28 i0 _ 3 32 Try.underlying26 hi hz0 hz1 hz2 rfl (by omega) (.slice A3 k c3) k (edCells L) rfl (HOX.out.alloc _) (some ⟨wx.heap.size, 0, none⟩) 1 1 E.cells rfl (cells_lit3 wx 28 E) rfl (edCells1 _) (by unfold maxLen; omega) (by omega) (by simp; omega) ?_; intro A5 c5 w5 hown5 hg5 hat5)
          obtain ⟨g5, hg5e⟩ := own_some hown5 (by omega)
          subst hg5e
          have hcap := own_cap hown5
          have HO5 := Lib.hid hown5; clear hown5
          have j1 : (p : Int) + 1 ≤ (k : Int) + 1 := by omega
          have j2 : (p : Int) ≤ (k : Int) + 1 := by omega
          have k1 : ((p : Int) + 1).toNat = p + 1 := by omega
          have k2 : (0 : Int) ≤ (p : Int) + 1 := by omega
          have k3 : IntKind.i64.wrap ((p : Int) + 1) = (p : Int) + 1 := IntWalk.i64_in _ (by omega)
          have hone : ∀ u ∈ edCells L ++ E.cells, u.oneCell' = true := fun u hu => by
            rcases List.mem_append.1 hu with h | h
            · exact edCells_one L u h
            · exact edCells1 E u h
          have HONE := Lib.hid hone; clear hone
          have hgg := HO5.out.lt g5 rfl
          have hne : bx ≠ g5 := by
            rcases hat5 with h | h
            · have := HA3.out g5 (h ▸ rfl)
              omega
            · have h' : some g5 = some (wx.heap.size + 1) := by simpa [Value.ownBlock] using h
              injection h'
              omega
          have HBK5 := Lib.hid ((HBKX.out.alloc _).grown hg5 (fun h => by
            have := HA3.out bx (by rw [← h])
            omega))
          have HB5 := Lib.hid ((HBW.out.alloc (by omega) (.cells #[.int .i64 E.s, .int .i64 E.e, .string E.n] 28)).grown hg5 (by simp; omega) (fun q h => (HO.out.lt q h).1))
          have hg5s : wx.heap.size ≤ w5.heap.size := by have := hg5.size; simp at this; omega
          have hwx0 : w.heap.size ≤ wx.heap.size := HBW.out.size
          clear hat5 hg5
          by_cases hpk2 : p = k
          · subst hpk2
            by_cases q1 : c5 = p + 1
            · subst q1
              go_region_law (refine step_copy_own rfl (.tmp 36) (.tmp 39) _ rfl 28 i0 3 Try.underlying26 hi hz1 w.heap.size 28 g5 (p + 1) (p + 1) (edCells L ++ E.cells) (World.ownsRow.drew HO5.out) (some ⟨g5, 0, none⟩) (some ⟨g5, p * 3, none⟩) (p - p) (0) 1 1 (by simp [Act.eval, Act.put]) (by simp [Act.eval, Act.put]) (p + 1) p (p - p) (by show p - p = min 1 (p - p); omega) (fun _ => by omega) (by omega) (by omega) HONE.out ?_; intro w6 hown6 hg6)
              have h6s : w5.heap.size ≤ w6.heap.size := hg6.size
              have hbk6 := HBK5.out.drew.grown hg6 (by simp; omega)
              have d0 : w6.cell? ⟨bx, 0, none⟩ = some (.int .i64 E.s) := hbk6.cell 0
              have d1 : w6.cell? ⟨bx, 1, none⟩ = some (.int .i64 E.e) := hbk6.cell 1
              have d2 : w6.cell? ⟨bx, 2, none⟩ = some (.string E.n) := hbk6.cell 2
              have f6 := hown6.frozenAt
              have f60 := f6 (p * 3)
              have f61 := f6 (p * 3 + 1)
              have f62 := f6 (p * 3 + 2)
              clear f6
              obtain ⟨z0, e0⟩ := own_has hown6 (p * 3) (by omega)
              obtain ⟨z1, e1⟩ := own_has hown6 (p * 3 + 1) (by omega)
              obtain ⟨z2, e2⟩ := own_has hown6 (p * 3 + 2) (by omega)
              obtain ⟨ho7, hg7⟩ := own_shifted HLL.out (by omega) hown6 HALL.out (fun h => by have := HP0.out; omega)
              have HO7 := Lib.hid ho7; clear ho7
              have HB7 := Lib.hid (((HB5.out.drew).grown hg6 (by show w.heap.size ≤ w5.heap.size; omega) (fun q h => by cases h; omega)).grown hg7 (by omega) (fun q h => by cases h; omega))
              clear hown6 hg6 hg7 hbk6
              have hp3 : p < p + 1 := by omega
              go_wp2
              go_roundg (n - (p + 1))
              case measure => have := HQ.out; omega
              case rel => exact ⟨p + 1, by omega, by omega, by go_num, by rw [HSS.out]; exact HO7.out, HB7.out⟩
            · have q2 : ¬ c5 = p := by omega
              go_region_law (refine step_copy_own rfl (.tmp 36) (.tmp 39) _ rfl 28 i0 3 Try.underlying26 hi hz1 w.heap.size 28 g5 (p + 1) c5 (edCells L ++ E.cells) (World.ownsRow.drew HO5.out) (some ⟨g5, (p + 1) * 3, none⟩) (some ⟨g5, p * 3, none⟩) (p - p) (c5 - (p + 1)) 1 (c5 - p) (by simp [Act.eval, Act.put]) (by simp [Act.eval, Act.put]) (p + 1) p (p - p) (by show p - p = min 1 (p - p); omega) (fun _ => ⟨rfl, rfl⟩) (by omega) (by omega) HONE.out ?_; intro w6 hown6 hg6)
              have h6s : w5.heap.size ≤ w6.heap.size := hg6.size
              have hbk6 := HBK5.out.drew.grown hg6 (by simp; omega)
              have d0 : w6.cell? ⟨bx, 0, none⟩ = some (.int .i64 E.s) := hbk6.cell 0
              have d1 : w6.cell? ⟨bx, 1, none⟩ = some (.int .i64 E.e) := hbk6.cell 1
              have d2 : w6.cell? ⟨bx, 2, none⟩ = some (.string E.n) := hbk6.cell 2
              have f6 := hown6.frozenAt
              have f60 := f6 (p * 3)
              have f61 := f6 (p * 3 + 1)
              have f62 := f6 (p * 3 + 2)
              clear f6
              obtain ⟨z0, e0⟩ := own_has hown6 (p * 3) (by omega)
              obtain ⟨z1, e1⟩ := own_has hown6 (p * 3 + 1) (by omega)
              obtain ⟨z2, e2⟩ := own_has hown6 (p * 3 + 2) (by omega)
              obtain ⟨ho7, hg7⟩ := own_shifted HLL.out (by omega) hown6 HALL.out (fun h => by have := HP0.out; omega)
              have HO7 := Lib.hid ho7; clear ho7
              have HB7 := Lib.hid (((HB5.out.drew).grown hg6 (by show w.heap.size ≤ w5.heap.size; omega) (fun q h => by cases h; omega)).grown hg7 (by omega) (fun q h => by cases h; omega))
              clear hown6 hg6 hg7 hbk6
              have hp3 : p < p + 1 := by omega
              go_wp2
              go_roundg (n - (p + 1))
              case measure => have := HQ.out; omega
              case rel => exact ⟨p + 1, by omega, by omega, by go_num, by rw [HSS.out]; exact HO7.out, HB7.out⟩
          · have q1 : ¬ c5 = p + 1 := by omega
            have q2 : ¬ c5 = p := by omega
            go_region_law (refine step_copy_own rfl (.tmp 36) (.tmp 39) _ rfl 28 i0 3 Try.underlying26 hi hz1 w.heap.size 28 g5 (k + 1) c5 (edCells L ++ E.cells) (World.ownsRow.drew HO5.out) (some ⟨g5, (p + 1) * 3, none⟩) (some ⟨g5, p * 3, none⟩) (k - p) (c5 - (p + 1)) (k + 1 - p) (c5 - p) (by simp [Act.eval, Act.put]) (by simp [Act.eval, Act.put]) (p + 1) p (k - p) (by show k - p = min (k + 1 - p) (k - p); omega) (fun _ => ⟨rfl, rfl⟩) (by omega) (by omega) HONE.out ?_; intro w6 hown6 hg6)
            have h6s : w5.heap.size ≤ w6.heap.size := hg6.size
            have hbk6 := HBK5.out.drew.grown hg6 (by simp; omega)
            have d0 : w6.cell? ⟨bx, 0, none⟩ = some (.int .i64 E.s) := hbk6.cell 0
            have d1 : w6.cell? ⟨bx, 1, none⟩ = some (.int .i64 E.e) := hbk6.cell 1
            have d2 : w6.cell? ⟨bx, 2, none⟩ = some (.string E.n) := hbk6.cell 2
            have f6 := hown6.frozenAt
            have f60 := f6 (p * 3)
            have f61 := f6 (p * 3 + 1)
            have f62 := f6 (p * 3 + 2)
            clear f6
            obtain ⟨z0, e0⟩ := own_has hown6 (p * 3) (by omega)
            obtain ⟨z1, e1⟩ := own_has hown6 (p * 3 + 1) (by omega)
            obtain ⟨z2, e2⟩ := own_has hown6 (p * 3 + 2) (by omega)
            obtain ⟨ho7, hg7⟩ := own_shifted HLL.out (by omega) hown6 HALL.out (fun h => by have := HP0.out; omega)
            have HO7 := Lib.hid ho7; clear ho7
            have HB7 := Lib.hid (((HB5.out.drew).grown hg6 (by show w.heap.size ≤ w5.heap.size; omega) (fun q h => by cases h; omega)).grown hg7 (by omega) (fun q h => by cases h; omega))
            clear hown6 hg6 hg7 hbk6
            have hp3 : p < k + 1 := by omega
            go_wp2
            go_roundg (n - (k + 1))
            case measure => have := HQ.out; omega
            case rel => exact ⟨k + 1, by omega, by omega, by go_num, by rw [HSS.out]; exact HO7.out, HB7.out⟩
        · have hp1 : decide ((0 : Int) < (p : Int)) = true := by simp; omega
          have hp2 : decide (0 < p) = true := by simp; omega
          have hp3 : 0 < p := by omega
          have hoi := own_keepS HO.out hbi (Nat.le_refl _)
          obtain ⟨g3, hg3e⟩ := own_some hoi (by omega)
          subst hg3e
          obtain ⟨o1, o2, l0, l1, l2, -⟩ := own_ed hoi HLL.out (j := p - 1) (by omega)
          have q1 : (0 : Int) ≤ (p : Int) - 1 := by omega
          have q2 : ((p : Int) - 1).toNat = p - 1 := by omega
          have q3 : p - 1 < k := by omega
          have q4 : IntKind.i64.wrap ((p : Int) - 1) = (p : Int) - 1 := IntWalk.i64_in _ (by omega)
          have q5 : (p : Int) - 1 < (k : Int) := by omega
          have q7 : (1 : Int) ≤ (p : Int) := by omega
          have q8 : 1 ≤ p := by omega
          have q9 : (p : Int) < (k : Int) + 1 := by omega
          have q10 : (p : Int) ≤ (k : Int) := by omega
          have q6 : g3 < W0.heap.size := by
            have := HA3.out g3 rfl
            omega
          generalize hF : edAt L (p - 1) = F at *
          have HF := Lib.hid hF; clear hF
          cases hbf : beforeB E F with
          | false =>
            have HBF := Lib.hid hbf; clear hbf
            have hbe := fun w => before_any E F w
            rw [HBF.out] at hbe
            have HBE := Lib.hid hbe; clear hbe
            go_wp2
            go_region_held3 (fun w' => Below W0.heap.size W0 w' ∧ w'.cell? ⟨bx, 0, none⟩ = some (.int .i64 E.s) ∧ w'.cell? ⟨bx, 1, none⟩ = some (.int .i64 E.e) ∧ w'.cell? ⟨bx, 2, none⟩ = some (.string E.n) ∧ w'.cell? ⟨g3, (p - 1) * 3, none⟩ = some (.int .i64 F.s) ∧ w'.cell? ⟨g3, (p - 1) * 3 + 1, none⟩ = some (.int .i64 F.e) ∧ w'.cell? ⟨g3, (p - 1) * 3 + 2, none⟩ = some (.string F.n)) (first | (refine ⟨(by first | assumption | exact Below.drew hbi), ?_⟩; go_keep) | go_keep) (first | (go_at_call 37; refine (HBE.out _).mono ?_; rintro e w' ⟨rfl, hbn⟩; have hbn' : Below W0.heap.size W0 w' := hbi.drew.trans (hbn.mono (by exact hbis)); have z0 : w'.cell? ⟨bx, 0, none⟩ = some (.int .i64 E.s) := (hbn.cell (p := ⟨bx, 0, none⟩) (by simp; omega)).trans b0; have z1 : w'.cell? ⟨bx, 1, none⟩ = some (.int .i64 E.e) := (hbn.cell (p := ⟨bx, 1, none⟩) (by simp; omega)).trans b1; have z2 : w'.cell? ⟨bx, 2, none⟩ = some (.string E.n) := (hbn.cell (p := ⟨bx, 2, none⟩) (by simp; omega)).trans b2; have z3 : w'.cell? ⟨g3, (p - 1) * 3, none⟩ = some (.int .i64 F.s) := (hbn.cell (p := ⟨g3, (p - 1) * 3, none⟩) (by simp; omega)).trans l0; have z4 : w'.cell? ⟨g3, (p - 1) * 3 + 1, none⟩ = some (.int .i64 F.e) := (hbn.cell (p := ⟨g3, (p - 1) * 3 + 1, none⟩) (by simp; omega)).trans l1; have z5 : w'.cell? ⟨g3, (p - 1) * 3 + 2, none⟩ = some (.string F.n) := (hbn.cell (p := ⟨g3, (p - 1) * 3 + 2, none⟩) (by simp; omega)).trans l2; clear hbn))
            have HBX := Lib.hid hbn'; clear hbn'
            have HOX := Lib.hid (own_keepS HO.out HBX.out (Nat.le_refl _))
            have hbk := HBK.out.below HBX.out hwsz
            have c0 : w'.cell? ⟨bx, 0, none⟩ = some (.int .i64 E.s) := hbk.cell 0
            have c1 : w'.cell? ⟨bx, 1, none⟩ = some (.int .i64 E.e) := hbk.cell 1
            have c2 : w'.cell? ⟨bx, 2, none⟩ = some (.string E.n) := hbk.cell 2
            have HBKX := Lib.hid hbk; clear hbk
            have hxs := HBX.out.size
            have HBW := Lib.hid (HB.out.trans (HBX.out.mono HB.out.size))
            have hws := HB.out.size
            have hnx := hwsz
            go_wp2_with (at_builtin; refine wpList_append_any _ rfl (.tmp 29) (.tmp 31) _ rfl w.heap.size 28 i0 _ 3 32 Try.underlying26 hi hz0 hz1 hz2 rfl (by omega) (.slice (some ⟨g3, 0, none⟩) k c3) k (edCells L) rfl (HOX.out.alloc _) (some ⟨w'.heap.size, 0, none⟩) 1 1 E.cells rfl (cells_lit3 w' 28 E) rfl (edCells1 _) (by unfold maxLen; omega) (by omega) (by simp; omega) ?_; intro A5 c5 w5 hown5 hg5 hat5)
            obtain ⟨g5, hg5e⟩ := own_some hown5 (by omega)
            subst hg5e
            have hcap := own_cap hown5
            have HO5 := Lib.hid hown5; clear hown5
            have j1 : (p : Int) + 1 ≤ (k : Int) + 1 := by omega
            have j2 : (p : Int) ≤ (k : Int) + 1 := by omega
            have k1 : ((p : Int) + 1).toNat = p + 1 := by omega
            have k2 : (0 : Int) ≤ (p : Int) + 1 := by omega
            have k3 : IntKind.i64.wrap ((p : Int) + 1) = (p : Int) + 1 := IntWalk.i64_in _ (by omega)
            have hone : ∀ u ∈ edCells L ++ E.cells, u.oneCell' = true := fun u hu => by
              rcases List.mem_append.1 hu with h | h
              · exact edCells_one L u h
              · exact edCells1 E u h
            have HONE := Lib.hid hone; clear hone
            have hgg := HO5.out.lt g5 rfl
            have hne : bx ≠ g5 := by
              rcases hat5 with h | h
              · have := HA3.out g5 (h ▸ rfl)
                omega
              · have h' : some g5 = some (w'.heap.size + 1) := by simpa [Value.ownBlock] using h
                injection h'
                omega
            have HBK5 := Lib.hid ((HBKX.out.alloc _).grown hg5 (fun h => by
              have := HA3.out bx (by rw [← h])
              omega))
            have HB5 := Lib.hid ((HBW.out.alloc (by omega) (.cells #[.int .i64 E.s, .int .i64 E.e, .string E.n] 28)).grown hg5 (by simp; omega) (fun q h => (HO.out.lt q h).1))
            have hg5s : w'.heap.size ≤ w5.heap.size := by have := hg5.size; simp at this; omega
            have hwx0 : w.heap.size ≤ w'.heap.size := HBW.out.size
            clear hat5 hg5
            by_cases hpk2 : p = k
            · subst hpk2
              by_cases q1 : c5 = p + 1
              · subst q1
                go_region_law (refine step_copy_own rfl (.tmp 36) (.tmp 39) _ rfl 28 i0 3 Try.underlying26 hi hz1 w.heap.size 28 g5 (p + 1) (p + 1) (edCells L ++ E.cells) (World.ownsRow.drew HO5.out) (some ⟨g5, 0, none⟩) (some ⟨g5, p * 3, none⟩) (p - p) (0) 1 1 (by simp [Act.eval, Act.put]) (by simp [Act.eval, Act.put]) (p + 1) p (p - p) (by show p - p = min 1 (p - p); omega) (fun _ => by omega) (by omega) (by omega) HONE.out ?_; intro w6 hown6 hg6)
                have h6s : w5.heap.size ≤ w6.heap.size := hg6.size
                have hbk6 := HBK5.out.drew.grown hg6 (by simp; omega)
                have d0 : w6.cell? ⟨bx, 0, none⟩ = some (.int .i64 E.s) := hbk6.cell 0
                have d1 : w6.cell? ⟨bx, 1, none⟩ = some (.int .i64 E.e) := hbk6.cell 1
                have d2 : w6.cell? ⟨bx, 2, none⟩ = some (.string E.n) := hbk6.cell 2
                have f6 := hown6.frozenAt
                have f60 := f6 (p * 3)
                have f61 := f6 (p * 3 + 1)
                have f62 := f6 (p * 3 + 2)
                clear f6
                obtain ⟨z0, e0⟩ := own_has hown6 (p * 3) (by omega)
                obtain ⟨z1, e1⟩ := own_has hown6 (p * 3 + 1) (by omega)
                obtain ⟨z2, e2⟩ := own_has hown6 (p * 3 + 2) (by omega)
                obtain ⟨ho7, hg7⟩ := own_shifted HLL.out (by omega) hown6 HALL.out (fun h => by have := HF.out; rw [this]; exact HBF.out)
                have HO7 := Lib.hid ho7; clear ho7
                have HB7 := Lib.hid (((HB5.out.drew).grown hg6 (by show w.heap.size ≤ w5.heap.size; omega) (fun q h => by cases h; omega)).grown hg7 (by omega) (fun q h => by cases h; omega))
                clear hown6 hg6 hg7 hbk6
                have hp3 : p < p + 1 := by omega
                go_wp2
                go_roundg (n - (p + 1))
                case measure => have := HQ.out; omega
                case rel => exact ⟨p + 1, by omega, by omega, by go_num, by rw [HSS.out]; exact HO7.out, HB7.out⟩
              · have q2 : ¬ c5 = p := by omega
                go_region_law (refine step_copy_own rfl (.tmp 36) (.tmp 39) _ rfl 28 i0 3 Try.underlying26 hi hz1 w.heap.size 28 g5 (p + 1) c5 (edCells L ++ E.cells) (World.ownsRow.drew HO5.out) (some ⟨g5, (p + 1) * 3, none⟩) (some ⟨g5, p * 3, none⟩) (p - p) (c5 - (p + 1)) 1 (c5 - p) (by simp [Act.eval, Act.put]) (by simp [Act.eval, Act.put]) (p + 1) p (p - p) (by show p - p = min 1 (p - p); omega) (fun _ => ⟨rfl, rfl⟩) (by omega) (by omega) HONE.out ?_; intro w6 hown6 hg6)
                have h6s : w5.heap.size ≤ w6.heap.size := hg6.size
                have hbk6 := HBK5.out.drew.grown hg6 (by simp; omega)
                have d0 : w6.cell? ⟨bx, 0, none⟩ = some (.int .i64 E.s) := hbk6.cell 0
                have d1 : w6.cell? ⟨bx, 1, none⟩ = some (.int .i64 E.e) := hbk6.cell 1
                have d2 : w6.cell? ⟨bx, 2, none⟩ = some (.string E.n) := hbk6.cell 2
                have f6 := hown6.frozenAt
                have f60 := f6 (p * 3)
                have f61 := f6 (p * 3 + 1)
                have f62 := f6 (p * 3 + 2)
                clear f6
                obtain ⟨z0, e0⟩ := own_has hown6 (p * 3) (by omega)
                obtain ⟨z1, e1⟩ := own_has hown6 (p * 3 + 1) (by omega)
                obtain ⟨z2, e2⟩ := own_has hown6 (p * 3 + 2) (by omega)
                obtain ⟨ho7, hg7⟩ := own_shifted HLL.out (by omega) hown6 HALL.out (fun h => by have := HF.out; rw [this]; exact HBF.out)
                have HO7 := Lib.hid ho7; clear ho7
                have HB7 := Lib.hid (((HB5.out.drew).grown hg6 (by show w.heap.size ≤ w5.heap.size; omega) (fun q h => by cases h; omega)).grown hg7 (by omega) (fun q h => by cases h; omega))
                clear hown6 hg6 hg7 hbk6
                have hp3 : p < p + 1 := by omega
                go_wp2
                go_roundg (n - (p + 1))
                case measure => have := HQ.out; omega
                case rel => exact ⟨p + 1, by omega, by omega, by go_num, by rw [HSS.out]; exact HO7.out, HB7.out⟩
            · have q1 : ¬ c5 = p + 1 := by omega
              have q2 : ¬ c5 = p := by omega
              go_region_law (refine step_copy_own rfl (.tmp 36) (.tmp 39) _ rfl 28 i0 3 Try.underlying26 hi hz1 w.heap.size 28 g5 (k + 1) c5 (edCells L ++ E.cells) (World.ownsRow.drew HO5.out) (some ⟨g5, (p + 1) * 3, none⟩) (some ⟨g5, p * 3, none⟩) (k - p) (c5 - (p + 1)) (k + 1 - p) (c5 - p) (by simp [Act.eval, Act.put]) (by simp [Act.eval, Act.put]) (p + 1) p (k - p) (by show k - p = min (k + 1 - p) (k - p); omega) (fun _ => ⟨rfl, rfl⟩) (by omega) (by omega) HONE.out ?_; intro w6 hown6 hg6)
              have h6s : w5.heap.size ≤ w6.heap.size := hg6.size
              have hbk6 := HBK5.out.drew.grown hg6 (by simp; omega)
              have d0 : w6.cell? ⟨bx, 0, none⟩ = some (.int .i64 E.s) := hbk6.cell 0
              have d1 : w6.cell? ⟨bx, 1, none⟩ = some (.int .i64 E.e) := hbk6.cell 1
              have d2 : w6.cell? ⟨bx, 2, none⟩ = some (.string E.n) := hbk6.cell 2
              have f6 := hown6.frozenAt
              have f60 := f6 (p * 3)
              have f61 := f6 (p * 3 + 1)
              have f62 := f6 (p * 3 + 2)
              clear f6
              obtain ⟨z0, e0⟩ := own_has hown6 (p * 3) (by omega)
              obtain ⟨z1, e1⟩ := own_has hown6 (p * 3 + 1) (by omega)
              obtain ⟨z2, e2⟩ := own_has hown6 (p * 3 + 2) (by omega)
              obtain ⟨ho7, hg7⟩ := own_shifted HLL.out (by omega) hown6 HALL.out (fun h => by have := HF.out; rw [this]; exact HBF.out)
              have HO7 := Lib.hid ho7; clear ho7
              have HB7 := Lib.hid (((HB5.out.drew).grown hg6 (by show w.heap.size ≤ w5.heap.size; omega) (fun q h => by cases h; omega)).grown hg7 (by omega) (fun q h => by cases h; omega))
              clear hown6 hg6 hg7 hbk6
              have hp3 : p < k + 1 := by omega
              go_wp2
              go_roundg (n - (k + 1))
              case measure => have := HQ.out; omega
              case rel => exact ⟨k + 1, by omega, by omega, by go_num, by rw [HSS.out]; exact HO7.out, HB7.out⟩
          | true =>
            have HBF := Lib.hid hbf; clear hbf
            have hbe := fun w => before_any E F w
            rw [HBF.out] at hbe
            have HBE := Lib.hid hbe; clear hbe
            go_wp2
            go_region_held3 (fun w' => Below W0.heap.size W0 w' ∧ w'.cell? ⟨bx, 0, none⟩ = some (.int .i64 E.s) ∧ w'.cell? ⟨bx, 1, none⟩ = some (.int .i64 E.e) ∧ w'.cell? ⟨bx, 2, none⟩ = some (.string E.n) ∧ w'.cell? ⟨g3, (p - 1) * 3, none⟩ = some (.int .i64 F.s) ∧ w'.cell? ⟨g3, (p - 1) * 3 + 1, none⟩ = some (.int .i64 F.e) ∧ w'.cell? ⟨g3, (p - 1) * 3 + 2, none⟩ = some (.string F.n)) (first | (refine ⟨(by first | assumption | exact Below.drew hbi), ?_⟩; go_keep) | go_keep) (first | (go_at_call 37; refine (HBE.out _).mono ?_; rintro e w' ⟨rfl, hbn⟩; have hbn' : Below W0.heap.size W0 w' := hbi.drew.trans (hbn.mono (by exact hbis)); have z0 : w'.cell? ⟨bx, 0, none⟩ = some (.int .i64 E.s) := (hbn.cell (p := ⟨bx, 0, none⟩) (by simp; omega)).trans b0; have z1 : w'.cell? ⟨bx, 1, none⟩ = some (.int .i64 E.e) := (hbn.cell (p := ⟨bx, 1, none⟩) (by simp; omega)).trans b1; have z2 : w'.cell? ⟨bx, 2, none⟩ = some (.string E.n) := (hbn.cell (p := ⟨bx, 2, none⟩) (by simp; omega)).trans b2; have z3 : w'.cell? ⟨g3, (p - 1) * 3, none⟩ = some (.int .i64 F.s) := (hbn.cell (p := ⟨g3, (p - 1) * 3, none⟩) (by simp; omega)).trans l0; have z4 : w'.cell? ⟨g3, (p - 1) * 3 + 1, none⟩ = some (.int .i64 F.e) := (hbn.cell (p := ⟨g3, (p - 1) * 3 + 1, none⟩) (by simp; omega)).trans l1; have z5 : w'.cell? ⟨g3, (p - 1) * 3 + 2, none⟩ = some (.string F.n) := (hbn.cell (p := ⟨g3, (p - 1) * 3 + 2, none⟩) (by simp; omega)).trans l2; clear hbn))
            go_wp2
            go_roundg (p - 1)
            case measure => have := HQP.out; omega
            case rel => exact ⟨p - 1, rfl, by omega, by go_num, fun j h1 h2 => by
              by_cases hj : j = p - 1
              · subst hj
                have := HF.out
                rw [this]
                exact HBF.out
              · exact HALL.out j (by omega) h2, hbn'⟩
    · have hkn : k = n := by omega
      subst hkn
      obtain ⟨A3, c3, rfl⟩ := own_form hown
      have hse : srt es k = sortE es := by
        unfold srt
        rw [← HL.out, List.take_length]
      rw [hse] at hown
      have HO := Lib.hid hown; clear hown
      have HB := Lib.hid hb; clear hb
      go_wp2
      go_ret
      exact ⟨A3, c3, rfl, HO.out, HB.out⟩
end Go.Proofs.Ytoceakjnkillkaa
