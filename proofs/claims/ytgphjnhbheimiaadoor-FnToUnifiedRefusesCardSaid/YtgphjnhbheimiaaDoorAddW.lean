/-
  The walk of addEqualLines, and the number of line ends (zzCount). Condition: at most 4000000 lines and as many bytes.
-/
import Derived.Test.YtgphjnhbheimiaaDoorUniM
import Derived.Test.YtgphjnhbheimiaaDoorNlW
import Derived.Deep.RegionLaw
namespace Go.Proofs.YtgphjnhbheimiaaDoor
set_option linter.unusedVariables false
open Go.RowKit

section
variable {P : Program} (w : World)
/-- append onto a row of the call's own, as one step of a region that draws -/
theorem step_append_anyL {ops : Array Oper} {o : Oper} {a : Act} {K : Act → World → Prop} {Q : Exit → Act → World → Prop} {E : Prop} (hgd : o.guard = none) (s x : Operand) (t : TypeId)
    (ho : o.op = .call { callee := .builtin .append, args := #[s, x], argTypes := #[t, t] })
    (base : Nat) (e : TypeId) (i : TypeInfo) (z : Value) (size bytes : Nat) (ht : P.underlying t = some (.slice e)) (hi : P.info? e = some i) (hz : i.zero = some z)
    (hsize : i.size = size) (hby : i.bytes = bytes) (hzs : z.cells.size = size) (hsz : 0 < size)
    (v : Value) (n : Nat) (xs : List Value) (hs : a.eval s = v) (hown : w.ownsRow base e size v n xs)
    (A : Option Addr) (m c : Nat) (news : List Value) (hx : a.eval x = .slice A m c) (hr : CellsR w A news) (hm : news.length = m * size) (h1 : ∀ u ∈ news, u.oneCell' = true)
    (h63 : n + m ≤ maxLen) (hbytes : (n + m) * bytes ≤ 140737488355328) (hbase : base ≤ w.heap.size)
    (h : ∀ A' c' w', w'.ownsRow base e size (.slice A' (n + m) c') (n + m) (xs ++ news) → w.grownBy w' v.ownBlock → K (a.put o.dst (.slice A' (n + m) c')) w') :
    if Region.wanted o (yielded ops a.tmps) = true then Oper.wp P o a w K Q else E := by
  have hw : Region.wanted o (yielded ops a.tmps) = true := by simp [Region.wanted, hgd]
  rw [if_pos hw]
  refine wp_append_any w s x t ho base e i z size bytes ht hi hz hsize hby hzs hsz v n xs hs hown A m c news hx hr hm h1 h63 hbytes hbase fun v' w' h2 h3 h4 => ?_
  obtain ⟨A', c', rfl⟩ := own_form h2
  exact h A' c' w' h2 h3
end

/-- blocks that are no rows of lines stay as they were, but one -/
def FrH (g : Nat) (w w' : World) : Prop := ∀ (k : Nat) (t : TypeId) (cs : Array Value), Blk w k t cs → k ≠ g → t ≠ 64 → Blk w' k t cs
theorem FrH.refl (g : Nat) (w : World) : FrH g w w := fun _ _ _ h _ _ => h
theorem FrH.trans {g : Nat} {a b c : World} (h : FrH g a b) (h2 : FrH g b c) : FrH g a c := fun k t cs x y z => h2 k t cs (h k t cs x y z) y z
theorem FrH.line {g : Nat} {w W w2 : World} {base n : Nat} {v : Value} {xs : List Value} (h : FrH g w W) (ho : W.ownsRow base 64 2 v n xs) (hg : W.grownBy w2 v.ownBlock) (o : Nat) (u : Value) : FrH g w (w2.setCell ⟨g, o, none⟩ u) :=
  fun k t cs x y z => ((h k t cs x y z).grown hg (own_neH ho (h k t cs x y z) z)).far (p := ⟨g, o, none⟩) y u
theorem FrH.alloc {g : Nat} {w W : World} (h : FrH g w W) (o : Obj) : FrH g w (W.alloc o) := fun k t cs x y z => (h k t cs x y z).alloc o

set_option maxRecDepth 100000 in
set_option maxHeartbeats 1000000 in
theorem addEq_any (g : Nat) (h : Hk) (A : Option Addr) (c : Nat) (L : List ByteArray) (a b : Int) (base : Nat) (w0 w : World) (hL : StrsR w0 A L) (h0 : Below w0.heap.size w0 w) (hB : w0.heap.size ≤ base) (hh : HkO w base g h)
    (hl : L.length ≤ 4000000) (hn : h.ls.length ≤ 5000000000000) (ha : -1000 ≤ a) (ha2 : a ≤ 100000000) (hb : b ≤ 100000000) :
   Calls Tryd.prog 21 #[.pointer (some ⟨g, 0, none⟩), .slice A L.length c, .int .i64 a, .int .i64 b] w fun e w' => e = .returned (.int .i64 (eqF L a b).length) ∧ HkO w' base g (h.add (eqF L a b)) ∧ Below base w w' ∧ FrH g w w' := by
  obtain ⟨i0, hi, hz0, hz1, hz2⟩ := info_parts infoLn
  have hbl := h0.size
  have HL := Lib.hid hL; have H0 := Lib.hid h0; have HH := Lib.hid hh
  have hbase : base ≤ w.heap.size := by
    obtain ⟨h1, A1, c1, h2, h3⟩ := hh
    have := h2.lt
    omega
  clear hL h0 hh
  obtain ⟨n, hln⟩ : ∃ n, L.length = n := ⟨_, rfl⟩
  have HE := Lib.hid (fun k => eqF_len L a k)
  rw [hln] at hl HE ⊢
  have HLN := Lib.hid hln; clear hln
  have hz : eqF L a a = [] := eqF_none L a a (Int.le_refl _)
  have hz2' : b ≤ a → eqF L a b = [] := fun h => eqF_none L a b h
  have HZ := Lib.hid hz; have HZ2 := Lib.hid hz2'
  clear hz hz2'
  go_enter Tryd.func21, Tryd.ntmps21
  go_wp2
  go_loopg [9, 10] (b - a).toNat (fun q d i wr => ∃ k : Int, q = (b - k).toNat ∧ a ≤ k ∧ (k ≤ b ∨ k = a) ∧ i = .int .i64 k ∧ d = .int .i64 (eqF L a k).length ∧ HkO wr base g (h.add (eqF L a k)) ∧ Below base w wr ∧ FrH g w wr)
  case atStart =>
    refine ⟨a, rfl, Int.le_refl _, .inr rfl, rfl, by rw [HZ.out]; rfl, ?_, Below.refl _ _, FrH.refl _ _⟩
    rw [HZ.out]
    have : h.add [] = h := by simp [Hk.add]
    rw [this]
    exact HH.out
  case round =>
    obtain ⟨k, hq, hak, hkb, rfl, rfl, hhk, hbel, hfr⟩ := hrel
    have HFR := Lib.hid hfr; clear hfr
    have hel := HE.out k
    have HQ := Lib.hid hq; clear hq
    by_cases hlt : k < b
    · by_cases hneg : k < 0
      · have e1 := eqF_neg L a k hneg
        have E1 := Lib.hid e1
        have HK := Lib.hid hhk
        clear e1 hhk
        go_wp2
        go_roundg (b - (k + 1)).toNat
        case measure => have := HQ.out; omega
        case rel => exact ⟨k + 1, rfl, by omega, by omega, by go_num, by rw [E1.out], by rw [E1.out]; exact HK.out, hbel, HFR.out⟩
      · by_cases hbig : (n : Int) ≤ k
        · have e1 := eqF_all L a k b (by rw [HLN.out]; exact hbig) (by omega)
          have E1 := Lib.hid e1
          have HK := Lib.hid hhk
          clear e1 hhk
          go_wp2
          go_ret
          exact ⟨by rw [E1.out]; rfl, by rw [E1.out]; exact HK.out, hbel, HFR.out⟩
        · obtain ⟨m, rfl⟩ : ∃ m : Nat, k = m := ⟨k.toNat, by omega⟩
          have hml : m < L.length := by rw [HLN.out]; omega
          have e1 := eqF_snoc L a (m : Int) (by omega) hak (by simpa using hml)
          obtain ⟨b1, off, rfl, hbb, g1⟩ := (HL.out.below (H0.out.trans (hbel.mono hB)) (Nat.le_refl _)).at_ hml
          obtain ⟨hbg, A1, c1, hblk, hown⟩ := hhk
          have eX : L.getD (m : Int).toNat ⟨#[]⟩ = L.getD m ⟨#[]⟩ := rfl
          rw [eX] at e1
          change wr.cell? ⟨b1, off + m, none⟩ = some (.string (L.getD m ⟨#[]⟩)) at g1
          generalize L.getD m ⟨#[]⟩ = X at *
          have E1 := Lib.hid e1; clear e1
          generalize eqF L a (m : Int) = F at *
          simp only [Hk.add] at hblk hown
          have hfl : (h.ls ++ F).length = h.ls.length + F.length := List.length_append
          generalize hLS : h.ls ++ F = l1 at *
          have hbls := hbel.size
          have c0 := hblk.cell 2
          have HBLK := Lib.hid hblk; have HO := Lib.hid hown; have HLS := Lib.hid hLS
          have hgl := hblk.lt
          clear hblk hown hLS
          have hF : ((F ++ [((2 : Int), X)]).length : Int) = (F.length : Int) + 1 := by simp
          have HF := Lib.hid hF; clear hF
          have hle : l1.length ≤ 5000004000000 := by omega
          clear hfl
          have i1 : (m : Int) < (n : Int) := by omega
          go_wp2
          go_region_law (refine step_append_anyL _ rfl (.tmp 28) (.tmp 34) _ rfl base 64 i0 _ 2 24 Tryd.underlying59 hi hz0 hz1 hz2 rfl (by omega) (.slice A1 l1.length c1) l1.length (klCells l1) (by simp [Act.eval]) ((World.ownsRow.alloc HO.out (.cells #[.int .i64 2, .string X] 64)).drew) (some ⟨wr.heap.size, 0, none⟩) 1 1 (klCells [(2, X)]) (by simp [Act.eval]) (kl_lit1 _ _ _ _) rfl (klCells1_one _ _) (by unfold maxLen; omega) (by omega) (by simp; omega) ?_; intro A2 c2 w2 hown2 hg2; have zb := (HBLK.out.alloc (.cells #[.int .i64 2, .string X] 64)).drew.grown hg2 (own_neH ((World.ownsRow.alloc HO.out (.cells #[.int .i64 2, .string X] 64)).drew) ((HBLK.out.alloc _).drew) (by decide)); have zc := zb.cell 2; have zf := zb.frozen 2)
          all_goals
            go_wp2
            go_roundg (b - ((m : Int) + 1)).toNat
            case measure => have := HQ.out; omega
            case rel =>
              refine ⟨(m : Int) + 1, rfl, by omega, by omega, by go_num, by rw [E1.out, HF.out], ?_, ?_, FrH.line (W := (wr.alloc (.cells #[.int .i64 2, .string X] 64)).drew) (HFR.out.alloc _) ((World.ownsRow.alloc HO.out (.cells #[.int .i64 2, .string X] 64)).drew) hg2 2 _⟩
              · rw [E1.out]
                refine ⟨hbg, A2, c2, ?_, ?_⟩
                · have := zb.set_ 2 (.slice A2 (l1.length + 1) c2)
                  simp only [Hk.add, ← List.append_assoc, HLS.out, List.length_append]
                  exact this
                · have := own_setH hown2 zb (by decide) 2 (.slice A2 (l1.length + 1) c2)
                  simp only [Hk.add, ← List.append_assoc, HLS.out, List.length_append]
                  rw [klCells_append]
                  exact this
              · exact (((hbel.alloc (by omega) (.cells #[.int .i64 2, .string X] 64)).drew.grown hg2 (by simp; omega) (fun g' hg' => (HO.out.lt g' hg').1))).setCell (by show base ≤ g; exact hbg) _
    · have e1 : eqF L a k = eqF L a b := by
        rcases hkb with h1 | h1
        · rw [show k = b by omega]
        · subst h1; rw [HZ.out, HZ2.out (by omega)]
      have HK := Lib.hid hhk
      have E1 := Lib.hid e1
      clear e1 hhk
      go_wp2
      go_ret
      exact ⟨by rw [← E1.out]; rfl, by rw [← E1.out]; exact HK.out, hbel, HFR.out⟩

theorem nlN_cut (s : ByteArray) (p : Nat) (hp : p ≤ s.size) : ∀ k, k ≤ p → nlN (s.extract 0 p) k = nlN s k := by
  intro k
  induction k with
  | zero => intros; rfl
  | succ k ih =>
    intro h
    have e := byteAt_cut s 0 p k hp (by omega)
    rw [Nat.zero_add] at e
    simp only [nlN]
    rw [ih (by omega), e]
set_option maxRecDepth 100000 in
theorem zzCount_any (s : ByteArray) (w : World) (hs : s.size ≤ 4000000) :
    Calls Tryd.prog 20 #[.string s, .string ⟨#[10]⟩] w fun e w' => e = .returned (.int .i64 (nlN s s.size)) ∧ w' = w := by
  have hone := fun k (h : k < s.size) => one_nl (s := s) (k := k) h
  have HONE := Lib.hid hone; clear hone
  have hnl := fun k => nlN_le s k
  have HNL := Lib.hid hnl; clear hnl
  go_enter Tryd.func20, Tryd.ntmps20
  go_wp2
  go_loopg [5, 6] s.size (fun q n i wr => ∃ k : Nat, q = s.size - k ∧ k ≤ s.size ∧ i = .int .i64 k ∧ n = .int .i64 (nlN s k) ∧ wr = w)
  case atStart => exact ⟨0, rfl, Nat.zero_le _, rfl, rfl, rfl⟩
  case round =>
    obtain ⟨k, hq, hk, rfl, rfl, rfl⟩ := hrel
    have hle := HNL.out k
    have HQ := Lib.hid hq; clear hq
    by_cases hlt : k < s.size
    · have he := HONE.out k hlt
      by_cases hb : byteAt s k = 10
      · have hn : nlN s (k + 1) = nlN s k + 1 := by simp [nlN, hb]
        rw [decide_eq_true hb] at he
        have HN := Lib.hid hn
        clear hb hn
        go_wp2
        go_roundg (s.size - (k + 1))
        case measure => have := HQ.out; omega
        case rel => exact ⟨k + 1, rfl, by omega, by go_num, by rw [HN.out]; go_num, rfl⟩
      · have hn : nlN s (k + 1) = nlN s k := by simp [nlN, hb]
        rw [decide_eq_false hb] at he
        have HN := Lib.hid hn
        clear hb hn
        go_wp2
        go_roundg (s.size - (k + 1))
        case measure => have := HQ.out; omega
        case rel => exact ⟨k + 1, rfl, by omega, by go_num, by rw [HN.out], rfl⟩
    · have : k = s.size := by omega
      subst this
      go_wp2
      go_ret
      exact ⟨rfl, rfl⟩
end Go.Proofs.YtgphjnhbheimiaaDoor
