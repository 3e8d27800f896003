/-
  The walk of expandEdit: an edit widened to whole lines. Condition: a text of at most 1000000 bytes, an edit within it.
-/
import Derived.Test.YtgphjnhbheimiaaDoorLayL
import Derived.Test.YtgphjnhbheimiaaDoorNlW
import Derived.Test.YtgphjnhbheimiaaDoorTxtA
import Derived.Test.YtgphjnhbheimiaaDoorKit
import Derived.Lib.LastIndexByte
import Derived.Deep.CutRange
import Derived.Deep.DeepCutAuto
import Derived.Deep.RegionHeld3
import Derived.RegionTactic
import Derived.BigRegion
import Derived.ChangeAlike
import Derived.Handy
namespace Go.Proofs.YtgphjnhbheimiaaDoor
set_option linter.unusedVariables false
open Go.RowKit Go.Shelf

theorem lnF_none (s : ByteArray) (k : Nat) (h : ∀ j, j < k → byteAt s j ≠ 10) : lnF s k = 0 := by
  induction k with
  | zero => rfl
  | succ k ih => rw [lnF_no s k (h k (by omega))]; exact ih fun j hj => h j (by omega)
theorem lnF_last (s : ByteArray) (i : Nat) (hb : byteAt s i = 10) : ∀ k, i < k → (∀ j, i < j → j < k → byteAt s j ≠ 10) → lnF s k = i + 1 := by
  intro k
  induction k with
  | zero => intro h; omega
  | succ k ih =>
    intro h1 h2
    by_cases hk : k = i
    · subst hk; exact lnF_nl s k hb
    · rw [lnF_no s k (h2 k (by omega) (by omega))]
      exact ih (by omega) fun j a b => h2 j a (by omega)
theorem byteAt_bang (s : ByteArray) (k : Nat) : (s.data[k]!).toNat = byteAt s k := by
  by_cases h : k < s.size
  · rw [byteAt_get s k h, getElem!_pos s.data k h]
    rfl
  · rw [getElem!_neg s.data k h]
    have h2 : s.data.toList.length ≤ k := by simpa using h
    simp only [byteAt, List.getD_eq_getElem?_getD, List.getElem?_eq_none h2]
    rfl
theorem lastNl_eq (s : ByteArray) (k : Nat) (hk : k ≤ s.size) : Lib.lastIndexByte (s.extract 0 k) 10 = (lnF s k : Int) - 1 := by
  have hz : (s.extract 0 k).size = k := by rw [ByteArray.size_extract]; omega
  have hb : ∀ j, j < k → (((s.extract 0 k).data[j]!).toNat : Int) = (byteAt s j : Int) := fun j hj => by
    rw [byteAt_bang, byteAt_cut s 0 k j hk (by omega), Nat.zero_add]
  unfold Lib.lastIndexByte
  rw [hz]
  rcases Lib.lastIdx_spec (s.extract 0 k) 10 k with ⟨h1, h2⟩ | ⟨i, h1, h2, h3, h4⟩
  · rw [h1, lnF_none s k (fun j hj h => h2 j hj (by rw [hb j hj, h]; rfl))]
    rfl
  · rw [h2, lnF_last s i (by rw [hb i h1] at h3; omega) k h1 (fun j a b h => h4 j a b (by rw [hb j b, h]; rfl))]
    omega
theorem lastNl_any (s : ByteArray) (k : Nat) (hk : k ≤ s.size) (hs : s.size ≤ 4000000) (w : World) :
    Calls Tryd.prog 37 #[.string (s.extract 0 k), .string ⟨#[10]⟩] w fun e w' => e = .returned (.int .i64 ((lnF s k : Int) - 1)) ∧ w' = w := by
  have hz : (s.extract 0 k).size = k := by rw [ByteArray.size_extract]; omega
  have h := Any.strings_LastIndex_one Tryd.li (s.extract 0 k) ⟨#[10]⟩ rfl (by omega) w
  change Calls Tryd.prog 37 _ _ _ at h
  have e : ((⟨#[10]⟩ : ByteArray)[0]'(by decide)).toNat = 10 := by decide
  rw [← lastNl_eq s k hk]
  exact h
theorem indexNl (s : ByteArray) : ∀ f k, k ≤ s.size → s.size ≤ k + f → (Lib.indexByte (s.data.toList.drop k) 10 = -1 ∧ lnEf s f k = s.size) ∨ ∃ p : Nat, Lib.indexByte (s.data.toList.drop k) 10 = p ∧ lnEf s f k = k + p + 1 ∧ k + p < s.size := by
  intro f
  induction f with
  | zero =>
    intro k h1 h2
    rw [List.drop_of_length_le (by simp; omega)]
    exact .inl ⟨rfl, rfl⟩
  | succ f ih =>
    intro k h1 h2
    unfold lnEf
    by_cases hk : k < s.size
    · have h3 : k < s.data.toList.length := by simpa using hk
      rw [if_pos hk, List.drop_eq_getElem_cons h3]
      have hbk : byteAt s k = (s.data.toList[k]).toNat := by rw [byteAt_get s k hk]; simp; rfl
      unfold Lib.indexByte
      by_cases hb : byteAt s k = 10
      · rw [if_pos hb]
        have : s.data.toList[k] = 10 := UInt8.toNat_inj.1 (by rw [← hbk, hb]; rfl)
        rw [this]
        exact .inr ⟨0, rfl, rfl, hk⟩
      · rw [if_neg hb]
        have hne : (s.data.toList[k] == 10) = false := by
          cases he : (s.data.toList[k] == 10) with
          | false => rfl
          | true =>
            have := eq_of_beq he
            rw [this] at hbk
            exact absurd hbk hb
        rw [if_neg (by rw [hne]; simp)]
        rcases ih (k + 1) (by omega) (by omega) with ⟨g1, g2⟩ | ⟨p, g1, g2, g3⟩
        · rw [g1]
          exact .inl ⟨rfl, g2⟩
        · rw [g1, g2]
          refine .inr ⟨p + 1, ?_, by omega, by omega⟩
          rw [if_neg (by simp)]
          omega
    · rw [if_neg hk, List.drop_of_length_le (by simp; omega)]
      exact .inl ⟨rfl, rfl⟩
theorem firstNl_any (s : ByteArray) (k : Nat) (hk : k ≤ s.size) (w : World) :
    Calls Tryd.prog 38 #[.string (s.extract k s.size), .int .u8 10] w fun e w' => (∃ p : Int, e = .returned (.int .i64 p) ∧ ((p = -1 ∧ lnE s k = s.size) ∨ ∃ q : Nat, p = q ∧ lnE s k = k + q + 1 ∧ k + q < s.size)) ∧ w' = w := by
  have h := Any.strings_IndexByte Tryd.ib (s.extract k s.size) 10 w
  change Calls Tryd.prog 38 _ _ _ at h
  refine h.mono ?_
  rintro e w' ⟨rfl, rfl⟩
  have hd : (s.extract k s.size).data.toList = s.data.toList.drop k := by
    rw [Lib.extract_data]
    exact List.take_of_length_le (by simp)
  refine ⟨⟨_, rfl, ?_⟩, rfl⟩
  rw [hd]
  exact indexNl s s.size k hk (by omega)
/-- what expandEdit gives -/
def ExpOut (x : Ed) (w : World) (e : Ending) (w' : World) : Prop :=
  e = .returned (.agg #[.int .i64 x.s, .int .i64 x.e, .string x.n]) ∧ Below w.heap.size w w'
set_option maxRecDepth 100000 in
set_option maxHeartbeats 1000000 in
theorem expand_any (s : ByteArray) (x : Ed) (w : World) (hs : s.size ≤ 1000000) (hx : 0 ≤ x.s ∧ x.s ≤ x.e ∧ x.e ≤ s.size) (hn : x.n.size ≤ 4000000) :
    Calls Tryd.prog 28 #[.agg #[.int .i64 x.s, .int .i64 x.e, .string x.n], .string s] w (ExpOut (expE s x) w) := by
  obtain ⟨X, Y, n⟩ := x
  obtain ⟨a, rfl⟩ : ∃ a : Nat, X = a := ⟨X.toNat, by have := hx.1; simp only at this; omega⟩
  obtain ⟨c, rfl⟩ : ∃ c : Nat, Y = c := ⟨Y.toNat, by have := hx; simp only at this; omega⟩
  simp only at hx hn
  obtain ⟨-, hac, hcs⟩ := hx
  have hac : a ≤ c := by omega
  have hcs : c ≤ s.size := by omega
  have hl := lastNl_any s a (by omega) (by omega)
  have hf := firstNl_any s c hcs
  have hla := lnF_le s a
  obtain ⟨l, hl0⟩ : ∃ l, lnF s a = l := ⟨_, rfl⟩
  have hexp : expE s ⟨a, c, n⟩ = ⟨l, (if behindB s c && wholeB (s.extract l a ++ n) then c else lnE s c : Nat), s.extract l a ++ n ++ s.extract c (if behindB s c && wholeB (s.extract l a ++ n) then c else lnE s c)⟩ := by
    simp only [expE, Int.toNat_natCast, hl0]
  have hle := lnE_spec s c hcs
  rw [hexp]
  clear hexp
  rw [hl0] at hl hla
  clear hl0
  generalize lnE s c = le at *
  obtain ⟨n1, hn1⟩ : ∃ n1, s.extract l a ++ n = n1 := ⟨_, rfl⟩
  have hns : n1.size ≤ 5000000 := by rw [← hn1, ByteArray.size_append, ByteArray.size_extract]; omega
  rw [hn1]
  obtain ⟨g, hg⟩ : ∃ g, (behindB s c && wholeB n1) = g := ⟨_, rfl⟩
  rw [hg]
  obtain ⟨e2, he2⟩ : ∃ e2 : Nat, (if g = true then c else le) = e2 := ⟨_, rfl⟩
  rw [he2]
  have HL := Lib.hid hl; have HF := Lib.hid hf
  clear hl hf
  have HLE := Lib.hid hle; clear hle
  have HG := Lib.hid hg; have HE2 := Lib.hid he2; have HN1 := Lib.hid hn1; clear hg he2 hn1
  unfold ExpOut
  obtain ⟨d, hd⟩ : ∃ d : Nat, a = l + d := ⟨a - l, by omega⟩
  have hd1 : d ≤ a := by omega
  have hdw : (a : Int) - 1 - ((l : Int) - 1) = (d : Int) := by omega
  have hald : (a : Int) - (d : Int) = (l : Int) := by omega
  have HD := Lib.hid hd; clear hd
  go_enter Tryd.func28, Tryd.ntmps28
  go_wp2_with fail
  refine (HL.out _).mono ?_
  rintro e w1 ⟨rfl, rfl⟩
  go_upto_if 19 with fail
  go_cut [] (fun wy => Blk wy w.heap.size 50 #[.int .i64 (l : Int), .int .i64 (c : Int), .string n1] ∧ Blk wy (w.heap.size + 1) 50 #[.int .i64 0, .int .i64 0, .string ⟨#[]⟩] ∧ Below w.heap.size w wy)
  case first =>
    have b1 := (Blk.new w 50 #[.int .i64 (l : Int), .int .i64 (c : Int), .string n]).alloc (.cells #[.int .i64 0, .int .i64 0, .string ⟨#[]⟩] 50)
    have b2 := Blk.new (w.alloc (.cells #[.int .i64 (l : Int), .int .i64 (c : Int), .string n] 50)) 50 #[.int .i64 0, .int .i64 0, .string ⟨#[]⟩]
    have b3 := ((Below.refl w.heap.size w).alloc (Nat.le_refl _) (.cells #[.int .i64 (l : Int), .int .i64 (c : Int), .string n] 50)).alloc (by simp) (.cells #[.int .i64 0, .int .i64 0, .string ⟨#[]⟩] 50)
    rw [show (w.alloc (.cells #[.int .i64 (l : Int), .int .i64 (c : Int), .string n] 50)).heap.size = w.heap.size + 1 by simp] at b2
    by_cases hd0 : (0 : Int) < (d : Int)
    · have i1 : (0 : Int) ≤ (l : Int) := by omega
      have i2 : (l : Int) ≤ (a : Int) := by omega
      have i3 : (a : Int) ≤ (s.size : Int) := by omega
      go_wp2_with fail
      generalize hW : (w.alloc (.cells #[.int .i64 (l : Int), .int .i64 (c : Int), .string n] 50)).alloc (.cells #[.int .i64 0, .int .i64 0, .string ⟨#[]⟩] 50) = W at *
      have c0 := b1.cell 2
      have c1 := b1.frozen 2
      have B1 := Lib.hid b1; have B2 := Lib.hid b2; have B3 := Lib.hid b3
      clear hW b1 b2 b3
      go_region
      all_goals
        go_wp2_with fail
        go_meet
        have := HN1.out
        exact ⟨by have h := B1.out.set_ 2 (.string (s.extract l a ++ n)); rw [this] at h ⊢; exact h.drew, (B2.out.far (by simp) _).drew, (B3.out.setCell (Nat.le_refl _) _).drew⟩
    · have hda : a = l := by have := HD.out; omega
      subst hda
      have h0 : n = n1 := by
        have := HN1.out
        rw [show s.extract a a = ByteArray.empty from ByteArray.extract_eq_empty_iff.2 (by omega), ByteArray.empty_append] at this
        exact this
      subst h0
      go_wp2_with fail
      go_meet
      exact ⟨b1, b2, b3⟩
  case rest =>
    obtain ⟨b1, b2, b3⟩ := hcut
    have c0 := b1.cell 0
    have c1 := b1.cell 1
    have c2 := b1.cell 2
    have f1 := b1.frozen 1
    have f2 := b1.frozen 2
    have B1 := Lib.hid b1; have B2 := Lib.hid b2; have B3 := Lib.hid b3
    clear b1 b2 b3
    go_upto_region 7 with fail
    go_cut [60] (fun v wx => v = .bool (!g) ∧ wc = wx)
    case first =>
      by_cases h0 : c = 0
      · subst h0
        have hbh : behindB s 0 = true := rfl
        have HBH := Lib.hid hbh; clear hbh
        rcases Nat.eq_zero_or_pos n1.size with hz | hz
        · have : n1 = ⟨#[]⟩ := ByteArray.size_eq_zero_iff.1 hz
          subst this
          have hg : g = true := by rw [← HG.out, HBH.out]; rfl
          clear hz
          subst hg
          go_wp2_with fail
          go_meet
          exact ⟨rfl, rfl⟩
        · obtain ⟨z, hz⟩ : ∃ z, n1.size = z + 1 := ⟨n1.size - 1, by omega⟩
          have hzl : z < n1.size := by omega
          have hz1 : (n1.size : Int) - 1 = (z : Int) := by omega
          have hne : ¬ n1 = ⟨#[]⟩ := fun h => by rw [h] at hzl; exact absurd hzl (Nat.not_lt_zero _)
          have e1 : (n1.toList == ByteArray.toList ⟨#[]⟩) = false := strEq_false hne
          have e5 : n1.toList.isEmpty = false := by
            cases hx : n1.toList with
            | nil => rw [hx] at e1; simp at e1
            | cons a l => rfl
          by_cases h10 : byteAt n1 z = 10
          · have e2 : (((n1[z]'hzl).toNat : Int) != 10) = false := by rw [byteAt_get n1 z hzl] at h10; simp [h10]
            have hg : g = true := by rw [← HG.out, HBH.out]; simp [wholeB, hz, h10]
            clear h10 hne hz
            subst hg
            go_wp2_with fail
            go_meet
            exact ⟨rfl, rfl⟩
          · have e2 : (((n1[z]'hzl).toNat : Int) != 10) = true := by rw [byteAt_get n1 z hzl] at h10; simp; omega
            have hg : g = false := by rw [← HG.out, HBH.out]; simp [wholeB, hz, h10]
            clear h10 hne hz
            subst hg
            go_wp2_with fail
            go_meet
            exact ⟨rfl, rfl⟩
      · obtain ⟨q, rfl⟩ : ∃ q, c = q + 1 := ⟨c - 1, by omega⟩
        have hq : q < s.size := by omega
        have hq0 : (0 : Int) < ((q + 1 : Nat) : Int) := by omega
        have hq1 : ((q + 1 : Nat) : Int) - 1 = (q : Int) := by omega
        clear h0
        by_cases hb : byteAt s q = 10
        · have eb : (((s[q]'hq).toNat : Int) != 10) = false := by rw [byteAt_get s q hq] at hb; simp [hb]
          have hbh : behindB s (q + 1) = true := by simp [behindB, hb]
          have HBH := Lib.hid hbh; clear hbh hb
          rcases Nat.eq_zero_or_pos n1.size with hz | hz
          · have : n1 = ⟨#[]⟩ := ByteArray.size_eq_zero_iff.1 hz
            subst this
            have hg : g = true := by rw [← HG.out, HBH.out]; rfl
            clear hz
            subst hg
            go_wp2_with fail
            go_meet
            exact ⟨rfl, rfl⟩
          · obtain ⟨z, hz⟩ : ∃ z, n1.size = z + 1 := ⟨n1.size - 1, by omega⟩
            have hzl : z < n1.size := by omega
            have hz1 : (n1.size : Int) - 1 = (z : Int) := by omega
            have hne : ¬ n1 = ⟨#[]⟩ := fun h => by rw [h] at hzl; exact absurd hzl (Nat.not_lt_zero _)
            have e1 : (n1.toList == ByteArray.toList ⟨#[]⟩) = false := strEq_false hne
            have e5 : n1.toList.isEmpty = false := by
              cases hx : n1.toList with
              | nil => rw [hx] at e1; simp at e1
              | cons a l => rfl
            by_cases h10 : byteAt n1 z = 10
            · have e2 : (((n1[z]'hzl).toNat : Int) != 10) = false := by rw [byteAt_get n1 z hzl] at h10; simp [h10]
              have hg : g = true := by rw [← HG.out, HBH.out]; simp [wholeB, hz, h10]
              clear h10 hne hz
              subst hg
              go_wp2_with fail
              go_meet
              exact ⟨rfl, rfl⟩
            · have e2 : (((n1[z]'hzl).toNat : Int) != 10) = true := by rw [byteAt_get n1 z hzl] at h10; simp; omega
              have hg : g = false := by rw [← HG.out, HBH.out]; simp [wholeB, hz, h10]
              clear h10 hne hz
              subst hg
              go_wp2_with fail
              go_meet
              exact ⟨rfl, rfl⟩
        · have eb : (((s[q]'hq).toNat : Int) != 10) = true := by rw [byteAt_get s q hq] at hb; simp; omega
          have hg : g = false := by rw [← HG.out]; simp [behindB, hb]
          clear hb
          subst hg
          go_wp2_with fail
          go_meet
          exact ⟨rfl, rfl⟩
    case rest =>
      obtain ⟨rfl, rfl⟩ := hcut
      go_upto_if 60 with fail
      go_cut [] (fun wy => Blk wy w.heap.size 50 #[.int .i64 (l : Int), .int .i64 (e2 : Int), .string n1] ∧ Blk wy (w.heap.size + 1) 50 #[.int .i64 0, .int .i64 0, .string ⟨#[]⟩] ∧ Below w.heap.size w wy)
      case first =>
        cases g with
        | true =>
          have : c = e2 := HE2.out
          subst this
          go_wp2_with fail
          go_meet
          exact ⟨B1.out, B2.out, B3.out⟩
        | false =>
          have : le = e2 := HE2.out
          subst this
          go_wp2_with fail
          refine (HF.out _).mono ?_
          rintro e w2 ⟨⟨p, rfl, hp⟩, rfl⟩
          rcases hp with ⟨rfl, hle⟩ | ⟨q, rfl, hle, hq⟩
          · subst hle
            go_wp2_with fail
            go_meet
            exact ⟨B1.out.set_ 1 _, B2.out.far (by simp) _, B3.out.setCell (Nat.le_refl _) _⟩
          · have hq1 : (c : Int) + (q : Int) + 1 = (le : Int) := by omega
            clear hle
            go_wp2_with fail
            go_meet
            exact ⟨B1.out.set_ 1 _, B2.out.far (by simp) _, B3.out.setCell (Nat.le_refl _) _⟩
      case rest =>
        obtain ⟨b1, b2, b3⟩ := hcut
        have hce : c ≤ e2 ∧ e2 ≤ s.size := by
          have h1 := HE2.out
          have h2 := HLE.out
          by_cases hg : g = true
          · rw [if_pos hg] at h1; omega
          · rw [if_neg hg] at h1; omega
        have c0 := b1.cell 0
        have c1 := b1.cell 1
        have c2 := b1.cell 2
        have f2 := b1.frozen 2
        have i1 : (0 : Int) ≤ (c : Int) := by omega
        have i2 : (c : Int) ≤ (e2 : Int) := by omega
        have i3 : (e2 : Int) ≤ (s.size : Int) := by omega
        have B1 := Lib.hid b1; have B2 := Lib.hid b2; have B3 := Lib.hid b3
        clear b1 b2 b3
        go_wp2_with fail
        go_region
        all_goals
          have d1 := (B1.out.set_ 2 (.string (n1 ++ s.extract c e2))).drew
          have d2 := (B2.out.far (p := ⟨w.heap.size, 2, none⟩) (by simp) (.string (n1 ++ s.extract c e2))).drew
          have d3 := (B3.out.setCell (p := ⟨w.heap.size, 2, none⟩) (Nat.le_refl _) (.string (n1 ++ s.extract c e2))).drew
          generalize (wc.setCell ⟨w.heap.size, 2, none⟩ (.string (n1 ++ s.extract c e2))).drew = W2 at *
          have x0 := d1.cell 0
          have x1 := d1.cell 1
          have x2 := d1.cell 2
          have z0 := d2.cell 0
          have z1 := d2.cell 1
          have z2 := d2.cell 2
          have y0 := d2.frozen 0
          have y1 := d2.frozen 1
          have y2 := d2.frozen 2
          have D3 := Lib.hid d3; have D2 := Lib.hid d2
          clear d1 d2 d3
          go_wp2_with fail
          have g3 := (((D2.out.set_ 0 (.int .i64 (l : Int))).set_ 1 (.int .i64 (e2 : Int))).set_ 2 (.string (n1 ++ s.extract c e2)))
          have G4 := Lib.hid (((D3.out.setCell (p := ⟨w.heap.size + 1, 0, none⟩) (by simp) (.int .i64 (l : Int))).setCell (p := ⟨w.heap.size + 1, 1, none⟩) (by simp) (.int .i64 (e2 : Int))).setCell (p := ⟨w.heap.size + 1, 2, none⟩) (by simp) (.string (n1 ++ s.extract c e2)))
          generalize ((W2.setCell ⟨w.heap.size + 1, 0, none⟩ (.int .i64 (l : Int))).setCell ⟨w.heap.size + 1, 1, none⟩ (.int .i64 (e2 : Int))).setCell ⟨w.heap.size + 1, 2, none⟩ (.string (n1 ++ s.extract c e2)) = W3 at *
          have q0 := g3.cell 0
          have q1 := g3.cell 1
          have q2 := g3.cell 2
          clear g3
          refine bodyPost_ret (by simp [results, Tryd.results28, go_sem, q0, q1, q2]; try rfl) rfl ?_
          exact ⟨rfl, G4.out⟩
end Go.Proofs.YtgphjnhbheimiaaDoor
