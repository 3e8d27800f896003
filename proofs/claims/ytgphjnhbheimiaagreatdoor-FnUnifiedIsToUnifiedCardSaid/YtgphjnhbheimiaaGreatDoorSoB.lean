/-
  The walk of expandEdit: an edit widened to whole lines. Condition: a text of at most 1000000 bytes, an edit within it.
  The walks of (editsSort).Len, Less and of sort.IsSorted over it. No condition but the length.
  The walk of diff.validate: over edits in their order, and over others as the sort leaves them (a premise). At most 2000000 edits, texts of at most 2000000 bytes together.
  The walk of diff.Apply.
  The walk of impl.Apply.
  The stable sort in plain words: what swaps, the insertion sort, rotations and merges do to a row of edits. No condition.
-/
import Derived.Test.YtgphjnhbheimiaaGreatDoorLayL
import Derived.Test.YtgphjnhbheimiaaGreatDoorLiB
import Derived.Test.YtgphjnhbheimiaaGreatDoorTxB
import Derived.Test.YtgphjnhbheimiaaGreatDoorKit
import Derived.Lib.LastIndexByte
import Derived.Deep.CutRange
import Derived.Deep.DeepCutAuto
import Derived.Deep.RegionHeld3
import Derived.RegionTactic
import Derived.BigRegion
import Derived.ChangeAlike
import Derived.Handy
import Derived.Deep.LoopGhost
import Derived.IntWalk
import Derived.Shelf.GgSortMore.Iface
import Derived.Deep.RegionLaw
import Derived.Lib.AppendStr
import Derived.Laws.BytesString
import Derived.OwnWalk
namespace Go.Proofs.YtgphjnhbheimiaaGreatDoor
set_option linter.unusedVariables false
open Go.RowKit Go.Shelf

theorem lnF_none (s : ByteArray) (k : Nat) (h : ∀ j, j < k → byteAt s j ≠ 10) : lnF s k = 0 := by
  induction k with
  | zero => rfl
  | succ k ih => rw [lnF_no s k (h k (by omega))]; exact ih fun j hj => h j (by omega)
theorem lnF_last (s : ByteArray) (i : Nat) (hb : byteAt s i = 10) : ∀ k, i < k → (∀ j, i < j → j < k → byteAt s j ≠ 10) → lnF s k = i + 1 := by
  intro k
  induction k with
  | zero => intro h; omega
  | succ k ih =>
    intro h1 h2
    by_cases hk : k = i
    · subst hk; exact lnF_nl s k hb
    · rw [lnF_no s k (h2 k (by omega) (by omega))]
      exact ih (by omega) fun j a b => h2 j a (by omega)
theorem byteAt_bang (s : ByteArray) (k : Nat) : (s.data[k]!).toNat = byteAt s k := by
  by_cases h : k < s.size
  · rw [byteAt_get s k h, getElem!_pos s.data k h]
    rfl
  · rw [getElem!_neg s.data k h]
    have h2 : s.data.toList.length ≤ k := by simpa using h
    simp only [byteAt, List.getD_eq_getElem?_getD, List.getElem?_eq_none h2]
    rfl
theorem lastNl_eq (s : ByteArray) (k : Nat) (hk : k ≤ s.size) : Lib.lastIndexByte (s.extract 0 k) 10 = (lnF s k : Int) - 1 := by
  have hz : (s.extract 0 k).size = k := by rw [ByteArray.size_extract]; omega
  have hb : ∀ j, j < k → (((s.extract 0 k).data[j]!).toNat : Int) = (byteAt s j : Int) := fun j hj => by
    rw [byteAt_bang, byteAt_cut s 0 k j hk (by omega), Nat.zero_add]
  unfold Lib.lastIndexByte
  rw [hz]
  rcases Lib.lastIdx_spec (s.extract 0 k) 10 k with ⟨h1, h2⟩ | ⟨i, h1, h2, h3, h4⟩
  · rw [h1, lnF_none s k (fun j hj h => h2 j hj (by rw [hb j hj, h]; rfl))]
    rfl
  · rw [h2, lnF_last s i (by rw [hb i h1] at h3; omega) k h1 (fun j a b h => h4 j a b (by rw [hb j b, h]; rfl))]
    omega
theorem lastNl_any (s : ByteArray) (k : Nat) (hk : k ≤ s.size) (hs : s.size ≤ 4000000) (w : World) :
    Calls Tryz.prog 43 #[.string (s.extract 0 k), .string ⟨#[10]⟩] w fun e w' => e = .returned (.int .i64 ((lnF s k : Int) - 1)) ∧ w' = w := by
  have hz : (s.extract 0 k).size = k := by rw [ByteArray.size_extract]; omega
  have h := Any.strings_LastIndex_one Tryz.li (s.extract 0 k) ⟨#[10]⟩ rfl (by omega) w
  change Calls Tryz.prog 43 _ _ _ at h
  have e : ((⟨#[10]⟩ : ByteArray)[0]'(by decide)).toNat = 10 := by decide
  rw [← lastNl_eq s k hk]
  exact h
theorem indexNl (s : ByteArray) : ∀ f k, k ≤ s.size → s.size ≤ k + f → (Lib.indexByte (s.data.toList.drop k) 10 = -1 ∧ lnEf s f k = s.size) ∨ ∃ p : Nat, Lib.indexByte (s.data.toList.drop k) 10 = p ∧ lnEf s f k = k + p + 1 ∧ k + p < s.size := by
  intro f
  induction f with
  | zero =>
    intro k h1 h2
    rw [List.drop_of_length_le (by simp; omega)]
    exact .inl ⟨rfl, rfl⟩
  | succ f ih =>
    intro k h1 h2
    unfold lnEf
    by_cases hk : k < s.size
    · have h3 : k < s.data.toList.length := by simpa using hk
      rw [if_pos hk, List.drop_eq_getElem_cons h3]
      have hbk : byteAt s k = (s.data.toList[k]).toNat := by rw [byteAt_get s k hk]; simp; rfl
      unfold Lib.indexByte
      by_cases hb : byteAt s k = 10
      · rw [if_pos hb]
        have : s.data.toList[k] = 10 := UInt8.toNat_inj.1 (by rw [← hbk, hb]; rfl)
        rw [this]
        exact .inr ⟨0, rfl, rfl, hk⟩
      · rw [if_neg hb]
        have hne : (s.data.toList[k] == 10) = false := by
          cases he : (s.data.toList[k] == 10) with
          | false => rfl
          | true =>
            have := eq_of_beq he
            rw [this] at hbk
            exact absurd hbk hb
        rw [if_neg (by rw [hne]; simp)]
        rcases ih (k + 1) (by omega) (by omega) with ⟨g1, g2⟩ | ⟨p, g1, g2, g3⟩
        · rw [g1]
          exact .inl ⟨rfl, g2⟩
        · rw [g1, g2]
          refine .inr ⟨p + 1, ?_, by omega, by omega⟩
          rw [if_neg (by simp)]
          omega
    · rw [if_neg hk, List.drop_of_length_le (by simp; omega)]
      exact .inl ⟨rfl, rfl⟩
theorem firstNl_any (s : ByteArray) (k : Nat) (hk : k ≤ s.size) (w : World) :
    Calls Tryz.prog 44 #[.string (s.extract k s.size), .int .u8 10] w fun e w' => (∃ p : Int, e = .returned (.int .i64 p) ∧ ((p = -1 ∧ lnE s k = s.size) ∨ ∃ q : Nat, p = q ∧ lnE s k = k + q + 1 ∧ k + q < s.size)) ∧ w' = w := by
  have h := Any.strings_IndexByte Tryz.ib (s.extract k s.size) 10 w
  change Calls Tryz.prog 44 _ _ _ at h
  refine h.mono ?_
  rintro e w' ⟨rfl, rfl⟩
  have hd : (s.extract k s.size).data.toList = s.data.toList.drop k := by
    rw [Lib.extract_data]
    exact List.take_of_length_le (by simp)
  refine ⟨⟨_, rfl, ?_⟩, rfl⟩
  rw [hd]
  exact indexNl s s.size k hk (by omega)
/-- what expandEdit gives -/
def ExpOut (x : Ed) (w : World) (e : Ending) (w' : World) : Prop :=
  e = .returned (.agg #[.int .i64 x.s, .int .i64 x.e, .string x.n]) ∧ Below w.heap.size w w'
set_option maxRecDepth 100000 in
set_option maxHeartbeats 1000000 in
theorem expand_any (s : ByteArray) (x : Ed) (w : World) (hs : s.size ≤ 1000000) (hx : 0 ≤ x.s ∧ x.s ≤ x.e ∧ x.e ≤ s.size) (hn : x.n.size ≤ 4000000) :
    Calls Tryz.prog 31 #[.agg #[.int .i64 x.s, .int .i64 x.e, .string x.n], .string s] w (ExpOut (expE s x) w) := by
  obtain ⟨X, Y, n⟩ := x
  obtain ⟨a, rfl⟩ : ∃ a : Nat, X = a := ⟨X.toNat, by have := hx.1; simp only at this; omega⟩
  obtain ⟨c, rfl⟩ : ∃ c : Nat, Y = c := ⟨Y.toNat, by have := hx; simp only at this; omega⟩
  simp only at hx hn
  obtain ⟨-, hac, hcs⟩ := hx
  have hac : a ≤ c := by omega
  have hcs : c ≤ s.size := by omega
  have hl := lastNl_any s a (by omega) (by omega)
  have hf := firstNl_any s c hcs
  have hla := lnF_le s a
  obtain ⟨l, hl0⟩ : ∃ l, lnF s a = l := ⟨_, rfl⟩
  have hexp : expE s ⟨a, c, n⟩ = ⟨l, (if behindB s c && wholeB (s.extract l a ++ n) then c else lnE s c : Nat), s.extract l a ++ n ++ s.extract c (if behindB s c && wholeB (s.extract l a ++ n) then c else lnE s c)⟩ := by
    simp only [expE, Int.toNat_natCast, hl0]
  have hle := lnE_spec s c hcs
  rw [hexp]
  clear hexp
  rw [hl0] at hl hla
  clear hl0
  generalize lnE s c = le at *
  obtain ⟨n1, hn1⟩ : ∃ n1, s.extract l a ++ n = n1 := ⟨_, rfl⟩
  have hns : n1.size ≤ 5000000 := by rw [← hn1, ByteArray.size_append, ByteArray.size_extract]; omega
  rw [hn1]
  obtain ⟨g, hg⟩ : ∃ g, (behindB s c && wholeB n1) = g := ⟨_, rfl⟩
  rw [hg]
  obtain ⟨e2, he2⟩ : ∃ e2 : Nat, (if g = true then c else le) = e2 := ⟨_, rfl⟩
  rw [he2]
  have HL := Lib.hid hl; have HF := Lib.hid hf
  clear hl hf
  have HLE := Lib.hid hle; clear hle
  have HG := Lib.hid hg; have HE2 := Lib.hid he2; have HN1 := Lib.hid hn1; clear hg he2 hn1
  unfold ExpOut
  obtain ⟨d, hd⟩ : ∃ d : Nat, a = l + d := ⟨a - l, by omega⟩
  have hd1 : d ≤ a := by omega
  have hdw : (a : Int) - 1 - ((l : Int) - 1) = (d : Int) := by omega
  have hald : (a : Int) - (d : Int) = (l : Int) := by omega
  have HD := Lib.hid hd; clear hd
  go_enter Tryz.func31, Tryz.ntmps31
  go_wp2_with fail
  refine (HL.out _).mono ?_
  rintro e w1 ⟨rfl, rfl⟩
  go_upto_if 19 with fail
  go_cut [] (fun wy => Blk wy w.heap.size 47 #[.int .i64 (l : Int), .int .i64 (c : Int), .string n1] ∧ Blk wy (w.heap.size + 1) 47 #[.int .i64 0, .int .i64 0, .string ⟨#[]⟩] ∧ Below w.heap.size w wy)
  case first =>
    have b1 := (Blk.new w 47 #[.int .i64 (l : Int), .int .i64 (c : Int), .string n]).alloc (.cells #[.int .i64 0, .int .i64 0, .string ⟨#[]⟩] 47)
    have b2 := Blk.new (w.alloc (.cells #[.int .i64 (l : Int), .int .i64 (c : Int), .string n] 47)) 47 #[.int .i64 0, .int .i64 0, .string ⟨#[]⟩]
    have b3 := ((Below.refl w.heap.size w).alloc (Nat.le_refl _) (.cells #[.int .i64 (l : Int), .int .i64 (c : Int), .string n] 47)).alloc (by simp) (.cells #[.int .i64 0, .int .i64 0, .string ⟨#[]⟩] 47)
    rw [show (w.alloc (.cells #[.int .i64 (l : Int), .int .i64 (c : Int), .string n] 47)).heap.size = w.heap.size + 1 by simp] at b2
    by_cases hd0 : (0 : Int) < (d : Int)
    · have i1 : (0 : Int) ≤ (l : Int) := by omega
      have i2 : (l : Int) ≤ (a : Int) := by omega
      have i3 : (a : Int) ≤ (s.size : Int) := by omega
      go_wp2_with fail
      generalize hW : (w.alloc (.cells #[.int .i64 (l : Int), .int .i64 (c : Int), .string n] 47)).alloc (.cells #[.int .i64 0, .int .i64 0, .string ⟨#[]⟩] 47) = W at *
      have c0 := b1.cell 2
      have c1 := b1.frozen 2
      have B1 := Lib.hid b1; have B2 := Lib.hid b2; have B3 := Lib.hid b3
      clear hW b1 b2 b3
      go_region
      all_goals
        go_wp2_with fail
        go_meet
        have := HN1.out
        exact ⟨by have h := B1.out.set_ 2 (.string (s.extract l a ++ n)); rw [this] at h ⊢; exact h.drew, (B2.out.far (by simp) _).drew, (B3.out.setCell (Nat.le_refl _) _).drew⟩
    · have hda : a = l := by have := HD.out; omega
      subst hda
      have h0 : n = n1 := by
        have := HN1.out
        rw [show s.extract a a = ByteArray.empty from ByteArray.extract_eq_empty_iff.2 (by omega), ByteArray.empty_append] at this
        exact this
      subst h0
      go_wp2_with fail
      go_meet
      exact ⟨b1, b2, b3⟩
  case rest =>
    obtain ⟨b1, b2, b3⟩ := hcut
    have c0 := b1.cell 0
    have c1 := b1.cell 1
    have c2 := b1.cell 2
    have f1 := b1.frozen 1
    have f2 := b1.frozen 2
    have B1 := Lib.hid b1; have B2 := Lib.hid b2; have B3 := Lib.hid b3
    clear b1 b2 b3
    go_upto_region 7 with fail
    go_cut [60] (fun v wx => v = .bool (!g) ∧ wc = wx)
    case first =>
      by_cases h0 : c = 0
      · subst h0
        have hbh : behindB s 0 = true := rfl
        have HBH := Lib.hid hbh; clear hbh
        rcases Nat.eq_zero_or_pos n1.size with hz | hz
        · have : n1 = ⟨#[]⟩ := ByteArray.size_eq_zero_iff.1 hz
          subst this
          have hg : g = true := by rw [← HG.out, HBH.out]; rfl
          clear hz
          subst hg
          go_wp2_with fail
          go_meet
          exact ⟨rfl, rfl⟩
        · obtain ⟨z, hz⟩ : ∃ z, n1.size = z + 1 := ⟨n1.size - 1, by omega⟩
          have hzl : z < n1.size := by omega
          have hz1 : (n1.size : Int) - 1 = (z : Int) := by omega
          have hne : ¬ n1 = ⟨#[]⟩ := fun h => by rw [h] at hzl; exact absurd hzl (Nat.not_lt_zero _)
          have e1 : (n1.toList == ByteArray.toList ⟨#[]⟩) = false := strEq_false hne
          have e5 : n1.toList.isEmpty = false := by
            cases hx : n1.toList with
            | nil => rw [hx] at e1; simp at e1
            | cons a l => rfl
          by_cases h10 : byteAt n1 z = 10
          · have e2 : (((n1[z]'hzl).toNat : Int) != 10) = false := by rw [byteAt_get n1 z hzl] at h10; simp [h10]
            have hg : g = true := by rw [← HG.out, HBH.out]; simp [wholeB, hz, h10]
            clear h10 hne hz
            subst hg
            go_wp2_with fail
            go_meet
            exact ⟨rfl, rfl⟩
          · have e2 : (((n1[z]'hzl).toNat : Int) != 10) = true := by rw [byteAt_get n1 z hzl] at h10; simp; omega
            have hg : g = false := by rw [← HG.out, HBH.out]; simp [wholeB, hz, h10]
            clear h10 hne hz
            subst hg
            go_wp2_with fail
            go_meet
            exact ⟨rfl, rfl⟩
      · obtain ⟨q, rfl⟩ : ∃ q, c = q + 1 := ⟨c - 1, by omega⟩
        have hq : q < s.size := by omega
        have hq0 : (0 : Int) < ((q + 1 : Nat) : Int) := by omega
        have hq1 : ((q + 1 : Nat) : Int) - 1 = (q : Int) := by omega
        clear h0
        by_cases hb : byteAt s q = 10
        · have eb : (((s[q]'hq).toNat : Int) != 10) = false := by rw [byteAt_get s q hq] at hb; simp [hb]
          have hbh : behindB s (q + 1) = true := by simp [behindB, hb]
          have HBH := Lib.hid hbh; clear hbh hb
          rcases Nat.eq_zero_or_pos n1.size with hz | hz
          · have : n1 = ⟨#[]⟩ := ByteArray.size_eq_zero_iff.1 hz
            subst this
            have hg : g = true := by rw [← HG.out, HBH.out]; rfl
            clear hz
            subst hg
            go_wp2_with fail
            go_meet
            exact ⟨rfl, rfl⟩
          · obtain ⟨z, hz⟩ : ∃ z, n1.size = z + 1 := ⟨n1.size - 1, by omega⟩
            have hzl : z < n1.size := by omega
            have hz1 : (n1.size : Int) - 1 = (z : Int) := by omega
            have hne : ¬ n1 = ⟨#[]⟩ := fun h => by rw [h] at hzl; exact absurd hzl (Nat.not_lt_zero _)
            have e1 : (n1.toList == ByteArray.toList ⟨#[]⟩) = false := strEq_false hne
            have e5 : n1.toList.isEmpty = false := by
              cases hx : n1.toList with
              | nil => rw [hx] at e1; simp at e1
              | cons a l => rfl
            by_cases h10 : byteAt n1 z = 10
            · have e2 : (((n1[z]'hzl).toNat : Int) != 10) = false := by rw [byteAt_get n1 z hzl] at h10; simp [h10]
              have hg : g = true := by rw [← HG.out, HBH.out]; simp [wholeB, hz, h10]
              clear h10 hne hz
              subst hg
              go_wp2_with fail
              go_meet
              exact ⟨rfl, rfl⟩
            · have e2 : (((n1[z]'hzl).toNat : Int) != 10) = true := by rw [byteAt_get n1 z hzl] at h10; simp; omega
              have hg : g = false := by rw [← HG.out, HBH.out]; simp [wholeB, hz, h10]
              clear h10 hne hz
              subst hg
              go_wp2_with fail
              go_meet
              exact ⟨rfl, rfl⟩
        · have eb : (((s[q]'hq).toNat : Int) != 10) = true := by rw [byteAt_get s q hq] at hb; simp; omega
          have hg : g = false := by rw [← HG.out]; simp [behindB, hb]
          clear hb
          subst hg
          go_wp2_with fail
          go_meet
          exact ⟨rfl, rfl⟩
    case rest =>
      obtain ⟨rfl, rfl⟩ := hcut
      go_upto_if 60 with fail
      go_cut [] (fun wy => Blk wy w.heap.size 47 #[.int .i64 (l : Int), .int .i64 (e2 : Int), .string n1] ∧ Blk wy (w.heap.size + 1) 47 #[.int .i64 0, .int .i64 0, .string ⟨#[]⟩] ∧ Below w.heap.size w wy)
      case first =>
        cases g with
        | true =>
          have : c = e2 := HE2.out
          subst this
          go_wp2_with fail
          go_meet
          exact ⟨B1.out, B2.out, B3.out⟩
        | false =>
          have : le = e2 := HE2.out
          subst this
          go_wp2_with fail
          refine (HF.out _).mono ?_
          rintro e w2 ⟨⟨p, rfl, hp⟩, rfl⟩
          rcases hp with ⟨rfl, hle⟩ | ⟨q, rfl, hle, hq⟩
          · subst hle
            go_wp2_with fail
            go_meet
            exact ⟨B1.out.set_ 1 _, B2.out.far (by simp) _, B3.out.setCell (Nat.le_refl _) _⟩
          · have hq1 : (c : Int) + (q : Int) + 1 = (le : Int) := by omega
            clear hle
            go_wp2_with fail
            go_meet
            exact ⟨B1.out.set_ 1 _, B2.out.far (by simp) _, B3.out.setCell (Nat.le_refl _) _⟩
      case rest =>
        obtain ⟨b1, b2, b3⟩ := hcut
        have hce : c ≤ e2 ∧ e2 ≤ s.size := by
          have h1 := HE2.out
          have h2 := HLE.out
          by_cases hg : g = true
          · rw [if_pos hg] at h1; omega
          · rw [if_neg hg] at h1; omega
        have c0 := b1.cell 0
        have c1 := b1.cell 1
        have c2 := b1.cell 2
        have f2 := b1.frozen 2
        have i1 : (0 : Int) ≤ (c : Int) := by omega
        have i2 : (c : Int) ≤ (e2 : Int) := by omega
        have i3 : (e2 : Int) ≤ (s.size : Int) := by omega
        have B1 := Lib.hid b1; have B2 := Lib.hid b2; have B3 := Lib.hid b3
        clear b1 b2 b3
        go_wp2_with fail
        go_region
        all_goals
          have d1 := (B1.out.set_ 2 (.string (n1 ++ s.extract c e2))).drew
          have d2 := (B2.out.far (p := ⟨w.heap.size, 2, none⟩) (by simp) (.string (n1 ++ s.extract c e2))).drew
          have d3 := (B3.out.setCell (p := ⟨w.heap.size, 2, none⟩) (Nat.le_refl _) (.string (n1 ++ s.extract c e2))).drew
          generalize (wc.setCell ⟨w.heap.size, 2, none⟩ (.string (n1 ++ s.extract c e2))).drew = W2 at *
          have x0 := d1.cell 0
          have x1 := d1.cell 1
          have x2 := d1.cell 2
          have z0 := d2.cell 0
          have z1 := d2.cell 1
          have z2 := d2.cell 2
          have y0 := d2.frozen 0
          have y1 := d2.frozen 1
          have y2 := d2.frozen 2
          have D3 := Lib.hid d3; have D2 := Lib.hid d2
          clear d1 d2 d3
          go_wp2_with fail
          have g3 := (((D2.out.set_ 0 (.int .i64 (l : Int))).set_ 1 (.int .i64 (e2 : Int))).set_ 2 (.string (n1 ++ s.extract c e2)))
          have G4 := Lib.hid (((D3.out.setCell (p := ⟨w.heap.size + 1, 0, none⟩) (by simp) (.int .i64 (l : Int))).setCell (p := ⟨w.heap.size + 1, 1, none⟩) (by simp) (.int .i64 (e2 : Int))).setCell (p := ⟨w.heap.size + 1, 2, none⟩) (by simp) (.string (n1 ++ s.extract c e2)))
          generalize ((W2.setCell ⟨w.heap.size + 1, 0, none⟩ (.int .i64 (l : Int))).setCell ⟨w.heap.size + 1, 1, none⟩ (.int .i64 (e2 : Int))).setCell ⟨w.heap.size + 1, 2, none⟩ (.string (n1 ++ s.extract c e2)) = W3 at *
          have q0 := g3.cell 0
          have q1 := g3.cell 1
          have q2 := g3.cell 2
          clear g3
          refine bodyPost_ret (by simp [results, Tryz.results31, go_sem, q0, q1, q2]; try rfl) rfl ?_
          exact ⟨rfl, G4.out⟩
end Go.Proofs.YtgphjnhbheimiaaGreatDoor

namespace Go.Proofs.YtgphjnhbheimiaaGreatDoor
set_option linter.unusedVariables false
set_option maxRecDepth 100000
open Go.RowKit Go.Shelf

/-- (editsSort).Less, as the code reckons it -/
def lessW (x y : Ed) : Bool := if IntKind.i64.wrap (x.s - y.s) = 0 then decide (x.e < y.e) else decide (IntKind.i64.wrap (x.s - y.s) < 0)
/-- sort.IsSorted of it -/
def sortedW : List Ed → Bool
  | x :: y :: l => !lessW y x && sortedW (y :: l)
  | _ => true
theorem sortedW_iff (l : List Ed) : sortedW l = true ↔ ∀ k, k + 1 < l.length → lessW (edAt l (k + 1)) (edAt l k) = false := by
  induction l with
  | nil => simp [sortedW]
  | cons x l ih =>
    cases l with
    | nil => simp [sortedW]
    | cons y l =>
      simp only [sortedW, Bool.and_eq_true, ih, Bool.not_eq_true']
      constructor
      · rintro ⟨h1, h2⟩ k hk
        cases k with
        | zero => simpa [edAt] using h1
        | succ k =>
          have := h2 k (by simpa using hk)
          simpa [edAt] using this
      · intro h
        refine ⟨by simpa [edAt] using h 0 (by simp), fun k hk => ?_⟩
        have := h (k + 1) (by simpa using hk)
        simpa [edAt] using this

theorem len_any (A : Option Addr) (n c : Nat) (w : World) :
   Calls Tryz.prog 149 #[.slice A n c] w fun e w' => e = .returned (.int .i64 n) ∧ w' = w := by
  go_enter Tryz.func149, Tryz.ntmps149
  go_wp2
  go_ret
  exact ⟨rfl, rfl⟩

set_option maxHeartbeats 1000000 in
theorem less_any (A : Option Addr) (c : Nat) (es : List Ed) (w : World) (i j : Nat) (hr : EdsR w A es) (hi : i < es.length) (hj : j < es.length) (hl : es.length ≤ 20000000) :
   Calls Tryz.prog 150 #[.slice A es.length c, .int .i64 i, .int .i64 j] w fun e w' => e = .returned (.bool (lessW (edAt es i) (edAt es j))) ∧ ∃ q, w' = w.drewN q := by
  obtain ⟨b, off, rfl, hbb, g1, g2, g3⟩ := hr.at_ hi
  obtain ⟨b', off', hA, hbb', f1, f2, f3⟩ := hr.at_ hj
  cases hA
  clear hr hbb'
  obtain ⟨n, hln⟩ : ∃ n, es.length = n := ⟨_, rfl⟩
  rw [hln] at hl hi hj ⊢
  have LX := Lib.hid hln; clear hln
  have hi2 : (i : Int) < (n : Int) := by omega
  have hj2 : (j : Int) < (n : Int) := by omega
  have hi3 : (0 : Int) ≤ (i : Int) := by omega
  have hj3 : (0 : Int) ≤ (j : Int) := by omega
  obtain ⟨d, hd⟩ : ∃ d, IntKind.i64.wrap (eS es i - eS es j) = d := ⟨_, rfl⟩
  have hE : lessW (edAt es i) (edAt es j) = (if d = 0 then decide (eE es i < eE es j) else decide (d < 0)) := by rw [← hd]; rfl
  by_cases h0 : d = 0
  · have hb1 : (d != 0) = false := by simp [h0]
    have hb2 : (d == 0) = true := by simp [h0]
    rw [if_pos h0] at hE
    have HE := Lib.hid hE; clear hE h0
    by_cases he : eE es i < eE es j
    all_goals
      go_enter Tryz.func150, Tryz.ntmps150
      go_wp2
      go_quiet (fail)
      go_wp2
      go_quiet (fail)
      go_wp2
      go_ret
      exact ⟨ret_bool (by rw [HE.out] <;> first | (simp; done) | (simp; omega)), _, World.drewN_drewN _ _ _⟩
  · have hb1 : (d != 0) = true := by simp [h0]
    have hb2 : (d == 0) = false := by simp [h0]
    rw [if_neg h0] at hE
    have HE := Lib.hid hE; clear hE h0
    go_enter Tryz.func150, Tryz.ntmps150
    go_wp2
    go_quiet (fail)
    go_wp2
    go_ret
    exact ⟨ret_bool HE.out.symm, _, rfl⟩

theorem findsLen (p : Option Addr) (n c : Nat) : ∀ w, (method (Tryz.prog.types.size + Made.depth) 91 (.slice p n c) "Len").run Tryz.prog w = .ok (149, .slice p n c) w := fun _ => by kernel_rfl
theorem findsLess (p : Option Addr) (n c : Nat) : ∀ w, (method (Tryz.prog.types.size + Made.depth) 91 (.slice p n c) "Less").run Tryz.prog w = .ok (150, .slice p n c) w := fun _ => by kernel_rfl
theorem findsSwap (p : Option Addr) (n c : Nat) : ∀ w, (method (Tryz.prog.types.size + Made.depth) 91 (.slice p n c) "Swap").run Tryz.prog w = .ok (151, .slice p n c) w := fun _ => by kernel_rfl

set_option maxHeartbeats 1000000 in
theorem isSorted_any (A : Option Addr) (c : Nat) (es : List Ed) (w : World) (hr : EdsR w A es) (hl : es.length ≤ 20000000) :
   Calls Tryz.prog 38 #[.iface 91 (.slice A es.length c)] w fun e w' => e = .returned (.bool (sortedW es)) ∧ ∃ q, w' = w.drewN q := by
  have hle := fun q i j (hi : i < es.length) (hj : j < es.length) => less_any A c es (w.drewN q) i j (hr.drewN q) hi hj hl
  have hln := fun q => len_any A es.length c (w.drewN q)
  have HLE := Lib.hid hle; clear hle
  have HLN := Lib.hid hln; clear hln hr
  obtain ⟨n, hn⟩ : ∃ n, es.length = n := ⟨_, rfl⟩
  rw [hn] at hl HLE HLN ⊢
  have LX := Lib.hid hn; clear hn
  have m1 : ∀ w, Sem.run Tryz.prog (method 300 91 (.slice A n c) "Len") w = .ok (149, .slice A n c) w := findsLen A n c
  have m2 : ∀ w, Sem.run Tryz.prog (method 300 91 (.slice A n c) "Less") w = .ok (150, .slice A n c) w := findsLess A n c
  have e1 := enters_of Tryz.func149 (by kernel_rfl) rfl
  have e2 := enters_of Tryz.func150 (by kernel_rfl) rfl
  go_enter Tryz.func38, Tryz.ntmps38
  go_wp2_with fail
  refine (HLN.out 0).mono ?_
  rintro e w' ⟨rfl, rfl⟩
  go_wp2
  go_loopg [4] n (fun q i wr => ∃ k r : Nat, q = k ∧ k ≤ n ∧ i = .int .i64 ((k : Int) - 1) ∧ (∀ j, k ≤ j → j < n → 1 ≤ j → lessW (edAt es j) (edAt es (j - 1)) = false) ∧ wr = w.drewN r)
  case atStart => exact ⟨n, 0, rfl, Nat.le_refl _, rfl, fun j h1 h2 => by omega, rfl⟩
  case round =>
    obtain ⟨k, r, hq, hk, rfl, hall, rfl⟩ := hrel
    have HALL := Lib.hid hall; clear hall
    have HQ := Lib.hid hq; clear hq
    by_cases h2 : 2 ≤ k
    · have hc1 : decide ((0 : Int) < (k : Int) - 1) = true := by simp; omega
      have hc2 : (0 : Int) < (k : Int) - 1 := by omega
      have hs1 : IntKind.i64.wrap ((k : Int) - 1 - 1) = (k : Int) - 1 - 1 := IntWalk.i64_in _ (by omega)
      have hle := HLE.out r (k - 1) (k - 2) (by omega) (by omega)
      rw [show ((k - 1 : Nat) : Int) = (k : Int) - 1 by omega, show ((k - 2 : Nat) : Int) = (k : Int) - 1 - 1 by omega] at hle
      cases hb : lessW (edAt es (k - 1)) (edAt es (k - 2)) with
      | true =>
        rw [hb] at hle
        have HLT := Lib.hid hle; clear hle
        go_wp2_with fail
        refine HLT.out.mono ?_
        rintro e w' ⟨rfl, r2, rfl⟩
        go_wp2
        go_ret
        refine ⟨ret_bool ?_, r + r2, rfl⟩
        cases hs : sortedW es with
        | false => rfl
        | true =>
          have := (sortedW_iff es).1 hs (k - 2) (by rw [LX.out]; omega)
          rw [show k - 2 + 1 = k - 1 by omega, hb] at this
          cases this
      | false =>
        rw [hb] at hle
        have HLT := Lib.hid hle; clear hle
        go_wp2_with fail
        refine HLT.out.mono ?_
        rintro e w' ⟨rfl, r2, rfl⟩
        go_wp2
        go_roundg (k - 1)
        case measure => have := HQ.out; omega
        case rel => exact ⟨k - 1, r + r2, rfl, by omega, by go_num, fun j h1 h2 h3 => by
          by_cases hj : j = k - 1
          · subst hj
            rw [show k - 1 - 1 = k - 2 by omega]
            exact hb
          · exact HALL.out j (by omega) h2 h3, rfl⟩
    · have hc1 : decide ((0 : Int) < (k : Int) - 1) = false := by simp; omega
      have hc2 : ¬ (0 : Int) < (k : Int) - 1 := by omega
      go_wp2
      go_ret
      refine ⟨ret_bool ?_, _, rfl⟩
      symm
      rw [sortedW_iff]
      intro j hj
      rw [LX.out] at hj
      have := HALL.out (j + 1) (by omega) hj (by omega)
      simpa using this
end Go.Proofs.YtgphjnhbheimiaaGreatDoor

namespace Go.Proofs.YtgphjnhbheimiaaGreatDoor
set_option linter.unusedVariables false
set_option maxRecDepth 100000
open Go.RowKit Go.Shelf

/-- how long the text becomes -/
def sizeD (N : Int) : List Ed → Int
  | [] => N
  | x :: l => sizeD (N + (x.n.size + x.s - x.e)) l

/-- the bounds of the size on the way -/
theorem sizeD_drop (Z : Int) (es : List Ed) (k : Nat) (h : k < es.length) : sizeD Z (es.drop k) = sizeD (Z + ((eN es k).size + eS es k - eE es k)) (es.drop (k + 1)) := by
  rw [List.drop_eq_getElem_cons h]
  simp [sizeD, edAt, eS, eE, eN, h]

theorem own_capV {w : World} {base e size n c : Nat} {A : Option Addr} {xs : List Value} (h : w.ownsRow base e size (.slice A n c) n xs) : n ≤ c := by
  rcases h.2 with ⟨h1, h2⟩ | ⟨g, cap, cur, hv, _, _, h3, _⟩
  · omega
  · injection hv with h1 h2 h4
    subst h4
    exact h3
/-- what diff.validate returns -/
def ValidOut (N cin : Nat) (es : List Ed) (w : World) (e : Ending) (w' : World) : Prop :=
  Below w.heap.size w w' ∧ ((inOrderF N 0 es = true ∧ ∃ A c, e = .returned (.tuple #[.slice A es.length c, .int .i64 (sizeD N es), .nilIface]) ∧ EdsR w' A es ∧ (es.length ≤ cin → es.length ≤ c)) ∨
    (inOrderF N 0 es = false ∧ ∃ A c v T, e = .returned (.tuple #[.slice A 0 c, .int .i64 0, .iface T v]) ∧ T ≠ 0))

/-- the same, the edits as the sort leaves them told by a property -/
def ValidG (N cin : Nat) (P : List Ed → Prop) (w : World) (e : Ending) (w' : World) : Prop := ∃ es', P es' ∧ ValidOut N cin es' w e w'

set_option maxRecDepth 100000 in
set_option maxHeartbeats 1000000 in
theorem validate_any (s : ByteArray) (A : Option Addr) (c : Nat) (es es' : List Ed) (w : World) (hr : EdsR w A es) (hl : es.length ≤ 2000000) (hs : s.size ≤ 2000000) (hz : szE es' ≤ 4000000)
    (h1 : sortedW es = true → es' = es)
    (h2 : sortedW es = false → es'.length = es.length ∧ ∀ A' c' w', w'.ownsRow w.heap.size 47 3 (.slice A' es.length c') es.length (edCells es) → Below w.heap.size w w' →
      Calls Tryz.prog 40 #[.slice A' es.length c'] w' fun e w'' => e = .returned (.tuple #[]) ∧ w''.ownsRow w.heap.size 47 3 (.slice A' es.length c') es.length (edCells es') ∧ Below w.heap.size w w'') :
   Calls Tryz.prog 29 #[.string s, .slice A es.length c] w (ValidOut s.size c es' w) := by
  have hiss := isSorted_any A c es w hr (by omega)
  have HIS := Lib.hid hiss; clear hiss
  have hcl := fun q => clone_any A c es (w.drewN q) (hr.drewN q) (by omega)
  have HCL := Lib.hid hcl; clear hcl
  have H2 := Lib.hid h2; clear h2
  have HR := Lib.hid hr; clear hr
  cases hso : sortedW es with
  | true =>
    rw [hso] at HIS
    obtain rfl := h1 hso
    clear h1 H2 HCL
    obtain ⟨n, hn⟩ : ∃ n, es'.length = n := ⟨_, rfl⟩
    rw [hn] at hl HIS ⊢
    have LX := Lib.hid hn; clear hn
    have HSO := Lib.hid hso; clear hso
    go_enter Tryz.func29, Tryz.ntmps29
    go_wp2_with fail
    refine HIS.out.mono ?_
    rintro e w' ⟨rfl, q, rfl⟩
    go_wp2
    have HBL := Lib.hid (below_drewN (Below.refl w.heap.size w) q)
    have HRL := Lib.hid (HR.out.drewN q)
    clear HR HIS
    generalize hWL : w.drewN q = WL at *
    clear hWL
    go_loopg [7, 8, 23] n (fun q z le i wr => ∃ (k : Nat) (Z at_ : Int), q = n - k ∧ k ≤ n ∧ i = .int .i64 k ∧ z = .int .i64 Z ∧ le = .int .i64 at_ ∧ 0 ≤ at_ ∧ at_ ≤ s.size ∧ (s.size : Int) - at_ ≤ Z ∧ Z ≤ s.size + szE (es'.take k) ∧ inOrderF s.size 0 es' = inOrderF s.size at_ (es'.drop k) ∧ sizeD s.size es' = sizeD Z (es'.drop k) ∧ Below WL.heap.size WL wr)
    case atStart => exact ⟨0, s.size, 0, by omega, by omega, rfl, rfl, rfl, by omega, by omega, by omega, by omega, rfl, rfl, Below.refl _ _⟩
    case round =>
      obtain ⟨k, Z, at_, hq, hk, rfl, rfl, rfl, ha0, haN, hz1, hz2, hio, hsd, hb⟩ := hrel
      have HQ := Lib.hid hq; clear hq
      have HIO := Lib.hid hio; clear hio
      have HSD := Lib.hid hsd; clear hsd
      by_cases hlt : k < n
      · obtain ⟨b, off, hAA, hbb, g1, g2, g3⟩ := (EdsR.below HRL.out hb (Nat.le_refl _)).at_ (k := k) (by rw [LX.out]; exact hlt)
        subst hAA
        have hbs := hb.size
        have hwl := HBL.out.size
        have hd := inOrderF_drop s.size at_ es' k (by rw [LX.out]; exact hlt)
        have HD := Lib.hid hd; clear hd
        have hd := sizeD_drop Z es' k (by rw [LX.out]; exact hlt)
        have HZD := Lib.hid hd; clear hd
        have htk := szE_take es' k (by rw [LX.out]; exact hlt)
        have hle1 := szE_take_le es' (k + 1)
        have hle2 := szE_take_le es' k
        generalize hT1 : szE (es'.take (k + 1)) = T1 at *
        generalize hT : szE (es'.take k) = T at *
        have HT1 := Lib.hid hT1; clear hT1
        clear hT
        generalize hS : eS es' k = S at *
        generalize hE : eE es' k = E at *
        generalize hN : eN es' k = M at *
        have hin : insideB (edAt es' k) s.size = decide (0 ≤ S ∧ S ≤ E ∧ E ≤ s.size) := by rw [← hS, ← hE]; rfl
        have HIN := Lib.hid hin; clear hin hS hE hN
        obtain ⟨ml, hml⟩ : ∃ ml, M.size = ml := ⟨_, rfl⟩
        rw [hml] at htk
        by_cases c1 : (0 : Int) ≤ S
        · by_cases c2 : S ≤ E
          · by_cases c3 : E ≤ (s.size : Int)
            · by_cases c4 : S < at_
              · go_wp2
                go_ret3
                refine ⟨HBL.out.trans (((hb.alloc hbs _).alloc (by simp; omega) _).mono hwl), .inr ⟨?_, none, 0, _, _, rfl, by decide⟩⟩
                rw [HIO.out, HD.out, decide_eq_false (by omega : ¬ at_ ≤ S)]
                simp
              · have w1 : IntKind.i64.wrap ((ml : Int) + S) = ml + S := IntWalk.i64_in _ (by omega)
                have w2 : IntKind.i64.wrap ((ml : Int) + S - E) = ml + S - E := IntWalk.i64_in _ (by omega)
                have w3 : IntKind.i64.wrap (Z + ((ml : Int) + S - E)) = Z + (ml + S - E) := IntWalk.i64_in _ (by omega)
                go_wp2
                go_roundg (n - (k + 1))
                case measure => have := HQ.out; omega
                case rel =>
                  refine ⟨k + 1, Z + (ml + S - E), E, rfl, by omega, by go_num, rfl, rfl, by omega, by omega, by omega, by rw [HT1.out]; omega, ?_, ?_, hb.alloc hbs _⟩
                  · rw [HIO.out, HD.out, HIN.out, decide_eq_true (by omega : at_ ≤ S), decide_eq_true (⟨c1, c2, c3⟩ : 0 ≤ S ∧ S ≤ E ∧ E ≤ (s.size : Int))]
                    rfl
                  · rw [HSD.out, HZD.out, hml]
            · go_wp2
              go_ret3
              refine ⟨HBL.out.trans (((hb.alloc hbs _).alloc (by simp; omega) _).mono hwl), .inr ⟨?_, none, 0, _, _, rfl, by decide⟩⟩
              rw [HIO.out, HD.out, HIN.out, decide_eq_false (by omega : ¬ (0 ≤ S ∧ S ≤ E ∧ E ≤ (s.size : Int)))]
              rfl
          · go_wp2
            go_ret3
            refine ⟨HBL.out.trans (((hb.alloc hbs _).alloc (by simp; omega) _).mono hwl), .inr ⟨?_, none, 0, _, _, rfl, by decide⟩⟩
            rw [HIO.out, HD.out, HIN.out, decide_eq_false (by omega : ¬ (0 ≤ S ∧ S ≤ E ∧ E ≤ (s.size : Int)))]
            rfl
        · go_wp2
          go_ret3
          refine ⟨HBL.out.trans (((hb.alloc hbs _).alloc (by simp; omega) _).mono hwl), .inr ⟨?_, none, 0, _, _, rfl, by decide⟩⟩
          rw [HIO.out, HD.out, HIN.out, decide_eq_false (by omega : ¬ (0 ≤ S ∧ S ≤ E ∧ E ≤ (s.size : Int)))]
          rfl
      · have hkn : k = n := by omega
        subst hkn
        have hdr : es'.drop k = [] := List.drop_of_length_le (by rw [LX.out]; omega)
        rw [hdr] at HIO HSD
        go_wp2
        go_ret3
        refine ⟨HBL.out.trans (hb.mono HBL.out.size), .inl ⟨HIO.out, A, c, ?_, HRL.out.below hb (Nat.le_refl _), fun h => h⟩⟩
        rw [HSD.out, LX.out]
        rfl
  | false =>
    rw [hso] at HIS
    obtain ⟨hlen, h3⟩ := H2.out hso
    have H3 := Lib.hid h3; clear h3 h1 H2
    obtain ⟨n, hn⟩ : ∃ n, es.length = n := ⟨_, rfl⟩
    rw [hn] at hl HIS HCL H3 hlen ⊢
    have LX := Lib.hid hlen; clear hlen hn
    have HSO := Lib.hid hso; clear hso
    go_enter Tryz.func29, Tryz.ntmps29
    go_wp2_with fail
    refine HIS.out.mono ?_
    rintro e w1 ⟨rfl, q, rfl⟩
    go_wp2_with fail
    refine (HCL.out q).mono ?_
    rintro e w2 ⟨A', c', rfl, ho2, hb2⟩
    have hb2' : Below w.heap.size w w2 := (below_drewN (Below.refl w.heap.size w) q).trans hb2
    have h4 := H3.out A' c' w2 ho2 hb2'
    have H4 := Lib.hid h4; clear h4 ho2 hb2 hb2' H3 HCL HIS HR
    go_wp2_with fail
    refine H4.out.mono ?_
    rintro e WL ⟨rfl, hoL, hbL⟩
    have HBL := Lib.hid hbL
    have HOL := Lib.hid hoL
    clear hbL hoL H4
    go_wp2
    go_loopg [7, 8, 23] n (fun q z le i wr => ∃ (k : Nat) (Z at_ : Int), q = n - k ∧ k ≤ n ∧ i = .int .i64 k ∧ z = .int .i64 Z ∧ le = .int .i64 at_ ∧ 0 ≤ at_ ∧ at_ ≤ s.size ∧ (s.size : Int) - at_ ≤ Z ∧ Z ≤ s.size + szE (es'.take k) ∧ inOrderF s.size 0 es' = inOrderF s.size at_ (es'.drop k) ∧ sizeD s.size es' = sizeD Z (es'.drop k) ∧ Below WL.heap.size WL wr)
    case atStart => exact ⟨0, s.size, 0, by omega, by omega, rfl, rfl, rfl, by omega, by omega, by omega, by omega, rfl, rfl, Below.refl _ _⟩
    case round =>
      obtain ⟨k, Z, at_, hq, hk, rfl, rfl, rfl, ha0, haN, hz1, hz2, hio, hsd, hb⟩ := hrel
      have HQ := Lib.hid hq; clear hq
      have HIO := Lib.hid hio; clear hio
      have HSD := Lib.hid hsd; clear hsd
      by_cases hlt : k < n
      · obtain ⟨b, off, hAA, hbb, g1, g2, g3⟩ := (EdsR.below (CellsR.of_own HOL.out : EdsR WL A' es') hb (Nat.le_refl _)).at_ (k := k) (by rw [LX.out]; exact hlt)
        subst hAA
        have hbs := hb.size
        have hwl := HBL.out.size
        have hd := inOrderF_drop s.size at_ es' k (by rw [LX.out]; exact hlt)
        have HD := Lib.hid hd; clear hd
        have hd := sizeD_drop Z es' k (by rw [LX.out]; exact hlt)
        have HZD := Lib.hid hd; clear hd
        have htk := szE_take es' k (by rw [LX.out]; exact hlt)
        have hle1 := szE_take_le es' (k + 1)
        have hle2 := szE_take_le es' k
        generalize hT1 : szE (es'.take (k + 1)) = T1 at *
        generalize hT : szE (es'.take k) = T at *
        have HT1 := Lib.hid hT1; clear hT1
        clear hT
        generalize hS : eS es' k = S at *
        generalize hE : eE es' k = E at *
        generalize hN : eN es' k = M at *
        have hin : insideB (edAt es' k) s.size = decide (0 ≤ S ∧ S ≤ E ∧ E ≤ s.size) := by rw [← hS, ← hE]; rfl
        have HIN := Lib.hid hin; clear hin hS hE hN
        obtain ⟨ml, hml⟩ : ∃ ml, M.size = ml := ⟨_, rfl⟩
        rw [hml] at htk
        by_cases c1 : (0 : Int) ≤ S
        · by_cases c2 : S ≤ E
          · by_cases c3 : E ≤ (s.size : Int)
            · by_cases c4 : S < at_
              · go_wp2
                go_ret3
                refine ⟨HBL.out.trans (((hb.alloc hbs _).alloc (by simp; omega) _).mono hwl), .inr ⟨?_, none, 0, _, _, rfl, by decide⟩⟩
                rw [HIO.out, HD.out, decide_eq_false (by omega : ¬ at_ ≤ S)]
                simp
              · have w1 : IntKind.i64.wrap ((ml : Int) + S) = ml + S := IntWalk.i64_in _ (by omega)
                have w2 : IntKind.i64.wrap ((ml : Int) + S - E) = ml + S - E := IntWalk.i64_in _ (by omega)
                have w3 : IntKind.i64.wrap (Z + ((ml : Int) + S - E)) = Z + (ml + S - E) := IntWalk.i64_in _ (by omega)
                go_wp2
                go_roundg (n - (k + 1))
                case measure => have := HQ.out; omega
                case rel =>
                  refine ⟨k + 1, Z + (ml + S - E), E, rfl, by omega, by go_num, rfl, rfl, by omega, by omega, by omega, by rw [HT1.out]; omega, ?_, ?_, hb.alloc hbs _⟩
                  · rw [HIO.out, HD.out, HIN.out, decide_eq_true (by omega : at_ ≤ S), decide_eq_true (⟨c1, c2, c3⟩ : 0 ≤ S ∧ S ≤ E ∧ E ≤ (s.size : Int))]
                    rfl
                  · rw [HSD.out, HZD.out, hml]
            · go_wp2
              go_ret3
              refine ⟨HBL.out.trans (((hb.alloc hbs _).alloc (by simp; omega) _).mono hwl), .inr ⟨?_, none, 0, _, _, rfl, by decide⟩⟩
              rw [HIO.out, HD.out, HIN.out, decide_eq_false (by omega : ¬ (0 ≤ S ∧ S ≤ E ∧ E ≤ (s.size : Int)))]
              rfl
          · go_wp2
            go_ret3
            refine ⟨HBL.out.trans (((hb.alloc hbs _).alloc (by simp; omega) _).mono hwl), .inr ⟨?_, none, 0, _, _, rfl, by decide⟩⟩
            rw [HIO.out, HD.out, HIN.out, decide_eq_false (by omega : ¬ (0 ≤ S ∧ S ≤ E ∧ E ≤ (s.size : Int)))]
            rfl
        · go_wp2
          go_ret3
          refine ⟨HBL.out.trans (((hb.alloc hbs _).alloc (by simp; omega) _).mono hwl), .inr ⟨?_, none, 0, _, _, rfl, by decide⟩⟩
          rw [HIO.out, HD.out, HIN.out, decide_eq_false (by omega : ¬ (0 ≤ S ∧ S ≤ E ∧ E ≤ (s.size : Int)))]
          rfl
      · have hkn : k = n := by omega
        subst hkn
        have hdr : es'.drop k = [] := List.drop_of_length_le (by rw [LX.out]; omega)
        rw [hdr] at HIO HSD
        go_wp2
        go_ret3
        refine ⟨HBL.out.trans (hb.mono HBL.out.size), .inl ⟨HIO.out, A', c', ?_, (CellsR.of_own HOL.out : EdsR WL A' es').below hb (Nat.le_refl _), fun _ => by rw [LX.out]; exact own_capV HOL.out⟩⟩
        rw [HSD.out, LX.out]
        rfl
end Go.Proofs.YtgphjnhbheimiaaGreatDoor

namespace Go.Proofs.YtgphjnhbheimiaaGreatDoor
set_option linter.unusedVariables false
set_option maxRecDepth 100000
open Go.RowKit Go.Shelf

/-- what diff.Apply returns -/
def ApplyOut (s : ByteArray) (es : List Ed) (w : World) (e : Ending) (w' : World) : Prop :=
  Below w.heap.size w w' ∧ ((inOrderF s.size 0 es = true ∧ e = .returned (.tuple #[.string (patchB s 0 es), .nilIface])) ∨
    (inOrderF s.size 0 es = false ∧ ∃ T v, e = .returned (.tuple #[.string ⟨#[]⟩, .iface T v])))

theorem sizeD_shift (a b : Int) (l : List Ed) : sizeD (a + b) l = a + sizeD b l := by
  induction l generalizing b with
  | nil => rfl
  | cons x l ih =>
    simp only [sizeD]
    rw [← ih]
    congr 1
    omega
theorem patchB_size (s : ByteArray) (at_ : Nat) (l : List Ed) (ha : at_ ≤ s.size) (h : inOrderF s.size at_ l = true) : ((patchB s at_ l).size : Int) = sizeD ((s.size : Int) - at_) l := by
  induction l generalizing at_ with
  | nil =>
    simp only [patchB, sizeD, ByteArray.size_extract]
    omega
  | cons x l ih =>
    obtain ⟨h1, h2, h3, h4, h5⟩ := inOrderF_cons h
    have := ih x.e.toNat (by omega) (by rwa [Int.toNat_of_nonneg (by omega)])
    rw [patchB_cons, ByteArray.size_append, ByteArray.size_append, ByteArray.size_extract]
    simp only [sizeD]
    rw [show (s.size : Int) - at_ + (x.n.size + x.s - x.e) = (x.n.size + x.s - at_) + (s.size - x.e) by omega, sizeD_shift]
    rw [Int.toNat_of_nonneg (by omega)] at this
    omega
theorem sizeD_le (Z at_ N : Int) (l : List Ed) (h : inOrderF N at_ l = true) : sizeD Z l ≤ Z + szE l := by
  induction l generalizing Z at_ with
  | nil => simp [sizeD, szE]
  | cons x l ih =>
    obtain ⟨h1, h2, h3, h4, h5⟩ := inOrderF_cons h
    have := ih (Z + (x.n.size + x.s - x.e)) _ h5
    simp only [sizeD, szE]
    omega

theorem strCells_app (a b : ByteArray) : Lib.strCells (a ++ b) = Lib.strCells a ++ Lib.strCells b := by
  simp [Lib.strCells, ByteArray.data_append]
theorem own_neT {w : World} {base e size n g t : Nat} {v : Value} {xs : List Value} {cs : Array Value} (ho : w.ownsRow base e size v n xs) (hb : Blk w g t cs) (hne : t ≠ e) : some g ≠ v.ownBlock := by
  intro h
  rcases ho.2 with ⟨h1, h2⟩ | ⟨g', cap, cur, rfl, hbb, hgg, rest⟩
  · rw [h1] at h; cases h
  · simp [Value.ownBlock] at h
    subst h
    have := hb.symm.trans hgg
    injection this with this
    injection this with _ h2 _
    exact hne h2
theorem push_all (l : List UInt8) (r : ByteArray) : (l.map fun b => (b.toNat : Int)).foldl (fun r n => r.push (UInt8.ofNat n.toNat)) r = ⟨r.data ++ l.toArray⟩ := by
  induction l generalizing r with
  | nil => simp
  | cons b l ih =>
    rw [List.map_cons, List.foldl_cons, ih]
    simp [ByteArray.push]
theorem run_conv_str {P : Program} (w : World) (src dst e : TypeId) (hs : P.underlying src = some (.slice e)) (he : P.underlying e = some (.int .u8)) (hd : P.underlying dst = some .string)
    {A : Option Addr} {n c : Nat} {t : ByteArray} (h : CellsR w A (Lib.strCells t)) (hn : t.size = n) : (convert src dst (.slice A n c)).run P w = .ok (.string t) w := by
  rw [run_convert_bytes_string w src dst e A n c hs he hd]
  cases A with
  | none =>
    have h0 : Lib.strCells t = [] := by
      rcases h with h | ⟨b, off, h, _⟩
      · exact h
      · cases h
    have h1 : t.data = #[] := by
      have := congrArg List.length h0
      rw [Lib.strCells_length] at this
      exact Array.eq_empty_of_size_eq_zero this
    obtain ⟨d⟩ := t
    simp only at h1
    subst h1
    simp [Conv.bytesToString]
    rfl
  | some a =>
    have hl : (loadCells a n).run P w = .ok ((t.data.toList.map fun b => (b.toNat : Int)).map (Value.int .u8)).toArray w := by
      have := run_loadCells_list (P := P) w a (Lib.strCells t) (fun j u hj => by
        rcases h with h | ⟨b, off, hA, hc⟩
        · rw [h] at hj; cases hj
        · cases hA
          rw [add_lit]
          exact hc j u hj)
      rw [Lib.strCells_length, hn] at this
      rw [this]
      simp [Lib.strCells]
    rw [run_bytesToString w a n c _ hl, push_all]
    simp
theorem step_append_own_string {P : Program} {ops : Array Oper} {o : Oper} {a : Act} {w : World} {K : Act → World → Prop} {Q : Exit → Act → World → Prop} {E : Prop} (hgd : o.guard = none) (sl x : Operand) (t u : TypeId)
    (ho : o.op = .call { callee := .builtin .append, args := #[sl, x], argTypes := #[t, u] })
    (base : Nat) (e : TypeId) (i : TypeInfo) (ht : P.underlying t = some (.slice e)) (hu : P.underlying u = some .string) (hi : P.info? e = some i) (hz : i.zero = some (.int .u8 0))
    (hsize : i.size = 1) (hby : i.bytes = 1)
    (v : Value) (n : Nat) (xs : List Value) (hs : a.eval sl = v) (hown : w.ownsRow base e 1 v n xs) (s : ByteArray) (hx : a.eval x = .string s)
    (h63 : n + s.size ≤ maxLen) (hbytes : n + s.size ≤ 140737488355328) (hbase : base ≤ w.heap.size)
    (h : ∀ v' w', w'.ownsRow base e 1 v' (n + s.size) (xs ++ Lib.strCells s) → w.grownBy w' v.ownBlock → K (a.put o.dst v') w') :
    if Region.wanted o (yielded ops a.tmps) = true then Oper.wp P o a w K Q else E := by
  have hw : Region.wanted o (yielded ops a.tmps) = true := by simp [Region.wanted, hgd]
  rw [if_pos hw]
  obtain ⟨v', w', hr, h2, h3, h4⟩ := Lib.run_append_own_string (P := P) w base t u o.type e i ht hu hi hz hsize hby v n xs hown s h63 hbytes hbase
  unfold Oper.wp execOp
  simp only [ho, resolve, invoke, builtin, Sem.run_bind, Sem.run_pure, Result.andThen_ok, List.map_toArray, List.map_cons, List.map_nil, hs, hx, hr]
  exact h v' w' h2 h3

theorem infoB : (Tryz.prog.info? 5).map (fun i => (i.zero, i.size, i.bytes)) = some (some (.int .u8 0), 1, 1) := by kernel_rfl

/-- what it returns, the edits as the sort leaves them told by a property -/
def ApplyG (s : ByteArray) (P : List Ed → Prop) (w : World) (e : Ending) (w' : World) : Prop := ∃ es', P es' ∧ ApplyOut s es' w e w'
end Go.Proofs.YtgphjnhbheimiaaGreatDoor

namespace Go.Proofs.YtgphjnhbheimiaaGreatDoor
set_option linter.unusedVariables false
set_option maxRecDepth 100000
open Go.RowKit Go.Shelf

/-- the text that edits make, if they can be applied -/
def apF (s : ByteArray) (es : List Ed) : Option ByteArray := if inOrderF s.size 0 es = true then some (patchB s 0 es) else none
def ImplApplyOut (s : ByteArray) (es : List Ed) (w : World) (e : Ending) (w' : World) : Prop :=
  e = .returned (.tuple #[.string ((apF s es).getD ⟨#[]⟩), .bool (apF s es).isSome]) ∧ Below w.heap.size w w'

/-- over edits in their order -/
theorem validate_sorted (s : ByteArray) (es : List Ed) (hs : s.size ≤ 2000000) (hl : es.length ≤ 2000000) (hz : szE es ≤ 4000000) (ho : sortedW es = true) :
    ∀ A c w, EdsR w A es → Calls Tryz.prog 29 #[.string s, .slice A es.length c] w (ValidOut s.size c es w) :=
  fun A c w hr => validate_any s A c es es w hr hl hs hz (fun _ => rfl) (fun h => by rw [ho] at h; cases h)

def ImplApplyG (s : ByteArray) (P : List Ed → Prop) (w : World) (e : Ending) (w' : World) : Prop := ∃ es', P es' ∧ ImplApplyOut s es' w e w'
end Go.Proofs.YtgphjnhbheimiaaGreatDoor

namespace Go.Proofs.YtgphjnhbheimiaaGreatDoor
set_option linter.unusedVariables false
open Go.RowKit

/-- an edit and the place at which it stood first -/
abbrev EdT := Ed × Nat
abbrev RowT := Nat → EdT
/-- the strict order of starts, ends, first places -/
def RR (p q : EdT) : Prop := p.1.s < q.1.s ∨ (p.1.s = q.1.s ∧ (p.1.e < q.1.e ∨ (p.1.e = q.1.e ∧ p.2 < q.2)))
theorem RR.tr {p q r : EdT} (h : RR p q) (g : RR q r) : RR p r := by unfold RR at *; omega
/-- starts between which differences do not overflow -/
def GoodE (x : Ed) : Prop := 0 ≤ x.s ∧ x.s ≤ 2000000
theorem lessW_good {x y : Ed} (hx : GoodE x) (hy : GoodE y) : lessW x y = true ↔ (x.s < y.s ∨ (x.s = y.s ∧ x.e < y.e)) := by
  unfold GoodE at hx hy
  have hw : IntKind.i64.wrap (x.s - y.s) = x.s - y.s := IntWalk.i64_in _ (by omega)
  unfold lessW
  rw [hw]
  by_cases h : x.s - y.s = 0
  · rw [if_pos h]; simp; omega
  · rw [if_neg h]; simp; omega
theorem less_RR {p q : EdT} (hp : GoodE p.1) (hq : GoodE q.1) (ht : q.2 < p.2) (h : lessW p.1 q.1 = true) : RR p q := by
  have := (lessW_good hp hq).1 h; unfold RR; omega
theorem nless_RR {p q : EdT} (hp : GoodE p.1) (hq : GoodE q.1) (ht : q.2 < p.2) (h : lessW p.1 q.1 = false) : RR q p := by
  have : ¬ (p.1.s < q.1.s ∨ (p.1.s = q.1.s ∧ p.1.e < q.1.e)) := fun hh => by rw [(lessW_good hp hq).2 hh] at h; cases h
  unfold RR; omega

/-- what a step between two places changes -/
structure Stp (a b : Nat) (f g : RowT) : Prop where
  out : ∀ k, k < a ∨ b ≤ k → g k = f k
  inn : ∀ k, a ≤ k → k < b → ∃ k', a ≤ k' ∧ k' < b ∧ g k = f k'
theorem Stp.rf (a b : Nat) (f : RowT) : Stp a b f f := ⟨fun _ _ => rfl, fun k h1 h2 => ⟨k, h1, h2, rfl⟩⟩
theorem Stp.tr {a b : Nat} {f g h : RowT} (h1 : Stp a b f g) (h2 : Stp a b g h) : Stp a b f h := by
  refine ⟨fun k hk => (h2.out k hk).trans (h1.out k hk), fun k ha hb => ?_⟩
  obtain ⟨k', p1, p2, e⟩ := h2.inn k ha hb
  obtain ⟨k'', q1, q2, e'⟩ := h1.inn k' p1 p2
  exact ⟨k'', q1, q2, e.trans e'⟩
theorem Stp.wide {a b a' b' : Nat} {f g : RowT} (h : Stp a b f g) (h1 : a' ≤ a) (h2 : b ≤ b') : Stp a' b' f g := by
  refine ⟨fun k hk => h.out k (by omega), fun k ha hb => ?_⟩
  by_cases hk : a ≤ k ∧ k < b
  · obtain ⟨k', p1, p2, e⟩ := h.inn k hk.1 hk.2
    exact ⟨k', by omega, by omega, e⟩
  · exact ⟨k, ha, hb, h.out k (by omega)⟩
def swapF (f : RowT) (i j : Nat) : RowT := fun k => if k = i then f j else if k = j then f i else f k
theorem swapF_l (f : RowT) (i j : Nat) : swapF f i j i = f j := by simp [swapF]
theorem swapF_r (f : RowT) (i j : Nat) : swapF f i j j = f i := by
  by_cases h : j = i
  · subst h; simp [swapF]
  · simp [swapF, h]
theorem swapF_o (f : RowT) (i j k : Nat) (h1 : k ≠ i) (h2 : k ≠ j) : swapF f i j k = f k := by simp [swapF, h1, h2]
theorem Stp.swap {a b : Nat} (f : RowT) {i j : Nat} (h1 : a ≤ i) (h2 : i < b) (h3 : a ≤ j) (h4 : j < b) : Stp a b f (swapF f i j) := by
  refine ⟨fun k hk => swapF_o f i j k (by omega) (by omega), fun k ha hb => ?_⟩
  by_cases e1 : k = i
  · exact ⟨j, h3, h4, by rw [e1, swapF_l]⟩
  · by_cases e2 : k = j
    · exact ⟨i, h1, h2, by rw [e2, swapF_r]⟩
    · exact ⟨k, ha, hb, swapF_o f i j k e1 e2⟩
/-- the row as a list -/
def rowL (n : Nat) (f : RowT) : List Ed := (List.range n).map fun k => (f k).1
def rowT (n : Nat) (f : RowT) : List EdT := (List.range n).map f
theorem rowL_length (n : Nat) (f : RowT) : (rowL n f).length = n := by simp [rowL]
theorem rowT_length (n : Nat) (f : RowT) : (rowT n f).length = n := by simp [rowT]
theorem rowL_map (n : Nat) (f : RowT) : (rowT n f).map (·.1) = rowL n f := by simp [rowL, rowT, Function.comp_def]
theorem rowT_swap (n : Nat) (f : RowT) {i j : Nat} (hi : i < n) (hj : j < n) : (rowT n (swapF f i j)).Perm (rowT n f) := by
  have hi' : i < (rowT n f).toArray.size := by simpa [rowT] using hi
  have hj' : j < (rowT n f).toArray.size := by simpa [rowT] using hj
  have h := Array.swap_perm (xs := (rowT n f).toArray) hi' hj'
  have h2 : ((rowT n f).toArray.swap i j hi' hj').toList = rowT n (swapF f i j) := by
    apply List.ext_getElem
    · simp [rowT]
    · intro k h1 h2
      simp only [Array.getElem_toList, Array.getElem_swap]
      have hk : k < n := by simpa [rowT] using h2
      simp only [rowT, List.getElem_toArray, List.getElem_map, List.getElem_range, swapF]
  have h3 := h.toList
  rw [h2] at h3
  simpa using h3
/-- sorted between two places -/
def SrtF (a b : Nat) (f : RowT) : Prop := ∀ i j, a ≤ i → i < j → j < b → RR (f i) (f j)
/-- what stands between two places stood first ahead of what stands between two others -/
def TagLt (a m b : Nat) (f : RowT) : Prop := ∀ i j, a ≤ i → i < m → m ≤ j → j < b → (f i).2 < (f j).2
def GoodF (n : Nat) (f : RowT) : Prop := ∀ k, k < n → GoodE (f k).1
theorem GoodF.stp {a b n : Nat} {f g : RowT} (h : GoodF n f) (hs : Stp a b f g) (hb : b ≤ n) : GoodF n g := by
  intro k hk
  by_cases h1 : a ≤ k ∧ k < b
  · obtain ⟨k', p1, p2, e⟩ := hs.inn k h1.1 h1.2
    rw [e]; exact h k' (by omega)
  · rw [hs.out k (by omega)]; exact h k hk
theorem SrtF.eq {a b : Nat} {f g : RowT} (h : SrtF a b f) (he : ∀ k, a ≤ k → k < b → g k = f k) : SrtF a b g := by
  intro i j h1 h2 h3
  rw [he i h1 (by omega), he j (by omega) h3]; exact h i j h1 h2 h3
theorem SrtF.one (a b : Nat) (f : RowT) (h : b ≤ a + 1) : SrtF a b f := fun i j h1 h2 h3 => by omega
theorem SrtF.sub {a b a' b' : Nat} {f : RowT} (h : SrtF a b f) (h1 : a ≤ a') (h2 : b' ≤ b) : SrtF a' b' f := fun i j g1 g2 g3 => h i j (by omega) g2 (by omega)

/-- an element on its way down, at j: all other pairs up to i are in order -/
def Sink (a i j : Nat) (f : RowT) : Prop := (∀ p q, a ≤ p → p < q → q ≤ i → q ≠ j → RR (f p) (f q)) ∧ ∀ p, a ≤ p → p < j → (f p).2 < (f j).2
theorem Sink.start {a i : Nat} {f : RowT} (h : SrtF a i f) (ht : ∀ p, a ≤ p → p < i → (f p).2 < (f i).2) : Sink a i i f :=
  ⟨fun p q h1 h2 h3 h4 => h p q h1 h2 (by omega), ht⟩
theorem Sink.next {a i j : Nat} {f : RowT} (h : Sink a i j f) (hj : a < j) (hji : j ≤ i) (hr : RR (f j) (f (j - 1))) : Sink a i (j - 1) (swapF f j (j - 1)) := by
  have e1 := swapF_l f j (j - 1)
  have e2 := swapF_r f j (j - 1)
  refine ⟨fun p q h1 h2 h3 h4 => ?_, fun p h1 h2 => ?_⟩
  · by_cases hq : q = j
    · subst hq
      by_cases hp : p = q - 1
      · subst hp; rw [e1, e2]; exact hr
      · rw [e1, swapF_o f q (q - 1) p (by omega) hp]; exact h.1 p (q - 1) h1 (by omega) (by omega) (by omega)
    · rw [swapF_o f j (j - 1) q hq h4]
      by_cases hp : p = j
      · subst hp; rw [e1]; exact h.1 (p - 1) q (by omega) (by omega) h3 hq
      · by_cases hp2 : p = j - 1
        · subst hp2; rw [e2]; exact h.1 j q (by omega) (by omega) h3 hq
        · rw [swapF_o f j (j - 1) p hp hp2]; exact h.1 p q h1 h2 h3 hq
  · rw [e2, swapF_o f j (j - 1) p (by omega) (by omega)]; exact h.2 p h1 (by omega)
theorem Sink.done {a i j : Nat} {f : RowT} (h : Sink a i j f) (hj : j = a ∨ RR (f (j - 1)) (f j)) : SrtF a (i + 1) f := by
  intro p q h1 h2 h3
  by_cases hq : q = j
  · subst hq
    rcases hj with hj | hj
    · omega
    · by_cases hp : p = q - 1
      · subst hp; exact hj
      · exact (h.1 p (q - 1) h1 (by omega) (by omega) (by omega)).tr hj
  · exact h.1 p q h1 h2 (by omega) hq

/-- a rotation -/
structure Rot (a m b : Nat) (f g : RowT) : Prop where
  out : ∀ k, k < a ∨ b ≤ k → g k = f k
  lo : ∀ t, t < b - m → g (a + t) = f (m + t)
  hi : ∀ t, t < m - a → g (a + (b - m) + t) = f (a + t)
/-- a swap of two ranges -/
structure SwR (a b n : Nat) (f g : RowT) : Prop where
  out : ∀ k, (k < a ∨ a + n ≤ k) → (k < b ∨ b + n ≤ k) → g k = f k
  lo : ∀ t, t < n → g (a + t) = f (b + t)
  hi : ∀ t, t < n → g (b + t) = f (a + t)
theorem SwR.zero (a b : Nat) (f : RowT) : SwR a b 0 f f := ⟨fun _ _ _ => rfl, fun t h => by omega, fun t h => by omega⟩
theorem SwR.next {a b n : Nat} {f g : RowT} (h : SwR a b n f g) (hd : a + n < b) : SwR a b (n + 1) f (swapF g (a + n) (b + n)) := by
  have x1 : g (a + n) = f (a + n) := h.out _ (by omega) (by omega)
  have x2 : g (b + n) = f (b + n) := h.out _ (by omega) (by omega)
  refine ⟨fun k h1 h2 => ?_, fun t ht => ?_, fun t ht => ?_⟩
  · rw [swapF_o _ _ _ _ (by omega) (by omega)]; exact h.out k (by omega) (by omega)
  · by_cases e : t = n
    · subst e; rw [swapF_l]; exact x2
    · rw [swapF_o _ _ _ _ (by omega) (by omega)]; exact h.lo t (by omega)
  · by_cases e : t = n
    · subst e; rw [swapF_r]; exact x1
    · rw [swapF_o _ _ _ _ (by omega) (by omega)]; exact h.hi t (by omega)
theorem Rot.same {a m b : Nat} {f g : RowT} (h : SwR a m (m - a) f g) (h1 : a ≤ m) (h2 : b = m + (m - a)) : Rot a m b f g := by
  refine ⟨fun k hk => h.out k (by omega) (by omega), fun t ht => h.lo t (by omega), fun t ht => ?_⟩
  rw [show a + (b - m) + t = m + t by omega]; exact h.hi t ht
theorem Rot.left {a m b : Nat} {f g h : RowT} (hs : SwR a m (b - m) f g) (h1 : b - m < m - a) (h2 : m < b) (hr : Rot (a + (b - m)) m b g h) : Rot a m b f h := by
  refine ⟨fun k hk => ?_, fun t ht => ?_, fun t ht => ?_⟩
  · rw [hr.out k (by omega), hs.out k (by omega) (by omega)]
  · rw [hr.out _ (by omega), hs.lo t ht]
  · by_cases e : t < b - m
    · rw [hr.lo t e, hs.hi t e]
    · have := hr.hi (t - (b - m)) (by omega)
      rw [show a + (b - m) + (b - m) + (t - (b - m)) = a + (b - m) + t by omega, show a + (b - m) + (t - (b - m)) = a + t by omega] at this
      rw [this, hs.out _ (by omega) (by omega)]
theorem Rot.right {a m b : Nat} {f g h : RowT} (hs : SwR a (b - (m - a)) (m - a) f g) (h1 : m - a < b - m) (h2 : a < m) (hr : Rot a m (b - (m - a)) g h) : Rot a m b f h := by
  refine ⟨fun k hk => ?_, fun t ht => ?_, fun t ht => ?_⟩
  · rw [hr.out k (by omega), hs.out k (by omega) (by omega)]
  · by_cases e : t < b - (m - a) - m
    · rw [hr.lo t e, hs.out _ (by omega) (by omega)]
    · have h3 := hr.hi (t - (b - (m - a) - m)) (by omega)
      rw [show a + (b - (m - a) - m) + (t - (b - (m - a) - m)) = a + t by omega] at h3
      rw [h3, hs.lo _ (by omega)]
      congr 1; omega
  · rw [hr.out _ (by omega)]
    have := hs.hi t ht
    rw [show b - (m - a) + t = a + (b - m) + t by omega] at this
    exact this
theorem Rot.stp {a m b : Nat} {f g : RowT} (h : Rot a m b f g) (h1 : a ≤ m) (h2 : m ≤ b) : Stp a b f g := by
  refine ⟨h.out, fun k ha hb => ?_⟩
  by_cases e : k < a + (b - m)
  · exact ⟨m + (k - a), by omega, by omega, by have := h.lo (k - a) (by omega); rw [show a + (k - a) = k by omega] at this; exact this⟩
  · exact ⟨a + (k - (a + (b - m))), by omega, by omega, by have := h.hi (k - (a + (b - m))) (by omega); rw [show a + (b - m) + (k - (a + (b - m))) = k by omega] at this; exact this⟩

/-- two halves merged by a rotation and two merges -/
theorem merge_join {a m b s t mid : Nat} {f g h1 h2 : RowT} (hs1 : a ≤ s) (hs2 : s ≤ m) (ht1 : m ≤ t) (ht2 : t ≤ b) (hmid : mid = s + (t - m))
    (hr : Rot s m t f g) (e1 : Stp a mid g h1) (e2 : Stp mid b h1 h2) (hL : SrtF a m f) (hR : SrtF m b f) (o1 : SrtF a mid h1) (o2 : SrtF mid b h2)
    (hc1 : a < s → t < b → RR (f (s - 1)) (f t)) (hc2 : m < t → s < m → RR (f (t - 1)) (f s)) : SrtF a b h2 := by
  have lowEl : ∀ k, a ≤ k → k < mid → (∃ k', a ≤ k' ∧ k' < s ∧ h2 k = f k') ∨ (∃ k', m ≤ k' ∧ k' < t ∧ h2 k = f k') := by
    intro k ha hk
    rw [e2.out k (by omega)]
    obtain ⟨k1, p1, p2, q⟩ := e1.inn k ha hk
    rw [q]
    by_cases c : k1 < s
    · exact .inl ⟨k1, p1, c, hr.out k1 (by omega)⟩
    · refine .inr ⟨m + (k1 - s), by omega, by omega, ?_⟩
      have := hr.lo (k1 - s) (by omega)
      rw [show s + (k1 - s) = k1 by omega] at this
      exact this
  have hiEl : ∀ k, mid ≤ k → k < b → (∃ k', s ≤ k' ∧ k' < m ∧ h2 k = f k') ∨ (∃ k', t ≤ k' ∧ k' < b ∧ h2 k = f k') := by
    intro k ha hk
    obtain ⟨k1, p1, p2, q⟩ := e2.inn k ha hk
    rw [q, e1.out k1 (by omega)]
    by_cases c : k1 < t
    · refine .inl ⟨s + (k1 - mid), by omega, by omega, ?_⟩
      have := hr.hi (k1 - mid) (by omega)
      rw [show s + (t - m) + (k1 - mid) = k1 by omega] at this
      exact this
    · exact .inr ⟨k1, by omega, p2, hr.out k1 (by omega)⟩
  intro i j hi hij hj
  by_cases c1 : j < mid
  · rw [e2.out i (by omega), e2.out j (by omega)]; exact o1 i j hi hij c1
  · by_cases c2 : mid ≤ i
    · exact o2 i j c2 hij hj
    · rcases lowEl i hi (by omega) with ⟨i', a1, a2, ei⟩ | ⟨i', a1, a2, ei⟩ <;> rcases hiEl j (by omega) hj with ⟨j', b1, b2, ej⟩ | ⟨j', b1, b2, ej⟩ <;> rw [ei, ej]
      · exact hL i' j' a1 (by omega) b2
      · have h0 := hc1 (by omega) (by omega)
        have h3 : RR (f i') (f t) := by
          by_cases c : i' = s - 1
          · rw [c]; exact h0
          · exact (hL i' (s - 1) a1 (by omega) (by omega)).tr h0
        by_cases c : j' = t
        · rw [c]; exact h3
        · exact h3.tr (hR t j' (by omega) (by omega) b2)
      · have h0 := hc2 (by omega) (by omega)
        have h3 : RR (f i') (f s) := by
          by_cases c : i' = t - 1
          · rw [c]; exact h0
          · exact (hR i' (t - 1) a1 (by omega) (by omega)).tr h0
        by_cases c : j' = s
        · rw [c]; exact h3
        · exact h3.tr (hL s j' (by omega) (by omega) b2)
      · exact hR i' j' a1 (by omega) b2
/-- no rotation -/
theorem Rot.nil {s m t : Nat} (f : RowT) (h : s = m ∨ t = m) : Rot s m t f f := by
  refine ⟨fun _ _ => rfl, fun k hk => ?_, fun k hk => ?_⟩
  · congr 1; omega
  · congr 1; omega
theorem Rot.srtLo {s m t b mid : Nat} {f g : RowT} (h : Rot s m t f g) (hs : SrtF m b f) (hm : mid = s + (t - m)) (h1 : m ≤ t) (h2 : t ≤ b) : SrtF s mid g := by
  intro i j hi hij hj
  have e1 := h.lo (i - s) (by omega)
  have e2 := h.lo (j - s) (by omega)
  rw [show s + (i - s) = i by omega] at e1
  rw [show s + (j - s) = j by omega] at e2
  rw [e1, e2]; exact hs _ _ (by omega) (by omega) (by omega)
theorem Rot.srtHi {a s m t mid : Nat} {f g : RowT} (h : Rot s m t f g) (hs : SrtF a m f) (hm : mid = s + (t - m)) (h1 : a ≤ s) (h2 : s ≤ m) (h3 : m ≤ t) : SrtF mid t g := by
  intro i j hi hij hj
  have e1 := h.hi (i - mid) (by omega)
  have e2 := h.hi (j - mid) (by omega)
  rw [show s + (t - m) + (i - mid) = i by omega] at e1
  rw [show s + (t - m) + (j - mid) = j by omega] at e2
  rw [e1, e2]; exact hs _ _ (by omega) (by omega) (by omega)
theorem Rot.tagLo {a m b s t mid : Nat} {f g : RowT} (h : Rot s m t f g) (ht : TagLt a m b f) (hm : mid = s + (t - m)) (h1 : a ≤ s) (h2 : s ≤ m) (h3 : m ≤ t) (h4 : t ≤ b) : TagLt a s mid g := by
  intro i j h5 h6 h7 h8
  have e2 := h.lo (j - s) (by omega)
  rw [show s + (j - s) = j by omega] at e2
  rw [h.out i (by omega), e2]; exact ht _ _ h5 (by omega) (by omega) (by omega)
theorem Rot.tagHi {a m b s t mid : Nat} {f g : RowT} (h : Rot s m t f g) (ht : TagLt a m b f) (hm : mid = s + (t - m)) (h1 : a ≤ s) (h2 : s ≤ m) (h3 : m ≤ t) (h4 : t ≤ b) : TagLt mid t b g := by
  intro i j h5 h6 h7 h8
  have e1 := h.hi (i - mid) (by omega)
  rw [show s + (t - m) + (i - mid) = i by omega] at e1
  rw [h.out j (by omega), e1]; exact ht _ _ (by omega) (by omega) (by omega) (by omega)
/-- the first element moved up to its place -/
theorem Rot.up {a k : Nat} {f g : RowT} (h : Rot a (a + 1) (k + 1) f g) (hk : a ≤ k) : Rot a (a + 1) (k + 2) f (swapF g k (k + 1)) := by
  refine ⟨fun x hx => ?_, fun t ht => ?_, fun t ht => ?_⟩
  · rw [swapF_o _ _ _ _ (by omega) (by omega)]; exact h.out x (by omega)
  · by_cases e : a + t = k
    · rw [e, swapF_l, h.out (k + 1) (by omega)]; congr 1; omega
    · rw [swapF_o _ _ _ _ e (by omega)]; exact h.lo t (by omega)
  · obtain rfl : t = 0 := by omega
    rw [show a + (k + 2 - (a + 1)) + 0 = k + 1 by omega, swapF_r]
    have := h.hi 0 (by omega)
    rw [show a + (k + 1 - (a + 1)) + 0 = k by omega] at this
    exact this
/-- the last element moved down to its place -/
theorem Rot.dn {m k : Nat} {f g : RowT} (h : Rot k m (m + 1) f g) (hk : 1 ≤ k) (hm : k ≤ m) : Rot (k - 1) m (m + 1) f (swapF g k (k - 1)) := by
  refine ⟨fun x hx => ?_, fun t ht => ?_, fun t ht => ?_⟩
  · rw [swapF_o _ _ _ _ (by omega) (by omega)]; exact h.out x (by omega)
  · obtain rfl : t = 0 := by omega
    rw [show k - 1 + 0 = k - 1 by omega, swapF_r]
    have := h.lo 0 (by omega)
    rw [show k + 0 = k by omega] at this
    exact this
  · by_cases e : t = 0
    · subst e
      rw [show k - 1 + (m + 1 - m) + 0 = k by omega, swapF_l, h.out (k - 1) (by omega)]; congr 1
    · rw [swapF_o _ _ _ _ (by omega) (by omega)]
      have := h.hi (t - 1) (by omega)
      rw [show k + (m + 1 - m) + (t - 1) = k - 1 + (m + 1 - m) + t by omega, show k + (t - 1) = k - 1 + t by omega] at this
      exact this
theorem srt_up {a i b : Nat} {f g : RowT} (h : Rot a (a + 1) i f g) (h1 : a + 1 ≤ i) (h2 : i ≤ b) (hs : SrtF (a + 1) b f) (hlo : i = a + 1 ∨ RR (f (i - 1)) (f a)) (hhi : i = b ∨ RR (f a) (f i)) : SrtF a b g := by
  have m0 : SrtF a (a + (i - (a + 1))) g := h.srtLo hs rfl h1 h2
  have m1 : SrtF (a + (i - (a + 1))) b g := by
    intro p q hp hpq hq
    rw [h.out q (by omega)]
    by_cases c : p = i - 1
    · have := h.hi 0 (by omega)
      rw [show a + (i - (a + 1)) + 0 = p by omega] at this
      rw [this]
      have hh : RR (f a) (f i) := hhi.resolve_left (by omega)
      by_cases c2 : q = i
      · rw [c2]; exact hh
      · exact hh.tr (hs i q (by omega) (by omega) hq)
    · rw [h.out p (by omega)]; exact hs p q (by omega) hpq hq
  exact merge_join (Nat.le_refl a) (by omega) h1 h2 rfl h (Stp.rf _ _ _) (Stp.rf _ _ _) (SrtF.one _ _ _ (by omega)) hs m0 m1 (fun h => by omega) (fun h3 _ => hlo.resolve_left (by omega))
theorem srt_dn {a i m : Nat} {f g : RowT} (h : Rot i m (m + 1) f g) (h1 : a ≤ i) (h2 : i ≤ m) (hs : SrtF a m f) (hlo : i = a ∨ RR (f (i - 1)) (f m)) (hhi : i = m ∨ RR (f m) (f i)) : SrtF a (m + 1) g := by
  have m1 : SrtF (i + (m + 1 - m)) (m + 1) g := h.srtHi hs rfl h1 h2 (by omega)
  have m0 : SrtF a (i + (m + 1 - m)) g := by
    intro p q hp hpq hq
    rw [h.out p (by omega)]
    by_cases c : q = i
    · have := h.lo 0 (by omega)
      rw [show i + 0 = q by omega] at this
      rw [this]
      have hh : RR (f (i - 1)) (f m) := hlo.resolve_left (by omega)
      by_cases c2 : p = i - 1
      · rw [c2]; exact hh
      · exact (hs p (i - 1) hp (by omega) (by omega)).tr hh
    · rw [h.out q (by omega)]; exact hs p q hp hpq (by omega)
  exact merge_join h1 h2 (by omega) (Nat.le_refl _) rfl h (Stp.rf _ _ _) (Stp.rf _ _ _) hs (SrtF.one _ _ _ (by omega)) m0 m1 (fun _ h => by omega) (fun _ h3 => hhi.resolve_left (by omega))

/-- what a merge, an insertion sort of a part of the row gives: the row behind it is a rearrangement, sorted there if all was well ahead -/
structure Mrg (n a b : Nat) (C : Prop) (f g : RowT) : Prop where
  stp : Stp a b f g
  prm : (rowT n g).Perm (rowT n f)
  srt : C → SrtF a b g

/-- sorted by blocks; places first stood at within the block -/
structure BlkS (bs n c : Nat) (f : RowT) : Prop where
  srt : ∀ d, d < c → SrtF (d * bs) (min (d * bs + bs) n) f
  tag : ∀ d k, d * bs ≤ k → k < d * bs + bs → k < n → d * bs ≤ (f k).2 ∧ (f k).2 < d * bs + bs
theorem BlkS.next {bs n c : Nat} {f g : RowT} (h : BlkS bs n c f) (hs : Stp (c * bs) (min (c * bs + bs) n) f g) (ho : SrtF (c * bs) (min (c * bs + bs) n) g) : BlkS bs n (c + 1) g := by
  refine ⟨fun d hd => ?_, fun d k h1 h2 h3 => ?_⟩
  · by_cases e : d = c
    · subst e; exact ho
    · have hm : d * bs + bs ≤ c * bs := by rw [← Nat.succ_mul]; exact Nat.mul_le_mul_right bs (by omega)
      exact (h.srt d (by omega)).eq fun k hk1 hk2 => hs.out k (.inl (by omega))
  · by_cases e : d = c
    · subst e
      obtain ⟨k', q1, q2, e'⟩ := hs.inn k h1 (by omega)
      rw [e']; exact h.tag d k' q1 (by omega) (by omega)
    · rw [hs.out k]
      · exact h.tag d k h1 h2 h3
      · rcases Nat.lt_or_gt_of_ne e with e | e
        · have hm : d * bs + bs ≤ c * bs := by rw [← Nat.succ_mul]; exact Nat.mul_le_mul_right bs (by omega)
          exact .inl (by omega)
        · have hm : c * bs + bs ≤ d * bs := by rw [← Nat.succ_mul]; exact Nat.mul_le_mul_right bs (by omega)
          exact .inr (by omega)
/-- blocks twice as large -/
theorem BlkS.twice {bs n c : Nat} {f : RowT} (h : BlkS bs n c f) : BlkS (2 * bs) n 0 f := by
  refine ⟨fun d hd => by omega, fun d k h1 h2 h3 => ?_⟩
  have e1 : d * (2 * bs) = 2 * d * bs := by rw [Nat.mul_comm 2 d, Nat.mul_assoc]
  have e2 : (2 * d + 1) * bs = 2 * d * bs + bs := Nat.succ_mul _ _
  rw [e1] at h1 h2 ⊢
  by_cases hk : k < 2 * d * bs + bs
  · have := h.tag (2 * d) k h1 hk h3; omega
  · have := h.tag (2 * d + 1) k (by omega) (by omega) h3; omega
theorem BlkS.tagLt {bs n c d : Nat} {f : RowT} (h : BlkS bs n c f) : TagLt (d * (2 * bs)) (d * (2 * bs) + bs) (min (d * (2 * bs) + 2 * bs) n) f := by
  have e1 : d * (2 * bs) = 2 * d * bs := by rw [Nat.mul_comm 2 d, Nat.mul_assoc]
  have e2 : (2 * d + 1) * bs = 2 * d * bs + bs := Nat.succ_mul _ _
  intro i j h1 h2 h3 h4
  rw [e1] at h1 h2 h3 h4
  have a1 := h.tag (2 * d) i h1 h2 (by omega)
  have a2 := h.tag (2 * d + 1) j (by omega) (by omega) (by omega)
  omega
theorem BlkS.halves {bs n d : Nat} {f : RowT} (h : ∀ c, BlkS bs n c f) : SrtF (d * (2 * bs)) (min (d * (2 * bs) + bs) n) f ∧ SrtF (d * (2 * bs) + bs) (min (d * (2 * bs) + 2 * bs) n) f := by
  have e1 : d * (2 * bs) = 2 * d * bs := by rw [Nat.mul_comm 2 d, Nat.mul_assoc]
  have e2 : (2 * d + 1) * bs = 2 * d * bs + bs := Nat.succ_mul _ _
  rw [e1]
  refine ⟨(h (2 * d + 1)).srt (2 * d) (by omega), ?_⟩
  have := (h (2 * d + 2)).srt (2 * d + 1) (by omega)
  rw [e2] at this
  rw [show 2 * d * bs + 2 * bs = 2 * d * bs + bs + bs by omega]
  exact this
/-- all blocks, once the blocks told reach the end -/
theorem BlkS.all {bs n c : Nat} {f : RowT} (h : BlkS bs n c f) (hc : n ≤ c * bs) : ∀ d, BlkS bs n d f := by
  intro d
  refine ⟨fun e he => ?_, h.tag⟩
  by_cases hec : e < c
  · exact h.srt e hec
  · have hm : c * bs ≤ e * bs := Nat.mul_le_mul_right bs (by omega)
    exact fun i j h1 h2 h3 => by omega
theorem BlkS.same {bs n c : Nat} {f g : RowT} (h : BlkS bs n c f) (he : ∀ k, c * bs ≤ k → k < n → g k = f k) {d : Nat} (h0 : c * bs ≤ d) {e : Nat} (h1 : e ≤ n) (hs : SrtF d e f) : SrtF d e g := hs.eq fun k a b => he k (by omega) (by omega)
end Go.Proofs.YtgphjnhbheimiaaGreatDoor
