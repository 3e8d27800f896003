/-
  The walk of laws.FnBytesAsStrings: for every input it returns true, where the tables of unicode/utf8 lie in memory.
-/
import Derived.Test.YtgjbagojcbondaaDoorByB
import Derived.Test.YtgjbagojcbondaaDoorTxB
namespace Go.Proofs.YtgjbagojcbondaaDoor
set_option linter.unusedVariables false
open Go.RowKit

/-- the edits of two texts are one list -/
theorem StrPK.uniq {s t : ByteArray} {es es' : List Ed} (h : StrPK KQ s t es) (h' : StrPK KQ s t es') : es = es' := by
  rcases h with ⟨h1, rfl⟩ | ⟨h1, ps, h2, h3, rfl⟩
  · rcases h' with ⟨_, rfl⟩ | ⟨g1, _⟩
    · rfl
    · exact absurd h1 g1
  · rcases h' with ⟨g1, _⟩ | ⟨_, qs, g2, g3, rfl⟩
    · exact absurd g1 h1
    · rw [TwoS.uniq h3.2 g3.2]
theorem sameE_self (es : List Ed) : sameE es es = true := sameE_all rfl fun k _ => by simp [edEqB]
theorem strK_any (s t : ByteArray) (w : World) (hs : s.size ≤ 1000000) (ht : t.size ≤ 1000000) :
    Calls Tryd.prog 6 #[.string s, .string t] w (StrOut (StrPK KQ s t) w) := strImpl_any s t w hs (strings_any s t w hs ht (payBytes s t hs ht) (payRunes s t hs ht))
theorem bytK_any (s t : ByteArray) (w : World) (hs : s.size ≤ 1000000) (ht : t.size ≤ 1000000) (hT : TabsU w) :
    Calls Tryd.prog 7 #[.string s, .string t] w (StrOut (StrPK KQ s t) w) := bytImpl_any s t w hs ht hT (payBytes s t hs ht) (payRunes s t hs ht)
/-- a slice of so many elements -/
def SnOut (n : Nat) (w : World) (e : Ending) (w' : World) : Prop := (∃ A c, e = .returned (.slice A n c)) ∧ Below w.heap.size w w'
set_option maxRecDepth 100000 in
set_option maxHeartbeats 1000000 in
theorem FnBytesAsStrings_walk (s0 s1 : ByteArray) (w : World) (ws0 : s0.size ≤ maxLen) (ws1 : s1.size ≤ maxLen) (hT : TabsU w) :
   Calls Tryd.prog 3 #[.string s0, .string s1] w fun e w' => e = .returned (.bool true) ∧ Below w.heap.size w w' := by
  have ht := fun A c w' x y (h : IntsR .i64 w' A [x, y]) => tooLong_any A c [x, y] w' h (by simp)
  have HT := Lib.hid ht; clear ht
  have ha := fun W => (strK_any ⟨#[97]⟩ ⟨#[98]⟩ W (by decide) (by decide)).mono (R' := SnOut 1 W) fun e w' ⟨es, A, c, h1, h2, h3, h4, h5⟩ => ⟨⟨A, c, by rw [h1, h5.str.one]⟩, h4⟩
  have hb := fun W (g : Below w.heap.size w W) => (bytK_any ⟨#[97]⟩ ⟨#[98]⟩ W (by decide) (by decide) (hT.below g)).mono (R' := SnOut 1 W) fun e w' ⟨es, A, c, h1, h2, h3, h4, h5⟩ => ⟨⟨A, c, by rw [h1, h5.str.one]⟩, h4⟩
  have hc := fun W (g0 : s0.size ≤ 1000000) (g1 : s1.size ≤ 1000000) => strK_any s0 s1 W g0 g1
  have hd := fun W (g0 : s0.size ≤ 1000000) (g1 : s1.size ≤ 1000000) (g : Below w.heap.size w W) => bytK_any s0 s1 W g0 g1 (hT.below g)
  unfold SnOut at ha hb
  unfold StrOut at hc hd
  have HA := Lib.hid ha; have HB := Lib.hid hb; have HC := Lib.hid hc; have HD := Lib.hid hd
  have HW0 := Lib.hid (fun W (h : s0.size ≤ 4000000) => wellFormed_any s0 W h)
  have HW1 := Lib.hid (fun W (h : s1.size ≤ 4000000) => wellFormed_any s1 W h)
  clear ha hb hc hd hT
  unfold maxLen at ws0 ws1
  by_cases hb0 : (2147483647 : Int) < (s0.size : Int)
  · go_enter Tryd.func3, Tryd.ntmps3
    go_wp2
    go_ret
    exact ⟨rfl, Below.refl _ _⟩
  · by_cases hb1 : (2147483647 : Int) < (s1.size : Int)
    · go_enter Tryd.func3, Tryd.ntmps3
      go_wp2
      go_ret
      exact ⟨rfl, Below.refl _ _⟩
    · go_enter Tryd.func3, Tryd.ntmps3
      go_wp2_with fail
      refine (HT.out _ _ _ s0.size s1.size (IntsR.lit2 _ _ _ _ _) (by simp; omega)).mono ?_
      rintro e w3 ⟨rfl, rfl⟩
      have hsum : sumI [(s0.size : Int), (s1.size : Int)] = (s0.size : Int) + s1.size := by simp [sumI]
      by_cases hbig : 1000000 < (s0.size : Int) + s1.size
      · have hd : decide (1000000 < sumI [(s0.size : Int), (s1.size : Int)]) = true := by rw [hsum]; simp; omega
        rw [hd]
        clear hd hsum
        go_wp2
        go_ret
        exact ⟨rfl, (Below.refl _ _).alloc (Nat.le_refl _) _⟩
      · have hd : decide (1000000 < sumI [(s0.size : Int), (s1.size : Int)]) = false := by rw [hsum]; simp; omega
        rw [hd]
        have HB1 := Lib.hid ((Below.refl w.heap.size w).alloc (Nat.le_refl _) (.cells #[.int .i64 (s0.size : Int), .int .i64 (s1.size : Int)] 3))
        clear hd hsum
        have g0 : s0.size ≤ 1000000 := by omega
        have g1 : s1.size ≤ 1000000 := by omega
        clear hbig
        go_wp2_with fail
        refine (HW0.out _ (by omega)).mono ?_
        rintro e w6 ⟨rfl, rfl⟩
        cases h0 : wfB s0 with
        | false =>
          go_wp2_with fail
          refine (HA.out _).mono ?_
          rintro e w4 ⟨⟨A4, c4, rfl⟩, b4⟩
          have HB4 := Lib.hid (HB1.out.trans (b4.mono HB1.out.size)); clear b4
          go_wp2_with fail
          refine (HB.out _ HB4.out).mono ?_
          rintro e w5 ⟨⟨A5, c5, rfl⟩, b5⟩
          have HB5 := Lib.hid (HB4.out.trans (b5.mono HB4.out.size)); clear b5
          go_wp2
          go_ret
          exact ⟨rfl, HB5.out⟩
        | true =>
          go_wp2_with fail
          refine (HW1.out _ (by omega)).mono ?_
          rintro e w7 ⟨rfl, rfl⟩
          cases h1 : wfB s1 with
          | false =>
            go_wp2_with fail
            refine (HA.out _).mono ?_
            rintro e w4 ⟨⟨A4, c4, rfl⟩, b4⟩
            have HB4 := Lib.hid (HB1.out.trans (b4.mono HB1.out.size)); clear b4
            go_wp2_with fail
            refine (HB.out _ HB4.out).mono ?_
            rintro e w5 ⟨⟨A5, c5, rfl⟩, b5⟩
            have HB5 := Lib.hid (HB4.out.trans (b5.mono HB4.out.size)); clear b5
            go_wp2
            go_ret
            exact ⟨rfl, HB5.out⟩
          | true =>
            clear h0 h1
            go_wp2_with fail
            refine (HA.out _).mono ?_
            rintro e w4 ⟨⟨A4, c4, rfl⟩, b4⟩
            have HB4 := Lib.hid (HB1.out.trans (b4.mono HB1.out.size)); clear b4
            go_wp2_with fail
            refine (HB.out _ HB4.out).mono ?_
            rintro e w5 ⟨⟨A5, c5, rfl⟩, b5⟩
            have HB5 := Lib.hid (HB4.out.trans (b5.mono HB4.out.size)); clear b5
            go_wp2_with fail
            refine (HC.out _ g0 g1).mono ?_
            rintro e w8 ⟨es, A8, c8, rfl, hr8, hc8, hb8, hp8⟩
            have HB8 := Lib.hid (HB5.out.trans (hb8.mono HB5.out.size)); have HR8 := Lib.hid hr8
            clear hr8 hb8
            obtain ⟨n, hn⟩ : ∃ n, es.length = n := ⟨_, rfl⟩
            rw [hn] at hc8 ⊢
            have HN := Lib.hid hn; have HP8 := Lib.hid hp8
            clear hn hp8
            go_wp2_with fail
            refine (HD.out _ g0 g1 HB8.out).mono ?_
            rintro e w9 ⟨es2, A9, c9, rfl, hr9, hc9, hb9, hp9⟩
            obtain rfl : es = es2 := HP8.out.uniq hp9
            have hcnt := hp9.str.count g0
            have hs := fun q => sameEdits_any A8 A9 c8 c9 es es (w9.drewN q) (CellsR.drewN (CellsR.below HR8.out hb9 (Nat.le_refl _)) q) (CellsR.drewN hr9 q) (by omega) (by omega)
            have HB9 := Lib.hid (HB8.out.trans (hb9.mono HB8.out.size))
            rw [sameE_self, HN.out] at hs
            rw [HN.out] at hc9 ⊢
            have HS := Lib.hid hs
            clear hr9 hb9 hp9 hs hcnt
            go_wp2_with fail
            refine (HS.out 0).mono ?_
            rintro e w10 ⟨rfl, q, rfl⟩
            go_wp2
            go_ret
            exact ⟨rfl, below_drewN HB9.out _⟩
end Go.Proofs.YtgjbagojcbondaaDoor
