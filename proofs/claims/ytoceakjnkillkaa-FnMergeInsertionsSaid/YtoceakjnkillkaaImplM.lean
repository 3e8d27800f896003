/-
  impl.Merge: the merged edits in new memory, and whether there was no conflict. Condition: at most 3000000 edits each.
-/
import Derived.Test.YtoceakjnkillkaaMergeX
namespace Go.Proofs.Ytoceakjnkillkaa
set_option linter.unusedVariables false
open Go.RowKit

/-- what impl.Merge hands back -/
def MergeOut (R : Option (List Ed)) (w : World) (e : Ending) (w' : World) : Prop :=
  ∃ A c, e = .returned (.tuple #[.slice A (R.getD []).length c, .bool R.isSome]) ∧ w'.ownsRow w.heap.size 28 3 (.slice A (R.getD []).length c) (R.getD []).length (edCells (R.getD [])) ∧ Below w.heap.size w w'

theorem own_keep {w w' : World} {B base e size n : Nat} {v : Value} {xs : List Value} (ho : w.ownsRow base e size v n xs) (hb : Below B w w') (hB : w.heap.size ≤ B) : w'.ownsRow base e size v n xs := by
  refine ⟨ho.1, ?_⟩
  rcases ho.2 with hn | ⟨g', cap, cur, hv, hg, hgg, rest⟩
  · exact .inl hn
  · exact .inr ⟨g', cap, cur, hv, hg, by rw [hb.block g' (by have := (Array.getElem?_eq_some_iff.1 hgg).1; omega)]; exact hgg, rest⟩

set_option maxHeartbeats 400000 in
theorem implMerge_any (A B : Option Addr) (c d : Nat) (xs ys : List Ed) (w : World) (hx : EdsR w A xs) (hy : EdsR w B ys) (hl : xs.length ≤ 3000000) (hm : ys.length ≤ 3000000) :
   Calls Try.prog 20 #[.slice A xs.length c, .slice B ys.length d] w (MergeOut (mg xs ys []) w) := by
  have hc1 := given_any A c xs w hx (by omega)
  have hc2 := fun w1 (hb : Below w.heap.size w w1) => given_any B d ys w1 (hy.below hb (Nat.le_refl _)) (by omega)
  have hc3 := fun A1 c1 A2 c2 w1 (h1 : EdsR w1 A1 xs) (h2 : EdsR w1 A2 ys) => merge_any A1 A2 c1 c2 xs ys w1 h1 h2 hl hm
  have HC1 := Lib.hid hc1; clear hc1 hx
  have HC2 := Lib.hid hc2; clear hc2 hy
  have HC3 := Lib.hid hc3; clear hc3
  have hlen := fun r (h : mg xs ys [] = some r) => mg_len' h
  have HL := Lib.hid hlen; clear hlen
  obtain ⟨nx, hnx⟩ : ∃ n, xs.length = n := ⟨_, rfl⟩
  obtain ⟨ny, hny⟩ : ∃ n, ys.length = n := ⟨_, rfl⟩
  rw [hnx] at hl HC1 HC3 HL ⊢
  rw [hny] at hm HC2 HC3 HL ⊢
  clear hnx hny
  obtain ⟨R, hR⟩ : ∃ R, mg xs ys [] = R := ⟨_, rfl⟩
  rw [hR] at HC3 HL ⊢
  clear hR
  go_enter Try.func20, Try.ntmps20
  go_wp2_with fail
  refine HC1.out.mono ?_
  rintro e w1 ⟨A1, c1, rfl, ho1, hb1⟩
  go_wp2_with fail
  refine (HC2.out _ hb1).mono ?_
  rintro e w2 ⟨A2, c2, rfl, ho2, hb2⟩
  go_wp2_with fail
  refine (HC3.out A1 c1 A2 c2 _ (CellsR.of_own (own_keep ho1 hb2 (Nat.le_refl _))) (CellsR.of_own ho2)).mono ?_
  rintro e w3 ⟨hb3, h⟩
  have hb13 : Below w.heap.size w w3 := (hb1.trans (hb2.mono hb1.size)).trans (hb3.mono (Nat.le_trans hb1.size hb2.size))
  have HB := Lib.hid hb13; clear hb13 hb1 hb2 hb3 ho1 ho2
  rcases h with ⟨hR, rfl⟩ | ⟨r, A3, c3, hR, rfl, ho3⟩
  · have ht := told_any none 0 [] w3 (.inl rfl) (by simp)
    have HR := Lib.hid hR; clear hR
    have HT := Lib.hid ht; clear ht
    go_wp2_with fail
    refine HT.out.mono ?_
    rintro e w4 ⟨A4, c4, rfl, ho4, hb4⟩
    go_wp2
    go_ret2
    have hR := HR.out
    subst hR
    exact ⟨A4, c4, rfl, own_mono ho4 HB.out.size, HB.out.trans (hb4.mono HB.out.size)⟩
  · have ht := told_any A3 c3 r w3 (CellsR.of_own ho3) (by have := HL.out r hR; omega)
    have HR := Lib.hid hR; clear hR
    have HT := Lib.hid ht; clear ht ho3
    go_wp2_with fail
    refine HT.out.mono ?_
    rintro e w4 ⟨A4, c4, rfl, ho4, hb4⟩
    go_wp2
    go_ret2
    have hR := HR.out
    subst hR
    exact ⟨A4, c4, rfl, own_mono ho4 HB.out.size, HB.out.trans (hb4.mono HB.out.size)⟩
end Go.Proofs.Ytoceakjnkillkaa
