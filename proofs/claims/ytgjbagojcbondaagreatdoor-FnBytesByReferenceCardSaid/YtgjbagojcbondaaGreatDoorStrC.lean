/-
  diff.Strings and impl.Strings, the contracts of DiffBytes and DiffRunes paid. Condition: texts of at most 1000000 bytes.
-/
import Derived.Test.YtgjbagojcbondaaGreatDoorStrB
import Derived.Test.YtgjbagojcbondaaGreatDoorLcsE
namespace Go.Proofs.YtgjbagojcbondaaGreatDoor
set_option linter.unusedVariables false
open Go.RowKit

/-- how much is kept -/
def KQ (xs ys : List Int) (ps : List Pc) : Prop := QT (eqI xs ys) xs.length ys.length 50 ps
theorem payBytes (s t : ByteArray) (hs : s.size ≤ 1000000) (ht : t.size ≤ 1000000) : ∀ W A C c d, IntsR .u8 W A (bytesI s) → IntsR .u8 W C (bytesI t) → s.size ≤ c → t.size ≤ d → Calls Tryz.prog 47 #[.slice A s.size c, .slice C t.size d] W (DsX s.size t.size (DfP KQ (bytesI s) (bytesI t)) W) := by
  intro W A C c d h1 h2 h3 h4
  have l1 := bytesI_len s
  have l2 := bytesI_len t
  have h := ldifBytes (c := c) (d := d) h1 h2 (by rw [l1]; exact h3) (by rw [l2]; exact h4) (by rw [l1]; omega) (by rw [l2]; omega)
  rw [l1, l2] at h
  refine h.mono ?_
  rintro e w' ⟨ps, A', c', rfl, o, b, g1, g2⟩
  have := dsX_of (K := KQ) (xs := bytesI s) (ys := bytesI t) (w := W) (w' := w') (e := .returned (.slice A' (diffsFrom s.size t.size 0 0 ps).length c')) ⟨ps, A', c', by rw [l1, l2], by rw [l1, l2]; exact CellsR.of_own o, b, by rw [l1, l2]; exact g1, by unfold KQ; rw [l1, l2]; exact g2⟩
  rw [l1, l2] at this
  exact this
theorem payRunes (s t : ByteArray) (hs : s.size ≤ 1000000) (ht : t.size ≤ 1000000) : ∀ W A C c d, IntsR .i32 W A (runesF s) → IntsR .i32 W C (runesF t) → (runesF s).length ≤ c → (runesF t).length ≤ d → Calls Tryz.prog 48 #[.slice A (runesF s).length c, .slice C (runesF t).length d] W (DsX (runesF s).length (runesF t).length (DfP KQ (runesF s) (runesF t)) W) := by
  intro W A C c d h1 h2 h3 h4
  have l1 := runesF_len s
  have l2 := runesF_len t
  refine (ldifRunes h1 h2 h3 h4 (by omega) (by omega)).mono ?_
  rintro e w' ⟨ps, A', c', rfl, o, b, g1, g2⟩
  exact dsX_of (K := KQ) ⟨ps, A', c', rfl, CellsR.of_own o, b, g1, g2⟩
theorem implStrings_any (s t : ByteArray) (w : World) (hs : s.size ≤ 1000000) (ht : t.size ≤ 1000000) :
    Calls Tryz.prog 14 #[.string s, .string t] w (StrOut (StrP s t) w) := by
  refine (strImpl_any s t w hs (strings_any s t w hs ht (payBytes s t hs ht) (payRunes s t hs ht))).mono ?_
  rintro e w' ⟨es, A, c, h1, h2, h3, h4, h5⟩
  exact ⟨es, A, c, h1, h2, h3, h4, h5.str⟩
end Go.Proofs.YtgjbagojcbondaaGreatDoor
