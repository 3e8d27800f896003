/-
  impl.Lines, with DiffLines' contract paid.
-/
import Derived.Test.YtgjbagojcbondaaGreatLcsE
import Derived.Test.YtgjbagojcbondaaGreatLinesI
namespace Go.Proofs.YtgjbagojcbondaaGreat
set_option linter.unusedVariables false
open Go.RowKit

theorem implLines_any (s t : ByteArray) (w : World) (hs : s.size ≤ 1000000) (ht : t.size ≤ 1000000) :
    Calls Tryz.prog 11 #[.string s, .string t] w (EdsOutI (LinesP s t) w) := by
  refine linesI_any s t w hs ht (fun W A C c d hx hy hc hd => ?_)
  have l1 := linesF_len s
  have l2 := linesF_len t
  refine (ldifLines (E := eqL (linesF s) (linesF t)) (fun _ _ _ _ => rfl) hx hy hc hd (by omega) (by omega)).mono ?_
  rintro e w' ⟨ps, A', c', rfl, o, b, h1, h2⟩
  obtain ⟨k, hk⟩ := lead_chain h1
  exact ⟨_, A', c', rfl, CellsR.of_own o, b, ⟨ps, h1, h2, rfl⟩, diffs_most h1, lead_bounds hk⟩
end Go.Proofs.YtgjbagojcbondaaGreat
