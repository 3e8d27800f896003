/-
  The walk of laws.FnLinesApply: for every input it returns true. No condition.
-/
import Derived.Test.YtgjbagojcbondaaGreatLinesE
import Derived.Test.YtgjbagojcbondaaGreatLinesA
namespace Go.Proofs.YtgjbagojcbondaaGreat
open Go.RowKit
theorem FnLinesApply_walk (s0 s1 : ByteArray) (w : World) (ws0 : s0.size ≤ maxLen) (ws1 : s1.size ≤ maxLen) :
   Calls Tryz.prog 4 #[.string s0, .string s1] w fun e w' => e = .returned (.bool true) ∧ Below w.heap.size w w' :=
  FnLinesApply_walk0 implLines_any s0 s1 w ws0 ws1
end Go.Proofs.YtgjbagojcbondaaGreat
