/-
  The walk of laws.FnMergeApplies: for every input it returns true. No condition.
-/
import Derived.Test.YtgjbagojcbondaaGreatLinesE
import Derived.Test.YtgjbagojcbondaaGreatLinesM
namespace Go.Proofs.YtgjbagojcbondaaGreat
open Go.RowKit
theorem FnMergeApplies_walk (s0 s1 s2 : ByteArray) (w : World) (ws0 : s0.size ≤ maxLen) (ws1 : s1.size ≤ maxLen) (ws2 : s2.size ≤ maxLen) :
   Calls Tryz.prog 5 #[.string s0, .string s1, .string s2] w fun e w' => e = .returned (.bool true) ∧ Below w.heap.size w w' :=
  FnMergeApplies_walk0 implLines_any s0 s1 s2 w ws0 ws1 ws2
end Go.Proofs.YtgjbagojcbondaaGreat
