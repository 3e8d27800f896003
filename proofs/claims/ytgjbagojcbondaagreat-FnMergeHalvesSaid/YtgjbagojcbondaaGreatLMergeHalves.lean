/-
  The walk of laws.FnMergeHalves: for every input it returns true. No condition.
-/
import Derived.Test.YtgjbagojcbondaaGreatLinesE
import Derived.Test.YtgjbagojcbondaaGreatLinF
namespace Go.Proofs.YtgjbagojcbondaaGreat
open Go.RowKit
theorem FnMergeHalves_walk (s0 s1 s2 s3 : ByteArray) (w : World) (ws0 : s0.size ≤ maxLen) (ws1 : s1.size ≤ maxLen) (ws2 : s2.size ≤ maxLen) (ws3 : s3.size ≤ maxLen) :
   Calls Tryz.prog 6 #[.string s0, .string s1, .string s2, .string s3] w fun e w' => e = .returned (.bool true) ∧ Below w.heap.size w w' :=
  FnMergeHalves_walk0 implLines_any s0 s1 s2 s3 w ws0 ws1 ws2 ws3
end Go.Proofs.YtgjbagojcbondaaGreat
