/-
  The walk of laws.FnLinesByReference: for every input it returns true. No condition.
-/
import Derived.Test.YtgjbagojcbondaaLinesE
import Derived.Test.YtgjbagojcbondaaLinesR1
namespace Go.Proofs.Ytgjbagojcbondaa
open Go.RowKit
theorem FnLinesByReference_walk (s0 s1 : ByteArray) (w : World) (ws0 : s0.size ≤ maxLen) (ws1 : s1.size ≤ maxLen) :
   Calls Try.prog 6 #[.string s0, .string s1] w fun e w' => e = .returned (.bool true) ∧ Below w.heap.size w w' :=
  FnLinesByReference_walk0 implLines_any s0 s1 w ws0 ws1
end Go.Proofs.Ytgjbagojcbondaa
