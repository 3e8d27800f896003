/-
  No cell of these rows narrows 'for every input' (looked for: loops, veiled, ifaces, maps, wideKeys, modest, calm, conditions, laid).
  DERIVED. THE GIVEN ROWS OF THIS SEAT. 7 by the template 'for every input the law returns true; each argument reads behind the call as it read before'; 0 by the template 'total and deterministic' (their statements: YtpbmjnjcjjombaaTotals.lean).
  GIVEN WITH THE SEED: the statements are not yours to turn. If you find one false, say at which input.
  Laid BY PROGRAM, IN A SANDBOX (cutbox-rows.mjs): the forced cells as the released guide's own fill.sh prints them over the translation 1094d9f04e4fe008… (all of the seat's roots in one cut). By AI agents, Wed Nov 11 2026. No macro, syntax, notation, axiom, sorry.
-/
import Derived.Test.YtpbmjnjcjjombaaChecked
import GoSem.Claim
import GoSem.ClaimJoined
import GoSem.ClaimMapViews
import Derived.JoinedTies
import Derived.KernelRfl
namespace Go.Proofs.Ytpbmjnjcjjombaa
/- THE CELL 'sum', in the pinned program and in every row, IS THE sha256 OF THE DUMP (.gsa) THAT YtpbmjnjcjjombaaProg.lean LOADS. Nothing in Lean hashes anything: it is a label: what it is worth is what the hold of that sum in a sandbox is worth. -/
noncomputable def Try.pinned : Pinned := { name := "ytpbmjnjcjjombaa", sum := "1094d9f04e4fe008d1fa709df9b2950194bd10a783d46cf488e621085f4a4598", checked := Try.checked }
namespace Rows
def none {H : Type} : Left H := { results := [], args := [] }

/-- 'laws.FnPrefixLongest': WHATEVER THE INPUT: true; the input reads as it did. -/
def fnPrefixLongestSpec : ChangeSpec := { name := "fnPrefixLongest", fn := fun _ => fun
  | [d1, d2] => { results := [.lit (.bool true)], args := [d1, d2] }
  | _ => none }
def fnPrefixLongestRow : OpenClaim := { program := "ytpbmjnjcjjombaa", sum := "1094d9f04e4fe008d1fa709df9b2950194bd10a783d46cf488e621085f4a4598", func := "loop.example/pub-g01452/laws.FnPrefixLongest", spec := "fnPrefixLongest", apart := false }
def FnPrefixLongestSaid : Prop := fnPrefixLongestRow.holds Try.pinned (OpenSpec.ofChange fnPrefixLongestSpec)

/-- ITS FALSE NEIGHBOUR: 'it returns false'. Refute it at one input. -/
def fnPrefixLongestWrong : ChangeSpec := { name := "fnPrefixLongest", fn := fun _ => fun
  | [d1, d2] => { results := [.lit (.bool false)], args := [d1, d2] }
  | _ => none }
def FnPrefixLongestWrongFalsely : Prop := fnPrefixLongestRow.holds Try.pinned (OpenSpec.ofChange fnPrefixLongestWrong)

/-- 'laws.FnSuffixLongest': WHATEVER THE INPUT: true; the input reads as it did. -/
def fnSuffixLongestSpec : ChangeSpec := { name := "fnSuffixLongest", fn := fun _ => fun
  | [d1, d2] => { results := [.lit (.bool true)], args := [d1, d2] }
  | _ => none }
def fnSuffixLongestRow : OpenClaim := { program := "ytpbmjnjcjjombaa", sum := "1094d9f04e4fe008d1fa709df9b2950194bd10a783d46cf488e621085f4a4598", func := "loop.example/pub-g01452/laws.FnSuffixLongest", spec := "fnSuffixLongest", apart := false }
def FnSuffixLongestSaid : Prop := fnSuffixLongestRow.holds Try.pinned (OpenSpec.ofChange fnSuffixLongestSpec)

/-- ITS FALSE NEIGHBOUR: 'it returns false'. Refute it at one input. -/
def fnSuffixLongestWrong : ChangeSpec := { name := "fnSuffixLongest", fn := fun _ => fun
  | [d1, d2] => { results := [.lit (.bool false)], args := [d1, d2] }
  | _ => none }
def FnSuffixLongestWrongFalsely : Prop := fnSuffixLongestRow.holds Try.pinned (OpenSpec.ofChange fnSuffixLongestWrong)

/-- 'laws.FnSplitLines': WHATEVER THE INPUT: true; the input reads as it did. -/
def fnSplitLinesSpec : ChangeSpec := { name := "fnSplitLines", fn := fun _ => fun
  | [d] => { results := [.lit (.bool true)], args := [d] }
  | _ => none }
def fnSplitLinesRow : OpenClaim := { program := "ytpbmjnjcjjombaa", sum := "1094d9f04e4fe008d1fa709df9b2950194bd10a783d46cf488e621085f4a4598", func := "loop.example/pub-g01452/laws.FnSplitLines", spec := "fnSplitLines", apart := false }
def FnSplitLinesSaid : Prop := fnSplitLinesRow.holds Try.pinned (OpenSpec.ofChange fnSplitLinesSpec)

/-- ITS FALSE NEIGHBOUR: 'it returns false'. Refute it at one input. -/
def fnSplitLinesWrong : ChangeSpec := { name := "fnSplitLines", fn := fun _ => fun
  | [d] => { results := [.lit (.bool false)], args := [d] }
  | _ => none }
def FnSplitLinesWrongFalsely : Prop := fnSplitLinesRow.holds Try.pinned (OpenSpec.ofChange fnSplitLinesWrong)

/-- 'laws.FnMergeAlone': WHATEVER THE INPUT: true; the input reads as it did. -/
def fnMergeAloneSpec : ChangeSpec := { name := "fnMergeAlone", fn := fun _ => fun
  | [d1, d2] => { results := [.lit (.bool true)], args := [d1, d2] }
  | _ => none }
def fnMergeAloneRow : OpenClaim := { program := "ytpbmjnjcjjombaa", sum := "1094d9f04e4fe008d1fa709df9b2950194bd10a783d46cf488e621085f4a4598", func := "loop.example/pub-g01452/laws.FnMergeAlone", spec := "fnMergeAlone", unfollowed := true, recurses := true, apart := false }
def FnMergeAloneSaid : Prop := fnMergeAloneRow.holds Try.pinned (OpenSpec.ofChange fnMergeAloneSpec)

/-- ITS FALSE NEIGHBOUR: 'it returns false'. Refute it at one input. -/
def fnMergeAloneWrong : ChangeSpec := { name := "fnMergeAlone", fn := fun _ => fun
  | [d1, d2] => { results := [.lit (.bool false)], args := [d1, d2] }
  | _ => none }
def FnMergeAloneWrongFalsely : Prop := fnMergeAloneRow.holds Try.pinned (OpenSpec.ofChange fnMergeAloneWrong)

/-- 'laws.FnMergeConflict': WHATEVER THE INPUT: true; the input reads as it did. -/
def fnMergeConflictSpec : ChangeSpec := { name := "fnMergeConflict", fn := fun _ => fun
  | [d1, d2, d3, d4] => { results := [.lit (.bool true)], args := [d1, d2, d3, d4] }
  | _ => none }
def fnMergeConflictRow : OpenClaim := { program := "ytpbmjnjcjjombaa", sum := "1094d9f04e4fe008d1fa709df9b2950194bd10a783d46cf488e621085f4a4598", func := "loop.example/pub-g01452/laws.FnMergeConflict", spec := "fnMergeConflict", unfollowed := true, recurses := true, apart := false }
def FnMergeConflictSaid : Prop := fnMergeConflictRow.holds Try.pinned (OpenSpec.ofChange fnMergeConflictSpec)

/-- ITS FALSE NEIGHBOUR: 'it returns false'. Refute it at one input. -/
def fnMergeConflictWrong : ChangeSpec := { name := "fnMergeConflict", fn := fun _ => fun
  | [d1, d2, d3, d4] => { results := [.lit (.bool false)], args := [d1, d2, d3, d4] }
  | _ => none }
def FnMergeConflictWrongFalsely : Prop := fnMergeConflictRow.holds Try.pinned (OpenSpec.ofChange fnMergeConflictWrong)

/-- 'laws.FnMergeReference': WHATEVER THE INPUT: true; the input reads as it did. -/
def fnMergeReferenceSpec : ChangeSpec := { name := "fnMergeReference", fn := fun _ => fun
  | [d1, d2, d3] => { results := [.lit (.bool true)], args := [d1, d2, d3] }
  | _ => none }
def fnMergeReferenceRow : OpenClaim := { program := "ytpbmjnjcjjombaa", sum := "1094d9f04e4fe008d1fa709df9b2950194bd10a783d46cf488e621085f4a4598", func := "loop.example/pub-g01452/laws.FnMergeReference", spec := "fnMergeReference", unfollowed := true, recurses := true, apart := false }
def FnMergeReferenceSaid : Prop := fnMergeReferenceRow.holds Try.pinned (OpenSpec.ofChange fnMergeReferenceSpec)

/-- ITS FALSE NEIGHBOUR: 'it returns false'. Refute it at one input. -/
def fnMergeReferenceWrong : ChangeSpec := { name := "fnMergeReference", fn := fun _ => fun
  | [d1, d2, d3] => { results := [.lit (.bool false)], args := [d1, d2, d3] }
  | _ => none }
def FnMergeReferenceWrongFalsely : Prop := fnMergeReferenceRow.holds Try.pinned (OpenSpec.ofChange fnMergeReferenceWrong)

/-- 'laws.FnMergeSplit': WHATEVER THE INPUT: true; the input reads as it did. -/
def fnMergeSplitSpec : ChangeSpec := { name := "fnMergeSplit", fn := fun _ => fun
  | [d1, d2, d3] => { results := [.lit (.bool true)], args := [d1, d2, d3] }
  | _ => none }
def fnMergeSplitRow : OpenClaim := { program := "ytpbmjnjcjjombaa", sum := "1094d9f04e4fe008d1fa709df9b2950194bd10a783d46cf488e621085f4a4598", func := "loop.example/pub-g01452/laws.FnMergeSplit", spec := "fnMergeSplit", unfollowed := true, recurses := true, apart := false }
def FnMergeSplitSaid : Prop := fnMergeSplitRow.holds Try.pinned (OpenSpec.ofChange fnMergeSplitSpec)

/-- ITS FALSE NEIGHBOUR: 'it returns false'. Refute it at one input. -/
def fnMergeSplitWrong : ChangeSpec := { name := "fnMergeSplit", fn := fun _ => fun
  | [d1, d2, d3] => { results := [.lit (.bool false)], args := [d1, d2, d3] }
  | _ => none }
def FnMergeSplitWrongFalsely : Prop := fnMergeSplitRow.holds Try.pinned (OpenSpec.ofChange fnMergeSplitWrong)

/- THE SECOND FORM. 'bulk': how many values and letters a reading holds, each counted each time it is reached (what is shared counts as often as it is met; a slice's spare places count too). A statement '..UptoSaid' is the law's where the arguments, and the package variables that the reading takes, are together of bulk at most 1048576: NARROWER than '..Said'. Prove '..Said' where nothing that the law and all that it calls make is longer than what came in: it says more and counts as full. Else prove '..UptoSaid'. A law counts once. -/
mutual
def uptoBulk {H : Type} : DataW H → Nat
  | .lit (.string bytes) => bytes.length + 1
  | .lit _ => 1
  | .nil => 1
  | .ptr d => uptoBulk d + 1
  | .slice elems spare => uptoBulkAll elems + uptoBulkAll spare + 1
  | .agg parts => uptoBulkAll parts + 1
  | .iface _ d => uptoBulk d + 1
  | .map entries => uptoBulkEntries entries + 1
  | .held _ => 1
def uptoBulkAll {H : Type} : List (DataW H) → Nat
  | [] => 0
  | d :: r => uptoBulk d + uptoBulkAll r
def uptoBulkEntries {H : Type} : List (Lit × DataW H) → Nat
  | [] => 0
  | x :: r => uptoBulkEntry x + uptoBulkEntries r
def uptoBulkEntry {H : Type} : Lit × DataW H → Nat
  | (.string bytes, d) => bytes.length + uptoBulk d + 1
  | (_, d) => uptoBulk d + 1
 end
def uptoSmall : (H : Type) → List (DataW H) → Bool := fun _ ds => decide (uptoBulkAll ds ≤ 1048576)
def OpenSpec.upto (s : _root_.Go.ChangeSpec) : _root_.Go.OpenSpec := { _root_.Go.OpenSpec.ofChange s with cond := some uptoSmall }

/-- 'laws.FnPrefixLongest', WHERE WHAT IT READS IS OF BULK AT MOST 1048576: true; the input reads as it did. -/
def fnPrefixLongestUptoRow : OpenClaim := { program := "ytpbmjnjcjjombaa", sum := "1094d9f04e4fe008d1fa709df9b2950194bd10a783d46cf488e621085f4a4598", func := "loop.example/pub-g01452/laws.FnPrefixLongest", spec := "fnPrefixLongest", apart := false, narrowed := true }
def FnPrefixLongestUptoSaid : Prop := fnPrefixLongestUptoRow.holds Try.pinned (OpenSpec.upto fnPrefixLongestSpec)

/-- 'laws.FnSuffixLongest', WHERE WHAT IT READS IS OF BULK AT MOST 1048576: true; the input reads as it did. -/
def fnSuffixLongestUptoRow : OpenClaim := { program := "ytpbmjnjcjjombaa", sum := "1094d9f04e4fe008d1fa709df9b2950194bd10a783d46cf488e621085f4a4598", func := "loop.example/pub-g01452/laws.FnSuffixLongest", spec := "fnSuffixLongest", apart := false, narrowed := true }
def FnSuffixLongestUptoSaid : Prop := fnSuffixLongestUptoRow.holds Try.pinned (OpenSpec.upto fnSuffixLongestSpec)

/-- 'laws.FnSplitLines', WHERE WHAT IT READS IS OF BULK AT MOST 1048576: true; the input reads as it did. -/
def fnSplitLinesUptoRow : OpenClaim := { program := "ytpbmjnjcjjombaa", sum := "1094d9f04e4fe008d1fa709df9b2950194bd10a783d46cf488e621085f4a4598", func := "loop.example/pub-g01452/laws.FnSplitLines", spec := "fnSplitLines", apart := false, narrowed := true }
def FnSplitLinesUptoSaid : Prop := fnSplitLinesUptoRow.holds Try.pinned (OpenSpec.upto fnSplitLinesSpec)

/-- 'laws.FnMergeAlone', WHERE WHAT IT READS IS OF BULK AT MOST 1048576: true; the input reads as it did. -/
def fnMergeAloneUptoRow : OpenClaim := { program := "ytpbmjnjcjjombaa", sum := "1094d9f04e4fe008d1fa709df9b2950194bd10a783d46cf488e621085f4a4598", func := "loop.example/pub-g01452/laws.FnMergeAlone", spec := "fnMergeAlone", unfollowed := true, recurses := true, apart := false, narrowed := true }
def FnMergeAloneUptoSaid : Prop := fnMergeAloneUptoRow.holds Try.pinned (OpenSpec.upto fnMergeAloneSpec)

/-- 'laws.FnMergeConflict', WHERE WHAT IT READS IS OF BULK AT MOST 1048576: true; the input reads as it did. -/
def fnMergeConflictUptoRow : OpenClaim := { program := "ytpbmjnjcjjombaa", sum := "1094d9f04e4fe008d1fa709df9b2950194bd10a783d46cf488e621085f4a4598", func := "loop.example/pub-g01452/laws.FnMergeConflict", spec := "fnMergeConflict", unfollowed := true, recurses := true, apart := false, narrowed := true }
def FnMergeConflictUptoSaid : Prop := fnMergeConflictUptoRow.holds Try.pinned (OpenSpec.upto fnMergeConflictSpec)

/-- 'laws.FnMergeReference', WHERE WHAT IT READS IS OF BULK AT MOST 1048576: true; the input reads as it did. -/
def fnMergeReferenceUptoRow : OpenClaim := { program := "ytpbmjnjcjjombaa", sum := "1094d9f04e4fe008d1fa709df9b2950194bd10a783d46cf488e621085f4a4598", func := "loop.example/pub-g01452/laws.FnMergeReference", spec := "fnMergeReference", unfollowed := true, recurses := true, apart := false, narrowed := true }
def FnMergeReferenceUptoSaid : Prop := fnMergeReferenceUptoRow.holds Try.pinned (OpenSpec.upto fnMergeReferenceSpec)

/-- 'laws.FnMergeSplit', WHERE WHAT IT READS IS OF BULK AT MOST 1048576: true; the input reads as it did. -/
def fnMergeSplitUptoRow : OpenClaim := { program := "ytpbmjnjcjjombaa", sum := "1094d9f04e4fe008d1fa709df9b2950194bd10a783d46cf488e621085f4a4598", func := "loop.example/pub-g01452/laws.FnMergeSplit", spec := "fnMergeSplit", unfollowed := true, recurses := true, apart := false, narrowed := true }
def FnMergeSplitUptoSaid : Prop := fnMergeSplitUptoRow.holds Try.pinned (OpenSpec.upto fnMergeSplitSpec)

end Rows
end Go.Proofs.Ytpbmjnjcjjombaa
