/-
  No cell of these rows narrows 'for every input' (looked for: loops, veiled, ifaces, maps, wideKeys, modest, calm, conditions, laid).
  DERIVED. THE GIVEN ROWS OF THIS SEAT. 4 by the template 'for every input the law returns true; each argument reads behind the call as it read before'; 0 by the template 'total and deterministic' (their statements: YtgjbagojcbondaaTotals.lean).
  GIVEN WITH THE SEED: the statements are not yours to turn. If you find one false, say at which input.
  Laid BY PROGRAM, IN A SANDBOX (cutbox-rows.mjs): the forced cells as the released guide's own fill.sh prints them over the translation 3ceb3ca21b752121… (all of the seat's roots in one cut). By AI agents, Wed Nov 11 2026. No macro, syntax, notation, axiom, sorry.
-/
import Derived.Test.YtgjbagojcbondaaChecked
import GoSem.Claim
import GoSem.ClaimJoined
import GoSem.ClaimMapViews
import Derived.JoinedTies
import Derived.KernelRfl
namespace Go.Proofs.Ytgjbagojcbondaa
/- THE CELL 'sum', in the pinned program and in every row, IS THE sha256 OF THE DUMP (.gsa) THAT YtgjbagojcbondaaProg.lean LOADS. Nothing in Lean hashes anything: it is a label: what it is worth is what the hold of that sum in a sandbox is worth. -/
noncomputable def Try.pinned : Pinned := { name := "ytgjbagojcbondaa", sum := "3ceb3ca21b752121c17151bba776561a6af3399c1005724f9632f2f3e6f73b3d", checked := Try.checked }
namespace Rows
def none {H : Type} : Left H := { results := [], args := [] }

/-- 'laws.FnStringsAtRunes': WHATEVER THE INPUT: true; the input reads as it did. -/
def fnStringsAtRunesSpec : ChangeSpec := { name := "fnStringsAtRunes", fn := fun _ => fun
  | [d1, d2] => { results := [.lit (.bool true)], args := [d1, d2] }
  | _ => none }
def fnStringsAtRunesRow : OpenClaim := { program := "ytgjbagojcbondaa", sum := "3ceb3ca21b752121c17151bba776561a6af3399c1005724f9632f2f3e6f73b3d", func := "loop.example/pub-g01452/laws.FnStringsAtRunes", spec := "fnStringsAtRunes", inPlace := ["internal/reflectlite.ValueOf", "internal/reflectlite.Swapper", "(internal/reflectlite.Value).Len"], unfollowed := true, recurses := true, apart := false }
def FnStringsAtRunesSaid : Prop := fnStringsAtRunesRow.holds Try.pinned (OpenSpec.ofChange fnStringsAtRunesSpec)

/-- ITS FALSE NEIGHBOUR: 'it returns false'. Refute it at one input. -/
def fnStringsAtRunesWrong : ChangeSpec := { name := "fnStringsAtRunes", fn := fun _ => fun
  | [d1, d2] => { results := [.lit (.bool false)], args := [d1, d2] }
  | _ => none }
def FnStringsAtRunesWrongFalsely : Prop := fnStringsAtRunesRow.holds Try.pinned (OpenSpec.ofChange fnStringsAtRunesWrong)

/-- 'laws.FnStringsByReference': WHATEVER THE INPUT: true; the input reads as it did. -/
def fnStringsByReferenceSpec : ChangeSpec := { name := "fnStringsByReference", fn := fun _ => fun
  | [d1, d2] => { results := [.lit (.bool true)], args := [d1, d2] }
  | _ => none }
def fnStringsByReferenceRow : OpenClaim := { program := "ytgjbagojcbondaa", sum := "3ceb3ca21b752121c17151bba776561a6af3399c1005724f9632f2f3e6f73b3d", func := "loop.example/pub-g01452/laws.FnStringsByReference", spec := "fnStringsByReference", inPlace := ["internal/reflectlite.ValueOf", "internal/reflectlite.Swapper", "(internal/reflectlite.Value).Len"], unfollowed := true, recurses := true, apart := false }
def FnStringsByReferenceSaid : Prop := fnStringsByReferenceRow.holds Try.pinned (OpenSpec.ofChange fnStringsByReferenceSpec)

/-- ITS FALSE NEIGHBOUR: 'it returns false'. Refute it at one input. -/
def fnStringsByReferenceWrong : ChangeSpec := { name := "fnStringsByReference", fn := fun _ => fun
  | [d1, d2] => { results := [.lit (.bool false)], args := [d1, d2] }
  | _ => none }
def FnStringsByReferenceWrongFalsely : Prop := fnStringsByReferenceRow.holds Try.pinned (OpenSpec.ofChange fnStringsByReferenceWrong)

/-- 'laws.FnLinesAtLines': WHATEVER THE INPUT: true; the input reads as it did. -/
def fnLinesAtLinesSpec : ChangeSpec := { name := "fnLinesAtLines", fn := fun _ => fun
  | [d1, d2] => { results := [.lit (.bool true)], args := [d1, d2] }
  | _ => none }
def fnLinesAtLinesRow : OpenClaim := { program := "ytgjbagojcbondaa", sum := "3ceb3ca21b752121c17151bba776561a6af3399c1005724f9632f2f3e6f73b3d", func := "loop.example/pub-g01452/laws.FnLinesAtLines", spec := "fnLinesAtLines", inPlace := ["internal/reflectlite.ValueOf", "internal/reflectlite.Swapper", "(internal/reflectlite.Value).Len", "internal/abi.NoEscape", "internal/bytealg.MakeNoZero"], unfollowed := true, recurses := true, apart := false }
def FnLinesAtLinesSaid : Prop := fnLinesAtLinesRow.holds Try.pinned (OpenSpec.ofChange fnLinesAtLinesSpec)

/-- ITS FALSE NEIGHBOUR: 'it returns false'. Refute it at one input. -/
def fnLinesAtLinesWrong : ChangeSpec := { name := "fnLinesAtLines", fn := fun _ => fun
  | [d1, d2] => { results := [.lit (.bool false)], args := [d1, d2] }
  | _ => none }
def FnLinesAtLinesWrongFalsely : Prop := fnLinesAtLinesRow.holds Try.pinned (OpenSpec.ofChange fnLinesAtLinesWrong)

/-- 'laws.FnLinesByReference': WHATEVER THE INPUT: true; the input reads as it did. -/
def fnLinesByReferenceSpec : ChangeSpec := { name := "fnLinesByReference", fn := fun _ => fun
  | [d1, d2] => { results := [.lit (.bool true)], args := [d1, d2] }
  | _ => none }
def fnLinesByReferenceRow : OpenClaim := { program := "ytgjbagojcbondaa", sum := "3ceb3ca21b752121c17151bba776561a6af3399c1005724f9632f2f3e6f73b3d", func := "loop.example/pub-g01452/laws.FnLinesByReference", spec := "fnLinesByReference", inPlace := ["internal/reflectlite.ValueOf", "internal/reflectlite.Swapper", "(internal/reflectlite.Value).Len", "internal/abi.NoEscape", "internal/bytealg.MakeNoZero"], unfollowed := true, recurses := true, apart := false }
def FnLinesByReferenceSaid : Prop := fnLinesByReferenceRow.holds Try.pinned (OpenSpec.ofChange fnLinesByReferenceSpec)

/-- ITS FALSE NEIGHBOUR: 'it returns false'. Refute it at one input. -/
def fnLinesByReferenceWrong : ChangeSpec := { name := "fnLinesByReference", fn := fun _ => fun
  | [d1, d2] => { results := [.lit (.bool false)], args := [d1, d2] }
  | _ => none }
def FnLinesByReferenceWrongFalsely : Prop := fnLinesByReferenceRow.holds Try.pinned (OpenSpec.ofChange fnLinesByReferenceWrong)

/- THE SECOND FORM. 'bulk': how many values and letters a reading holds, each counted each time it is reached (what is shared counts as often as it is met; a slice's spare places count too). A statement '..UptoSaid' is the law's where the arguments, and the package variables that the reading takes, are together of bulk at most 1048576: NARROWER than '..Said'. Prove '..Said' where nothing that the law and all that it calls make is longer than what came in: it says more and counts as full. Else prove '..UptoSaid'. A law counts once. -/
mutual
def uptoBulk {H : Type} : DataW H → Nat
  | .lit (.string bytes) => bytes.length + 1
  | .lit _ => 1
  | .nil => 1
  | .ptr d => uptoBulk d + 1
  | .slice elems spare => uptoBulkAll elems + uptoBulkAll spare + 1
  | .agg parts => uptoBulkAll parts + 1
  | .iface _ d => uptoBulk d + 1
  | .map entries => uptoBulkEntries entries + 1
  | .held _ => 1
def uptoBulkAll {H : Type} : List (DataW H) → Nat
  | [] => 0
  | d :: r => uptoBulk d + uptoBulkAll r
def uptoBulkEntries {H : Type} : List (Lit × DataW H) → Nat
  | [] => 0
  | x :: r => uptoBulkEntry x + uptoBulkEntries r
def uptoBulkEntry {H : Type} : Lit × DataW H → Nat
  | (.string bytes, d) => bytes.length + uptoBulk d + 1
  | (_, d) => uptoBulk d + 1
 end
def uptoSmall : (H : Type) → List (DataW H) → Bool := fun _ ds => decide (uptoBulkAll ds ≤ 1048576)
def OpenSpec.upto (s : _root_.Go.ChangeSpec) : _root_.Go.OpenSpec := { _root_.Go.OpenSpec.ofChange s with cond := some uptoSmall }

/-- 'laws.FnStringsAtRunes', WHERE WHAT IT READS IS OF BULK AT MOST 1048576: true; the input reads as it did. -/
def fnStringsAtRunesUptoRow : OpenClaim := { program := "ytgjbagojcbondaa", sum := "3ceb3ca21b752121c17151bba776561a6af3399c1005724f9632f2f3e6f73b3d", func := "loop.example/pub-g01452/laws.FnStringsAtRunes", spec := "fnStringsAtRunes", inPlace := ["internal/reflectlite.ValueOf", "internal/reflectlite.Swapper", "(internal/reflectlite.Value).Len"], unfollowed := true, recurses := true, apart := false, narrowed := true }
def FnStringsAtRunesUptoSaid : Prop := fnStringsAtRunesUptoRow.holds Try.pinned (OpenSpec.upto fnStringsAtRunesSpec)

/-- 'laws.FnStringsByReference', WHERE WHAT IT READS IS OF BULK AT MOST 1048576: true; the input reads as it did. -/
def fnStringsByReferenceUptoRow : OpenClaim := { program := "ytgjbagojcbondaa", sum := "3ceb3ca21b752121c17151bba776561a6af3399c1005724f9632f2f3e6f73b3d", func := "loop.example/pub-g01452/laws.FnStringsByReference", spec := "fnStringsByReference", inPlace := ["internal/reflectlite.ValueOf", "internal/reflectlite.Swapper", "(internal/reflectlite.Value).Len"], unfollowed := true, recurses := true, apart := false, narrowed := true }
def FnStringsByReferenceUptoSaid : Prop := fnStringsByReferenceUptoRow.holds Try.pinned (OpenSpec.upto fnStringsByReferenceSpec)

/-- 'laws.FnLinesAtLines', WHERE WHAT IT READS IS OF BULK AT MOST 1048576: true; the input reads as it did. -/
def fnLinesAtLinesUptoRow : OpenClaim := { program := "ytgjbagojcbondaa", sum := "3ceb3ca21b752121c17151bba776561a6af3399c1005724f9632f2f3e6f73b3d", func := "loop.example/pub-g01452/laws.FnLinesAtLines", spec := "fnLinesAtLines", inPlace := ["internal/reflectlite.ValueOf", "internal/reflectlite.Swapper", "(internal/reflectlite.Value).Len", "internal/abi.NoEscape", "internal/bytealg.MakeNoZero"], unfollowed := true, recurses := true, apart := false, narrowed := true }
def FnLinesAtLinesUptoSaid : Prop := fnLinesAtLinesUptoRow.holds Try.pinned (OpenSpec.upto fnLinesAtLinesSpec)

/-- 'laws.FnLinesByReference', WHERE WHAT IT READS IS OF BULK AT MOST 1048576: true; the input reads as it did. -/
def fnLinesByReferenceUptoRow : OpenClaim := { program := "ytgjbagojcbondaa", sum := "3ceb3ca21b752121c17151bba776561a6af3399c1005724f9632f2f3e6f73b3d", func := "loop.example/pub-g01452/laws.FnLinesByReference", spec := "fnLinesByReference", inPlace := ["internal/reflectlite.ValueOf", "internal/reflectlite.Swapper", "(internal/reflectlite.Value).Len", "internal/abi.NoEscape", "internal/bytealg.MakeNoZero"], unfollowed := true, recurses := true, apart := false, narrowed := true }
def FnLinesByReferenceUptoSaid : Prop := fnLinesByReferenceUptoRow.holds Try.pinned (OpenSpec.upto fnLinesByReferenceSpec)

end Rows
end Go.Proofs.Ytgjbagojcbondaa
