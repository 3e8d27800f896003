/-
  No cell of these rows narrows 'for every input' (looked for: loops, veiled, ifaces, maps, wideKeys, modest, calm, conditions, laid).
  DERIVED. THE GIVEN ROWS OF THIS SEAT. 14 by the template 'for every input the law returns true; each argument reads behind the call as it read before'; 0 by the template 'total and deterministic' (their statements: YtbolgikdadhaeaaTotals.lean).
  GIVEN WITH THE SEED: the statements are not yours to turn. If you find one false, say at which input.
  Laid BY PROGRAM, IN A SANDBOX (cutbox-rows.mjs): the forced cells as the released guide's own fill.sh prints them over the translation aa70712aa9ca02ae… (all of the seat's roots in one cut). By AI agents, Wed Nov 11 2026. No macro, syntax, notation, axiom, sorry.
-/
import Derived.Test.YtbolgikdadhaeaaChecked
import GoSem.Claim
import GoSem.ClaimJoined
import GoSem.ClaimMapViews
import Derived.JoinedTies
import Derived.KernelRfl
namespace Go.Proofs.Ytbolgikdadhaeaa
/- THE CELL 'sum', in the pinned program and in every row, IS THE sha256 OF THE DUMP (.gsa) THAT YtbolgikdadhaeaaProg.lean LOADS. Nothing in Lean hashes anything: it is a label: what it is worth is what the hold of that sum in a sandbox is worth. -/
noncomputable def Try.pinned : Pinned := { name := "ytbolgikdadhaeaa", sum := "aa70712aa9ca02ae5a9f686ea4eb15a580aa92999ebd489fbb5273e619af6c0e", checked := Try.checked }
namespace Rows
def none {H : Type} : Left H := { results := [], args := [] }

/-- 'laws.FnForwardLead': WHATEVER THE INPUT: true; the input reads as it did. -/
def fnForwardLeadSpec : ChangeSpec := { name := "fnForwardLead", fn := fun _ => fun
  | [d1, d2, d3] => { results := [.lit (.bool true)], args := [d1, d2, d3] }
  | _ => none }
def fnForwardLeadRow : OpenClaim := { program := "ytbolgikdadhaeaa", sum := "aa70712aa9ca02ae5a9f686ea4eb15a580aa92999ebd489fbb5273e619af6c0e", func := "loop.example/pub-g01452/laws.FnForwardLead", spec := "fnForwardLead", unfollowed := true, recurses := true, apart := false }
def FnForwardLeadSaid : Prop := fnForwardLeadRow.holds Try.pinned (OpenSpec.ofChange fnForwardLeadSpec)

/-- ITS FALSE NEIGHBOUR: 'it returns false'. Refute it at one input. -/
def fnForwardLeadWrong : ChangeSpec := { name := "fnForwardLead", fn := fun _ => fun
  | [d1, d2, d3] => { results := [.lit (.bool false)], args := [d1, d2, d3] }
  | _ => none }
def FnForwardLeadWrongFalsely : Prop := fnForwardLeadRow.holds Try.pinned (OpenSpec.ofChange fnForwardLeadWrong)

/-- 'laws.FnForwardLongest': WHATEVER THE INPUT: true; the input reads as it did. -/
def fnForwardLongestSpec : ChangeSpec := { name := "fnForwardLongest", fn := fun _ => fun
  | [d1, d2, d3] => { results := [.lit (.bool true)], args := [d1, d2, d3] }
  | _ => none }
def fnForwardLongestRow : OpenClaim := { program := "ytbolgikdadhaeaa", sum := "aa70712aa9ca02ae5a9f686ea4eb15a580aa92999ebd489fbb5273e619af6c0e", func := "loop.example/pub-g01452/laws.FnForwardLongest", spec := "fnForwardLongest", unfollowed := true, recurses := true, apart := false }
def FnForwardLongestSaid : Prop := fnForwardLongestRow.holds Try.pinned (OpenSpec.ofChange fnForwardLongestSpec)

/-- ITS FALSE NEIGHBOUR: 'it returns false'. Refute it at one input. -/
def fnForwardLongestWrong : ChangeSpec := { name := "fnForwardLongest", fn := fun _ => fun
  | [d1, d2, d3] => { results := [.lit (.bool false)], args := [d1, d2, d3] }
  | _ => none }
def FnForwardLongestWrongFalsely : Prop := fnForwardLongestRow.holds Try.pinned (OpenSpec.ofChange fnForwardLongestWrong)

/-- 'laws.FnBytesAlike': WHATEVER THE INPUT: true; the input reads as it did. -/
def fnBytesAlikeSpec : ChangeSpec := { name := "fnBytesAlike", fn := fun _ => fun
  | [d1, d2] => { results := [.lit (.bool true)], args := [d1, d2] }
  | _ => none }
def fnBytesAlikeRow : OpenClaim := { program := "ytbolgikdadhaeaa", sum := "aa70712aa9ca02ae5a9f686ea4eb15a580aa92999ebd489fbb5273e619af6c0e", func := "loop.example/pub-g01452/laws.FnBytesAlike", spec := "fnBytesAlike", inPlace := ["internal/reflectlite.ValueOf", "internal/reflectlite.Swapper", "(internal/reflectlite.Value).Len"], unfollowed := true, recurses := true, apart := false }
def FnBytesAlikeSaid : Prop := fnBytesAlikeRow.holds Try.pinned (OpenSpec.ofChange fnBytesAlikeSpec)

/-- ITS FALSE NEIGHBOUR: 'it returns false'. Refute it at one input. -/
def fnBytesAlikeWrong : ChangeSpec := { name := "fnBytesAlike", fn := fun _ => fun
  | [d1, d2] => { results := [.lit (.bool false)], args := [d1, d2] }
  | _ => none }
def FnBytesAlikeWrongFalsely : Prop := fnBytesAlikeRow.holds Try.pinned (OpenSpec.ofChange fnBytesAlikeWrong)

/-- 'laws.FnBytesApart': WHATEVER THE INPUT: true; the input reads as it did. -/
def fnBytesApartSpec : ChangeSpec := { name := "fnBytesApart", fn := fun _ => fun
  | [d1, d2] => { results := [.lit (.bool true)], args := [d1, d2] }
  | _ => none }
def fnBytesApartRow : OpenClaim := { program := "ytbolgikdadhaeaa", sum := "aa70712aa9ca02ae5a9f686ea4eb15a580aa92999ebd489fbb5273e619af6c0e", func := "loop.example/pub-g01452/laws.FnBytesApart", spec := "fnBytesApart", inPlace := ["internal/reflectlite.ValueOf", "internal/reflectlite.Swapper", "(internal/reflectlite.Value).Len"], unfollowed := true, recurses := true, apart := false }
def FnBytesApartSaid : Prop := fnBytesApartRow.holds Try.pinned (OpenSpec.ofChange fnBytesApartSpec)

/-- ITS FALSE NEIGHBOUR: 'it returns false'. Refute it at one input. -/
def fnBytesApartWrong : ChangeSpec := { name := "fnBytesApart", fn := fun _ => fun
  | [d1, d2] => { results := [.lit (.bool false)], args := [d1, d2] }
  | _ => none }
def FnBytesApartWrongFalsely : Prop := fnBytesApartRow.holds Try.pinned (OpenSpec.ofChange fnBytesApartWrong)

/-- 'laws.FnBytesLead': WHATEVER THE INPUT: true; the input reads as it did. -/
def fnBytesLeadSpec : ChangeSpec := { name := "fnBytesLead", fn := fun _ => fun
  | [d1, d2] => { results := [.lit (.bool true)], args := [d1, d2] }
  | _ => none }
def fnBytesLeadRow : OpenClaim := { program := "ytbolgikdadhaeaa", sum := "aa70712aa9ca02ae5a9f686ea4eb15a580aa92999ebd489fbb5273e619af6c0e", func := "loop.example/pub-g01452/laws.FnBytesLead", spec := "fnBytesLead", inPlace := ["internal/reflectlite.ValueOf", "internal/reflectlite.Swapper", "(internal/reflectlite.Value).Len"], unfollowed := true, recurses := true, apart := false }
def FnBytesLeadSaid : Prop := fnBytesLeadRow.holds Try.pinned (OpenSpec.ofChange fnBytesLeadSpec)

/-- ITS FALSE NEIGHBOUR: 'it returns false'. Refute it at one input. -/
def fnBytesLeadWrong : ChangeSpec := { name := "fnBytesLead", fn := fun _ => fun
  | [d1, d2] => { results := [.lit (.bool false)], args := [d1, d2] }
  | _ => none }
def FnBytesLeadWrongFalsely : Prop := fnBytesLeadRow.holds Try.pinned (OpenSpec.ofChange fnBytesLeadWrong)

/-- 'laws.FnBytesLongest': WHATEVER THE INPUT: true; the input reads as it did. -/
def fnBytesLongestSpec : ChangeSpec := { name := "fnBytesLongest", fn := fun _ => fun
  | [d1, d2] => { results := [.lit (.bool true)], args := [d1, d2] }
  | _ => none }
def fnBytesLongestRow : OpenClaim := { program := "ytbolgikdadhaeaa", sum := "aa70712aa9ca02ae5a9f686ea4eb15a580aa92999ebd489fbb5273e619af6c0e", func := "loop.example/pub-g01452/laws.FnBytesLongest", spec := "fnBytesLongest", inPlace := ["internal/reflectlite.ValueOf", "internal/reflectlite.Swapper", "(internal/reflectlite.Value).Len"], unfollowed := true, recurses := true, apart := false }
def FnBytesLongestSaid : Prop := fnBytesLongestRow.holds Try.pinned (OpenSpec.ofChange fnBytesLongestSpec)

/-- ITS FALSE NEIGHBOUR: 'it returns false'. Refute it at one input. -/
def fnBytesLongestWrong : ChangeSpec := { name := "fnBytesLongest", fn := fun _ => fun
  | [d1, d2] => { results := [.lit (.bool false)], args := [d1, d2] }
  | _ => none }
def FnBytesLongestWrongFalsely : Prop := fnBytesLongestRow.holds Try.pinned (OpenSpec.ofChange fnBytesLongestWrong)

/-- 'laws.FnTwoSidedLead': WHATEVER THE INPUT: true; the input reads as it did. -/
def fnTwoSidedLeadSpec : ChangeSpec := { name := "fnTwoSidedLead", fn := fun _ => fun
  | [d1, d2, d3] => { results := [.lit (.bool true)], args := [d1, d2, d3] }
  | _ => none }
def fnTwoSidedLeadRow : OpenClaim := { program := "ytbolgikdadhaeaa", sum := "aa70712aa9ca02ae5a9f686ea4eb15a580aa92999ebd489fbb5273e619af6c0e", func := "loop.example/pub-g01452/laws.FnTwoSidedLead", spec := "fnTwoSidedLead", inPlace := ["internal/reflectlite.ValueOf", "internal/reflectlite.Swapper", "(internal/reflectlite.Value).Len"], unfollowed := true, recurses := true, apart := false }
def FnTwoSidedLeadSaid : Prop := fnTwoSidedLeadRow.holds Try.pinned (OpenSpec.ofChange fnTwoSidedLeadSpec)

/-- ITS FALSE NEIGHBOUR: 'it returns false'. Refute it at one input. -/
def fnTwoSidedLeadWrong : ChangeSpec := { name := "fnTwoSidedLead", fn := fun _ => fun
  | [d1, d2, d3] => { results := [.lit (.bool false)], args := [d1, d2, d3] }
  | _ => none }
def FnTwoSidedLeadWrongFalsely : Prop := fnTwoSidedLeadRow.holds Try.pinned (OpenSpec.ofChange fnTwoSidedLeadWrong)

/-- 'laws.FnTwoSidedLongest': WHATEVER THE INPUT: true; the input reads as it did. -/
def fnTwoSidedLongestSpec : ChangeSpec := { name := "fnTwoSidedLongest", fn := fun _ => fun
  | [d1, d2, d3] => { results := [.lit (.bool true)], args := [d1, d2, d3] }
  | _ => none }
def fnTwoSidedLongestRow : OpenClaim := { program := "ytbolgikdadhaeaa", sum := "aa70712aa9ca02ae5a9f686ea4eb15a580aa92999ebd489fbb5273e619af6c0e", func := "loop.example/pub-g01452/laws.FnTwoSidedLongest", spec := "fnTwoSidedLongest", inPlace := ["internal/reflectlite.ValueOf", "internal/reflectlite.Swapper", "(internal/reflectlite.Value).Len"], unfollowed := true, recurses := true, apart := false }
def FnTwoSidedLongestSaid : Prop := fnTwoSidedLongestRow.holds Try.pinned (OpenSpec.ofChange fnTwoSidedLongestSpec)

/-- ITS FALSE NEIGHBOUR: 'it returns false'. Refute it at one input. -/
def fnTwoSidedLongestWrong : ChangeSpec := { name := "fnTwoSidedLongest", fn := fun _ => fun
  | [d1, d2, d3] => { results := [.lit (.bool false)], args := [d1, d2, d3] }
  | _ => none }
def FnTwoSidedLongestWrongFalsely : Prop := fnTwoSidedLongestRow.holds Try.pinned (OpenSpec.ofChange fnTwoSidedLongestWrong)

/-- 'laws.FnLinesAlike': WHATEVER THE INPUT: true; the input reads as it did. -/
def fnLinesAlikeSpec : ChangeSpec := { name := "fnLinesAlike", fn := fun _ => fun
  | [d1, d2] => { results := [.lit (.bool true)], args := [d1, d2] }
  | _ => none }
def fnLinesAlikeRow : OpenClaim := { program := "ytbolgikdadhaeaa", sum := "aa70712aa9ca02ae5a9f686ea4eb15a580aa92999ebd489fbb5273e619af6c0e", func := "loop.example/pub-g01452/laws.FnLinesAlike", spec := "fnLinesAlike", inPlace := ["internal/reflectlite.ValueOf", "internal/reflectlite.Swapper", "(internal/reflectlite.Value).Len"], unfollowed := true, recurses := true, apart := false }
def FnLinesAlikeSaid : Prop := fnLinesAlikeRow.holds Try.pinned (OpenSpec.ofChange fnLinesAlikeSpec)

/-- ITS FALSE NEIGHBOUR: 'it returns false'. Refute it at one input. -/
def fnLinesAlikeWrong : ChangeSpec := { name := "fnLinesAlike", fn := fun _ => fun
  | [d1, d2] => { results := [.lit (.bool false)], args := [d1, d2] }
  | _ => none }
def FnLinesAlikeWrongFalsely : Prop := fnLinesAlikeRow.holds Try.pinned (OpenSpec.ofChange fnLinesAlikeWrong)

/-- 'laws.FnLinesLead': WHATEVER THE INPUT: true; the input reads as it did. -/
def fnLinesLeadSpec : ChangeSpec := { name := "fnLinesLead", fn := fun _ => fun
  | [d1, d2] => { results := [.lit (.bool true)], args := [d1, d2] }
  | _ => none }
def fnLinesLeadRow : OpenClaim := { program := "ytbolgikdadhaeaa", sum := "aa70712aa9ca02ae5a9f686ea4eb15a580aa92999ebd489fbb5273e619af6c0e", func := "loop.example/pub-g01452/laws.FnLinesLead", spec := "fnLinesLead", inPlace := ["internal/reflectlite.ValueOf", "internal/reflectlite.Swapper", "(internal/reflectlite.Value).Len"], unfollowed := true, recurses := true, apart := false }
def FnLinesLeadSaid : Prop := fnLinesLeadRow.holds Try.pinned (OpenSpec.ofChange fnLinesLeadSpec)

/-- ITS FALSE NEIGHBOUR: 'it returns false'. Refute it at one input. -/
def fnLinesLeadWrong : ChangeSpec := { name := "fnLinesLead", fn := fun _ => fun
  | [d1, d2] => { results := [.lit (.bool false)], args := [d1, d2] }
  | _ => none }
def FnLinesLeadWrongFalsely : Prop := fnLinesLeadRow.holds Try.pinned (OpenSpec.ofChange fnLinesLeadWrong)

/-- 'laws.FnLinesLongest': WHATEVER THE INPUT: true; the input reads as it did. -/
def fnLinesLongestSpec : ChangeSpec := { name := "fnLinesLongest", fn := fun _ => fun
  | [d1, d2] => { results := [.lit (.bool true)], args := [d1, d2] }
  | _ => none }
def fnLinesLongestRow : OpenClaim := { program := "ytbolgikdadhaeaa", sum := "aa70712aa9ca02ae5a9f686ea4eb15a580aa92999ebd489fbb5273e619af6c0e", func := "loop.example/pub-g01452/laws.FnLinesLongest", spec := "fnLinesLongest", inPlace := ["internal/reflectlite.ValueOf", "internal/reflectlite.Swapper", "(internal/reflectlite.Value).Len"], unfollowed := true, recurses := true, apart := false }
def FnLinesLongestSaid : Prop := fnLinesLongestRow.holds Try.pinned (OpenSpec.ofChange fnLinesLongestSpec)

/-- ITS FALSE NEIGHBOUR: 'it returns false'. Refute it at one input. -/
def fnLinesLongestWrong : ChangeSpec := { name := "fnLinesLongest", fn := fun _ => fun
  | [d1, d2] => { results := [.lit (.bool false)], args := [d1, d2] }
  | _ => none }
def FnLinesLongestWrongFalsely : Prop := fnLinesLongestRow.holds Try.pinned (OpenSpec.ofChange fnLinesLongestWrong)

/-- 'laws.FnRunesAlike': WHATEVER THE INPUT: true; the input reads as it did. -/
def fnRunesAlikeSpec : ChangeSpec := { name := "fnRunesAlike", fn := fun _ => fun
  | [d1, d2] => { results := [.lit (.bool true)], args := [d1, d2] }
  | _ => none }
def fnRunesAlikeRow : OpenClaim := { program := "ytbolgikdadhaeaa", sum := "aa70712aa9ca02ae5a9f686ea4eb15a580aa92999ebd489fbb5273e619af6c0e", func := "loop.example/pub-g01452/laws.FnRunesAlike", spec := "fnRunesAlike", inPlace := ["internal/reflectlite.ValueOf", "internal/reflectlite.Swapper", "(internal/reflectlite.Value).Len"], unfollowed := true, recurses := true, apart := false }
def FnRunesAlikeSaid : Prop := fnRunesAlikeRow.holds Try.pinned (OpenSpec.ofChange fnRunesAlikeSpec)

/-- ITS FALSE NEIGHBOUR: 'it returns false'. Refute it at one input. -/
def fnRunesAlikeWrong : ChangeSpec := { name := "fnRunesAlike", fn := fun _ => fun
  | [d1, d2] => { results := [.lit (.bool false)], args := [d1, d2] }
  | _ => none }
def FnRunesAlikeWrongFalsely : Prop := fnRunesAlikeRow.holds Try.pinned (OpenSpec.ofChange fnRunesAlikeWrong)

/-- 'laws.FnRunesLead': WHATEVER THE INPUT: true; the input reads as it did. -/
def fnRunesLeadSpec : ChangeSpec := { name := "fnRunesLead", fn := fun _ => fun
  | [d1, d2] => { results := [.lit (.bool true)], args := [d1, d2] }
  | _ => none }
def fnRunesLeadRow : OpenClaim := { program := "ytbolgikdadhaeaa", sum := "aa70712aa9ca02ae5a9f686ea4eb15a580aa92999ebd489fbb5273e619af6c0e", func := "loop.example/pub-g01452/laws.FnRunesLead", spec := "fnRunesLead", inPlace := ["internal/reflectlite.ValueOf", "internal/reflectlite.Swapper", "(internal/reflectlite.Value).Len"], unfollowed := true, recurses := true, apart := false }
def FnRunesLeadSaid : Prop := fnRunesLeadRow.holds Try.pinned (OpenSpec.ofChange fnRunesLeadSpec)

/-- ITS FALSE NEIGHBOUR: 'it returns false'. Refute it at one input. -/
def fnRunesLeadWrong : ChangeSpec := { name := "fnRunesLead", fn := fun _ => fun
  | [d1, d2] => { results := [.lit (.bool false)], args := [d1, d2] }
  | _ => none }
def FnRunesLeadWrongFalsely : Prop := fnRunesLeadRow.holds Try.pinned (OpenSpec.ofChange fnRunesLeadWrong)

/-- 'laws.FnRunesLongest': WHATEVER THE INPUT: true; the input reads as it did. -/
def fnRunesLongestSpec : ChangeSpec := { name := "fnRunesLongest", fn := fun _ => fun
  | [d1, d2] => { results := [.lit (.bool true)], args := [d1, d2] }
  | _ => none }
def fnRunesLongestRow : OpenClaim := { program := "ytbolgikdadhaeaa", sum := "aa70712aa9ca02ae5a9f686ea4eb15a580aa92999ebd489fbb5273e619af6c0e", func := "loop.example/pub-g01452/laws.FnRunesLongest", spec := "fnRunesLongest", inPlace := ["internal/reflectlite.ValueOf", "internal/reflectlite.Swapper", "(internal/reflectlite.Value).Len"], unfollowed := true, recurses := true, apart := false }
def FnRunesLongestSaid : Prop := fnRunesLongestRow.holds Try.pinned (OpenSpec.ofChange fnRunesLongestSpec)

/-- ITS FALSE NEIGHBOUR: 'it returns false'. Refute it at one input. -/
def fnRunesLongestWrong : ChangeSpec := { name := "fnRunesLongest", fn := fun _ => fun
  | [d1, d2] => { results := [.lit (.bool false)], args := [d1, d2] }
  | _ => none }
def FnRunesLongestWrongFalsely : Prop := fnRunesLongestRow.holds Try.pinned (OpenSpec.ofChange fnRunesLongestWrong)

/- THE SECOND FORM. 'bulk': how many values and letters a reading holds, each counted each time it is reached (what is shared counts as often as it is met; a slice's spare places count too). A statement '..UptoSaid' is the law's where the arguments, and the package variables that the reading takes, are together of bulk at most 1048576: NARROWER than '..Said'. Prove '..Said' where nothing that the law and all that it calls make is longer than what came in: it says more and counts as full. Else prove '..UptoSaid'. A law counts once. -/
mutual
def uptoBulk {H : Type} : DataW H → Nat
  | .lit (.string bytes) => bytes.length + 1
  | .lit _ => 1
  | .nil => 1
  | .ptr d => uptoBulk d + 1
  | .slice elems spare => uptoBulkAll elems + uptoBulkAll spare + 1
  | .agg parts => uptoBulkAll parts + 1
  | .iface _ d => uptoBulk d + 1
  | .map entries => uptoBulkEntries entries + 1
  | .held _ => 1
def uptoBulkAll {H : Type} : List (DataW H) → Nat
  | [] => 0
  | d :: r => uptoBulk d + uptoBulkAll r
def uptoBulkEntries {H : Type} : List (Lit × DataW H) → Nat
  | [] => 0
  | x :: r => uptoBulkEntry x + uptoBulkEntries r
def uptoBulkEntry {H : Type} : Lit × DataW H → Nat
  | (.string bytes, d) => bytes.length + uptoBulk d + 1
  | (_, d) => uptoBulk d + 1
 end
def uptoSmall : (H : Type) → List (DataW H) → Bool := fun _ ds => decide (uptoBulkAll ds ≤ 1048576)
def OpenSpec.upto (s : _root_.Go.ChangeSpec) : _root_.Go.OpenSpec := { _root_.Go.OpenSpec.ofChange s with cond := some uptoSmall }

/-- 'laws.FnForwardLead', WHERE WHAT IT READS IS OF BULK AT MOST 1048576: true; the input reads as it did. -/
def fnForwardLeadUptoRow : OpenClaim := { program := "ytbolgikdadhaeaa", sum := "aa70712aa9ca02ae5a9f686ea4eb15a580aa92999ebd489fbb5273e619af6c0e", func := "loop.example/pub-g01452/laws.FnForwardLead", spec := "fnForwardLead", unfollowed := true, recurses := true, apart := false, narrowed := true }
def FnForwardLeadUptoSaid : Prop := fnForwardLeadUptoRow.holds Try.pinned (OpenSpec.upto fnForwardLeadSpec)

/-- 'laws.FnForwardLongest', WHERE WHAT IT READS IS OF BULK AT MOST 1048576: true; the input reads as it did. -/
def fnForwardLongestUptoRow : OpenClaim := { program := "ytbolgikdadhaeaa", sum := "aa70712aa9ca02ae5a9f686ea4eb15a580aa92999ebd489fbb5273e619af6c0e", func := "loop.example/pub-g01452/laws.FnForwardLongest", spec := "fnForwardLongest", unfollowed := true, recurses := true, apart := false, narrowed := true }
def FnForwardLongestUptoSaid : Prop := fnForwardLongestUptoRow.holds Try.pinned (OpenSpec.upto fnForwardLongestSpec)

/-- 'laws.FnBytesAlike', WHERE WHAT IT READS IS OF BULK AT MOST 1048576: true; the input reads as it did. -/
def fnBytesAlikeUptoRow : OpenClaim := { program := "ytbolgikdadhaeaa", sum := "aa70712aa9ca02ae5a9f686ea4eb15a580aa92999ebd489fbb5273e619af6c0e", func := "loop.example/pub-g01452/laws.FnBytesAlike", spec := "fnBytesAlike", inPlace := ["internal/reflectlite.ValueOf", "internal/reflectlite.Swapper", "(internal/reflectlite.Value).Len"], unfollowed := true, recurses := true, apart := false, narrowed := true }
def FnBytesAlikeUptoSaid : Prop := fnBytesAlikeUptoRow.holds Try.pinned (OpenSpec.upto fnBytesAlikeSpec)

/-- 'laws.FnBytesApart', WHERE WHAT IT READS IS OF BULK AT MOST 1048576: true; the input reads as it did. -/
def fnBytesApartUptoRow : OpenClaim := { program := "ytbolgikdadhaeaa", sum := "aa70712aa9ca02ae5a9f686ea4eb15a580aa92999ebd489fbb5273e619af6c0e", func := "loop.example/pub-g01452/laws.FnBytesApart", spec := "fnBytesApart", inPlace := ["internal/reflectlite.ValueOf", "internal/reflectlite.Swapper", "(internal/reflectlite.Value).Len"], unfollowed := true, recurses := true, apart := false, narrowed := true }
def FnBytesApartUptoSaid : Prop := fnBytesApartUptoRow.holds Try.pinned (OpenSpec.upto fnBytesApartSpec)

/-- 'laws.FnBytesLead', WHERE WHAT IT READS IS OF BULK AT MOST 1048576: true; the input reads as it did. -/
def fnBytesLeadUptoRow : OpenClaim := { program := "ytbolgikdadhaeaa", sum := "aa70712aa9ca02ae5a9f686ea4eb15a580aa92999ebd489fbb5273e619af6c0e", func := "loop.example/pub-g01452/laws.FnBytesLead", spec := "fnBytesLead", inPlace := ["internal/reflectlite.ValueOf", "internal/reflectlite.Swapper", "(internal/reflectlite.Value).Len"], unfollowed := true, recurses := true, apart := false, narrowed := true }
def FnBytesLeadUptoSaid : Prop := fnBytesLeadUptoRow.holds Try.pinned (OpenSpec.upto fnBytesLeadSpec)

/-- 'laws.FnBytesLongest', WHERE WHAT IT READS IS OF BULK AT MOST 1048576: true; the input reads as it did. -/
def fnBytesLongestUptoRow : OpenClaim := { program := "ytbolgikdadhaeaa", sum := "aa70712aa9ca02ae5a9f686ea4eb15a580aa92999ebd489fbb5273e619af6c0e", func := "loop.example/pub-g01452/laws.FnBytesLongest", spec := "fnBytesLongest", inPlace := ["internal/reflectlite.ValueOf", "internal/reflectlite.Swapper", "(internal/reflectlite.Value).Len"], unfollowed := true, recurses := true, apart := false, narrowed := true }
def FnBytesLongestUptoSaid : Prop := fnBytesLongestUptoRow.holds Try.pinned (OpenSpec.upto fnBytesLongestSpec)

/-- 'laws.FnTwoSidedLead', WHERE WHAT IT READS IS OF BULK AT MOST 1048576: true; the input reads as it did. -/
def fnTwoSidedLeadUptoRow : OpenClaim := { program := "ytbolgikdadhaeaa", sum := "aa70712aa9ca02ae5a9f686ea4eb15a580aa92999ebd489fbb5273e619af6c0e", func := "loop.example/pub-g01452/laws.FnTwoSidedLead", spec := "fnTwoSidedLead", inPlace := ["internal/reflectlite.ValueOf", "internal/reflectlite.Swapper", "(internal/reflectlite.Value).Len"], unfollowed := true, recurses := true, apart := false, narrowed := true }
def FnTwoSidedLeadUptoSaid : Prop := fnTwoSidedLeadUptoRow.holds Try.pinned (OpenSpec.upto fnTwoSidedLeadSpec)

/-- 'laws.FnTwoSidedLongest', WHERE WHAT IT READS IS OF BULK AT MOST 1048576: true; the input reads as it did. -/
def fnTwoSidedLongestUptoRow : OpenClaim := { program := "ytbolgikdadhaeaa", sum := "aa70712aa9ca02ae5a9f686ea4eb15a580aa92999ebd489fbb5273e619af6c0e", func := "loop.example/pub-g01452/laws.FnTwoSidedLongest", spec := "fnTwoSidedLongest", inPlace := ["internal/reflectlite.ValueOf", "internal/reflectlite.Swapper", "(internal/reflectlite.Value).Len"], unfollowed := true, recurses := true, apart := false, narrowed := true }
def FnTwoSidedLongestUptoSaid : Prop := fnTwoSidedLongestUptoRow.holds Try.pinned (OpenSpec.upto fnTwoSidedLongestSpec)

/-- 'laws.FnLinesAlike', WHERE WHAT IT READS IS OF BULK AT MOST 1048576: true; the input reads as it did. -/
def fnLinesAlikeUptoRow : OpenClaim := { program := "ytbolgikdadhaeaa", sum := "aa70712aa9ca02ae5a9f686ea4eb15a580aa92999ebd489fbb5273e619af6c0e", func := "loop.example/pub-g01452/laws.FnLinesAlike", spec := "fnLinesAlike", inPlace := ["internal/reflectlite.ValueOf", "internal/reflectlite.Swapper", "(internal/reflectlite.Value).Len"], unfollowed := true, recurses := true, apart := false, narrowed := true }
def FnLinesAlikeUptoSaid : Prop := fnLinesAlikeUptoRow.holds Try.pinned (OpenSpec.upto fnLinesAlikeSpec)

/-- 'laws.FnLinesLead', WHERE WHAT IT READS IS OF BULK AT MOST 1048576: true; the input reads as it did. -/
def fnLinesLeadUptoRow : OpenClaim := { program := "ytbolgikdadhaeaa", sum := "aa70712aa9ca02ae5a9f686ea4eb15a580aa92999ebd489fbb5273e619af6c0e", func := "loop.example/pub-g01452/laws.FnLinesLead", spec := "fnLinesLead", inPlace := ["internal/reflectlite.ValueOf", "internal/reflectlite.Swapper", "(internal/reflectlite.Value).Len"], unfollowed := true, recurses := true, apart := false, narrowed := true }
def FnLinesLeadUptoSaid : Prop := fnLinesLeadUptoRow.holds Try.pinned (OpenSpec.upto fnLinesLeadSpec)

/-- 'laws.FnLinesLongest', WHERE WHAT IT READS IS OF BULK AT MOST 1048576: true; the input reads as it did. -/
def fnLinesLongestUptoRow : OpenClaim := { program := "ytbolgikdadhaeaa", sum := "aa70712aa9ca02ae5a9f686ea4eb15a580aa92999ebd489fbb5273e619af6c0e", func := "loop.example/pub-g01452/laws.FnLinesLongest", spec := "fnLinesLongest", inPlace := ["internal/reflectlite.ValueOf", "internal/reflectlite.Swapper", "(internal/reflectlite.Value).Len"], unfollowed := true, recurses := true, apart := false, narrowed := true }
def FnLinesLongestUptoSaid : Prop := fnLinesLongestUptoRow.holds Try.pinned (OpenSpec.upto fnLinesLongestSpec)

/-- 'laws.FnRunesAlike', WHERE WHAT IT READS IS OF BULK AT MOST 1048576: true; the input reads as it did. -/
def fnRunesAlikeUptoRow : OpenClaim := { program := "ytbolgikdadhaeaa", sum := "aa70712aa9ca02ae5a9f686ea4eb15a580aa92999ebd489fbb5273e619af6c0e", func := "loop.example/pub-g01452/laws.FnRunesAlike", spec := "fnRunesAlike", inPlace := ["internal/reflectlite.ValueOf", "internal/reflectlite.Swapper", "(internal/reflectlite.Value).Len"], unfollowed := true, recurses := true, apart := false, narrowed := true }
def FnRunesAlikeUptoSaid : Prop := fnRunesAlikeUptoRow.holds Try.pinned (OpenSpec.upto fnRunesAlikeSpec)

/-- 'laws.FnRunesLead', WHERE WHAT IT READS IS OF BULK AT MOST 1048576: true; the input reads as it did. -/
def fnRunesLeadUptoRow : OpenClaim := { program := "ytbolgikdadhaeaa", sum := "aa70712aa9ca02ae5a9f686ea4eb15a580aa92999ebd489fbb5273e619af6c0e", func := "loop.example/pub-g01452/laws.FnRunesLead", spec := "fnRunesLead", inPlace := ["internal/reflectlite.ValueOf", "internal/reflectlite.Swapper", "(internal/reflectlite.Value).Len"], unfollowed := true, recurses := true, apart := false, narrowed := true }
def FnRunesLeadUptoSaid : Prop := fnRunesLeadUptoRow.holds Try.pinned (OpenSpec.upto fnRunesLeadSpec)

/-- 'laws.FnRunesLongest', WHERE WHAT IT READS IS OF BULK AT MOST 1048576: true; the input reads as it did. -/
def fnRunesLongestUptoRow : OpenClaim := { program := "ytbolgikdadhaeaa", sum := "aa70712aa9ca02ae5a9f686ea4eb15a580aa92999ebd489fbb5273e619af6c0e", func := "loop.example/pub-g01452/laws.FnRunesLongest", spec := "fnRunesLongest", inPlace := ["internal/reflectlite.ValueOf", "internal/reflectlite.Swapper", "(internal/reflectlite.Value).Len"], unfollowed := true, recurses := true, apart := false, narrowed := true }
def FnRunesLongestUptoSaid : Prop := fnRunesLongestUptoRow.holds Try.pinned (OpenSpec.upto fnRunesLongestSpec)

end Rows
end Go.Proofs.Ytbolgikdadhaeaa
