/-
  No cell of these rows narrows 'for every input' (looked for: loops, veiled, ifaces, maps, wideKeys, modest, calm, conditions, laid).
  DERIVED. THE GIVEN ROWS OF THIS SEAT. 7 by the template 'for every input the law returns true; each argument reads behind the call as it read before'; 0 by the template 'total and deterministic' (their statements: YtoceakjnkillkaaTotals.lean).
  GIVEN WITH THE SEED: the statements are not yours to turn. If you find one false, say at which input.
  Laid BY PROGRAM, IN A SANDBOX (cutbox-rows.mjs): the forced cells as the released guide's own fill.sh prints them over the translation 588eb01e30ea1906… (all of the seat's roots in one cut). By AI agents, Wed Nov 11 2026. No macro, syntax, notation, axiom, sorry.
-/
import Derived.Test.YtoceakjnkillkaaChecked
import GoSem.Claim
import GoSem.ClaimJoined
import GoSem.ClaimMapViews
import Derived.JoinedTies
import Derived.KernelRfl
namespace Go.Proofs.Ytoceakjnkillkaa
/- THE CELL 'sum', in the pinned program and in every row, IS THE sha256 OF THE DUMP (.gsa) THAT YtoceakjnkillkaaProg.lean LOADS. Nothing in Lean hashes anything: it is a label: what it is worth is what the hold of that sum in a sandbox is worth. -/
noncomputable def Try.pinned : Pinned := { name := "ytoceakjnkillkaa", sum := "588eb01e30ea19065476b509e0f8502988cf084a3d0d28e9cb37bcdd848e2c9b", checked := Try.checked }
namespace Rows
def none {H : Type} : Left H := { results := [], args := [] }

/-- 'laws.FnApplyInsertions': WHATEVER THE INPUT: true; the input reads as it did. -/
def fnApplyInsertionsSpec : ChangeSpec := { name := "fnApplyInsertions", fn := fun _ => fun
  | [d1, d2, d3] => { results := [.lit (.bool true)], args := [d1, d2, d3] }
  | _ => none }
def fnApplyInsertionsRow : OpenClaim := { program := "ytoceakjnkillkaa", sum := "588eb01e30ea19065476b509e0f8502988cf084a3d0d28e9cb37bcdd848e2c9b", func := "loop.example/pub-g01452/laws.FnApplyInsertions", spec := "fnApplyInsertions", unfollowed := true, recurses := true, apart := false }
def FnApplyInsertionsSaid : Prop := fnApplyInsertionsRow.holds Try.pinned (OpenSpec.ofChange fnApplyInsertionsSpec)

/-- ITS FALSE NEIGHBOUR: 'it returns false'. Refute it at one input. -/
def fnApplyInsertionsWrong : ChangeSpec := { name := "fnApplyInsertions", fn := fun _ => fun
  | [d1, d2, d3] => { results := [.lit (.bool false)], args := [d1, d2, d3] }
  | _ => none }
def FnApplyInsertionsWrongFalsely : Prop := fnApplyInsertionsRow.holds Try.pinned (OpenSpec.ofChange fnApplyInsertionsWrong)

/-- 'laws.FnApplyOne': WHATEVER THE INPUT: true; the input reads as it did. -/
def fnApplyOneSpec : ChangeSpec := { name := "fnApplyOne", fn := fun _ => fun
  | [d1, d2, d3, d4] => { results := [.lit (.bool true)], args := [d1, d2, d3, d4] }
  | _ => none }
def fnApplyOneRow : OpenClaim := { program := "ytoceakjnkillkaa", sum := "588eb01e30ea19065476b509e0f8502988cf084a3d0d28e9cb37bcdd848e2c9b", func := "loop.example/pub-g01452/laws.FnApplyOne", spec := "fnApplyOne", unfollowed := true, recurses := true, apart := false }
def FnApplyOneSaid : Prop := fnApplyOneRow.holds Try.pinned (OpenSpec.ofChange fnApplyOneSpec)

/-- ITS FALSE NEIGHBOUR: 'it returns false'. Refute it at one input. -/
def fnApplyOneWrong : ChangeSpec := { name := "fnApplyOne", fn := fun _ => fun
  | [d1, d2, d3, d4] => { results := [.lit (.bool false)], args := [d1, d2, d3, d4] }
  | _ => none }
def FnApplyOneWrongFalsely : Prop := fnApplyOneRow.holds Try.pinned (OpenSpec.ofChange fnApplyOneWrong)

/-- 'laws.FnApplyReference': WHATEVER THE INPUT: true; the input reads as it did. -/
def fnApplyReferenceSpec : ChangeSpec := { name := "fnApplyReference", fn := fun _ => fun
  | [d1, d2] => { results := [.lit (.bool true)], args := [d1, d2] }
  | _ => none }
def fnApplyReferenceRow : OpenClaim := { program := "ytoceakjnkillkaa", sum := "588eb01e30ea19065476b509e0f8502988cf084a3d0d28e9cb37bcdd848e2c9b", func := "loop.example/pub-g01452/laws.FnApplyReference", spec := "fnApplyReference", unfollowed := true, recurses := true, apart := false }
def FnApplyReferenceSaid : Prop := fnApplyReferenceRow.holds Try.pinned (OpenSpec.ofChange fnApplyReferenceSpec)

/-- ITS FALSE NEIGHBOUR: 'it returns false'. Refute it at one input. -/
def fnApplyReferenceWrong : ChangeSpec := { name := "fnApplyReference", fn := fun _ => fun
  | [d1, d2] => { results := [.lit (.bool false)], args := [d1, d2] }
  | _ => none }
def FnApplyReferenceWrongFalsely : Prop := fnApplyReferenceRow.holds Try.pinned (OpenSpec.ofChange fnApplyReferenceWrong)

/-- 'laws.FnApplyBytesReference': WHATEVER THE INPUT: true; the input reads as it did. -/
def fnApplyBytesReferenceSpec : ChangeSpec := { name := "fnApplyBytesReference", fn := fun _ => fun
  | [d1, d2] => { results := [.lit (.bool true)], args := [d1, d2] }
  | _ => none }
def fnApplyBytesReferenceRow : OpenClaim := { program := "ytoceakjnkillkaa", sum := "588eb01e30ea19065476b509e0f8502988cf084a3d0d28e9cb37bcdd848e2c9b", func := "loop.example/pub-g01452/laws.FnApplyBytesReference", spec := "fnApplyBytesReference", unfollowed := true, recurses := true, apart := false }
def FnApplyBytesReferenceSaid : Prop := fnApplyBytesReferenceRow.holds Try.pinned (OpenSpec.ofChange fnApplyBytesReferenceSpec)

/-- ITS FALSE NEIGHBOUR: 'it returns false'. Refute it at one input. -/
def fnApplyBytesReferenceWrong : ChangeSpec := { name := "fnApplyBytesReference", fn := fun _ => fun
  | [d1, d2] => { results := [.lit (.bool false)], args := [d1, d2] }
  | _ => none }
def FnApplyBytesReferenceWrongFalsely : Prop := fnApplyBytesReferenceRow.holds Try.pinned (OpenSpec.ofChange fnApplyBytesReferenceWrong)

/-- 'laws.FnApplySorted': WHATEVER THE INPUT: true; the input reads as it did. -/
def fnApplySortedSpec : ChangeSpec := { name := "fnApplySorted", fn := fun _ => fun
  | [d1, d2] => { results := [.lit (.bool true)], args := [d1, d2] }
  | _ => none }
def fnApplySortedRow : OpenClaim := { program := "ytoceakjnkillkaa", sum := "588eb01e30ea19065476b509e0f8502988cf084a3d0d28e9cb37bcdd848e2c9b", func := "loop.example/pub-g01452/laws.FnApplySorted", spec := "fnApplySorted", unfollowed := true, recurses := true, apart := false }
def FnApplySortedSaid : Prop := fnApplySortedRow.holds Try.pinned (OpenSpec.ofChange fnApplySortedSpec)

/-- ITS FALSE NEIGHBOUR: 'it returns false'. Refute it at one input. -/
def fnApplySortedWrong : ChangeSpec := { name := "fnApplySorted", fn := fun _ => fun
  | [d1, d2] => { results := [.lit (.bool false)], args := [d1, d2] }
  | _ => none }
def FnApplySortedWrongFalsely : Prop := fnApplySortedRow.holds Try.pinned (OpenSpec.ofChange fnApplySortedWrong)

/-- 'laws.FnMergeInsertions': WHATEVER THE INPUT: true; the input reads as it did. -/
def fnMergeInsertionsSpec : ChangeSpec := { name := "fnMergeInsertions", fn := fun _ => fun
  | [d1, d2, d3, d4] => { results := [.lit (.bool true)], args := [d1, d2, d3, d4] }
  | _ => none }
def fnMergeInsertionsRow : OpenClaim := { program := "ytoceakjnkillkaa", sum := "588eb01e30ea19065476b509e0f8502988cf084a3d0d28e9cb37bcdd848e2c9b", func := "loop.example/pub-g01452/laws.FnMergeInsertions", spec := "fnMergeInsertions", unfollowed := true, recurses := true, apart := false }
def FnMergeInsertionsSaid : Prop := fnMergeInsertionsRow.holds Try.pinned (OpenSpec.ofChange fnMergeInsertionsSpec)

/-- ITS FALSE NEIGHBOUR: 'it returns false'. Refute it at one input. -/
def fnMergeInsertionsWrong : ChangeSpec := { name := "fnMergeInsertions", fn := fun _ => fun
  | [d1, d2, d3, d4] => { results := [.lit (.bool false)], args := [d1, d2, d3, d4] }
  | _ => none }
def FnMergeInsertionsWrongFalsely : Prop := fnMergeInsertionsRow.holds Try.pinned (OpenSpec.ofChange fnMergeInsertionsWrong)

/-- 'laws.FnLineEdits': WHATEVER THE INPUT: true; the input reads as it did. -/
def fnLineEditsSpec : ChangeSpec := { name := "fnLineEdits", fn := fun _ => fun
  | [d1, d2] => { results := [.lit (.bool true)], args := [d1, d2] }
  | _ => none }
def fnLineEditsRow : OpenClaim := { program := "ytoceakjnkillkaa", sum := "588eb01e30ea19065476b509e0f8502988cf084a3d0d28e9cb37bcdd848e2c9b", func := "loop.example/pub-g01452/laws.FnLineEdits", spec := "fnLineEdits", inPlace := ["internal/bytealg.IndexByteString"], unfollowed := true, recurses := true, apart := false }
def FnLineEditsSaid : Prop := fnLineEditsRow.holds Try.pinned (OpenSpec.ofChange fnLineEditsSpec)

/-- ITS FALSE NEIGHBOUR: 'it returns false'. Refute it at one input. -/
def fnLineEditsWrong : ChangeSpec := { name := "fnLineEdits", fn := fun _ => fun
  | [d1, d2] => { results := [.lit (.bool false)], args := [d1, d2] }
  | _ => none }
def FnLineEditsWrongFalsely : Prop := fnLineEditsRow.holds Try.pinned (OpenSpec.ofChange fnLineEditsWrong)

/- THE SECOND FORM. 'bulk': how many values and letters a reading holds, each counted each time it is reached (what is shared counts as often as it is met; a slice's spare places count too). A statement '..UptoSaid' is the law's where the arguments, and the package variables that the reading takes, are together of bulk at most 1048576: NARROWER than '..Said'. Prove '..Said' where nothing that the law and all that it calls make is longer than what came in: it says more and counts as full. Else prove '..UptoSaid'. A law counts once. -/
mutual
def uptoBulk {H : Type} : DataW H → Nat
  | .lit (.string bytes) => bytes.length + 1
  | .lit _ => 1
  | .nil => 1
  | .ptr d => uptoBulk d + 1
  | .slice elems spare => uptoBulkAll elems + uptoBulkAll spare + 1
  | .agg parts => uptoBulkAll parts + 1
  | .iface _ d => uptoBulk d + 1
  | .map entries => uptoBulkEntries entries + 1
  | .held _ => 1
def uptoBulkAll {H : Type} : List (DataW H) → Nat
  | [] => 0
  | d :: r => uptoBulk d + uptoBulkAll r
def uptoBulkEntries {H : Type} : List (Lit × DataW H) → Nat
  | [] => 0
  | x :: r => uptoBulkEntry x + uptoBulkEntries r
def uptoBulkEntry {H : Type} : Lit × DataW H → Nat
  | (.string bytes, d) => bytes.length + uptoBulk d + 1
  | (_, d) => uptoBulk d + 1
 end
def uptoSmall : (H : Type) → List (DataW H) → Bool := fun _ ds => decide (uptoBulkAll ds ≤ 1048576)
def OpenSpec.upto (s : _root_.Go.ChangeSpec) : _root_.Go.OpenSpec := { _root_.Go.OpenSpec.ofChange s with cond := some uptoSmall }

/-- 'laws.FnApplyInsertions', WHERE WHAT IT READS IS OF BULK AT MOST 1048576: true; the input reads as it did. -/
def fnApplyInsertionsUptoRow : OpenClaim := { program := "ytoceakjnkillkaa", sum := "588eb01e30ea19065476b509e0f8502988cf084a3d0d28e9cb37bcdd848e2c9b", func := "loop.example/pub-g01452/laws.FnApplyInsertions", spec := "fnApplyInsertions", unfollowed := true, recurses := true, apart := false, narrowed := true }
def FnApplyInsertionsUptoSaid : Prop := fnApplyInsertionsUptoRow.holds Try.pinned (OpenSpec.upto fnApplyInsertionsSpec)

/-- 'laws.FnApplyOne', WHERE WHAT IT READS IS OF BULK AT MOST 1048576: true; the input reads as it did. -/
def fnApplyOneUptoRow : OpenClaim := { program := "ytoceakjnkillkaa", sum := "588eb01e30ea19065476b509e0f8502988cf084a3d0d28e9cb37bcdd848e2c9b", func := "loop.example/pub-g01452/laws.FnApplyOne", spec := "fnApplyOne", unfollowed := true, recurses := true, apart := false, narrowed := true }
def FnApplyOneUptoSaid : Prop := fnApplyOneUptoRow.holds Try.pinned (OpenSpec.upto fnApplyOneSpec)

/-- 'laws.FnApplyReference', WHERE WHAT IT READS IS OF BULK AT MOST 1048576: true; the input reads as it did. -/
def fnApplyReferenceUptoRow : OpenClaim := { program := "ytoceakjnkillkaa", sum := "588eb01e30ea19065476b509e0f8502988cf084a3d0d28e9cb37bcdd848e2c9b", func := "loop.example/pub-g01452/laws.FnApplyReference", spec := "fnApplyReference", unfollowed := true, recurses := true, apart := false, narrowed := true }
def FnApplyReferenceUptoSaid : Prop := fnApplyReferenceUptoRow.holds Try.pinned (OpenSpec.upto fnApplyReferenceSpec)

/-- 'laws.FnApplyBytesReference', WHERE WHAT IT READS IS OF BULK AT MOST 1048576: true; the input reads as it did. -/
def fnApplyBytesReferenceUptoRow : OpenClaim := { program := "ytoceakjnkillkaa", sum := "588eb01e30ea19065476b509e0f8502988cf084a3d0d28e9cb37bcdd848e2c9b", func := "loop.example/pub-g01452/laws.FnApplyBytesReference", spec := "fnApplyBytesReference", unfollowed := true, recurses := true, apart := false, narrowed := true }
def FnApplyBytesReferenceUptoSaid : Prop := fnApplyBytesReferenceUptoRow.holds Try.pinned (OpenSpec.upto fnApplyBytesReferenceSpec)

/-- 'laws.FnApplySorted', WHERE WHAT IT READS IS OF BULK AT MOST 1048576: true; the input reads as it did. -/
def fnApplySortedUptoRow : OpenClaim := { program := "ytoceakjnkillkaa", sum := "588eb01e30ea19065476b509e0f8502988cf084a3d0d28e9cb37bcdd848e2c9b", func := "loop.example/pub-g01452/laws.FnApplySorted", spec := "fnApplySorted", unfollowed := true, recurses := true, apart := false, narrowed := true }
def FnApplySortedUptoSaid : Prop := fnApplySortedUptoRow.holds Try.pinned (OpenSpec.upto fnApplySortedSpec)

/-- 'laws.FnMergeInsertions', WHERE WHAT IT READS IS OF BULK AT MOST 1048576: true; the input reads as it did. -/
def fnMergeInsertionsUptoRow : OpenClaim := { program := "ytoceakjnkillkaa", sum := "588eb01e30ea19065476b509e0f8502988cf084a3d0d28e9cb37bcdd848e2c9b", func := "loop.example/pub-g01452/laws.FnMergeInsertions", spec := "fnMergeInsertions", unfollowed := true, recurses := true, apart := false, narrowed := true }
def FnMergeInsertionsUptoSaid : Prop := fnMergeInsertionsUptoRow.holds Try.pinned (OpenSpec.upto fnMergeInsertionsSpec)

/-- 'laws.FnLineEdits', WHERE WHAT IT READS IS OF BULK AT MOST 1048576: true; the input reads as it did. -/
def fnLineEditsUptoRow : OpenClaim := { program := "ytoceakjnkillkaa", sum := "588eb01e30ea19065476b509e0f8502988cf084a3d0d28e9cb37bcdd848e2c9b", func := "loop.example/pub-g01452/laws.FnLineEdits", spec := "fnLineEdits", inPlace := ["internal/bytealg.IndexByteString"], unfollowed := true, recurses := true, apart := false, narrowed := true }
def FnLineEditsUptoSaid : Prop := fnLineEditsUptoRow.holds Try.pinned (OpenSpec.upto fnLineEditsSpec)

end Rows
end Go.Proofs.Ytoceakjnkillkaa
