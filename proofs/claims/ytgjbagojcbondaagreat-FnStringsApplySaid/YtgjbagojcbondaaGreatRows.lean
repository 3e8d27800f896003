/-
  No cell of these rows narrows 'for every input' (looked for: loops, veiled, ifaces, maps, wideKeys, modest, calm, conditions, laid).
  DERIVED. THE GIVEN ROWS OF THIS SEAT. 4 by the template 'for every input the law returns true; each argument reads behind the call as it read before'; 0 by the template 'total and deterministic' (their statements: YtgjbagojcbondaaGreatTotals.lean).
  GIVEN WITH THE SEED: the statements are not yours to turn. If you find one false, say at which input.
  Laid BY PROGRAM, IN A SANDBOX (cutbox-rows.mjs): the forced cells as the released guide's own fill.sh prints them over the translation 75296844cafa7e11… (all of the seat's roots in one cut). By AI agents, Wed Nov 11 2026. No macro, syntax, notation, axiom, sorry.
-/
import Derived.Test.YtgjbagojcbondaaGreatChecked
import GoSem.Claim
import GoSem.ClaimJoined
import GoSem.ClaimMapViews
import Derived.JoinedTies
import Derived.KernelRfl
namespace Go.Proofs.YtgjbagojcbondaaGreat
/- THE CELL 'sum', in the pinned program and in every row, IS THE sha256 OF THE DUMP (.gsa) THAT YtgjbagojcbondaaGreatProg.lean LOADS. Nothing in Lean hashes anything: it is a label: what it is worth is what the hold of that sum in a sandbox is worth. -/
noncomputable def Tryz.pinned : Pinned := { name := "ytgjbagojcbondaagreat", sum := "75296844cafa7e11872e7ed72ac2f06690fa329797aad016b8d3ce1d9c40bc07", checked := Tryz.checked }
namespace Rows
def none {H : Type} : Left H := { results := [], args := [] }

/-- 'laws.FnStringsApply': WHATEVER THE INPUT: true; the input reads as it did. -/
def fnStringsApplySpec : ChangeSpec := { name := "fnStringsApply", fn := fun _ => fun
  | [d1, d2] => { results := [.lit (.bool true)], args := [d1, d2] }
  | _ => none }
def fnStringsApplyRow : OpenClaim := { program := "ytgjbagojcbondaagreat", sum := "75296844cafa7e11872e7ed72ac2f06690fa329797aad016b8d3ce1d9c40bc07", func := "loop.example/pub-g01452/laws.FnStringsApply", spec := "fnStringsApply", inPlace := ["internal/reflectlite.ValueOf", "internal/reflectlite.Swapper", "(internal/reflectlite.Value).Len"], unfollowed := true, recurses := true, apart := false }
def FnStringsApplySaid : Prop := fnStringsApplyRow.holds Tryz.pinned (OpenSpec.ofChange fnStringsApplySpec)

/-- ITS FALSE NEIGHBOUR: 'it returns false'. Refute it at one input. -/
def fnStringsApplyWrong : ChangeSpec := { name := "fnStringsApply", fn := fun _ => fun
  | [d1, d2] => { results := [.lit (.bool false)], args := [d1, d2] }
  | _ => none }
def FnStringsApplyWrongFalsely : Prop := fnStringsApplyRow.holds Tryz.pinned (OpenSpec.ofChange fnStringsApplyWrong)

/-- 'laws.FnLinesApply': WHATEVER THE INPUT: true; the input reads as it did. -/
def fnLinesApplySpec : ChangeSpec := { name := "fnLinesApply", fn := fun _ => fun
  | [d1, d2] => { results := [.lit (.bool true)], args := [d1, d2] }
  | _ => none }
def fnLinesApplyRow : OpenClaim := { program := "ytgjbagojcbondaagreat", sum := "75296844cafa7e11872e7ed72ac2f06690fa329797aad016b8d3ce1d9c40bc07", func := "loop.example/pub-g01452/laws.FnLinesApply", spec := "fnLinesApply", inPlace := ["internal/reflectlite.ValueOf", "internal/reflectlite.Swapper", "(internal/reflectlite.Value).Len", "internal/abi.NoEscape", "internal/bytealg.MakeNoZero"], unfollowed := true, recurses := true, apart := false }
def FnLinesApplySaid : Prop := fnLinesApplyRow.holds Tryz.pinned (OpenSpec.ofChange fnLinesApplySpec)

/-- ITS FALSE NEIGHBOUR: 'it returns false'. Refute it at one input. -/
def fnLinesApplyWrong : ChangeSpec := { name := "fnLinesApply", fn := fun _ => fun
  | [d1, d2] => { results := [.lit (.bool false)], args := [d1, d2] }
  | _ => none }
def FnLinesApplyWrongFalsely : Prop := fnLinesApplyRow.holds Tryz.pinned (OpenSpec.ofChange fnLinesApplyWrong)

/-- 'laws.FnMergeApplies': WHATEVER THE INPUT: true; the input reads as it did. -/
def fnMergeAppliesSpec : ChangeSpec := { name := "fnMergeApplies", fn := fun _ => fun
  | [d1, d2, d3] => { results := [.lit (.bool true)], args := [d1, d2, d3] }
  | _ => none }
def fnMergeAppliesRow : OpenClaim := { program := "ytgjbagojcbondaagreat", sum := "75296844cafa7e11872e7ed72ac2f06690fa329797aad016b8d3ce1d9c40bc07", func := "loop.example/pub-g01452/laws.FnMergeApplies", spec := "fnMergeApplies", inPlace := ["internal/reflectlite.ValueOf", "internal/reflectlite.Swapper", "(internal/reflectlite.Value).Len", "internal/abi.NoEscape", "internal/bytealg.MakeNoZero"], unfollowed := true, recurses := true, apart := false }
def FnMergeAppliesSaid : Prop := fnMergeAppliesRow.holds Tryz.pinned (OpenSpec.ofChange fnMergeAppliesSpec)

/-- ITS FALSE NEIGHBOUR: 'it returns false'. Refute it at one input. -/
def fnMergeAppliesWrong : ChangeSpec := { name := "fnMergeApplies", fn := fun _ => fun
  | [d1, d2, d3] => { results := [.lit (.bool false)], args := [d1, d2, d3] }
  | _ => none }
def FnMergeAppliesWrongFalsely : Prop := fnMergeAppliesRow.holds Tryz.pinned (OpenSpec.ofChange fnMergeAppliesWrong)

/-- 'laws.FnMergeHalves': WHATEVER THE INPUT: true; the input reads as it did. -/
def fnMergeHalvesSpec : ChangeSpec := { name := "fnMergeHalves", fn := fun _ => fun
  | [d1, d2, d3, d4] => { results := [.lit (.bool true)], args := [d1, d2, d3, d4] }
  | _ => none }
def fnMergeHalvesRow : OpenClaim := { program := "ytgjbagojcbondaagreat", sum := "75296844cafa7e11872e7ed72ac2f06690fa329797aad016b8d3ce1d9c40bc07", func := "loop.example/pub-g01452/laws.FnMergeHalves", spec := "fnMergeHalves", inPlace := ["internal/reflectlite.ValueOf", "internal/reflectlite.Swapper", "(internal/reflectlite.Value).Len", "internal/abi.NoEscape", "internal/bytealg.MakeNoZero"], unfollowed := true, recurses := true, apart := false }
def FnMergeHalvesSaid : Prop := fnMergeHalvesRow.holds Tryz.pinned (OpenSpec.ofChange fnMergeHalvesSpec)

/-- ITS FALSE NEIGHBOUR: 'it returns false'. Refute it at one input. -/
def fnMergeHalvesWrong : ChangeSpec := { name := "fnMergeHalves", fn := fun _ => fun
  | [d1, d2, d3, d4] => { results := [.lit (.bool false)], args := [d1, d2, d3, d4] }
  | _ => none }
def FnMergeHalvesWrongFalsely : Prop := fnMergeHalvesRow.holds Tryz.pinned (OpenSpec.ofChange fnMergeHalvesWrong)

/- THE SECOND FORM. 'bulk': how many values and letters a reading holds, each counted each time it is reached (what is shared counts as often as it is met; a slice's spare places count too). A statement '..UptoSaid' is the law's where the arguments, and the package variables that the reading takes, are together of bulk at most 1048576: NARROWER than '..Said'. Prove '..Said' where nothing that the law and all that it calls make is longer than what came in: it says more and counts as full. Else prove '..UptoSaid'. A law counts once. -/
mutual
def uptoBulk {H : Type} : DataW H → Nat
  | .lit (.string bytes) => bytes.length + 1
  | .lit _ => 1
  | .nil => 1
  | .ptr d => uptoBulk d + 1
  | .slice elems spare => uptoBulkAll elems + uptoBulkAll spare + 1
  | .agg parts => uptoBulkAll parts + 1
  | .iface _ d => uptoBulk d + 1
  | .map entries => uptoBulkEntries entries + 1
  | .held _ => 1
def uptoBulkAll {H : Type} : List (DataW H) → Nat
  | [] => 0
  | d :: r => uptoBulk d + uptoBulkAll r
def uptoBulkEntries {H : Type} : List (Lit × DataW H) → Nat
  | [] => 0
  | x :: r => uptoBulkEntry x + uptoBulkEntries r
def uptoBulkEntry {H : Type} : Lit × DataW H → Nat
  | (.string bytes, d) => bytes.length + uptoBulk d + 1
  | (_, d) => uptoBulk d + 1
 end
def uptoSmall : (H : Type) → List (DataW H) → Bool := fun _ ds => decide (uptoBulkAll ds ≤ 1048576)
def OpenSpec.upto (s : _root_.Go.ChangeSpec) : _root_.Go.OpenSpec := { _root_.Go.OpenSpec.ofChange s with cond := some uptoSmall }

/-- 'laws.FnStringsApply', WHERE WHAT IT READS IS OF BULK AT MOST 1048576: true; the input reads as it did. -/
def fnStringsApplyUptoRow : OpenClaim := { program := "ytgjbagojcbondaagreat", sum := "75296844cafa7e11872e7ed72ac2f06690fa329797aad016b8d3ce1d9c40bc07", func := "loop.example/pub-g01452/laws.FnStringsApply", spec := "fnStringsApply", inPlace := ["internal/reflectlite.ValueOf", "internal/reflectlite.Swapper", "(internal/reflectlite.Value).Len"], unfollowed := true, recurses := true, apart := false, narrowed := true }
def FnStringsApplyUptoSaid : Prop := fnStringsApplyUptoRow.holds Tryz.pinned (OpenSpec.upto fnStringsApplySpec)

/-- 'laws.FnLinesApply', WHERE WHAT IT READS IS OF BULK AT MOST 1048576: true; the input reads as it did. -/
def fnLinesApplyUptoRow : OpenClaim := { program := "ytgjbagojcbondaagreat", sum := "75296844cafa7e11872e7ed72ac2f06690fa329797aad016b8d3ce1d9c40bc07", func := "loop.example/pub-g01452/laws.FnLinesApply", spec := "fnLinesApply", inPlace := ["internal/reflectlite.ValueOf", "internal/reflectlite.Swapper", "(internal/reflectlite.Value).Len", "internal/abi.NoEscape", "internal/bytealg.MakeNoZero"], unfollowed := true, recurses := true, apart := false, narrowed := true }
def FnLinesApplyUptoSaid : Prop := fnLinesApplyUptoRow.holds Tryz.pinned (OpenSpec.upto fnLinesApplySpec)

/-- 'laws.FnMergeApplies', WHERE WHAT IT READS IS OF BULK AT MOST 1048576: true; the input reads as it did. -/
def fnMergeAppliesUptoRow : OpenClaim := { program := "ytgjbagojcbondaagreat", sum := "75296844cafa7e11872e7ed72ac2f06690fa329797aad016b8d3ce1d9c40bc07", func := "loop.example/pub-g01452/laws.FnMergeApplies", spec := "fnMergeApplies", inPlace := ["internal/reflectlite.ValueOf", "internal/reflectlite.Swapper", "(internal/reflectlite.Value).Len", "internal/abi.NoEscape", "internal/bytealg.MakeNoZero"], unfollowed := true, recurses := true, apart := false, narrowed := true }
def FnMergeAppliesUptoSaid : Prop := fnMergeAppliesUptoRow.holds Tryz.pinned (OpenSpec.upto fnMergeAppliesSpec)

/-- 'laws.FnMergeHalves', WHERE WHAT IT READS IS OF BULK AT MOST 1048576: true; the input reads as it did. -/
def fnMergeHalvesUptoRow : OpenClaim := { program := "ytgjbagojcbondaagreat", sum := "75296844cafa7e11872e7ed72ac2f06690fa329797aad016b8d3ce1d9c40bc07", func := "loop.example/pub-g01452/laws.FnMergeHalves", spec := "fnMergeHalves", inPlace := ["internal/reflectlite.ValueOf", "internal/reflectlite.Swapper", "(internal/reflectlite.Value).Len", "internal/abi.NoEscape", "internal/bytealg.MakeNoZero"], unfollowed := true, recurses := true, apart := false, narrowed := true }
def FnMergeHalvesUptoSaid : Prop := fnMergeHalvesUptoRow.holds Tryz.pinned (OpenSpec.upto fnMergeHalvesSpec)

end Rows
end Go.Proofs.YtgjbagojcbondaaGreat
