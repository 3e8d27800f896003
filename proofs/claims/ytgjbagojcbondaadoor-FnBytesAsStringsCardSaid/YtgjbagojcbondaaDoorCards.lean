/-
  DERIVED. GIVEN WITH THE SEED: THE CARDS: each row of YtgjbagojcbondaaDoorRows.lean that lists a variable, with what it lists TIED to the program's text (the seventh form; the later family's looks); each row that meets fmt, with fmt's text TOLD by the authors' own Lean function (tested against real Go, not proved from fmt's source: count such statements apart). THE CARD IS WHAT COUNTS. Prove the row's statement (the work); the ties are given (YtgjbagojcbondaaDoorTie.lean); close each card by the builder's one call (the guide's Derived/Test/ToyasCard.lean, 'card_holds'). Laid BY PROGRAM, IN A SANDBOX (cutbox-door.mjs). By AI agents, Wed Nov 11 2026. No macro, syntax, notation, axiom, sorry.
-/
import Derived.Test.YtgjbagojcbondaaDoorRows
import GoSem.ClaimSeven
namespace Go.Proofs.YtgjbagojcbondaaDoor
namespace Rows

/-- THE TIED CARD OF 'laws.FnBytesAsStrings'. -/
def fnBytesAsStringsCard : Claim7 := { stood := { row := fnBytesAsStringsRow, standIns := [], harness := (true, "698315c6af64ab43ea658978ec2ffa78c6197c07f80dbcdb44f9387b1800ee8f"), looks := false }, kinds := [], alts := [], laidByText := true, laidKinds := [.data, .pinned], laidTests := true, laidLooks := .later }
def FnBytesAsStringsCardSaid : Prop := Claim7.holds Tryd.pinned (.plain (OpenSpec.ofChange fnBytesAsStringsSpec)) fnBytesAsStringsCard

/-- THE SECOND FORM's CARD OF 'laws.FnBytesAsStrings'. -/
def fnBytesAsStringsUptoCard : Claim7 := { stood := { row := fnBytesAsStringsUptoRow, standIns := [], harness := (true, "698315c6af64ab43ea658978ec2ffa78c6197c07f80dbcdb44f9387b1800ee8f"), looks := false }, kinds := [], alts := [], laidByText := true, laidKinds := [.data, .pinned], laidTests := true, laidLooks := .later }
def FnBytesAsStringsUptoCardSaid : Prop := Claim7.holds Tryd.pinned (.plain (OpenSpec.upto fnBytesAsStringsSpec)) fnBytesAsStringsUptoCard
end Rows
end Go.Proofs.YtgjbagojcbondaaDoor
