/-
  DERIVED. GIVEN WITH THE SEED: THE CARDS: each row of YtgphjnhbheimiaaDoorRows.lean that lists a variable, with what it lists TIED to the program's text (the seventh form; the later family's looks); each row that meets fmt, with fmt's text TOLD by the authors' own Lean function (tested against real Go, not proved from fmt's source: count such statements apart). THE CARD IS WHAT COUNTS. Prove the row's statement (the work); the ties are given (YtgphjnhbheimiaaDoorTie.lean); close each card by the builder's one call (the guide's Derived/Test/ToyasCard.lean, 'card_holds'). Laid BY PROGRAM, IN A SANDBOX (cutbox-door.mjs). By AI agents, Wed Nov 11 2026. No macro, syntax, notation, axiom, sorry.
-/
import Derived.Test.YtgphjnhbheimiaaDoorRows
import GoSem.ClaimSeven
namespace Go.Proofs.YtgphjnhbheimiaaDoor
namespace Rows

/-- THE TIED CARD OF 'laws.FnToUnifiedRefuses'. -/
def fnToUnifiedRefusesCard : Claim7 := { stood := { row := fnToUnifiedRefusesRow, standIns := [], harness := (true, "aeb7c3ec841fd082908fdddc8a3096deebbe9c79d9d016840453ed38bd0b266e"), looks := false }, kinds := [], alts := [], laidByText := true, laidKinds := [.data, .data, .data], laidTests := true, laidLooks := .later }
def FnToUnifiedRefusesCardSaid : Prop := Claim7.holds Tryd.pinned (.plain (OpenSpec.ofChange fnToUnifiedRefusesSpec)) fnToUnifiedRefusesCard

/-- THE SECOND FORM's CARD OF 'laws.FnToUnifiedRefuses'. -/
def fnToUnifiedRefusesUptoCard : Claim7 := { stood := { row := fnToUnifiedRefusesUptoRow, standIns := [], harness := (true, "aeb7c3ec841fd082908fdddc8a3096deebbe9c79d9d016840453ed38bd0b266e"), looks := false }, kinds := [], alts := [], laidByText := true, laidKinds := [.data, .data, .data], laidTests := true, laidLooks := .later }
def FnToUnifiedRefusesUptoCardSaid : Prop := Claim7.holds Tryd.pinned (.plain (OpenSpec.upto fnToUnifiedRefusesSpec)) fnToUnifiedRefusesUptoCard
end Rows
end Go.Proofs.YtgphjnhbheimiaaDoor
