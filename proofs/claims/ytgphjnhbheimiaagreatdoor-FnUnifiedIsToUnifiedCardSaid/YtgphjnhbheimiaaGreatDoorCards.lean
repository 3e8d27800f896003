/-
  DERIVED. GIVEN WITH THE SEED: THE CARDS: each row of YtgphjnhbheimiaaGreatDoorRows.lean that lists a variable, with what it lists TIED to the program's text (the seventh form; the later family's looks); each row that meets fmt, with fmt's text TOLD by the authors' own Lean function (tested against real Go, not proved from fmt's source: count such statements apart). THE CARD IS WHAT COUNTS. Prove the row's statement (the work); the ties are given (YtgphjnhbheimiaaGreatDoorTie.lean); close each card by the builder's one call (the guide's Derived/Test/ToyasCard.lean, 'card_holds'). Laid BY PROGRAM, IN A SANDBOX (cutbox-door.mjs). By AI agents, Wed Nov 11 2026. No macro, syntax, notation, axiom, sorry.
-/
import Derived.Test.YtgphjnhbheimiaaGreatDoorRows
import GoSem.ClaimSeven
namespace Go.Proofs.YtgphjnhbheimiaaGreatDoor
namespace Rows

/-- THE TIED CARD OF 'laws.FnUnifiedEmpty'. -/
def fnUnifiedEmptyCard : Claim7 := { stood := { row := fnUnifiedEmptyRow, standIns := [], harness := (true, "0ac1d1a0a9b1c9b3ca3ce5cd1f51b302eae38baee394cbdb6dd562d63d310963"), looks := false }, kinds := [], alts := [], laidByText := true, laidKinds := [.data, .data, .data], laidTests := true, laidLooks := .later }
def FnUnifiedEmptyCardSaid : Prop := Claim7.holds Tryz.pinned (.plain (OpenSpec.ofChange fnUnifiedEmptySpec)) fnUnifiedEmptyCard

/-- THE TIED CARD OF 'laws.FnUnifiedIsToUnified'. -/
def fnUnifiedIsToUnifiedCard : Claim7 := { stood := { row := fnUnifiedIsToUnifiedRow, standIns := [], harness := (true, "0ac1d1a0a9b1c9b3ca3ce5cd1f51b302eae38baee394cbdb6dd562d63d310963"), looks := false }, kinds := [], alts := [], laidByText := true, laidKinds := [.data, .data, .data], laidTests := true, laidLooks := .later }
def FnUnifiedIsToUnifiedCardSaid : Prop := Claim7.holds Tryz.pinned (.plain (OpenSpec.ofChange fnUnifiedIsToUnifiedSpec)) fnUnifiedIsToUnifiedCard

/-- THE SECOND FORM's CARD OF 'laws.FnUnifiedEmpty'. -/
def fnUnifiedEmptyUptoCard : Claim7 := { stood := { row := fnUnifiedEmptyUptoRow, standIns := [], harness := (true, "0ac1d1a0a9b1c9b3ca3ce5cd1f51b302eae38baee394cbdb6dd562d63d310963"), looks := false }, kinds := [], alts := [], laidByText := true, laidKinds := [.data, .data, .data], laidTests := true, laidLooks := .later }
def FnUnifiedEmptyUptoCardSaid : Prop := Claim7.holds Tryz.pinned (.plain (OpenSpec.upto fnUnifiedEmptySpec)) fnUnifiedEmptyUptoCard

/-- THE SECOND FORM's CARD OF 'laws.FnUnifiedIsToUnified'. -/
def fnUnifiedIsToUnifiedUptoCard : Claim7 := { stood := { row := fnUnifiedIsToUnifiedUptoRow, standIns := [], harness := (true, "0ac1d1a0a9b1c9b3ca3ce5cd1f51b302eae38baee394cbdb6dd562d63d310963"), looks := false }, kinds := [], alts := [], laidByText := true, laidKinds := [.data, .data, .data], laidTests := true, laidLooks := .later }
def FnUnifiedIsToUnifiedUptoCardSaid : Prop := Claim7.holds Tryz.pinned (.plain (OpenSpec.upto fnUnifiedIsToUnifiedSpec)) fnUnifiedIsToUnifiedUptoCard
end Rows
end Go.Proofs.YtgphjnhbheimiaaGreatDoor
