/-
  DERIVED. GIVEN WITH THE SEED: THE CARDS: each row of YtgjbagojcbondaaGreatDoorRows.lean that lists a variable, with what it lists TIED to the program's text (the seventh form; the later family's looks); each row that meets fmt, with fmt's text TOLD by the authors' own Lean function (tested against real Go, not proved from fmt's source: count such statements apart). THE CARD IS WHAT COUNTS. Prove the row's statement (the work); the ties are given (YtgjbagojcbondaaGreatDoorTie.lean); close each card by the builder's one call (the guide's Derived/Test/ToyasCard.lean, 'card_holds'). Laid BY PROGRAM, IN A SANDBOX (cutbox-door.mjs). By AI agents, Wed Nov 11 2026. No macro, syntax, notation, axiom, sorry.
-/
import Derived.Test.YtgjbagojcbondaaGreatDoorRows
import GoSem.ClaimSeven
namespace Go.Proofs.YtgjbagojcbondaaGreatDoor
namespace Rows

/-- THE TIED CARD OF 'laws.FnBytesByReference'. -/
def fnBytesByReferenceCard : Claim7 := { stood := { row := fnBytesByReferenceRow, standIns := [], harness := (true, "df982dd67e0fc22fdcff3b3ebb323c5e4f0a051b4ec7276507bb00df734207c6"), looks := false }, kinds := [], alts := [], laidByText := true, laidKinds := [.data, .pinned], laidTests := true, laidLooks := .later }
def FnBytesByReferenceCardSaid : Prop := Claim7.holds Tryz.pinned (.plain (OpenSpec.ofChange fnBytesByReferenceSpec)) fnBytesByReferenceCard

/-- THE TIED CARD OF 'laws.FnSameNone'. -/
def fnSameNoneCard : Claim7 := { stood := { row := fnSameNoneRow, standIns := [], harness := (true, "df982dd67e0fc22fdcff3b3ebb323c5e4f0a051b4ec7276507bb00df734207c6"), looks := false }, kinds := [], alts := [], laidByText := true, laidKinds := [.data, .pinned], laidTests := true, laidLooks := .later }
def FnSameNoneCardSaid : Prop := Claim7.holds Tryz.pinned (.plain (OpenSpec.ofChange fnSameNoneSpec)) fnSameNoneCard

/-- THE TIED CARD OF 'laws.FnBytesApply'. -/
def fnBytesApplyCard : Claim7 := { stood := { row := fnBytesApplyRow, standIns := [], harness := (true, "df982dd67e0fc22fdcff3b3ebb323c5e4f0a051b4ec7276507bb00df734207c6"), looks := false }, kinds := [], alts := [], laidByText := true, laidKinds := [.data, .pinned], laidTests := true, laidLooks := .later }
def FnBytesApplyCardSaid : Prop := Claim7.holds Tryz.pinned (.plain (OpenSpec.ofChange fnBytesApplySpec)) fnBytesApplyCard

/-- THE TIED CARD OF 'laws.FnUnifiedEmpty'. -/
def fnUnifiedEmptyCard : Claim7 := { stood := { row := fnUnifiedEmptyRow, standIns := [], harness := (true, "df982dd67e0fc22fdcff3b3ebb323c5e4f0a051b4ec7276507bb00df734207c6"), looks := false }, kinds := [], alts := [], laidByText := true, laidKinds := [.data, .data, .data], laidTests := true, laidLooks := .later }
def FnUnifiedEmptyCardSaid : Prop := Claim7.holds Tryz.pinned (.plain (OpenSpec.ofChange fnUnifiedEmptySpec)) fnUnifiedEmptyCard

/-- THE TIED CARD OF 'laws.FnUnifiedIsToUnified'. -/
def fnUnifiedIsToUnifiedCard : Claim7 := { stood := { row := fnUnifiedIsToUnifiedRow, standIns := [], harness := (true, "df982dd67e0fc22fdcff3b3ebb323c5e4f0a051b4ec7276507bb00df734207c6"), looks := false }, kinds := [], alts := [], laidByText := true, laidKinds := [.data, .data, .data], laidTests := true, laidLooks := .later }
def FnUnifiedIsToUnifiedCardSaid : Prop := Claim7.holds Tryz.pinned (.plain (OpenSpec.ofChange fnUnifiedIsToUnifiedSpec)) fnUnifiedIsToUnifiedCard

/-- THE SECOND FORM's CARD OF 'laws.FnBytesByReference'. -/
def fnBytesByReferenceUptoCard : Claim7 := { stood := { row := fnBytesByReferenceUptoRow, standIns := [], harness := (true, "df982dd67e0fc22fdcff3b3ebb323c5e4f0a051b4ec7276507bb00df734207c6"), looks := false }, kinds := [], alts := [], laidByText := true, laidKinds := [.data, .pinned], laidTests := true, laidLooks := .later }
def FnBytesByReferenceUptoCardSaid : Prop := Claim7.holds Tryz.pinned (.plain (OpenSpec.upto fnBytesByReferenceSpec)) fnBytesByReferenceUptoCard

/-- THE SECOND FORM's CARD OF 'laws.FnSameNone'. -/
def fnSameNoneUptoCard : Claim7 := { stood := { row := fnSameNoneUptoRow, standIns := [], harness := (true, "df982dd67e0fc22fdcff3b3ebb323c5e4f0a051b4ec7276507bb00df734207c6"), looks := false }, kinds := [], alts := [], laidByText := true, laidKinds := [.data, .pinned], laidTests := true, laidLooks := .later }
def FnSameNoneUptoCardSaid : Prop := Claim7.holds Tryz.pinned (.plain (OpenSpec.upto fnSameNoneSpec)) fnSameNoneUptoCard

/-- THE SECOND FORM's CARD OF 'laws.FnBytesApply'. -/
def fnBytesApplyUptoCard : Claim7 := { stood := { row := fnBytesApplyUptoRow, standIns := [], harness := (true, "df982dd67e0fc22fdcff3b3ebb323c5e4f0a051b4ec7276507bb00df734207c6"), looks := false }, kinds := [], alts := [], laidByText := true, laidKinds := [.data, .pinned], laidTests := true, laidLooks := .later }
def FnBytesApplyUptoCardSaid : Prop := Claim7.holds Tryz.pinned (.plain (OpenSpec.upto fnBytesApplySpec)) fnBytesApplyUptoCard

/-- THE SECOND FORM's CARD OF 'laws.FnUnifiedEmpty'. -/
def fnUnifiedEmptyUptoCard : Claim7 := { stood := { row := fnUnifiedEmptyUptoRow, standIns := [], harness := (true, "df982dd67e0fc22fdcff3b3ebb323c5e4f0a051b4ec7276507bb00df734207c6"), looks := false }, kinds := [], alts := [], laidByText := true, laidKinds := [.data, .data, .data], laidTests := true, laidLooks := .later }
def FnUnifiedEmptyUptoCardSaid : Prop := Claim7.holds Tryz.pinned (.plain (OpenSpec.upto fnUnifiedEmptySpec)) fnUnifiedEmptyUptoCard

/-- THE SECOND FORM's CARD OF 'laws.FnUnifiedIsToUnified'. -/
def fnUnifiedIsToUnifiedUptoCard : Claim7 := { stood := { row := fnUnifiedIsToUnifiedUptoRow, standIns := [], harness := (true, "df982dd67e0fc22fdcff3b3ebb323c5e4f0a051b4ec7276507bb00df734207c6"), looks := false }, kinds := [], alts := [], laidByText := true, laidKinds := [.data, .data, .data], laidTests := true, laidLooks := .later }
def FnUnifiedIsToUnifiedUptoCardSaid : Prop := Claim7.holds Tryz.pinned (.plain (OpenSpec.upto fnUnifiedIsToUnifiedSpec)) fnUnifiedIsToUnifiedUptoCard
end Rows
end Go.Proofs.YtgjbagojcbondaaGreatDoor
