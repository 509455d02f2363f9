/-
  DERIVED. GIVEN WITH THE SEED: THE CARDS: each row of YtbcnhcpgloncdaaGreatDoorRows.lean that lists a variable, with what it lists TIED to the program's text (the seventh form; the later family's looks); each row that meets fmt, with fmt's text TOLD by the authors' own Lean function (tested against real Go, not proved from fmt's source: count such statements apart). THE CARD IS WHAT COUNTS. Prove the row's statement (the work); the ties are given (YtbcnhcpgloncdaaGreatDoorTie.lean); close each card by the builder's one call (the guide's Derived/Test/ToyasCard.lean, 'card_holds'). Laid BY PROGRAM, IN A SANDBOX (cutbox-door.mjs). By AI agents, Wed Nov 11 2026. No macro, syntax, notation, axiom, sorry.
-/
import Derived.Test.YtbcnhcpgloncdaaGreatDoorRows
import GoSem.ClaimSeven
namespace Go.Proofs.YtbcnhcpgloncdaaGreatDoor
namespace Rows

/-- THE TIED CARD OF 'laws.FnMultiMatchTurned'. -/
def fnMultiMatchTurnedCard : Claim7 := { stood := { row := fnMultiMatchTurnedRow, standIns := [], harness := (true, "74a6703f111bf0be9a7f874bf1fee3bfba9823c5ab24d04d135f74a75cc280fd"), looks := true }, kinds := [], alts := [], laidByText := true, laidKinds := [.data, .data, .data, .data, .data, .pinned, .pinned, .pinned, .pinned], laidTests := true, laidLooks := .later }
def FnMultiMatchTurnedCardSaid : Prop := Claim7.holds Tryz.pinned (.plain (OpenSpec.ofChange fnMultiMatchTurnedSpec)) fnMultiMatchTurnedCard

/-- THE TIED CARD OF 'laws.FnCombinedFields'. -/
def fnCombinedFieldsCard : Claim7 := { stood := { row := fnCombinedFieldsRow, standIns := [], harness := (true, "74a6703f111bf0be9a7f874bf1fee3bfba9823c5ab24d04d135f74a75cc280fd"), looks := true }, kinds := [], alts := [], laidByText := true, laidKinds := [.data, .data, .widerDeep, .widerDeep, .data, .data, .data, .data, .data, .data, .sentinel, .sentinel, .pinned, .pinned, .pinned, .pinned], laidTests := true, laidLooks := .later }
def FnCombinedFieldsCardSaid : Prop := Claim7.holds Tryz.pinned (.plain (OpenSpec.ofChange fnCombinedFieldsSpec)) fnCombinedFieldsCard

/-- THE TIED CARD OF 'laws.FnSimpleQueryString'. -/
def fnSimpleQueryStringCard : Claim7 := { stood := { row := fnSimpleQueryStringRow, standIns := [], harness := (true, "74a6703f111bf0be9a7f874bf1fee3bfba9823c5ab24d04d135f74a75cc280fd"), looks := true }, kinds := [], alts := [], laidByText := true, laidKinds := [.data, .data, .widerDeep, .widerDeep, .data, .data, .data, .data, .data, .data, .sentinel, .sentinel, .pinned, .pinned, .pinned, .pinned], laidTests := true, laidLooks := .later }
def FnSimpleQueryStringCardSaid : Prop := Claim7.holds Tryz.pinned (.plain (OpenSpec.ofChange fnSimpleQueryStringSpec)) fnSimpleQueryStringCard

/-- THE TIED CARD OF 'laws.FnMultiMatch'. -/
def fnMultiMatchCard : Claim7 := { stood := { row := fnMultiMatchRow, standIns := [], harness := (true, "74a6703f111bf0be9a7f874bf1fee3bfba9823c5ab24d04d135f74a75cc280fd"), looks := true }, kinds := [], alts := [], laidByText := true, laidKinds := [.data, .data, .widerDeep, .widerDeep, .data, .data, .data, .data, .data, .data, .sentinel, .sentinel, .pinned, .pinned, .pinned, .pinned], laidTests := true, laidLooks := .later }
def FnMultiMatchCardSaid : Prop := Claim7.holds Tryz.pinned (.plain (OpenSpec.ofChange fnMultiMatchSpec)) fnMultiMatchCard

/-- THE TIED CARD OF 'laws.FnQueryString'. -/
def fnQueryStringCard : Claim7 := { stood := { row := fnQueryStringRow, standIns := [], harness := (true, "74a6703f111bf0be9a7f874bf1fee3bfba9823c5ab24d04d135f74a75cc280fd"), looks := true }, kinds := [], alts := [], laidByText := true, laidKinds := [.data, .data, .widerDeep, .widerDeep, .data, .data, .data, .data, .data, .data, .sentinel, .sentinel, .pinned, .pinned, .pinned, .pinned], laidTests := true, laidLooks := .later }
def FnQueryStringCardSaid : Prop := Claim7.holds Tryz.pinned (.plain (OpenSpec.ofChange fnQueryStringSpec)) fnQueryStringCard

/-- THE SECOND FORM's CARD OF 'laws.FnMultiMatchTurned'. -/
def fnMultiMatchTurnedUptoCard : Claim7 := { stood := { row := fnMultiMatchTurnedUptoRow, standIns := [], harness := (true, "74a6703f111bf0be9a7f874bf1fee3bfba9823c5ab24d04d135f74a75cc280fd"), looks := true }, kinds := [], alts := [], laidByText := true, laidKinds := [.data, .data, .data, .data, .data, .pinned, .pinned, .pinned, .pinned], laidTests := true, laidLooks := .later }
def FnMultiMatchTurnedUptoCardSaid : Prop := Claim7.holds Tryz.pinned (.plain (OpenSpec.upto fnMultiMatchTurnedSpec)) fnMultiMatchTurnedUptoCard

/-- THE SECOND FORM's CARD OF 'laws.FnCombinedFields'. -/
def fnCombinedFieldsUptoCard : Claim7 := { stood := { row := fnCombinedFieldsUptoRow, standIns := [], harness := (true, "74a6703f111bf0be9a7f874bf1fee3bfba9823c5ab24d04d135f74a75cc280fd"), looks := true }, kinds := [], alts := [], laidByText := true, laidKinds := [.data, .data, .widerDeep, .widerDeep, .data, .data, .data, .data, .data, .data, .sentinel, .sentinel, .pinned, .pinned, .pinned, .pinned], laidTests := true, laidLooks := .later }
def FnCombinedFieldsUptoCardSaid : Prop := Claim7.holds Tryz.pinned (.plain (OpenSpec.upto fnCombinedFieldsSpec)) fnCombinedFieldsUptoCard

/-- THE SECOND FORM's CARD OF 'laws.FnSimpleQueryString'. -/
def fnSimpleQueryStringUptoCard : Claim7 := { stood := { row := fnSimpleQueryStringUptoRow, standIns := [], harness := (true, "74a6703f111bf0be9a7f874bf1fee3bfba9823c5ab24d04d135f74a75cc280fd"), looks := true }, kinds := [], alts := [], laidByText := true, laidKinds := [.data, .data, .widerDeep, .widerDeep, .data, .data, .data, .data, .data, .data, .sentinel, .sentinel, .pinned, .pinned, .pinned, .pinned], laidTests := true, laidLooks := .later }
def FnSimpleQueryStringUptoCardSaid : Prop := Claim7.holds Tryz.pinned (.plain (OpenSpec.upto fnSimpleQueryStringSpec)) fnSimpleQueryStringUptoCard

/-- THE SECOND FORM's CARD OF 'laws.FnMultiMatch'. -/
def fnMultiMatchUptoCard : Claim7 := { stood := { row := fnMultiMatchUptoRow, standIns := [], harness := (true, "74a6703f111bf0be9a7f874bf1fee3bfba9823c5ab24d04d135f74a75cc280fd"), looks := true }, kinds := [], alts := [], laidByText := true, laidKinds := [.data, .data, .widerDeep, .widerDeep, .data, .data, .data, .data, .data, .data, .sentinel, .sentinel, .pinned, .pinned, .pinned, .pinned], laidTests := true, laidLooks := .later }
def FnMultiMatchUptoCardSaid : Prop := Claim7.holds Tryz.pinned (.plain (OpenSpec.upto fnMultiMatchSpec)) fnMultiMatchUptoCard

/-- THE SECOND FORM's CARD OF 'laws.FnQueryString'. -/
def fnQueryStringUptoCard : Claim7 := { stood := { row := fnQueryStringUptoRow, standIns := [], harness := (true, "74a6703f111bf0be9a7f874bf1fee3bfba9823c5ab24d04d135f74a75cc280fd"), looks := true }, kinds := [], alts := [], laidByText := true, laidKinds := [.data, .data, .widerDeep, .widerDeep, .data, .data, .data, .data, .data, .data, .sentinel, .sentinel, .pinned, .pinned, .pinned, .pinned], laidTests := true, laidLooks := .later }
def FnQueryStringUptoCardSaid : Prop := Claim7.holds Tryz.pinned (.plain (OpenSpec.upto fnQueryStringSpec)) fnQueryStringUptoCard
end Rows
end Go.Proofs.YtbcnhcpgloncdaaGreatDoor
