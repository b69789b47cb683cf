/-
  DERIVED. GIVEN WITH THE SEED: THE CARDS: each row of YtdabllkphibfmaaGreatDoorRows.lean that lists a variable, with what it lists TIED to the program's text (the seventh form; the later family's looks); each row that meets fmt, with fmt's text TOLD by the authors' own Lean function (tested against real Go, not proved from fmt's source: count such statements apart). THE CARD IS WHAT COUNTS. Prove the row's statement (the work); the ties are given (YtdabllkphibfmaaGreatDoorTie.lean); close each card by the builder's one call (the guide's Derived/Test/ToyasCard.lean, 'card_holds'). Laid BY PROGRAM, IN A SANDBOX (cutbox-door.mjs). By AI agents, Wed Nov 11 2026. No macro, syntax, notation, axiom, sorry.
-/
import Derived.Test.YtdabllkphibfmaaGreatDoorRows
import GoSem.ClaimSeven
namespace Go.Proofs.YtdabllkphibfmaaGreatDoor
namespace Rows

/-- THE TIED CARD OF 'laws.FnExtAnyTokens'. -/
def fnExtAnyTokensCard : Claim7 := { stood := { row := fnExtAnyTokensRow, standIns := [], harness := (true, "2bd66b4ae00e45208880bf95d7508dabe8887dac8e8499539c174da8fbd1ef52"), looks := true }, kinds := [], alts := [], laidByText := true, laidKinds := [.data, .data, .widerDeep, .widerDeep, .data, .data, .data, .data, .data, .sentinel, .sentinel, .sentinel, .sentinel, .pinned, .pinned], laidTests := true, laidLooks := .later }
def FnExtAnyTokensCardSaid : Prop := Claim7.holds Tryz.pinned (.plain (OpenSpec.ofChange fnExtAnyTokensSpec)) fnExtAnyTokensCard

/-- THE TIED CARD OF 'laws.FnExtStrings'. -/
def fnExtStringsCard : Claim7 := { stood := { row := fnExtStringsRow, standIns := [], harness := (true, "2bd66b4ae00e45208880bf95d7508dabe8887dac8e8499539c174da8fbd1ef52"), looks := true }, kinds := [], alts := [], laidByText := true, laidKinds := [.data, .data, .widerDeep, .widerDeep, .data, .data, .data, .data, .data, .sentinel, .sentinel, .sentinel, .sentinel, .pinned, .pinned], laidTests := true, laidLooks := .later }
def FnExtStringsCardSaid : Prop := Claim7.holds Tryz.pinned (.plain (OpenSpec.ofChange fnExtStringsSpec)) fnExtStringsCard

/-- THE TIED CARD OF 'laws.FnExtTokens'. -/
def fnExtTokensCard : Claim7 := { stood := { row := fnExtTokensRow, standIns := [], harness := (true, "2bd66b4ae00e45208880bf95d7508dabe8887dac8e8499539c174da8fbd1ef52"), looks := true }, kinds := [], alts := [], laidByText := true, laidKinds := [.data, .data, .widerDeep, .widerDeep, .data, .data, .data, .data, .data, .sentinel, .sentinel, .sentinel, .sentinel, .pinned, .pinned], laidTests := true, laidLooks := .later }
def FnExtTokensCardSaid : Prop := Claim7.holds Tryz.pinned (.plain (OpenSpec.ofChange fnExtTokensSpec)) fnExtTokensCard

/-- THE TIED CARD OF 'laws.FnExtTokensRefused'. -/
def fnExtTokensRefusedCard : Claim7 := { stood := { row := fnExtTokensRefusedRow, standIns := [], harness := (true, "2bd66b4ae00e45208880bf95d7508dabe8887dac8e8499539c174da8fbd1ef52"), looks := true }, kinds := [], alts := [], laidByText := true, laidKinds := [.data, .data, .widerDeep, .widerDeep, .data, .data, .data, .data, .data, .sentinel, .sentinel, .sentinel, .sentinel, .pinned, .pinned], laidTests := true, laidLooks := .later }
def FnExtTokensRefusedCardSaid : Prop := Claim7.holds Tryz.pinned (.plain (OpenSpec.ofChange fnExtTokensRefusedSpec)) fnExtTokensRefusedCard

/-- THE TIED CARD OF 'laws.FnExtQuoteBack'. -/
def fnExtQuoteBackCard : Claim7 := { stood := { row := fnExtQuoteBackRow, standIns := [], harness := (true, "2bd66b4ae00e45208880bf95d7508dabe8887dac8e8499539c174da8fbd1ef52"), looks := true }, kinds := [], alts := [], laidByText := true, laidKinds := [.data, .data, .widerDeep, .widerDeep, .data, .data, .data, .data, .data, .data, .sentinel, .sentinel, .sentinel, .sentinel, .data, .data, .pinned, .pinned, .pinned], laidTests := true, laidLooks := .later }
def FnExtQuoteBackCardSaid : Prop := Claim7.holds Tryz.pinned (.plain (OpenSpec.ofChange fnExtQuoteBackSpec)) fnExtQuoteBackCard

/-- THE SECOND FORM's CARD OF 'laws.FnExtAnyTokens'. -/
def fnExtAnyTokensUptoCard : Claim7 := { stood := { row := fnExtAnyTokensUptoRow, standIns := [], harness := (true, "2bd66b4ae00e45208880bf95d7508dabe8887dac8e8499539c174da8fbd1ef52"), looks := true }, kinds := [], alts := [], laidByText := true, laidKinds := [.data, .data, .widerDeep, .widerDeep, .data, .data, .data, .data, .data, .sentinel, .sentinel, .sentinel, .sentinel, .pinned, .pinned], laidTests := true, laidLooks := .later }
def FnExtAnyTokensUptoCardSaid : Prop := Claim7.holds Tryz.pinned (.plain (OpenSpec.upto fnExtAnyTokensSpec)) fnExtAnyTokensUptoCard

/-- THE SECOND FORM's CARD OF 'laws.FnExtStrings'. -/
def fnExtStringsUptoCard : Claim7 := { stood := { row := fnExtStringsUptoRow, standIns := [], harness := (true, "2bd66b4ae00e45208880bf95d7508dabe8887dac8e8499539c174da8fbd1ef52"), looks := true }, kinds := [], alts := [], laidByText := true, laidKinds := [.data, .data, .widerDeep, .widerDeep, .data, .data, .data, .data, .data, .sentinel, .sentinel, .sentinel, .sentinel, .pinned, .pinned], laidTests := true, laidLooks := .later }
def FnExtStringsUptoCardSaid : Prop := Claim7.holds Tryz.pinned (.plain (OpenSpec.upto fnExtStringsSpec)) fnExtStringsUptoCard

/-- THE SECOND FORM's CARD OF 'laws.FnExtTokens'. -/
def fnExtTokensUptoCard : Claim7 := { stood := { row := fnExtTokensUptoRow, standIns := [], harness := (true, "2bd66b4ae00e45208880bf95d7508dabe8887dac8e8499539c174da8fbd1ef52"), looks := true }, kinds := [], alts := [], laidByText := true, laidKinds := [.data, .data, .widerDeep, .widerDeep, .data, .data, .data, .data, .data, .sentinel, .sentinel, .sentinel, .sentinel, .pinned, .pinned], laidTests := true, laidLooks := .later }
def FnExtTokensUptoCardSaid : Prop := Claim7.holds Tryz.pinned (.plain (OpenSpec.upto fnExtTokensSpec)) fnExtTokensUptoCard

/-- THE SECOND FORM's CARD OF 'laws.FnExtTokensRefused'. -/
def fnExtTokensRefusedUptoCard : Claim7 := { stood := { row := fnExtTokensRefusedUptoRow, standIns := [], harness := (true, "2bd66b4ae00e45208880bf95d7508dabe8887dac8e8499539c174da8fbd1ef52"), looks := true }, kinds := [], alts := [], laidByText := true, laidKinds := [.data, .data, .widerDeep, .widerDeep, .data, .data, .data, .data, .data, .sentinel, .sentinel, .sentinel, .sentinel, .pinned, .pinned], laidTests := true, laidLooks := .later }
def FnExtTokensRefusedUptoCardSaid : Prop := Claim7.holds Tryz.pinned (.plain (OpenSpec.upto fnExtTokensRefusedSpec)) fnExtTokensRefusedUptoCard

/-- THE SECOND FORM's CARD OF 'laws.FnExtQuoteBack'. -/
def fnExtQuoteBackUptoCard : Claim7 := { stood := { row := fnExtQuoteBackUptoRow, standIns := [], harness := (true, "2bd66b4ae00e45208880bf95d7508dabe8887dac8e8499539c174da8fbd1ef52"), looks := true }, kinds := [], alts := [], laidByText := true, laidKinds := [.data, .data, .widerDeep, .widerDeep, .data, .data, .data, .data, .data, .data, .sentinel, .sentinel, .sentinel, .sentinel, .data, .data, .pinned, .pinned, .pinned], laidTests := true, laidLooks := .later }
def FnExtQuoteBackUptoCardSaid : Prop := Claim7.holds Tryz.pinned (.plain (OpenSpec.upto fnExtQuoteBackSpec)) fnExtQuoteBackUptoCard
end Rows
end Go.Proofs.YtdabllkphibfmaaGreatDoor
