/-
  DERIVED. GIVEN WITH THE SEED: THE CARDS: each row of YtpkfdbhpmhahaaaGreatDoorRows.lean that lists a variable, with what it lists TIED to the program's text (the seventh form; the later family's looks); each row that meets fmt, with fmt's text TOLD by the authors' own Lean function (tested against real Go, not proved from fmt's source: count such statements apart). THE CARD IS WHAT COUNTS. Prove the row's statement (the work); the ties are given (YtpkfdbhpmhahaaaGreatDoorTie.lean); close each card by the builder's one call (the guide's Derived/Test/ToyasCard.lean, 'card_holds'). Laid BY PROGRAM, IN A SANDBOX (cutbox-door.mjs). By AI agents, Wed Nov 11 2026. No macro, syntax, notation, axiom, sorry.
-/
import Derived.Test.YtpkfdbhpmhahaaaGreatDoorRows
import GoSem.ClaimSeven
namespace Go.Proofs.YtpkfdbhpmhahaaaGreatDoor
namespace Rows

/-- THE TIED CARD OF 'laws.FnExtPartsJoined'. -/
def fnExtPartsJoinedCard : Claim7 := { stood := { row := fnExtPartsJoinedRow, standIns := [], harness := (true, "0bea6acbf744560421249eacaa16abab23f3ae45de789e445b2e976d7cbc0caf"), looks := false }, kinds := [], alts := [], laidByText := true, laidKinds := [.data, .data, .data, .data, .data, .sentinel, .data, .data, .sentinel, .pinned, .pinned, .pinned], laidTests := true, laidLooks := .later }
def FnExtPartsJoinedCardSaid : Prop := Claim7.holds Tryz.pinned (.plain (OpenSpec.ofChange fnExtPartsJoinedSpec)) fnExtPartsJoinedCard

/-- THE SECOND FORM's CARD OF 'laws.FnExtPartsJoined'. -/
def fnExtPartsJoinedUptoCard : Claim7 := { stood := { row := fnExtPartsJoinedUptoRow, standIns := [], harness := (true, "0bea6acbf744560421249eacaa16abab23f3ae45de789e445b2e976d7cbc0caf"), looks := false }, kinds := [], alts := [], laidByText := true, laidKinds := [.data, .data, .data, .data, .data, .sentinel, .data, .data, .sentinel, .pinned, .pinned, .pinned], laidTests := true, laidLooks := .later }
def FnExtPartsJoinedUptoCardSaid : Prop := Claim7.holds Tryz.pinned (.plain (OpenSpec.upto fnExtPartsJoinedSpec)) fnExtPartsJoinedUptoCard
end Rows
end Go.Proofs.YtpkfdbhpmhahaaaGreatDoor
