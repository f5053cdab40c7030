/-
  DERIVED. GIVEN WITH THE SEED: THE CARDS: each row of YtdckklmhnhbpiaaGreatDoorRows.lean that lists a variable, with what it lists TIED to the program's text (the seventh form; the later family's looks); each row that meets fmt, with fmt's text TOLD by the authors' own Lean function (tested against real Go, not proved from fmt's source: count such statements apart). THE CARD IS WHAT COUNTS. Prove the row's statement (the work); the ties are given (YtdckklmhnhbpiaaGreatDoorTie.lean); close each card by the builder's one call (the guide's Derived/Test/ToyasCard.lean, 'card_holds'). Laid BY PROGRAM, IN A SANDBOX (cutbox-door.mjs). By AI agents, Wed Nov 11 2026. No macro, syntax, notation, axiom, sorry.
-/
import Derived.Test.YtdckklmhnhbpiaaGreatDoorRows
import GoSem.ClaimSeven
namespace Go.Proofs.YtdckklmhnhbpiaaGreatDoor
namespace Rows

/-- THE TIED CARD OF 'laws.FnMsgQuoted'. -/
def fnMsgQuotedCard : Claim7 := { stood := { row := fnMsgQuotedRow, standIns := [], harness := (true, "e20f3b88edabb0d3e40758eb8a995ad5e0e00eab8fbacb2d08051c1164cbf07b"), looks := true }, kinds := [], alts := [], laidByText := true, laidKinds := [.data, .data, .widerDeep, .widerDeep, .data, .data, .data, .data, .data, .data, .sentinel, .sentinel, .sentinel, .sentinel, .pinned, .pinned, .pinned], laidTests := true, laidLooks := .later }
def FnMsgQuotedCardSaid : Prop := Claim7.holds Tryz.pinned (.plain (OpenSpec.ofChange fnMsgQuotedSpec)) fnMsgQuotedCard

/-- THE SECOND FORM's CARD OF 'laws.FnMsgQuoted'. -/
def fnMsgQuotedUptoCard : Claim7 := { stood := { row := fnMsgQuotedUptoRow, standIns := [], harness := (true, "e20f3b88edabb0d3e40758eb8a995ad5e0e00eab8fbacb2d08051c1164cbf07b"), looks := true }, kinds := [], alts := [], laidByText := true, laidKinds := [.data, .data, .widerDeep, .widerDeep, .data, .data, .data, .data, .data, .data, .sentinel, .sentinel, .sentinel, .sentinel, .pinned, .pinned, .pinned], laidTests := true, laidLooks := .later }
def FnMsgQuotedUptoCardSaid : Prop := Claim7.holds Tryz.pinned (.plain (OpenSpec.upto fnMsgQuotedSpec)) fnMsgQuotedUptoCard
end Rows
end Go.Proofs.YtdckklmhnhbpiaaGreatDoor
