/-
  DERIVED. GIVEN WITH THE SEED: THE CARDS: each row of YtmijjppjodpagaaGreatDoorRows.lean that lists a variable, with what it lists TIED to the program's text (the seventh form; the later family's looks); each row that meets fmt, with fmt's text TOLD by the authors' own Lean function (tested against real Go, not proved from fmt's source: count such statements apart). THE CARD IS WHAT COUNTS. Prove the row's statement (the work); the ties are given (YtmijjppjodpagaaGreatDoorTie.lean); close each card by the builder's one call (the guide's Derived/Test/ToyasCard.lean, 'card_holds'). Laid BY PROGRAM, IN A SANDBOX (cutbox-door.mjs). By AI agents, Wed Nov 11 2026. No macro, syntax, notation, axiom, sorry.
-/
import Derived.Test.YtmijjppjodpagaaGreatDoorRows
import GoSem.ClaimSeven
namespace Go.Proofs.YtmijjppjodpagaaGreatDoor
namespace Rows

/-- THE TIED CARD OF 'laws.FnMsgSnapshot'. -/
def fnMsgSnapshotCard : Claim7 := { stood := { row := fnMsgSnapshotRow, standIns := [], harness := (true, "597263c099266d240f40723cbafdad661dc5755f1be70fc0d2b9097b0c533a0c"), looks := true }, kinds := [], alts := [], laidByText := true, laidKinds := [.data, .data, .data, .data, .data, .sentinel, .sentinel, .sentinel, .sentinel, .pinned, .pinned, .pinned], laidTests := true, laidLooks := .later }
def FnMsgSnapshotCardSaid : Prop := Claim7.holds Tryz.pinned (.plain (OpenSpec.ofChange fnMsgSnapshotSpec)) fnMsgSnapshotCard

/-- THE SECOND FORM's CARD OF 'laws.FnMsgSnapshot'. -/
def fnMsgSnapshotUptoCard : Claim7 := { stood := { row := fnMsgSnapshotUptoRow, standIns := [], harness := (true, "597263c099266d240f40723cbafdad661dc5755f1be70fc0d2b9097b0c533a0c"), looks := true }, kinds := [], alts := [], laidByText := true, laidKinds := [.data, .data, .data, .data, .data, .sentinel, .sentinel, .sentinel, .sentinel, .pinned, .pinned, .pinned], laidTests := true, laidLooks := .later }
def FnMsgSnapshotUptoCardSaid : Prop := Claim7.holds Tryz.pinned (.plain (OpenSpec.upto fnMsgSnapshotSpec)) fnMsgSnapshotUptoCard
end Rows
end Go.Proofs.YtmijjppjodpagaaGreatDoor
