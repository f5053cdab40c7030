/-
  DERIVED. GIVEN WITH THE SEED: THE CARDS: each row of YtonegoemmologaaGreatDoorRows.lean that lists a variable, with what it lists TIED to the program's text (the seventh form; the later family's looks); each row that meets fmt, with fmt's text TOLD by the authors' own Lean function (tested against real Go, not proved from fmt's source: count such statements apart). THE CARD IS WHAT COUNTS. Prove the row's statement (the work); the ties are given (YtonegoemmologaaGreatDoorTie.lean); close each card by the builder's one call (the guide's Derived/Test/ToyasCard.lean, 'card_holds'). Laid BY PROGRAM, IN A SANDBOX (cutbox-door.mjs). By AI agents, Wed Nov 11 2026. No macro, syntax, notation, axiom, sorry.
-/
import Derived.Test.YtonegoemmologaaGreatDoorRows
import GoSem.ClaimSeven
namespace Go.Proofs.YtonegoemmologaaGreatDoor
namespace Rows

/-- THE TIED CARD OF 'laws.FnMsgDefaults'. -/
def fnMsgDefaultsCard : Claim7 := { stood := { row := fnMsgDefaultsRow, standIns := [], harness := (true, "0309cd467b7ed1e3bc2fb134668911f5c258bfdbfd52093abb6ca471f5bf6e73"), looks := true }, kinds := [], alts := [], laidByText := true, laidKinds := [.data, .data, .widerDeep, .widerDeep, .data, .data, .data, .data, .data, .data, .sentinel, .sentinel, .sentinel, .pinned, .pinned, .pinned], laidTests := true, laidLooks := .later }
def FnMsgDefaultsCardSaid : Prop := Claim7.holds Tryz.pinned (.plain (OpenSpec.ofChange fnMsgDefaultsSpec)) fnMsgDefaultsCard

/-- THE SECOND FORM's CARD OF 'laws.FnMsgDefaults'. -/
def fnMsgDefaultsUptoCard : Claim7 := { stood := { row := fnMsgDefaultsUptoRow, standIns := [], harness := (true, "0309cd467b7ed1e3bc2fb134668911f5c258bfdbfd52093abb6ca471f5bf6e73"), looks := true }, kinds := [], alts := [], laidByText := true, laidKinds := [.data, .data, .widerDeep, .widerDeep, .data, .data, .data, .data, .data, .data, .sentinel, .sentinel, .sentinel, .pinned, .pinned, .pinned], laidTests := true, laidLooks := .later }
def FnMsgDefaultsUptoCardSaid : Prop := Claim7.holds Tryz.pinned (.plain (OpenSpec.upto fnMsgDefaultsSpec)) fnMsgDefaultsUptoCard
end Rows
end Go.Proofs.YtonegoemmologaaGreatDoor
