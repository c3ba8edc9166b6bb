/-
  DERIVED. GIVEN WITH THE SEED: THE CARDS: each row of YtdfbokmjipdolaaGreatDoorRows.lean that lists a variable, with what it lists TIED to the program's text (the seventh form; the later family's looks); each row that meets fmt, with fmt's text TOLD by the authors' own Lean function (tested against real Go, not proved from fmt's source: count such statements apart). THE CARD IS WHAT COUNTS. Prove the row's statement (the work); the ties are given (YtdfbokmjipdolaaGreatDoorTie.lean); close each card by the builder's one call (the guide's Derived/Test/ToyasCard.lean, 'card_holds'). Laid BY PROGRAM, IN A SANDBOX (cutbox-door.mjs). By AI agents, Wed Nov 11 2026. No macro, syntax, notation, axiom, sorry.
-/
import Derived.Test.YtdfbokmjipdolaaGreatDoorRows
import GoSem.ClaimSeven
namespace Go.Proofs.YtdfbokmjipdolaaGreatDoor
namespace Rows

/-- THE TIED CARD OF 'laws.FnMatchNot'. -/
def fnMatchNotCard : Claim7 := { stood := { row := fnMatchNotRow, standIns := [], harness := (true, "03626ae71bc4d61f48c030164ba4c5dbc528c106cf734340c0dab41c1e80edc3"), looks := true }, kinds := [], alts := [], laidByText := true, laidKinds := [.data, .data, .widerDeep, .widerDeep, .data, .data, .data, .data, .data, .data, .sentinel, .sentinel, .data, .data, .pinned, .pinned, .pinned, .pinned], laidTests := true, laidLooks := .later }
def FnMatchNotCardSaid : Prop := Claim7.holds Tryz.pinned (.plain (OpenSpec.ofChange fnMatchNotSpec)) fnMatchNotCard

/-- THE SECOND FORM's CARD OF 'laws.FnMatchNot'. -/
def fnMatchNotUptoCard : Claim7 := { stood := { row := fnMatchNotUptoRow, standIns := [], harness := (true, "03626ae71bc4d61f48c030164ba4c5dbc528c106cf734340c0dab41c1e80edc3"), looks := true }, kinds := [], alts := [], laidByText := true, laidKinds := [.data, .data, .widerDeep, .widerDeep, .data, .data, .data, .data, .data, .data, .sentinel, .sentinel, .data, .data, .pinned, .pinned, .pinned, .pinned], laidTests := true, laidLooks := .later }
def FnMatchNotUptoCardSaid : Prop := Claim7.holds Tryz.pinned (.plain (OpenSpec.upto fnMatchNotSpec)) fnMatchNotUptoCard
end Rows
end Go.Proofs.YtdfbokmjipdolaaGreatDoor
