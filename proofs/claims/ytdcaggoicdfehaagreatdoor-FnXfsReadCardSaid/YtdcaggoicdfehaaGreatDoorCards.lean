/-
  DERIVED. GIVEN WITH THE SEED: THE CARDS: each row of YtdcaggoicdfehaaGreatDoorRows.lean that lists a variable, with what it lists TIED to the program's text (the seventh form; the later family's looks); each row that meets fmt, with fmt's text TOLD by the authors' own Lean function (tested against real Go, not proved from fmt's source: count such statements apart). THE CARD IS WHAT COUNTS. Prove the row's statement (the work); the ties are given (YtdcaggoicdfehaaGreatDoorTie.lean); close each card by the builder's one call (the guide's Derived/Test/ToyasCard.lean, 'card_holds'). Laid BY PROGRAM, IN A SANDBOX (cutbox-door.mjs). By AI agents, Wed Nov 11 2026. No macro, syntax, notation, axiom, sorry.
-/
import Derived.Test.YtdcaggoicdfehaaGreatDoorRows
import GoSem.ClaimSeven
namespace Go.Proofs.YtdcaggoicdfehaaGreatDoor
namespace Rows

/-- THE TIED CARD OF 'laws.FnXfsRead'. -/
def fnXfsReadCard : Claim7 := { stood := { row := fnXfsReadRow, standIns := [], harness := (true, "2ba448753c3aaf0202b289d428bcfba36b0a0f91a0365e53947e61e565138096"), looks := true }, kinds := [], alts := [], laidByText := true, laidKinds := [.data, .data, .widerDeep, .widerDeep, .data, .data, .data, .data, .data, .sentinel, .sentinel, .listed, .data, .pinned, .pinned], laidTests := true, laidLooks := .later }
def FnXfsReadCardSaid : Prop := Claim7.holds Tryz.pinned (.plain (OpenSpec.ofChange fnXfsReadSpec)) fnXfsReadCard

/-- THE SECOND FORM's CARD OF 'laws.FnXfsRead'. -/
def fnXfsReadUptoCard : Claim7 := { stood := { row := fnXfsReadUptoRow, standIns := [], harness := (true, "2ba448753c3aaf0202b289d428bcfba36b0a0f91a0365e53947e61e565138096"), looks := true }, kinds := [], alts := [], laidByText := true, laidKinds := [.data, .data, .widerDeep, .widerDeep, .data, .data, .data, .data, .data, .sentinel, .sentinel, .listed, .data, .pinned, .pinned], laidTests := true, laidLooks := .later }
def FnXfsReadUptoCardSaid : Prop := Claim7.holds Tryz.pinned (.plain (OpenSpec.upto fnXfsReadSpec)) fnXfsReadUptoCard
end Rows
end Go.Proofs.YtdcaggoicdfehaaGreatDoor
