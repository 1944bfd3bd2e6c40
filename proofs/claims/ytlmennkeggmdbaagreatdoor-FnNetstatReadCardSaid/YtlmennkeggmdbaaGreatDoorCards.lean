/-
  DERIVED. GIVEN WITH THE SEED: THE CARDS: each row of YtlmennkeggmdbaaGreatDoorRows.lean that lists a variable, with what it lists TIED to the program's text (the seventh form; the later family's looks); each row that meets fmt, with fmt's text TOLD by the authors' own Lean function (tested against real Go, not proved from fmt's source: count such statements apart). THE CARD IS WHAT COUNTS. Prove the row's statement (the work); the ties are given (YtlmennkeggmdbaaGreatDoorTie.lean); close each card by the builder's one call (the guide's Derived/Test/ToyasCard.lean, 'card_holds'). Laid BY PROGRAM, IN A SANDBOX (cutbox-door.mjs). By AI agents, Wed Nov 11 2026. No macro, syntax, notation, axiom, sorry.
-/
import Derived.Test.YtlmennkeggmdbaaGreatDoorRows
import GoSem.ClaimSeven
namespace Go.Proofs.YtlmennkeggmdbaaGreatDoor
namespace Rows

/-- THE TIED CARD OF 'laws.FnNetstatRead'. -/
def fnNetstatReadCard : Claim7 := { stood := { row := fnNetstatReadRow, standIns := [], harness := (true, "a875a5ce52bbc8b02b0d5d54403297b05033ce5e101d51bd53d4a20d4f9e11a1"), looks := true }, kinds := [], alts := [], laidByText := true, laidKinds := [.data, .data, .widerDeep, .widerDeep, .data, .data, .data, .data, .data, .sentinel, .sentinel, .listed, .data, .pinned, .pinned], laidTests := true, laidLooks := .later }
def FnNetstatReadCardSaid : Prop := Claim7.holds Tryz.pinned (.plain (OpenSpec.ofChange fnNetstatReadSpec)) fnNetstatReadCard

/-- THE SECOND FORM's CARD OF 'laws.FnNetstatRead'. -/
def fnNetstatReadUptoCard : Claim7 := { stood := { row := fnNetstatReadUptoRow, standIns := [], harness := (true, "a875a5ce52bbc8b02b0d5d54403297b05033ce5e101d51bd53d4a20d4f9e11a1"), looks := true }, kinds := [], alts := [], laidByText := true, laidKinds := [.data, .data, .widerDeep, .widerDeep, .data, .data, .data, .data, .data, .sentinel, .sentinel, .listed, .data, .pinned, .pinned], laidTests := true, laidLooks := .later }
def FnNetstatReadUptoCardSaid : Prop := Claim7.holds Tryz.pinned (.plain (OpenSpec.upto fnNetstatReadSpec)) fnNetstatReadUptoCard
end Rows
end Go.Proofs.YtlmennkeggmdbaaGreatDoor
