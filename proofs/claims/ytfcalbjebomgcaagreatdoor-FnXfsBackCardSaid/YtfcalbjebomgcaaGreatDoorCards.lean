/-
  DERIVED. GIVEN WITH THE SEED: THE CARDS: each row of YtfcalbjebomgcaaGreatDoorRows.lean that lists a variable, with what it lists TIED to the program's text (the seventh form; the later family's looks); each row that meets fmt, with fmt's text TOLD by the authors' own Lean function (tested against real Go, not proved from fmt's source: count such statements apart). THE CARD IS WHAT COUNTS. Prove the row's statement (the work); the ties are given (YtfcalbjebomgcaaGreatDoorTie.lean); close each card by the builder's one call (the guide's Derived/Test/ToyasCard.lean, 'card_holds'). Laid BY PROGRAM, IN A SANDBOX (cutbox-door.mjs). By AI agents, Wed Nov 11 2026. No macro, syntax, notation, axiom, sorry.
-/
import Derived.Test.YtfcalbjebomgcaaGreatDoorRows
import GoSem.ClaimSeven
namespace Go.Proofs.YtfcalbjebomgcaaGreatDoor
namespace Rows

/-- THE TIED CARD OF 'laws.FnXfsBack'. -/
def fnXfsBackCard : Claim7 := { stood := { row := fnXfsBackRow, standIns := [], harness := (true, "57abaf0ee635d8db38e89bd9b770447034a855ab27a571d7417f7a9e37f28877"), looks := true }, kinds := [], alts := [], laidByText := true, laidKinds := [.data, .data, .widerDeep, .widerDeep, .data, .data, .data, .data, .data, .sentinel, .sentinel, .listed, .data, .pinned, .pinned], laidTests := true, laidLooks := .later }
def FnXfsBackCardSaid : Prop := Claim7.holds Tryz.pinned (.plain (OpenSpec.ofChange fnXfsBackSpec)) fnXfsBackCard

/-- THE SECOND FORM's CARD OF 'laws.FnXfsBack'. -/
def fnXfsBackUptoCard : Claim7 := { stood := { row := fnXfsBackUptoRow, standIns := [], harness := (true, "57abaf0ee635d8db38e89bd9b770447034a855ab27a571d7417f7a9e37f28877"), looks := true }, kinds := [], alts := [], laidByText := true, laidKinds := [.data, .data, .widerDeep, .widerDeep, .data, .data, .data, .data, .data, .sentinel, .sentinel, .listed, .data, .pinned, .pinned], laidTests := true, laidLooks := .later }
def FnXfsBackUptoCardSaid : Prop := Claim7.holds Tryz.pinned (.plain (OpenSpec.upto fnXfsBackSpec)) fnXfsBackUptoCard
end Rows
end Go.Proofs.YtfcalbjebomgcaaGreatDoor
