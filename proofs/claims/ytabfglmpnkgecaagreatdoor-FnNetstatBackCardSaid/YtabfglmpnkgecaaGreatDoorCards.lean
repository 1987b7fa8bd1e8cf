/-
  DERIVED. GIVEN WITH THE SEED: THE CARDS: each row of YtabfglmpnkgecaaGreatDoorRows.lean that lists a variable, with what it lists TIED to the program's text (the seventh form; the later family's looks); each row that meets fmt, with fmt's text TOLD by the authors' own Lean function (tested against real Go, not proved from fmt's source: count such statements apart). THE CARD IS WHAT COUNTS. Prove the row's statement (the work); the ties are given (YtabfglmpnkgecaaGreatDoorTie.lean); close each card by the builder's one call (the guide's Derived/Test/ToyasCard.lean, 'card_holds'). Laid BY PROGRAM, IN A SANDBOX (cutbox-door.mjs). By AI agents, Wed Nov 11 2026. No macro, syntax, notation, axiom, sorry.
-/
import Derived.Test.YtabfglmpnkgecaaGreatDoorRows
import GoSem.ClaimSeven
namespace Go.Proofs.YtabfglmpnkgecaaGreatDoor
namespace Rows

/-- THE TIED CARD OF 'laws.FnNetstatBack'. -/
def fnNetstatBackCard : Claim7 := { stood := { row := fnNetstatBackRow, standIns := [], harness := (true, "d17477da53a5115e04e71ad8445a23281abad31edb536832281418b14943080e"), looks := true }, kinds := [], alts := [], laidByText := true, laidKinds := [.data, .data, .widerDeep, .widerDeep, .data, .data, .data, .data, .data, .sentinel, .sentinel, .listed, .data, .pinned, .pinned], laidTests := true, laidLooks := .later }
def FnNetstatBackCardSaid : Prop := Claim7.holds Tryz.pinned (.plain (OpenSpec.ofChange fnNetstatBackSpec)) fnNetstatBackCard

/-- THE SECOND FORM's CARD OF 'laws.FnNetstatBack'. -/
def fnNetstatBackUptoCard : Claim7 := { stood := { row := fnNetstatBackUptoRow, standIns := [], harness := (true, "d17477da53a5115e04e71ad8445a23281abad31edb536832281418b14943080e"), looks := true }, kinds := [], alts := [], laidByText := true, laidKinds := [.data, .data, .widerDeep, .widerDeep, .data, .data, .data, .data, .data, .sentinel, .sentinel, .listed, .data, .pinned, .pinned], laidTests := true, laidLooks := .later }
def FnNetstatBackUptoCardSaid : Prop := Claim7.holds Tryz.pinned (.plain (OpenSpec.upto fnNetstatBackSpec)) fnNetstatBackUptoCard
end Rows
end Go.Proofs.YtabfglmpnkgecaaGreatDoor
