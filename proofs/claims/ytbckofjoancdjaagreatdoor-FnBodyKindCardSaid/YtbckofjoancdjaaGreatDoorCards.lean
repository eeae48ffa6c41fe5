/-
  DERIVED. GIVEN WITH THE SEED: THE CARDS: each row of YtbckofjoancdjaaGreatDoorRows.lean that lists a variable, with what it lists TIED to the program's text (the seventh form; the later family's looks); each row that meets fmt, with fmt's text TOLD by the authors' own Lean function (tested against real Go, not proved from fmt's source: count such statements apart). THE CARD IS WHAT COUNTS. Prove the row's statement (the work); the ties are given (YtbckofjoancdjaaGreatDoorTie.lean); close each card by the builder's one call (the guide's Derived/Test/ToyasCard.lean, 'card_holds'). Laid BY PROGRAM, IN A SANDBOX (cutbox-door.mjs). By AI agents, Wed Nov 11 2026. No macro, syntax, notation, axiom, sorry.
-/
import Derived.Test.YtbckofjoancdjaaGreatDoorRows
import GoSem.ClaimSeven
namespace Go.Proofs.YtbckofjoancdjaaGreatDoor
namespace Rows

/-- THE TIED CARD OF 'laws.FnBodyKind'. -/
def fnBodyKindCard : Claim7 := { stood := { row := fnBodyKindRow, standIns := [], harness := (true, "3c4b7507d9e5b0ee3a7454c37c2e05b2208643750b63c19208430ee7a422793d"), looks := true }, kinds := [], alts := [], laidByText := true, laidKinds := [.sentinel], laidTests := true, laidLooks := .later }
def FnBodyKindCardSaid : Prop := Claim7.holds Tryz.pinned (.plain (OpenSpec.ofChange fnBodyKindSpec)) fnBodyKindCard

/-- THE SECOND FORM's CARD OF 'laws.FnBodyKind'. -/
def fnBodyKindUptoCard : Claim7 := { stood := { row := fnBodyKindUptoRow, standIns := [], harness := (true, "3c4b7507d9e5b0ee3a7454c37c2e05b2208643750b63c19208430ee7a422793d"), looks := true }, kinds := [], alts := [], laidByText := true, laidKinds := [.sentinel], laidTests := true, laidLooks := .later }
def FnBodyKindUptoCardSaid : Prop := Claim7.holds Tryz.pinned (.plain (OpenSpec.upto fnBodyKindSpec)) fnBodyKindUptoCard
end Rows
end Go.Proofs.YtbckofjoancdjaaGreatDoor
