/-
  DERIVED. GIVEN WITH THE SEED: THE CARDS: each row of YtapfahngeaojkaaGreatDoorRows.lean that lists a variable, with what it lists TIED to the program's text (the seventh form; the later family's looks); each row that meets fmt, with fmt's text TOLD by the authors' own Lean function (tested against real Go, not proved from fmt's source: count such statements apart). THE CARD IS WHAT COUNTS. Prove the row's statement (the work); the ties are given (YtapfahngeaojkaaGreatDoorTie.lean); close each card by the builder's one call (the guide's Derived/Test/ToyasCard.lean, 'card_holds'). Laid BY PROGRAM, IN A SANDBOX (cutbox-door.mjs). By AI agents, Wed Nov 11 2026. No macro, syntax, notation, axiom, sorry.
-/
import Derived.Test.YtapfahngeaojkaaGreatDoorRows
import GoSem.ClaimSeven
namespace Go.Proofs.YtapfahngeaojkaaGreatDoor
namespace Rows

/-- THE TIED CARD OF 'laws.FnPutAny'. -/
def fnPutAnyCard : Claim7 := { stood := { row := fnPutAnyRow, standIns := [], harness := (true, "99ad9540c2ba7630284b5a1a98af8dee1bf80d1261a70138170acacfb3116d2b"), looks := true }, kinds := [], alts := [], laidByText := true, laidKinds := [.data, .data, .widerDeep, .widerDeep, .data, .data, .data, .data, .data, .sentinel, .sentinel, .pinned, .pinned], laidTests := true, laidLooks := .later }
def FnPutAnyCardSaid : Prop := Claim7.holds Tryz.pinned (.plain (OpenSpec.ofChange fnPutAnySpec)) fnPutAnyCard

/-- THE SECOND FORM's CARD OF 'laws.FnPutAny'. -/
def fnPutAnyUptoCard : Claim7 := { stood := { row := fnPutAnyUptoRow, standIns := [], harness := (true, "99ad9540c2ba7630284b5a1a98af8dee1bf80d1261a70138170acacfb3116d2b"), looks := true }, kinds := [], alts := [], laidByText := true, laidKinds := [.data, .data, .widerDeep, .widerDeep, .data, .data, .data, .data, .data, .sentinel, .sentinel, .pinned, .pinned], laidTests := true, laidLooks := .later }
def FnPutAnyUptoCardSaid : Prop := Claim7.holds Tryz.pinned (.plain (OpenSpec.upto fnPutAnySpec)) fnPutAnyUptoCard
end Rows
end Go.Proofs.YtapfahngeaojkaaGreatDoor
