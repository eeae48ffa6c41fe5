/-
  DERIVED. GIVEN WITH THE SEED: THE CARDS: each row of YtmdpodeegdjkeaaGreatDoorRows.lean that lists a variable, with what it lists TIED to the program's text (the seventh form; the later family's looks); each row that meets fmt, with fmt's text TOLD by the authors' own Lean function (tested against real Go, not proved from fmt's source: count such statements apart). THE CARD IS WHAT COUNTS. Prove the row's statement (the work); the ties are given (YtmdpodeegdjkeaaGreatDoorTie.lean); close each card by the builder's one call (the guide's Derived/Test/ToyasCard.lean, 'card_holds'). Laid BY PROGRAM, IN A SANDBOX (cutbox-door.mjs). By AI agents, Wed Nov 11 2026. No macro, syntax, notation, axiom, sorry.
-/
import Derived.Test.YtmdpodeegdjkeaaGreatDoorRows
import GoSem.ClaimSeven
namespace Go.Proofs.YtmdpodeegdjkeaaGreatDoor
namespace Rows

/-- THE TIED CARD OF 'laws.FnReadDescribed'. -/
def fnReadDescribedCard : Claim7 := { stood := { row := fnReadDescribedRow, standIns := [], harness := (true, "65b208f980df6368939682f9f276529d891ee9282ecc6487620df5c2f5dcae81"), looks := true }, kinds := [], alts := [], laidByText := true, laidKinds := [.data, .sentinel, .pinned], laidTests := true, laidLooks := .later }
def FnReadDescribedCardSaid : Prop := Claim7.holds Tryz.pinned (.plain (OpenSpec.ofChange fnReadDescribedSpec)) fnReadDescribedCard

/-- THE TIED CARD OF 'laws.FnReadAnnotations'. -/
def fnReadAnnotationsCard : Claim7 := { stood := { row := fnReadAnnotationsRow, standIns := [], harness := (true, "65b208f980df6368939682f9f276529d891ee9282ecc6487620df5c2f5dcae81"), looks := true }, kinds := [], alts := [], laidByText := true, laidKinds := [.data, .sentinel, .pinned], laidTests := true, laidLooks := .later }
def FnReadAnnotationsCardSaid : Prop := Claim7.holds Tryz.pinned (.plain (OpenSpec.ofChange fnReadAnnotationsSpec)) fnReadAnnotationsCard

/-- THE TIED CARD OF 'laws.FnReadList'. -/
def fnReadListCard : Claim7 := { stood := { row := fnReadListRow, standIns := [], harness := (true, "65b208f980df6368939682f9f276529d891ee9282ecc6487620df5c2f5dcae81"), looks := true }, kinds := [], alts := [], laidByText := true, laidKinds := [.data, .sentinel, .pinned], laidTests := true, laidLooks := .later }
def FnReadListCardSaid : Prop := Claim7.holds Tryz.pinned (.plain (OpenSpec.ofChange fnReadListSpec)) fnReadListCard

/-- THE TIED CARD OF 'laws.FnReadMap'. -/
def fnReadMapCard : Claim7 := { stood := { row := fnReadMapRow, standIns := [], harness := (true, "65b208f980df6368939682f9f276529d891ee9282ecc6487620df5c2f5dcae81"), looks := true }, kinds := [], alts := [], laidByText := true, laidKinds := [.data, .sentinel, .pinned], laidTests := true, laidLooks := .later }
def FnReadMapCardSaid : Prop := Claim7.holds Tryz.pinned (.plain (OpenSpec.ofChange fnReadMapSpec)) fnReadMapCard

/-- THE TIED CARD OF 'laws.FnReadSymbolMap'. -/
def fnReadSymbolMapCard : Claim7 := { stood := { row := fnReadSymbolMapRow, standIns := [], harness := (true, "65b208f980df6368939682f9f276529d891ee9282ecc6487620df5c2f5dcae81"), looks := true }, kinds := [], alts := [], laidByText := true, laidKinds := [.data, .sentinel, .pinned], laidTests := true, laidLooks := .later }
def FnReadSymbolMapCardSaid : Prop := Claim7.holds Tryz.pinned (.plain (OpenSpec.ofChange fnReadSymbolMapSpec)) fnReadSymbolMapCard

/-- THE TIED CARD OF 'laws.FnReadTextMap'. -/
def fnReadTextMapCard : Claim7 := { stood := { row := fnReadTextMapRow, standIns := [], harness := (true, "65b208f980df6368939682f9f276529d891ee9282ecc6487620df5c2f5dcae81"), looks := true }, kinds := [], alts := [], laidByText := true, laidKinds := [.data, .sentinel, .pinned], laidTests := true, laidLooks := .later }
def FnReadTextMapCardSaid : Prop := Claim7.holds Tryz.pinned (.plain (OpenSpec.ofChange fnReadTextMapSpec)) fnReadTextMapCard

/-- THE TIED CARD OF 'laws.FnReadValue'. -/
def fnReadValueCard : Claim7 := { stood := { row := fnReadValueRow, standIns := [], harness := (true, "65b208f980df6368939682f9f276529d891ee9282ecc6487620df5c2f5dcae81"), looks := true }, kinds := [], alts := [], laidByText := true, laidKinds := [.data, .sentinel, .pinned], laidTests := true, laidLooks := .later }
def FnReadValueCardSaid : Prop := Claim7.holds Tryz.pinned (.plain (OpenSpec.ofChange fnReadValueSpec)) fnReadValueCard

/-- THE SECOND FORM's CARD OF 'laws.FnReadDescribed'. -/
def fnReadDescribedUptoCard : Claim7 := { stood := { row := fnReadDescribedUptoRow, standIns := [], harness := (true, "65b208f980df6368939682f9f276529d891ee9282ecc6487620df5c2f5dcae81"), looks := true }, kinds := [], alts := [], laidByText := true, laidKinds := [.data, .sentinel, .pinned], laidTests := true, laidLooks := .later }
def FnReadDescribedUptoCardSaid : Prop := Claim7.holds Tryz.pinned (.plain (OpenSpec.upto fnReadDescribedSpec)) fnReadDescribedUptoCard

/-- THE SECOND FORM's CARD OF 'laws.FnReadAnnotations'. -/
def fnReadAnnotationsUptoCard : Claim7 := { stood := { row := fnReadAnnotationsUptoRow, standIns := [], harness := (true, "65b208f980df6368939682f9f276529d891ee9282ecc6487620df5c2f5dcae81"), looks := true }, kinds := [], alts := [], laidByText := true, laidKinds := [.data, .sentinel, .pinned], laidTests := true, laidLooks := .later }
def FnReadAnnotationsUptoCardSaid : Prop := Claim7.holds Tryz.pinned (.plain (OpenSpec.upto fnReadAnnotationsSpec)) fnReadAnnotationsUptoCard

/-- THE SECOND FORM's CARD OF 'laws.FnReadList'. -/
def fnReadListUptoCard : Claim7 := { stood := { row := fnReadListUptoRow, standIns := [], harness := (true, "65b208f980df6368939682f9f276529d891ee9282ecc6487620df5c2f5dcae81"), looks := true }, kinds := [], alts := [], laidByText := true, laidKinds := [.data, .sentinel, .pinned], laidTests := true, laidLooks := .later }
def FnReadListUptoCardSaid : Prop := Claim7.holds Tryz.pinned (.plain (OpenSpec.upto fnReadListSpec)) fnReadListUptoCard

/-- THE SECOND FORM's CARD OF 'laws.FnReadMap'. -/
def fnReadMapUptoCard : Claim7 := { stood := { row := fnReadMapUptoRow, standIns := [], harness := (true, "65b208f980df6368939682f9f276529d891ee9282ecc6487620df5c2f5dcae81"), looks := true }, kinds := [], alts := [], laidByText := true, laidKinds := [.data, .sentinel, .pinned], laidTests := true, laidLooks := .later }
def FnReadMapUptoCardSaid : Prop := Claim7.holds Tryz.pinned (.plain (OpenSpec.upto fnReadMapSpec)) fnReadMapUptoCard

/-- THE SECOND FORM's CARD OF 'laws.FnReadSymbolMap'. -/
def fnReadSymbolMapUptoCard : Claim7 := { stood := { row := fnReadSymbolMapUptoRow, standIns := [], harness := (true, "65b208f980df6368939682f9f276529d891ee9282ecc6487620df5c2f5dcae81"), looks := true }, kinds := [], alts := [], laidByText := true, laidKinds := [.data, .sentinel, .pinned], laidTests := true, laidLooks := .later }
def FnReadSymbolMapUptoCardSaid : Prop := Claim7.holds Tryz.pinned (.plain (OpenSpec.upto fnReadSymbolMapSpec)) fnReadSymbolMapUptoCard

/-- THE SECOND FORM's CARD OF 'laws.FnReadTextMap'. -/
def fnReadTextMapUptoCard : Claim7 := { stood := { row := fnReadTextMapUptoRow, standIns := [], harness := (true, "65b208f980df6368939682f9f276529d891ee9282ecc6487620df5c2f5dcae81"), looks := true }, kinds := [], alts := [], laidByText := true, laidKinds := [.data, .sentinel, .pinned], laidTests := true, laidLooks := .later }
def FnReadTextMapUptoCardSaid : Prop := Claim7.holds Tryz.pinned (.plain (OpenSpec.upto fnReadTextMapSpec)) fnReadTextMapUptoCard

/-- THE SECOND FORM's CARD OF 'laws.FnReadValue'. -/
def fnReadValueUptoCard : Claim7 := { stood := { row := fnReadValueUptoRow, standIns := [], harness := (true, "65b208f980df6368939682f9f276529d891ee9282ecc6487620df5c2f5dcae81"), looks := true }, kinds := [], alts := [], laidByText := true, laidKinds := [.data, .sentinel, .pinned], laidTests := true, laidLooks := .later }
def FnReadValueUptoCardSaid : Prop := Claim7.holds Tryz.pinned (.plain (OpenSpec.upto fnReadValueSpec)) fnReadValueUptoCard
end Rows
end Go.Proofs.YtmdpodeegdjkeaaGreatDoor
