/-
  DERIVED. GIVEN WITH THE SEED: THE CARDS: each row of YtopmbledpalmdaaGreatDoorRows.lean that lists a variable, with what it lists TIED to the program's text (the seventh form; the later family's looks); each row that meets fmt, with fmt's text TOLD by the authors' own Lean function (tested against real Go, not proved from fmt's source: count such statements apart). THE CARD IS WHAT COUNTS. Prove the row's statement (the work); the ties are given (YtopmbledpalmdaaGreatDoorTie.lean); close each card by the builder's one call (the guide's Derived/Test/ToyasCard.lean, 'card_holds'). Laid BY PROGRAM, IN A SANDBOX (cutbox-door.mjs). By AI agents, Wed Nov 11 2026. No macro, syntax, notation, axiom, sorry.
-/
import Derived.Test.YtopmbledpalmdaaGreatDoorRows
import GoSem.ClaimSeven
namespace Go.Proofs.YtopmbledpalmdaaGreatDoor
namespace Rows

/-- THE TIED CARD OF 'laws.FnPlaced'. -/
def fnPlacedCard : Claim7 := { stood := { row := fnPlacedRow, standIns := [], harness := (true, "bea319c1bafee15a86ef4ad6955027edcd139d16c4352431bc4230a1790e6540"), looks := false }, kinds := [], alts := [], laidByText := true, laidKinds := [.data, .data, .data, .data, .data, .data, .data, .data, .data, .data, .pinned, .pinned], laidTests := true, laidLooks := .later }
def FnPlacedCardSaid : Prop := Claim7.holds Tryz.pinned (.plain (OpenSpec.ofChange fnPlacedSpec)) fnPlacedCard

/-- THE SECOND FORM's CARD OF 'laws.FnPlaced'. -/
def fnPlacedUptoCard : Claim7 := { stood := { row := fnPlacedUptoRow, standIns := [], harness := (true, "bea319c1bafee15a86ef4ad6955027edcd139d16c4352431bc4230a1790e6540"), looks := false }, kinds := [], alts := [], laidByText := true, laidKinds := [.data, .data, .data, .data, .data, .data, .data, .data, .data, .data, .pinned, .pinned], laidTests := true, laidLooks := .later }
def FnPlacedUptoCardSaid : Prop := Claim7.holds Tryz.pinned (.plain (OpenSpec.upto fnPlacedSpec)) fnPlacedUptoCard
end Rows
end Go.Proofs.YtopmbledpalmdaaGreatDoor
