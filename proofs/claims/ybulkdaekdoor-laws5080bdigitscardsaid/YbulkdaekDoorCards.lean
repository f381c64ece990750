/-
  DERIVED. GIVEN WITH THE SEED: THE CARDS: each row of YbulkdaekDoorRows.lean that lists a variable, with what it lists TIED to the program's text (the seventh form; the later family's looks); each row that meets fmt, with fmt's text TOLD by the authors' own Lean function (tested against real Go, not proved from fmt's source: count such statements apart). THE CARD IS WHAT COUNTS. Prove the row's statement (the work); the ties are given (YbulkdaekDoorTie.lean); close each card by the builder's one call (the guide's Derived/Test/ToyasCard.lean, 'card_holds'). Laid BY PROGRAM, IN A SANDBOX (cutbox-door.mjs). By AI agents, Wed Nov 11 2026. No macro, syntax, notation, axiom, sorry.
-/
import Derived.Test.YbulkdaekDoorRows
import GoSem.ClaimSeven
namespace Go.Proofs.YbulkdaekDoor
namespace Rows

/-- THE TIED CARD OF 'lmap.LawS5080BDigits'. -/
def lawS5080BDigitsCard : Claim7 := { stood := { row := lawS5080BDigitsRow, standIns := [], harness := (true, "15f329135ec941dc349ce284b8e870fdcfc765d65271d6e1617fb0d2d2c34f2f"), looks := true }, kinds := [], alts := [], laidByText := true, laidKinds := [.data, .data, .data, .sentinel, .sentinel], laidTests := true, laidLooks := .later }
def LawS5080BDigitsCardSaid : Prop := Claim7.holds Ybad.pinned (.plain (OpenSpec.ofChange lawS5080BDigitsSpec)) lawS5080BDigitsCard

/-- THE TIED CARD OF 'lmap.LawS5080BAnyText'. -/
def lawS5080BAnyTextCard : Claim7 := { stood := { row := lawS5080BAnyTextRow, standIns := [], harness := (true, "15f329135ec941dc349ce284b8e870fdcfc765d65271d6e1617fb0d2d2c34f2f"), looks := true }, kinds := [], alts := [], laidByText := true, laidKinds := [.data, .data, .data, .sentinel, .sentinel], laidTests := true, laidLooks := .later }
def LawS5080BAnyTextCardSaid : Prop := Claim7.holds Ybad.pinned (.plain (OpenSpec.ofChange lawS5080BAnyTextSpec)) lawS5080BAnyTextCard

/-- THE TIED CARD OF 'lmap.LawS5080BRoundTrip'. -/
def lawS5080BRoundTripCard : Claim7 := { stood := { row := lawS5080BRoundTripRow, standIns := [], harness := (true, "15f329135ec941dc349ce284b8e870fdcfc765d65271d6e1617fb0d2d2c34f2f"), looks := true }, kinds := [], alts := [], laidByText := true, laidKinds := [.data, .data, .data, .sentinel, .sentinel], laidTests := true, laidLooks := .later }
def LawS5080BRoundTripCardSaid : Prop := Claim7.holds Ybad.pinned (.plain (OpenSpec.ofChange lawS5080BRoundTripSpec)) lawS5080BRoundTripCard
end Rows
end Go.Proofs.YbulkdaekDoor
