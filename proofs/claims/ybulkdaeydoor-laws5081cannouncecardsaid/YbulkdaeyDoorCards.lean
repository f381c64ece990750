/-
  DERIVED. GIVEN WITH THE SEED: THE CARDS: each row of YbulkdaeyDoorRows.lean that lists a variable, with what it lists TIED to the program's text (the seventh form; the later family's looks); each row that meets fmt, with fmt's text TOLD by the authors' own Lean function (tested against real Go, not proved from fmt's source: count such statements apart). THE CARD IS WHAT COUNTS. Prove the row's statement (the work); the ties are given (YbulkdaeyDoorTie.lean); close each card by the builder's one call (the guide's Derived/Test/ToyasCard.lean, 'card_holds'). Laid BY PROGRAM, IN A SANDBOX (cutbox-door.mjs). By AI agents, Wed Nov 11 2026. No macro, syntax, notation, axiom, sorry.
-/
import Derived.Test.YbulkdaeyDoorRows
import GoSem.ClaimSeven
namespace Go.Proofs.YbulkdaeyDoor
namespace Rows

/-- THE TIED CARD OF 'tree.LawS5081ASends'. -/
def lawS5081ASendsCard : Claim7 := { stood := { row := lawS5081ASendsRow, standIns := [], harness := (true, "b222df43538f3691b48b8e18f1abebdfb65c39337a38bce531da0b6928ccdcca"), looks := true }, kinds := [], alts := [], laidByText := true, laidKinds := [.wider, .sentinel], laidTests := true, laidLooks := .later }
def LawS5081ASendsCardSaid : Prop := Claim7.holds Ybad.pinned (.plain (OpenSpec.ofChange lawS5081ASendsSpec)) lawS5081ASendsCard

/-- THE TIED CARD OF 'tree.LawS5081AParent'. -/
def lawS5081AParentCard : Claim7 := { stood := { row := lawS5081AParentRow, standIns := [], harness := (true, "b222df43538f3691b48b8e18f1abebdfb65c39337a38bce531da0b6928ccdcca"), looks := true }, kinds := [], alts := [], laidByText := true, laidKinds := [.wider, .sentinel], laidTests := true, laidLooks := .later }
def LawS5081AParentCardSaid : Prop := Claim7.holds Ybad.pinned (.plain (OpenSpec.ofChange lawS5081AParentSpec)) lawS5081AParentCard

/-- THE TIED CARD OF 'tree.LawS5081CAnnounce'. -/
def lawS5081CAnnounceCard : Claim7 := { stood := { row := lawS5081CAnnounceRow, standIns := [], harness := (true, "b222df43538f3691b48b8e18f1abebdfb65c39337a38bce531da0b6928ccdcca"), looks := true }, kinds := [], alts := [], laidByText := true, laidKinds := [.sentinel, .sentinel], laidTests := true, laidLooks := .later }
def LawS5081CAnnounceCardSaid : Prop := Claim7.holds Ybad.pinned (.plain (OpenSpec.ofChange lawS5081CAnnounceSpec)) lawS5081CAnnounceCard
end Rows
end Go.Proofs.YbulkdaeyDoor
