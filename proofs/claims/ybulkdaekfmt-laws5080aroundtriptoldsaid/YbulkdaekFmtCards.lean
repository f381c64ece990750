/-
  DERIVED. GIVEN WITH THE SEED: THE CARDS: each row of YbulkdaekFmtRows.lean that lists a variable, with what it lists TIED to the program's text (the seventh form; the later family's looks); each row that meets fmt, with fmt's text TOLD by the authors' own Lean function (tested against real Go, not proved from fmt's source: count such statements apart). THE CARD IS WHAT COUNTS. Prove the row's statement (the work); the ties are given (YbulkdaekFmtTie.lean); close each card by the builder's one call (the guide's Derived/Test/ToyasCard.lean, 'card_holds'). Laid BY PROGRAM, IN A SANDBOX (cutbox-door.mjs). By AI agents, Wed Nov 11 2026. No macro, syntax, notation, axiom, sorry.
-/
import Derived.Test.YbulkdaekFmtRows
import GoSem.ClaimSeven
namespace Go.Proofs.YbulkdaekFmt
namespace Rows

/-- THE TOLD AND TIED CARD OF 'lmap.LawS5080AExact'. -/
def lawS5080AExactCard : Claim7 := { stood := { row := lawS5080AExactRow, standIns := [], harness := (true, "ae5c79f1f2ba44fa659ba590712ebe2dca734ad12d6fe38e7a690e0ae8a47ac1"), looks := false }, told := true, laidByText := true, laidKinds := [.data], laidTests := true, laidLooks := .later, goes := false }
def LawS5080AExactToldSaid : Prop := Claim7.holds Ybaf.pinned (.plain (OpenSpec.ofChange lawS5080AExactSpec)) lawS5080AExactCard
/-- ITS FALSE NEIGHBOUR. Refute it at one input. -/
def LawS5080AExactToldWrongFalsely : Prop := Claim7.holds Ybaf.pinned (.plain (OpenSpec.ofChange lawS5080AExactWrong)) lawS5080AExactCard

/-- THE TOLD AND TIED CARD OF 'lmap.LawS5080ARoundTrip'. -/
def lawS5080ARoundTripCard : Claim7 := { stood := { row := lawS5080ARoundTripRow, standIns := [], harness := (true, "ae5c79f1f2ba44fa659ba590712ebe2dca734ad12d6fe38e7a690e0ae8a47ac1"), looks := false }, told := true, laidByText := true, laidKinds := [.data], laidTests := true, laidLooks := .later, goes := false }
def LawS5080ARoundTripToldSaid : Prop := Claim7.holds Ybaf.pinned (.plain (OpenSpec.ofChange lawS5080ARoundTripSpec)) lawS5080ARoundTripCard
/-- ITS FALSE NEIGHBOUR. Refute it at one input. -/
def LawS5080ARoundTripToldWrongFalsely : Prop := Claim7.holds Ybaf.pinned (.plain (OpenSpec.ofChange lawS5080ARoundTripWrong)) lawS5080ARoundTripCard
end Rows
end Go.Proofs.YbulkdaekFmt
