/-
  NARROWER THAN 'FOR EVERY INPUT', by the rows' own cells (each row's printed sentence says how): LawS5080AExact: laid · LawS5080ARoundTrip: laid.
  DERIVED. THE GIVEN ROWS OF THIS SEAT. 2 by the template 'for every input the law returns true; each argument reads behind the call as it read before'; 0 by the template 'total and deterministic' (their statements: YbulkdaekFmtTotals.lean).
  GIVEN WITH THE SEED: the statements are not yours to turn. If you find one false, say at which input.
  Laid BY PROGRAM, IN A SANDBOX (cutbox-rows.mjs): the forced cells as the released guide's own fill.sh prints them over the translation e407f894b0c29fba… (all of the seat's roots in one cut). By AI agents, Wed Nov 11 2026. No macro, syntax, notation, axiom, sorry.
-/
import Derived.Test.YbulkdaekFmtChecked
import GoSem.Claim
import GoSem.ClaimJoined
import GoSem.ClaimMapViews
import Derived.JoinedTies
import Derived.KernelRfl
namespace Go.Proofs.YbulkdaekFmt
/- THE CELL 'sum', in the pinned program and in every row, IS THE sha256 OF THE DUMP (.gsa) THAT YbulkdaekFmtProg.lean LOADS. Nothing in Lean hashes anything: it is a label: what it is worth is what the hold of that sum in a sandbox is worth. -/
noncomputable def Ybaf.pinned : Pinned := { name := "ybulkdaekfmt", sum := "e407f894b0c29fba2aa1175ee123c4ece94c03131d19d7ddeaaa6aac46687718", checked := Ybaf.checked }
namespace Rows
def none {H : Type} : Left H := { results := [], args := [] }

/- WHAT THE LISTED PACKAGE-LEVEL VARIABLES READ AS WHEN THE CALL BEGINS. Each datum BY PROGRAM (the guide's laid-datum.mjs) off the statement by which the dump's own 'gosem.cut.vars' lays the variable. In a bare row this is a premise. The card (YbulkdaekFmtCards.lean) ties it to the program's text. -/
def laid_example_com_fathomline_fathomline_lmap_errorTagNames {H : Type} : DataW H := .slice [.lit (.string []), .lit (.string [105, 110, 45, 117, 115, 101]), .lit (.string [105, 110, 118, 97, 108, 105, 100, 45, 118, 97, 108, 117, 101]), .lit (.string [116, 111, 111, 45, 98, 105, 103]), .lit (.string [109, 105, 115, 115, 105, 110, 103, 45, 97, 116, 116, 114, 105, 98, 117, 116, 101]), .lit (.string [98, 97, 100, 45, 97, 116, 116, 114, 105, 98, 117, 116, 101]), .lit (.string [117, 110, 107, 110, 111, 119, 110, 45, 97, 116, 116, 114, 105, 98, 117, 116, 101]), .lit (.string [109, 105, 115, 115, 105, 110, 103, 45, 101, 108, 101, 109, 101, 110, 116]), .lit (.string [98, 97, 100, 45, 101, 108, 101, 109, 101, 110, 116]), .lit (.string [117, 110, 107, 110, 111, 119, 110, 45, 101, 108, 101, 109, 101, 110, 116]), .lit (.string [117, 110, 107, 110, 111, 119, 110, 45, 110, 97, 109, 101, 115, 112, 97, 99, 101]), .lit (.string [97, 99, 99, 101, 115, 115, 45, 100, 101, 110, 105, 101, 100]), .lit (.string [108, 111, 99, 107, 45, 100, 101, 110, 105, 101, 100]), .lit (.string [114, 101, 115, 111, 117, 114, 99, 101, 45, 100, 101, 110, 105, 101, 100]), .lit (.string [114, 111, 108, 108, 98, 97, 99, 107, 45, 102, 97, 105, 108, 101, 100]), .lit (.string [100, 97, 116, 97, 45, 101, 120, 105, 115, 116, 115]), .lit (.string [100, 97, 116, 97, 45, 109, 105, 115, 115, 105, 110, 103]), .lit (.string [111, 112, 101, 114, 97, 116, 105, 111, 110, 45, 110, 111, 116, 45, 115, 117, 112, 112, 111, 114, 116, 101, 100]), .lit (.string [111, 112, 101, 114, 97, 116, 105, 111, 110, 45, 102, 97, 105, 108, 101, 100]), .lit (.string [112, 97, 114, 116, 105, 97, 108, 45, 111, 112, 101, 114, 97, 116, 105, 111, 110]), .lit (.string [109, 97, 108, 102, 111, 114, 109, 101, 100, 45, 109, 101, 115, 115, 97, 103, 101])] []

/-- 'lmap.LawS5080AExact': WHATEVER THE INPUT: true; the input reads as it did. -/
def lawS5080AExactSpec : ChangeSpec := { name := "lawS5080AExact", vars := ["example.com/fathomline/fathomline/lmap.errorTagNames"], fn := fun _ => fun
  | [d, g1] => { results := [.lit (.bool true)], args := [d], vars := [g1] }
  | _ => none }
def lawS5080AExactRow : OpenClaim := { program := "ybulkdaekfmt", sum := "e407f894b0c29fba2aa1175ee123c4ece94c03131d19d7ddeaaa6aac46687718", func := "example.com/fathomline/fathomline/lmap.LawS5080AExact", spec := "lawS5080AExact", stops := ["fmt.errorf, its operands' methods called", "fmt.Sprintf, its operands' methods called"], inPlace := ["fmt.errorf"], unfollowed := true, recurses := true, named := ["example.com/fathomline/fathomline/lmap.errorTagNames"], apart := false, laid := [("example.com/fathomline/fathomline/lmap.errorTagNames", laid_example_com_fathomline_fathomline_lmap_errorTagNames)] }
/-- NO THEOREM (fmt's text is open here; it may be false): for the released tool's asking of the row's closed facts alone. THE STATEMENT IS 'LawS5080AExactToldSaid' (YbulkdaekFmtCards.lean). -/
def LawS5080AExactFormAsk : Prop := lawS5080AExactRow.holds Ybaf.pinned (OpenSpec.ofChange lawS5080AExactSpec)

/-- ITS FALSE NEIGHBOUR: 'it returns false'. Refute it at one input. -/
def lawS5080AExactWrong : ChangeSpec := { name := "lawS5080AExact", vars := ["example.com/fathomline/fathomline/lmap.errorTagNames"], fn := fun _ => fun
  | [d, g1] => { results := [.lit (.bool false)], args := [d], vars := [g1] }
  | _ => none }
def LawS5080AExactWrongFormAsk : Prop := lawS5080AExactRow.holds Ybaf.pinned (OpenSpec.ofChange lawS5080AExactWrong)

/-- 'lmap.LawS5080ARoundTrip': WHATEVER THE INPUT: true; the input reads as it did. -/
def lawS5080ARoundTripSpec : ChangeSpec := { name := "lawS5080ARoundTrip", vars := ["example.com/fathomline/fathomline/lmap.errorTagNames"], fn := fun _ => fun
  | [d, g1] => { results := [.lit (.bool true)], args := [d], vars := [g1] }
  | _ => none }
def lawS5080ARoundTripRow : OpenClaim := { program := "ybulkdaekfmt", sum := "e407f894b0c29fba2aa1175ee123c4ece94c03131d19d7ddeaaa6aac46687718", func := "example.com/fathomline/fathomline/lmap.LawS5080ARoundTrip", spec := "lawS5080ARoundTrip", stops := ["fmt.errorf, its operands' methods called", "fmt.Sprintf, its operands' methods called"], inPlace := ["fmt.errorf"], unfollowed := true, recurses := true, named := ["example.com/fathomline/fathomline/lmap.errorTagNames"], apart := false, laid := [("example.com/fathomline/fathomline/lmap.errorTagNames", laid_example_com_fathomline_fathomline_lmap_errorTagNames)] }
/-- NO THEOREM (fmt's text is open here; it may be false): for the released tool's asking of the row's closed facts alone. THE STATEMENT IS 'LawS5080ARoundTripToldSaid' (YbulkdaekFmtCards.lean). -/
def LawS5080ARoundTripFormAsk : Prop := lawS5080ARoundTripRow.holds Ybaf.pinned (OpenSpec.ofChange lawS5080ARoundTripSpec)

/-- ITS FALSE NEIGHBOUR: 'it returns false'. Refute it at one input. -/
def lawS5080ARoundTripWrong : ChangeSpec := { name := "lawS5080ARoundTrip", vars := ["example.com/fathomline/fathomline/lmap.errorTagNames"], fn := fun _ => fun
  | [d, g1] => { results := [.lit (.bool false)], args := [d], vars := [g1] }
  | _ => none }
def LawS5080ARoundTripWrongFormAsk : Prop := lawS5080ARoundTripRow.holds Ybaf.pinned (OpenSpec.ofChange lawS5080ARoundTripWrong)

end Rows
end Go.Proofs.YbulkdaekFmt
