/-
  NARROWER THAN 'FOR EVERY INPUT', by the rows' own cells (each row's printed sentence says how): LawS5081ASends: ifaces, laid · LawS5081AParent: ifaces, laid · LawS5081CAnnounce: ifaces, laid.
  DERIVED. THE GIVEN ROWS OF THIS SEAT. 3 by the template 'for every input the law returns true; each argument reads behind the call as it read before'; 0 by the template 'total and deterministic' (their statements: YbulkdaeyDoorTotals.lean).
  GIVEN WITH THE SEED: the statements are not yours to turn. If you find one false, say at which input.
  Laid BY PROGRAM, IN A SANDBOX (cutbox-rows.mjs): the forced cells as the released guide's own fill.sh prints them over the translation 01ec85e686590fa6… (all of the seat's roots in one cut). By AI agents, Wed Nov 11 2026. No macro, syntax, notation, axiom, sorry.
-/
import Derived.Test.YbulkdaeyDoorChecked
import GoSem.Claim
import GoSem.ClaimJoined
import GoSem.ClaimMapViews
import Derived.JoinedTies
import Derived.KernelRfl
namespace Go.Proofs.YbulkdaeyDoor
/- THE CELL 'sum', in the pinned program and in every row, IS THE sha256 OF THE DUMP (.gsa) THAT YbulkdaeyDoorProg.lean LOADS. Nothing in Lean hashes anything: it is a label: what it is worth is what the hold of that sum in a sandbox is worth. -/
noncomputable def Ybad.pinned : Pinned := { name := "ybulkdaeydoor", sum := "01ec85e686590fa6d5b0406c9e124d56b4bd256ff3a4d2f773b6847bf641b89a", checked := Ybad.checked }
namespace Rows
def none {H : Type} : Left H := { results := [], args := [] }

/- WHAT THE LISTED PACKAGE-LEVEL VARIABLES READ AS WHEN THE CALL BEGINS. Each datum BY PROGRAM (the guide's laid-datum.mjs) off the statement by which the dump's own 'gosem.cut.vars' lays the variable. In a bare row this is a premise. The card (YbulkdaeyDoorCards.lean) ties it to the program's text. -/
def laid_example_com_hopwire_hopwire_internal_tree_probeIntake {H : Type} : DataW H := .agg [.lit (.int .i64 1000), .lit (.int .i64 10000000)]
def laid_example_com_hopwire_hopwire_internal_tree_ErrNoTree {H : Type} : DataW H := .iface "*errors.errorString" (.ptr (.agg [.lit (.string [98, 101, 102, 111, 114, 101, 32, 97, 32, 116, 114, 101, 101, 32, 102, 114, 97, 109, 101])]))
def laid_example_com_hopwire_hopwire_internal_tree_ErrNoNeighbours {H : Type} : DataW H := .iface "*errors.errorString" (.ptr (.agg [.lit (.string [98, 101, 102, 111, 114, 101, 32, 97, 32, 110, 101, 105, 103, 104, 98, 111, 117, 114, 115, 32, 102, 114, 97, 109, 101])]))

/-- 'tree.LawS5081ASends': WHATEVER THE INPUT: true; the input reads as it did. -/
def lawS5081ASendsSpec : ChangeSpec := { name := "lawS5081ASends", vars := ["example.com/hopwire/hopwire/internal/tree.ErrNoTree", "example.com/hopwire/hopwire/internal/tree.probeIntake"], fn := fun _ => fun
  | [d1, d2, d3, d4, d5, d6, d7, g1, g2] => { results := [.lit (.bool true)], args := [d1, d2, d3, d4, d5, d6, d7], vars := [g1, g2] }
  | _ => none }
def lawS5081ASendsRow : OpenClaim := { program := "ybulkdaeydoor", sum := "01ec85e686590fa6d5b0406c9e124d56b4bd256ff3a4d2f773b6847bf641b89a", func := "example.com/hopwire/hopwire/internal/tree.LawS5081ASends", spec := "lawS5081ASends", inPlace := ["(*internal/sync.Mutex).Lock", "internal/race.Disable", "sync/atomic.CompareAndSwapInt32", "internal/race.Enable", "internal/race.Acquire", "(*internal/sync.Mutex).lockSlow", "internal/sync.runtime_canSpin", "internal/sync.runtime_doSpin", "internal/sync.throw", "internal/sync.runtime_nanotime", "internal/sync.runtime_SemacquireMutex", "sync/atomic.AddInt32", "(*internal/sync.Mutex).Unlock", "internal/race.ReleaseMerge", "(*internal/sync.Mutex).unlockSlow", "internal/sync.fatal", "internal/sync.runtime_Semrelease"], unfollowed := true, recurses := true, named := ["example.com/hopwire/hopwire/internal/tree.ErrNoTree", "example.com/hopwire/hopwire/internal/tree.probeIntake"], ifaces := true, plainKeys := false, apart := false, laid := [("example.com/hopwire/hopwire/internal/tree.probeIntake", laid_example_com_hopwire_hopwire_internal_tree_probeIntake), ("example.com/hopwire/hopwire/internal/tree.ErrNoTree", laid_example_com_hopwire_hopwire_internal_tree_ErrNoTree)] }
def LawS5081ASendsSaid : Prop := lawS5081ASendsRow.holds Ybad.pinned (OpenSpec.ofChange lawS5081ASendsSpec)

/-- ITS FALSE NEIGHBOUR: 'it returns false'. Refute it at one input. -/
def lawS5081ASendsWrong : ChangeSpec := { name := "lawS5081ASends", vars := ["example.com/hopwire/hopwire/internal/tree.ErrNoTree", "example.com/hopwire/hopwire/internal/tree.probeIntake"], fn := fun _ => fun
  | [d1, d2, d3, d4, d5, d6, d7, g1, g2] => { results := [.lit (.bool false)], args := [d1, d2, d3, d4, d5, d6, d7], vars := [g1, g2] }
  | _ => none }
def LawS5081ASendsWrongFalsely : Prop := lawS5081ASendsRow.holds Ybad.pinned (OpenSpec.ofChange lawS5081ASendsWrong)

/-- 'tree.LawS5081AParent': WHATEVER THE INPUT: true; the input reads as it did. -/
def lawS5081AParentSpec : ChangeSpec := { name := "lawS5081AParent", vars := ["example.com/hopwire/hopwire/internal/tree.probeIntake", "example.com/hopwire/hopwire/internal/tree.ErrNoTree"], fn := fun _ => fun
  | [d1, d2, d3, d4, d5, d6, d7, g1, g2] => { results := [.lit (.bool true)], args := [d1, d2, d3, d4, d5, d6, d7], vars := [g1, g2] }
  | _ => none }
def lawS5081AParentRow : OpenClaim := { program := "ybulkdaeydoor", sum := "01ec85e686590fa6d5b0406c9e124d56b4bd256ff3a4d2f773b6847bf641b89a", func := "example.com/hopwire/hopwire/internal/tree.LawS5081AParent", spec := "lawS5081AParent", inPlace := ["(*internal/sync.Mutex).Lock", "internal/race.Disable", "sync/atomic.CompareAndSwapInt32", "internal/race.Enable", "internal/race.Acquire", "(*internal/sync.Mutex).lockSlow", "internal/sync.runtime_canSpin", "internal/sync.runtime_doSpin", "internal/sync.throw", "internal/sync.runtime_nanotime", "internal/sync.runtime_SemacquireMutex", "sync/atomic.AddInt32", "(*internal/sync.Mutex).Unlock", "internal/race.ReleaseMerge", "(*internal/sync.Mutex).unlockSlow", "internal/sync.fatal", "internal/sync.runtime_Semrelease"], unfollowed := true, recurses := true, named := ["example.com/hopwire/hopwire/internal/tree.probeIntake", "example.com/hopwire/hopwire/internal/tree.ErrNoTree"], ifaces := true, plainKeys := false, apart := false, laid := [("example.com/hopwire/hopwire/internal/tree.probeIntake", laid_example_com_hopwire_hopwire_internal_tree_probeIntake), ("example.com/hopwire/hopwire/internal/tree.ErrNoTree", laid_example_com_hopwire_hopwire_internal_tree_ErrNoTree)] }
def LawS5081AParentSaid : Prop := lawS5081AParentRow.holds Ybad.pinned (OpenSpec.ofChange lawS5081AParentSpec)

/-- ITS FALSE NEIGHBOUR: 'it returns false'. Refute it at one input. -/
def lawS5081AParentWrong : ChangeSpec := { name := "lawS5081AParent", vars := ["example.com/hopwire/hopwire/internal/tree.probeIntake", "example.com/hopwire/hopwire/internal/tree.ErrNoTree"], fn := fun _ => fun
  | [d1, d2, d3, d4, d5, d6, d7, g1, g2] => { results := [.lit (.bool false)], args := [d1, d2, d3, d4, d5, d6, d7], vars := [g1, g2] }
  | _ => none }
def LawS5081AParentWrongFalsely : Prop := lawS5081AParentRow.holds Ybad.pinned (OpenSpec.ofChange lawS5081AParentWrong)

/-- 'tree.LawS5081CAnnounce': WHATEVER THE INPUT: true; the input reads as it did. -/
def lawS5081CAnnounceSpec : ChangeSpec := { name := "lawS5081CAnnounce", vars := ["example.com/hopwire/hopwire/internal/tree.ErrNoNeighbours", "example.com/hopwire/hopwire/internal/tree.ErrNoTree"], fn := fun _ => fun
  | [d1, d2, d3, d4, g1, g2] => { results := [.lit (.bool true)], args := [d1, d2, d3, d4], vars := [g1, g2] }
  | _ => none }
def lawS5081CAnnounceRow : OpenClaim := { program := "ybulkdaeydoor", sum := "01ec85e686590fa6d5b0406c9e124d56b4bd256ff3a4d2f773b6847bf641b89a", func := "example.com/hopwire/hopwire/internal/tree.LawS5081CAnnounce", spec := "lawS5081CAnnounce", inPlace := ["(*internal/sync.Mutex).Lock", "internal/race.Disable", "sync/atomic.CompareAndSwapInt32", "internal/race.Enable", "internal/race.Acquire", "(*internal/sync.Mutex).lockSlow", "internal/sync.runtime_canSpin", "internal/sync.runtime_doSpin", "internal/sync.throw", "internal/sync.runtime_nanotime", "internal/sync.runtime_SemacquireMutex", "sync/atomic.AddInt32", "(*internal/sync.Mutex).Unlock", "internal/race.ReleaseMerge", "(*internal/sync.Mutex).unlockSlow", "internal/sync.fatal", "internal/sync.runtime_Semrelease"], unfollowed := true, recurses := true, named := ["example.com/hopwire/hopwire/internal/tree.ErrNoNeighbours", "example.com/hopwire/hopwire/internal/tree.ErrNoTree"], ifaces := true, plainKeys := false, apart := false, laid := [("example.com/hopwire/hopwire/internal/tree.ErrNoTree", laid_example_com_hopwire_hopwire_internal_tree_ErrNoTree), ("example.com/hopwire/hopwire/internal/tree.ErrNoNeighbours", laid_example_com_hopwire_hopwire_internal_tree_ErrNoNeighbours)] }
def LawS5081CAnnounceSaid : Prop := lawS5081CAnnounceRow.holds Ybad.pinned (OpenSpec.ofChange lawS5081CAnnounceSpec)

/-- ITS FALSE NEIGHBOUR: 'it returns false'. Refute it at one input. -/
def lawS5081CAnnounceWrong : ChangeSpec := { name := "lawS5081CAnnounce", vars := ["example.com/hopwire/hopwire/internal/tree.ErrNoNeighbours", "example.com/hopwire/hopwire/internal/tree.ErrNoTree"], fn := fun _ => fun
  | [d1, d2, d3, d4, g1, g2] => { results := [.lit (.bool false)], args := [d1, d2, d3, d4], vars := [g1, g2] }
  | _ => none }
def LawS5081CAnnounceWrongFalsely : Prop := lawS5081CAnnounceRow.holds Ybad.pinned (OpenSpec.ofChange lawS5081CAnnounceWrong)

end Rows
end Go.Proofs.YbulkdaeyDoor
