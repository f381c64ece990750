import Derived.Test.YbulkdaekDoorRound
import Derived.Test.YbulkdaekDoorTie
import Derived.Test.YbulkdaekDoorCards
import Derived.ProofKit
import Derived.LaidMore
import Derived.OpenVars
import Derived.MakeChecks
import Derived.Stop.Joined
import Derived.Stop.LaidErr
import Derived.SevenTiedAt
/-
  From the rows' listed variables to what the walks ask.
-/
namespace Go.Proofs.YbulkdaekDoor
open Go.ChangeShapes Go.WideShapes Go.ChangeAt Go.RowKit

theorem own : ownKnob Ybad.prog.godebug = none := by kernel_rfl
theorem laidOut : laidOutB Ybad.pinned.checked.prog = true := by kernel_rfl

/-- The list that all three rows bear. -/
abbrev laid5 : List (String × DataW Unit) := Rows.lawS5080BRoundTripRow.laid

theorem tabPow : (Rows.laid_internal_strconv_uint64pow10 : DataW Unit) = Lib.tabData .u64 Lib.pow10Tab := by kernel_rfl

/-- The sentinels' dynamic type's name, off the row. -/
def errName : String := match (Rows.laid_strconv_ErrRange : DataW Unit) with | .iface n _ => n | _ => ""
theorem row71 (u : TypeId) (h : Ybad.prog.typeName? 3 u = some errName) : u = 71 :=
  typeName_ptr_named (nm := "errors.errorString") (by kernel_rfl) (by kernel_rfl) (by decide) u (by exact h)

theorem of_laid {W : World} (h : laidMetH Ybad.prog laid5 W) : Lib.TabIs Ybad.prog W powName .u64 Lib.pow10Tab ∧ Sents W := by
  rw [MakeChecks.laidMetH_plain _ _ _ (by kernel_rfl)] at h
  have h2 := laidMet.tail (laidMet.tail h)
  have h3 := laidMet.tail h2
  have h4 := laidMet.tail h3
  refine ⟨?_, ?_, ?_⟩
  · rw [tabPow] at h2
    exact Lib.tabIs_of_head (g := 0) (by kernel_rfl) (by kernel_rfl) Ybad.underlying49 Ybad.underlying39 (by kernel_rfl) (by kernel_rfl) h2
  · obtain ⟨a, s, hv, _⟩ := laid_sentinel h4 (g := 1) (by kernel_rfl) (by kernel_rfl) Ybad.underlying36 row71 Ybad.underlying71 Ybad.underlying73 rfl rfl Ybad.underlying9 (by kernel_rfl) (by kernel_rfl)
    exact ⟨_, _, hv⟩
  · obtain ⟨a, s, hv, _⟩ := laid_sentinel h3 (g := 2) (by kernel_rfl) (by kernel_rfl) Ybad.underlying36 row71 Ybad.underlying71 Ybad.underlying73 rfl rfl Ybad.underlying9 (by kernel_rfl) (by kernel_rfl)
    exact ⟨_, _, hv⟩

theorem door_met (os : Os) (args : Array Value) : laidMetH Ybad.prog laid5 ((World.doorLaid Ybad.prog 62 os).forCall (fun _ _ => 0) ⟨#[], args, []⟩).memory := by
  rw [MakeChecks.laidMetH_plain _ _ _ (by kernel_rfl)]
  exact laidMet_of_run' 8 (by kernel_rfl) (by kernel_rfl)
end Go.Proofs.YbulkdaekDoor
