import Derived.Test.YbulkdaekFmtRound
import Derived.Test.YbulkdaekFmtTie
import Derived.Test.YbulkdaekFmtCards
import Derived.ProofKit
import Derived.LaidMore
import Derived.OpenVars
import Derived.MakeChecks
import Derived.SliceStrings
import Derived.Stop.Joined
import Derived.Stop.JoinedTold
import Derived.SevenTiedAt
/-
  From the row's listed variable to the walks' cells; what the two laws' rows share.
-/
namespace Go.Proofs.YbulkdaekFmt
open Go.ChangeShapes Go.WideShapes Go.ChangeAt Go.RowKit
open Go.Extern.Stop Go.Stop Go.Extern

theorem own : ownKnob Ybaf.prog.godebug = none := by kernel_rfl
theorem cells9 : Ybaf.prog.cellsOf 9 = 1 := by kernel_rfl
theorem gTab : Rows.lawS5080AExactSpec.vars.map Ybaf.prog.globalNamed = [some 0] := by kernel_rfl
theorem tTab : (Ybaf.prog.globals[0]?).map (·.type) = some 31 := by kernel_rfl
theorem tabStrs : (Rows.laid_example_com_fathomline_fathomline_lmap_errorTagNames : DataW Unit) = .slice (strs (nmL.map fun l => ⟨l.toArray⟩)) [] := by kernel_rfl

theorem strs_inj {H : Type} : ∀ {a b : List ByteArray}, (strs a : List (DataW H)) = strs b → a = b
  | [], [], _ => rfl
  | [], _ :: _, h => by simp [strs] at h
  | _ :: _, [], h => by simp [strs] at h
  | x :: a, y :: b, h => by
    simp only [strs, List.map_cons, List.cons.injEq, DataW.lit.injEq, Lit.string.injEq] at h
    obtain ⟨h1, h2⟩ := h
    have e : x = y := by
      cases x; cases y
      simpa using h1
    rw [e, strs_inj (H := H) h2]

theorem of_laid {W : World} (h : laidMetH Ybaf.prog Rows.lawS5080AExactRow.laid W) : ∃ b o, W.cell? ⟨0, 0, none⟩ = some (.slice (some ⟨b, o, none⟩) 21 21) ∧
    ∀ i, i ≤ 20 → W.cell? ⟨b, o + i, none⟩ = some (.string (nm i)) := by
  rw [MakeChecks.laidMetH_plain _ _ _ (by kernel_rfl)] at h
  obtain ⟨ps, ⟨g0, t0, cs0, f0, p0, q0, hg0, ht0, hv0, hd0, _, _⟩, _, _⟩ := h
  have hg1 : Ybaf.prog.globalNamed _ = some 0 := (List.cons.inj gTab).1
  obtain rfl := Option.some.inj (hg1.symm.trans hg0)
  obtain rfl := Option.some.inj (tTab.symm.trans ht0)
  rcases open_strings Ybaf.underlying31 Ybaf.underlying9 cells9 hd0 with ⟨_, hx⟩ | ⟨a, len, cap, ss, hcs, _, hl, hm, hz, hx, hcell, hsz⟩
  · simp [tabStrs] at hx
  · simp only [Prod.mk.injEq, tabStrs, DataW.slice.injEq] at hx
    obtain ⟨⟨hx1, hx2⟩, _⟩ := hx
    simp only [if_true] at hz
    have h1 := strs_inj hx1
    have h2 : ss.drop len = [] := strs_inj (H := Unit) (b := []) hx2.symm
    have hle : ss.length ≤ len := by simpa using h2
    have hlen : len = 21 := by
      have := congrArg List.length h1
      simp [nmL] at this
      omega
    have hcap : cap = 21 := by omega
    subst hlen
    have hss : ss = nmL.map fun l => ⟨l.toArray⟩ := by rw [h1, List.take_of_length_le hle]
    have hc0 := World.var?_cell hg0 hv0 0
    rw [Array.eq_one_of_toList hcs] at hc0
    obtain ⟨b, o, spot⟩ := a
    have hspot : spot = none := by simpa [Addr.add] using World.cell?_spot (hcell 0 (by omega))
    subst hspot
    refine ⟨b, o, by subst hcap; simpa using hc0, fun i hi => ?_⟩
    rw [← Go.WideShapes.add_plain, hcell i (by omega)]
    have hn : i < nmL.length := by show i < 21; omega
    rw [hss]
    simp [nm, List.getD, List.getElem?_eq_getElem hn]

theorem laidOut : laidOutB Ybaf.pinned.checked.prog = true := by kernel_rfl
theorem stopKnobs : Ybaf.pinned.checked.prog.stopKnobs = [] := by kernel_rfl
theorem quiet (os : Os) : Stop.quiet Ybaf.pinned.checked.prog os := by
  intro k hk
  rw [stopKnobs] at hk
  cases hk

theorem door_met (os : Os) (args : Array Value) : laidMetH Ybaf.prog Rows.lawS5080AExactRow.laid ((World.doorLaid Ybaf.prog 14 os).forCall (fun _ _ => 0) ⟨#[], args, []⟩).memory := by
  rw [MakeChecks.laidMetH_plain _ _ _ (by kernel_rfl)]
  exact laidMet_of_run' 8 (by kernel_rfl) (by kernel_rfl)

theorem witness_stopped_shaped {H : Type} {enc : TypeId × Value → H} {C : Checked} {os : Os} {f : FuncId} {fn : Func} {s : OpenSpec} {conds : List PathCond} {apart : Bool} {laid : List (String × DataW Unit)} (modest : Bool) (w0 : World) (args : Array Value) (hos : w0.os = os)
    (hsh : (w0.forCall (fun _ _ => 0) ⟨#[], args, []⟩).Shaped C.prog)
    (hok : Input.okWideB C.prog (w0.forCall (fun _ _ => 0) ⟨#[], args, []⟩) f ⟨#[], args, []⟩ = true)
    (hrow : s.preRow enc C.prog fn conds apart laid (w0.forCall (fun _ _ => 0) ⟨#[], args, []⟩).memory args) (F : Stop.Interp) :
    ∃ (w : World) (tape : Tape) (i : Input), w.os = os ∧ (w.forCall tape i).Shaped C.prog ∧ i.vars = [] ∧ Input.okWide C.prog (w.forCall tape i) .any w.heap.size f i ∧
      s.preRow enc C.prog fn conds apart laid (w.forCall tape i).memory i.args ∧ ({ modest := modest } : Assume).holds C.prog (lone (Frame.enter C.prog f i.args .normal) [] (w.forCall tape i)) ∧ F.answers tape :=
  ⟨w0, F.over fun _ _ => 0, ⟨#[], args, []⟩, hos, hsh, (Input.okWide_of_okWideB (base := 0) hok).1, (Input.okWide_of_okWideB hok).2, hrow, by
    simp only [Assume.holds]
    exact ⟨by simp, by simp, fun _ => F.over_modest Modest.zero, by simp, by simp⟩, F.over_answers _⟩

theorem wf_bounds {t : Int} (h : (Lit.int .u8 t).wf = true) : 0 ≤ t ∧ t ≤ 255 := by
  have := h
  simp [Lit.wf, IntKind.min, IntKind.max, IntKind.signed, IntKind.bits] at this
  omega

end Go.Proofs.YbulkdaekFmt
