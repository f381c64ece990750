import Derived.Test.YbulkdaekFmtLaid
/-
  LawS5080ARoundTrip: the told and tied card.
-/
namespace Go.Proofs.YbulkdaekFmt
open Go.ChangeShapes Go.WideShapes Go.ChangeAt Go.RowKit
open Go.Extern.Stop Go.Stop Go.Extern

set_option maxRecDepth 100000 in
theorem round_lifted (os : Os) (started : os.Started) (H : Type) (enc : TypeId × Value → H) :
    ReturnsInTold none {} Ybaf.checked os 4 .any Input.okWide ((OpenSpec.ofChange Rows.lawS5080ARoundTripSpec).preRow enc Ybaf.prog Ybaf.f4 [] false Rows.lawS5080ARoundTripRow.laid) (fun F => ((OpenSpec.ofChange Rows.lawS5080ARoundTripSpec).at F).post enc Ybaf.prog Ybaf.f4 false true false false) (aloneAtReturn Ybaf.prog) nothingAlways := by
  refine returnsInTold_of_row (C := Ybaf.checked) (s := OpenSpec.ofChange Rows.lawS5080ARoundTripSpec) (by kernel_rfl) own started (by kernel_rfl) Ybaf.func4
    (witness_stopped_shaped (enc := enc) (C := Ybaf.checked) false (World.doorLaid Ybaf.prog 14 os) #[.int .u8 0] rfl (World.shaped_of_RefB (by kernel_rfl) (by kernel_rfl)) (by kernel_rfl)
      (OpenSpec.preRow_of_B rfl 8 (by kernel_rfl) (by kernel_rfl) (door_met os _))) ?_
  intro F W base args ds gs before _ _ hval0 hW _ _ _ hL _
  have hval : ∀ (j : Nat) t v, Ybaf.f4.params[j]? = some t → args[j]? = some v → Value.okWide Ybaf.prog W .any base t v := hval0
  have hW' := hW
  obtain ⟨p, q, hA0, hV0, rfl, hfz, hnd⟩ := hW
  have hA : DataW.TrodAll enc Ybaf.prog W 0 (fun _ => true) true Ybaf.f4.params.toList args.toList ds p := hA0
  have hV : DataW.TrodVars enc Ybaf.prog W (fun _ => true) Rows.lawS5080ARoundTripSpec.vars gs q := hV0
  rw [Ybaf.params4] at hA hval
  obtain ⟨v0, d0, rfl, rfl, h0⟩ := trodAll_one hA
  obtain ⟨t, rfl, rfl, rfl, wt⟩ := open_int Ybaf.underlying5 (hval 0 5 v0 rfl rfl) h0
  clear hA0 hval0
  obtain ⟨b, o, hg, hc⟩ := of_laid hL
  obtain ⟨t0, t1⟩ := wf_bounds wt
  have hgs : ∃ g, gs = [g] := by
    match gs, hV with
    | [g], _ => exact ⟨g, rfl⟩
  obtain ⟨g, rfl⟩ := hgs
  refine (round_any t b o W t0 t1 hg hc).mono fun e W' ⟨he, hB⟩ => ?_
  subst he
  refine ⟨_, rfl, _, _, _, [], [], q, hW', ?_, ?_, ?_, hB.frame _, fun h => by cases h⟩
  · exact trodAll_mk1 (shut_bool Ybaf.underlying4 true)
  · exact trodAll_mk1 (shut_int Ybaf.underlying5 wt)
  · exact Below.trodVars laidOut hB (by kernel_rfl) hV

theorem lawS5080ARoundTrip_proved : Rows.LawS5080ARoundTripToldSaid :=
  Claim7.holds_of_told_tied_any_at .later 4 Ybaf.f4 _ _ [] _ _ _ _ _ (by kernel_rfl) rfl rfl rfl laidOut (by kernel_rfl) rfl ⟨rfl, rfl, rfl, rfl, rfl, rfl, rfl⟩ rfl rfl (by kernel_rfl) (by kernel_rfl) Ybaf.func4 (by kernel_rfl)
    (of_decide_eq_true (by kernel_rfl)) (of_decide_eq_true (by kernel_rfl)) (by kernel_rfl) rfl stopKnobs.symm (by kernel_rfl)
    (by kernel_rfl) (by kernel_rfl) (by kernel_rfl) (by kernel_rfl) (by kernel_rfl) (by kernel_rfl) (by kernel_rfl) (by kernel_rfl) (by kernel_rfl) rfl (by kernel_rfl) rfl rfl
    rfl rfl
    rfl (by kernel_rfl) (by kernel_rfl) (by kernel_rfl) (by decide) (by kernel_rfl) lawS5080ARoundTrip_row_tie
    (OpenClaim.moreEntering_of (by kernel_rfl) (by kernel_rfl) (by kernel_rfl) (by kernel_rfl) (by kernel_rfl) (by kernel_rfl) (by kernel_rfl) (by kernel_rfl) (by kernel_rfl) (by kernel_rfl))
    ⟨_, WideRow.started_initial, quiet _⟩
    (fun os started _ H enc _ => round_lifted os started H enc)
end Go.Proofs.YbulkdaekFmt
