import Derived.Test.YbulkdaekDoorLaid
/-
  LawS5080BRoundTrip: the tied card.
-/
namespace Go.Proofs.YbulkdaekDoor
open Go.ChangeShapes Go.WideShapes Go.ChangeAt Go.RowKit

theorem i64_bounds {t : Int} (h : (Lit.int .i64 t).wf = true) : -9223372036854775808 ≤ t ∧ t ≤ 9223372036854775807 := by
  have := h
  simp [Lit.wf, IntKind.min, IntKind.max, IntKind.signed, IntKind.bits] at this
  omega

set_option maxRecDepth 100000 in
theorem round_lifted (os : Os) (started : os.Started) (H : Type) (enc : TypeId × Value → H) :
    ReturnsInHanded {} Ybad.checked os 5 .any (fun w args => (Rows.lawS5080BRoundTripSpec.pre enc Ybad.prog Ybad.f5 [] false w args ∧ laidMetH Ybad.prog laid5 w) ∧ sizedMet enc Ybad.prog Ybad.f5 (OpenSpec.ofChange Rows.lawS5080BRoundTripSpec) false w args)
      (Rows.lawS5080BRoundTripSpec.post enc Ybad.prog Ybad.f5 false true false false) := by
  refine returnsInHanded_of_change_and (C := Ybad.checked) (X := fun w _ => laidMetH Ybad.prog laid5 w) (fun _ _ _ hh h => h.of_heap hh) own started (by kernel_rfl) Ybad.func5
    (ChangeSpec.witness_shaped (enc := enc) (C := Ybad.checked) (os := os) (X := fun w _ => laidMetH Ybad.prog laid5 w) false (World.doorLaid Ybad.prog 62 os) #[.int .i64 0] 8 rfl (World.shaped_of_RefB (by kernel_rfl) (by kernel_rfl)) (by kernel_rfl) (by kernel_rfl) (by kernel_rfl) (door_met os _)) ?_
  intro W base args ds gs before hval0 hW _ _ hL _
  have hval : ∀ (j : Nat) t v, Ybad.f5.params[j]? = some t → args[j]? = some v → Value.okWide Ybad.prog W .any base t v := hval0
  have hW' := hW
  obtain ⟨p, q, hA0, hV, rfl, hfz, hnd⟩ := hW
  have hA : DataW.TrodAll enc Ybad.prog W 0 (fun _ => true) true Ybad.f5.params.toList args.toList ds p := hA0
  rw [Ybad.params5] at hA hval
  obtain ⟨v0, d0, rfl, rfl, h0⟩ := trodAll_one hA
  obtain ⟨rfl, rfl⟩ := trodVars_none hV
  obtain ⟨t, rfl, rfl, rfl, wt⟩ := open_int Ybad.underlying2 (hval 0 2 v0 rfl rfl) h0
  clear hA0 hval0
  obtain ⟨htab, _⟩ := of_laid hL
  obtain ⟨t0, t1⟩ := i64_bounds wt
  refine (round_any t t0 t1 W htab).mono fun e W' ⟨he, hB⟩ => ?_
  subst he
  refine ⟨_, rfl, _, _, _, [], [], [], hW', ?_, ?_, rfl, hB.frame _, fun h => by cases h⟩
  · exact trodAll_mk1 (shut_bool Ybad.underlying4 true)
  · exact trodAll_mk1 (shut_int Ybad.underlying2 wt)

theorem round_holds : Rows.LawS5080BRoundTripSaid :=
  OpenClaim.holds_of_wide 5 Ybad.f5 rfl rfl rfl rfl rfl rfl rfl ⟨rfl, rfl, rfl, rfl, rfl⟩ rfl rfl rfl rfl rfl (by kernel_rfl) Ybad.func5 (by kernel_rfl)
    (of_decide_eq_true (by kernel_rfl)) (by unfold Func.isWrapper; rw [if_neg (of_decide_eq_false (by kernel_rfl))]; exact ⟨rfl, rfl⟩)
    (fun os started H enc _ => round_lifted os started H enc)

theorem lawS5080BRoundTrip_proved : Rows.LawS5080BRoundTripCardSaid :=
  Claim7.holds_tied_plain_at .later [] _ true _ true
    round_holds (fun _ h => by cases h) (by kernel_rfl) (fun _ h => by cases h) lawS5080BRoundTrip_row_tie rfl ⟨rfl, rfl⟩ (by kernel_rfl) rfl
    (fun f fn hf hfn => by
      obtain rfl : f = 5 := (Option.some.inj ((show Ybad.prog.funcNamed Ybad.f5.name = some 5 by kernel_rfl).symm.trans hf)).symm
      obtain rfl : fn = Ybad.f5 := (Option.some.inj (Ybad.func5.symm.trans hfn)).symm
      exact ⟨by kernel_rfl, fun j t ht => by
        rw [Ybad.params5] at ht
        rcases j with _ | j
        · obtain rfl : 2 = t := by simpa using ht
          exact (show Ybad.prog.wantsStandIn 2 = false by kernel_rfl)
        · simp at ht⟩)
    (by kernel_rfl)
end Go.Proofs.YbulkdaekDoor
