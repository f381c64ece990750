import Derived.Test.YbulkdaekDoorLaid
import Derived.Test.YbulkdaekDoorAny
/-
  LawS5080BAnyText: the tied card.
-/
namespace Go.Proofs.YbulkdaekDoor
open Go.ChangeShapes Go.WideShapes Go.ChangeAt Go.RowKit
open Go.ChangeMaps (open_string shut_string)

theorem u8_bounds {t : Int} (h : (Lit.int .u8 t).wf = true) : 0 ≤ t ∧ t ≤ 255 := by
  have := h
  simp [Lit.wf, IntKind.min, IntKind.max, IntKind.signed, IntKind.bits] at this
  omega

set_option maxRecDepth 100000 in
theorem any_lifted (os : Os) (started : os.Started) (H : Type) (enc : TypeId × Value → H) :
    ReturnsInHanded {} Ybad.checked os 4 .any (fun w args => (Rows.lawS5080BAnyTextSpec.pre enc Ybad.prog Ybad.f4 [] false w args ∧ laidMetH Ybad.prog laid5 w) ∧ sizedMet enc Ybad.prog Ybad.f4 (OpenSpec.ofChange Rows.lawS5080BAnyTextSpec) false w args)
      (Rows.lawS5080BAnyTextSpec.post enc Ybad.prog Ybad.f4 false true false false) := by
  refine returnsInHanded_of_change_and (C := Ybad.checked) (X := fun w _ => laidMetH Ybad.prog laid5 w) (fun _ _ _ hh h => h.of_heap hh) own started (by kernel_rfl) Ybad.func4
    (ChangeSpec.witness_shaped (enc := enc) (C := Ybad.checked) (os := os) (X := fun w _ => laidMetH Ybad.prog laid5 w) false (World.doorLaid Ybad.prog 62 os) #[.int .u8 0, .string ByteArray.empty] 8 rfl (World.shaped_of_RefB (by kernel_rfl) (by kernel_rfl)) (by kernel_rfl) (by kernel_rfl) (by kernel_rfl) (door_met os _)) ?_
  intro W base args ds gs before hval0 hW _ _ hL _
  have hval : ∀ (j : Nat) t v, Ybad.f4.params[j]? = some t → args[j]? = some v → Value.okWide Ybad.prog W .any base t v := hval0
  have hW' := hW
  obtain ⟨p, q, hA0, hV, rfl, hfz, hnd⟩ := hW
  have hA : DataW.TrodAll enc Ybad.prog W 0 (fun _ => true) true Ybad.f4.params.toList args.toList ds p := hA0
  rw [Ybad.params4] at hA hval
  obtain ⟨v0, v1, d0, d1, p0, p1, rfl, rfl, rfl, h0, h1⟩ := trodAll_two hA
  obtain ⟨rfl, rfl⟩ := trodVars_none hV
  obtain ⟨t, rfl, rfl, rfl, wt⟩ := open_int Ybad.underlying5 (hval 0 5 v0 rfl rfl) h0
  obtain ⟨s, rfl, rfl, rfl, hs⟩ := open_string Ybad.underlying9 (hval 1 9 v1 rfl rfl) h1
  clear hA0 hval0
  obtain ⟨_, hS⟩ := of_laid hL
  obtain ⟨t0, t1⟩ := u8_bounds wt
  refine (any_any t t0 t1 s hs W hS).mono fun e W' ⟨he, hB⟩ => ?_
  subst he
  refine ⟨_, rfl, _, _, _, [], [], [], hW', ?_, ?_, rfl, hB.frame _, fun h => by cases h⟩
  · exact trodAll_mk1 (shut_bool Ybad.underlying4 true)
  · exact trodAll_mk2 (shut_int Ybad.underlying5 wt) (shut_string Ybad.underlying9 hs)

theorem any_holds : Rows.LawS5080BAnyTextSaid :=
  OpenClaim.holds_of_wide 4 Ybad.f4 rfl rfl rfl rfl rfl rfl rfl ⟨rfl, rfl, rfl, rfl, rfl⟩ rfl rfl rfl rfl rfl (by kernel_rfl) Ybad.func4 (by kernel_rfl)
    (of_decide_eq_true (by kernel_rfl)) (by unfold Func.isWrapper; rw [if_neg (of_decide_eq_false (by kernel_rfl))]; exact ⟨rfl, rfl⟩)
    (fun os started H enc _ => any_lifted os started H enc)

theorem stand4 : ∀ (j : Nat) (t : TypeId), Ybad.f4.params[j]? = some t → Ybad.prog.wantsStandIn t = false := by
  have h : (Ybad.f4.params.toList.all fun t => !Ybad.prog.wantsStandIn t) = true := by kernel_rfl
  intro j t ht
  have hm : t ∈ Ybad.f4.params.toList := by
    rw [← Array.getElem?_toList] at ht
    exact List.mem_of_getElem? ht
  simpa using List.all_eq_true.1 h t hm

theorem lawS5080BAnyText_proved : Rows.LawS5080BAnyTextCardSaid :=
  Claim7.holds_tied_plain_at .later [] _ true _ true
    any_holds (fun _ h => by cases h) (by kernel_rfl) (fun _ h => by cases h) lawS5080BAnyText_row_tie rfl ⟨rfl, rfl⟩ (by kernel_rfl) rfl
    (fun f fn hf hfn => by
      obtain rfl : f = 4 := (Option.some.inj ((show Ybad.prog.funcNamed Ybad.f4.name = some 4 by kernel_rfl).symm.trans hf)).symm
      obtain rfl : fn = Ybad.f4 := (Option.some.inj (Ybad.func4.symm.trans hfn)).symm
      exact ⟨by kernel_rfl, stand4⟩)
    (by kernel_rfl)
end Go.Proofs.YbulkdaekDoor
