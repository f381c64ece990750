import Derived.Test.YbulkdaekDoorLaid
import Derived.Test.YbulkdaekDoorDigits
/-
  LawS5080BDigits: the tied card.
-/
namespace Go.Proofs.YbulkdaekDoor
open Go.ChangeShapes Go.WideShapes Go.ChangeAt Go.RowKit

theorem u8_bounds {t : Int} (h : (Lit.int .u8 t).wf = true) : 0 ≤ t ∧ t ≤ 255 := by
  have := h
  simp [Lit.wf, IntKind.min, IntKind.max, IntKind.signed, IntKind.bits] at this
  omega
theorem cells5 : Ybad.prog.cellsOf 5 = 1 := by kernel_rfl

set_option maxRecDepth 100000 in
theorem digits_lifted (os : Os) (started : os.Started) (H : Type) (enc : TypeId × Value → H) :
    ReturnsInHanded {} Ybad.checked os 3 .any (fun w args => (Rows.lawS5080BDigitsSpec.pre enc Ybad.prog Ybad.f3 [] false w args ∧ laidMetH Ybad.prog laid5 w) ∧ sizedMet enc Ybad.prog Ybad.f3 (OpenSpec.ofChange Rows.lawS5080BDigitsSpec) false w args)
      (Rows.lawS5080BDigitsSpec.post enc Ybad.prog Ybad.f3 false true false false) := by
  refine returnsInHanded_of_change_and (C := Ybad.checked) (X := fun w _ => laidMetH Ybad.prog laid5 w) (fun _ _ _ hh h => h.of_heap hh) own started (by kernel_rfl) Ybad.func3
    (ChangeSpec.witness_shaped (enc := enc) (C := Ybad.checked) (os := os) (X := fun w _ => laidMetH Ybad.prog laid5 w) false (World.doorLaid Ybad.prog 62 os) #[.int .u8 0, .slice Option.none 0 0, .int .i64 0] 8 rfl (World.shaped_of_RefB (by kernel_rfl) (by kernel_rfl)) (by kernel_rfl) (by kernel_rfl) (by kernel_rfl) (door_met os _)) ?_
  intro W base args ds gs before hval0 hW _ _ hL _
  have hval : ∀ (j : Nat) t v, Ybad.f3.params[j]? = some t → args[j]? = some v → Value.okWide Ybad.prog W .any base t v := hval0
  have hW' := hW
  obtain ⟨p, q, hA0, hV, rfl, hfz, hnd⟩ := hW
  have hA : DataW.TrodAll enc Ybad.prog W 0 (fun _ => true) true Ybad.f3.params.toList args.toList ds p := hA0
  rw [Ybad.params3] at hA hval
  obtain ⟨v0, v1, v2, d0, d1, d2, p0, p1, p2, rfl, rfl, rfl, h0, h1, h2⟩ := trodAll_three hA
  obtain ⟨rfl, rfl⟩ := trodVars_none hV
  obtain ⟨t, rfl, rfl, rfl, wt⟩ := open_int Ybad.underlying5 (hval 0 5 v0 rfl rfl) h0
  obtain ⟨ln, rfl, rfl, rfl, wl⟩ := open_int Ybad.underlying3 (hval 2 3 v2 rfl rfl) h2
  have h1k := h1
  obtain ⟨a0, len, cap, rfl⟩ := okWide_slice Ybad.underlying22 (hval 1 22 v1 rfl rfl)
  clear hA0 hval0
  obtain ⟨_, hS⟩ := of_laid hL
  obtain ⟨t0, t1⟩ := u8_bounds wt
  have hlt : ∀ x ∈ p1, x.block < W.heap.size := by
    intro x hx
    exact hA.lt x (by simp [hx])
  have key : Calls Ybad.prog 3 #[.int .u8 t, .slice a0 len cap, .int .i64 ln] W fun e w' => e = .returned (.bool true) ∧ Below W.heap.size W w' := by
    obtain ⟨fuel, hf⟩ := h1
    rcases open_ints Ybad.underlying22 Ybad.underlying5 cells5 hf with ⟨hcs, hx⟩ | ⟨a, len', cap', zs, hcs, _, hl, hm, hz, hx, hcell, hwz⟩
    · simp [Value.cells] at hcs
      obtain ⟨rfl, rfl, rfl⟩ := hcs
      exact digits_nil t ln _ _ t0 t1 W hS
    · simp [Value.cells] at hcs
      obtain ⟨rfl, rfl, rfl⟩ := hcs
      simp only [if_true] at hz
      by_cases hlen : len ≤ 1024
      · obtain ⟨b, off, spot⟩ := a
        by_cases hpos : 0 < zs.length
        · have hspot : spot = Option.none := by simpa [Addr.add] using World.cell?_spot (hcell 0 hpos)
          subst hspot
          refine digits_some t ln b off len cap zs t0 t1 hlen W hS (fun i hi => ?_) (fun i hi => ?_)
          · rw [← Go.WideShapes.add_plain]
            exact hcell i (by omega)
          · have hi' : i < zs.length := by omega
            have := hwz (zs.getD i 0) (by simp [List.getD, List.getElem?_eq_getElem hi'])
            exact u8_bounds this
        · obtain rfl : len = 0 := by omega
          exact digits_nil t ln _ _ t0 t1 W hS
      · exact digits_long t ln _ len cap (by omega) (by unfold maxLen at hm; omega) W
  refine key.mono fun e W' ⟨he, hB⟩ => ?_
  subst he
  refine ⟨_, rfl, _, _, _, [], [] ++ p1 ++ [], [], hW', ?_, ?_, rfl, hB.frame _, fun h => by cases h⟩
  · exact trodAll_mk1 (shut_bool Ybad.underlying4 true)
  · exact trodAll_mk3 (shut_int Ybad.underlying5 wt) (Below.trod laidOut (by kernel_rfl) (of_decide_eq_true (by kernel_rfl)) h1k hB hlt) (shut_int Ybad.underlying3 wl)

theorem digits_holds : Rows.LawS5080BDigitsSaid :=
  OpenClaim.holds_of_wide 3 Ybad.f3 rfl rfl rfl rfl rfl rfl rfl ⟨rfl, rfl, rfl, rfl, rfl⟩ rfl rfl rfl rfl rfl (by kernel_rfl) Ybad.func3 (by kernel_rfl)
    (of_decide_eq_true (by kernel_rfl)) (by unfold Func.isWrapper; rw [if_neg (of_decide_eq_false (by kernel_rfl))]; exact ⟨rfl, rfl⟩)
    (fun os started H enc _ => digits_lifted os started H enc)

theorem stand3 : ∀ (j : Nat) (t : TypeId), Ybad.f3.params[j]? = some t → Ybad.prog.wantsStandIn t = false := by
  have h : (Ybad.f3.params.toList.all fun t => !Ybad.prog.wantsStandIn t) = true := by kernel_rfl
  intro j t ht
  have hm : t ∈ Ybad.f3.params.toList := by
    rw [← Array.getElem?_toList] at ht
    exact List.mem_of_getElem? ht
  simpa using List.all_eq_true.1 h t hm

theorem lawS5080BDigits_proved : Rows.LawS5080BDigitsCardSaid :=
  Claim7.holds_tied_plain_at .later [] _ true _ true
    digits_holds (fun _ h => by cases h) (by kernel_rfl) (fun _ h => by cases h) lawS5080BDigits_row_tie rfl ⟨rfl, rfl⟩ (by kernel_rfl) rfl
    (fun f fn hf hfn => by
      obtain rfl : f = 3 := (Option.some.inj ((show Ybad.prog.funcNamed Ybad.f3.name = some 3 by kernel_rfl).symm.trans hf)).symm
      obtain rfl : fn = Ybad.f3 := (Option.some.inj (Ybad.func3.symm.trans hfn)).symm
      exact ⟨by kernel_rfl, stand3⟩)
    (by kernel_rfl)
end Go.Proofs.YbulkdaekDoor
