import Derived.Test.YbulkdaekFmtLaid
/-
  LawS5080AExact: the told and tied card.
-/
namespace Go.Proofs.YbulkdaekFmt
open Go.ChangeShapes Go.WideShapes Go.ChangeAt Go.RowKit
open Go.Extern.Stop Go.Stop Go.Extern

/-- The law's contract at whatever byte. -/
theorem exact_any (F : Interp) (t : Int) (b o : Nat) (w : World) (hF : F.answers w.tape) (h0 : 0 ≤ t) (h1 : t ≤ 255) (hg : w.cell? ⟨0, 0, none⟩ = some (.slice (some ⟨b, o, none⟩) 21 21))
    (hc : ∀ i, i ≤ 20 → w.cell? ⟨b, o + i, none⟩ = some (.string (nm i))) :
    Calls Ybaf.prog 3 #[.int .u8 t] w fun e w' => e = .returned (.bool true) ∧ Below w.heap.size w w' := by
  by_cases hz : t = 0
  · subst hz; exact exact_zero F w hF
  · by_cases hb : 20 < t
    · exact exact_big F t ⟨b, o, none⟩ w hF hb h1 hg
    · obtain ⟨n, rfl⟩ := Int.eq_ofNat_of_zero_le h0
      exact exact_ok n b o w (by omega) (by omega) hg (hc n (by omega))

set_option maxRecDepth 100000 in
theorem exact_lifted (os : Os) (started : os.Started) (H : Type) (enc : TypeId × Value → H) :
    ReturnsInTold none {} Ybaf.checked os 3 .any Input.okWide ((OpenSpec.ofChange Rows.lawS5080AExactSpec).preRow enc Ybaf.prog Ybaf.f3 [] false Rows.lawS5080AExactRow.laid) (fun F => ((OpenSpec.ofChange Rows.lawS5080AExactSpec).at F).post enc Ybaf.prog Ybaf.f3 false true false false) (aloneAtReturn Ybaf.prog) nothingAlways := by
  refine returnsInTold_of_row (C := Ybaf.checked) (s := OpenSpec.ofChange Rows.lawS5080AExactSpec) (by kernel_rfl) own started (by kernel_rfl) Ybaf.func3
    (witness_stopped_shaped (enc := enc) (C := Ybaf.checked) false (World.doorLaid Ybaf.prog 14 os) #[.int .u8 0] rfl (World.shaped_of_RefB (by kernel_rfl) (by kernel_rfl)) (by kernel_rfl)
      (OpenSpec.preRow_of_B rfl 8 (by kernel_rfl) (by kernel_rfl) (door_met os _))) ?_
  intro F W base args ds gs before _ hF hval0 hW _ _ _ hL _
  have hval : ∀ (j : Nat) t v, Ybaf.f3.params[j]? = some t → args[j]? = some v → Value.okWide Ybaf.prog W .any base t v := hval0
  have hW' := hW
  obtain ⟨p, q, hA0, hV0, rfl, hfz, hnd⟩ := hW
  have hA : DataW.TrodAll enc Ybaf.prog W 0 (fun _ => true) true Ybaf.f3.params.toList args.toList ds p := hA0
  have hV : DataW.TrodVars enc Ybaf.prog W (fun _ => true) Rows.lawS5080AExactSpec.vars gs q := hV0
  rw [Ybaf.params3] at hA hval
  obtain ⟨v0, d0, rfl, rfl, h0⟩ := trodAll_one hA
  obtain ⟨t, rfl, rfl, rfl, wt⟩ := open_int Ybaf.underlying5 (hval 0 5 v0 rfl rfl) h0
  clear hA0 hval0
  obtain ⟨b, o, hg, hc⟩ := of_laid hL
  obtain ⟨t0, t1⟩ := wf_bounds wt
  have hgs : ∃ g, gs = [g] := by
    match gs, hV with
    | [g], _ => exact ⟨g, rfl⟩
  obtain ⟨g, rfl⟩ := hgs
  refine (exact_any F.told t b o W hF t0 t1 hg hc).mono fun e W' ⟨he, hB⟩ => ?_
  subst he
  refine ⟨_, rfl, _, _, _, [], [], q, hW', ?_, ?_, ?_, hB.frame _, fun h => by cases h⟩
  · exact trodAll_mk1 (shut_bool Ybaf.underlying4 true)
  · exact trodAll_mk1 (shut_int Ybaf.underlying5 wt)
  · exact Below.trodVars laidOut hB (by kernel_rfl) hV

theorem lawS5080AExact_proved : Rows.LawS5080AExactToldSaid :=
  Claim7.holds_of_told_tied_any_at .later 3 Ybaf.f3 _ _ [] _ _ _ _ _ (by kernel_rfl) rfl rfl rfl laidOut (by kernel_rfl) rfl ⟨rfl, rfl, rfl, rfl, rfl, rfl, rfl⟩ rfl rfl (by kernel_rfl) (by kernel_rfl) Ybaf.func3 (by kernel_rfl)
    (of_decide_eq_true (by kernel_rfl)) (of_decide_eq_true (by kernel_rfl)) (by kernel_rfl) rfl stopKnobs.symm (by kernel_rfl)
    (by kernel_rfl) (by kernel_rfl) (by kernel_rfl) (by kernel_rfl) (by kernel_rfl) (by kernel_rfl) (by kernel_rfl) (by kernel_rfl) (by kernel_rfl) rfl (by kernel_rfl) rfl rfl
    rfl rfl
    rfl (by kernel_rfl) (by kernel_rfl) (by kernel_rfl) (by decide) (by kernel_rfl) lawS5080AExact_row_tie
    (OpenClaim.moreEntering_of (by kernel_rfl) (by kernel_rfl) (by kernel_rfl) (by kernel_rfl) (by kernel_rfl) (by kernel_rfl) (by kernel_rfl) (by kernel_rfl) (by kernel_rfl) (by kernel_rfl))
    ⟨_, WideRow.started_initial, quiet _⟩
    (fun os started _ H enc _ => exact_lifted os started H enc)
end Go.Proofs.YbulkdaekFmt
