import Derived.Test.YbulkdaeyDoorAnnOpen
/-
  LawS5081CAnnounce: the tied card.
-/
namespace Go.Proofs.YbulkdaeyDoor
open Go.ChangeShapes Go.WideShapes Go.ChangeAt Go.RowKit

theorem announce_any (keeps : Bool) (p q : Option Addr) (n c k d : Nat) (xs : List Int) (bf : Int) (rs : List (Int × Int)) (er : Value) (w : World) (hn : xs.length = n) (hx : ∀ x ∈ xs, 0 ≤ x ∧ x ≤ 255) (b0 : 0 ≤ bf) (b1 : bf ≤ 255) (hq : SQ w p xs)
    (hk : rs.length = k) (hr : ∀ r ∈ rs, 0 ≤ r.1 ∧ r.1 ≤ 255 ∧ -128 ≤ r.2 ∧ r.2 ≤ 127) (hrq : NQ w q rs) (ge : w.cell? ⟨1, 0, none⟩ = some er) (heq : ∀ w, (binOp .eql 72 er er).run Ybad.prog w = .ok (.bool true) w) (hgu : ∀ (x y : Operand) (w : World), (eqGuard .eql 72 x y er er).run Ybad.prog w = .ok () w) :
    Calls Ybad.prog 5 #[.bool keeps, .slice p n c, .int .u8 bf, .slice q k d] w fun e w' => e = .returned (.bool true) ∧ Kp [] w w' := by
  by_cases h : 1024 < n ∨ 1024 < k
  · exact announce_big keeps p q n c k d bf w h
  · exact announce_law keeps p q n c k d xs bf rs er w hn (by omega) hx b0 b1 hq hk (by omega) hr hrq ge heq hgu

theorem vars_two {H : Type} {enc : TypeId × Value → H} {w : World} {spare : Nat → Bool} {n1 n2 : String} {gs : List (DataW H)} {q : List MemPlace} (h : DataW.TrodVars enc Ybad.prog w spare [n1, n2] gs q) : ∃ d1 d2, gs = [d1, d2] := by
  match gs, h with
  | d1 :: d2 :: gs', ⟨g, t, cs, fuel, p, q, e1, e2, e3, e4, ⟨g', t', cs', fuel', p', q', f1, f2, f3, f4, f5, _⟩, _⟩ =>
    have hg : gs' = [] := by
      cases gs' with
      | nil => rfl
      | cons _ _ => exact f5.elim
    subst hg
    exact ⟨d1, d2, rfl⟩

theorem door_met5 (os : Os) (args : Array Value) : laidMetH Ybad.prog laid5 ((World.doorLaid Ybad.prog 52 os).forCall (fun _ _ => 0) ⟨#[], args, []⟩).memory := by
  rw [MakeChecks.laidMetH_plain _ _ _ (by kernel_rfl)]
  exact laidMet_of_run' 8 (by kernel_rfl) (by kernel_rfl)

set_option maxRecDepth 100000 in
theorem announce_lifted (os : Os) (started : os.Started) (H : Type) (enc : TypeId × Value → H) :
    ReturnsInHanded {} Ybad.checked os 5 .any (fun w args => (Rows.lawS5081CAnnounceSpec.pre enc Ybad.prog Ybad.f5 [] false w args ∧ laidMetH Ybad.prog laid5 w) ∧ sizedMet enc Ybad.prog Ybad.f5 (OpenSpec.ofChange Rows.lawS5081CAnnounceSpec) false w args)
      (Rows.lawS5081CAnnounceSpec.post enc Ybad.prog Ybad.f5 false true false false) := by
  refine returnsInHanded_of_change_and (C := Ybad.checked) (X := fun w _ => laidMetH Ybad.prog laid5 w) (fun _ _ _ hh h => h.of_heap hh) own5 started (by kernel_rfl) Ybad.func5
    (ChangeSpec.witness_shaped (enc := enc) (C := Ybad.checked) (os := os) (X := fun w _ => laidMetH Ybad.prog laid5 w) false (World.doorLaid Ybad.prog 52 os) #[.bool false, .slice none 0 0, .int .u8 0, .slice none 0 0] 8 rfl (World.shaped_of_RefB (by kernel_rfl) (by kernel_rfl)) (by kernel_rfl) (by kernel_rfl) (by kernel_rfl) (door_met5 os _)) ?_
  intro W base args ds gs before hval0 hW _ _ hL _
  have hval : ∀ (j : Nat) t v, Ybad.f5.params[j]? = some t → args[j]? = some v → Value.okWide Ybad.prog W .any base t v := hval0
  have hW' := hW
  obtain ⟨p, q, hA0, hV, rfl, hfz, hnd⟩ := hW
  have hA : DataW.TrodAll enc Ybad.prog W 0 (fun _ => true) true Ybad.f5.params.toList args.toList ds p := hA0
  rw [Ybad.params5] at hA hval
  obtain ⟨v0, l0, d0, e0, p0, r0, ha0, rfl, rfl, h0, hA1⟩ := trodAll_cons hA
  obtain ⟨v1, l1, d1, e1, p1, r1, rfl, rfl, rfl, h1, hA2⟩ := trodAll_cons hA1
  obtain ⟨v2, l2, d2, e2, p2, r2, rfl, rfl, rfl, h2, hA3⟩ := trodAll_cons hA2
  obtain ⟨v3, l3, d3, e3, p3, r3, rfl, rfl, rfl, h3, hA4⟩ := trodAll_cons hA3
  obtain ⟨rfl, rfl, rfl⟩ := trodAll_nil hA4
  obtain rfl : args = #[v0, v1, v2, v3] := by cases args; simp_all
  obtain ⟨b, rfl⟩ := okWide_bool Ybad.underlying4 (hval 0 4 v0 rfl rfl)
  obtain ⟨sp, sn, sc, xs, rfl, hn, hx, hq⟩ := open_seen (hval 1 77 v1 rfl rfl) h1
  obtain ⟨n2, rfl, -, -, w2⟩ := open_int Ybad.underlying5 (hval 2 5 v2 rfl rfl) h2
  obtain ⟨np, nn, nc, rs, rfl, hk, hr, hrq⟩ := open_names (hval 3 88 v3 rfl rfl) h3
  clear hA0 hval0
  obtain ⟨x1, x2, hxv⟩ : ∃ x1 x2, Rows.lawS5081CAnnounceSpec.vars = [x1, x2] := ⟨_, _, rfl⟩
  have hV2 : DataW.TrodVars enc Ybad.prog W (fun _ => true) [x1, x2] gs q := by rw [← hxv]; exact hV
  obtain ⟨z1, z2, rfl⟩ := vars_two hV2
  obtain ⟨er, ge, heq, hgu⟩ := err_no hL
  obtain ⟨m0, m1⟩ := u8_in w2
  have hlt := hA.lt
  refine (announce_any b sp np sn sc nn nc xs n2 rs er W hn hx m0 m1 hq hk hr hrq ge heq hgu).mono fun e W' ⟨he, hK⟩ => ?_
  subst he
  have hB : Below W.heap.size W W' := hK.toBelow (Nat.le_refl _) (by simp)
  refine ⟨_, rfl, _, _, _, [], p0 ++ (p1 ++ (p2 ++ (p3 ++ []))), q, hW', ?_, ?_, ?_, hB.frame _, fun h => by cases h⟩
  · exact trodAll_mk1 (shut_bool Ybad.underlying4 true)
  · have kp : ∀ {t : TypeId} {v : Value} {d : DataW H} {ps : List MemPlace}, Ybad.prog.readableRec t = true → t < Ybad.prog.types.size → DataW.Trod enc Ybad.prog W 0 (fun _ => true) true t v d ps → (∀ x ∈ ps, x.block < W.heap.size) → DataW.Trod enc Ybad.prog W' 0 (fun b => decide (b < W.heap.size)) true t v d ps :=
      fun hr hrow h hl => Below.trod laidOut5 hr hrow h hB hl
    exact trodAll_cons_mk (kp (by kernel_rfl) (of_decide_eq_true (by kernel_rfl)) h0 (fun x hx => hlt x (by simp [hx]))) (trodAll_cons_mk (kp (by kernel_rfl) (of_decide_eq_true (by kernel_rfl)) h1 (fun x hx => hlt x (by simp [hx]))) (trodAll_cons_mk (kp (by kernel_rfl) (of_decide_eq_true (by kernel_rfl)) h2 (fun x hx => hlt x (by simp [hx])))
      (trodAll_cons_mk (kp (by kernel_rfl) (of_decide_eq_true (by kernel_rfl)) h3 (fun x hx => hlt x (by simp [hx]))) rfl)))
  · exact Below.trodVars laidOut5 hB (by kernel_rfl) hV

theorem announce_holds : Rows.LawS5081CAnnounceSaid :=
  OpenClaim.holds_of_wide 5 Ybad.f5 rfl rfl rfl rfl rfl rfl rfl ⟨rfl, rfl, rfl, rfl, rfl⟩ rfl rfl rfl rfl rfl (by kernel_rfl) Ybad.func5 (by kernel_rfl)
    (of_decide_eq_true (by kernel_rfl)) (by unfold Func.isWrapper; rw [if_neg (of_decide_eq_false (by kernel_rfl))]; exact ⟨rfl, rfl⟩)
    (fun os started H enc _ => announce_lifted os started H enc)

theorem stand5 : ∀ (j : Nat) (t : TypeId), Ybad.f5.params[j]? = some t → Ybad.prog.wantsStandIn t = false := by
  have h : (Ybad.f5.params.toList.all fun t => !Ybad.prog.wantsStandIn t) = true := by kernel_rfl
  intro j t ht
  have hm : t ∈ Ybad.f5.params.toList := by
    rw [← Array.getElem?_toList] at ht
    exact List.mem_of_getElem? ht
  simpa using List.all_eq_true.1 h t hm

theorem lawS5081CAnnounce_proved : Rows.LawS5081CAnnounceCardSaid :=
  Claim7.holds_tied_plain_at .later [] _ true _ true
    announce_holds (fun _ h => by cases h) (by kernel_rfl) (fun _ h => by cases h) lawS5081CAnnounce_row_tie rfl ⟨rfl, rfl⟩ (by kernel_rfl) rfl
    (fun f fn hf hfn => by
      obtain rfl : f = 5 := (Option.some.inj ((show Ybad.prog.funcNamed Ybad.f5.name = some 5 by kernel_rfl).symm.trans hf)).symm
      obtain rfl : fn = Ybad.f5 := (Option.some.inj (Ybad.func5.symm.trans hfn)).symm
      exact ⟨by kernel_rfl, stand5⟩)
    (by kernel_rfl)
end Go.Proofs.YbulkdaeyDoor
