import Derived.Test.YbulkdaeyDoorOpen
import Derived.Test.YbulkdaeyDoorSendsAny
import Derived.Stop.LaidErr
import Derived.LaidEql
/-
  LawS5081ASends: the tied card.
-/
namespace Go.Proofs.YbulkdaeyDoor
open Go.ChangeShapes Go.WideShapes Go.ChangeAt Go.RowKit

abbrev laid3 : List (String × DataW Unit) := Rows.lawS5081ASendsRow.laid

/-- The two variables' cells, ErrNoTree first. -/
theorem vars_ep {H : Type} {enc : TypeId × Value → H} {w : World} {spare : Nat → Bool} {n1 n2 : String} {gs : List (DataW H)} {q : List MemPlace} (h1 : Ybad.prog.globalNamed n1 = some 0) (h2 : Ybad.prog.globalNamed n2 = some 2) (t1 : (Ybad.prog.globals[0]?).map (·.type) = some 72) (t2 : (Ybad.prog.globals[2]?).map (·.type) = some 114)
    (h : DataW.TrodVars enc Ybad.prog w spare [n1, n2] gs q) : ∃ d1 d2, gs = [d1, d2] ∧ ∃ bu ev er, w.cell? ⟨2, 0, none⟩ = some (.int .i64 bu) ∧ w.cell? ⟨2, 1, none⟩ = some (.int .i64 ev) ∧ w.cell? ⟨0, 0, none⟩ = some er := by
  match gs, h with
  | d1 :: d2 :: gs', ⟨g, t, cs, fuel, p, q, e1, e2, e3, e4, ⟨g', t', cs', fuel', p', q', f1, f2, f3, f4, f5, _⟩, _⟩ =>
    obtain rfl : 0 = g := Option.some.inj (h1.symm.trans e1)
    obtain rfl : 2 = g' := Option.some.inj (h2.symm.trans f1)
    obtain rfl : 72 = t := Option.some.inj (t1.symm.trans e2)
    obtain rfl : 114 = t' := Option.some.inj (t2.symm.trans f2)
    obtain ⟨c, hc⟩ := one_cell e4
    obtain ⟨a, b, hab⟩ := two_ints f4
    have hg : gs' = [] := by
      cases gs' with
      | nil => rfl
      | cons _ _ => exact f5.elim
    subst hg
    refine ⟨d1, d2, rfl, a, b, c, var_cell f1 f3 0 ?_, var_cell f1 f3 1 ?_, var_cell e1 e3 0 ?_⟩
    · rw [← Array.getElem?_toList, hab]; rfl
    · rw [← Array.getElem?_toList, hab]; rfl
    · rw [← Array.getElem?_toList, hc]; rfl

/-- The sentinel's dynamic type's name, off the row. -/
def errName : String := match (Rows.laid_example_com_hopwire_hopwire_internal_tree_ErrNoTree : DataW Unit) with | .iface n _ => n | _ => ""
theorem row204 (u : TypeId) (h : Ybad.prog.typeName? 3 u = some errName) : u = 204 :=
  typeName_ptr_named (nm := "errors.errorString") (by kernel_rfl) (by kernel_rfl) (by decide) u (by exact h)

theorem info204 : ∃ i, Ybad.prog.info? 204 = some i ∧ i.comparable = true := by
  have h : ((Ybad.prog.info? 204).map (·.comparable)) = some true := by kernel_rfl
  obtain ⟨i, h1, h2⟩ := Option.map_eq_some_iff.1 h
  exact ⟨i, h1, h2⟩
theorem info245 : ∃ j, Ybad.prog.info? 245 = some j := by
  have h : (Ybad.prog.info? 245).isSome = true := by kernel_rfl
  exact Option.isSome_iff_exists.1 h

/-- ErrNoTree compares with itself as equal. -/
theorem err_of {W : World} {er : Value} (h : laidMetH Ybad.prog laid3 W) (hc : W.cell? ⟨0, 0, none⟩ = some er) :
    (∀ w, (binOp .eql 72 er er).run Ybad.prog w = .ok (.bool true) w) ∧ (∀ (x y : Operand) (w : World), (eqGuard .eql 72 x y er er).run Ybad.prog w = .ok () w) := by
  rw [MakeChecks.laidMetH_plain _ _ _ (by kernel_rfl)] at h
  have h2 := laidMet.tail h
  obtain ⟨a, s, hv, _⟩ := laid_sentinel h2 (g := 0) (by kernel_rfl) (by kernel_rfl) Ybad.underlying72 row204 Ybad.underlying204 Ybad.underlying245 rfl rfl Ybad.underlying9 (by kernel_rfl) (by kernel_rfl)
  have he : er = .iface 204 (.pointer (some a)) := by
    have := var_cell (show Ybad.prog.globalNamed _ = some 0 by kernel_rfl) hv 0 (by rfl)
    rw [this] at hc
    exact (Option.some.inj hc).symm
  subst he
  obtain ⟨i, i1, i2⟩ := info204
  obtain ⟨j, j1⟩ := info245
  exact ⟨fun w => run_eql_iface_ptr_same w a Ybad.underlying72 Ybad.underlying204 i1 i2 j1, fun x y w => by simp [eqGuard]⟩

theorem door_met3 (os : Os) (args : Array Value) : laidMetH Ybad.prog laid3 ((World.doorLaid Ybad.prog 52 os).forCall (fun _ _ => 0) ⟨#[], args, []⟩).memory := by
  rw [MakeChecks.laidMetH_plain _ _ _ (by kernel_rfl)]
  exact laidMet_of_run' 8 (by kernel_rfl) (by kernel_rfl)

set_option maxRecDepth 100000 in
theorem sends_lifted (os : Os) (started : os.Started) (H : Type) (enc : TypeId × Value → H) :
    ReturnsInHanded {} Ybad.checked os 3 .any (fun w args => (Rows.lawS5081ASendsSpec.pre enc Ybad.prog Ybad.f3 [] false w args ∧ laidMetH Ybad.prog laid3 w) ∧ sizedMet enc Ybad.prog Ybad.f3 (OpenSpec.ofChange Rows.lawS5081ASendsSpec) false w args)
      (Rows.lawS5081ASendsSpec.post enc Ybad.prog Ybad.f3 false true false false) := by
  refine returnsInHanded_of_change_and (C := Ybad.checked) (X := fun w _ => laidMetH Ybad.prog laid3 w) (fun _ _ _ hh h => h.of_heap hh) own started (by kernel_rfl) Ybad.func3
    (ChangeSpec.witness_shaped (enc := enc) (C := Ybad.checked) (os := os) (X := fun w _ => laidMetH Ybad.prog laid3 w) false (World.doorLaid Ybad.prog 52 os) #[zeroKey, zeroKey, .bool false, .int .i64 0, .int .u8 0, .int .u8 0, .int .i64 0] 8 rfl (World.shaped_of_RefB (by kernel_rfl) (by kernel_rfl)) (by kernel_rfl) (by kernel_rfl) (by kernel_rfl) (door_met3 os _)) ?_
  intro W base args ds gs before hval0 hW _ _ hL _
  have hval : ∀ (j : Nat) t v, Ybad.f3.params[j]? = some t → args[j]? = some v → Value.okWide Ybad.prog W .any base t v := hval0
  have hW' := hW
  obtain ⟨p, q, hA0, hV, rfl, hfz, hnd⟩ := hW
  have hA : DataW.TrodAll enc Ybad.prog W 0 (fun _ => true) true Ybad.f3.params.toList args.toList ds p := hA0
  rw [Ybad.params3] at hA hval
  obtain ⟨v0, l0, d0, e0, p0, r0, ha0, rfl, rfl, h0, hA1⟩ := trodAll_cons hA
  obtain ⟨v1, l1, d1, e1, p1, r1, rfl, rfl, rfl, h1, hA2⟩ := trodAll_cons hA1
  obtain ⟨v2, l2, d2, e2, p2, r2, rfl, rfl, rfl, h2, hA3⟩ := trodAll_cons hA2
  obtain ⟨v3, l3, d3, e3, p3, r3, rfl, rfl, rfl, h3, hA4⟩ := trodAll_cons hA3
  obtain ⟨v4, l4, d4, e4, p4, r4, rfl, rfl, rfl, h4, hA5⟩ := trodAll_cons hA4
  obtain ⟨v5, l5, d5, e5, p5, r5, rfl, rfl, rfl, h5, hA6⟩ := trodAll_cons hA5
  obtain ⟨v6, l6, d6, e6, p6, r6, rfl, rfl, rfl, h6, hA7⟩ := trodAll_cons hA6
  obtain ⟨rfl, rfl, rfl⟩ := trodAll_nil hA7
  obtain rfl : args = #[v0, v1, v2, v3, v4, v5, v6] := by cases args; simp_all
  obtain ⟨k0, hk0, rfl⟩ := open_key (hval 0 22 v0 rfl rfl) h0
  obtain ⟨k1, hk1, rfl⟩ := open_key (hval 1 22 v1 rfl rfl) h1
  obtain ⟨b, rfl⟩ := okWide_bool Ybad.underlying4 (hval 2 4 v2 rfl rfl)
  obtain ⟨n3, rfl⟩ := okWide_int Ybad.underlying3 (hval 3 3 v3 rfl rfl)
  obtain ⟨n4, rfl, -, -, w4⟩ := open_int Ybad.underlying5 (hval 4 5 v4 rfl rfl) h4
  obtain ⟨n5, rfl, -, -, w5⟩ := open_int Ybad.underlying5 (hval 5 5 v5 rfl rfl) h5
  obtain ⟨n6, rfl⟩ := okWide_int Ybad.underlying2 (hval 6 2 v6 rfl rfl)
  clear hA0 hval0
  obtain ⟨x1, x2, hx, y1, y2⟩ : ∃ x1 x2, Rows.lawS5081ASendsSpec.vars = [x1, x2] ∧ Ybad.prog.globalNamed x1 = some 0 ∧ Ybad.prog.globalNamed x2 = some 2 := ⟨_, _, rfl, by kernel_rfl, by kernel_rfl⟩
  have hV2 : DataW.TrodVars enc Ybad.prog W (fun _ => true) [x1, x2] gs q := by rw [← hx]; exact hV
  obtain ⟨z1, z2, rfl, bu, ev, er, c0, c1, c2⟩ := vars_ep y1 y2 glob0 glob2 hV2
  obtain ⟨heq, hgu⟩ := err_of hL c2
  obtain ⟨m0, m1⟩ := u8_bounds w4
  obtain ⟨s0, s1⟩ := u8_bounds w5
  have hlt := hA.lt
  refine (sends_any k0 k1 b n3 n4 n5 n6 bu ev er W hk0 hk1 m0 m1 s0 s1 c0 c1 c2 heq hgu).mono fun e W' ⟨he, hB⟩ => ?_
  subst he
  refine ⟨_, rfl, _, _, _, [], p0 ++ (p1 ++ (p2 ++ (p3 ++ (p4 ++ (p5 ++ (p6 ++ [])))))), q, hW', ?_, ?_, ?_, hB.frame _, fun h => by cases h⟩
  · exact trodAll_mk1 (shut_bool Ybad.underlying4 true)
  · have kp : ∀ {t : TypeId} {v : Value} {d : DataW H} {ps : List MemPlace}, Ybad.prog.readableRec t = true → t < Ybad.prog.types.size → DataW.Trod enc Ybad.prog W 0 (fun _ => true) true t v d ps → (∀ x ∈ ps, x.block < W.heap.size) → DataW.Trod enc Ybad.prog W' 0 (fun b => decide (b < W.heap.size)) true t v d ps :=
      fun hr hrow h hl => Below.trod laidOut hr hrow h hB hl
    exact trodAll_cons_mk (kp (by kernel_rfl) (of_decide_eq_true (by kernel_rfl)) h0 (fun x hx => hlt x (by simp [hx]))) (trodAll_cons_mk (kp (by kernel_rfl) (of_decide_eq_true (by kernel_rfl)) h1 (fun x hx => hlt x (by simp [hx]))) (trodAll_cons_mk (kp (by kernel_rfl) (of_decide_eq_true (by kernel_rfl)) h2 (fun x hx => hlt x (by simp [hx])))
      (trodAll_cons_mk (kp (by kernel_rfl) (of_decide_eq_true (by kernel_rfl)) h3 (fun x hx => hlt x (by simp [hx]))) (trodAll_cons_mk (kp (by kernel_rfl) (of_decide_eq_true (by kernel_rfl)) h4 (fun x hx => hlt x (by simp [hx]))) (trodAll_cons_mk (kp (by kernel_rfl) (of_decide_eq_true (by kernel_rfl)) h5 (fun x hx => hlt x (by simp [hx])))
      (trodAll_cons_mk (kp (by kernel_rfl) (of_decide_eq_true (by kernel_rfl)) h6 (fun x hx => hlt x (by simp [hx]))) rfl))))))
  · exact Below.trodVars laidOut hB (by kernel_rfl) hV

theorem sends_holds : Rows.LawS5081ASendsSaid :=
  OpenClaim.holds_of_wide 3 Ybad.f3 rfl rfl rfl rfl rfl rfl rfl ⟨rfl, rfl, rfl, rfl, rfl⟩ rfl rfl rfl rfl rfl (by kernel_rfl) Ybad.func3 (by kernel_rfl)
    (of_decide_eq_true (by kernel_rfl)) (by unfold Func.isWrapper; rw [if_neg (of_decide_eq_false (by kernel_rfl))]; exact ⟨rfl, rfl⟩)
    (fun os started H enc _ => sends_lifted os started H enc)

theorem stand3 : ∀ (j : Nat) (t : TypeId), Ybad.f3.params[j]? = some t → Ybad.prog.wantsStandIn t = false := by
  have h : (Ybad.f3.params.toList.all fun t => !Ybad.prog.wantsStandIn t) = true := by kernel_rfl
  intro j t ht
  have hm : t ∈ Ybad.f3.params.toList := by
    rw [← Array.getElem?_toList] at ht
    exact List.mem_of_getElem? ht
  simpa using List.all_eq_true.1 h t hm

theorem lawS5081ASends_proved : Rows.LawS5081ASendsCardSaid :=
  Claim7.holds_tied_plain_at .later [] _ true _ true
    sends_holds (fun _ h => by cases h) (by kernel_rfl) (fun _ h => by cases h) lawS5081ASends_row_tie rfl ⟨rfl, rfl⟩ (by kernel_rfl) rfl
    (fun f fn hf hfn => by
      obtain rfl : f = 3 := (Option.some.inj ((show Ybad.prog.funcNamed Ybad.f3.name = some 3 by kernel_rfl).symm.trans hf)).symm
      obtain rfl : fn = Ybad.f3 := (Option.some.inj (Ybad.func3.symm.trans hfn)).symm
      exact ⟨by kernel_rfl, stand3⟩)
    (by kernel_rfl)
end Go.Proofs.YbulkdaeyDoor
