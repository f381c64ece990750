import Derived.Test.YbulkdaeyDoorAnnLaw
import Derived.Test.YbulkdaeyDoorTie
import Derived.Test.YbulkdaeyDoorCards
import Derived.ProofKit
import Derived.LaidMore
import Derived.OpenVars
import Derived.OpenShut
import Derived.Carry
import Derived.MakeChecks
import Derived.SevenTiedAt
import Derived.Stop.LaidErr
import Derived.LaidEql
import Derived.Deep.SlicePairs
import Derived.ChangeSlices
/-
  LawS5081CAnnounce: from a row's arguments and variables to the walk.
-/
namespace Go.Proofs.YbulkdaeyDoor
open Go.ChangeShapes Go.WideShapes Go.ChangeAt Go.RowKit Go.Deep

theorem own5 : ownKnob Ybad.prog.godebug = none := by kernel_rfl
theorem laidOut5 : laidOutB Ybad.pinned.checked.prog = true := by kernel_rfl
theorem c5 : Ybad.prog.cellsOf 5 = 1 := by kernel_rfl
theorem c93 : Ybad.prog.cellsOf 93 = 1 := by kernel_rfl
theorem c95 : Ybad.prog.cellsOf 95 = 2 := by kernel_rfl

theorem u8_in {t : Int} (h : (Lit.int .u8 t).wf = true) : 0 ≤ t ∧ t ≤ 255 := by
  have := h
  simp [Lit.wf, IntKind.min, IntKind.max, IntKind.signed, IntKind.bits] at this
  omega
theorem i8_in {t : Int} (h : (Lit.int .i8 t).wf = true) : -128 ≤ t ∧ t ≤ 127 := by
  have := h
  simp [Lit.wf, IntKind.min, IntKind.max, IntKind.signed, IntKind.bits] at this
  omega

set_option maxRecDepth 100000 in
/-- The seen messages that came in. -/
theorem open_seen {H : Type} {enc : TypeId × Value → H} {W : World} {base : Nat} {v : Value} {d : DataW H} {ps : List MemPlace} (hval : Value.okWide Ybad.prog W .any base 77 v) (h : DataW.Trod enc Ybad.prog W 0 (fun _ => true) true 77 v d ps) :
    ∃ (p : Option Addr) (n c : Nat) (xs : List Int), v = .slice p n c ∧ xs.length = n ∧ (∀ x ∈ xs, 0 ≤ x ∧ x ≤ 255) ∧ SQ W p xs := by
  obtain ⟨a1, len, cap, rfl⟩ := okWide_slice Ybad.underlying77 hval
  obtain ⟨fuel, hf⟩ := h
  rcases open_ints Ybad.underlying77 Ybad.underlying5 c5 hf with ⟨hcs, hx⟩ | ⟨a, len', cap', zs, hcs, _, hl, hm, hz, hx, hcell, hwz⟩
  · simp [Value.cells] at hcs
    obtain ⟨rfl, rfl, rfl⟩ := hcs
    exact ⟨none, 0, 0, [], rfl, rfl, by simp, fun h => (h rfl).elim⟩
  · simp [Value.cells] at hcs
    obtain ⟨rfl, rfl, rfl⟩ := hcs
    simp only [if_true] at hz
    have hlen : (zs.take len).length = len := by simp; omega
    refine ⟨_, _, _, zs.take len, rfl, hlen, fun x hx => u8_in (hwz x (List.mem_of_mem_take hx)), fun hne => ?_⟩
    have hpos : 0 < len := by
      rcases Nat.eq_zero_or_pos len with e | e
      · subst e; simp at hne
      · exact e
    obtain ⟨ab, ao, spot⟩ := a
    have hspot : spot = none := by simpa [Addr.add] using World.cell?_spot (hcell 0 (by omega))
    subst hspot
    refine ⟨ab, ao, rfl, ?_, fun i hi => ?_⟩
    · have := lt_of_cell (hcell 0 (by omega))
      simpa [Addr.add] using this
    · rw [hlen] at hi
      have hc := hcell i (by omega)
      rw [Addr.add_mid] at hc
      rw [hc]
      simp [List.getD, List.getElem?_eq_getElem (show i < zs.length by omega)]

set_option maxRecDepth 100000 in
/-- The names that came in. -/
theorem open_names {H : Type} {enc : TypeId × Value → H} {W : World} {base : Nat} {v : Value} {d : DataW H} {ps : List MemPlace} (hval : Value.okWide Ybad.prog W .any base 88 v) (h : DataW.Trod enc Ybad.prog W 0 (fun _ => true) true 88 v d ps) :
    ∃ (p : Option Addr) (n c : Nat) (rs : List (Int × Int)), v = .slice p n c ∧ rs.length = n ∧ (∀ r ∈ rs, 0 ≤ r.1 ∧ r.1 ≤ 255 ∧ -128 ≤ r.2 ∧ r.2 ≤ 127) ∧ NQ W p rs := by
  obtain ⟨a1, len, cap, rfl⟩ := okWide_slice Ybad.underlying88 hval
  obtain ⟨fuel, hf⟩ := h
  rcases open_slice_pairs Ybad.underlying88 Ybad.underlying95 c95 rfl rfl c5 c93 hf with ⟨hcs, hx⟩ | ⟨a, len', cap', m, n, V0, V1, D0, D1, P0, P1, hcs, _, hl, hm, hmm, hx, hcell⟩
  · simp [Value.cells] at hcs
    obtain ⟨rfl, rfl, rfl⟩ := hcs
    exact ⟨none, 0, 0, [], rfl, rfl, by simp, fun h => (h rfl).elim⟩
  · simp [Value.cells] at hcs
    obtain ⟨rfl, rfl, rfl⟩ := hcs
    simp only [if_true] at hmm
    have each : ∀ i, i < len → ∃ r : Int × Int, V0 i = .int .u8 r.1 ∧ V1 i = .int .i8 r.2 ∧ 0 ≤ r.1 ∧ r.1 ≤ 255 ∧ -128 ≤ r.2 ∧ r.2 ≤ 127 := by
      intro i hi
      obtain ⟨_, _, t0, t1⟩ := hcell i (by omega)
      obtain ⟨x, hx1, -, hx2⟩ := DataW.trod_int Ybad.underlying5 t0
      obtain ⟨y, hy1, -, hy2⟩ := DataW.trod_int Ybad.underlying93 t1
      simp at hx1 hy1
      have := u8_in hx2
      have := i8_in hy2
      exact ⟨(x, y), hx1, hy1, by simp only; omega, by simp only; omega, by simp only; omega, by simp only; omega⟩
    obtain ⟨f, hf'⟩ := choose_lt each
    refine ⟨_, _, _, (List.range len).map f, rfl, by simp, fun r hr => ?_, fun hne => ?_⟩
    · obtain ⟨i, hi, rfl⟩ := List.mem_map.1 hr
      exact (hf' i (List.mem_range.1 hi)).2.2
    · have hpos : 0 < len := by
        rcases Nat.eq_zero_or_pos len with e | e
        · subst e; simp at hne
        · exact e
      obtain ⟨ab, ao, spot⟩ := a
      have hspot : spot = none := by simpa [Addr.add] using World.cell?_spot (hcell 0 (by omega)).1
      subst hspot
      refine ⟨ab, ao, rfl, ?_, fun i hi => ?_⟩
      · have := lt_of_cell (hcell 0 (by omega)).1
        simpa [Addr.add] using this
      · have hi' : i < len := by simpa using hi
        obtain ⟨e0, e1, _⟩ := hcell i (by omega)
        rw [Addr.add_mid] at e0 e1
        obtain ⟨g0, g1, _⟩ := hf' i hi'
        rw [g0] at e0
        rw [g1] at e1
        intro j w hw
        match j with
        | 0 => simp at hw; subst hw; simpa using e0
        | 1 => simp at hw; subst hw; simpa [Nat.add_assoc] using e1
        | _ + 2 => simp at hw

theorem var_cell5 {w : World} {n : String} {g : Nat} {cs : Array Value} (hg : Ybad.prog.globalNamed n = some g) (h : w.var? Ybad.prog n = some cs) (j : Nat) {v : Value} (hv : cs[j]? = some v) : w.cell? ⟨g, j, none⟩ = some v := by
  unfold World.var? at h
  rw [hg] at h
  simp only [Option.bind_some] at h
  split at h
  · next cs' t fr e =>
    obtain rfl := Option.some.inj h
    simp [World.cell?, e, hv]
  · cases h

def errName5 : String := match (Rows.laid_example_com_hopwire_hopwire_internal_tree_ErrNoNeighbours : DataW Unit) with | .iface n _ => n | _ => ""
theorem row204' (u : TypeId) (h : Ybad.prog.typeName? 3 u = some errName5) : u = 204 :=
  typeName_ptr_named (nm := "errors.errorString") (by kernel_rfl) (by kernel_rfl) (by decide) u (by exact h)
theorem info204' : ∃ i, Ybad.prog.info? 204 = some i ∧ i.comparable = true := by
  have h : ((Ybad.prog.info? 204).map (·.comparable)) = some true := by kernel_rfl
  obtain ⟨i, h1, h2⟩ := Option.map_eq_some_iff.1 h
  exact ⟨i, h1, h2⟩
theorem info245' : ∃ j, Ybad.prog.info? 245 = some j := by
  have h : (Ybad.prog.info? 245).isSome = true := by kernel_rfl
  exact Option.isSome_iff_exists.1 h

abbrev laid5 : List (String × DataW Unit) := Rows.lawS5081CAnnounceRow.laid

/-- ErrNoNeighbours: it lies, and compares with itself as equal. -/
theorem err_no {W : World} (h : laidMetH Ybad.prog laid5 W) : ∃ er, W.cell? ⟨1, 0, none⟩ = some er ∧
    (∀ w, (binOp .eql 72 er er).run Ybad.prog w = .ok (.bool true) w) ∧ (∀ (x y : Operand) (w : World), (eqGuard .eql 72 x y er er).run Ybad.prog w = .ok () w) := by
  rw [MakeChecks.laidMetH_plain _ _ _ (by kernel_rfl)] at h
  have h2 := laidMet.tail h
  obtain ⟨a, s, hv, _⟩ := laid_sentinel h2 (g := 1) (by kernel_rfl) (by kernel_rfl) Ybad.underlying72 row204' Ybad.underlying204 Ybad.underlying245 rfl rfl Ybad.underlying9 (by kernel_rfl) (by kernel_rfl)
  obtain ⟨i, i1, i2⟩ := info204'
  obtain ⟨j, j1⟩ := info245'
  exact ⟨.iface 204 (.pointer (some a)), var_cell5 (show Ybad.prog.globalNamed _ = some 1 by kernel_rfl) hv 0 (by rfl), fun w => run_eql_iface_ptr_same w a Ybad.underlying72 Ybad.underlying204 i1 i2 j1, fun x y w => by simp [eqGuard]⟩

set_option maxRecDepth 20000 in
set_option maxHeartbeats 800000 in
/-- More than 1024 of either. -/
theorem announce_big (keeps : Bool) (p q : Option Addr) (n c k d : Nat) (bf : Int) (w : World) (h : 1024 < n ∨ 1024 < k) :
    Calls Ybad.prog 5 #[.bool keeps, .slice p n c, .int .u8 bf, .slice q k d] w fun e w' => e = .returned (.bool true) ∧ Kp [] w w' := by
  by_cases h2 : 1024 < k
  · have hk1 : (1024 : Int) < (k : Int) := by omega
    go_enter Ybad.func5, Ybad.ntmps5
    go_wp2_with fail
    go_ret
    exact ⟨rfl, Kp.refl _ _⟩
  · have hk1 : ¬ (1024 : Int) < (k : Int) := by omega
    have hn1 : (1024 : Int) < (n : Int) := by omega
    go_enter Ybad.func5, Ybad.ntmps5
    go_wp2_with fail
    go_ret
    exact ⟨rfl, Kp.refl _ _⟩
end Go.Proofs.YbulkdaeyDoor
