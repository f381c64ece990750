import Derived.Test.YbulkdaeyDoorBuild
import Derived.Test.YbulkdaeyDoorTie
import Derived.Test.YbulkdaeyDoorCards
import Derived.ProofKit
import Derived.LaidMore
import Derived.OpenVars
import Derived.OpenShut
import Derived.Carry
import Derived.MakeChecks
import Derived.SevenTiedAt
/-
  From a row's arguments and variables to what the walks ask.
-/
namespace Go.Proofs.YbulkdaeyDoor
open Go.ChangeShapes Go.WideShapes Go.ChangeAt Go.RowKit

theorem own : ownKnob Ybad.prog.godebug = none := by kernel_rfl
theorem laidOut : laidOutB Ybad.pinned.checked.prog = true := by kernel_rfl

theorem u8_bounds {t : Int} (h : (Lit.int .u8 t).wf = true) : 0 ≤ t ∧ t ≤ 255 := by
  have := h
  simp [Lit.wf, IntKind.min, IntKind.max, IntKind.signed, IntKind.bits] at this
  omega

theorem cells5 : Ybad.prog.cellsOf 5 = 1 := by kernel_rfl
theorem cells22 : Ybad.prog.cellsOf 22 = 32 := by kernel_rfl
theorem cells114 : Ybad.prog.cellsOf 114 = 2 := by kernel_rfl
theorem cells3 : Ybad.prog.cellsOf 3 = 1 := by kernel_rfl
theorem cells76 : Ybad.prog.cellsOf 76 = 1 := by kernel_rfl
theorem cells2 : Ybad.prog.cellsOf 2 = 1 := by kernel_rfl

/-- A byte's cell, as a byte. -/
def toB : Value → UInt8
  | .int _ n => UInt8.ofNat n.toNat
  | _ => 0

set_option maxRecDepth 100000 in
/-- A [32]byte argument. -/
theorem open_key {H : Type} {enc : TypeId × Value → H} {w : World} {base b0 : Nat} {spare : Nat → Bool} {held : Bool} {r : Reach} {v : Value} {d : DataW H} {ps : List MemPlace} (hval : Value.okWide Ybad.prog w r b0 22 v) (hd : DataW.Trod enc Ybad.prog w base spare held 22 v d ps) :
    ∃ k : List UInt8, k.length = 32 ∧ v = .agg (kcl k).toArray := by
  have hv : ∃ cs, v = .agg cs := by
    simp only [Value.okWide, Ybad.underlying22] at hval
    obtain ⟨cs, h1, _⟩ := hval
    exact ⟨cs, h1⟩
  obtain ⟨cs, rfl⟩ := hv
  obtain ⟨fuel, hf⟩ := hd
  obtain ⟨xs, m, -, -, hlen, hx, hi⟩ := DataW.trod_array Ybad.underlying22 hf
  rw [cells22] at hlen
  simp only [Value.cells] at hlen hi
  rw [cells5] at hi
  have hcs : cs.toList = kcl (cs.toList.map toB) := by
    refine List.ext_getElem (by simp [kcl]) fun i h1 h2 => ?_
    have hi32 : i < 32 := by omega
    have hlt : i < xs.length := by omega
    have hh := hi i hi32
    rw [Nat.mul_one, List.drop_eq_getElem_cons h1, List.take_succ_cons, List.take_zero, List.getElem?_eq_getElem hlt] at hh
    obtain ⟨n, hn, -, hw⟩ := DataW.trod_int Ybad.underlying5 hh
    obtain ⟨n0, n1⟩ := u8_bounds hw
    have he : cs.toList[i] = .int .u8 n := by simpa using hn
    have hb : ((toB (.int .u8 n)).toNat : Int) = n := by
      simp only [toB, UInt8.toNat_ofNat']
      omega
    have h3 : (kcl (cs.toList.map toB))[i] = .int .u8 ((toB (cs.toList[i])).toNat : Int) := by
      simp only [kcl, List.getElem_map, Extern.Stop.cell]
      rfl
    rw [h3, he, hb]
  refine ⟨cs.toList.map toB, by rw [List.length_map]; exact hlen, ?_⟩
  rw [← hcs, Array.toArray_toList]

theorem var_cell {w : World} {n : String} {g : Nat} {cs : Array Value} (hg : Ybad.prog.globalNamed n = some g) (h : w.var? Ybad.prog n = some cs) (j : Nat) {v : Value} (hv : cs[j]? = some v) : w.cell? ⟨g, j, none⟩ = some v := by
  unfold World.var? at h
  rw [hg] at h
  simp only [Option.bind_some] at h
  split at h
  · next cs' t fr e =>
    obtain rfl := Option.some.inj h
    simp [World.cell?, e, hv]
  · cases h

set_option maxRecDepth 100000 in
/-- probeIntake, read as data: two numbers. -/
theorem two_ints {H : Type} {enc : TypeId × Value → H} {w : World} {spare : Nat → Bool} {fuel : Nat} {cs : List Value} {x : DataW H × List MemPlace} (h : DataW.trod enc Ybad.prog w 0 spare true fuel 114 cs = some x) :
    ∃ a b, cs = [.int .i64 a, .int .i64 b] := by
  obtain ⟨xs, n, -, -, hlen, hx, hi⟩ := DataW.trod_struct Ybad.underlying114 h
  rw [cells114] at hlen
  match cs, hlen with
  | [a, b], _ =>
    have e1 : DataW.trod enc Ybad.prog w 0 spare true n 3 (([a, b].drop 0).take (Ybad.prog.cellsOf 3)) = xs[0]? := hi 0 _ rfl
    have e2 : DataW.trod enc Ybad.prog w 0 spare true n 76 (([a, b].drop 1).take (Ybad.prog.cellsOf 76)) = xs[1]? := hi 1 _ rfl
    have hx2 : xs.length = 2 := hx
    rw [List.getElem?_eq_getElem (by omega)] at e1 e2
    rw [cells3] at e1
    rw [cells76] at e2
    obtain ⟨p, hp, _⟩ := DataW.trod_int Ybad.underlying3 e1
    obtain ⟨q, hq, _⟩ := DataW.trod_int Ybad.underlying76 e2
    simp at hp hq
    exact ⟨p, q, by rw [hp, hq]⟩

set_option maxRecDepth 100000 in
theorem one_cell {H : Type} {enc : TypeId × Value → H} {w : World} {spare : Nat → Bool} {fuel : Nat} {cs : List Value} {x : DataW H × List MemPlace} (h : DataW.trod enc Ybad.prog w 0 spare true fuel 72 cs = some x) :
    ∃ a, cs = [a] := by
  cases fuel with
  | zero => simp [DataW.trod] at h
  | succ m =>
    unfold DataW.trod at h
    rw [Ybad.underlying72] at h
    split at h <;> simp_all

/-- The two variables' cells, probeIntake first. -/
theorem vars_pe {H : Type} {enc : TypeId × Value → H} {w : World} {spare : Nat → Bool} {n1 n2 : String} {gs : List (DataW H)} {q : List MemPlace} (h1 : Ybad.prog.globalNamed n1 = some 2) (h2 : Ybad.prog.globalNamed n2 = some 0) (t1 : (Ybad.prog.globals[2]?).map (·.type) = some 114) (t2 : (Ybad.prog.globals[0]?).map (·.type) = some 72)
    (h : DataW.TrodVars enc Ybad.prog w spare [n1, n2] gs q) : ∃ d1 d2, gs = [d1, d2] ∧ ∃ bu ev er, w.cell? ⟨2, 0, none⟩ = some (.int .i64 bu) ∧ w.cell? ⟨2, 1, none⟩ = some (.int .i64 ev) ∧ w.cell? ⟨0, 0, none⟩ = some er := by
  match gs, h with
  | d1 :: d2 :: gs', ⟨g, t, cs, fuel, p, q, e1, e2, e3, e4, ⟨g', t', cs', fuel', p', q', f1, f2, f3, f4, f5, _⟩, _⟩ =>
    obtain rfl : 2 = g := Option.some.inj (h1.symm.trans e1)
    obtain rfl : 0 = g' := Option.some.inj (h2.symm.trans f1)
    obtain rfl : 114 = t := Option.some.inj (t1.symm.trans e2)
    obtain rfl : 72 = t' := Option.some.inj (t2.symm.trans f2)
    obtain ⟨a, b, hab⟩ := two_ints e4
    obtain ⟨c, hc⟩ := one_cell f4
    have hg : gs' = [] := by
      cases gs' with
      | nil => rfl
      | cons _ _ => exact f5.elim
    subst hg
    refine ⟨d1, d2, rfl, a, b, c, var_cell e1 e3 0 ?_, var_cell e1 e3 1 ?_, var_cell f1 f3 0 ?_⟩
    · rw [← Array.getElem?_toList, hab]; rfl
    · rw [← Array.getElem?_toList, hab]; rfl
    · rw [← Array.getElem?_toList, hc]; rfl

theorem glob2 : (Ybad.prog.globals[2]?).map (·.type) = some 114 := by kernel_rfl
theorem glob0 : (Ybad.prog.globals[0]?).map (·.type) = some 72 := by kernel_rfl

/-- A law's argument for the witness: a key of zeroes. -/
def zeroKey : Value := .agg (Array.replicate 32 (.int .u8 0))
end Go.Proofs.YbulkdaeyDoor
