import Derived.Test.YbulkdaeyDoorSendsLaw
import Derived.Test.YbulkdaeyDoorSendsZero
/-
  LawS5081ASends: for every input.
-/
namespace Go.Proofs.YbulkdaeyDoor
open Go.RowKit

theorem sends_any (sk lo : List UInt8) (b : Bool) (hops md ps nn bu ev : Int) (er : Value) (w : World) (hk : sk.length = 32) (hlo : lo.length = 32) (h0 : 0 ≤ md) (h1 : md ≤ 255) (p0 : 0 ≤ ps) (p1 : ps ≤ 255)
    (g0 : w.cell? ⟨2, 0, none⟩ = some (.int .i64 bu)) (g1 : w.cell? ⟨2, 1, none⟩ = some (.int .i64 ev)) (ge : w.cell? ⟨0, 0, none⟩ = some er)
    (heq : ∀ w, (binOp .eql 72 er er).run Ybad.prog w = .ok (.bool true) w) (hgu : ∀ (x y : Operand) (w : World), (eqGuard .eql 72 x y er er).run Ybad.prog w = .ok () w) :
    Calls Ybad.prog 3 #[.agg (kcl sk).toArray, .agg (kcl lo).toArray, .bool b, .int .i64 hops, .int .u8 md, .int .u8 ps, .int .i64 nn] w fun e w' => e = .returned (.bool true) ∧ Below w.heap.size w w' := by
  by_cases hm : md % 8 = 0
  · exact sends_zero sk lo b hops md ps nn w hk hlo h0 h1 p0 p1 hm
  · exact sends_law sk lo b hops md ps nn bu ev er w hk hlo h0 h1 p0 p1 g0 g1 ge heq hgu hm
end Go.Proofs.YbulkdaeyDoor
